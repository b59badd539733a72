import JvmDerived
import JvmDerived.Pilot.@@N@@Statement
import JvmDerived.Pilot.@@N@@Code
set_option linter.unusedVariables false
set_option linter.unusedSimpArgs false
namespace Jvm.RoadKit
open Sem ClassFile Op Lib Jvm.Stand Jvm.Free Jvm.LawKit
section New
variable {p : Program} {l : Launch} {e : Env} {R : Room} {s : State} {m : MethodId} {args : Array Value} {below : List Frame} {meth : Method} {c : Code} {T : State} {locs : List Loc} {cells slots : Nat}
theorem retI (X : Stand p l e R s m args below meth c T locs cells slots) (hx : p.tables.exec = Jvm.exec) {pc : Nat} {Ls : Array Slot} {z : Int32} {rest : List Value} (hret : meth.sig.returnType = some .int) (hd : decode c.code pc = .ok (.ireturn, 1)) {fs : List Frame}
    (hl : ∀ (f : JFrame) (acts : List Action), f.method = m → f.locked = none → f.entered = [] → (doReturn e (T.setTop f) acts (some (.int z))).1 = T.setFrames fs) : Steps p.tables e below (T.setTop (mkF m pc Ls (.int z :: rest))) (T.setFrames fs) := by
  have hm' : T.vm.method? m = some meth := X.method'
  have hn : narrow .int (.int z) = .int z := rfl
  show Steps p.tables e below (T.setTop { method := m, pc := pc, locals := Ls, stack := _ :: rest, locked := none }) _
  jvm_step X.here [X.here.top, hx, hd, hm', hret, hn]
  first | (intro acts; rw [hl _ acts rfl rfl rfl]) | rw [hl _ _ rfl rfl rfl]
  exact Steps.refl _
end New
end Jvm.RoadKit
namespace Jvm.Pilot.@@N@@
open Jvm Jvm.ClassFile Sem Op Lib Jvm.Free Jvm.Stand Jvm.LawKit Jvm.RoadKit Bundle Jvm.Pilot.@@N@@.Jvm.D
/-- the run from here ends well -/
def own_Go (tb : Tables) (e : Env) (below : List Frame) (P : Outcome → State → Prop) (T : State) (f : JFrame) : Prop := ∃ s₂ o, Steps tb e below (T.setTop f) s₂ ∧ s₂.status = .running ∧ Ended s₂ below o ∧ P o s₂
theorem own_go {tb : Tables} {e : Env} {below : List Frame} {P : Outcome → State → Prop} {T T' : State} {f f' : JFrame} (k : ∀ t, Steps tb e below (T'.setTop f') t → Steps tb e below (T.setTop f) t) (h : own_Go tb e below P T' f') : own_Go tb e below P T f := by
  obtain ⟨s₂, o, h1, h2⟩ := h
  exact ⟨s₂, o, k _ h1, h2⟩
theorem own_keep1 {h0 h h' : Heap} {ws : List Addr} {b : Addr} (K : Keep h0 h ws) (K' : Keep h h' [b]) (q : h0.size ≤ b) : Keep h0 h' ws := K.trans K' fun x hx => Or.inr (by cases List.mem_singleton.mp hx; exact q)
theorem own_eqi {a b : Term} {args : Array Value} {first s : State} {o : Option Outcome} {idx : List Nat} {y : Int32} (h : (Jvm.Cond.eq a b).value args first o s idx = some true) (hb : b.eval args first o idx s = some (.int y)) : a.eval args first o idx s = some (.int y) := by
  cases ha : a.eval args first o idx s with
  | none => simp [Cond.value, ha] at h
  | some x => cases x <;> simp [Cond.value, ha, hb] at h; subst h; rfl
theorem own_not1 {a b : Addr} (q : a ≠ b) : a ∉ [b] := fun h => q (List.mem_singleton.mp h)
def own_PW (s : State) (Q : Option Value → Heap → List Loc → Prop) (k n : Nat) (o : Outcome) (U : State) : Prop := ∃ v L, o = .returned v ∧ Q v U.heap L ∧ ReturnedEndW s o U L k n
def own_P (s : State) (Q : Option Value → Heap → List Loc → Prop) (k n : Nat) (o : Outcome) (U : State) : Prop := ∃ v L, o = .returned v ∧ Q v U.heap L ∧ FrameEnd s o U L k n
/-- the array at a has n places; place k holds f k -/
def own_Av (Z : State) (h : Heap) (a : Addr) (ty : FieldType) (n : Nat) (f : Nat → Value) : Prop := ∃ c : Cell, Arr Z h a c ty ∧ c.slots.size = n ∧ ∀ k, k < n → c.slots[k]? = some (f k)
theorem own_Av.lt {Z : State} {h : Heap} {a : Addr} {ty : FieldType} {n : Nat} {f : Nat → Value} (F : own_Av Z h a ty n f) : a < h.size := by obtain ⟨c, A, -⟩ := F; exact A.lt
theorem own_Av.ext {Z : State} {h h' : Heap} {a : Addr} {ty : FieldType} {n : Nat} {f : Nat → Value} (F : own_Av Z h a ty n f) (E : Ext h h') : own_Av Z h' a ty n f := by obtain ⟨c, A, r⟩ := F; exact ⟨c, A.ext E, r⟩
theorem own_Av.other {Z : State} {h h' : Heap} {a b : Addr} {ty : FieldType} {n sl : Nat} {v : Value} {f : Nat → Value} (F : own_Av Z h b ty n f) (W : Wr h h' a sl v) (q : b ≠ a) : own_Av Z h' b ty n f := by obtain ⟨c, A, r⟩ := F; exact ⟨c, A.other W q, r⟩
theorem own_Av.keep {Z : State} {h h' : Heap} {a : Addr} {ty : FieldType} {n : Nat} {ws : List Addr} {f : Nat → Value} (F : own_Av Z h a ty n f) (K : Keep h h' ws) (q : a ∉ ws) : own_Av Z h' a ty n f := by obtain ⟨c, A, r⟩ := F; exact ⟨c, ⟨K.2.1 a c A.1 q, A.2⟩, r⟩
theorem own_Av.new {Z : State} {h : Heap} {a : Addr} {ty : FieldType} {k : ClassId} {z : Int32} {n : Nat} (A : Arr Z h a (newA k ty z) ty) (hz : z.toNatClampNeg = n) : own_Av Z h a ty n (fun _ => defaultValue ty) := by
  refine ⟨_, A, (sz_new _ _ _).trans hz, fun i hi => ?_⟩
  subst hz
  simp [newA, hi]
theorem own_Av.set {Z : State} {h h' : Heap} {a : Addr} {ty : FieldType} {n i j : Nat} {v : Value} {f : Nat → Value} (F : own_Av Z h a ty n f) (W : Wr h h' a j v) (hj : j = i) : own_Av Z h' a ty n (fun k => if k = i then v else f k) := by
  subst hj
  obtain ⟨c, A, S, G⟩ := F
  have hlt : j < c.slots.size := by
    obtain ⟨cell, h1, h2, h3, -⟩ := W
    cases A.1.symm.trans h1; exact h3
  refine ⟨_, A.same W, (sz_set _ _ _).trans S, fun k hk => ?_⟩
  by_cases q : k = j
  · subst q; simp [Cell.setSlot, hlt]
  · show (c.setSlot j v).slots[k]? = some (if k = j then v else f k)
    rw [if_neg q, ← G k hk]; simp [Cell.setSlot, Array.getElem?_setIfInBounds, Ne.symm q]
theorem own_Av.eq {Z : State} {h : Heap} {a : Addr} {ty : FieldType} {n : Nat} {f g : Nat → Value} (F : own_Av Z h a ty n f) (q : ∀ k, k < n → f k = g k) : own_Av Z h a ty n g := by
  obtain ⟨c, A, S, G⟩ := F
  exact ⟨c, A, S, fun k hk => by rw [G k hk, q k hk]⟩
theorem own_inb {c : Cell} {n i : Nat} {j : Int32} (S : c.slots.size = n) (hj : ¬ j < 0 ∧ j.toNatClampNeg = i) (hi : i < n) : ¬ (j < 0 ∨ c.slots.size ≤ j.toNatClampNeg) := by
  rw [S, hj.2]
  exact fun q => q.elim hj.1 (Nat.not_le.mpr hi)
theorem own_at {c : Cell} {n i : Nat} {j : Int32} {f : Nat → Value} {v : Value} (G : ∀ k, k < n → c.slots[k]? = some (f k)) (hj : ¬ j < 0 ∧ j.toNatClampNeg = i) (hi : i < n) (hv : f i = v) : c.slots[j.toNatClampNeg]? = some v := by
  rw [hj.2, G i hi, hv]
theorem own_nat {i : Nat} (h : i < 2 ^ 31) : ¬ Int32.ofNat i < 0 ∧ (Int32.ofNat i).toNatClampNeg = i := by
  have e : (Int32.ofNat i).toInt = i := Int32.toInt_ofNat_of_lt h
  refine ⟨?_, ?_⟩
  · rw [Int32.lt_iff_toInt_lt, e, Int32.toInt_zero]; omega
  · show (Int32.ofNat i).toInt.toNat = i
    rw [e]; rfl
theorem own_low (x : Int32) : ∃ j, j < 16 ∧ x &&& 15 = Int32.ofNat j := by
  refine ⟨(x &&& 15).toBitVec.toNat, ?_, ?_⟩
  · rw [Int32.toBitVec_and, BitVec.toNat_and]
    exact Nat.lt_of_le_of_lt Nat.and_le_right (by decide)
  · apply Int32.toBitVec_inj.mp
    show _ = BitVec.ofNat 32 _
    rw [BitVec.ofNat_toNat, BitVec.setWidth_eq]
theorem own_ltn {i j : Nat} (hi : i < 2 ^ 31) (hj : j < 2 ^ 31) : Int32.ofNat i < Int32.ofNat j ↔ i < j := by
  rw [Int32.lt_iff_toInt_lt, Int32.toInt_ofNat_of_lt hi, Int32.toInt_ofNat_of_lt hj]; omega
theorem own_pred {j : Nat} (h : 0 < j) (hj : j < 2 ^ 31) : Int32.ofNat j - 1 = Int32.ofNat (j - 1) := by
  apply Int32.toInt_inj.mp
  rw [Int32.toInt_sub, Int32.toInt_ofNat_of_lt hj, Int32.toInt_ofNat_of_lt (by omega), show (1 : Int32).toInt = 1 from by decide, Int.bmod_eq_of_le] <;> omega
theorem own_succ (i : Nat) : Int32.ofNat i + 1 = Int32.ofNat (i + 1) := by
  apply Int32.toBitVec_inj.mp
  show BitVec.ofNat 32 i + BitVec.ofNat 32 1 = BitVec.ofNat 32 (i + 1)
  rw [BitVec.ofNat_add_ofNat]
theorem own_ofNat_inj {i j : Nat} (hi : i < 2 ^ 31) (hj : j < 2 ^ 31) : Int32.ofNat i = Int32.ofNat j ↔ i = j := by
  rw [← Int32.toInt_inj, Int32.toInt_ofNat_of_lt hi, Int32.toInt_ofNat_of_lt hj]; omega
theorem own_b8 (x : Int32) : x.toInt8.toInt32.toInt8.toInt32 = x.toInt8.toInt32 := by simp
theorem own_sar (x : Int32) : (x >>> ((4 : Int32) &&& 31)).toInt = x.toInt / 16 := by
  have : (x >>> ((4 : Int32) &&& 31)).toBitVec = x.toBitVec.sshiftRight 4 := rfl
  show (x >>> ((4 : Int32) &&& 31)).toBitVec.toInt = _
  rw [this, BitVec.toInt_sshiftRight, Int.shiftRight_eq_div_pow]; rfl
def own_isint (w : Int32) : Int32 := if w < 16 then 0 else if 31 < w then 0 else 1
theorem own_isint1 {x : Int32} (h : (x >>> ((4 : Int32) &&& 31)) = 1) : own_isint x = 1 := by
  have e := own_sar x
  rw [h, show (1 : Int32).toInt = 1 from by decide] at e
  unfold own_isint
  rw [if_neg (by rw [Int32.lt_iff_toInt_lt, show (16 : Int32).toInt = 16 from by decide]; omega), if_neg (by rw [Int32.lt_iff_toInt_lt, show (31 : Int32).toInt = 31 from by decide]; omega)]
theorem own_isint0 {x : Int32} (h : ¬ (x >>> ((4 : Int32) &&& 31)) = 1) : own_isint x = 0 := by
  have e := own_sar x
  unfold own_isint
  by_cases a : x < 16
  · rw [if_pos a]
  · rw [if_neg a]
    by_cases b : 31 < x
    · rw [if_pos b]
    · rw [Int32.lt_iff_toInt_lt, show (16 : Int32).toInt = 16 from by decide] at a
      rw [Int32.lt_iff_toInt_lt, show (31 : Int32).toInt = 31 from by decide] at b
      exact absurd (Int32.toInt_inj.mp (by rw [e, show (1 : Int32).toInt = 1 from by decide]; omega)) h
theorem own_mask255 (x : Int32) : ¬ (255 : Int32) < (x &&& 255) := by
  have h1 : (x &&& 255).toBitVec.toNat ≤ (255 : Int32).toBitVec.toNat := by rw [Int32.toBitVec_and, BitVec.toNat_and]; exact Nat.and_le_right
  have e2 : (255 : Int32).toBitVec.toNat = 255 := by decide
  have e1 : (x &&& 255).toInt = (x &&& 255).toBitVec.toNat := BitVec.toInt_eq_toNat_of_lt (by omega)
  rw [Int32.lt_iff_toInt_lt, e1, show (255 : Int32).toInt = 255 from by decide]; omega
theorem d2_0 : decode jdk_30_method_1_code 0 = .ok (.aload_n 0, 1) := by decide +kernel
theorem d2_1 : decode jdk_30_method_1_code 1 = .ok (.invokespecial 1, 3) := by decide +kernel
theorem d2_4 : decode jdk_30_method_1_code 4 = .ok (.return_, 1) := by decide +kernel
theorem pn_0 : plainName "java/lang/Record" = true := by first | (simp [plainName, overriddenIn]; done) | decide +kernel
theorem ef_2 (m : MethodId) {a1 : Addr} : entryFrame m #[(.ref a1)] 1 = mkF m 0 #[.val (.ref a1)] [] := by first | (simp [entryFrame, mkF, argsToLocals, Value.category]; done) | rfl
def Q2 (Z : State) (a1 : Addr) (h0 : Heap) (n0 : Nat) (v : Option Value) (h : Heap) (L : List Loc) : Prop := v = none ∧ Fr n0 L ∧ h = h0
set_option maxRecDepth 65536 in
set_option maxHeartbeats 40000000 in
theorem rm2 (l : Launch) (Z : State) (a0 : Array Value) (hw : ∀ d ∈ tables_1, d.before a0 Z = true) (ws : List Jvm.Cond) (a1 : Addr) (h0 : Heap) (n0 : Nat) (Z0 : n0 ≤ h0.size) :
    MetFree l (⟨"java/lang/Record", "<init>", "()V"⟩ : MethodName) (head1 (Jvm.Cond.code (⟨"java/lang/Record", "<init>", "()V"⟩ : MethodName) jdk_30_method_1_code 1 none :: ws) ({ frames := 1, cells := 0, slots := 0, locals := 12 } : Room)) (fun a U => a = #[(.ref a1)] ∧ Z.Warmed39 U.vm ∧ U.heap = h0) (fun _ _ _ _ _ => True) (fun _ U o U' => ∃ v L, o = .returned v ∧ Q2 Z a1 h0 n0 v U'.heap L ∧ FrameEnd U o U' L (({ frames := 1, cells := 0, slots := 0, locals := 12 } : Room)).cells (({ frames := 1, cells := 0, slots := 0, locals := 12 } : Room)).slots) := by
  refine MetFree.of_bodySF (plainFor_of_name pn_0) hisR ?_
  intro p e s m args below meth c s₁ Bd hml0 hP hK
  obtain ⟨rfl, hZ, hh⟩ := hP
  have hx := Bd.exec
  have hby := Bd.bytes
  have hml : c.maxLocals = 1 := hml0
  have hown : s.vm.findClass "java/lang/Record" = some m.cls := findClass_of_methodNamed Bd.named
  have hnm := (name_of_methodNamed Bd.named Bd.method).1
  have X0 : Stand p l e ({ frames := 1, cells := 0, slots := 0, locals := 12 } : Room) s m #[(.ref a1)] below meth c s₁ [] 0 0 := Stand.of_body Bd
  have e0 : s₁.heap = h0 := by rw [← hh, Bd.state]; rfl
  have N0 := Fr.nil n0
  show own_Go p.tables e below (own_P s (Q2 Z a1 h0 n0) ({ frames := 1, cells := 0, slots := 0, locals := 12 } : Room).cells ({ frames := 1, cells := 0, slots := 0, locals := 12 } : Room).slots) s₁ _
  rw [ef_2]
  show own_Go p.tables e below _ s₁ (mkF m 0 #[.val (.ref a1)] [])
  refine own_go (fun tz kz => XS.aloadN X0.here hx rfl (hb hby d2_0) rfl rfl kz) ?_
  show own_Go p.tables e below _ s₁ (mkF m 1 #[.val (.ref a1)] [(.ref a1)])
  obtain ⟨T1, X1, e1, st1⟩ := initO X0 hx hZ hown (hw _ (List.mem_of_getElem? (i := 11) rfl)) (hw _ (List.mem_of_getElem? (i := 12) rfl)) (hw _ (List.mem_of_getElem? (i := 13) rfl)) e0 (g := (mkF m 1 #[.val (.ref a1)] [(.ref a1)])) rfl (by rw [hml]; rfl) rfl (hb hby d2_1) (by decide) (W := 0) (by show 2 * 0 + _ ≤ _; exact Nat.le_of_eq rfl) (by decide)
  refine own_go st1 ?_
  show own_Go p.tables e below _ T1 (mkF m 4 #[.val (.ref a1)] [])
  obtain ⟨fs, hr, hrun, hended, hW, hsame⟩ := X1.leave (v := none) (fun _ => rfl)
  refine ⟨_, _, ?_, hrun, hended, _, _, rfl, ?_, ⟨_, rfl⟩, hW, hsame.mono (by decide) (by decide)⟩
  · exact X1.returnOut hx Bd.returns (hb hby d2_4) hr
  · show Q2 Z a1 h0 n0 _ T1.heap _
    rw [e1]
    exact ⟨rfl, N0, rfl⟩
theorem d1_0 : decode prog_25_method_1_code 0 = .ok (.aload_n 0, 1) := by decide +kernel
theorem d1_1 : decode prog_25_method_1_code 1 = .ok (.invokespecial 1, 3) := by decide +kernel
theorem d1_4 : decode prog_25_method_1_code 4 = .ok (.aload_n 0, 1) := by decide +kernel
theorem d1_5 : decode prog_25_method_1_code 5 = .ok (.iload_n 1, 1) := by decide +kernel
theorem d1_6 : decode prog_25_method_1_code 6 = .ok (.putfield 7, 3) := by decide +kernel
theorem d1_9 : decode prog_25_method_1_code 9 = .ok (.aload_n 0, 1) := by decide +kernel
theorem d1_10 : decode prog_25_method_1_code 10 = .ok (.iload_n 2, 1) := by decide +kernel
theorem d1_11 : decode prog_25_method_1_code 11 = .ok (.putfield 13, 3) := by decide +kernel
theorem d1_14 : decode prog_25_method_1_code 14 = .ok (.aload_n 0, 1) := by decide +kernel
theorem d1_15 : decode prog_25_method_1_code 15 = .ok (.aload_n 3, 1) := by decide +kernel
theorem d1_16 : decode prog_25_method_1_code 16 = .ok (.putfield 16, 3) := by decide +kernel
theorem d1_19 : decode prog_25_method_1_code 19 = .ok (.return_, 1) := by decide +kernel
theorem pd_0 : parseMethodDescriptor "()V" = some ⟨[], none⟩ := by decide +kernel
theorem pn_1 : plainName "dexterous/io/TypedValue" = true := by first | (simp [plainName, overriddenIn]; done) | decide +kernel
theorem ef_1n (m : MethodId) {a1 : Addr} {p2 : Int32} {p3 : Int32} : entryFrame m #[(.ref a1), (.int p2), (.int p3), .null] 4 = mkF m 0 #[.val (.ref a1), .val (.int p2), .val (.int p3), .val .null] [] := by first | (simp [entryFrame, mkF, argsToLocals, Value.category]; done) | rfl
def Q1n (Z : State) (a1 : Addr) (p2 : Int32) (p3 : Int32) (u_type : Value) (u_data : Value) (u_string : Value) (h0 : Heap) (n0 : Nat) (v : Option Value) (h : Heap) (L : List Loc) : Prop := v = none ∧ Fr n0 L ∧ Keep h0 h [a1] ∧ Exa Z h a1 "dexterous/io/TypedValue" ∧ Fld Z h a1 "dexterous/io/TypedValue" "type" "I" (.int p2) ∧ Fld Z h a1 "dexterous/io/TypedValue" "data" "I" (.int p3) ∧ Fld Z h a1 "dexterous/io/TypedValue" "string" "Ljava/lang/String;" .null
set_option maxRecDepth 65536 in
set_option maxHeartbeats 40000000 in
theorem rm1n (l : Launch) (Z : State) (a0 : Array Value) (hw : ∀ d ∈ tables_1, d.before a0 Z = true) (ws : List Jvm.Cond) (a1 : Addr) (p2 : Int32) (p3 : Int32) (u_type : Value) (u_data : Value) (u_string : Value) (h0 : Heap) (n0 : Nat) (Z0 : n0 ≤ h0.size) (F_type : Fld Z h0 a1 "dexterous/io/TypedValue" "type" "I" u_type) (F_data : Fld Z h0 a1 "dexterous/io/TypedValue" "data" "I" u_data) (F_string : Fld Z h0 a1 "dexterous/io/TypedValue" "string" "Ljava/lang/String;" u_string) (Ex : Exa Z h0 a1 "dexterous/io/TypedValue") (g : n0 ≤ a1) :
    MetFree l (⟨"dexterous/io/TypedValue", "<init>", "(IILjava/lang/String;)V"⟩ : MethodName) (head1 (Jvm.Cond.code (⟨"dexterous/io/TypedValue", "<init>", "(IILjava/lang/String;)V"⟩ : MethodName) prog_25_method_1_code 4 none :: ws) ({ frames := 2, cells := 0, slots := 0, locals := 24 } : Room)) (fun a U => a = #[(.ref a1), (.int p2), (.int p3), .null] ∧ Z.Warmed39 U.vm ∧ U.heap = h0) (fun _ _ _ _ _ => True) (fun _ U o U' => ∃ v L, o = .returned v ∧ Q1n Z a1 p2 p3 u_type u_data u_string h0 n0 v U'.heap L ∧ FrameEnd U o U' L (({ frames := 2, cells := 0, slots := 0, locals := 24 } : Room)).cells (({ frames := 2, cells := 0, slots := 0, locals := 24 } : Room)).slots) := by
  refine MetFree.of_bodySF (plainFor_of_name pn_1) hisR ?_
  intro p e s m args below meth c s₁ Bd hml0 hP hK
  obtain ⟨rfl, hZ, hh⟩ := hP
  have hx := Bd.exec
  have hby := Bd.bytes
  have hml : c.maxLocals = 4 := hml0
  have hown : s.vm.findClass "dexterous/io/TypedValue" = some m.cls := findClass_of_methodNamed Bd.named
  have hnm := (name_of_methodNamed Bd.named Bd.method).1
  have X0 : Stand p l e ({ frames := 2, cells := 0, slots := 0, locals := 24 } : Room) s m #[(.ref a1), (.int p2), (.int p3), .null] below meth c s₁ [] 0 0 := Stand.of_body Bd
  have e0 : s₁.heap = h0 := by rw [← hh, Bd.state]; rfl
  have N0 := Fr.nil n0
  show own_Go p.tables e below (own_P s (Q1n Z a1 p2 p3 u_type u_data u_string h0 n0) ({ frames := 2, cells := 0, slots := 0, locals := 24 } : Room).cells ({ frames := 2, cells := 0, slots := 0, locals := 24 } : Room).slots) s₁ _
  rw [ef_1n]
  show own_Go p.tables e below _ s₁ (mkF m 0 #[.val (.ref a1), .val (.int p2), .val (.int p3), .val .null] [])
  refine own_go (fun tz kz => XS.aloadN X0.here hx rfl (hb hby d1_0) rfl rfl kz) ?_
  show own_Go p.tables e below _ s₁ (mkF m 1 #[.val (.ref a1), .val (.int p2), .val (.int p3), .val .null] [(.ref a1)])
  obtain ⟨_, _, ⟨T1, L1, k1, n1⟩, -, X1, ⟨Lc1, hQ1, l1, y1, z1⟩, st1⟩ := X0.specialBack hx (y := (⟨"java/lang/Record", "<init>", "()V"⟩ : MethodName)) rfl hown (mvT hZ (hw _ (List.mem_of_getElem? (i := 6) rfl))) (mvT hZ (hw _ (List.mem_of_getElem? (i := 7) rfl))) (mvT hZ (hw _ (List.mem_of_getElem? (i := 10) rfl))) (by decide) (backOf (W := 0) (rm2 l Z a0 hw [] a1 h0 n0 Z0) hZ (hw _ (List.mem_of_getElem? (i := 10) rfl)) (hw _ (List.mem_of_getElem? (i := 9) rfl)) (by decide) (by decide)) (g := (mkF m 1 #[.val (.ref a1), .val (.int p2), .val (.int p3), .val .null] [(.ref a1)])) rfl (by rw [hml]; rfl) (Steps.refl _) (a := a1) (argsL := []) (rest := []) (lenOf pd_0 rfl) rfl (by show 2 * 0 + _ ≤ _; exact Nat.le_of_eq rfl) (hb hby d1_1) (fun _ _ => ⟨rfl, e0, (by decide : 0 + 0 ≤ _), (by decide : 0 + 0 ≤ _)⟩)
  dsimp only [Pt.U, Pt.locs, Pt.cells, Pt.slots] at X1 l1 y1 z1 st1 hQ1
  subst l1 y1 z1
  obtain ⟨rfl, N1q, e1⟩ := hQ1
  have N1 := Fr.app N0 N1q
  refine own_go (fun tz kz => st1.trans kz) ?_
  show own_Go p.tables e below _ T1 (mkF m 4 #[.val (.ref a1), .val (.int p2), .val (.int p3), .val .null] [])
  refine own_go (fun tz kz => XS.aloadN X1.here hx rfl (hb hby d1_4) rfl rfl kz) ?_
  show own_Go p.tables e below _ T1 (mkF m 5 #[.val (.ref a1), .val (.int p2), .val (.int p3), .val .null] [(.ref a1)])
  refine own_go (fun tz kz => XS.iloadN X1.here hx rfl (hb hby d1_5) rfl kz) ?_
  show own_Go p.tables e below _ T1 (mkF m 6 #[.val (.ref a1), .val (.int p2), .val (.int p3), .val .null] [(.int p2), (.ref a1)])
  obtain ⟨T2, h2, X2, e2, W2, st2⟩ := putF X1 hx hZ hown (host := "") (Or.inl (hw _ (List.mem_of_getElem? (i := 14) rfl))) Via.refl e1 F_type Ex (Or.inr ⟨(hw _ (List.mem_of_getElem? (i := 15) rfl)), rfl, hnm⟩) (hw _ (List.mem_of_getElem? (i := 1) rfl)) (ty := .int) (by decide) rfl rfl (g := (mkF m 6 #[.val (.ref a1), .val (.int p2), .val (.int p3), .val .null] [(.int p2), (.ref a1)])) rfl rfl (hb hby d1_6)
  have Fw2 := F_type.same W2
  have N2 := Fr.snoc X2 N1 g
  refine own_go st2 ?_
  show own_Go p.tables e below _ T2 (mkF m 9 #[.val (.ref a1), .val (.int p2), .val (.int p3), .val .null] [])
  refine own_go (fun tz kz => XS.aloadN X2.here hx rfl (hb hby d1_9) rfl rfl kz) ?_
  show own_Go p.tables e below _ T2 (mkF m 10 #[.val (.ref a1), .val (.int p2), .val (.int p3), .val .null] [(.ref a1)])
  refine own_go (fun tz kz => XS.iloadN X2.here hx rfl (hb hby d1_10) rfl kz) ?_
  show own_Go p.tables e below _ T2 (mkF m 11 #[.val (.ref a1), .val (.int p2), .val (.int p3), .val .null] [(.int p3), (.ref a1)])
  obtain ⟨T3, h3, X3, e3, W3, st3⟩ := putF X2 hx hZ hown (host := "") (Or.inl (hw _ (List.mem_of_getElem? (i := 16) rfl))) Via.refl e2 (F_data.other W2 (Or.inr (slot_ne (Or.inr (hw _ (List.mem_of_getElem? (i := 17) rfl))) (Or.inr (hw _ (List.mem_of_getElem? (i := 15) rfl))) (by decide) (t := .int) (t' := .int) (by decide) (by decide)))) (Ex.wr W2) (Or.inr ⟨(hw _ (List.mem_of_getElem? (i := 17) rfl)), rfl, hnm⟩) (hw _ (List.mem_of_getElem? (i := 1) rfl)) (ty := .int) (by decide) rfl rfl (g := (mkF m 11 #[.val (.ref a1), .val (.int p2), .val (.int p3), .val .null] [(.int p3), (.ref a1)])) rfl rfl (hb hby d1_11)
  have Fw3 := (F_data.other W2 (Or.inr (slot_ne (Or.inr (hw _ (List.mem_of_getElem? (i := 17) rfl))) (Or.inr (hw _ (List.mem_of_getElem? (i := 15) rfl))) (by decide) (t := .int) (t' := .int) (by decide) (by decide)))).same W3
  have N3 := Fr.snoc X3 N2 g
  refine own_go st3 ?_
  show own_Go p.tables e below _ T3 (mkF m 14 #[.val (.ref a1), .val (.int p2), .val (.int p3), .val .null] [])
  refine own_go (fun tz kz => XS.aloadN X3.here hx rfl (hb hby d1_14) rfl rfl kz) ?_
  show own_Go p.tables e below _ T3 (mkF m 15 #[.val (.ref a1), .val (.int p2), .val (.int p3), .val .null] [(.ref a1)])
  refine own_go (fun tz kz => XS.aloadN X3.here hx rfl (hb hby d1_15) rfl rfl kz) ?_
  show own_Go p.tables e below _ T3 (mkF m 16 #[.val (.ref a1), .val (.int p2), .val (.int p3), .val .null] [.null, (.ref a1)])
  obtain ⟨T4, h4, X4, e4, W4, st4⟩ := putF X3 hx hZ hown (host := "") (Or.inl (hw _ (List.mem_of_getElem? (i := 18) rfl))) Via.refl e3 ((F_string.other W2 (Or.inr (slot_ne (Or.inr (hw _ (List.mem_of_getElem? (i := 19) rfl))) (Or.inr (hw _ (List.mem_of_getElem? (i := 15) rfl))) (by decide) (t := (.object "java/lang/String")) (t' := .int) (by decide) (by decide)))).other W3 (Or.inr (slot_ne (Or.inr (hw _ (List.mem_of_getElem? (i := 19) rfl))) (Or.inr (hw _ (List.mem_of_getElem? (i := 17) rfl))) (by decide) (t := (.object "java/lang/String")) (t' := .int) (by decide) (by decide)))) ((Ex.wr W2).wr W3) (Or.inr ⟨(hw _ (List.mem_of_getElem? (i := 19) rfl)), rfl, hnm⟩) (hw _ (List.mem_of_getElem? (i := 1) rfl)) (ty := (.object "java/lang/String")) (by decide) rfl rfl (g := (mkF m 16 #[.val (.ref a1), .val (.int p2), .val (.int p3), .val .null] [.null, (.ref a1)])) rfl rfl (hb hby d1_16)
  have Fw4 := ((F_string.other W2 (Or.inr (slot_ne (Or.inr (hw _ (List.mem_of_getElem? (i := 19) rfl))) (Or.inr (hw _ (List.mem_of_getElem? (i := 15) rfl))) (by decide) (t := (.object "java/lang/String")) (t' := .int) (by decide) (by decide)))).other W3 (Or.inr (slot_ne (Or.inr (hw _ (List.mem_of_getElem? (i := 19) rfl))) (Or.inr (hw _ (List.mem_of_getElem? (i := 17) rfl))) (by decide) (t := (.object "java/lang/String")) (t' := .int) (by decide) (by decide)))).same W4
  have N4 := Fr.snoc X4 N3 g
  refine own_go st4 ?_
  show own_Go p.tables e below _ T4 (mkF m 19 #[.val (.ref a1), .val (.int p2), .val (.int p3), .val .null] [])
  obtain ⟨fs, hr, hrun, hended, hW, hsame⟩ := X4.leave (v := none) (fun _ => rfl)
  refine ⟨_, _, ?_, hrun, hended, _, _, rfl, ?_, ⟨_, rfl⟩, hW, hsame.mono (by decide) (by decide)⟩
  · exact X4.returnOut hx Bd.returns (hb hby d1_19) hr
  · show Q1n Z a1 p2 p3 u_type u_data u_string h0 n0 _ T4.heap _
    rw [e4]
    exact ⟨rfl, N4, ((((Keep.refl _ _).wr W2 (Or.inl (List.mem_of_getElem? (i := 0) rfl))).wr W3 (Or.inl (List.mem_of_getElem? (i := 0) rfl))).wr W4 (Or.inl (List.mem_of_getElem? (i := 0) rfl))), (((Ex.wr W2).wr W3).wr W4), ((Fw2.other W3 (Or.inr (slot_ne (Or.inr (hw _ (List.mem_of_getElem? (i := 15) rfl))) (Or.inr (hw _ (List.mem_of_getElem? (i := 17) rfl))) (by decide) (t := .int) (t' := .int) (by decide) (by decide)))).other W4 (Or.inr (slot_ne (Or.inr (hw _ (List.mem_of_getElem? (i := 15) rfl))) (Or.inr (hw _ (List.mem_of_getElem? (i := 19) rfl))) (by decide) (t := .int) (t' := (.object "java/lang/String")) (by decide) (by decide)))), (Fw3.other W4 (Or.inr (slot_ne (Or.inr (hw _ (List.mem_of_getElem? (i := 17) rfl))) (Or.inr (hw _ (List.mem_of_getElem? (i := 19) rfl))) (by decide) (t := .int) (t' := (.object "java/lang/String")) (by decide) (by decide)))), Fw4⟩
theorem ef_1r (m : MethodId) {a1 : Addr} {p2 : Int32} {p3 : Int32} {a4 : Addr} : entryFrame m #[(.ref a1), (.int p2), (.int p3), (.ref a4)] 4 = mkF m 0 #[.val (.ref a1), .val (.int p2), .val (.int p3), .val (.ref a4)] [] := by first | (simp [entryFrame, mkF, argsToLocals, Value.category]; done) | rfl
def Q1r (Z : State) (a1 : Addr) (p2 : Int32) (p3 : Int32) (a4 : Addr) (u_type : Value) (u_data : Value) (u_string : Value) (h0 : Heap) (n0 : Nat) (v : Option Value) (h : Heap) (L : List Loc) : Prop := v = none ∧ Fr n0 L ∧ Keep h0 h [a1] ∧ Exa Z h a1 "dexterous/io/TypedValue" ∧ Fld Z h a1 "dexterous/io/TypedValue" "type" "I" (.int p2) ∧ Fld Z h a1 "dexterous/io/TypedValue" "data" "I" (.int p3) ∧ Fld Z h a1 "dexterous/io/TypedValue" "string" "Ljava/lang/String;" (.ref a4)
set_option maxRecDepth 65536 in
set_option maxHeartbeats 40000000 in
theorem rm1r (l : Launch) (Z : State) (a0 : Array Value) (hw : ∀ d ∈ tables_1, d.before a0 Z = true) (ws : List Jvm.Cond) (a1 : Addr) (p2 : Int32) (p3 : Int32) (a4 : Addr) (u_type : Value) (u_data : Value) (u_string : Value) (h0 : Heap) (n0 : Nat) (Z0 : n0 ≤ h0.size) (F_type : Fld Z h0 a1 "dexterous/io/TypedValue" "type" "I" u_type) (F_data : Fld Z h0 a1 "dexterous/io/TypedValue" "data" "I" u_data) (F_string : Fld Z h0 a1 "dexterous/io/TypedValue" "string" "Ljava/lang/String;" u_string) (Ex : Exa Z h0 a1 "dexterous/io/TypedValue") (g : n0 ≤ a1) :
    MetFree l (⟨"dexterous/io/TypedValue", "<init>", "(IILjava/lang/String;)V"⟩ : MethodName) (head1 (Jvm.Cond.code (⟨"dexterous/io/TypedValue", "<init>", "(IILjava/lang/String;)V"⟩ : MethodName) prog_25_method_1_code 4 none :: ws) ({ frames := 2, cells := 0, slots := 0, locals := 24 } : Room)) (fun a U => a = #[(.ref a1), (.int p2), (.int p3), (.ref a4)] ∧ Z.Warmed39 U.vm ∧ U.heap = h0) (fun _ _ _ _ _ => True) (fun _ U o U' => ∃ v L, o = .returned v ∧ Q1r Z a1 p2 p3 a4 u_type u_data u_string h0 n0 v U'.heap L ∧ FrameEnd U o U' L (({ frames := 2, cells := 0, slots := 0, locals := 24 } : Room)).cells (({ frames := 2, cells := 0, slots := 0, locals := 24 } : Room)).slots) := by
  refine MetFree.of_bodySF (plainFor_of_name pn_1) hisR ?_
  intro p e s m args below meth c s₁ Bd hml0 hP hK
  obtain ⟨rfl, hZ, hh⟩ := hP
  have hx := Bd.exec
  have hby := Bd.bytes
  have hml : c.maxLocals = 4 := hml0
  have hown : s.vm.findClass "dexterous/io/TypedValue" = some m.cls := findClass_of_methodNamed Bd.named
  have hnm := (name_of_methodNamed Bd.named Bd.method).1
  have X0 : Stand p l e ({ frames := 2, cells := 0, slots := 0, locals := 24 } : Room) s m #[(.ref a1), (.int p2), (.int p3), (.ref a4)] below meth c s₁ [] 0 0 := Stand.of_body Bd
  have e0 : s₁.heap = h0 := by rw [← hh, Bd.state]; rfl
  have N0 := Fr.nil n0
  show own_Go p.tables e below (own_P s (Q1r Z a1 p2 p3 a4 u_type u_data u_string h0 n0) ({ frames := 2, cells := 0, slots := 0, locals := 24 } : Room).cells ({ frames := 2, cells := 0, slots := 0, locals := 24 } : Room).slots) s₁ _
  rw [ef_1r]
  show own_Go p.tables e below _ s₁ (mkF m 0 #[.val (.ref a1), .val (.int p2), .val (.int p3), .val (.ref a4)] [])
  refine own_go (fun tz kz => XS.aloadN X0.here hx rfl (hb hby d1_0) rfl rfl kz) ?_
  show own_Go p.tables e below _ s₁ (mkF m 1 #[.val (.ref a1), .val (.int p2), .val (.int p3), .val (.ref a4)] [(.ref a1)])
  obtain ⟨_, _, ⟨T1, L1, k1, n1⟩, -, X1, ⟨Lc1, hQ1, l1, y1, z1⟩, st1⟩ := X0.specialBack hx (y := (⟨"java/lang/Record", "<init>", "()V"⟩ : MethodName)) rfl hown (mvT hZ (hw _ (List.mem_of_getElem? (i := 6) rfl))) (mvT hZ (hw _ (List.mem_of_getElem? (i := 7) rfl))) (mvT hZ (hw _ (List.mem_of_getElem? (i := 10) rfl))) (by decide) (backOf (W := 0) (rm2 l Z a0 hw [] a1 h0 n0 Z0) hZ (hw _ (List.mem_of_getElem? (i := 10) rfl)) (hw _ (List.mem_of_getElem? (i := 9) rfl)) (by decide) (by decide)) (g := (mkF m 1 #[.val (.ref a1), .val (.int p2), .val (.int p3), .val (.ref a4)] [(.ref a1)])) rfl (by rw [hml]; rfl) (Steps.refl _) (a := a1) (argsL := []) (rest := []) (lenOf pd_0 rfl) rfl (by show 2 * 0 + _ ≤ _; exact Nat.le_of_eq rfl) (hb hby d1_1) (fun _ _ => ⟨rfl, e0, (by decide : 0 + 0 ≤ _), (by decide : 0 + 0 ≤ _)⟩)
  dsimp only [Pt.U, Pt.locs, Pt.cells, Pt.slots] at X1 l1 y1 z1 st1 hQ1
  subst l1 y1 z1
  obtain ⟨rfl, N1q, e1⟩ := hQ1
  have N1 := Fr.app N0 N1q
  refine own_go (fun tz kz => st1.trans kz) ?_
  show own_Go p.tables e below _ T1 (mkF m 4 #[.val (.ref a1), .val (.int p2), .val (.int p3), .val (.ref a4)] [])
  refine own_go (fun tz kz => XS.aloadN X1.here hx rfl (hb hby d1_4) rfl rfl kz) ?_
  show own_Go p.tables e below _ T1 (mkF m 5 #[.val (.ref a1), .val (.int p2), .val (.int p3), .val (.ref a4)] [(.ref a1)])
  refine own_go (fun tz kz => XS.iloadN X1.here hx rfl (hb hby d1_5) rfl kz) ?_
  show own_Go p.tables e below _ T1 (mkF m 6 #[.val (.ref a1), .val (.int p2), .val (.int p3), .val (.ref a4)] [(.int p2), (.ref a1)])
  obtain ⟨T2, h2, X2, e2, W2, st2⟩ := putF X1 hx hZ hown (host := "") (Or.inl (hw _ (List.mem_of_getElem? (i := 14) rfl))) Via.refl e1 F_type Ex (Or.inr ⟨(hw _ (List.mem_of_getElem? (i := 15) rfl)), rfl, hnm⟩) (hw _ (List.mem_of_getElem? (i := 1) rfl)) (ty := .int) (by decide) rfl rfl (g := (mkF m 6 #[.val (.ref a1), .val (.int p2), .val (.int p3), .val (.ref a4)] [(.int p2), (.ref a1)])) rfl rfl (hb hby d1_6)
  have Fw2 := F_type.same W2
  have N2 := Fr.snoc X2 N1 g
  refine own_go st2 ?_
  show own_Go p.tables e below _ T2 (mkF m 9 #[.val (.ref a1), .val (.int p2), .val (.int p3), .val (.ref a4)] [])
  refine own_go (fun tz kz => XS.aloadN X2.here hx rfl (hb hby d1_9) rfl rfl kz) ?_
  show own_Go p.tables e below _ T2 (mkF m 10 #[.val (.ref a1), .val (.int p2), .val (.int p3), .val (.ref a4)] [(.ref a1)])
  refine own_go (fun tz kz => XS.iloadN X2.here hx rfl (hb hby d1_10) rfl kz) ?_
  show own_Go p.tables e below _ T2 (mkF m 11 #[.val (.ref a1), .val (.int p2), .val (.int p3), .val (.ref a4)] [(.int p3), (.ref a1)])
  obtain ⟨T3, h3, X3, e3, W3, st3⟩ := putF X2 hx hZ hown (host := "") (Or.inl (hw _ (List.mem_of_getElem? (i := 16) rfl))) Via.refl e2 (F_data.other W2 (Or.inr (slot_ne (Or.inr (hw _ (List.mem_of_getElem? (i := 17) rfl))) (Or.inr (hw _ (List.mem_of_getElem? (i := 15) rfl))) (by decide) (t := .int) (t' := .int) (by decide) (by decide)))) (Ex.wr W2) (Or.inr ⟨(hw _ (List.mem_of_getElem? (i := 17) rfl)), rfl, hnm⟩) (hw _ (List.mem_of_getElem? (i := 1) rfl)) (ty := .int) (by decide) rfl rfl (g := (mkF m 11 #[.val (.ref a1), .val (.int p2), .val (.int p3), .val (.ref a4)] [(.int p3), (.ref a1)])) rfl rfl (hb hby d1_11)
  have Fw3 := (F_data.other W2 (Or.inr (slot_ne (Or.inr (hw _ (List.mem_of_getElem? (i := 17) rfl))) (Or.inr (hw _ (List.mem_of_getElem? (i := 15) rfl))) (by decide) (t := .int) (t' := .int) (by decide) (by decide)))).same W3
  have N3 := Fr.snoc X3 N2 g
  refine own_go st3 ?_
  show own_Go p.tables e below _ T3 (mkF m 14 #[.val (.ref a1), .val (.int p2), .val (.int p3), .val (.ref a4)] [])
  refine own_go (fun tz kz => XS.aloadN X3.here hx rfl (hb hby d1_14) rfl rfl kz) ?_
  show own_Go p.tables e below _ T3 (mkF m 15 #[.val (.ref a1), .val (.int p2), .val (.int p3), .val (.ref a4)] [(.ref a1)])
  refine own_go (fun tz kz => XS.aloadN X3.here hx rfl (hb hby d1_15) rfl rfl kz) ?_
  show own_Go p.tables e below _ T3 (mkF m 16 #[.val (.ref a1), .val (.int p2), .val (.int p3), .val (.ref a4)] [(.ref a4), (.ref a1)])
  obtain ⟨T4, h4, X4, e4, W4, st4⟩ := putF X3 hx hZ hown (host := "") (Or.inl (hw _ (List.mem_of_getElem? (i := 18) rfl))) Via.refl e3 ((F_string.other W2 (Or.inr (slot_ne (Or.inr (hw _ (List.mem_of_getElem? (i := 19) rfl))) (Or.inr (hw _ (List.mem_of_getElem? (i := 15) rfl))) (by decide) (t := (.object "java/lang/String")) (t' := .int) (by decide) (by decide)))).other W3 (Or.inr (slot_ne (Or.inr (hw _ (List.mem_of_getElem? (i := 19) rfl))) (Or.inr (hw _ (List.mem_of_getElem? (i := 17) rfl))) (by decide) (t := (.object "java/lang/String")) (t' := .int) (by decide) (by decide)))) ((Ex.wr W2).wr W3) (Or.inr ⟨(hw _ (List.mem_of_getElem? (i := 19) rfl)), rfl, hnm⟩) (hw _ (List.mem_of_getElem? (i := 1) rfl)) (ty := (.object "java/lang/String")) (by decide) rfl rfl (g := (mkF m 16 #[.val (.ref a1), .val (.int p2), .val (.int p3), .val (.ref a4)] [(.ref a4), (.ref a1)])) rfl rfl (hb hby d1_16)
  have Fw4 := ((F_string.other W2 (Or.inr (slot_ne (Or.inr (hw _ (List.mem_of_getElem? (i := 19) rfl))) (Or.inr (hw _ (List.mem_of_getElem? (i := 15) rfl))) (by decide) (t := (.object "java/lang/String")) (t' := .int) (by decide) (by decide)))).other W3 (Or.inr (slot_ne (Or.inr (hw _ (List.mem_of_getElem? (i := 19) rfl))) (Or.inr (hw _ (List.mem_of_getElem? (i := 17) rfl))) (by decide) (t := (.object "java/lang/String")) (t' := .int) (by decide) (by decide)))).same W4
  have N4 := Fr.snoc X4 N3 g
  refine own_go st4 ?_
  show own_Go p.tables e below _ T4 (mkF m 19 #[.val (.ref a1), .val (.int p2), .val (.int p3), .val (.ref a4)] [])
  obtain ⟨fs, hr, hrun, hended, hW, hsame⟩ := X4.leave (v := none) (fun _ => rfl)
  refine ⟨_, _, ?_, hrun, hended, _, _, rfl, ?_, ⟨_, rfl⟩, hW, hsame.mono (by decide) (by decide)⟩
  · exact X4.returnOut hx Bd.returns (hb hby d1_19) hr
  · show Q1r Z a1 p2 p3 a4 u_type u_data u_string h0 n0 _ T4.heap _
    rw [e4]
    exact ⟨rfl, N4, ((((Keep.refl _ _).wr W2 (Or.inl (List.mem_of_getElem? (i := 0) rfl))).wr W3 (Or.inl (List.mem_of_getElem? (i := 0) rfl))).wr W4 (Or.inl (List.mem_of_getElem? (i := 0) rfl))), (((Ex.wr W2).wr W3).wr W4), ((Fw2.other W3 (Or.inr (slot_ne (Or.inr (hw _ (List.mem_of_getElem? (i := 15) rfl))) (Or.inr (hw _ (List.mem_of_getElem? (i := 17) rfl))) (by decide) (t := .int) (t' := .int) (by decide) (by decide)))).other W4 (Or.inr (slot_ne (Or.inr (hw _ (List.mem_of_getElem? (i := 15) rfl))) (Or.inr (hw _ (List.mem_of_getElem? (i := 19) rfl))) (by decide) (t := .int) (t' := (.object "java/lang/String")) (by decide) (by decide)))), (Fw3.other W4 (Or.inr (slot_ne (Or.inr (hw _ (List.mem_of_getElem? (i := 17) rfl))) (Or.inr (hw _ (List.mem_of_getElem? (i := 19) rfl))) (by decide) (t := .int) (t' := (.object "java/lang/String")) (by decide) (by decide)))), Fw4⟩
theorem d4_0 : decode prog_25_method_2_code 0 = .ok (.aload_n 0, 1) := by decide +kernel
theorem d4_1 : decode prog_25_method_2_code 1 = .ok (.getfield 7, 3) := by decide +kernel
theorem d4_4 : decode prog_25_method_2_code 4 = .ok (.bipush 16, 2) := by decide +kernel
theorem d4_6 : decode prog_25_method_2_code 6 = .ok (.if_icmp .lt 16, 3) := by decide +kernel
theorem d4_9 : decode prog_25_method_2_code 9 = .ok (.aload_n 0, 1) := by decide +kernel
theorem d4_10 : decode prog_25_method_2_code 10 = .ok (.getfield 7, 3) := by decide +kernel
theorem d4_13 : decode prog_25_method_2_code 13 = .ok (.bipush 31, 2) := by decide +kernel
theorem d4_15 : decode prog_25_method_2_code 15 = .ok (.if_icmp .gt 7, 3) := by decide +kernel
theorem d4_18 : decode prog_25_method_2_code 18 = .ok (.iconst 1, 1) := by decide +kernel
theorem d4_19 : decode prog_25_method_2_code 19 = .ok (.goto 4, 3) := by decide +kernel
theorem d4_22 : decode prog_25_method_2_code 22 = .ok (.iconst 0, 1) := by decide +kernel
theorem d4_23 : decode prog_25_method_2_code 23 = .ok (.ireturn, 1) := by decide +kernel
theorem ef_4 (m : MethodId) {a1 : Addr} : entryFrame m #[(.ref a1)] 1 = mkF m 0 #[.val (.ref a1)] [] := by first | (simp [entryFrame, mkF, argsToLocals, Value.category]; done) | rfl
def Q4 (Z : State) (a1 : Addr) (w : Int32) (h0 : Heap) (n0 : Nat) (v : Option Value) (h : Heap) (L : List Loc) : Prop := v = some (.int (own_isint w)) ∧ Fr n0 L ∧ h = h0
set_option maxRecDepth 65536 in
set_option maxHeartbeats 40000000 in
theorem rm4 (l : Launch) (Z : State) (a0 : Array Value) (hw : ∀ d ∈ tables_1, d.before a0 Z = true) (ws : List Jvm.Cond) (a1 : Addr) (w : Int32) (h0 : Heap) (n0 : Nat) (Z0 : n0 ≤ h0.size) (F : Fld Z h0 a1 "dexterous/io/TypedValue" "type" "I" (.int w)) :
    MetFree l (⟨"dexterous/io/TypedValue", "isInteger", "()Z"⟩ : MethodName) (head1 (Jvm.Cond.code (⟨"dexterous/io/TypedValue", "isInteger", "()Z"⟩ : MethodName) prog_25_method_2_code 1 (some .boolean) :: ws) ({ frames := 0, cells := 0, slots := 0, locals := 0 } : Room)) (fun a U => a = #[(.ref a1)] ∧ Z.Warmed39 U.vm ∧ U.heap = h0) (fun _ _ _ _ _ => True) (fun _ U o U' => ∃ v L, o = .returned v ∧ Q4 Z a1 w h0 n0 v U'.heap L ∧ FrameEnd U o U' L (({ frames := 0, cells := 0, slots := 0, locals := 0 } : Room)).cells (({ frames := 0, cells := 0, slots := 0, locals := 0 } : Room)).slots) := by
  refine MetFree.of_bodySF (plainFor_of_name pn_1) hisR ?_
  intro p e s m args below meth c s₁ Bd hml0 hP hK
  obtain ⟨rfl, hZ, hh⟩ := hP
  have hx := Bd.exec
  have hby := Bd.bytes
  have hml : c.maxLocals = 1 := hml0
  have hown : s.vm.findClass "dexterous/io/TypedValue" = some m.cls := findClass_of_methodNamed Bd.named
  have hnm := (name_of_methodNamed Bd.named Bd.method).1
  have X0 : Stand p l e ({ frames := 0, cells := 0, slots := 0, locals := 0 } : Room) s m #[(.ref a1)] below meth c s₁ [] 0 0 := Stand.of_body Bd
  have e0 : s₁.heap = h0 := by rw [← hh, Bd.state]; rfl
  have N0 := Fr.nil n0
  show own_Go p.tables e below (own_P s (Q4 Z a1 w h0 n0) ({ frames := 0, cells := 0, slots := 0, locals := 0 } : Room).cells ({ frames := 0, cells := 0, slots := 0, locals := 0 } : Room).slots) s₁ _
  rw [ef_4]
  show own_Go p.tables e below _ s₁ (mkF m 0 #[.val (.ref a1)] [])
  refine own_go (fun tz kz => XS.aloadN X0.here hx rfl (hb hby d4_0) rfl rfl kz) ?_
  show own_Go p.tables e below _ s₁ (mkF m 1 #[.val (.ref a1)] [(.ref a1)])
  obtain ⟨T1, X1, e1, st1⟩ := getF X0 hx hZ hown (host := "") (Or.inl (hw _ (List.mem_of_getElem? (i := 14) rfl))) Via.refl e0 F (g := (mkF m 1 #[.val (.ref a1)] [(.ref a1)])) rfl rfl (hb hby d4_1)
  refine own_go st1 ?_
  show own_Go p.tables e below _ T1 (mkF m 4 #[.val (.ref a1)] [(.int w)])
  refine own_go (fun tz kz => XS.bipush X1.here hx rfl (hb hby d4_4) kz) ?_
  show own_Go p.tables e below _ T1 (mkF m 6 #[.val (.ref a1)] [(.int (16 : Int32)), (.int w)])
  by_cases ha : w < (16 : Int32)
  ·
    refine own_go (fun tz kz => XS.icmpYes X1.here hx rfl (pc0 := 6) (pc' := 22) rfl (hb hby d4_6) rfl (XT.ii_lt_t ha) (by decide) (by decide) kz) ?_
    show own_Go p.tables e below _ T1 (mkF m 22 #[.val (.ref a1)] [])
    refine own_go (fun tz kz => XS.iconst X1.here hx rfl (hb hby d4_22) kz) ?_
    show own_Go p.tables e below _ T1 (mkF m 23 #[.val (.ref a1)] [(.int (0 : Int32))])
    obtain ⟨fs, hr, hrun, hended, hW, hsame⟩ := X1.leave (v := some (.int (0 : Int32))) (fun h => by rw [Bd.returns] at h; cases h)
    refine ⟨_, _, ?_, hrun, hended, _, _, rfl, ?_, ⟨_, rfl⟩, hW, hsame.mono (by decide) (by decide)⟩
    · exact retN X1 hx (t := .boolean) Bd.returns (by simp) (hb hby d4_23) hr
    · show Q4 Z a1 w h0 n0 _ T1.heap _
      rw [e1]
      exact ⟨congrArg (fun z => some (Value.int z)) (if_pos ha).symm, N0, rfl⟩
  ·
    refine own_go (fun tz kz => XS.icmpNo X1.here hx rfl (hb hby d4_6) rfl (XT.ii_lt_f ha) kz) ?_
    show own_Go p.tables e below _ T1 (mkF m 9 #[.val (.ref a1)] [])
    refine own_go (fun tz kz => XS.aloadN X1.here hx rfl (hb hby d4_9) rfl rfl kz) ?_
    show own_Go p.tables e below _ T1 (mkF m 10 #[.val (.ref a1)] [(.ref a1)])
    obtain ⟨T2, X2, e2, st2⟩ := getF X1 hx hZ hown (host := "") (Or.inl (hw _ (List.mem_of_getElem? (i := 14) rfl))) Via.refl e1 F (g := (mkF m 10 #[.val (.ref a1)] [(.ref a1)])) rfl rfl (hb hby d4_10)
    refine own_go st2 ?_
    show own_Go p.tables e below _ T2 (mkF m 13 #[.val (.ref a1)] [(.int w)])
    refine own_go (fun tz kz => XS.bipush X2.here hx rfl (hb hby d4_13) kz) ?_
    show own_Go p.tables e below _ T2 (mkF m 15 #[.val (.ref a1)] [(.int (31 : Int32)), (.int w)])
    by_cases hb' : (31 : Int32) < w
    ·
      refine own_go (fun tz kz => XS.icmpYes X2.here hx rfl (pc0 := 15) (pc' := 22) rfl (hb hby d4_15) rfl (XT.ii_gt_t hb') (by decide) (by decide) kz) ?_
      show own_Go p.tables e below _ T2 (mkF m 22 #[.val (.ref a1)] [])
      refine own_go (fun tz kz => XS.iconst X2.here hx rfl (hb hby d4_22) kz) ?_
      show own_Go p.tables e below _ T2 (mkF m 23 #[.val (.ref a1)] [(.int (0 : Int32))])
      obtain ⟨fs, hr, hrun, hended, hW, hsame⟩ := X2.leave (v := some (.int (0 : Int32))) (fun h => by rw [Bd.returns] at h; cases h)
      refine ⟨_, _, ?_, hrun, hended, _, _, rfl, ?_, ⟨_, rfl⟩, hW, hsame.mono (by decide) (by decide)⟩
      · exact retN X2 hx (t := .boolean) Bd.returns (by simp) (hb hby d4_23) hr
      · show Q4 Z a1 w h0 n0 _ T2.heap _
        rw [e2]
        exact ⟨congrArg (fun z => some (Value.int z)) ((if_neg ha).trans (if_pos hb')).symm, N0, rfl⟩
    ·
      refine own_go (fun tz kz => XS.icmpNo X2.here hx rfl (hb hby d4_15) rfl (XT.ii_gt_f hb') kz) ?_
      show own_Go p.tables e below _ T2 (mkF m 18 #[.val (.ref a1)] [])
      refine own_go (fun tz kz => XS.iconst X2.here hx rfl (hb hby d4_18) kz) ?_
      show own_Go p.tables e below _ T2 (mkF m 19 #[.val (.ref a1)] [(.int (1 : Int32))])
      refine own_go (fun tz kz => XS.goto X2.here hx rfl (pc0 := 19) (pc' := 23) rfl (hb hby d4_19) (by decide) (by decide) kz) ?_
      show own_Go p.tables e below _ T2 (mkF m 23 #[.val (.ref a1)] [(.int (1 : Int32))])
      obtain ⟨fs, hr, hrun, hended, hW, hsame⟩ := X2.leave (v := some (.int (1 : Int32))) (fun h => by rw [Bd.returns] at h; cases h)
      refine ⟨_, _, ?_, hrun, hended, _, _, rfl, ?_, ⟨_, rfl⟩, hW, hsame.mono (by decide) (by decide)⟩
      · exact retN X2 hx (t := .boolean) Bd.returns (by simp) (hb hby d4_23) hr
      · show Q4 Z a1 w h0 n0 _ T2.heap _
        rw [e2]
        exact ⟨congrArg (fun z => some (Value.int z)) ((if_neg ha).trans (if_neg hb')).symm, N0, rfl⟩
theorem d6_0 : decode jdk_43_method_3_code 0 = .ok (.iload_n 0, 1) := by decide +kernel
theorem d6_1 : decode jdk_43_method_3_code 1 = .ok (.sipush 255, 3) := by decide +kernel
theorem d6_4 : decode jdk_43_method_3_code 4 = .ok (.if_icmp .gt 7, 3) := by decide +kernel
theorem d6_7 : decode jdk_43_method_3_code 7 = .ok (.iconst 1, 1) := by decide +kernel
theorem d6_8 : decode jdk_43_method_3_code 8 = .ok (.goto 4, 3) := by decide +kernel
theorem d6_11 : decode jdk_43_method_3_code 11 = .ok (.iconst 0, 1) := by decide +kernel
theorem d6_12 : decode jdk_43_method_3_code 12 = .ok (.ireturn, 1) := by decide +kernel
theorem pn_2 : plainName "java/lang/StringLatin1" = true := by first | (simp [plainName, overriddenIn]; done) | decide +kernel
theorem ef_6 (m : MethodId) {p1 : Int32} : entryFrame m #[(.int p1)] 1 = mkF m 0 #[.val (.int p1)] [] := by first | (simp [entryFrame, mkF, argsToLocals, Value.category]; done) | rfl
def Q6 (Z : State) (p1 : Int32) (h0 : Heap) (n0 : Nat) (v : Option Value) (h : Heap) (L : List Loc) : Prop := v = some (.int 1) ∧ Fr n0 L ∧ h = h0
set_option maxRecDepth 65536 in
set_option maxHeartbeats 40000000 in
theorem rm6 (l : Launch) (Z : State) (a0 : Array Value) (hw : ∀ d ∈ tables_1, d.before a0 Z = true) (ws : List Jvm.Cond) (p1 : Int32) (h0 : Heap) (n0 : Nat) (Z0 : n0 ≤ h0.size) (hp : ¬ (255 : Int32) < p1) :
    MetFree l (⟨"java/lang/StringLatin1", "canEncode", "(C)Z"⟩ : MethodName) (head1 (Jvm.Cond.code (⟨"java/lang/StringLatin1", "canEncode", "(C)Z"⟩ : MethodName) jdk_43_method_3_code 1 (some .boolean) :: ws) ({ frames := 0, cells := 0, slots := 0, locals := 0 } : Room)) (fun a U => a = #[(.int p1)] ∧ Z.Warmed39 U.vm ∧ U.heap = h0) (fun _ _ _ _ _ => True) (fun _ U o U' => ∃ v L, o = .returned v ∧ Q6 Z p1 h0 n0 v U'.heap L ∧ FrameEnd U o U' L (({ frames := 0, cells := 0, slots := 0, locals := 0 } : Room)).cells (({ frames := 0, cells := 0, slots := 0, locals := 0 } : Room)).slots) := by
  refine MetFree.of_bodySF (plainFor_of_name pn_2) hisR ?_
  intro p e s m args below meth c s₁ Bd hml0 hP hK
  obtain ⟨rfl, hZ, hh⟩ := hP
  have hx := Bd.exec
  have hby := Bd.bytes
  have hml : c.maxLocals = 1 := hml0
  have hown : s.vm.findClass "java/lang/StringLatin1" = some m.cls := findClass_of_methodNamed Bd.named
  have hnm := (name_of_methodNamed Bd.named Bd.method).1
  have X0 : Stand p l e ({ frames := 0, cells := 0, slots := 0, locals := 0 } : Room) s m #[(.int p1)] below meth c s₁ [] 0 0 := Stand.of_body Bd
  have e0 : s₁.heap = h0 := by rw [← hh, Bd.state]; rfl
  have N0 := Fr.nil n0
  show own_Go p.tables e below (own_P s (Q6 Z p1 h0 n0) ({ frames := 0, cells := 0, slots := 0, locals := 0 } : Room).cells ({ frames := 0, cells := 0, slots := 0, locals := 0 } : Room).slots) s₁ _
  rw [ef_6]
  show own_Go p.tables e below _ s₁ (mkF m 0 #[.val (.int p1)] [])
  refine own_go (fun tz kz => XS.iloadN X0.here hx rfl (hb hby d6_0) rfl kz) ?_
  show own_Go p.tables e below _ s₁ (mkF m 1 #[.val (.int p1)] [(.int p1)])
  refine own_go (fun tz kz => XS.sipush X0.here hx rfl (hb hby d6_1) kz) ?_
  show own_Go p.tables e below _ s₁ (mkF m 4 #[.val (.int p1)] [(.int (255 : Int32)), (.int p1)])
  refine own_go (fun tz kz => XS.icmpNo X0.here hx rfl (hb hby d6_4) rfl (XT.ii_gt_f hp) kz) ?_
  show own_Go p.tables e below _ s₁ (mkF m 7 #[.val (.int p1)] [])
  refine own_go (fun tz kz => XS.iconst X0.here hx rfl (hb hby d6_7) kz) ?_
  show own_Go p.tables e below _ s₁ (mkF m 8 #[.val (.int p1)] [(.int (1 : Int32))])
  refine own_go (fun tz kz => XS.goto X0.here hx rfl (pc0 := 8) (pc' := 12) rfl (hb hby d6_8) (by decide) (by decide) kz) ?_
  show own_Go p.tables e below _ s₁ (mkF m 12 #[.val (.int p1)] [(.int (1 : Int32))])
  obtain ⟨fs, hr, hrun, hended, hW, hsame⟩ := X0.leave (v := some (.int (1 : Int32))) (fun h => by rw [Bd.returns] at h; cases h)
  refine ⟨_, _, ?_, hrun, hended, _, _, rfl, ?_, ⟨_, rfl⟩, hW, hsame.mono (by decide) (by decide)⟩
  · exact retN X0 hx (t := .boolean) Bd.returns (by simp) (hb hby d6_12) hr
  · show Q6 Z p1 h0 n0 _ s₁.heap _
    rw [e0]
    exact ⟨rfl, N0, rfl⟩
theorem d7_0 : decode jdk_43_method_46_code 0 = .ok (.iconst 1, 1) := by decide +kernel
theorem d7_1 : decode jdk_43_method_46_code 1 = .ok (.newarray .byte, 2) := by decide +kernel
theorem d7_3 : decode jdk_43_method_46_code 3 = .ok (.dup, 1) := by decide +kernel
theorem d7_4 : decode jdk_43_method_46_code 4 = .ok (.iconst 0, 1) := by decide +kernel
theorem d7_5 : decode jdk_43_method_46_code 5 = .ok (.iload_n 0, 1) := by decide +kernel
theorem d7_6 : decode jdk_43_method_46_code 6 = .ok (.i2b, 1) := by decide +kernel
theorem d7_7 : decode jdk_43_method_46_code 7 = .ok (.bastore, 1) := by decide +kernel
theorem d7_8 : decode jdk_43_method_46_code 8 = .ok (.areturn, 1) := by decide +kernel
theorem ef_7 (m : MethodId) {p1 : Int32} : entryFrame m #[(.int p1)] 1 = mkF m 0 #[.val (.int p1)] [] := by first | (simp [entryFrame, mkF, argsToLocals, Value.category]; done) | rfl
def Q7 (Z : State) (p1 : Int32) (b : Addr) (h0 : Heap) (n0 : Nat) (v : Option Value) (h : Heap) (L : List Loc) : Prop := v = some (.ref b) ∧ Fr n0 L ∧ Keep h0 h []
set_option maxRecDepth 65536 in
set_option maxHeartbeats 40000000 in
theorem rm7 (l : Launch) (Z : State) (a0 : Array Value) (hw : ∀ d ∈ tables_1, d.before a0 Z = true) (ws : List Jvm.Cond) (p1 : Int32) (b : Addr) (h0 : Heap) (n0 : Nat) (Z0 : n0 ≤ h0.size) (eb : b = h0.size) :
    MetFree l (⟨"java/lang/StringLatin1", "toBytes", "(C)[B"⟩ : MethodName) (head1 (Jvm.Cond.code (⟨"java/lang/StringLatin1", "toBytes", "(C)[B"⟩ : MethodName) jdk_43_method_46_code 1 (some (.array .byte)) :: ws) ({ frames := 0, cells := 1, slots := 1, locals := 0 } : Room)) (fun a U => a = #[(.int p1)] ∧ Z.Warmed39 U.vm ∧ U.heap = h0) (fun _ _ _ _ _ => True) (fun _ U o U' => ∃ v L, o = .returned v ∧ Q7 Z p1 b h0 n0 v U'.heap L ∧ FrameEnd U o U' L (({ frames := 0, cells := 1, slots := 1, locals := 0 } : Room)).cells (({ frames := 0, cells := 1, slots := 1, locals := 0 } : Room)).slots) := by
  refine MetFree.of_bodySF (plainFor_of_name pn_2) hisR ?_
  intro p e s m args below meth c s₁ Bd hml0 hP hK
  obtain ⟨rfl, hZ, hh⟩ := hP
  have hx := Bd.exec
  have hby := Bd.bytes
  have hml : c.maxLocals = 1 := hml0
  have hown : s.vm.findClass "java/lang/StringLatin1" = some m.cls := findClass_of_methodNamed Bd.named
  have hnm := (name_of_methodNamed Bd.named Bd.method).1
  have X0 : Stand p l e ({ frames := 0, cells := 1, slots := 1, locals := 0 } : Room) s m #[(.int p1)] below meth c s₁ [] 0 0 := Stand.of_body Bd
  have e0 : s₁.heap = h0 := by rw [← hh, Bd.state]; rfl
  have N0 := Fr.nil n0
  show own_Go p.tables e below (own_P s (Q7 Z p1 b h0 n0) ({ frames := 0, cells := 1, slots := 1, locals := 0 } : Room).cells ({ frames := 0, cells := 1, slots := 1, locals := 0 } : Room).slots) s₁ _
  rw [ef_7]
  show own_Go p.tables e below _ s₁ (mkF m 0 #[.val (.int p1)] [])
  refine own_go (fun tz kz => XS.iconst X0.here hx rfl (hb hby d7_0) kz) ?_
  show own_Go p.tables e below _ s₁ (mkF m 1 #[.val (.int p1)] [(.int (1 : Int32))])
  obtain ⟨T1, h1, k1, X1, e1, E1, A1, st1⟩ := newP X0 hx hZ (hw _ (List.mem_of_getElem? (i := 39) rfl)) e0 (g := (mkF m 1 #[.val (.int p1)] [(.int (1 : Int32))])) rfl (hb hby d7_1) rfl (by decide) (cap := 1) (by decide) (by decide) (by decide) (by decide)
  rw [← eb] at A1 st1
  have g_b : n0 ≤ b := Nat.le_trans Z0 (Nat.le_of_eq eb.symm)
  have V_b : own_Av Z h1 b .byte 1 (fun _ => .int 0) := own_Av.new A1 (by decide)
  refine own_go st1 ?_
  show own_Go p.tables e below _ T1 (mkF m 3 #[.val (.int p1)] [(.ref b)])
  refine own_go (fun tz kz => XS.dup X1.here hx rfl (hb hby d7_3) rfl rfl kz) ?_
  show own_Go p.tables e below _ T1 (mkF m 4 #[.val (.int p1)] [(.ref b), (.ref b)])
  refine own_go (fun tz kz => XS.iconst X1.here hx rfl (hb hby d7_4) kz) ?_
  show own_Go p.tables e below _ T1 (mkF m 5 #[.val (.int p1)] [(.int (0 : Int32)), (.ref b), (.ref b)])
  refine own_go (fun tz kz => XS.iloadN X1.here hx rfl (hb hby d7_5) rfl kz) ?_
  show own_Go p.tables e below _ T1 (mkF m 6 #[.val (.int p1)] [(.int p1), (.int (0 : Int32)), (.ref b), (.ref b)])
  refine own_go (fun tz kz => XT.i2b X1.here hx rfl (hb hby d7_6) rfl kz) ?_
  show own_Go p.tables e below _ T1 (mkF m 7 #[.val (.int p1)] [(.int p1.toInt8.toInt32), (.int (0 : Int32)), (.ref b), (.ref b)])
  obtain ⟨c2, Ar2, Sz2, Ge2⟩ := id (V_b)
  obtain ⟨T2, h2, X2, e2, W2, st2⟩ := stB X1 hx hZ e1 Ar2 (j := (0 : Int32)) (own_inb (i := 0) Sz2 ⟨by decide, by decide⟩ (by decide)) (g := (mkF m 7 #[.val (.int p1)] [(.int p1.toInt8.toInt32), (.int (0 : Int32)), (.ref b), (.ref b)])) rfl rfl (hb hby d7_7)
  have V1 := own_Av.set (V_b) W2 (⟨by decide, by decide⟩ : ¬ (0 : Int32) < 0 ∧ ((0 : Int32)).toNatClampNeg = 0).2
  have N2 := Fr.snoc X2 N0 g_b
  refine own_go st2 ?_
  show own_Go p.tables e below _ T2 (mkF m 8 #[.val (.int p1)] [(.ref b)])
  obtain ⟨fs, hr, hrun, hended, hW, hsame⟩ := X2.leave (v := some (.ref b)) (fun h => by rw [Bd.returns] at h; cases h)
  refine ⟨_, _, ?_, hrun, hended, _, _, rfl, ?_, ⟨_, rfl⟩, hW, hsame.mono (by decide) (by decide)⟩
  · exact retOut X2 hx Bd.returns rfl (Or.inr (Or.inr (Or.inr (Or.inr ⟨rfl, rfl, rfl⟩)))) (hb hby d7_8) hr
  · show Q7 Z p1 b h0 n0 _ T2.heap _
    rw [e2]
    exact ⟨rfl, N2, own_keep1 ((Keep.refl _ []).ext E1) (Keep.of_wr W2) (Nat.le_of_eq eb.symm)⟩
theorem d8_0 : decode jdk_42_method_151_code 0 = .ok (.aload_n 0, 1) := by decide +kernel
theorem d8_1 : decode jdk_42_method_151_code 1 = .ok (.invokespecial 1, 3) := by decide +kernel
theorem d8_4 : decode jdk_42_method_151_code 4 = .ok (.aload_n 0, 1) := by decide +kernel
theorem d8_5 : decode jdk_42_method_151_code 5 = .ok (.aload_n 1, 1) := by decide +kernel
theorem d8_6 : decode jdk_42_method_151_code 6 = .ok (.putfield 9, 3) := by decide +kernel
theorem d8_9 : decode jdk_42_method_151_code 9 = .ok (.aload_n 0, 1) := by decide +kernel
theorem d8_10 : decode jdk_42_method_151_code 10 = .ok (.iload_n 2, 1) := by decide +kernel
theorem d8_11 : decode jdk_42_method_151_code 11 = .ok (.putfield 15, 3) := by decide +kernel
theorem d8_14 : decode jdk_42_method_151_code 14 = .ok (.return_, 1) := by decide +kernel
theorem pn_3 : plainName "java/lang/String" = true := by first | (simp [plainName, overriddenIn]; done) | decide +kernel
theorem ef_8 (m : MethodId) {a1 : Addr} {a2 : Addr} {p3 : Int32} : entryFrame m #[(.ref a1), (.ref a2), (.int p3)] 3 = mkF m 0 #[.val (.ref a1), .val (.ref a2), .val (.int p3)] [] := by first | (simp [entryFrame, mkF, argsToLocals, Value.category]; done) | rfl
def Q8 (Z : State) (a1 : Addr) (a2 : Addr) (p3 : Int32) (u1 : Value) (u2 : Value) (h0 : Heap) (n0 : Nat) (v : Option Value) (h : Heap) (L : List Loc) : Prop := v = none ∧ Fr n0 L ∧ Keep h0 h [a1]
set_option maxRecDepth 65536 in
set_option maxHeartbeats 40000000 in
theorem rm8 (l : Launch) (Z : State) (a0 : Array Value) (hw : ∀ d ∈ tables_1, d.before a0 Z = true) (ws : List Jvm.Cond) (a1 : Addr) (a2 : Addr) (p3 : Int32) (u1 : Value) (u2 : Value) (h0 : Heap) (n0 : Nat) (Z0 : n0 ≤ h0.size) (F1 : Fld Z h0 a1 "java/lang/String" "value" "[B" u1) (F2 : Fld Z h0 a1 "java/lang/String" "coder" "B" u2) (Ex : Exa Z h0 a1 "java/lang/String") (g : n0 ≤ a1) :
    MetFree l (⟨"java/lang/String", "<init>", "([BB)V"⟩ : MethodName) (head1 (Jvm.Cond.code (⟨"java/lang/String", "<init>", "([BB)V"⟩ : MethodName) jdk_42_method_151_code 3 none :: ws) ({ frames := 1, cells := 0, slots := 0, locals := 12 } : Room)) (fun a U => a = #[(.ref a1), (.ref a2), (.int p3)] ∧ Z.Warmed39 U.vm ∧ U.heap = h0) (fun _ _ _ _ _ => True) (fun _ U o U' => ∃ v L, o = .returned v ∧ Q8 Z a1 a2 p3 u1 u2 h0 n0 v U'.heap L ∧ FrameEnd U o U' L (({ frames := 1, cells := 0, slots := 0, locals := 12 } : Room)).cells (({ frames := 1, cells := 0, slots := 0, locals := 12 } : Room)).slots) := by
  refine MetFree.of_bodySF (plainFor_of_name pn_3) hisR ?_
  intro p e s m args below meth c s₁ Bd hml0 hP hK
  obtain ⟨rfl, hZ, hh⟩ := hP
  have hx := Bd.exec
  have hby := Bd.bytes
  have hml : c.maxLocals = 3 := hml0
  have hown : s.vm.findClass "java/lang/String" = some m.cls := findClass_of_methodNamed Bd.named
  have hnm := (name_of_methodNamed Bd.named Bd.method).1
  have X0 : Stand p l e ({ frames := 1, cells := 0, slots := 0, locals := 12 } : Room) s m #[(.ref a1), (.ref a2), (.int p3)] below meth c s₁ [] 0 0 := Stand.of_body Bd
  have e0 : s₁.heap = h0 := by rw [← hh, Bd.state]; rfl
  have N0 := Fr.nil n0
  show own_Go p.tables e below (own_P s (Q8 Z a1 a2 p3 u1 u2 h0 n0) ({ frames := 1, cells := 0, slots := 0, locals := 12 } : Room).cells ({ frames := 1, cells := 0, slots := 0, locals := 12 } : Room).slots) s₁ _
  rw [ef_8]
  show own_Go p.tables e below _ s₁ (mkF m 0 #[.val (.ref a1), .val (.ref a2), .val (.int p3)] [])
  refine own_go (fun tz kz => XS.aloadN X0.here hx rfl (hb hby d8_0) rfl rfl kz) ?_
  show own_Go p.tables e below _ s₁ (mkF m 1 #[.val (.ref a1), .val (.ref a2), .val (.int p3)] [(.ref a1)])
  obtain ⟨T1, X1, e1, st1⟩ := initO X0 hx hZ hown (hw _ (List.mem_of_getElem? (i := 44) rfl)) (hw _ (List.mem_of_getElem? (i := 12) rfl)) (hw _ (List.mem_of_getElem? (i := 13) rfl)) e0 (g := (mkF m 1 #[.val (.ref a1), .val (.ref a2), .val (.int p3)] [(.ref a1)])) rfl (by rw [hml]; rfl) rfl (hb hby d8_1) (by decide) (W := 0) (by show 2 * 0 + _ ≤ _; exact Nat.le_of_eq rfl) (by decide)
  refine own_go st1 ?_
  show own_Go p.tables e below _ T1 (mkF m 4 #[.val (.ref a1), .val (.ref a2), .val (.int p3)] [])
  refine own_go (fun tz kz => XS.aloadN X1.here hx rfl (hb hby d8_4) rfl rfl kz) ?_
  show own_Go p.tables e below _ T1 (mkF m 5 #[.val (.ref a1), .val (.ref a2), .val (.int p3)] [(.ref a1)])
  refine own_go (fun tz kz => XS.aloadN X1.here hx rfl (hb hby d8_5) rfl rfl kz) ?_
  show own_Go p.tables e below _ T1 (mkF m 6 #[.val (.ref a1), .val (.ref a2), .val (.int p3)] [(.ref a2), (.ref a1)])
  obtain ⟨T2, h2, X2, e2, W2, st2⟩ := putF X1 hx hZ hown (host := "") (Or.inl (hw _ (List.mem_of_getElem? (i := 45) rfl))) Via.refl e1 F1 Ex (Or.inr ⟨(hw _ (List.mem_of_getElem? (i := 46) rfl)), rfl, hnm⟩) (hw _ (List.mem_of_getElem? (i := 35) rfl)) (ty := (.array .byte)) (by decide) rfl rfl (g := (mkF m 6 #[.val (.ref a1), .val (.ref a2), .val (.int p3)] [(.ref a2), (.ref a1)])) rfl rfl (hb hby d8_6)
  have Fw2 := F1.same W2
  have N2 := Fr.snoc X2 N0 g
  refine own_go st2 ?_
  show own_Go p.tables e below _ T2 (mkF m 9 #[.val (.ref a1), .val (.ref a2), .val (.int p3)] [])
  refine own_go (fun tz kz => XS.aloadN X2.here hx rfl (hb hby d8_9) rfl rfl kz) ?_
  show own_Go p.tables e below _ T2 (mkF m 10 #[.val (.ref a1), .val (.ref a2), .val (.int p3)] [(.ref a1)])
  refine own_go (fun tz kz => XS.iloadN X2.here hx rfl (hb hby d8_10) rfl kz) ?_
  show own_Go p.tables e below _ T2 (mkF m 11 #[.val (.ref a1), .val (.ref a2), .val (.int p3)] [(.int p3), (.ref a1)])
  obtain ⟨T3, h3, X3, e3, W3, st3⟩ := putFN X2 hx hZ hown (hw _ (List.mem_of_getElem? (i := 47) rfl)) Via.refl e2 (F2.other W2 (Or.inr (slot_ne (Or.inr (hw _ (List.mem_of_getElem? (i := 48) rfl))) (Or.inr (hw _ (List.mem_of_getElem? (i := 46) rfl))) (by decide) (t := .byte) (t' := (.array .byte)) (by decide) (by decide)))) (Ex.wr W2) (Or.inr ⟨(hw _ (List.mem_of_getElem? (i := 48) rfl)), rfl, hnm⟩) (hw _ (List.mem_of_getElem? (i := 35) rfl)) (ty := .byte) (v' := .int p3.toInt8.toInt32) (by decide) rfl (fits_nar_byte _) (g := (mkF m 11 #[.val (.ref a1), .val (.ref a2), .val (.int p3)] [(.int p3), (.ref a1)])) rfl rfl (hb hby d8_11)
  have Fw3 := ((F2.other W2 (Or.inr (slot_ne (Or.inr (hw _ (List.mem_of_getElem? (i := 48) rfl))) (Or.inr (hw _ (List.mem_of_getElem? (i := 46) rfl))) (by decide) (t := .byte) (t' := (.array .byte)) (by decide) (by decide))))).same W3
  have N3 := Fr.snoc X3 N2 g
  refine own_go st3 ?_
  show own_Go p.tables e below _ T3 (mkF m 14 #[.val (.ref a1), .val (.ref a2), .val (.int p3)] [])
  obtain ⟨fs, hr, hrun, hended, hW, hsame⟩ := X3.leave (v := none) (fun _ => rfl)
  refine ⟨_, _, ?_, hrun, hended, _, _, rfl, ?_, ⟨_, rfl⟩, hW, hsame.mono (by decide) (by decide)⟩
  · exact X3.returnOut hx Bd.returns (hb hby d8_14) hr
  · show Q8 Z a1 a2 p3 u1 u2 h0 n0 _ T3.heap _
    rw [e3]
    exact ⟨rfl, N3, ((Keep.refl _ _).wr W2 (Or.inl (List.mem_of_getElem? (i := 0) rfl))).wr W3 (Or.inl (List.mem_of_getElem? (i := 0) rfl))⟩
theorem d5_0 : decode jdk_42_method_139_code 0 = .ok (.getstatic 38, 3) := by decide +kernel
theorem d5_3 : decode jdk_42_method_139_code 3 = .ok (.ifCond .eq 23, 3) := by decide +kernel
theorem d5_6 : decode jdk_42_method_139_code 6 = .ok (.iload_n 0, 1) := by decide +kernel
theorem d5_7 : decode jdk_42_method_139_code 7 = .ok (.invokestatic 1015, 3) := by decide +kernel
theorem d5_10 : decode jdk_42_method_139_code 10 = .ok (.ifCond .eq 16, 3) := by decide +kernel
theorem d5_13 : decode jdk_42_method_139_code 13 = .ok (.new 10, 3) := by decide +kernel
theorem d5_16 : decode jdk_42_method_139_code 16 = .ok (.dup, 1) := by decide +kernel
theorem d5_17 : decode jdk_42_method_139_code 17 = .ok (.iload_n 0, 1) := by decide +kernel
theorem d5_18 : decode jdk_42_method_139_code 18 = .ok (.invokestatic 1018, 3) := by decide +kernel
theorem d5_21 : decode jdk_42_method_139_code 21 = .ok (.iconst 0, 1) := by decide +kernel
theorem d5_22 : decode jdk_42_method_139_code 22 = .ok (.invokespecial 209, 3) := by decide +kernel
theorem d5_25 : decode jdk_42_method_139_code 25 = .ok (.areturn, 1) := by decide +kernel
theorem d5_26 : decode jdk_42_method_139_code 26 = .ok (.new 10, 3) := by decide +kernel
theorem d5_29 : decode jdk_42_method_139_code 29 = .ok (.dup, 1) := by decide +kernel
theorem d5_30 : decode jdk_42_method_139_code 30 = .ok (.iload_n 0, 1) := by decide +kernel
theorem d5_31 : decode jdk_42_method_139_code 31 = .ok (.invokestatic 1021, 3) := by decide +kernel
theorem d5_34 : decode jdk_42_method_139_code 34 = .ok (.iconst 1, 1) := by decide +kernel
theorem d5_35 : decode jdk_42_method_139_code 35 = .ok (.invokespecial 209, 3) := by decide +kernel
theorem d5_38 : decode jdk_42_method_139_code 38 = .ok (.areturn, 1) := by decide +kernel
theorem pd_1 : parseMethodDescriptor "(C)Z" = some ⟨[.char], some .boolean⟩ := by decide +kernel
theorem pd_2 : parseMethodDescriptor "(C)[B" = some ⟨[.char], some (.array .byte)⟩ := by decide +kernel
theorem pd_3 : parseMethodDescriptor "([BB)V" = some ⟨[(.array .byte), .byte], none⟩ := by decide +kernel
theorem ef_5 (m : MethodId) {p1 : Int32} : entryFrame m #[(.int p1)] 1 = mkF m 0 #[.val (.int p1)] [] := by first | (simp [entryFrame, mkF, argsToLocals, Value.category]; done) | rfl
def Q5 (Z : State) (p1 : Int32) (cs : Int32) (b : Addr) (h0 : Heap) (n0 : Nat) (v : Option Value) (h : Heap) (L : List Loc) : Prop := v = some (.ref b) ∧ Fr n0 L ∧ Keep h0 h []
set_option maxRecDepth 65536 in
set_option maxHeartbeats 40000000 in
theorem rm5 (l : Launch) (Z : State) (a0 : Array Value) (hw : ∀ d ∈ tables_1, d.before a0 Z = true) (ws : List Jvm.Cond) (p1 : Int32) (cs : Int32) (b : Addr) (h0 : Heap) (n0 : Nat) (Z0 : n0 ≤ h0.size) (SC : Sta Z h0 "java/lang/String" "COMPACT_STRINGS" "Z" (.int cs)) (hcs : ¬ cs = 0) (hp : ¬ (255 : Int32) < p1) (eb : b = h0.size) :
    MetFree l (⟨"java/lang/String", "valueOf", "(C)Ljava/lang/String;"⟩ : MethodName) (head1 (Jvm.Cond.code (⟨"java/lang/String", "valueOf", "(C)Ljava/lang/String;"⟩ : MethodName) jdk_42_method_139_code 1 (some (.object "java/lang/String")) :: ws) ({ frames := 2, cells := 2, slots := 5, locals := 27 } : Room)) (fun a U => a = #[(.int p1)] ∧ Z.Warmed39 U.vm ∧ U.heap = h0) (fun _ _ _ _ _ => True) (fun _ U o U' => ∃ v L, o = .returned v ∧ Q5 Z p1 cs b h0 n0 v U'.heap L ∧ FrameEnd U o U' L (({ frames := 2, cells := 2, slots := 5, locals := 27 } : Room)).cells (({ frames := 2, cells := 2, slots := 5, locals := 27 } : Room)).slots) := by
  refine MetFree.of_bodySF (plainFor_of_name pn_3) hisR ?_
  intro p e s m args below meth c s₁ Bd hml0 hP hK
  obtain ⟨rfl, hZ, hh⟩ := hP
  have hx := Bd.exec
  have hby := Bd.bytes
  have hml : c.maxLocals = 1 := hml0
  have hown : s.vm.findClass "java/lang/String" = some m.cls := findClass_of_methodNamed Bd.named
  have hnm := (name_of_methodNamed Bd.named Bd.method).1
  have X0 : Stand p l e ({ frames := 2, cells := 2, slots := 5, locals := 27 } : Room) s m #[(.int p1)] below meth c s₁ [] 0 0 := Stand.of_body Bd
  have e0 : s₁.heap = h0 := by rw [← hh, Bd.state]; rfl
  have N0 := Fr.nil n0
  show own_Go p.tables e below (own_P s (Q5 Z p1 cs b h0 n0) ({ frames := 2, cells := 2, slots := 5, locals := 27 } : Room).cells ({ frames := 2, cells := 2, slots := 5, locals := 27 } : Room).slots) s₁ _
  rw [ef_5]
  show own_Go p.tables e below _ s₁ (mkF m 0 #[.val (.int p1)] [])
  obtain ⟨T1, X1, e1, st1⟩ := getS2 X0 hx hZ hown (host := "") (Or.inl (hw _ (List.mem_of_getElem? (i := 29) rfl))) Via.refl e0 SC (g := (mkF m 0 #[.val (.int p1)] [])) rfl (hb hby d5_0)
  refine own_go st1 ?_
  show own_Go p.tables e below _ T1 (mkF m 3 #[.val (.int p1)] [(.int cs)])
  refine own_go (fun tz kz => XS.ifNo X1.here hx rfl (hb hby d5_3) rfl (XT.i0_eq_f hcs) kz) ?_
  show own_Go p.tables e below _ T1 (mkF m 6 #[.val (.int p1)] [])
  refine own_go (fun tz kz => XS.iloadN X1.here hx rfl (hb hby d5_6) rfl kz) ?_
  show own_Go p.tables e below _ T1 (mkF m 7 #[.val (.int p1)] [(.int p1)])
  obtain ⟨_, _, ⟨T2, L2, k2, n2⟩, -, X2, ⟨Lc2, hQ2, l2, y2, z2⟩, st2⟩ := Jvm.LawKit.callS X1 hx (y := (⟨"java/lang/StringLatin1", "canEncode", "(C)Z"⟩ : MethodName)) hown (mvT hZ (hw _ (List.mem_of_getElem? (i := 30) rfl))) (mvT hZ (hw _ (List.mem_of_getElem? (i := 31) rfl))) (mvT hZ (hw _ (List.mem_of_getElem? (i := 32) rfl))) (mvT hZ (hw _ (List.mem_of_getElem? (i := 33) rfl))) (by decide) (backOf (W := 0) (rm6 l Z a0 hw [] p1 h0 n0 Z0 hp) hZ (hw _ (List.mem_of_getElem? (i := 33) rfl)) (hw _ (List.mem_of_getElem? (i := 32) rfl)) (by decide) (by decide)) (g := (mkF m 7 #[.val (.int p1)] [(.int p1)])) rfl (by rw [hml]; rfl) (argsL := [(.int p1)]) (rest := []) (lenOf pd_1 rfl) rfl (by show 2 * 0 + _ ≤ _; exact Nat.le_of_eq rfl) (hb hby d5_7) (fun _ _ => ⟨rfl, e1, (by decide : 0 + 0 ≤ _), (by decide : 0 + 0 ≤ _)⟩)
  dsimp only [Pt.U, Pt.locs, Pt.cells, Pt.slots] at X2 l2 y2 z2 st2 hQ2
  subst l2 y2 z2
  obtain ⟨rfl, N2q, e2⟩ := hQ2
  have N2 := Fr.app N0 N2q
  refine own_go (fun tz kz => st2 tz kz) ?_
  show own_Go p.tables e below _ T2 (mkF m 10 #[.val (.int p1)] [(.int (1 : Int32))])
  refine own_go (fun tz kz => XS.ifNo X2.here hx rfl (hb hby d5_10) rfl (XT.i0_eq_f (by decide)) kz) ?_
  show own_Go p.tables e below _ T2 (mkF m 13 #[.val (.int p1)] [])
  obtain ⟨T3, h3, X3, e3, E3, A3, D3, -, st3⟩ := newO X2 hx hZ hown (hw _ (List.mem_of_getElem? (i := 34) rfl)) (hw _ (List.mem_of_getElem? (i := 35) rfl)) (hw _ (List.mem_of_getElem? (i := 27) rfl)) e2 (g := (mkF m 13 #[.val (.int p1)] [])) rfl (hb hby d5_13) (by decide) (by decide)
  rw [← eb] at A3 D3 st3
  have g_b : n0 ≤ b := Nat.le_trans Z0 (Nat.le_of_eq eb.symm)
  have F_value_b : Fld Z h3 b "java/lang/String" "value" "[B" .null := D3 (Or.inr (hw _ (List.mem_of_getElem? (i := 46) rfl))) (ty := (.array .byte)) (by decide)
  have F_coder_b : Fld Z h3 b "java/lang/String" "coder" "B" (.int (0 : Int32)) := D3 (Or.inr (hw _ (List.mem_of_getElem? (i := 48) rfl))) (ty := .byte) (by decide)
  refine own_go st3 ?_
  show own_Go p.tables e below _ T3 (mkF m 16 #[.val (.int p1)] [(.ref b)])
  refine own_go (fun tz kz => XS.dup X3.here hx rfl (hb hby d5_16) rfl rfl kz) ?_
  show own_Go p.tables e below _ T3 (mkF m 17 #[.val (.int p1)] [(.ref b), (.ref b)])
  refine own_go (fun tz kz => XS.iloadN X3.here hx rfl (hb hby d5_17) rfl kz) ?_
  show own_Go p.tables e below _ T3 (mkF m 18 #[.val (.int p1)] [(.int p1), (.ref b), (.ref b)])
  obtain ⟨d, ed⟩ : ∃ z, z = (h3).size := ⟨_, rfl⟩
  obtain ⟨_, _, ⟨T4, L4, k4, n4⟩, -, X4, ⟨Lc4, hQ4, l4, y4, z4⟩, st4⟩ := Jvm.LawKit.callS X3 hx (y := (⟨"java/lang/StringLatin1", "toBytes", "(C)[B"⟩ : MethodName)) hown (mvT hZ (hw _ (List.mem_of_getElem? (i := 36) rfl))) (mvT hZ (hw _ (List.mem_of_getElem? (i := 37) rfl))) (mvT hZ (hw _ (List.mem_of_getElem? (i := 32) rfl))) (mvT hZ (hw _ (List.mem_of_getElem? (i := 38) rfl))) (by decide) (backOf (W := 2) (rm7 l Z a0 hw [] p1 d h3 n0 (Nat.le_trans Z0 E3.1) ed) hZ (hw _ (List.mem_of_getElem? (i := 38) rfl)) (hw _ (List.mem_of_getElem? (i := 32) rfl)) (by decide) (by decide)) (g := (mkF m 18 #[.val (.int p1)] [(.int p1), (.ref b), (.ref b)])) rfl (by rw [hml]; rfl) (argsL := [(.int p1)]) (rest := [(.ref b), (.ref b)]) (lenOf pd_2 rfl) rfl (by show 2 * 0 + _ ≤ _; exact Nat.le_of_eq rfl) (hb hby d5_18) (fun _ _ => ⟨rfl, e3, (by decide : 1 + 1 ≤ _), (by decide : 4 + 1 ≤ _)⟩)
  dsimp only [Pt.U, Pt.locs, Pt.cells, Pt.slots] at X4 l4 y4 z4 st4 hQ4
  subst l4 y4 z4
  obtain ⟨rfl, N4q, K4⟩ := hQ4
  have N4 := Fr.app N2 N4q
  refine own_go (fun tz kz => st4 tz kz) ?_
  show own_Go p.tables e below _ T4 (mkF m 21 #[.val (.int p1)] [(.ref d), (.ref b), (.ref b)])
  refine own_go (fun tz kz => XS.iconst X4.here hx rfl (hb hby d5_21) kz) ?_
  show own_Go p.tables e below _ T4 (mkF m 22 #[.val (.int p1)] [(.int (0 : Int32)), (.ref d), (.ref b), (.ref b)])
  obtain ⟨_, _, ⟨T5, L5, k5, n5⟩, -, X5, ⟨Lc5, hQ5, l5, y5, z5⟩, st5⟩ := X4.specialBack hx (y := (⟨"java/lang/String", "<init>", "([BB)V"⟩ : MethodName)) rfl hown (mvT hZ (hw _ (List.mem_of_getElem? (i := 40) rfl))) (mvT hZ (hw _ (List.mem_of_getElem? (i := 41) rfl))) (mvT hZ (hw _ (List.mem_of_getElem? (i := 43) rfl))) (by decide) (backOf (W := 1) (rm8 l Z a0 hw [] b d (0 : Int32) _ _ T4.heap n0 (Nat.le_trans (Nat.le_trans Z0 E3.1) K4.1) (F_value_b.keep K4 (fun q => nomatch q)) (F_coder_b.keep K4 (fun q => nomatch q)) (A3.keep K4) g_b) hZ (hw _ (List.mem_of_getElem? (i := 43) rfl)) (hw _ (List.mem_of_getElem? (i := 27) rfl)) (by decide) (by decide)) (g := (mkF m 22 #[.val (.int p1)] [(.int (0 : Int32)), (.ref d), (.ref b), (.ref b)])) rfl (by rw [hml]; rfl) (Steps.refl _) (a := b) (argsL := [(.ref d), (.int (0 : Int32))]) (rest := [(.ref b)]) (lenOf pd_3 rfl) rfl (by show 2 * 0 + _ ≤ _; exact Nat.le_of_eq rfl) (hb hby d5_22) (fun _ _ => ⟨rfl, rfl, (by decide : 2 + 0 ≤ _), (by decide : 5 + 0 ≤ _)⟩)
  dsimp only [Pt.U, Pt.locs, Pt.cells, Pt.slots] at X5 l5 y5 z5 st5 hQ5
  subst l5 y5 z5
  obtain ⟨rfl, N5q, K5⟩ := hQ5
  have N5 := Fr.app N4 N5q
  refine own_go (fun tz kz => st5.trans kz) ?_
  show own_Go p.tables e below _ T5 (mkF m 25 #[.val (.int p1)] [(.ref b)])
  obtain ⟨fs, hr, hrun, hended, hW, hsame⟩ := X5.leave (v := some (.ref b)) (fun h => by rw [Bd.returns] at h; cases h)
  refine ⟨_, _, ?_, hrun, hended, _, _, rfl, ?_, ⟨_, rfl⟩, hW, hsame.mono (by decide) (by decide)⟩
  · exact retOut X5 hx Bd.returns rfl (Or.inr (Or.inr (Or.inr (Or.inr ⟨rfl, rfl, rfl⟩)))) (hb hby d5_25) hr
  · show Q5 Z p1 cs b h0 n0 _ T5.heap _
    exact ⟨rfl, N5, own_keep1 (((Keep.refl _ []).ext E3).trans K4 (fun x q => nomatch q)) K5 (Nat.le_of_eq eb.symm)⟩
theorem pd_4 : parseMethodDescriptor "(IILjava/lang/String;)V" = some ⟨[.int, .int, (.object "java/lang/String")], none⟩ := by decide +kernel
theorem pd_5 : parseMethodDescriptor "()Z" = some ⟨[], some .boolean⟩ := by decide +kernel
theorem pd_6 : parseMethodDescriptor "(C)Ljava/lang/String;" = some ⟨[.char], some (.object "java/lang/String")⟩ := by decide +kernel
theorem pn_4 : plainName "dexterous/io/TypedValueIsIntegerPinLaw" = true := by first | (simp [plainName, overriddenIn]; done) | decide +kernel
theorem ef_0 (m : MethodId) {p1 : Int32} {p2 : Int32} {p3 : Int32} : entryFrame m #[(.int p1), (.int p2), (.int p3)] maxLocals = mkF m 0 #[.val (.int p1), .val (.int p2), .val (.int p3), .unset, .unset, .unset] [] := by first | (simp [entryFrame, mkF, argsToLocals, Value.category, maxLocals]; done) | rfl
def Q0 (Z : State) (p1 : Int32) (p2 : Int32) (p3 : Int32) (cs : Int32) (h0 : Heap) (n0 : Nat) (v : Option Value) (h : Heap) (L : List Loc) : Prop := v = some (.int 1) ∧ Fr n0 L
set_option maxRecDepth 65536 in
set_option maxHeartbeats 40000000 in
theorem rm0 (l : Launch) (Z : State) (a0 : Array Value) (hw : ∀ d ∈ tables_1, d.before a0 Z = true) (ws : List Jvm.Cond) (p1 : Int32) (p2 : Int32) (p3 : Int32) (cs : Int32) (h0 : Heap) (n0 : Nat) (Z0 : n0 ≤ h0.size) (SC : Sta Z h0 "java/lang/String" "COMPACT_STRINGS" "Z" (.int cs)) (hcs : ¬ cs = 0) :
    MetFree l x (head1 (Jvm.Cond.code x code maxLocals ret :: ws) room_1) (fun a U => a = #[(.int p1), (.int p2), (.int p3)] ∧ Z.Warmed39 U.vm ∧ U.heap = h0) (fun _ _ _ _ _ => True) (fun _ U o U' => ∃ v L, o = .returned v ∧ Q0 Z p1 p2 p3 cs h0 n0 v U'.heap L ∧ FrameEnd U o U' L (room_1).cells (room_1).slots) := by
  refine MetFree.of_bodySF (plainFor_of_name pn_4) hisR ?_
  intro p e s m args below meth c s₁ Bd hml0 hP hK
  obtain ⟨rfl, hZ, hh⟩ := hP
  have hx := Bd.exec
  have hby := Bd.bytes
  have hml : c.maxLocals = 6 := hml0
  have hown : s.vm.findClass "dexterous/io/TypedValueIsIntegerPinLaw" = some m.cls := findClass_of_methodNamed Bd.named
  have hnm := (name_of_methodNamed Bd.named Bd.method).1
  have X0 : Stand p l e room_1 s m #[(.int p1), (.int p2), (.int p3)] below meth c s₁ [] 0 0 := Stand.of_body Bd
  have e0 : s₁.heap = h0 := by rw [← hh, Bd.state]; rfl
  have N0 := Fr.nil n0
  show own_Go p.tables e below (own_P s (Q0 Z p1 p2 p3 cs h0 n0) room_1.cells room_1.slots) s₁ _
  rw [ef_0]
  show own_Go p.tables e below _ s₁ (mkF m 0 #[.val (.int p1), .val (.int p2), .val (.int p3), .unset, .unset, .unset] [])
  refine own_go (fun tz kz => XS.aconstNull X0.here hx rfl (hb hby at_0) kz) ?_
  show own_Go p.tables e below _ s₁ (mkF m 1 #[.val (.int p1), .val (.int p2), .val (.int p3), .unset, .unset, .unset] [.null])
  refine own_go (fun tz kz => XS.astoreN X0.here hx rfl (hb hby at_1) rfl rfl (l' := #[.val (.int p1), .val (.int p2), .val (.int p3), .val .null, .unset, .unset]) rfl kz) ?_
  show own_Go p.tables e below _ s₁ (mkF m 2 #[.val (.int p1), .val (.int p2), .val (.int p3), .val .null, .unset, .unset] [])
  refine own_go (fun tz kz => XS.iloadN X0.here hx rfl (hb hby at_2) rfl kz) ?_
  show own_Go p.tables e below _ s₁ (mkF m 3 #[.val (.int p1), .val (.int p2), .val (.int p3), .val .null, .unset, .unset] [(.int p3)])
  refine own_go (fun tz kz => XS.sipush X0.here hx rfl (hb hby at_3) kz) ?_
  show own_Go p.tables e below _ s₁ (mkF m 6 #[.val (.int p1), .val (.int p2), .val (.int p3), .val .null, .unset, .unset] [(.int (256 : Int32)), (.int p3)])
  refine own_go (fun tz kz => XS.iand X0.here hx rfl (hb hby at_6) rfl kz) ?_
  show own_Go p.tables e below _ s₁ (mkF m 7 #[.val (.int p1), .val (.int p2), .val (.int p3), .val .null, .unset, .unset] [(.int (p3 &&& (256 : Int32)))])
  by_cases hc : (p3 &&& (256 : Int32)) = (0 : Int32)
  ·
    refine own_go (fun tz kz => XS.ifYes X0.here hx rfl (pc0 := 7) (pc' := 20) rfl (hb hby at_7) rfl (XT.i0_eq_t hc) (by decide) (by decide) kz) ?_
    show own_Go p.tables e below _ s₁ (mkF m 20 #[.val (.int p1), .val (.int p2), .val (.int p3), .val .null, .unset, .unset] [])
    obtain ⟨T1, h1, X1, e1, E1, A1, D1, -, st1⟩ := newO X0 hx hZ hown (hw _ (List.mem_of_getElem? (i := 0) rfl)) (hw _ (List.mem_of_getElem? (i := 1) rfl)) (hw _ (List.mem_of_getElem? (i := 2) rfl)) e0 (g := (mkF m 20 #[.val (.int p1), .val (.int p2), .val (.int p3), .val .null, .unset, .unset] [])) rfl (hb hby at_20) (by decide) (by decide)
    obtain ⟨o, eq_o⟩ : ∃ z, z = (h0).size := ⟨_, rfl⟩
    rw [← eq_o] at A1 D1 st1
    have g_o : n0 ≤ o := Nat.le_trans Z0 (Nat.le_of_eq eq_o.symm)
    have F_type_o : Fld Z h1 o "dexterous/io/TypedValue" "type" "I" (.int (0 : Int32)) := D1 (Or.inr (hw _ (List.mem_of_getElem? (i := 15) rfl))) (ty := .int) (by decide)
    have F_data_o : Fld Z h1 o "dexterous/io/TypedValue" "data" "I" (.int (0 : Int32)) := D1 (Or.inr (hw _ (List.mem_of_getElem? (i := 17) rfl))) (ty := .int) (by decide)
    have F_string_o : Fld Z h1 o "dexterous/io/TypedValue" "string" "Ljava/lang/String;" .null := D1 (Or.inr (hw _ (List.mem_of_getElem? (i := 19) rfl))) (ty := (.object "java/lang/String")) (by decide)
    refine own_go st1 ?_
    show own_Go p.tables e below _ T1 (mkF m 23 #[.val (.int p1), .val (.int p2), .val (.int p3), .val .null, .unset, .unset] [(.ref o)])
    refine own_go (fun tz kz => XS.dup X1.here hx rfl (hb hby at_23) rfl rfl kz) ?_
    show own_Go p.tables e below _ T1 (mkF m 24 #[.val (.int p1), .val (.int p2), .val (.int p3), .val .null, .unset, .unset] [(.ref o), (.ref o)])
    refine own_go (fun tz kz => XS.iloadN X1.here hx rfl (hb hby at_24) rfl kz) ?_
    show own_Go p.tables e below _ T1 (mkF m 25 #[.val (.int p1), .val (.int p2), .val (.int p3), .val .null, .unset, .unset] [(.int p1), (.ref o), (.ref o)])
    refine own_go (fun tz kz => XS.iloadN X1.here hx rfl (hb hby at_25) rfl kz) ?_
    show own_Go p.tables e below _ T1 (mkF m 26 #[.val (.int p1), .val (.int p2), .val (.int p3), .val .null, .unset, .unset] [(.int p2), (.int p1), (.ref o), (.ref o)])
    refine own_go (fun tz kz => XS.aloadN X1.here hx rfl (hb hby at_26) rfl rfl kz) ?_
    show own_Go p.tables e below _ T1 (mkF m 27 #[.val (.int p1), .val (.int p2), .val (.int p3), .val .null, .unset, .unset] [.null, (.int p2), (.int p1), (.ref o), (.ref o)])
    obtain ⟨_, _, ⟨T2, L2, k2, n2⟩, -, X2, ⟨Lc2, hQ2, l2, y2, z2⟩, st2⟩ := X1.specialBack hx (y := (⟨"dexterous/io/TypedValue", "<init>", "(IILjava/lang/String;)V"⟩ : MethodName)) rfl hown (mvT hZ (hw _ (List.mem_of_getElem? (i := 3) rfl))) (mvT hZ (hw _ (List.mem_of_getElem? (i := 4) rfl))) (mvT hZ (hw _ (List.mem_of_getElem? (i := 5) rfl))) (by decide) (backOf (W := 1) (rm1n l Z a0 hw [] o p1 p2  _ _ _ h1 n0 (Nat.le_trans Z0 E1.1) F_type_o F_data_o F_string_o A1 g_o) hZ (hw _ (List.mem_of_getElem? (i := 5) rfl)) (hw _ (List.mem_of_getElem? (i := 2) rfl)) (by decide) (by decide)) (g := (mkF m 27 #[.val (.int p1), .val (.int p2), .val (.int p3), .val .null, .unset, .unset] [.null, (.int p2), (.int p1), (.ref o), (.ref o)])) rfl (by rw [hml]; rfl) (Steps.refl _) (a := o) (argsL := [(.int p1), (.int p2), .null]) (rest := [(.ref o)]) (lenOf pd_4 rfl) rfl (by show 2 * 0 + _ ≤ _; exact Nat.le_of_eq rfl) (hb hby at_27) (fun _ _ => ⟨rfl, e1, (by decide : 1 + 0 ≤ _), (by decide : 3 + 0 ≤ _)⟩)
    dsimp only [Pt.U, Pt.locs, Pt.cells, Pt.slots] at X2 l2 y2 z2 st2 hQ2
    subst l2 y2 z2
    obtain ⟨rfl, N2q, K2, Ex, Ft, Fd, Fs⟩ := hQ2
    have N2 := Fr.app N0 N2q
    refine own_go (fun tz kz => st2.trans kz) ?_
    show own_Go p.tables e below _ T2 (mkF m 30 #[.val (.int p1), .val (.int p2), .val (.int p3), .val .null, .unset, .unset] [(.ref o)])
    refine own_go (fun tz kz => XS.astore X2.here hx rfl (hb hby at_30) rfl rfl (l' := #[.val (.int p1), .val (.int p2), .val (.int p3), .val .null, .val (.ref o), .unset]) rfl kz) ?_
    show own_Go p.tables e below _ T2 (mkF m 32 #[.val (.int p1), .val (.int p2), .val (.int p3), .val .null, .val (.ref o), .unset] [])
    refine own_go (fun tz kz => XS.iloadN X2.here hx rfl (hb hby at_32) rfl kz) ?_
    show own_Go p.tables e below _ T2 (mkF m 33 #[.val (.int p1), .val (.int p2), .val (.int p3), .val .null, .val (.ref o), .unset] [(.int p1)])
    refine own_go (fun tz kz => XS.iconst X2.here hx rfl (hb hby at_33) kz) ?_
    show own_Go p.tables e below _ T2 (mkF m 34 #[.val (.int p1), .val (.int p2), .val (.int p3), .val .null, .val (.ref o), .unset] [(.int (4 : Int32)), (.int p1)])
    refine own_go (fun tz kz => XT.ishr X2.here hx rfl (hb hby at_34) rfl kz) ?_
    show own_Go p.tables e below _ T2 (mkF m 35 #[.val (.int p1), .val (.int p2), .val (.int p3), .val .null, .val (.ref o), .unset] [(.int (p1 >>> ((4 : Int32) &&& 31)))])
    refine own_go (fun tz kz => XS.iconst X2.here hx rfl (hb hby at_35) kz) ?_
    show own_Go p.tables e below _ T2 (mkF m 36 #[.val (.int p1), .val (.int p2), .val (.int p3), .val .null, .val (.ref o), .unset] [(.int (1 : Int32)), (.int (p1 >>> ((4 : Int32) &&& 31)))])
    by_cases hx' : (p1 >>> ((4 : Int32) &&& 31)) = (1 : Int32)
    ·
      refine own_go (fun tz kz => XS.icmpNo X2.here hx rfl (hb hby at_36) rfl (XT.ii_ne_f hx') kz) ?_
      show own_Go p.tables e below _ T2 (mkF m 39 #[.val (.int p1), .val (.int p2), .val (.int p3), .val .null, .val (.ref o), .unset] [])
      refine own_go (fun tz kz => XS.iconst X2.here hx rfl (hb hby at_39) kz) ?_
      show own_Go p.tables e below _ T2 (mkF m 40 #[.val (.int p1), .val (.int p2), .val (.int p3), .val .null, .val (.ref o), .unset] [(.int (1 : Int32))])
      refine own_go (fun tz kz => XS.goto X2.here hx rfl (pc0 := 40) (pc' := 44) rfl (hb hby at_40) (by decide) (by decide) kz) ?_
      show own_Go p.tables e below _ T2 (mkF m 44 #[.val (.int p1), .val (.int p2), .val (.int p3), .val .null, .val (.ref o), .unset] [(.int (1 : Int32))])
      refine own_go (fun tz kz => XS.istore X2.here hx rfl (hb hby at_44) rfl (l' := #[.val (.int p1), .val (.int p2), .val (.int p3), .val .null, .val (.ref o), .val (.int (1 : Int32))]) rfl kz) ?_
      show own_Go p.tables e below _ T2 (mkF m 46 #[.val (.int p1), .val (.int p2), .val (.int p3), .val .null, .val (.ref o), .val (.int (1 : Int32))] [])
      refine own_go (fun tz kz => XS.aload X2.here hx rfl (hb hby at_46) rfl rfl kz) ?_
      show own_Go p.tables e below _ T2 (mkF m 48 #[.val (.int p1), .val (.int p2), .val (.int p3), .val .null, .val (.ref o), .val (.int (1 : Int32))] [(.ref o)])
      obtain ⟨cq3, kq3, q3a, q3b, q3c⟩ := isOf hZ rfl Ex
      obtain ⟨_, _, ⟨T3, L3, k3, n3⟩, -, X3, ⟨Lc3, hQ3, l3, y3, z3⟩, st3⟩ := X2.virtualBack hx (y := (⟨"dexterous/io/TypedValue", "isInteger", "()Z"⟩ : MethodName)) (z := (⟨"dexterous/io/TypedValue", "isInteger", "()Z"⟩ : MethodName)) hown (mvT hZ (hw _ (List.mem_of_getElem? (i := 20) rfl))) (mvT hZ (hw _ (List.mem_of_getElem? (i := 21) rfl))) (notFace_of_selects (args := #[]) (mvT hZ (hw _ (List.mem_of_getElem? (i := 23) rfl)))) (mvT hZ (hw _ (List.mem_of_getElem? (i := 23) rfl))) (mvT hZ (hw _ (List.mem_of_getElem? (i := 22) rfl))) (by decide) (backOf (W := 0) (rm4 l Z a0 hw [] o p1 T2.heap n0 (Nat.le_trans (Nat.le_trans Z0 E1.1) K2.1) Ft) hZ (hw _ (List.mem_of_getElem? (i := 24) rfl)) (hw _ (List.mem_of_getElem? (i := 2) rfl)) (by decide) (by decide)) q3a q3c (g := (mkF m 48 #[.val (.int p1), .val (.int p2), .val (.int p3), .val .null, .val (.ref o), .val (.int (1 : Int32))] [(.ref o)])) rfl (by rw [hml]; rfl) (Steps.refl _) (argsL := []) (rest := []) (lenOf pd_5 rfl) rfl (by show 2 * 0 + _ ≤ _; exact Nat.le_of_eq rfl) (hb hby at_48) (fun _ _ => ⟨rfl, rfl, (by decide : 1 + 0 ≤ _), (by decide : 3 + 0 ≤ _)⟩)
      dsimp only [Pt.U, Pt.locs, Pt.cells, Pt.slots] at X3 l3 y3 z3 st3 hQ3
      subst l3 y3 z3
      obtain ⟨rfl, N3q, e3⟩ := hQ3
      have N3 := Fr.app N2 N3q
      refine own_go (fun tz kz => st3.trans kz) ?_
      show own_Go p.tables e below _ T3 (mkF m 51 #[.val (.int p1), .val (.int p2), .val (.int p3), .val .null, .val (.ref o), .val (.int (1 : Int32))] [(.int (own_isint p1))])
      refine own_go (fun tz kz => XS.iload X3.here hx rfl (hb hby at_51) rfl kz) ?_
      show own_Go p.tables e below _ T3 (mkF m 53 #[.val (.int p1), .val (.int p2), .val (.int p3), .val .null, .val (.ref o), .val (.int (1 : Int32))] [(.int (1 : Int32)), (.int (own_isint p1))])
      refine own_go (fun tz kz => XS.icmpNo X3.here hx rfl (hb hby at_53) rfl (XT.ii_ne_f (own_isint1 hx')) kz) ?_
      show own_Go p.tables e below _ T3 (mkF m 56 #[.val (.int p1), .val (.int p2), .val (.int p3), .val .null, .val (.ref o), .val (.int (1 : Int32))] [])
      refine own_go (fun tz kz => XS.iconst X3.here hx rfl (hb hby at_56) kz) ?_
      show own_Go p.tables e below _ T3 (mkF m 57 #[.val (.int p1), .val (.int p2), .val (.int p3), .val .null, .val (.ref o), .val (.int (1 : Int32))] [(.int (1 : Int32))])
      refine own_go (fun tz kz => XS.goto X3.here hx rfl (pc0 := 57) (pc' := 61) rfl (hb hby at_57) (by decide) (by decide) kz) ?_
      show own_Go p.tables e below _ T3 (mkF m 61 #[.val (.int p1), .val (.int p2), .val (.int p3), .val .null, .val (.ref o), .val (.int (1 : Int32))] [(.int (1 : Int32))])
      obtain ⟨fs, hr, hrun, hended, hW, hsame⟩ := X3.leave (v := some (.int (1 : Int32))) (fun h => by rw [Bd.returns] at h; cases h)
      refine ⟨_, _, ?_, hrun, hended, _, _, rfl, ?_, ⟨_, rfl⟩, hW, hsame.mono (by decide) (by decide)⟩
      · exact retN X3 hx (t := .boolean) Bd.returns (by simp) (hb hby at_61) hr
      · show Q0 Z p1 p2 p3 cs h0 n0 _ T3.heap _
        rw [e3]
        exact ⟨rfl, N3⟩
    ·
      refine own_go (fun tz kz => XS.icmpYes X2.here hx rfl (pc0 := 36) (pc' := 43) rfl (hb hby at_36) rfl (XT.ii_ne_t hx') (by decide) (by decide) kz) ?_
      show own_Go p.tables e below _ T2 (mkF m 43 #[.val (.int p1), .val (.int p2), .val (.int p3), .val .null, .val (.ref o), .unset] [])
      refine own_go (fun tz kz => XS.iconst X2.here hx rfl (hb hby at_43) kz) ?_
      show own_Go p.tables e below _ T2 (mkF m 44 #[.val (.int p1), .val (.int p2), .val (.int p3), .val .null, .val (.ref o), .unset] [(.int (0 : Int32))])
      refine own_go (fun tz kz => XS.istore X2.here hx rfl (hb hby at_44) rfl (l' := #[.val (.int p1), .val (.int p2), .val (.int p3), .val .null, .val (.ref o), .val (.int (0 : Int32))]) rfl kz) ?_
      show own_Go p.tables e below _ T2 (mkF m 46 #[.val (.int p1), .val (.int p2), .val (.int p3), .val .null, .val (.ref o), .val (.int (0 : Int32))] [])
      refine own_go (fun tz kz => XS.aload X2.here hx rfl (hb hby at_46) rfl rfl kz) ?_
      show own_Go p.tables e below _ T2 (mkF m 48 #[.val (.int p1), .val (.int p2), .val (.int p3), .val .null, .val (.ref o), .val (.int (0 : Int32))] [(.ref o)])
      obtain ⟨cq4, kq4, q4a, q4b, q4c⟩ := isOf hZ rfl Ex
      obtain ⟨_, _, ⟨T4, L4, k4, n4⟩, -, X4, ⟨Lc4, hQ4, l4, y4, z4⟩, st4⟩ := X2.virtualBack hx (y := (⟨"dexterous/io/TypedValue", "isInteger", "()Z"⟩ : MethodName)) (z := (⟨"dexterous/io/TypedValue", "isInteger", "()Z"⟩ : MethodName)) hown (mvT hZ (hw _ (List.mem_of_getElem? (i := 20) rfl))) (mvT hZ (hw _ (List.mem_of_getElem? (i := 21) rfl))) (notFace_of_selects (args := #[]) (mvT hZ (hw _ (List.mem_of_getElem? (i := 23) rfl)))) (mvT hZ (hw _ (List.mem_of_getElem? (i := 23) rfl))) (mvT hZ (hw _ (List.mem_of_getElem? (i := 22) rfl))) (by decide) (backOf (W := 0) (rm4 l Z a0 hw [] o p1 T2.heap n0 (Nat.le_trans (Nat.le_trans Z0 E1.1) K2.1) Ft) hZ (hw _ (List.mem_of_getElem? (i := 24) rfl)) (hw _ (List.mem_of_getElem? (i := 2) rfl)) (by decide) (by decide)) q4a q4c (g := (mkF m 48 #[.val (.int p1), .val (.int p2), .val (.int p3), .val .null, .val (.ref o), .val (.int (0 : Int32))] [(.ref o)])) rfl (by rw [hml]; rfl) (Steps.refl _) (argsL := []) (rest := []) (lenOf pd_5 rfl) rfl (by show 2 * 0 + _ ≤ _; exact Nat.le_of_eq rfl) (hb hby at_48) (fun _ _ => ⟨rfl, rfl, (by decide : 1 + 0 ≤ _), (by decide : 3 + 0 ≤ _)⟩)
      dsimp only [Pt.U, Pt.locs, Pt.cells, Pt.slots] at X4 l4 y4 z4 st4 hQ4
      subst l4 y4 z4
      obtain ⟨rfl, N4q, e4⟩ := hQ4
      have N4 := Fr.app N2 N4q
      refine own_go (fun tz kz => st4.trans kz) ?_
      show own_Go p.tables e below _ T4 (mkF m 51 #[.val (.int p1), .val (.int p2), .val (.int p3), .val .null, .val (.ref o), .val (.int (0 : Int32))] [(.int (own_isint p1))])
      refine own_go (fun tz kz => XS.iload X4.here hx rfl (hb hby at_51) rfl kz) ?_
      show own_Go p.tables e below _ T4 (mkF m 53 #[.val (.int p1), .val (.int p2), .val (.int p3), .val .null, .val (.ref o), .val (.int (0 : Int32))] [(.int (0 : Int32)), (.int (own_isint p1))])
      refine own_go (fun tz kz => XS.icmpNo X4.here hx rfl (hb hby at_53) rfl (XT.ii_ne_f (own_isint0 hx')) kz) ?_
      show own_Go p.tables e below _ T4 (mkF m 56 #[.val (.int p1), .val (.int p2), .val (.int p3), .val .null, .val (.ref o), .val (.int (0 : Int32))] [])
      refine own_go (fun tz kz => XS.iconst X4.here hx rfl (hb hby at_56) kz) ?_
      show own_Go p.tables e below _ T4 (mkF m 57 #[.val (.int p1), .val (.int p2), .val (.int p3), .val .null, .val (.ref o), .val (.int (0 : Int32))] [(.int (1 : Int32))])
      refine own_go (fun tz kz => XS.goto X4.here hx rfl (pc0 := 57) (pc' := 61) rfl (hb hby at_57) (by decide) (by decide) kz) ?_
      show own_Go p.tables e below _ T4 (mkF m 61 #[.val (.int p1), .val (.int p2), .val (.int p3), .val .null, .val (.ref o), .val (.int (0 : Int32))] [(.int (1 : Int32))])
      obtain ⟨fs, hr, hrun, hended, hW, hsame⟩ := X4.leave (v := some (.int (1 : Int32))) (fun h => by rw [Bd.returns] at h; cases h)
      refine ⟨_, _, ?_, hrun, hended, _, _, rfl, ?_, ⟨_, rfl⟩, hW, hsame.mono (by decide) (by decide)⟩
      · exact retN X4 hx (t := .boolean) Bd.returns (by simp) (hb hby at_61) hr
      · show Q0 Z p1 p2 p3 cs h0 n0 _ T4.heap _
        rw [e4]
        exact ⟨rfl, N4⟩
  ·
    refine own_go (fun tz kz => XS.ifNo X0.here hx rfl (hb hby at_7) rfl (XT.i0_eq_f hc) kz) ?_
    show own_Go p.tables e below _ s₁ (mkF m 10 #[.val (.int p1), .val (.int p2), .val (.int p3), .val .null, .unset, .unset] [])
    refine own_go (fun tz kz => XS.iloadN X0.here hx rfl (hb hby at_10) rfl kz) ?_
    show own_Go p.tables e below _ s₁ (mkF m 11 #[.val (.int p1), .val (.int p2), .val (.int p3), .val .null, .unset, .unset] [(.int p3)])
    refine own_go (fun tz kz => XS.sipush X0.here hx rfl (hb hby at_11) kz) ?_
    show own_Go p.tables e below _ s₁ (mkF m 14 #[.val (.int p1), .val (.int p2), .val (.int p3), .val .null, .unset, .unset] [(.int (255 : Int32)), (.int p3)])
    refine own_go (fun tz kz => XS.iand X0.here hx rfl (hb hby at_14) rfl kz) ?_
    show own_Go p.tables e below _ s₁ (mkF m 15 #[.val (.int p1), .val (.int p2), .val (.int p3), .val .null, .unset, .unset] [(.int (p3 &&& (255 : Int32)))])
    refine own_go (fun tz kz => XT.i2c X0.here hx rfl (hb hby at_15) rfl kz) ?_
    show own_Go p.tables e below _ s₁ (mkF m 16 #[.val (.int p1), .val (.int p2), .val (.int p3), .val .null, .unset, .unset] [(.int (p3 &&& (255 : Int32)).toUInt32.toUInt16.toUInt32.toInt32)])
    generalize gch : (p3 &&& (255 : Int32)).toUInt32.toUInt16.toUInt32.toInt32 = ch
    show own_Go p.tables e below _ s₁ (mkF m 16 #[.val (.int p1), .val (.int p2), .val (.int p3), .val .null, .unset, .unset] [(.int ch)])
    have hch : ¬ (255 : Int32) < ch := by rw [← gch, i2c_mask]; exact own_mask255 p3
    obtain ⟨sb, esb⟩ : ∃ z, z = (h0).size := ⟨_, rfl⟩
    obtain ⟨_, _, ⟨T5, L5, k5, n5⟩, -, X5, ⟨Lc5, hQ5, l5, y5, z5⟩, st5⟩ := Jvm.LawKit.callS X0 hx (y := (⟨"java/lang/String", "valueOf", "(C)Ljava/lang/String;"⟩ : MethodName)) hown (mvT hZ (hw _ (List.mem_of_getElem? (i := 25) rfl))) (mvT hZ (hw _ (List.mem_of_getElem? (i := 26) rfl))) (mvT hZ (hw _ (List.mem_of_getElem? (i := 27) rfl))) (mvT hZ (hw _ (List.mem_of_getElem? (i := 28) rfl))) (by decide) (backOf (W := 0) (rm5 l Z a0 hw [] ch cs sb h0 n0 Z0 SC hcs hch esb) hZ (hw _ (List.mem_of_getElem? (i := 28) rfl)) (hw _ (List.mem_of_getElem? (i := 27) rfl)) (by decide) (by decide)) (g := (mkF m 16 #[.val (.int p1), .val (.int p2), .val (.int p3), .val .null, .unset, .unset] [(.int ch)])) rfl (by rw [hml]; rfl) (argsL := [(.int ch)]) (rest := []) (lenOf pd_6 rfl) rfl (by show 2 * 0 + _ ≤ _; exact Nat.le_of_eq rfl) (hb hby at_16) (fun _ _ => ⟨rfl, e0, (by decide : 0 + 2 ≤ _), (by decide : 0 + 5 ≤ _)⟩)
    dsimp only [Pt.U, Pt.locs, Pt.cells, Pt.slots] at X5 l5 y5 z5 st5 hQ5
    subst l5 y5 z5
    obtain ⟨rfl, N5q, K5⟩ := hQ5
    have N5 := Fr.app N0 N5q
    refine own_go (fun tz kz => st5 tz kz) ?_
    show own_Go p.tables e below _ T5 (mkF m 19 #[.val (.int p1), .val (.int p2), .val (.int p3), .val .null, .unset, .unset] [(.ref sb)])
    refine own_go (fun tz kz => XS.astoreN X5.here hx rfl (hb hby at_19) rfl rfl (l' := #[.val (.int p1), .val (.int p2), .val (.int p3), .val (.ref sb), .unset, .unset]) rfl kz) ?_
    show own_Go p.tables e below _ T5 (mkF m 20 #[.val (.int p1), .val (.int p2), .val (.int p3), .val (.ref sb), .unset, .unset] [])
    obtain ⟨T6, h6, X6, e6, E6, A6, D6, -, st6⟩ := newO X5 hx hZ hown (hw _ (List.mem_of_getElem? (i := 0) rfl)) (hw _ (List.mem_of_getElem? (i := 1) rfl)) (hw _ (List.mem_of_getElem? (i := 2) rfl)) rfl (g := (mkF m 20 #[.val (.int p1), .val (.int p2), .val (.int p3), .val (.ref sb), .unset, .unset] [])) rfl (hb hby at_20) (by decide) (by decide)
    obtain ⟨o, eq_o⟩ : ∃ z, z = (T5.heap).size := ⟨_, rfl⟩
    rw [← eq_o] at A6 D6 st6
    have g_o : n0 ≤ o := Nat.le_trans (Nat.le_trans Z0 K5.1) (Nat.le_of_eq eq_o.symm)
    have F_type_o : Fld Z h6 o "dexterous/io/TypedValue" "type" "I" (.int (0 : Int32)) := D6 (Or.inr (hw _ (List.mem_of_getElem? (i := 15) rfl))) (ty := .int) (by decide)
    have F_data_o : Fld Z h6 o "dexterous/io/TypedValue" "data" "I" (.int (0 : Int32)) := D6 (Or.inr (hw _ (List.mem_of_getElem? (i := 17) rfl))) (ty := .int) (by decide)
    have F_string_o : Fld Z h6 o "dexterous/io/TypedValue" "string" "Ljava/lang/String;" .null := D6 (Or.inr (hw _ (List.mem_of_getElem? (i := 19) rfl))) (ty := (.object "java/lang/String")) (by decide)
    refine own_go st6 ?_
    show own_Go p.tables e below _ T6 (mkF m 23 #[.val (.int p1), .val (.int p2), .val (.int p3), .val (.ref sb), .unset, .unset] [(.ref o)])
    refine own_go (fun tz kz => XS.dup X6.here hx rfl (hb hby at_23) rfl rfl kz) ?_
    show own_Go p.tables e below _ T6 (mkF m 24 #[.val (.int p1), .val (.int p2), .val (.int p3), .val (.ref sb), .unset, .unset] [(.ref o), (.ref o)])
    refine own_go (fun tz kz => XS.iloadN X6.here hx rfl (hb hby at_24) rfl kz) ?_
    show own_Go p.tables e below _ T6 (mkF m 25 #[.val (.int p1), .val (.int p2), .val (.int p3), .val (.ref sb), .unset, .unset] [(.int p1), (.ref o), (.ref o)])
    refine own_go (fun tz kz => XS.iloadN X6.here hx rfl (hb hby at_25) rfl kz) ?_
    show own_Go p.tables e below _ T6 (mkF m 26 #[.val (.int p1), .val (.int p2), .val (.int p3), .val (.ref sb), .unset, .unset] [(.int p2), (.int p1), (.ref o), (.ref o)])
    refine own_go (fun tz kz => XS.aloadN X6.here hx rfl (hb hby at_26) rfl rfl kz) ?_
    show own_Go p.tables e below _ T6 (mkF m 27 #[.val (.int p1), .val (.int p2), .val (.int p3), .val (.ref sb), .unset, .unset] [(.ref sb), (.int p2), (.int p1), (.ref o), (.ref o)])
    obtain ⟨_, _, ⟨T7, L7, k7, n7⟩, -, X7, ⟨Lc7, hQ7, l7, y7, z7⟩, st7⟩ := X6.specialBack hx (y := (⟨"dexterous/io/TypedValue", "<init>", "(IILjava/lang/String;)V"⟩ : MethodName)) rfl hown (mvT hZ (hw _ (List.mem_of_getElem? (i := 3) rfl))) (mvT hZ (hw _ (List.mem_of_getElem? (i := 4) rfl))) (mvT hZ (hw _ (List.mem_of_getElem? (i := 5) rfl))) (by decide) (backOf (W := 1) (rm1r l Z a0 hw [] o p1 p2 sb _ _ _ h6 n0 (Nat.le_trans (Nat.le_trans Z0 K5.1) E6.1) F_type_o F_data_o F_string_o A6 g_o) hZ (hw _ (List.mem_of_getElem? (i := 5) rfl)) (hw _ (List.mem_of_getElem? (i := 2) rfl)) (by decide) (by decide)) (g := (mkF m 27 #[.val (.int p1), .val (.int p2), .val (.int p3), .val (.ref sb), .unset, .unset] [(.ref sb), (.int p2), (.int p1), (.ref o), (.ref o)])) rfl (by rw [hml]; rfl) (Steps.refl _) (a := o) (argsL := [(.int p1), (.int p2), (.ref sb)]) (rest := [(.ref o)]) (lenOf pd_4 rfl) rfl (by show 2 * 0 + _ ≤ _; exact Nat.le_of_eq rfl) (hb hby at_27) (fun _ _ => ⟨rfl, e6, (by decide : 3 + 0 ≤ _), (by decide : 8 + 0 ≤ _)⟩)
    dsimp only [Pt.U, Pt.locs, Pt.cells, Pt.slots] at X7 l7 y7 z7 st7 hQ7
    subst l7 y7 z7
    obtain ⟨rfl, N7q, K7, Ex, Ft, Fd, Fs⟩ := hQ7
    have N7 := Fr.app N5 N7q
    refine own_go (fun tz kz => st7.trans kz) ?_
    show own_Go p.tables e below _ T7 (mkF m 30 #[.val (.int p1), .val (.int p2), .val (.int p3), .val (.ref sb), .unset, .unset] [(.ref o)])
    refine own_go (fun tz kz => XS.astore X7.here hx rfl (hb hby at_30) rfl rfl (l' := #[.val (.int p1), .val (.int p2), .val (.int p3), .val (.ref sb), .val (.ref o), .unset]) rfl kz) ?_
    show own_Go p.tables e below _ T7 (mkF m 32 #[.val (.int p1), .val (.int p2), .val (.int p3), .val (.ref sb), .val (.ref o), .unset] [])
    refine own_go (fun tz kz => XS.iloadN X7.here hx rfl (hb hby at_32) rfl kz) ?_
    show own_Go p.tables e below _ T7 (mkF m 33 #[.val (.int p1), .val (.int p2), .val (.int p3), .val (.ref sb), .val (.ref o), .unset] [(.int p1)])
    refine own_go (fun tz kz => XS.iconst X7.here hx rfl (hb hby at_33) kz) ?_
    show own_Go p.tables e below _ T7 (mkF m 34 #[.val (.int p1), .val (.int p2), .val (.int p3), .val (.ref sb), .val (.ref o), .unset] [(.int (4 : Int32)), (.int p1)])
    refine own_go (fun tz kz => XT.ishr X7.here hx rfl (hb hby at_34) rfl kz) ?_
    show own_Go p.tables e below _ T7 (mkF m 35 #[.val (.int p1), .val (.int p2), .val (.int p3), .val (.ref sb), .val (.ref o), .unset] [(.int (p1 >>> ((4 : Int32) &&& 31)))])
    refine own_go (fun tz kz => XS.iconst X7.here hx rfl (hb hby at_35) kz) ?_
    show own_Go p.tables e below _ T7 (mkF m 36 #[.val (.int p1), .val (.int p2), .val (.int p3), .val (.ref sb), .val (.ref o), .unset] [(.int (1 : Int32)), (.int (p1 >>> ((4 : Int32) &&& 31)))])
    by_cases hx' : (p1 >>> ((4 : Int32) &&& 31)) = (1 : Int32)
    ·
      refine own_go (fun tz kz => XS.icmpNo X7.here hx rfl (hb hby at_36) rfl (XT.ii_ne_f hx') kz) ?_
      show own_Go p.tables e below _ T7 (mkF m 39 #[.val (.int p1), .val (.int p2), .val (.int p3), .val (.ref sb), .val (.ref o), .unset] [])
      refine own_go (fun tz kz => XS.iconst X7.here hx rfl (hb hby at_39) kz) ?_
      show own_Go p.tables e below _ T7 (mkF m 40 #[.val (.int p1), .val (.int p2), .val (.int p3), .val (.ref sb), .val (.ref o), .unset] [(.int (1 : Int32))])
      refine own_go (fun tz kz => XS.goto X7.here hx rfl (pc0 := 40) (pc' := 44) rfl (hb hby at_40) (by decide) (by decide) kz) ?_
      show own_Go p.tables e below _ T7 (mkF m 44 #[.val (.int p1), .val (.int p2), .val (.int p3), .val (.ref sb), .val (.ref o), .unset] [(.int (1 : Int32))])
      refine own_go (fun tz kz => XS.istore X7.here hx rfl (hb hby at_44) rfl (l' := #[.val (.int p1), .val (.int p2), .val (.int p3), .val (.ref sb), .val (.ref o), .val (.int (1 : Int32))]) rfl kz) ?_
      show own_Go p.tables e below _ T7 (mkF m 46 #[.val (.int p1), .val (.int p2), .val (.int p3), .val (.ref sb), .val (.ref o), .val (.int (1 : Int32))] [])
      refine own_go (fun tz kz => XS.aload X7.here hx rfl (hb hby at_46) rfl rfl kz) ?_
      show own_Go p.tables e below _ T7 (mkF m 48 #[.val (.int p1), .val (.int p2), .val (.int p3), .val (.ref sb), .val (.ref o), .val (.int (1 : Int32))] [(.ref o)])
      obtain ⟨cq8, kq8, q8a, q8b, q8c⟩ := isOf hZ rfl Ex
      obtain ⟨_, _, ⟨T8, L8, k8, n8⟩, -, X8, ⟨Lc8, hQ8, l8, y8, z8⟩, st8⟩ := X7.virtualBack hx (y := (⟨"dexterous/io/TypedValue", "isInteger", "()Z"⟩ : MethodName)) (z := (⟨"dexterous/io/TypedValue", "isInteger", "()Z"⟩ : MethodName)) hown (mvT hZ (hw _ (List.mem_of_getElem? (i := 20) rfl))) (mvT hZ (hw _ (List.mem_of_getElem? (i := 21) rfl))) (notFace_of_selects (args := #[]) (mvT hZ (hw _ (List.mem_of_getElem? (i := 23) rfl)))) (mvT hZ (hw _ (List.mem_of_getElem? (i := 23) rfl))) (mvT hZ (hw _ (List.mem_of_getElem? (i := 22) rfl))) (by decide) (backOf (W := 0) (rm4 l Z a0 hw [] o p1 T7.heap n0 (Nat.le_trans (Nat.le_trans (Nat.le_trans Z0 K5.1) E6.1) K7.1) Ft) hZ (hw _ (List.mem_of_getElem? (i := 24) rfl)) (hw _ (List.mem_of_getElem? (i := 2) rfl)) (by decide) (by decide)) q8a q8c (g := (mkF m 48 #[.val (.int p1), .val (.int p2), .val (.int p3), .val (.ref sb), .val (.ref o), .val (.int (1 : Int32))] [(.ref o)])) rfl (by rw [hml]; rfl) (Steps.refl _) (argsL := []) (rest := []) (lenOf pd_5 rfl) rfl (by show 2 * 0 + _ ≤ _; exact Nat.le_of_eq rfl) (hb hby at_48) (fun _ _ => ⟨rfl, rfl, (by decide : 3 + 0 ≤ _), (by decide : 8 + 0 ≤ _)⟩)
      dsimp only [Pt.U, Pt.locs, Pt.cells, Pt.slots] at X8 l8 y8 z8 st8 hQ8
      subst l8 y8 z8
      obtain ⟨rfl, N8q, e8⟩ := hQ8
      have N8 := Fr.app N7 N8q
      refine own_go (fun tz kz => st8.trans kz) ?_
      show own_Go p.tables e below _ T8 (mkF m 51 #[.val (.int p1), .val (.int p2), .val (.int p3), .val (.ref sb), .val (.ref o), .val (.int (1 : Int32))] [(.int (own_isint p1))])
      refine own_go (fun tz kz => XS.iload X8.here hx rfl (hb hby at_51) rfl kz) ?_
      show own_Go p.tables e below _ T8 (mkF m 53 #[.val (.int p1), .val (.int p2), .val (.int p3), .val (.ref sb), .val (.ref o), .val (.int (1 : Int32))] [(.int (1 : Int32)), (.int (own_isint p1))])
      refine own_go (fun tz kz => XS.icmpNo X8.here hx rfl (hb hby at_53) rfl (XT.ii_ne_f (own_isint1 hx')) kz) ?_
      show own_Go p.tables e below _ T8 (mkF m 56 #[.val (.int p1), .val (.int p2), .val (.int p3), .val (.ref sb), .val (.ref o), .val (.int (1 : Int32))] [])
      refine own_go (fun tz kz => XS.iconst X8.here hx rfl (hb hby at_56) kz) ?_
      show own_Go p.tables e below _ T8 (mkF m 57 #[.val (.int p1), .val (.int p2), .val (.int p3), .val (.ref sb), .val (.ref o), .val (.int (1 : Int32))] [(.int (1 : Int32))])
      refine own_go (fun tz kz => XS.goto X8.here hx rfl (pc0 := 57) (pc' := 61) rfl (hb hby at_57) (by decide) (by decide) kz) ?_
      show own_Go p.tables e below _ T8 (mkF m 61 #[.val (.int p1), .val (.int p2), .val (.int p3), .val (.ref sb), .val (.ref o), .val (.int (1 : Int32))] [(.int (1 : Int32))])
      obtain ⟨fs, hr, hrun, hended, hW, hsame⟩ := X8.leave (v := some (.int (1 : Int32))) (fun h => by rw [Bd.returns] at h; cases h)
      refine ⟨_, _, ?_, hrun, hended, _, _, rfl, ?_, ⟨_, rfl⟩, hW, hsame.mono (by decide) (by decide)⟩
      · exact retN X8 hx (t := .boolean) Bd.returns (by simp) (hb hby at_61) hr
      · show Q0 Z p1 p2 p3 cs h0 n0 _ T8.heap _
        rw [e8]
        exact ⟨rfl, N8⟩
    ·
      refine own_go (fun tz kz => XS.icmpYes X7.here hx rfl (pc0 := 36) (pc' := 43) rfl (hb hby at_36) rfl (XT.ii_ne_t hx') (by decide) (by decide) kz) ?_
      show own_Go p.tables e below _ T7 (mkF m 43 #[.val (.int p1), .val (.int p2), .val (.int p3), .val (.ref sb), .val (.ref o), .unset] [])
      refine own_go (fun tz kz => XS.iconst X7.here hx rfl (hb hby at_43) kz) ?_
      show own_Go p.tables e below _ T7 (mkF m 44 #[.val (.int p1), .val (.int p2), .val (.int p3), .val (.ref sb), .val (.ref o), .unset] [(.int (0 : Int32))])
      refine own_go (fun tz kz => XS.istore X7.here hx rfl (hb hby at_44) rfl (l' := #[.val (.int p1), .val (.int p2), .val (.int p3), .val (.ref sb), .val (.ref o), .val (.int (0 : Int32))]) rfl kz) ?_
      show own_Go p.tables e below _ T7 (mkF m 46 #[.val (.int p1), .val (.int p2), .val (.int p3), .val (.ref sb), .val (.ref o), .val (.int (0 : Int32))] [])
      refine own_go (fun tz kz => XS.aload X7.here hx rfl (hb hby at_46) rfl rfl kz) ?_
      show own_Go p.tables e below _ T7 (mkF m 48 #[.val (.int p1), .val (.int p2), .val (.int p3), .val (.ref sb), .val (.ref o), .val (.int (0 : Int32))] [(.ref o)])
      obtain ⟨cq9, kq9, q9a, q9b, q9c⟩ := isOf hZ rfl Ex
      obtain ⟨_, _, ⟨T9, L9, k9, n9⟩, -, X9, ⟨Lc9, hQ9, l9, y9, z9⟩, st9⟩ := X7.virtualBack hx (y := (⟨"dexterous/io/TypedValue", "isInteger", "()Z"⟩ : MethodName)) (z := (⟨"dexterous/io/TypedValue", "isInteger", "()Z"⟩ : MethodName)) hown (mvT hZ (hw _ (List.mem_of_getElem? (i := 20) rfl))) (mvT hZ (hw _ (List.mem_of_getElem? (i := 21) rfl))) (notFace_of_selects (args := #[]) (mvT hZ (hw _ (List.mem_of_getElem? (i := 23) rfl)))) (mvT hZ (hw _ (List.mem_of_getElem? (i := 23) rfl))) (mvT hZ (hw _ (List.mem_of_getElem? (i := 22) rfl))) (by decide) (backOf (W := 0) (rm4 l Z a0 hw [] o p1 T7.heap n0 (Nat.le_trans (Nat.le_trans (Nat.le_trans Z0 K5.1) E6.1) K7.1) Ft) hZ (hw _ (List.mem_of_getElem? (i := 24) rfl)) (hw _ (List.mem_of_getElem? (i := 2) rfl)) (by decide) (by decide)) q9a q9c (g := (mkF m 48 #[.val (.int p1), .val (.int p2), .val (.int p3), .val (.ref sb), .val (.ref o), .val (.int (0 : Int32))] [(.ref o)])) rfl (by rw [hml]; rfl) (Steps.refl _) (argsL := []) (rest := []) (lenOf pd_5 rfl) rfl (by show 2 * 0 + _ ≤ _; exact Nat.le_of_eq rfl) (hb hby at_48) (fun _ _ => ⟨rfl, rfl, (by decide : 3 + 0 ≤ _), (by decide : 8 + 0 ≤ _)⟩)
      dsimp only [Pt.U, Pt.locs, Pt.cells, Pt.slots] at X9 l9 y9 z9 st9 hQ9
      subst l9 y9 z9
      obtain ⟨rfl, N9q, e9⟩ := hQ9
      have N9 := Fr.app N7 N9q
      refine own_go (fun tz kz => st9.trans kz) ?_
      show own_Go p.tables e below _ T9 (mkF m 51 #[.val (.int p1), .val (.int p2), .val (.int p3), .val (.ref sb), .val (.ref o), .val (.int (0 : Int32))] [(.int (own_isint p1))])
      refine own_go (fun tz kz => XS.iload X9.here hx rfl (hb hby at_51) rfl kz) ?_
      show own_Go p.tables e below _ T9 (mkF m 53 #[.val (.int p1), .val (.int p2), .val (.int p3), .val (.ref sb), .val (.ref o), .val (.int (0 : Int32))] [(.int (0 : Int32)), (.int (own_isint p1))])
      refine own_go (fun tz kz => XS.icmpNo X9.here hx rfl (hb hby at_53) rfl (XT.ii_ne_f (own_isint0 hx')) kz) ?_
      show own_Go p.tables e below _ T9 (mkF m 56 #[.val (.int p1), .val (.int p2), .val (.int p3), .val (.ref sb), .val (.ref o), .val (.int (0 : Int32))] [])
      refine own_go (fun tz kz => XS.iconst X9.here hx rfl (hb hby at_56) kz) ?_
      show own_Go p.tables e below _ T9 (mkF m 57 #[.val (.int p1), .val (.int p2), .val (.int p3), .val (.ref sb), .val (.ref o), .val (.int (0 : Int32))] [(.int (1 : Int32))])
      refine own_go (fun tz kz => XS.goto X9.here hx rfl (pc0 := 57) (pc' := 61) rfl (hb hby at_57) (by decide) (by decide) kz) ?_
      show own_Go p.tables e below _ T9 (mkF m 61 #[.val (.int p1), .val (.int p2), .val (.int p3), .val (.ref sb), .val (.ref o), .val (.int (0 : Int32))] [(.int (1 : Int32))])
      obtain ⟨fs, hr, hrun, hended, hW, hsame⟩ := X9.leave (v := some (.int (1 : Int32))) (fun h => by rw [Bd.returns] at h; cases h)
      refine ⟨_, _, ?_, hrun, hended, _, _, rfl, ?_, ⟨_, rfl⟩, hW, hsame.mono (by decide) (by decide)⟩
      · exact retN X9 hx (t := .boolean) Bd.returns (by simp) (hb hby at_61) hr
      · show Q0 Z p1 p2 p3 cs h0 n0 _ T9.heap _
        rw [e9]
        exact ⟨rfl, N9⟩
set_option maxRecDepth 65536 in
set_option maxHeartbeats 40000000 in
theorem comes_1 {Post : Tables → Env → Array Value → State → Outcome → State → Prop} (hpost : ∀ tb e args s v u, (limb_1_1.after args s (.returned v) u = true ∧ limb_1_2.after args s (.returned v) u = true ∧ True) → FrameEnd s (.returned v) u (Jvm.fieldLocs frame_1_writes args s ++ Jvm.arrayLocs frame_1_arrays args s ++ Jvm.staticLocs frame_1_statics s) 16 128 → Post tb e args s (.returned v) u) :
    ArmFor flags0 classFile x code maxLocals ret World_1 tables_1 room_1 Calls_1 rest_1 Pre_1 Post := by
  intro l hfl _ _ p e ha hc hk s m args below hf hA hF happ hP
  obtain ⟨hcalls, hrest, hpre⟩ := hP
  obtain ⟨-, -, -, hnamed, -, -, -, hat⟩ := (Spec.applies_iff hf).mp happ
  obtain ⟨hg, hn⟩ := and_e (Cond.before_iff.mp (show (Jvm.Cond.and given_1 narrow_1).before args s = true from hpre))
  obtain ⟨gc, ga0⟩ := and_e hg
  obtain ⟨gv0, ga1⟩ := and_e ga0
  obtain ⟨gv1, ga2⟩ := and_e ga1
  have gv2 := ga2
  obtain ⟨w0, w1, w2, rfl⟩ : ∃ w0 w1 w2 : Value, args = #[w0, w1, w2] := by
    have hs : args.size = 3 := by simpa [Cond.value, given_1] using gc
    obtain ⟨L⟩ := args
    match L, hs with
    | [w0, w1, w2], _ => exact ⟨w0, w1, w2, rfl⟩
  have hw := fun d (hd : d ∈ tables_1) => atoms_spec (ws := Jvm.Cond.code x code maxLocals ret :: tables_1) hat d (List.mem_cons_of_mem _ hd)
  have hfit : Fit s := fun {y c} hc i hi => by
    obtain ⟨ha, rfl⟩ := Array.getElem?_eq_some_iff.mp hc
    have q := List.all_eq_true.mp ((Array.all_eq_true_iff_forall_mem.mp hF) _ (Array.getElem_mem ha)) i (List.mem_range.mpr hi)
    simpa [Array.getElem?_eq_getElem hi] using q
  obtain ⟨hsets, hown0⟩ := atoms_of _ (rest_1_c_eq ▸ (show rest_1_c.before _ s = true from hrest))
  have hr0 := Cond.before_iff.mp hown0
  obtain ⟨i0, ei0⟩ := is_v gv0
  obtain rfl : w0 = (.int i0) := Option.some.inj ei0
  obtain ⟨i1, ei1⟩ := is_v gv1
  obtain rfl : w1 = (.int i1) := Option.some.inj ei1
  obtain ⟨i2, ei2⟩ := is_v gv2
  obtain rfl : w2 = (.int i2) := Option.some.inj ei2
  have n3 := not_v (Cond.before_iff.mp (hsets _ (List.mem_of_getElem? (i := 2) rfl)))
  obtain ⟨cs, ecs⟩ := is_v (Cond.before_iff.mp (hsets _ (List.mem_of_getElem? (i := 1) rfl)))
  have SC : Sta s s.heap "java/lang/String" "COMPACT_STRINGS" "Z" (.int cs) := Sta.start ecs (Or.inl (hsets _ (List.mem_of_getElem? (i := 0) rfl)))
  have hcs : ¬ (cs = (0 : Int32)) := gotF (Cond.eq_ints ecs (Term.int_eval (0))) n3
  obtain ⟨n, o, h1, h2, h3, _, L, rfl, ⟨rfl, N⟩, hq⟩ := rm0 l s _ hw tables_1 i0 i1 i2 cs s.heap s.heap.size (Nat.le_refl _) SC hcs p e ha hc hk s m _ below hf ((Spec.applies_iff_loose hf).mp happ).1 ⟨rfl, State.Warmed39.refl s, rfl⟩ trivial
  exact ⟨n, _, h1, h2, h3, hpost _ _ _ _ _ _ ⟨Cond.after_iff.mpr rfl, Cond.after_iff.mpr (eq_i res_at (Term.int_eval (1)) rfl), trivial⟩ ⟨hq.1, hq.2.1, (hq.2.2.sift fun y hy => Or.inr (N y hy)).mono (by decide) (by decide)⟩⟩
theorem main_1_1 : Claimed_1_1 := comes_1 fun _ _ _ _ _ _ h hF => ⟨h.1, hF⟩
theorem main_1_2 : Claimed_1_2 := comes_1 fun _ _ _ _ _ _ h hF => ⟨h.2.1, hF⟩
end Jvm.Pilot.@@N@@
namespace Jvm.Pilot.@@N@@
open Jvm Jvm.ClassFile Sem Op Lib Jvm.Free Jvm.Stand Jvm.Pilot.@@N@@.Jvm.D
/-! MADE BY PROGRAM (witnessworld.py) out of the Statement's table words and the real class files: 18 classes; the members and pool entries that the words name. The judged class is class 1, her method 1. -/
namespace start1
open Jvm.ClassFile
def u (s : String) : CpInfo := .utf8 (stringToUtf16 s)
/-- a pool by its gaps: so many unusable entries, then the entry; so many at the end -/
def gap : Nat → List CpInfo → List CpInfo
  | 0, r => r
  | n + 1, r => .unusable :: gap n r
def poolList (es : List (Nat × CpInfo)) (last : Nat) : List CpInfo := es.foldr (fun e r => gap e.1 (e.2 :: r)) (gap last [])
def pool (es : List (Nat × CpInfo)) (last : Nat) : Array CpInfo := ⟨poolList es last⟩
def fileOf (pool : Array CpInfo) (this : Nat) (attrs : Array Attribute := #[]) (ms : Array MethodInfo := #[]) (fl : Nat := 33) (sup : Nat := 0) (ifs : Array Nat := #[]) (fds : Array FieldInfo := #[]) : ClassFile where
  minorVersion := 0
  majorVersion := 65
  constantPool := pool
  accessFlags := fl
  thisClass := this
  superClass := sup
  interfaces := ifs
  fields := fds
  methods := ms
  attributes := attrs
def plain (name : String) (sup : Option ClassId) : Class where
  name := name
  kind := .ordinary
  loader := none
  accessFlags := 33
  super := sup
  interfaces := #[]
  cf := none
  fields := #[]
  methods := #[]
  instanceTypes := #[]
  staticTypes := #[]
  resolved := #[]
  callSites := []
  init := .initialized
  statics := none
  mirror := none

def pool0 : Array CpInfo := pool [(5, u "<init>"), (0, u "()V"), (1, .class_ 10), (1, u "java/lang/Object")] 113

def k0c0 : Code := { maxStack := 0, maxLocals := 1, code := object_method_1_code, exceptionTable := #[], attributes := #[] }
def k0m0 : Method := { name := "<init>", desc := "()V", sig := { parameters := [], returnType := none }, accessFlags := 1, code := some k0c0 }
/-- java/lang/Object -/
def k0 : Class := { plain "java/lang/Object" none with
  accessFlags := 33
  interfaces := #[]
  cf := some (fileOf pool0 8 #[] #[{ accessFlags := 1, nameIndex := 5, descriptorIndex := 6, attributes := #[] }] 33 0 #[] #[])
  fields := #[]
  methods := #[k0m0]
  instanceTypes := #[]
  staticTypes := #[]
  resolved := Array.replicate 124 none
  statics := none }

def pool1 : Array CpInfo := pool [(2, .class_ 4), (1, u "java/lang/Object"), (0, u "<init>"), (0, u "()V"), (0, .methodref 8 9), (0, .class_ 10), (0, .nameAndType 11 12), (0, u "java/lang/String"), (0, u "valueOf"), (0, u "(C)Ljava/lang/String;"), (0, .class_ 14), (0, u "dexterous/io/TypedValue"), (0, .methodref 13 16), (0, .nameAndType 5 17), (0, u "(IILjava/lang/String;)V"), (0, .methodref 13 19), (0, .nameAndType 20 21), (0, u "isInteger"), (0, u "()Z"), (0, .class_ 23), (0, u "dexterous/io/TypedValueIsIntegerPinLaw"), (2, u "law"), (0, u "(III)Z")] 3

def k1m0 : Method := { name := "<init>", desc := "()V", sig := { parameters := [], returnType := none }, accessFlags := 1, code := none }
def k1c1 : Code := { maxStack := 5, maxLocals := 6, code := code, exceptionTable := #[], attributes := #[] }
def k1m1 : Method := { name := "law", desc := "(III)Z", sig := { parameters := [.int, .int, .int], returnType := some .boolean }, accessFlags := 9, code := some k1c1 }
/-- dexterous/io/TypedValueIsIntegerPinLaw -/
def k1 : Class := { plain "dexterous/io/TypedValueIsIntegerPinLaw" (some 0) with
  accessFlags := 49
  interfaces := #[]
  cf := some (fileOf pool1 22 #[] #[{ accessFlags := 1, nameIndex := 5, descriptorIndex := 6, attributes := #[] }, { accessFlags := 9, nameIndex := 26, descriptorIndex := 27, attributes := #[] }] 49 2 #[] #[])
  fields := #[]
  methods := #[k1m0, k1m1]
  instanceTypes := #[]
  staticTypes := #[]
  resolved := Array.replicate 31 none
  statics := none }

def pool2 : Array CpInfo := pool [(1, .methodref 2 3), (0, .class_ 4), (0, .nameAndType 5 6), (0, u "java/lang/Object"), (0, u "<init>"), (0, u "()V"), (0, .class_ 8), (0, u "java/lang/Record")] 13

def k2c0 : Code := { maxStack := 1, maxLocals := 1, code := jdk_30_method_1_code, exceptionTable := #[], attributes := #[] }
def k2m0 : Method := { name := "<init>", desc := "()V", sig := { parameters := [], returnType := none }, accessFlags := 4, code := some k2c0 }
/-- java/lang/Record -/
def k2 : Class := { plain "java/lang/Record" (some 0) with
  accessFlags := 1057
  interfaces := #[]
  cf := some (fileOf pool2 7 #[] #[{ accessFlags := 4, nameIndex := 5, descriptorIndex := 6, attributes := #[] }] 1057 2 #[] #[])
  fields := #[]
  methods := #[k2m0]
  instanceTypes := #[]
  staticTypes := #[]
  resolved := Array.replicate 22 none
  statics := none }

def pool3 : Array CpInfo := pool [(1, .methodref 2 3), (0, .class_ 4), (0, .nameAndType 5 6), (0, u "java/lang/Record"), (0, u "<init>"), (0, u "()V"), (0, .fieldref 8 9), (0, .class_ 10), (0, .nameAndType 11 12), (0, u "dexterous/io/TypedValue"), (0, u "type"), (0, u "I"), (0, .fieldref 8 14), (0, .nameAndType 15 12), (0, u "data"), (0, .fieldref 8 17), (0, .nameAndType 18 19), (0, u "string"), (0, u "Ljava/lang/String;"), (15, u "(IILjava/lang/String;)V"), (18, u "TYPE_REFERENCE"), (2, u "TYPE_STRING"), (1, u "TYPE_INT_DEC"), (1, u "TYPE_INT_BOOLEAN"), (1, u "TYPE_LAST_INT"), (1, u "TYPE_OFFSET"), (0, u "DATA_OFFSET"), (4, u "isInteger"), (0, u "()Z")] 32

def k3c0 : Code := { maxStack := 2, maxLocals := 4, code := prog_25_method_1_code, exceptionTable := #[], attributes := #[] }
def k3m0 : Method := { name := "<init>", desc := "(IILjava/lang/String;)V", sig := { parameters := [.int, .int, (.object "java/lang/String")], returnType := none }, accessFlags := 1, code := some k3c0 }
def k3c1 : Code := { maxStack := 2, maxLocals := 1, code := prog_25_method_2_code, exceptionTable := #[], attributes := #[] }
def k3m1 : Method := { name := "isInteger", desc := "()Z", sig := { parameters := [], returnType := some .boolean }, accessFlags := 1, code := some k3c1 }
/-- dexterous/io/TypedValue -/
def k3 : Class := { plain "dexterous/io/TypedValue" (some 2) with
  accessFlags := 49
  interfaces := #[]
  cf := some (fileOf pool3 8 #[] #[{ accessFlags := 1, nameIndex := 5, descriptorIndex := 35, attributes := #[] }, { accessFlags := 1, nameIndex := 71, descriptorIndex := 72, attributes := #[] }] 49 2 #[] #[{ accessFlags := 18, nameIndex := 11, descriptorIndex := 12, attributes := #[] }, { accessFlags := 18, nameIndex := 15, descriptorIndex := 12, attributes := #[] }, { accessFlags := 18, nameIndex := 18, descriptorIndex := 19, attributes := #[] }, { accessFlags := 25, nameIndex := 54, descriptorIndex := 12, attributes := #[] }, { accessFlags := 25, nameIndex := 57, descriptorIndex := 12, attributes := #[] }, { accessFlags := 25, nameIndex := 59, descriptorIndex := 12, attributes := #[] }, { accessFlags := 25, nameIndex := 61, descriptorIndex := 12, attributes := #[] }, { accessFlags := 26, nameIndex := 63, descriptorIndex := 12, attributes := #[] }, { accessFlags := 26, nameIndex := 65, descriptorIndex := 12, attributes := #[] }, { accessFlags := 26, nameIndex := 66, descriptorIndex := 12, attributes := #[] }])
  fields := #[{ name := "type", type := .int, accessFlags := 18, slot := 0, constantValue := 0 }, { name := "data", type := .int, accessFlags := 18, slot := 1, constantValue := 0 }, { name := "string", type := (.object "java/lang/String"), accessFlags := 18, slot := 2, constantValue := 0 }, { name := "TYPE_REFERENCE", type := .int, accessFlags := 25, slot := 0, constantValue := 0 }, { name := "TYPE_STRING", type := .int, accessFlags := 25, slot := 1, constantValue := 0 }, { name := "TYPE_INT_DEC", type := .int, accessFlags := 25, slot := 2, constantValue := 0 }, { name := "TYPE_INT_BOOLEAN", type := .int, accessFlags := 25, slot := 3, constantValue := 0 }, { name := "TYPE_LAST_INT", type := .int, accessFlags := 26, slot := 4, constantValue := 0 }, { name := "TYPE_OFFSET", type := .int, accessFlags := 26, slot := 5, constantValue := 0 }, { name := "DATA_OFFSET", type := .int, accessFlags := 26, slot := 6, constantValue := 0 }]
  methods := #[k3m0, k3m1]
  instanceTypes := #[.int, .int, (.object "java/lang/String")]
  staticTypes := #[.int, .int, .int, .int, .int, .int, .int]
  resolved := Array.replicate 105 none
  statics := none }

def pool4 : Array CpInfo := pool [(1, .class_ 2), (0, u "java/io/Serializable"), (0, .class_ 4), (0, u "java/lang/Object")] 2

/-- java/io/Serializable -/
def k4 : Class := { plain "java/io/Serializable" (some 0) with
  accessFlags := 1537
  interfaces := #[]
  cf := some (fileOf pool4 1 #[] #[] 1537 3 #[] #[])
  fields := #[]
  methods := #[]
  instanceTypes := #[]
  staticTypes := #[]
  resolved := Array.replicate 7 none
  statics := none }

def pool5 : Array CpInfo := pool [(1, .class_ 2), (0, u "java/lang/Comparable"), (0, .class_ 4), (0, u "java/lang/Object")] 7

/-- java/lang/Comparable -/
def k5 : Class := { plain "java/lang/Comparable" (some 0) with
  accessFlags := 1537
  interfaces := #[]
  cf := some (fileOf pool5 1 #[] #[] 1537 3 #[] #[])
  fields := #[]
  methods := #[]
  instanceTypes := #[]
  staticTypes := #[]
  resolved := Array.replicate 12 none
  statics := none }

def pool6 : Array CpInfo := pool [(2, .class_ 4), (1, u "java/lang/CharSequence"), (42, .class_ 48), (0, u "java/lang/CharSequence$1CodePointIterator"), (10, .class_ 60), (0, u "java/lang/CharSequence$1CharIterator"), (5, .class_ 67), (0, u "java/lang/Object")] 63

/-- java/lang/CharSequence -/
def k6 : Class := { plain "java/lang/CharSequence" (some 0) with
  accessFlags := 1537
  interfaces := #[]
  cf := some (fileOf pool6 2 #[.nestMembers #[47, 59]] #[] 1537 66 #[] #[])
  fields := #[]
  methods := #[]
  instanceTypes := #[]
  staticTypes := #[]
  resolved := Array.replicate 131 none
  statics := none }

def pool7 : Array CpInfo := pool [(1, .class_ 2), (0, u "java/lang/constant/Constable"), (0, .class_ 4), (0, u "java/lang/Object")] 6

/-- java/lang/constant/Constable -/
def k7 : Class := { plain "java/lang/constant/Constable" (some 0) with
  accessFlags := 1537
  interfaces := #[]
  cf := some (fileOf pool7 1 #[] #[] 1537 3 #[] #[])
  fields := #[]
  methods := #[]
  instanceTypes := #[]
  staticTypes := #[]
  resolved := Array.replicate 11 none
  statics := none }

def pool8 : Array CpInfo := pool [(1, .class_ 2), (0, u "java/lang/constant/ConstantDesc"), (0, .class_ 4), (0, u "java/lang/Object")] 32

/-- java/lang/constant/ConstantDesc -/
def k8 : Class := { plain "java/lang/constant/ConstantDesc" (some 0) with
  accessFlags := 1537
  interfaces := #[]
  cf := some (fileOf pool8 1 #[] #[] 1537 3 #[] #[])
  fields := #[]
  methods := #[]
  instanceTypes := #[]
  staticTypes := #[]
  resolved := Array.replicate 37 none
  statics := none }

def pool9 : Array CpInfo := pool [(1, .methodref 2 3), (0, .class_ 4), (0, .nameAndType 5 6), (0, u "java/lang/Object"), (0, u "<init>"), (0, u "()V"), (2, .fieldref 10 11), (0, .class_ 12), (0, .nameAndType 13 14), (0, u "java/lang/String"), (0, u "value"), (0, u "[B"), (0, .fieldref 10 16), (0, .nameAndType 17 18), (0, u "coder"), (0, u "B"), (2, u "hash"), (0, u "I"), (2, u "hashIsZero"), (0, u "Z"), (11, .fieldref 10 39), (0, .nameAndType 40 26), (0, u "COMPACT_STRINGS"), (12, u "toBytes"), (53, .class_ 109), (1, u "java/lang/StringLatin1"), (99, .methodref 10 210), (0, .nameAndType 5 211), (0, u "([BB)V"), (157, u "(C)Z"), (205, .class_ 576), (0, u "java/lang/CharSequence"), (22, u "CASE_INSENSITIVE_ORDER"), (0, u "Ljava/util/Comparator;"), (181, u "valueOf"), (0, u "(C)Ljava/lang/String;"), (231, .methodref 107 1016), (0, .nameAndType 1017 369), (0, u "canEncode"), (0, .methodref 107 1019), (0, .nameAndType 53 1020), (0, u "(C)[B"), (80, u "serialPersistentFields"), (0, u "[Ljava/io/ObjectStreamField;"), (0, .class_ 1104), (0, u "java/lang/String$CaseInsensitiveComparator"), (1, .class_ 1107), (0, u "java/io/Serializable"), (0, .class_ 1109), (0, u "java/lang/Comparable"), (0, .class_ 1111), (0, u "java/lang/constant/Constable"), (0, .class_ 1113), (0, u "java/lang/constant/ConstantDesc"), (2, u "serialVersionUID"), (0, u "J"), (3, u "REPL"), (0, u "C"), (2, u "LATIN1"), (1, u "UTF16")] 323

def k9m0 : Method := { name := "<init>", desc := "()V", sig := { parameters := [], returnType := none }, accessFlags := 1, code := none }
def k9c1 : Code := { maxStack := 4, maxLocals := 1, code := jdk_42_method_139_code, exceptionTable := #[], attributes := #[] }
def k9m1 : Method := { name := "valueOf", desc := "(C)Ljava/lang/String;", sig := { parameters := [.char], returnType := some (.object "java/lang/String") }, accessFlags := 9, code := some k9c1 }
def k9c2 : Code := { maxStack := 2, maxLocals := 3, code := jdk_42_method_151_code, exceptionTable := #[], attributes := #[] }
def k9m2 : Method := { name := "<init>", desc := "([BB)V", sig := { parameters := [(.array .byte), .byte], returnType := none }, accessFlags := 0, code := some k9c2 }
/-- java/lang/String -/
def k9 : Class := { plain "java/lang/String" (some 0) with
  accessFlags := 49
  interfaces := #[4, 5, 6, 7, 8]
  cf := some (fileOf pool9 10 #[.nestMembers #[1103]] #[{ accessFlags := 1, nameIndex := 5, descriptorIndex := 6, attributes := #[] }, { accessFlags := 9, nameIndex := 782, descriptorIndex := 783, attributes := #[] }, { accessFlags := 0, nameIndex := 5, descriptorIndex := 211, attributes := #[] }] 49 2 #[1106, 1108, 575, 1110, 1112] #[{ accessFlags := 18, nameIndex := 13, descriptorIndex := 14, attributes := #[] }, { accessFlags := 18, nameIndex := 17, descriptorIndex := 18, attributes := #[] }, { accessFlags := 2, nameIndex := 21, descriptorIndex := 22, attributes := #[] }, { accessFlags := 2, nameIndex := 25, descriptorIndex := 26, attributes := #[] }, { accessFlags := 26, nameIndex := 1116, descriptorIndex := 1117, attributes := #[] }, { accessFlags := 24, nameIndex := 40, descriptorIndex := 26, attributes := #[] }, { accessFlags := 26, nameIndex := 1101, descriptorIndex := 1102, attributes := #[] }, { accessFlags := 26, nameIndex := 1121, descriptorIndex := 1122, attributes := #[] }, { accessFlags := 25, nameIndex := 599, descriptorIndex := 600, attributes := #[] }, { accessFlags := 24, nameIndex := 1125, descriptorIndex := 18, attributes := #[] }, { accessFlags := 24, nameIndex := 1127, descriptorIndex := 18, attributes := #[] }])
  fields := #[{ name := "value", type := (.array .byte), accessFlags := 18, slot := 0, constantValue := 0 }, { name := "coder", type := .byte, accessFlags := 18, slot := 1, constantValue := 0 }, { name := "hash", type := .int, accessFlags := 2, slot := 2, constantValue := 0 }, { name := "hashIsZero", type := .boolean, accessFlags := 2, slot := 3, constantValue := 0 }, { name := "serialVersionUID", type := .long, accessFlags := 26, slot := 0, constantValue := 0 }, { name := "COMPACT_STRINGS", type := .boolean, accessFlags := 24, slot := 1, constantValue := 0 }, { name := "serialPersistentFields", type := (.array (.object "java/io/ObjectStreamField")), accessFlags := 26, slot := 2, constantValue := 0 }, { name := "REPL", type := .char, accessFlags := 26, slot := 3, constantValue := 0 }, { name := "CASE_INSENSITIVE_ORDER", type := (.object "java/util/Comparator"), accessFlags := 25, slot := 4, constantValue := 0 }, { name := "LATIN1", type := .byte, accessFlags := 24, slot := 5, constantValue := 0 }, { name := "UTF16", type := .byte, accessFlags := 24, slot := 6, constantValue := 0 }]
  methods := #[k9m0, k9m1, k9m2]
  instanceTypes := #[(.array .byte), .byte, .int, .boolean]
  staticTypes := #[.long, .boolean, (.array (.object "java/io/ObjectStreamField")), .char, (.object "java/util/Comparator"), .byte, .byte]
  resolved := Array.replicate 1451 none
  statics := some 0 }

def pool10 : Array CpInfo := pool [(4, .class_ 6), (1, u "java/lang/Object"), (0, u "<init>"), (0, u "()V"), (5, .class_ 16), (1, u "java/lang/StringLatin1"), (73, u "canEncode"), (14, u "(C)Z"), (15, u "$assertionsDisabled"), (0, u "Z"), (98, .class_ 223), (1, u "java/lang/StringLatin1$LinesSpliterator"), (156, u "toBytes"), (1, u "(C)[B"), (7, .class_ 391), (0, u "java/lang/StringLatin1$CharsSpliterator")] 3

def k10m0 : Method := { name := "<init>", desc := "()V", sig := { parameters := [], returnType := none }, accessFlags := 0, code := none }
def k10c1 : Code := { maxStack := 2, maxLocals := 1, code := jdk_43_method_3_code, exceptionTable := #[], attributes := #[] }
def k10m1 : Method := { name := "canEncode", desc := "(C)Z", sig := { parameters := [.char], returnType := some .boolean }, accessFlags := 9, code := some k10c1 }
def k10c2 : Code := { maxStack := 4, maxLocals := 1, code := jdk_43_method_46_code, exceptionTable := #[], attributes := #[] }
def k10m2 : Method := { name := "toBytes", desc := "(C)[B", sig := { parameters := [.char], returnType := some (.array .byte) }, accessFlags := 9, code := some k10c2 }
/-- java/lang/StringLatin1 -/
def k10 : Class := { plain "java/lang/StringLatin1" (some 0) with
  accessFlags := 48
  interfaces := #[]
  cf := some (fileOf pool10 14 #[.nestMembers #[390, 221]] #[{ accessFlags := 0, nameIndex := 7, descriptorIndex := 8, attributes := #[] }, { accessFlags := 9, nameIndex := 90, descriptorIndex := 105, attributes := #[] }, { accessFlags := 9, nameIndex := 380, descriptorIndex := 382, attributes := #[] }] 48 4 #[] #[{ accessFlags := 4120, nameIndex := 121, descriptorIndex := 122, attributes := #[] }])
  fields := #[{ name := "$assertionsDisabled", type := .boolean, accessFlags := 4120, slot := 0, constantValue := 0 }]
  methods := #[k10m0, k10m1, k10m2]
  instanceTypes := #[]
  staticTypes := #[.boolean]
  resolved := Array.replicate 395 none
  statics := none }

def pool11 : Array CpInfo := pool [(2, .class_ 4), (1, u "java/lang/Object"), (0, u "<init>"), (0, u "()V"), (17, .class_ 26), (1, u "jdk/internal/util/Preconditions"), (28, .class_ 56), (0, u "jdk/internal/util/Preconditions$4"), (57, .class_ 115), (0, u "jdk/internal/util/Preconditions$1"), (7, u "SIOOBE_FORMATTER"), (0, u "Ljava/util/function/BiFunction;"), (0, .class_ 126), (0, u "jdk/internal/util/Preconditions$2"), (3, u "AIOOBE_FORMATTER"), (0, .class_ 132), (0, u "jdk/internal/util/Preconditions$3"), (3, u "IOOBE_FORMATTER")] 57

def k11m0 : Method := { name := "<init>", desc := "()V", sig := { parameters := [], returnType := none }, accessFlags := 1, code := none }
/-- jdk/internal/util/Preconditions -/
def k11 : Class := { plain "jdk/internal/util/Preconditions" (some 0) with
  accessFlags := 33
  interfaces := #[]
  cf := some (fileOf pool11 24 #[.nestMembers #[55, 131, 125, 114]] #[{ accessFlags := 1, nameIndex := 5, descriptorIndex := 6, attributes := #[] }] 33 2 #[] #[{ accessFlags := 25, nameIndex := 123, descriptorIndex := 124, attributes := #[] }, { accessFlags := 25, nameIndex := 130, descriptorIndex := 124, attributes := #[] }, { accessFlags := 25, nameIndex := 136, descriptorIndex := 124, attributes := #[] }])
  fields := #[{ name := "SIOOBE_FORMATTER", type := (.object "java/util/function/BiFunction"), accessFlags := 25, slot := 0, constantValue := 0 }, { name := "AIOOBE_FORMATTER", type := (.object "java/util/function/BiFunction"), accessFlags := 25, slot := 1, constantValue := 0 }, { name := "IOOBE_FORMATTER", type := (.object "java/util/function/BiFunction"), accessFlags := 25, slot := 2, constantValue := 0 }]
  methods := #[k11m0]
  instanceTypes := #[]
  staticTypes := #[(.object "java/util/function/BiFunction"), (.object "java/util/function/BiFunction"), (.object "java/util/function/BiFunction")]
  resolved := Array.replicate 194 none
  statics := some 1 }

def pool12 : Array CpInfo := pool [(9, u "<init>"), (6, .class_ 18), (1, u "java/lang/Object"), (0, u "()V"), (1, .class_ 23), (1, u "jdk/internal/util/ArraysSupport"), (0, u "LOG2_ARRAY_LONG_INDEX_SCALE"), (0, u "I"), (2, u "U"), (0, u "Ljdk/internal/misc/Unsafe;"), (8, u "BIG_ENDIAN"), (0, u "Z"), (8, u "LOG2_BYTE_BIT_SIZE"), (4, u "LOG2_ARRAY_INT_INDEX_SCALE"), (54, u "JLA"), (0, u "Ljdk/internal/access/JavaLangAccess;"), (11, u "LOG2_ARRAY_BOOLEAN_INDEX_SCALE"), (9, u "LOG2_ARRAY_BYTE_INDEX_SCALE"), (5, u "LOG2_ARRAY_CHAR_INDEX_SCALE"), (5, u "LOG2_ARRAY_SHORT_INDEX_SCALE"), (18, u "LOG2_ARRAY_FLOAT_INDEX_SCALE"), (24, u "LOG2_ARRAY_DOUBLE_INDEX_SCALE"), (89, u "T_BOOLEAN"), (2, u "T_CHAR"), (1, u "T_FLOAT"), (1, u "T_DOUBLE"), (1, u "T_BYTE"), (1, u "T_SHORT"), (1, u "T_INT"), (1, u "T_LONG"), (1, u "SOFT_MAX_ARRAY_LENGTH")] 83

def k12m0 : Method := { name := "<init>", desc := "()V", sig := { parameters := [], returnType := none }, accessFlags := 2, code := none }
/-- jdk/internal/util/ArraysSupport -/
def k12 : Class := { plain "jdk/internal/util/ArraysSupport" (some 0) with
  accessFlags := 33
  interfaces := #[]
  cf := some (fileOf pool12 21 #[] #[{ accessFlags := 2, nameIndex := 9, descriptorIndex := 19, attributes := #[] }] 33 16 #[] #[{ accessFlags := 24, nameIndex := 28, descriptorIndex := 29, attributes := #[] }, { accessFlags := 26, nameIndex := 38, descriptorIndex := 39, attributes := #[] }, { accessFlags := 25, nameIndex := 121, descriptorIndex := 25, attributes := #[] }, { accessFlags := 25, nameIndex := 131, descriptorIndex := 25, attributes := #[] }, { accessFlags := 25, nameIndex := 137, descriptorIndex := 25, attributes := #[] }, { accessFlags := 25, nameIndex := 143, descriptorIndex := 25, attributes := #[] }, { accessFlags := 25, nameIndex := 53, descriptorIndex := 25, attributes := #[] }, { accessFlags := 25, nameIndex := 24, descriptorIndex := 25, attributes := #[] }, { accessFlags := 25, nameIndex := 162, descriptorIndex := 25, attributes := #[] }, { accessFlags := 25, nameIndex := 187, descriptorIndex := 25, attributes := #[] }, { accessFlags := 26, nameIndex := 48, descriptorIndex := 25, attributes := #[] }, { accessFlags := 25, nameIndex := 277, descriptorIndex := 25, attributes := #[] }, { accessFlags := 25, nameIndex := 280, descriptorIndex := 25, attributes := #[] }, { accessFlags := 25, nameIndex := 282, descriptorIndex := 25, attributes := #[] }, { accessFlags := 25, nameIndex := 284, descriptorIndex := 25, attributes := #[] }, { accessFlags := 25, nameIndex := 286, descriptorIndex := 25, attributes := #[] }, { accessFlags := 25, nameIndex := 288, descriptorIndex := 25, attributes := #[] }, { accessFlags := 25, nameIndex := 290, descriptorIndex := 25, attributes := #[] }, { accessFlags := 25, nameIndex := 292, descriptorIndex := 25, attributes := #[] }, { accessFlags := 26, nameIndex := 108, descriptorIndex := 109, attributes := #[] }, { accessFlags := 25, nameIndex := 294, descriptorIndex := 25, attributes := #[] }])
  fields := #[{ name := "U", type := (.object "jdk/internal/misc/Unsafe"), accessFlags := 24, slot := 0, constantValue := 0 }, { name := "BIG_ENDIAN", type := .boolean, accessFlags := 26, slot := 1, constantValue := 0 }, { name := "LOG2_ARRAY_BOOLEAN_INDEX_SCALE", type := .int, accessFlags := 25, slot := 2, constantValue := 0 }, { name := "LOG2_ARRAY_BYTE_INDEX_SCALE", type := .int, accessFlags := 25, slot := 3, constantValue := 0 }, { name := "LOG2_ARRAY_CHAR_INDEX_SCALE", type := .int, accessFlags := 25, slot := 4, constantValue := 0 }, { name := "LOG2_ARRAY_SHORT_INDEX_SCALE", type := .int, accessFlags := 25, slot := 5, constantValue := 0 }, { name := "LOG2_ARRAY_INT_INDEX_SCALE", type := .int, accessFlags := 25, slot := 6, constantValue := 0 }, { name := "LOG2_ARRAY_LONG_INDEX_SCALE", type := .int, accessFlags := 25, slot := 7, constantValue := 0 }, { name := "LOG2_ARRAY_FLOAT_INDEX_SCALE", type := .int, accessFlags := 25, slot := 8, constantValue := 0 }, { name := "LOG2_ARRAY_DOUBLE_INDEX_SCALE", type := .int, accessFlags := 25, slot := 9, constantValue := 0 }, { name := "LOG2_BYTE_BIT_SIZE", type := .int, accessFlags := 26, slot := 10, constantValue := 0 }, { name := "T_BOOLEAN", type := .int, accessFlags := 25, slot := 11, constantValue := 0 }, { name := "T_CHAR", type := .int, accessFlags := 25, slot := 12, constantValue := 0 }, { name := "T_FLOAT", type := .int, accessFlags := 25, slot := 13, constantValue := 0 }, { name := "T_DOUBLE", type := .int, accessFlags := 25, slot := 14, constantValue := 0 }, { name := "T_BYTE", type := .int, accessFlags := 25, slot := 15, constantValue := 0 }, { name := "T_SHORT", type := .int, accessFlags := 25, slot := 16, constantValue := 0 }, { name := "T_INT", type := .int, accessFlags := 25, slot := 17, constantValue := 0 }, { name := "T_LONG", type := .int, accessFlags := 25, slot := 18, constantValue := 0 }, { name := "JLA", type := (.object "jdk/internal/access/JavaLangAccess"), accessFlags := 26, slot := 19, constantValue := 0 }, { name := "SOFT_MAX_ARRAY_LENGTH", type := .int, accessFlags := 25, slot := 20, constantValue := 0 }]
  methods := #[k12m0]
  instanceTypes := #[]
  staticTypes := #[(.object "jdk/internal/misc/Unsafe"), .boolean, .int, .int, .int, .int, .int, .int, .int, .int, .int, .int, .int, .int, .int, .int, .int, .int, .int, (.object "jdk/internal/access/JavaLangAccess"), .int]
  resolved := Array.replicate 378 none
  statics := none }

def pool13 : Array CpInfo := pool [(1, u "java/lang/Cloneable"), (0, .class_ 1), (0, u "java/lang/Object"), (0, .class_ 3)] 3

/-- java/lang/Cloneable -/
def k13 : Class := { plain "java/lang/Cloneable" (some 0) with
  accessFlags := 1537
  interfaces := #[]
  cf := some (fileOf pool13 2 #[] #[] 1537 4 #[] #[])
  fields := #[]
  methods := #[]
  instanceTypes := #[]
  staticTypes := #[]
  resolved := Array.replicate 8 none
  statics := none }

/-- the primitive byte -/
def k14 : Class := { plain "byte" none with kind := .primitive 'B', accessFlags := 0x411 }
/-- [B -/
def k15 : Class := { plain "[B" (some 0) with kind := .array 14 .byte, interfaces := #[13, 4], accessFlags := 1041 }

/-- the primitive int -/
def k16 : Class := { plain "int" none with kind := .primitive 'I', accessFlags := 0x411 }
/-- [I -/
def k17 : Class := { plain "[I" (some 0) with kind := .array 16 .int, interfaces := #[13, 4], accessFlags := 1041 }

def heap : Heap := #[{ cls := 9, slots := #[.long 0, .int 1, .null, .int 0, .null, .int 0, .int 0], vm := .statics 9 },
  { cls := 11, slots := #[.null, .null, .null], vm := .statics 11 }]
def classes : Array Class := #[k0, k1, k2, k3, k4, k5, k6, k7, k8, k9, k10, k11, k12, k13, k14, k15, k16, k17]
def interned : List (Array UInt16 × Addr) := []
def slotsUsed : Nat := 10
def theMethod : MethodId := ⟨1, 1⟩
def args0 : Array Value := #[.int 5, .int 300, .int 7]
def aboutOver (below : List Frame) : State where
  vm := { classes := classes, interned := interned.toArray }
  heap := heap
  slotsUsed := slotsUsed
  threads := #[{ frames := .invoking theMethod args0 :: below }]
def below0 : List Frame := [.native { method := ⟨0, 0⟩, args := #[] }]
def about1 : State := aboutOver below0
def p0 : Program := .bare "" "" ""
def e0 : Env := launch0.env 0 0 0
theorem w_frames : about1.frames = Frame.invoking theMethod args0 :: below0 := rfl
set_option maxRecDepth 65536 in
theorem w_args : argsFit about1.vm theMethod args0 = true := by decide +kernel
set_option maxRecDepth 65536 in
theorem w_heap : heapFits about1 = true := by decide +kernel
set_option maxRecDepth 65536 in
theorem w_runnable : about1.curStatus? = some .runnable := by decide +kernel
set_option maxRecDepth 65536 in
theorem w_alone : about1.alone = true := by decide +kernel
set_option maxRecDepth 65536 in
theorem w_named : about1.methodNamed? x = some theMethod := by decide +kernel
set_option maxRecDepth 65536 in
theorem w_hears : about1.hears theMethod below0 = true := by decide +kernel
set_option maxRecDepth 65536 in
theorem w_ripe : about1.ripe theMethod args0 below0 = true := by decide +kernel
theorem w_running : about1.status = .running := rfl
set_option maxRecDepth 65536 in
theorem w_room : about1.hasRoom e0.platform room_1 = true :=
  launch0.hasRoom_least _ room_1 (by decide +kernel) (by decide +kernel) (by decide +kernel) (by decide +kernel) (by decide +kernel) (by decide +kernel)
theorem allAtoms_all (ts : List Jvm.Cond) (a : Array Jvm.Value) (st : Jvm.State) : (allAtoms ts).before a st = ts.all (fun c => c.before a st) := by
  induction ts with
  | nil => rfl
  | cons c t ih =>
    show (Jvm.Cond.and c (allAtoms t)).before a st = _
    rw [Jvm.Cond.before_and, ih, List.all_cons]
def words1 : List Jvm.Cond := Jvm.Cond.code x code maxLocals ret :: tables_1
/-- a 'code' word, met by the world's own term for the bytes: nothing is compared byte by byte -/
theorem code_word {y : MethodName} {bytes : ByteArray} {mx : Nat} {rt : Option FieldType} {a : Array Value} {s : State} {m : MethodId} {meth : Method} {c : Code} (h1 : s.methodNamed? y = some m) (h2 : s.vm.method? m = some meth) (h3 : meth.code = some c) (h4 : c.code = bytes)
    (h5 : (c.maxLocals == mx && c.exceptionTable.isEmpty && decide (c.maxStack ≤ mostOperands) && decide (meth.sig.returnType = rt) && !meth.locks && decide (parseMethodDescriptor y.desc = some meth.sig)) = true) : (Jvm.Cond.code y bytes mx rt).before a s = true := by
  simp only [Bool.and_eq_true, beq_iff_eq, Bool.not_eq_true', decide_eq_true_eq] at h5
  obtain ⟨⟨⟨⟨⟨g1, g2⟩, g3⟩, g4⟩, g5⟩, g6⟩ := h5
  simp [Cond.before, Cond.holds, Cond.value, h1, h2, h3, h4, g1, g2, g3, g4, g5, g6]
def isCode : Jvm.Cond → Bool
  | .code _ _ _ _ => true
  | _ => false
theorem all_split {L : List Jvm.Cond} {P : Jvm.Cond → Bool} (h1 : L.all (fun c => isCode c || P c) = true) (h2 : ∀ c ∈ L.filter isCode, P c = true) : L.all P = true := by
  refine List.all_eq_true.mpr fun c hc => ?_
  have h := List.all_eq_true.mp h1 c hc
  rcases Bool.eq_false_or_eq_true (isCode c) with hi | hi
  · exact h2 c (List.mem_filter.mpr ⟨hc, hi⟩)
  · simpa [hi] using h
set_option maxRecDepth 65536 in
theorem w_c0 : (Jvm.Cond.code x code maxLocals ret).before args0 about1 = true := code_word (m := ⟨1, 1⟩) (meth := k1m1) (c := k1c1) (by decide +kernel) rfl rfl rfl (by decide +kernel)
set_option maxRecDepth 65536 in
theorem w_c1 : (Jvm.Cond.code ({ cls := "dexterous/io/TypedValue", name := "<init>", desc := "(IILjava/lang/String;)V" } : Jvm.MethodName) prog_25_method_1_code (4 : Nat) (Option.none : Option Jvm.ClassFile.FieldType)).before args0 about1 = true := code_word (m := ⟨3, 0⟩) (meth := k3m0) (c := k3c0) (by decide +kernel) rfl rfl rfl (by decide +kernel)
set_option maxRecDepth 65536 in
theorem w_c2 : (Jvm.Cond.code ({ cls := "java/lang/Record", name := "<init>", desc := "()V" } : Jvm.MethodName) jdk_30_method_1_code (1 : Nat) (Option.none : Option Jvm.ClassFile.FieldType)).before args0 about1 = true := code_word (m := ⟨2, 0⟩) (meth := k2m0) (c := k2c0) (by decide +kernel) rfl rfl rfl (by decide +kernel)
set_option maxRecDepth 65536 in
theorem w_c3 : (Jvm.Cond.code ({ cls := "java/lang/Object", name := "<init>", desc := "()V" } : Jvm.MethodName) object_method_1_code (1 : Nat) (Option.none : Option Jvm.ClassFile.FieldType)).before args0 about1 = true := code_word (m := ⟨0, 0⟩) (meth := k0m0) (c := k0c0) (by decide +kernel) rfl rfl rfl (by decide +kernel)
set_option maxRecDepth 65536 in
theorem w_c4 : (Jvm.Cond.code ({ cls := "dexterous/io/TypedValue", name := "isInteger", desc := "()Z" } : Jvm.MethodName) prog_25_method_2_code (1 : Nat) (Option.some Jvm.ClassFile.FieldType.boolean)).before args0 about1 = true := code_word (m := ⟨3, 1⟩) (meth := k3m1) (c := k3c1) (by decide +kernel) rfl rfl rfl (by decide +kernel)
set_option maxRecDepth 65536 in
theorem w_c5 : (Jvm.Cond.code ({ cls := "java/lang/String", name := "valueOf", desc := "(C)Ljava/lang/String;" } : Jvm.MethodName) jdk_42_method_139_code (1 : Nat) (Option.some (Jvm.ClassFile.FieldType.object "java/lang/String"))).before args0 about1 = true := code_word (m := ⟨9, 1⟩) (meth := k9m1) (c := k9c1) (by decide +kernel) rfl rfl rfl (by decide +kernel)
set_option maxRecDepth 65536 in
theorem w_c6 : (Jvm.Cond.code ({ cls := "java/lang/StringLatin1", name := "canEncode", desc := "(C)Z" } : Jvm.MethodName) jdk_43_method_3_code (1 : Nat) (Option.some Jvm.ClassFile.FieldType.boolean)).before args0 about1 = true := code_word (m := ⟨10, 1⟩) (meth := k10m1) (c := k10c1) (by decide +kernel) rfl rfl rfl (by decide +kernel)
set_option maxRecDepth 65536 in
theorem w_c7 : (Jvm.Cond.code ({ cls := "java/lang/StringLatin1", name := "toBytes", desc := "(C)[B" } : Jvm.MethodName) jdk_43_method_46_code (1 : Nat) (Option.some (Jvm.ClassFile.FieldType.array Jvm.ClassFile.FieldType.byte))).before args0 about1 = true := code_word (m := ⟨10, 2⟩) (meth := k10m2) (c := k10c2) (by decide +kernel) rfl rfl rfl (by decide +kernel)
set_option maxRecDepth 65536 in
theorem w_c8 : (Jvm.Cond.code ({ cls := "java/lang/String", name := "<init>", desc := "([BB)V" } : Jvm.MethodName) jdk_42_method_151_code (3 : Nat) (Option.none : Option Jvm.ClassFile.FieldType)).before args0 about1 = true := code_word (m := ⟨9, 2⟩) (meth := k9m2) (c := k9c2) (by decide +kernel) rfl rfl rfl (by decide +kernel)
def codes1 : List Jvm.Cond := [Jvm.Cond.code x code maxLocals ret, Jvm.Cond.code ({ cls := "dexterous/io/TypedValue", name := "<init>", desc := "(IILjava/lang/String;)V" } : Jvm.MethodName) prog_25_method_1_code (4 : Nat) (Option.none : Option Jvm.ClassFile.FieldType), Jvm.Cond.code ({ cls := "java/lang/Record", name := "<init>", desc := "()V" } : Jvm.MethodName) jdk_30_method_1_code (1 : Nat) (Option.none : Option Jvm.ClassFile.FieldType), Jvm.Cond.code ({ cls := "java/lang/Object", name := "<init>", desc := "()V" } : Jvm.MethodName) object_method_1_code (1 : Nat) (Option.none : Option Jvm.ClassFile.FieldType), Jvm.Cond.code ({ cls := "dexterous/io/TypedValue", name := "isInteger", desc := "()Z" } : Jvm.MethodName) prog_25_method_2_code (1 : Nat) (Option.some Jvm.ClassFile.FieldType.boolean), Jvm.Cond.code ({ cls := "java/lang/String", name := "valueOf", desc := "(C)Ljava/lang/String;" } : Jvm.MethodName) jdk_42_method_139_code (1 : Nat) (Option.some (Jvm.ClassFile.FieldType.object "java/lang/String")), Jvm.Cond.code ({ cls := "java/lang/StringLatin1", name := "canEncode", desc := "(C)Z" } : Jvm.MethodName) jdk_43_method_3_code (1 : Nat) (Option.some Jvm.ClassFile.FieldType.boolean), Jvm.Cond.code ({ cls := "java/lang/StringLatin1", name := "toBytes", desc := "(C)[B" } : Jvm.MethodName) jdk_43_method_46_code (1 : Nat) (Option.some (Jvm.ClassFile.FieldType.array Jvm.ClassFile.FieldType.byte)), Jvm.Cond.code ({ cls := "java/lang/String", name := "<init>", desc := "([BB)V" } : Jvm.MethodName) jdk_42_method_151_code (3 : Nat) (Option.none : Option Jvm.ClassFile.FieldType)]
set_option maxRecDepth 65536 in
theorem codes_eq : words1.filter isCode = codes1 := rfl
theorem w_codes : ∀ c ∈ words1.filter isCode, c.before args0 about1 = true := by
  rw [codes_eq]
  intro c hc
  simp only [codes1, List.mem_cons, List.not_mem_nil, or_false] at hc
  rcases hc with rfl | rfl | rfl | rfl | rfl | rfl | rfl | rfl | rfl
  · exact w_c0
  · exact w_c1
  · exact w_c2
  · exact w_c3
  · exact w_c4
  · exact w_c5
  · exact w_c6
  · exact w_c7
  · exact w_c8
set_option maxRecDepth 65536 in
theorem w_t1 : (words1.take 24).all (fun c => isCode c || c.before args0 about1) = true := by decide +kernel
set_option maxRecDepth 65536 in
theorem w_t2 : ((words1.drop 24).take 24).all (fun c => isCode c || c.before args0 about1) = true := by decide +kernel
set_option maxRecDepth 65536 in
theorem w_t3 : ((words1.drop 24).drop 24).all (fun c => isCode c || c.before args0 about1) = true := by decide +kernel
theorem w_tables : (allAtoms (Jvm.Cond.code x code maxLocals ret :: tables_1)).before args0 about1 = true := by
  rw [allAtoms_all]
  show words1.all (fun c => c.before args0 about1) = true
  refine all_split ?_ w_codes
  rw [← List.take_append_drop 24 words1, List.all_append, w_t1, ← List.take_append_drop 24 (words1.drop 24), List.all_append, w_t2, w_t3]
  rfl
set_option maxRecDepth 65536 in
theorem w_rest : rest_1_c.before args0 about1 = true := by decide +kernel
set_option maxRecDepth 65536 in
theorem w_case : (Jvm.Cond.and given_1 narrow_1).before args0 about1 = true := by decide +kernel
theorem w_applies : (headSpec (Jvm.Cond.code x code maxLocals ret :: tables_1) room_1).applies x e0.platform about1 = true :=
  (Spec.applies_iff w_frames).mpr ⟨w_running, w_runnable, w_alone, w_named, w_hears, w_ripe, w_room, w_tables⟩
theorem atStart : AtStart classFile x code maxLocals ret World_1 tables_1 room_1 Calls_1 rest_1 Pre_1 launch0 p0 e0 about1 theMethod args0 below0 :=
  ⟨lists_1, trivial, launch0.admits_env _ _ _, launch0.least_env, fairChoices_fair.cas, fairChoices_fair.clock, w_frames, w_args, w_heap, w_applies, trivial, w_rest, w_case⟩
end start1
theorem witness_1 : WitnessClaimed_1 := ⟨start1.p0, start1.e0, start1.about1, start1.theMethod, start1.args0, start1.below0, start1.atStart⟩
end Jvm.Pilot.@@N@@
