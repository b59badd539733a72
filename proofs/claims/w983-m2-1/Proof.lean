import JvmDerived
import JvmDerived.Pilot.@@N@@Statement
import JvmDerived.Pilot.@@N@@Code
set_option linter.unusedVariables false
set_option linter.unusedSimpArgs false
namespace Jvm.RoadKit
open Sem ClassFile Op Lib Jvm.Stand Jvm.Free Jvm.LawKit
section New
variable {p : Program} {l : Launch} {e : Env} {R : Room} {s : State} {m : MethodId} {args : Array Value} {below : List Frame} {meth : Method} {c : Code} {T : State} {locs : List Loc} {cells slots : Nat}
theorem retI (X : Stand p l e R s m args below meth c T locs cells slots) (hx : p.tables.exec = Jvm.exec) {pc : Nat} {Ls : Array Slot} {z : Int32} {rest : List Value} (hret : meth.sig.returnType = some .int) (hd : decode c.code pc = .ok (.ireturn, 1)) {fs : List Frame}
    (hl : ∀ (f : JFrame) (acts : List Action), f.method = m → f.locked = none → f.entered = [] → (doReturn e (T.setTop f) acts (some (.int z))).1 = T.setFrames fs) : Steps p.tables e below (T.setTop (mkF m pc Ls (.int z :: rest))) (T.setFrames fs) := by
  have hm' : T.vm.method? m = some meth := X.method'
  have hn : narrow .int (.int z) = .int z := rfl
  show Steps p.tables e below (T.setTop { method := m, pc := pc, locals := Ls, stack := _ :: rest, locked := none }) _
  jvm_step X.here [X.here.top, hx, hd, hm', hret, hn]
  first | (intro acts; rw [hl _ acts rfl rfl rfl]) | rw [hl _ _ rfl rfl rfl]
  exact Steps.refl _
end New
end Jvm.RoadKit
namespace Jvm.Pilot.@@N@@
open Jvm Jvm.ClassFile Sem Op Lib Jvm.Free Jvm.Stand Jvm.LawKit Jvm.RoadKit Bundle Jvm.Pilot.@@N@@.Jvm.D
/-- the run from here ends well -/
def own_Go (tb : Tables) (e : Env) (below : List Frame) (P : Outcome → State → Prop) (T : State) (f : JFrame) : Prop := ∃ s₂ o, Steps tb e below (T.setTop f) s₂ ∧ s₂.status = .running ∧ Ended s₂ below o ∧ P o s₂
theorem own_go {tb : Tables} {e : Env} {below : List Frame} {P : Outcome → State → Prop} {T T' : State} {f f' : JFrame} (k : ∀ t, Steps tb e below (T'.setTop f') t → Steps tb e below (T.setTop f) t) (h : own_Go tb e below P T' f') : own_Go tb e below P T f := by
  obtain ⟨s₂, o, h1, h2⟩ := h
  exact ⟨s₂, o, k _ h1, h2⟩
theorem own_keep1 {h0 h h' : Heap} {ws : List Addr} {b : Addr} (K : Keep h0 h ws) (K' : Keep h h' [b]) (q : h0.size ≤ b) : Keep h0 h' ws := K.trans K' fun x hx => Or.inr (by cases List.mem_singleton.mp hx; exact q)
theorem own_eqi {a b : Term} {args : Array Value} {first s : State} {o : Option Outcome} {idx : List Nat} {y : Int32} (h : (Jvm.Cond.eq a b).value args first o s idx = some true) (hb : b.eval args first o idx s = some (.int y)) : a.eval args first o idx s = some (.int y) := by
  cases ha : a.eval args first o idx s with
  | none => simp [Cond.value, ha] at h
  | some x => cases x <;> simp [Cond.value, ha, hb] at h; subst h; rfl
theorem own_not1 {a b : Addr} (q : a ≠ b) : a ∉ [b] := fun h => q (List.mem_singleton.mp h)
def own_PW (s : State) (Q : Option Value → Heap → List Loc → Prop) (k n : Nat) (o : Outcome) (U : State) : Prop := ∃ v L, o = .returned v ∧ Q v U.heap L ∧ ReturnedEndW s o U L k n
def own_P (s : State) (Q : Option Value → Heap → List Loc → Prop) (k n : Nat) (o : Outcome) (U : State) : Prop := ∃ v L, o = .returned v ∧ Q v U.heap L ∧ FrameEnd s o U L k n
/-- the array at a has n places; place k holds f k -/
def own_Av (Z : State) (h : Heap) (a : Addr) (ty : FieldType) (n : Nat) (f : Nat → Value) : Prop := ∃ c : Cell, Arr Z h a c ty ∧ c.slots.size = n ∧ ∀ k, k < n → c.slots[k]? = some (f k)
theorem own_Av.lt {Z : State} {h : Heap} {a : Addr} {ty : FieldType} {n : Nat} {f : Nat → Value} (F : own_Av Z h a ty n f) : a < h.size := by obtain ⟨c, A, -⟩ := F; exact A.lt
theorem own_Av.ext {Z : State} {h h' : Heap} {a : Addr} {ty : FieldType} {n : Nat} {f : Nat → Value} (F : own_Av Z h a ty n f) (E : Ext h h') : own_Av Z h' a ty n f := by obtain ⟨c, A, r⟩ := F; exact ⟨c, A.ext E, r⟩
theorem own_Av.other {Z : State} {h h' : Heap} {a b : Addr} {ty : FieldType} {n sl : Nat} {v : Value} {f : Nat → Value} (F : own_Av Z h b ty n f) (W : Wr h h' a sl v) (q : b ≠ a) : own_Av Z h' b ty n f := by obtain ⟨c, A, r⟩ := F; exact ⟨c, A.other W q, r⟩
theorem own_Av.keep {Z : State} {h h' : Heap} {a : Addr} {ty : FieldType} {n : Nat} {ws : List Addr} {f : Nat → Value} (F : own_Av Z h a ty n f) (K : Keep h h' ws) (q : a ∉ ws) : own_Av Z h' a ty n f := by obtain ⟨c, A, r⟩ := F; exact ⟨c, ⟨K.2.1 a c A.1 q, A.2⟩, r⟩
theorem own_Av.new {Z : State} {h : Heap} {a : Addr} {ty : FieldType} {k : ClassId} {z : Int32} {n : Nat} (A : Arr Z h a (newA k ty z) ty) (hz : z.toNatClampNeg = n) : own_Av Z h a ty n (fun _ => defaultValue ty) := by
  refine ⟨_, A, (sz_new _ _ _).trans hz, fun i hi => ?_⟩
  subst hz
  simp [newA, hi]
theorem own_Av.set {Z : State} {h h' : Heap} {a : Addr} {ty : FieldType} {n i j : Nat} {v : Value} {f : Nat → Value} (F : own_Av Z h a ty n f) (W : Wr h h' a j v) (hj : j = i) : own_Av Z h' a ty n (fun k => if k = i then v else f k) := by
  subst hj
  obtain ⟨c, A, S, G⟩ := F
  have hlt : j < c.slots.size := by
    obtain ⟨cell, h1, h2, h3, -⟩ := W
    cases A.1.symm.trans h1; exact h3
  refine ⟨_, A.same W, (sz_set _ _ _).trans S, fun k hk => ?_⟩
  by_cases q : k = j
  · subst q; simp [Cell.setSlot, hlt]
  · show (c.setSlot j v).slots[k]? = some (if k = j then v else f k)
    rw [if_neg q, ← G k hk]; simp [Cell.setSlot, Array.getElem?_setIfInBounds, Ne.symm q]
theorem own_Av.eq {Z : State} {h : Heap} {a : Addr} {ty : FieldType} {n : Nat} {f g : Nat → Value} (F : own_Av Z h a ty n f) (q : ∀ k, k < n → f k = g k) : own_Av Z h a ty n g := by
  obtain ⟨c, A, S, G⟩ := F
  exact ⟨c, A, S, fun k hk => by rw [G k hk, q k hk]⟩
theorem own_inb {c : Cell} {n i : Nat} {j : Int32} (S : c.slots.size = n) (hj : ¬ j < 0 ∧ j.toNatClampNeg = i) (hi : i < n) : ¬ (j < 0 ∨ c.slots.size ≤ j.toNatClampNeg) := by
  rw [S, hj.2]
  exact fun q => q.elim hj.1 (Nat.not_le.mpr hi)
theorem own_at {c : Cell} {n i : Nat} {j : Int32} {f : Nat → Value} {v : Value} (G : ∀ k, k < n → c.slots[k]? = some (f k)) (hj : ¬ j < 0 ∧ j.toNatClampNeg = i) (hi : i < n) (hv : f i = v) : c.slots[j.toNatClampNeg]? = some v := by
  rw [hj.2, G i hi, hv]
theorem own_nat {i : Nat} (h : i < 2 ^ 31) : ¬ Int32.ofNat i < 0 ∧ (Int32.ofNat i).toNatClampNeg = i := by
  have e : (Int32.ofNat i).toInt = i := Int32.toInt_ofNat_of_lt h
  refine ⟨?_, ?_⟩
  · rw [Int32.lt_iff_toInt_lt, e, Int32.toInt_zero]; omega
  · show (Int32.ofNat i).toInt.toNat = i
    rw [e]; rfl
theorem own_low (x : Int32) : ∃ j, j < 16 ∧ x &&& 15 = Int32.ofNat j := by
  refine ⟨(x &&& 15).toBitVec.toNat, ?_, ?_⟩
  · rw [Int32.toBitVec_and, BitVec.toNat_and]
    exact Nat.lt_of_le_of_lt Nat.and_le_right (by decide)
  · apply Int32.toBitVec_inj.mp
    show _ = BitVec.ofNat 32 _
    rw [BitVec.ofNat_toNat, BitVec.setWidth_eq]
theorem own_ltn {i j : Nat} (hi : i < 2 ^ 31) (hj : j < 2 ^ 31) : Int32.ofNat i < Int32.ofNat j ↔ i < j := by
  rw [Int32.lt_iff_toInt_lt, Int32.toInt_ofNat_of_lt hi, Int32.toInt_ofNat_of_lt hj]; omega
theorem own_pred {j : Nat} (h : 0 < j) (hj : j < 2 ^ 31) : Int32.ofNat j - 1 = Int32.ofNat (j - 1) := by
  apply Int32.toInt_inj.mp
  rw [Int32.toInt_sub, Int32.toInt_ofNat_of_lt hj, Int32.toInt_ofNat_of_lt (by omega), show (1 : Int32).toInt = 1 from by decide, Int.bmod_eq_of_le] <;> omega
theorem own_succ (i : Nat) : Int32.ofNat i + 1 = Int32.ofNat (i + 1) := by
  apply Int32.toBitVec_inj.mp
  show BitVec.ofNat 32 i + BitVec.ofNat 32 1 = BitVec.ofNat 32 (i + 1)
  rw [BitVec.ofNat_add_ofNat]
theorem own_ofNat_inj {i j : Nat} (hi : i < 2 ^ 31) (hj : j < 2 ^ 31) : Int32.ofNat i = Int32.ofNat j ↔ i = j := by
  rw [← Int32.toInt_inj, Int32.toInt_ofNat_of_lt hi, Int32.toInt_ofNat_of_lt hj]; omega
theorem own_b8 (x : Int32) : x.toInt8.toInt32.toInt8.toInt32 = x.toInt8.toInt32 := by simp
def own_fnd (g : Nat → Int32) (d : Int32) : Nat → Nat → Nat
  | 0, i => i
  | k + 1, i => if d < g i then i else own_fnd g d k (i + 1)
def own_g (r1 r2 r3 : Int32) (k : Nat) : Int32 := if k = 0 then r1 else if k = 1 then r2 else r3
def own_blk (x : Int32) (n : Nat) (k d r : Int32) : Int32 := if Int32.ofNat n < k then x else if d < r then x else x + 1
theorem own_low3 (x : Int32) : ∃ j, j < 4 ∧ x &&& 3 = Int32.ofNat j := by
  refine ⟨(x &&& 3).toBitVec.toNat, ?_, ?_⟩
  · rw [Int32.toBitVec_and, BitVec.toNat_and]
    exact Nat.lt_of_le_of_lt Nat.and_le_right (by decide)
  · apply Int32.toBitVec_inj.mp
    show _ = BitVec.ofNat 32 _
    rw [BitVec.ofNat_toNat, BitVec.setWidth_eq]
theorem own_mask (x m : Int32) (hm : m.toBitVec.toNat < 2 ^ 31) : 0 ≤ (x &&& m).toInt ∧ (x &&& m).toInt ≤ m.toInt := by
  have h1 : (x &&& m).toBitVec.toNat ≤ m.toBitVec.toNat := by rw [Int32.toBitVec_and, BitVec.toNat_and]; exact Nat.and_le_right
  have e1 : (x &&& m).toInt = (x &&& m).toBitVec.toNat := BitVec.toInt_eq_toNat_of_lt (by omega)
  have e2 : m.toInt = m.toBitVec.toNat := BitVec.toInt_eq_toNat_of_lt (by omega)
  rw [e1, e2]; omega
theorem own_add {x y : Int32} (h1 : -2147483648 ≤ x.toInt + y.toInt) (h2 : x.toInt + y.toInt < 2147483648) : (x + y).toInt = x.toInt + y.toInt := by
  rw [Int32.toInt_add, Int.bmod_eq_of_le] <;> omega
theorem own_one32 : (1 : Int32).toInt = 1 := by decide
theorem own_ranks (a b c m1 m2 m3 : Int32) (h1 : m1.toBitVec.toNat < 2 ^ 30) (h2 : m2.toBitVec.toNat < 2 ^ 29) (h3 : m3.toBitVec.toNat < 2 ^ 28) :
    0 < ((1 : Int32) + (a &&& m1)).toInt ∧ ((1 : Int32) + (a &&& m1)) < (((1 : Int32) + (a &&& m1)) + 1) + (b &&& m2) ∧ (((1 : Int32) + (a &&& m1)) + 1) + (b &&& m2) < ((((1 : Int32) + (a &&& m1)) + 1) + (b &&& m2) + 1) + (c &&& m3) := by
  have q1 := own_mask a m1 (by omega); have q2 := own_mask b m2 (by omega); have q3 := own_mask c m3 (by omega)
  have e1 : m1.toInt = m1.toBitVec.toNat := BitVec.toInt_eq_toNat_of_lt (by omega)
  have e2 : m2.toInt = m2.toBitVec.toNat := BitVec.toInt_eq_toNat_of_lt (by omega)
  have e3 : m3.toInt = m3.toBitVec.toNat := BitVec.toInt_eq_toNat_of_lt (by omega)
  have o := own_one32
  have a1 : ((1 : Int32) + (a &&& m1)).toInt = 1 + (a &&& m1).toInt := by rw [own_add] <;> omega
  generalize ((1 : Int32) + (a &&& m1)) = r1 at *
  have a2 : (r1 + 1).toInt = r1.toInt + 1 := by rw [own_add] <;> omega
  have a3 : (r1 + 1 + (b &&& m2)).toInt = r1.toInt + 1 + (b &&& m2).toInt := by rw [own_add] <;> omega
  generalize (r1 + 1 + (b &&& m2)) = r2 at *
  have a4 : (r2 + 1).toInt = r2.toInt + 1 := by rw [own_add] <;> omega
  have a5 : (r2 + 1 + (c &&& m3)).toInt = r2.toInt + 1 + (c &&& m3).toInt := by rw [own_add] <;> omega
  refine ⟨by omega, ?_, ?_⟩ <;> rw [Int32.lt_iff_toInt_lt] <;> omega
theorem own_found_eq {r1 r2 r3 d : Int32} (h12 : r1 < r2) (h23 : r2 < r3) : ∀ n, n < 4 → Int32.ofNat (own_fnd (own_g r1 r2 r3) d n 0) = own_blk (own_blk (own_blk 0 n 1 d r1) n 2 d r2) n 3 d r3 := by
  intro n hn
  rw [Int32.lt_iff_toInt_lt] at h12 h23
  have t1 : d < r1 → d < r2 := fun h => by rw [Int32.lt_iff_toInt_lt] at *; omega
  have t2 : d < r2 → d < r3 := fun h => by rw [Int32.lt_iff_toInt_lt] at *; omega
  rcases (by omega : n = 0 ∨ n = 1 ∨ n = 2 ∨ n = 3) with rfl | rfl | rfl | rfl
  · simp [own_fnd, own_blk]
  · by_cases a : d < r1 <;> simp [own_fnd, own_blk, own_g, a]
  · by_cases a : d < r1
    · simp [own_fnd, own_blk, own_g, a, t1 a]
    · by_cases b : d < r2 <;> simp [own_fnd, own_blk, own_g, a, b]
  · by_cases a : d < r1
    · simp [own_fnd, own_blk, own_g, a, t1 a, t2 (t1 a)]
    · by_cases b : d < r2
      · simp [own_fnd, own_blk, own_g, a, b, t2 b]
      · by_cases c : d < r3 <;> simp [own_fnd, own_blk, own_g, a, b, c]
theorem own_irr (x : Int32) : ¬ x < x := fun h => by rw [Int32.lt_iff_toInt_lt] at h; omega
theorem own_pred_lt {x : Int32} (h : 0 < x.toInt) : x - 1 < x := by
  have h1 := x.toInt_lt
  have e : (x - 1).toInt = x.toInt - 1 := by rw [Int32.toInt_sub, own_one32, Int.bmod_eq_of_le] <;> omega
  rw [Int32.lt_iff_toInt_lt, e]; omega
theorem own_asym {x y : Int32} (h : x < y) : ¬ y < x := fun q => by rw [Int32.lt_iff_toInt_lt] at *; omega
theorem own_f0 (g : Nat → Int32) (d : Int32) (k : Nat) (h : d < g 0) : Int32.ofNat (own_fnd g d (k + 1) 0) = 0 := by rw [own_fnd, if_pos h]; rfl
theorem own_f1 (g : Nat → Int32) (d : Int32) (h : ¬ d < g 0) : Int32.ofNat (own_fnd g d 1 0) = 1 := by rw [own_fnd, if_neg h]; rfl
theorem own_f2 (g : Nat → Int32) (d : Int32) (k : Nat) (h : ¬ d < g 0) (h' : d < g 1) : Int32.ofNat (own_fnd g d (k + 2) 0) = 1 := by rw [own_fnd, if_neg h, own_fnd, if_pos h']; rfl
theorem d2_0 : decode jdk_30_method_1_code 0 = .ok (.aload_n 0, 1) := by decide +kernel
theorem d2_1 : decode jdk_30_method_1_code 1 = .ok (.invokespecial 1, 3) := by decide +kernel
theorem d2_4 : decode jdk_30_method_1_code 4 = .ok (.return_, 1) := by decide +kernel
theorem pn_0 : plainName "java/lang/Record" = true := by first | (simp [plainName, overriddenIn]; done) | decide +kernel
theorem ef_2 (m : MethodId) {a1 : Addr} : entryFrame m #[(.ref a1)] 1 = mkF m 0 #[.val (.ref a1)] [] := by first | (simp [entryFrame, mkF, argsToLocals, Value.category]; done) | rfl
def Q2 (Z : State) (a1 : Addr) (h0 : Heap) (n0 : Nat) (v : Option Value) (h : Heap) (L : List Loc) : Prop := v = none ∧ Fr n0 L ∧ h = h0
set_option maxRecDepth 65536 in
set_option maxHeartbeats 40000000 in
theorem rm2 (l : Launch) (Z : State) (a0 : Array Value) (hw : ∀ d ∈ tables_1, d.before a0 Z = true) (ws : List Jvm.Cond) (a1 : Addr) (h0 : Heap) (n0 : Nat) (Z0 : n0 ≤ h0.size) :
    MetFree l (⟨"java/lang/Record", "<init>", "()V"⟩ : MethodName) (head1 (Jvm.Cond.code (⟨"java/lang/Record", "<init>", "()V"⟩ : MethodName) jdk_30_method_1_code 1 none :: ws) ({ frames := 1, cells := 0, slots := 0, locals := 12 } : Room)) (fun a U => a = #[(.ref a1)] ∧ Z.Warmed39 U.vm ∧ U.heap = h0) (fun _ _ _ _ _ => True) (fun _ U o U' => ∃ v L, o = .returned v ∧ Q2 Z a1 h0 n0 v U'.heap L ∧ FrameEnd U o U' L (({ frames := 1, cells := 0, slots := 0, locals := 12 } : Room)).cells (({ frames := 1, cells := 0, slots := 0, locals := 12 } : Room)).slots) := by
  refine MetFree.of_bodySF (plainFor_of_name pn_0) hisR ?_
  intro p e s m args below meth c s₁ Bd hml0 hP hK
  obtain ⟨rfl, hZ, hh⟩ := hP
  have hx := Bd.exec
  have hby := Bd.bytes
  have hml : c.maxLocals = 1 := hml0
  have hown : s.vm.findClass "java/lang/Record" = some m.cls := findClass_of_methodNamed Bd.named
  have hnm := (name_of_methodNamed Bd.named Bd.method).1
  have X0 : Stand p l e ({ frames := 1, cells := 0, slots := 0, locals := 12 } : Room) s m #[(.ref a1)] below meth c s₁ [] 0 0 := Stand.of_body Bd
  have e0 : s₁.heap = h0 := by rw [← hh, Bd.state]; rfl
  have N0 := Fr.nil n0
  show own_Go p.tables e below (own_P s (Q2 Z a1 h0 n0) ({ frames := 1, cells := 0, slots := 0, locals := 12 } : Room).cells ({ frames := 1, cells := 0, slots := 0, locals := 12 } : Room).slots) s₁ _
  rw [ef_2]
  show own_Go p.tables e below _ s₁ (mkF m 0 #[.val (.ref a1)] [])
  refine own_go (fun tz kz => XS.aloadN X0.here hx rfl (hb hby d2_0) rfl rfl kz) ?_
  show own_Go p.tables e below _ s₁ (mkF m 1 #[.val (.ref a1)] [(.ref a1)])
  obtain ⟨T1, X1, e1, st1⟩ := initO X0 hx hZ hown (hw _ (List.mem_of_getElem? (i := 14) rfl)) (hw _ (List.mem_of_getElem? (i := 15) rfl)) (hw _ (List.mem_of_getElem? (i := 16) rfl)) e0 (g := (mkF m 1 #[.val (.ref a1)] [(.ref a1)])) rfl (by rw [hml]; rfl) rfl (hb hby d2_1) (by decide) (W := 0) (by show 2 * 0 + _ ≤ _; exact Nat.le_of_eq rfl) (by decide)
  refine own_go st1 ?_
  show own_Go p.tables e below _ T1 (mkF m 4 #[.val (.ref a1)] [])
  obtain ⟨fs, hr, hrun, hended, hW, hsame⟩ := X1.leave (v := none) (fun _ => rfl)
  refine ⟨_, _, ?_, hrun, hended, _, _, rfl, ?_, ⟨_, rfl⟩, hW, hsame.mono (by decide) (by decide)⟩
  · exact X1.returnOut hx Bd.returns (hb hby d2_4) hr
  · show Q2 Z a1 h0 n0 _ T1.heap _
    rw [e1]
    exact ⟨rfl, N0, rfl⟩
theorem d1_0 : decode prog_11_method_1_code 0 = .ok (.aload_n 0, 1) := by decide +kernel
theorem d1_1 : decode prog_11_method_1_code 1 = .ok (.invokespecial 3, 3) := by decide +kernel
theorem d1_4 : decode prog_11_method_1_code 4 = .ok (.aload_n 0, 1) := by decide +kernel
theorem d1_5 : decode prog_11_method_1_code 5 = .ok (.aload_n 1, 1) := by decide +kernel
theorem d1_6 : decode prog_11_method_1_code 6 = .ok (.putfield 9, 3) := by decide +kernel
theorem d1_9 : decode prog_11_method_1_code 9 = .ok (.aload_n 0, 1) := by decide +kernel
theorem d1_10 : decode prog_11_method_1_code 10 = .ok (.iload_n 2, 1) := by decide +kernel
theorem d1_11 : decode prog_11_method_1_code 11 = .ok (.putfield 15, 3) := by decide +kernel
theorem d1_14 : decode prog_11_method_1_code 14 = .ok (.return_, 1) := by decide +kernel
theorem pd_0 : parseMethodDescriptor "()V" = some ⟨[], none⟩ := by decide +kernel
theorem pn_1 : plainName "com/example/chalk_outline/chalkoutline/Placement" = true := by first | (simp [plainName, overriddenIn]; done) | decide +kernel
theorem ef_1 (m : MethodId) {a1 : Addr} {a2 : Addr} {p3 : Int32} : entryFrame m #[(.ref a1), (.ref a2), (.int p3)] 3 = mkF m 0 #[.val (.ref a1), .val (.ref a2), .val (.int p3)] [] := by first | (simp [entryFrame, mkF, argsToLocals, Value.category]; done) | rfl
def Q1 (Z : State) (a1 : Addr) (a2 : Addr) (p3 : Int32) (u_ranks : Value) (u_relevant : Value) (h0 : Heap) (n0 : Nat) (v : Option Value) (h : Heap) (L : List Loc) : Prop := v = none ∧ Fr n0 L ∧ Keep h0 h [a1] ∧ Exa Z h a1 "com/example/chalk_outline/chalkoutline/Placement" ∧ Fld Z h a1 "com/example/chalk_outline/chalkoutline/Placement" "ranks" "[I" (.ref a2) ∧ Fld Z h a1 "com/example/chalk_outline/chalkoutline/Placement" "relevant" "I" (.int p3)
set_option maxRecDepth 65536 in
set_option maxHeartbeats 40000000 in
theorem rm1 (l : Launch) (Z : State) (a0 : Array Value) (hw : ∀ d ∈ tables_1, d.before a0 Z = true) (ws : List Jvm.Cond) (a1 : Addr) (a2 : Addr) (p3 : Int32) (u_ranks : Value) (u_relevant : Value) (h0 : Heap) (n0 : Nat) (Z0 : n0 ≤ h0.size) (F_ranks : Fld Z h0 a1 "com/example/chalk_outline/chalkoutline/Placement" "ranks" "[I" u_ranks) (F_relevant : Fld Z h0 a1 "com/example/chalk_outline/chalkoutline/Placement" "relevant" "I" u_relevant) (Ex : Exa Z h0 a1 "com/example/chalk_outline/chalkoutline/Placement") (g : n0 ≤ a1) :
    MetFree l (⟨"com/example/chalk_outline/chalkoutline/Placement", "<init>", "([II)V"⟩ : MethodName) (head1 (Jvm.Cond.code (⟨"com/example/chalk_outline/chalkoutline/Placement", "<init>", "([II)V"⟩ : MethodName) prog_11_method_1_code 3 none :: ws) ({ frames := 2, cells := 0, slots := 0, locals := 24 } : Room)) (fun a U => a = #[(.ref a1), (.ref a2), (.int p3)] ∧ Z.Warmed39 U.vm ∧ U.heap = h0) (fun _ _ _ _ _ => True) (fun _ U o U' => ∃ v L, o = .returned v ∧ Q1 Z a1 a2 p3 u_ranks u_relevant h0 n0 v U'.heap L ∧ FrameEnd U o U' L (({ frames := 2, cells := 0, slots := 0, locals := 24 } : Room)).cells (({ frames := 2, cells := 0, slots := 0, locals := 24 } : Room)).slots) := by
  refine MetFree.of_bodySF (plainFor_of_name pn_1) hisR ?_
  intro p e s m args below meth c s₁ Bd hml0 hP hK
  obtain ⟨rfl, hZ, hh⟩ := hP
  have hx := Bd.exec
  have hby := Bd.bytes
  have hml : c.maxLocals = 3 := hml0
  have hown : s.vm.findClass "com/example/chalk_outline/chalkoutline/Placement" = some m.cls := findClass_of_methodNamed Bd.named
  have hnm := (name_of_methodNamed Bd.named Bd.method).1
  have X0 : Stand p l e ({ frames := 2, cells := 0, slots := 0, locals := 24 } : Room) s m #[(.ref a1), (.ref a2), (.int p3)] below meth c s₁ [] 0 0 := Stand.of_body Bd
  have e0 : s₁.heap = h0 := by rw [← hh, Bd.state]; rfl
  have N0 := Fr.nil n0
  show own_Go p.tables e below (own_P s (Q1 Z a1 a2 p3 u_ranks u_relevant h0 n0) ({ frames := 2, cells := 0, slots := 0, locals := 24 } : Room).cells ({ frames := 2, cells := 0, slots := 0, locals := 24 } : Room).slots) s₁ _
  rw [ef_1]
  show own_Go p.tables e below _ s₁ (mkF m 0 #[.val (.ref a1), .val (.ref a2), .val (.int p3)] [])
  refine own_go (fun tz kz => XS.aloadN X0.here hx rfl (hb hby d1_0) rfl rfl kz) ?_
  show own_Go p.tables e below _ s₁ (mkF m 1 #[.val (.ref a1), .val (.ref a2), .val (.int p3)] [(.ref a1)])
  obtain ⟨_, _, ⟨T1, L1, k1, n1⟩, -, X1, ⟨Lc1, hQ1, l1, y1, z1⟩, st1⟩ := X0.specialBack hx (y := (⟨"java/lang/Record", "<init>", "()V"⟩ : MethodName)) rfl hown (mvT hZ (hw _ (List.mem_of_getElem? (i := 9) rfl))) (mvT hZ (hw _ (List.mem_of_getElem? (i := 10) rfl))) (mvT hZ (hw _ (List.mem_of_getElem? (i := 13) rfl))) (by decide) (backOf (W := 0) (rm2 l Z a0 hw [] a1 h0 n0 Z0) hZ (hw _ (List.mem_of_getElem? (i := 13) rfl)) (hw _ (List.mem_of_getElem? (i := 12) rfl)) (by decide) (by decide)) (g := (mkF m 1 #[.val (.ref a1), .val (.ref a2), .val (.int p3)] [(.ref a1)])) rfl (by rw [hml]; rfl) (Steps.refl _) (a := a1) (argsL := []) (rest := []) (lenOf pd_0 rfl) rfl (by show 2 * 0 + _ ≤ _; exact Nat.le_of_eq rfl) (hb hby d1_1) (fun _ _ => ⟨rfl, e0, (by decide : 0 + 0 ≤ _), (by decide : 0 + 0 ≤ _)⟩)
  dsimp only [Pt.U, Pt.locs, Pt.cells, Pt.slots] at X1 l1 y1 z1 st1 hQ1
  subst l1 y1 z1
  obtain ⟨rfl, N1q, e1⟩ := hQ1
  have N1 := Fr.app N0 N1q
  refine own_go (fun tz kz => st1.trans kz) ?_
  show own_Go p.tables e below _ T1 (mkF m 4 #[.val (.ref a1), .val (.ref a2), .val (.int p3)] [])
  refine own_go (fun tz kz => XS.aloadN X1.here hx rfl (hb hby d1_4) rfl rfl kz) ?_
  show own_Go p.tables e below _ T1 (mkF m 5 #[.val (.ref a1), .val (.ref a2), .val (.int p3)] [(.ref a1)])
  refine own_go (fun tz kz => XS.aloadN X1.here hx rfl (hb hby d1_5) rfl rfl kz) ?_
  show own_Go p.tables e below _ T1 (mkF m 6 #[.val (.ref a1), .val (.ref a2), .val (.int p3)] [(.ref a2), (.ref a1)])
  obtain ⟨T2, h2, X2, e2, W2, st2⟩ := putF X1 hx hZ hown (host := "") (Or.inl (hw _ (List.mem_of_getElem? (i := 17) rfl))) Via.refl e1 F_ranks Ex (Or.inr ⟨(hw _ (List.mem_of_getElem? (i := 18) rfl)), rfl, hnm⟩) (hw _ (List.mem_of_getElem? (i := 4) rfl)) (ty := (.array .int)) (by decide) rfl rfl (g := (mkF m 6 #[.val (.ref a1), .val (.ref a2), .val (.int p3)] [(.ref a2), (.ref a1)])) rfl rfl (hb hby d1_6)
  have Fw2 := F_ranks.same W2
  have N2 := Fr.snoc X2 N1 g
  refine own_go st2 ?_
  show own_Go p.tables e below _ T2 (mkF m 9 #[.val (.ref a1), .val (.ref a2), .val (.int p3)] [])
  refine own_go (fun tz kz => XS.aloadN X2.here hx rfl (hb hby d1_9) rfl rfl kz) ?_
  show own_Go p.tables e below _ T2 (mkF m 10 #[.val (.ref a1), .val (.ref a2), .val (.int p3)] [(.ref a1)])
  refine own_go (fun tz kz => XS.iloadN X2.here hx rfl (hb hby d1_10) rfl kz) ?_
  show own_Go p.tables e below _ T2 (mkF m 11 #[.val (.ref a1), .val (.ref a2), .val (.int p3)] [(.int p3), (.ref a1)])
  obtain ⟨T3, h3, X3, e3, W3, st3⟩ := putF X2 hx hZ hown (host := "") (Or.inl (hw _ (List.mem_of_getElem? (i := 19) rfl))) Via.refl e2 (F_relevant.other W2 (Or.inr (slot_ne (Or.inr (hw _ (List.mem_of_getElem? (i := 20) rfl))) (Or.inr (hw _ (List.mem_of_getElem? (i := 18) rfl))) (by decide) (t := .int) (t' := (.array .int)) (by decide) (by decide)))) (Ex.wr W2) (Or.inr ⟨(hw _ (List.mem_of_getElem? (i := 20) rfl)), rfl, hnm⟩) (hw _ (List.mem_of_getElem? (i := 4) rfl)) (ty := .int) (by decide) rfl rfl (g := (mkF m 11 #[.val (.ref a1), .val (.ref a2), .val (.int p3)] [(.int p3), (.ref a1)])) rfl rfl (hb hby d1_11)
  have Fw3 := (F_relevant.other W2 (Or.inr (slot_ne (Or.inr (hw _ (List.mem_of_getElem? (i := 20) rfl))) (Or.inr (hw _ (List.mem_of_getElem? (i := 18) rfl))) (by decide) (t := .int) (t' := (.array .int)) (by decide) (by decide)))).same W3
  have N3 := Fr.snoc X3 N2 g
  refine own_go st3 ?_
  show own_Go p.tables e below _ T3 (mkF m 14 #[.val (.ref a1), .val (.ref a2), .val (.int p3)] [])
  obtain ⟨fs, hr, hrun, hended, hW, hsame⟩ := X3.leave (v := none) (fun _ => rfl)
  refine ⟨_, _, ?_, hrun, hended, _, _, rfl, ?_, ⟨_, rfl⟩, hW, hsame.mono (by decide) (by decide)⟩
  · exact X3.returnOut hx Bd.returns (hb hby d1_14) hr
  · show Q1 Z a1 a2 p3 u_ranks u_relevant h0 n0 _ T3.heap _
    rw [e3]
    exact ⟨rfl, N3, (((Keep.refl _ _).wr W2 (Or.inl (List.mem_of_getElem? (i := 0) rfl))).wr W3 (Or.inl (List.mem_of_getElem? (i := 0) rfl))), ((Ex.wr W2).wr W3), (Fw2.other W3 (Or.inr (slot_ne (Or.inr (hw _ (List.mem_of_getElem? (i := 18) rfl))) (Or.inr (hw _ (List.mem_of_getElem? (i := 20) rfl))) (by decide) (t := (.array .int)) (t' := .int) (by decide) (by decide)))), Fw3⟩
theorem d4_0 : decode prog_11_method_3_code 0 = .ok (.aload_n 0, 1) := by decide +kernel
theorem d4_1 : decode prog_11_method_3_code 1 = .ok (.getfield 9, 3) := by decide +kernel
theorem d4_4 : decode prog_11_method_3_code 4 = .ok (.arraylength, 1) := by decide +kernel
theorem d4_5 : decode prog_11_method_3_code 5 = .ok (.ifCond .ne 7, 3) := by decide +kernel
theorem d4_8 : decode prog_11_method_3_code 8 = .ok (.iconst 0, 1) := by decide +kernel
theorem d4_9 : decode prog_11_method_3_code 9 = .ok (.goto 9, 3) := by decide +kernel
theorem d4_12 : decode prog_11_method_3_code 12 = .ok (.aload_n 0, 1) := by decide +kernel
theorem d4_13 : decode prog_11_method_3_code 13 = .ok (.getfield 9, 3) := by decide +kernel
theorem d4_16 : decode prog_11_method_3_code 16 = .ok (.iconst 0, 1) := by decide +kernel
theorem d4_17 : decode prog_11_method_3_code 17 = .ok (.iaload, 1) := by decide +kernel
theorem d4_18 : decode prog_11_method_3_code 18 = .ok (.ireturn, 1) := by decide +kernel
theorem ef_4 (m : MethodId) {a1 : Addr} : entryFrame m #[(.ref a1)] 1 = mkF m 0 #[.val (.ref a1)] [] := by first | (simp [entryFrame, mkF, argsToLocals, Value.category]; done) | rfl
def Q4 (Z : State) (a1 : Addr) (r : Addr) (n : Nat) (g : Nat → Int32) (h0 : Heap) (n0 : Nat) (v : Option Value) (h : Heap) (L : List Loc) : Prop := v = some (.int (if Int32.ofNat n = 0 then 0 else g 0)) ∧ Fr n0 L ∧ h = h0
set_option maxRecDepth 65536 in
set_option maxHeartbeats 40000000 in
theorem rm4 (l : Launch) (Z : State) (a0 : Array Value) (hw : ∀ d ∈ tables_1, d.before a0 Z = true) (ws : List Jvm.Cond) (a1 : Addr) (r : Addr) (n : Nat) (g : Nat → Int32) (h0 : Heap) (n0 : Nat) (Z0 : n0 ≤ h0.size) (F : Fld Z h0 a1 "com/example/chalk_outline/chalkoutline/Placement" "ranks" "[I" (.ref r)) (Va : own_Av Z h0 r .int n (fun k => .int (g k))) (hn : ¬ Int32.ofNat n = 0 → 0 < n) :
    MetFree l (⟨"com/example/chalk_outline/chalkoutline/Placement", "first", "()I"⟩ : MethodName) (head1 (Jvm.Cond.code (⟨"com/example/chalk_outline/chalkoutline/Placement", "first", "()I"⟩ : MethodName) prog_11_method_3_code 1 (some .int) :: ws) ({ frames := 0, cells := 0, slots := 0, locals := 0 } : Room)) (fun a U => a = #[(.ref a1)] ∧ Z.Warmed39 U.vm ∧ U.heap = h0) (fun _ _ _ _ _ => True) (fun _ U o U' => ∃ v L, o = .returned v ∧ Q4 Z a1 r n g h0 n0 v U'.heap L ∧ FrameEnd U o U' L (({ frames := 0, cells := 0, slots := 0, locals := 0 } : Room)).cells (({ frames := 0, cells := 0, slots := 0, locals := 0 } : Room)).slots) := by
  refine MetFree.of_bodySF (plainFor_of_name pn_1) hisR ?_
  intro p e s m args below meth c s₁ Bd hml0 hP hK
  obtain ⟨rfl, hZ, hh⟩ := hP
  have hx := Bd.exec
  have hby := Bd.bytes
  have hml : c.maxLocals = 1 := hml0
  have hown : s.vm.findClass "com/example/chalk_outline/chalkoutline/Placement" = some m.cls := findClass_of_methodNamed Bd.named
  have hnm := (name_of_methodNamed Bd.named Bd.method).1
  have X0 : Stand p l e ({ frames := 0, cells := 0, slots := 0, locals := 0 } : Room) s m #[(.ref a1)] below meth c s₁ [] 0 0 := Stand.of_body Bd
  have e0 : s₁.heap = h0 := by rw [← hh, Bd.state]; rfl
  have N0 := Fr.nil n0
  show own_Go p.tables e below (own_P s (Q4 Z a1 r n g h0 n0) ({ frames := 0, cells := 0, slots := 0, locals := 0 } : Room).cells ({ frames := 0, cells := 0, slots := 0, locals := 0 } : Room).slots) s₁ _
  rw [ef_4]
  show own_Go p.tables e below _ s₁ (mkF m 0 #[.val (.ref a1)] [])
  refine own_go (fun tz kz => XS.aloadN X0.here hx rfl (hb hby d4_0) rfl rfl kz) ?_
  show own_Go p.tables e below _ s₁ (mkF m 1 #[.val (.ref a1)] [(.ref a1)])
  obtain ⟨T1, X1, e1, st1⟩ := getF X0 hx hZ hown (host := "") (Or.inl (hw _ (List.mem_of_getElem? (i := 17) rfl))) Via.refl e0 F (g := (mkF m 1 #[.val (.ref a1)] [(.ref a1)])) rfl rfl (hb hby d4_1)
  refine own_go st1 ?_
  show own_Go p.tables e below _ T1 (mkF m 4 #[.val (.ref a1)] [(.ref r)])
  obtain ⟨c2, Ar2, Sz2, Ge2⟩ := id (Va)
  refine own_go (fun tz kz => X1.arraylength hx (by rw [e1]; exact Ar2.1) (State.isArrayOf_alike hZ.alike Ar2.2.1) (g := (mkF m 4 #[.val (.ref a1)] [(.ref r)])) rfl rfl (hb hby d4_4) tz kz) ?_
  rw [Sz2]
  show own_Go p.tables e below _ T1 (mkF m 5 #[.val (.ref a1)] [(.int (Int32.ofNat n))])
  by_cases hc : (Int32.ofNat n) = (0 : Int32)
  ·
    refine own_go (fun tz kz => XS.ifNo X1.here hx rfl (hb hby d4_5) rfl (XT.i0_ne_f hc) kz) ?_
    show own_Go p.tables e below _ T1 (mkF m 8 #[.val (.ref a1)] [])
    refine own_go (fun tz kz => XS.iconst X1.here hx rfl (hb hby d4_8) kz) ?_
    show own_Go p.tables e below _ T1 (mkF m 9 #[.val (.ref a1)] [(.int (0 : Int32))])
    refine own_go (fun tz kz => XS.goto X1.here hx rfl (pc0 := 9) (pc' := 18) rfl (hb hby d4_9) (by decide) (by decide) kz) ?_
    show own_Go p.tables e below _ T1 (mkF m 18 #[.val (.ref a1)] [(.int (0 : Int32))])
    obtain ⟨fs, hr, hrun, hended, hW, hsame⟩ := X1.leave (v := some (.int (0 : Int32))) (fun h => by rw [Bd.returns] at h; cases h)
    refine ⟨_, _, ?_, hrun, hended, _, _, rfl, ?_, ⟨_, rfl⟩, hW, hsame.mono (by decide) (by decide)⟩
    · exact retI X1 hx Bd.returns (hb hby d4_18) hr
    · show Q4 Z a1 r n g h0 n0 _ T1.heap _
      rw [e1]
      exact ⟨congrArg (fun z => some (Value.int z)) (if_pos hc).symm, N0, rfl⟩
  ·
    refine own_go (fun tz kz => XS.ifYes X1.here hx rfl (pc0 := 5) (pc' := 12) rfl (hb hby d4_5) rfl (XT.i0_ne_t hc) (by decide) (by decide) kz) ?_
    show own_Go p.tables e below _ T1 (mkF m 12 #[.val (.ref a1)] [])
    refine own_go (fun tz kz => XS.aloadN X1.here hx rfl (hb hby d4_12) rfl rfl kz) ?_
    show own_Go p.tables e below _ T1 (mkF m 13 #[.val (.ref a1)] [(.ref a1)])
    obtain ⟨T3, X3, e3, st3⟩ := getF X1 hx hZ hown (host := "") (Or.inl (hw _ (List.mem_of_getElem? (i := 17) rfl))) Via.refl e1 F (g := (mkF m 13 #[.val (.ref a1)] [(.ref a1)])) rfl rfl (hb hby d4_13)
    refine own_go st3 ?_
    show own_Go p.tables e below _ T3 (mkF m 16 #[.val (.ref a1)] [(.ref r)])
    refine own_go (fun tz kz => XS.iconst X3.here hx rfl (hb hby d4_16) kz) ?_
    show own_Go p.tables e below _ T3 (mkF m 17 #[.val (.ref a1)] [(.int (0 : Int32)), (.ref r)])
    obtain ⟨c4, Ar4, Sz4, Ge4⟩ := id (Va)
    refine own_go (fun tz kz => X3.iaload hx (j := (0 : Int32)) (v := (.int (g 0))) (by rw [e3]; exact Ar4.1) (State.isArrayOf_alike hZ.alike Ar4.2.1) Ar4.2.2 (own_inb (i := 0) Sz4 ⟨by decide, by decide⟩ (hn hc)) (own_at (i := 0) Ge4 ⟨by decide, by decide⟩ (hn hc) rfl) (g := (mkF m 17 #[.val (.ref a1)] [(.int (0 : Int32)), (.ref r)])) rfl rfl (hb hby d4_17) tz kz) ?_
    show own_Go p.tables e below _ T3 (mkF m 18 #[.val (.ref a1)] [(.int (g 0))])
    obtain ⟨fs, hr, hrun, hended, hW, hsame⟩ := X3.leave (v := some (.int (g 0))) (fun h => by rw [Bd.returns] at h; cases h)
    refine ⟨_, _, ?_, hrun, hended, _, _, rfl, ?_, ⟨_, rfl⟩, hW, hsame.mono (by decide) (by decide)⟩
    · exact retI X3 hx Bd.returns (hb hby d4_18) hr
    · show Q4 Z a1 r n g h0 n0 _ T3.heap _
      rw [e3]
      exact ⟨congrArg (fun z => some (Value.int z)) (if_neg hc).symm, N0, rfl⟩
theorem d5_0 : decode prog_11_method_4_code 0 = .ok (.iconst 0, 1) := by decide +kernel
theorem d5_1 : decode prog_11_method_4_code 1 = .ok (.istore_n 2, 1) := by decide +kernel
theorem d5_2 : decode prog_11_method_4_code 2 = .ok (.iload_n 2, 1) := by decide +kernel
theorem d5_3 : decode prog_11_method_4_code 3 = .ok (.aload_n 0, 1) := by decide +kernel
theorem d5_4 : decode prog_11_method_4_code 4 = .ok (.getfield 9, 3) := by decide +kernel
theorem d5_7 : decode prog_11_method_4_code 7 = .ok (.arraylength, 1) := by decide +kernel
theorem d5_8 : decode prog_11_method_4_code 8 = .ok (.if_icmp .ge 19, 3) := by decide +kernel
theorem d5_11 : decode prog_11_method_4_code 11 = .ok (.aload_n 0, 1) := by decide +kernel
theorem d5_12 : decode prog_11_method_4_code 12 = .ok (.getfield 9, 3) := by decide +kernel
theorem d5_15 : decode prog_11_method_4_code 15 = .ok (.iload_n 2, 1) := by decide +kernel
theorem d5_16 : decode prog_11_method_4_code 16 = .ok (.iaload, 1) := by decide +kernel
theorem d5_17 : decode prog_11_method_4_code 17 = .ok (.iload_n 1, 1) := by decide +kernel
theorem d5_18 : decode prog_11_method_4_code 18 = .ok (.if_icmp .gt 9, 3) := by decide +kernel
theorem d5_21 : decode prog_11_method_4_code 21 = .ok (.iinc 2 1, 3) := by decide +kernel
theorem d5_24 : decode prog_11_method_4_code 24 = .ok (.goto (-22), 3) := by decide +kernel
theorem d5_27 : decode prog_11_method_4_code 27 = .ok (.iload_n 2, 1) := by decide +kernel
theorem d5_28 : decode prog_11_method_4_code 28 = .ok (.ireturn, 1) := by decide +kernel
theorem ef_5 (m : MethodId) {a1 : Addr} {p2 : Int32} : entryFrame m #[(.ref a1), (.int p2)] 3 = mkF m 0 #[.val (.ref a1), .val (.int p2), .unset] [] := by first | (simp [entryFrame, mkF, argsToLocals, Value.category]; done) | rfl
def Q5 (Z : State) (a1 : Addr) (p2 : Int32) (r : Addr) (n : Nat) (g : Nat → Int32) (h0 : Heap) (n0 : Nat) (v : Option Value) (h : Heap) (L : List Loc) : Prop := v = some (.int (Int32.ofNat (own_fnd g p2 n 0))) ∧ Fr n0 L ∧ h = h0
set_option maxRecDepth 65536 in
set_option maxHeartbeats 40000000 in
theorem rm5 (l : Launch) (Z : State) (a0 : Array Value) (hw : ∀ d ∈ tables_1, d.before a0 Z = true) (ws : List Jvm.Cond) (a1 : Addr) (p2 : Int32) (r : Addr) (n : Nat) (g : Nat → Int32) (h0 : Heap) (n0 : Nat) (Z0 : n0 ≤ h0.size) (F : Fld Z h0 a1 "com/example/chalk_outline/chalkoutline/Placement" "ranks" "[I" (.ref r)) (Va : own_Av Z h0 r .int n (fun k => .int (g k))) (hn : n < 2 ^ 31) :
    MetFree l (⟨"com/example/chalk_outline/chalkoutline/Placement", "found", "(I)I"⟩ : MethodName) (head1 (Jvm.Cond.code (⟨"com/example/chalk_outline/chalkoutline/Placement", "found", "(I)I"⟩ : MethodName) prog_11_method_4_code 3 (some .int) :: ws) ({ frames := 0, cells := 0, slots := 0, locals := 0 } : Room)) (fun a U => a = #[(.ref a1), (.int p2)] ∧ Z.Warmed39 U.vm ∧ U.heap = h0) (fun _ _ _ _ _ => True) (fun _ U o U' => ∃ v L, o = .returned v ∧ Q5 Z a1 p2 r n g h0 n0 v U'.heap L ∧ FrameEnd U o U' L (({ frames := 0, cells := 0, slots := 0, locals := 0 } : Room)).cells (({ frames := 0, cells := 0, slots := 0, locals := 0 } : Room)).slots) := by
  refine MetFree.of_bodySF (plainFor_of_name pn_1) hisR ?_
  intro p e s m args below meth c s₁ Bd hml0 hP hK
  obtain ⟨rfl, hZ, hh⟩ := hP
  have hx := Bd.exec
  have hby := Bd.bytes
  have hml : c.maxLocals = 3 := hml0
  have hown : s.vm.findClass "com/example/chalk_outline/chalkoutline/Placement" = some m.cls := findClass_of_methodNamed Bd.named
  have hnm := (name_of_methodNamed Bd.named Bd.method).1
  have X0 : Stand p l e ({ frames := 0, cells := 0, slots := 0, locals := 0 } : Room) s m #[(.ref a1), (.int p2)] below meth c s₁ [] 0 0 := Stand.of_body Bd
  have e0 : s₁.heap = h0 := by rw [← hh, Bd.state]; rfl
  have N0 := Fr.nil n0
  show own_Go p.tables e below (own_P s (Q5 Z a1 p2 r n g h0 n0) ({ frames := 0, cells := 0, slots := 0, locals := 0 } : Room).cells ({ frames := 0, cells := 0, slots := 0, locals := 0 } : Room).slots) s₁ _
  rw [ef_5]
  show own_Go p.tables e below _ s₁ (mkF m 0 #[.val (.ref a1), .val (.int p2), .unset] [])
  refine own_go (fun tz kz => XS.iconst X0.here hx rfl (hb hby d5_0) kz) ?_
  show own_Go p.tables e below _ s₁ (mkF m 1 #[.val (.ref a1), .val (.int p2), .unset] [(.int (0 : Int32))])
  refine own_go (fun tz kz => XS.istoreN X0.here hx rfl (hb hby d5_1) rfl (l' := #[.val (.ref a1), .val (.int p2), .val (.int (0 : Int32))]) rfl kz) ?_
  show own_Go p.tables e below _ s₁ (mkF m 2 #[.val (.ref a1), .val (.int p2), .val (.int (0 : Int32))] [])
  have loop : ∀ (k i : Nat) (Tqq : State), i + k = n → own_fnd g p2 k i = own_fnd g p2 n 0 → Stand p l e ({ frames := 0, cells := 0, slots := 0, locals := 0 } : Room) s m #[(.ref a1), (.int p2)] below meth c Tqq [] 0 0 → Tqq.heap = h0 → own_Go p.tables e below (own_P s (Q5 Z a1 p2 r n g h0 n0) ({ frames := 0, cells := 0, slots := 0, locals := 0 } : Room).cells ({ frames := 0, cells := 0, slots := 0, locals := 0 } : Room).slots) Tqq (mkF m 2 #[.val (.ref a1), .val (.int p2), .val (.int (Int32.ofNat i))] []) := by
    intro k
    induction k with
    | zero =>
      intro i Tqq hi hf Xqq eqq
      obtain rfl : n = i := by omega
      show own_Go p.tables e below _ Tqq (mkF m 2 #[.val (.ref a1), .val (.int p2), .val (.int (Int32.ofNat n))] [])
      refine own_go (fun tz kz => XS.iloadN Xqq.here hx rfl (hb hby d5_2) rfl kz) ?_
      show own_Go p.tables e below _ Tqq (mkF m 3 #[.val (.ref a1), .val (.int p2), .val (.int (Int32.ofNat n))] [(.int (Int32.ofNat n))])
      refine own_go (fun tz kz => XS.aloadN Xqq.here hx rfl (hb hby d5_3) rfl rfl kz) ?_
      show own_Go p.tables e below _ Tqq (mkF m 4 #[.val (.ref a1), .val (.int p2), .val (.int (Int32.ofNat n))] [(.ref a1), (.int (Int32.ofNat n))])
      obtain ⟨T1, X1, e1, st1⟩ := getF Xqq hx hZ hown (host := "") (Or.inl (hw _ (List.mem_of_getElem? (i := 17) rfl))) Via.refl eqq F (g := (mkF m 4 #[.val (.ref a1), .val (.int p2), .val (.int (Int32.ofNat n))] [(.ref a1), (.int (Int32.ofNat n))])) rfl rfl (hb hby d5_4)
      refine own_go st1 ?_
      show own_Go p.tables e below _ T1 (mkF m 7 #[.val (.ref a1), .val (.int p2), .val (.int (Int32.ofNat n))] [(.ref r), (.int (Int32.ofNat n))])
      obtain ⟨c2, Ar2, Sz2, Ge2⟩ := id (Va)
      refine own_go (fun tz kz => X1.arraylength hx (by rw [e1]; exact Ar2.1) (State.isArrayOf_alike hZ.alike Ar2.2.1) (g := (mkF m 7 #[.val (.ref a1), .val (.int p2), .val (.int (Int32.ofNat n))] [(.ref r), (.int (Int32.ofNat n))])) rfl rfl (hb hby d5_7) tz kz) ?_
      rw [Sz2]
      show own_Go p.tables e below _ T1 (mkF m 8 #[.val (.ref a1), .val (.int p2), .val (.int (Int32.ofNat n))] [(.int (Int32.ofNat n)), (.int (Int32.ofNat n))])
      refine own_go (fun tz kz => XS.icmpYes X1.here hx rfl (pc0 := 8) (pc' := 27) rfl (hb hby d5_8) rfl (XT.ii_ge_t (fun q => absurd ((own_ltn hn hn).mp q) (Nat.lt_irrefl _))) (by decide) (by decide) kz) ?_
      show own_Go p.tables e below _ T1 (mkF m 27 #[.val (.ref a1), .val (.int p2), .val (.int (Int32.ofNat n))] [])
      refine own_go (fun tz kz => XS.iloadN X1.here hx rfl (hb hby d5_27) rfl kz) ?_
      show own_Go p.tables e below _ T1 (mkF m 28 #[.val (.ref a1), .val (.int p2), .val (.int (Int32.ofNat n))] [(.int (Int32.ofNat n))])
      obtain ⟨fs, hr, hrun, hended, hW, hsame⟩ := X1.leave (v := some (.int (Int32.ofNat n))) (fun h => by rw [Bd.returns] at h; cases h)
      refine ⟨_, _, ?_, hrun, hended, _, _, rfl, ?_, ⟨_, rfl⟩, hW, hsame.mono (by decide) (by decide)⟩
      · exact retI X1 hx Bd.returns (hb hby d5_28) hr
      · show Q5 Z a1 p2 r n g h0 n0 _ T1.heap _
        rw [e1]
        exact ⟨congrArg (fun z => some (Value.int (Int32.ofNat z))) (hf), N0, rfl⟩
    | succ k ih =>
      intro i Tqq hi hf Xqq eqq
      show own_Go p.tables e below _ Tqq (mkF m 2 #[.val (.ref a1), .val (.int p2), .val (.int (Int32.ofNat i))] [])
      refine own_go (fun tz kz => XS.iloadN Xqq.here hx rfl (hb hby d5_2) rfl kz) ?_
      show own_Go p.tables e below _ Tqq (mkF m 3 #[.val (.ref a1), .val (.int p2), .val (.int (Int32.ofNat i))] [(.int (Int32.ofNat i))])
      refine own_go (fun tz kz => XS.aloadN Xqq.here hx rfl (hb hby d5_3) rfl rfl kz) ?_
      show own_Go p.tables e below _ Tqq (mkF m 4 #[.val (.ref a1), .val (.int p2), .val (.int (Int32.ofNat i))] [(.ref a1), (.int (Int32.ofNat i))])
      obtain ⟨T3, X3, e3, st3⟩ := getF Xqq hx hZ hown (host := "") (Or.inl (hw _ (List.mem_of_getElem? (i := 17) rfl))) Via.refl eqq F (g := (mkF m 4 #[.val (.ref a1), .val (.int p2), .val (.int (Int32.ofNat i))] [(.ref a1), (.int (Int32.ofNat i))])) rfl rfl (hb hby d5_4)
      refine own_go st3 ?_
      show own_Go p.tables e below _ T3 (mkF m 7 #[.val (.ref a1), .val (.int p2), .val (.int (Int32.ofNat i))] [(.ref r), (.int (Int32.ofNat i))])
      obtain ⟨c4, Ar4, Sz4, Ge4⟩ := id (Va)
      refine own_go (fun tz kz => X3.arraylength hx (by rw [e3]; exact Ar4.1) (State.isArrayOf_alike hZ.alike Ar4.2.1) (g := (mkF m 7 #[.val (.ref a1), .val (.int p2), .val (.int (Int32.ofNat i))] [(.ref r), (.int (Int32.ofNat i))])) rfl rfl (hb hby d5_7) tz kz) ?_
      rw [Sz4]
      show own_Go p.tables e below _ T3 (mkF m 8 #[.val (.ref a1), .val (.int p2), .val (.int (Int32.ofNat i))] [(.int (Int32.ofNat n)), (.int (Int32.ofNat i))])
      refine own_go (fun tz kz => XS.icmpNo X3.here hx rfl (hb hby d5_8) rfl (XT.ii_ge_f ((own_ltn (by omega) hn).mpr (by omega))) kz) ?_
      show own_Go p.tables e below _ T3 (mkF m 11 #[.val (.ref a1), .val (.int p2), .val (.int (Int32.ofNat i))] [])
      refine own_go (fun tz kz => XS.aloadN X3.here hx rfl (hb hby d5_11) rfl rfl kz) ?_
      show own_Go p.tables e below _ T3 (mkF m 12 #[.val (.ref a1), .val (.int p2), .val (.int (Int32.ofNat i))] [(.ref a1)])
      obtain ⟨T5, X5, e5, st5⟩ := getF X3 hx hZ hown (host := "") (Or.inl (hw _ (List.mem_of_getElem? (i := 17) rfl))) Via.refl e3 F (g := (mkF m 12 #[.val (.ref a1), .val (.int p2), .val (.int (Int32.ofNat i))] [(.ref a1)])) rfl rfl (hb hby d5_12)
      refine own_go st5 ?_
      show own_Go p.tables e below _ T5 (mkF m 15 #[.val (.ref a1), .val (.int p2), .val (.int (Int32.ofNat i))] [(.ref r)])
      refine own_go (fun tz kz => XS.iloadN X5.here hx rfl (hb hby d5_15) rfl kz) ?_
      show own_Go p.tables e below _ T5 (mkF m 16 #[.val (.ref a1), .val (.int p2), .val (.int (Int32.ofNat i))] [(.int (Int32.ofNat i)), (.ref r)])
      obtain ⟨c6, Ar6, Sz6, Ge6⟩ := id (Va)
      refine own_go (fun tz kz => X5.iaload hx (j := (Int32.ofNat i)) (v := (.int (g i))) (by rw [e5]; exact Ar6.1) (State.isArrayOf_alike hZ.alike Ar6.2.1) Ar6.2.2 (own_inb Sz6 (own_nat (i := i) (by omega)) (by omega)) (own_at Ge6 (own_nat (i := i) (by omega)) (by omega) rfl) (g := (mkF m 16 #[.val (.ref a1), .val (.int p2), .val (.int (Int32.ofNat i))] [(.int (Int32.ofNat i)), (.ref r)])) rfl rfl (hb hby d5_16) tz kz) ?_
      show own_Go p.tables e below _ T5 (mkF m 17 #[.val (.ref a1), .val (.int p2), .val (.int (Int32.ofNat i))] [(.int (g i))])
      refine own_go (fun tz kz => XS.iloadN X5.here hx rfl (hb hby d5_17) rfl kz) ?_
      show own_Go p.tables e below _ T5 (mkF m 18 #[.val (.ref a1), .val (.int p2), .val (.int (Int32.ofNat i))] [(.int p2), (.int (g i))])
      by_cases hc : p2 < (g i)
      ·
        refine own_go (fun tz kz => XS.icmpYes X5.here hx rfl (pc0 := 18) (pc' := 27) rfl (hb hby d5_18) rfl (XT.ii_gt_t hc) (by decide) (by decide) kz) ?_
        show own_Go p.tables e below _ T5 (mkF m 27 #[.val (.ref a1), .val (.int p2), .val (.int (Int32.ofNat i))] [])
        refine own_go (fun tz kz => XS.iloadN X5.here hx rfl (hb hby d5_27) rfl kz) ?_
        show own_Go p.tables e below _ T5 (mkF m 28 #[.val (.ref a1), .val (.int p2), .val (.int (Int32.ofNat i))] [(.int (Int32.ofNat i))])
        obtain ⟨fs, hr, hrun, hended, hW, hsame⟩ := X5.leave (v := some (.int (Int32.ofNat i))) (fun h => by rw [Bd.returns] at h; cases h)
        refine ⟨_, _, ?_, hrun, hended, _, _, rfl, ?_, ⟨_, rfl⟩, hW, hsame.mono (by decide) (by decide)⟩
        · exact retI X5 hx Bd.returns (hb hby d5_28) hr
        · show Q5 Z a1 p2 r n g h0 n0 _ T5.heap _
          rw [e5]
          exact ⟨congrArg (fun z => some (Value.int (Int32.ofNat z))) ((if_pos hc).symm.trans hf), N0, rfl⟩
      ·
        refine own_go (fun tz kz => XS.icmpNo X5.here hx rfl (hb hby d5_18) rfl (XT.ii_gt_f hc) kz) ?_
        show own_Go p.tables e below _ T5 (mkF m 21 #[.val (.ref a1), .val (.int p2), .val (.int (Int32.ofNat i))] [])
        refine own_go (fun tz kz => XS.iinc X5.here hx rfl (hb hby d5_21) rfl (l' := #[.val (.ref a1), .val (.int p2), .val (.int ((Int32.ofNat i) + (1 : Int32)))]) rfl kz) ?_
        show own_Go p.tables e below _ T5 (mkF m 24 #[.val (.ref a1), .val (.int p2), .val (.int ((Int32.ofNat i) + (1 : Int32)))] [])
        rw [show ((Int32.ofNat i) + (1 : Int32)) = (Int32.ofNat (i + 1)) from own_succ i]
        show own_Go p.tables e below _ T5 (mkF m 24 #[.val (.ref a1), .val (.int p2), .val (.int (Int32.ofNat (i + 1)))] [])
        refine own_go (fun tz kz => XS.goto X5.here hx rfl (pc0 := 24) (pc' := 2) rfl (hb hby d5_24) (by decide) (by decide) kz) ?_
        show own_Go p.tables e below _ T5 (mkF m 2 #[.val (.ref a1), .val (.int p2), .val (.int (Int32.ofNat (i + 1)))] [])
        exact ih (i + 1) _ (by omega) ((if_neg hc).symm.trans hf) X5 e5
  exact loop n 0 _ (by omega) rfl X0 e0
theorem d6_0 : decode jdk_29_method_69_code 0 = .ok (.iload_n 0, 1) := by decide +kernel
theorem d6_1 : decode jdk_29_method_69_code 1 = .ok (.iload_n 1, 1) := by decide +kernel
theorem d6_2 : decode jdk_29_method_69_code 2 = .ok (.if_icmp .gt 7, 3) := by decide +kernel
theorem d6_5 : decode jdk_29_method_69_code 5 = .ok (.iload_n 0, 1) := by decide +kernel
theorem d6_6 : decode jdk_29_method_69_code 6 = .ok (.goto 4, 3) := by decide +kernel
theorem d6_9 : decode jdk_29_method_69_code 9 = .ok (.iload_n 1, 1) := by decide +kernel
theorem d6_10 : decode jdk_29_method_69_code 10 = .ok (.ireturn, 1) := by decide +kernel
theorem ef_6 (m : MethodId) {p1 : Int32} {p2 : Int32} : entryFrame m #[(.int p1), (.int p2)] 2 = mkF m 0 #[.val (.int p1), .val (.int p2)] [] := by first | (simp [entryFrame, mkF, argsToLocals, Value.category]; done) | rfl
def Q6 (Z : State) (p1 : Int32) (p2 : Int32) (h0 : Heap) (n0 : Nat) (v : Option Value) (h : Heap) (L : List Loc) : Prop := v = some (.int (if p2 < p1 then p2 else p1)) ∧ Fr n0 L ∧ h = h0
set_option maxRecDepth 65536 in
set_option maxHeartbeats 40000000 in
theorem rm6 (l : Launch) (Z : State) (a0 : Array Value) (hw : ∀ d ∈ tables_1, d.before a0 Z = true) (ws : List Jvm.Cond) (p1 : Int32) (p2 : Int32) (h0 : Heap) (n0 : Nat) (Z0 : n0 ≤ h0.size) :
    MetFree l (⟨"java/lang/Math", "min", "(II)I"⟩ : MethodName) (head1 (Jvm.Cond.code (⟨"java/lang/Math", "min", "(II)I"⟩ : MethodName) jdk_29_method_69_code 2 (some .int) :: ws) ({ frames := 0, cells := 0, slots := 0, locals := 0 } : Room)) (fun a U => a = #[(.int p1), (.int p2)] ∧ Z.Warmed39 U.vm ∧ U.heap = h0) (fun _ _ _ _ _ => True) (fun _ U o U' => ∃ v L, o = .returned v ∧ Q6 Z p1 p2 h0 n0 v U'.heap L ∧ FrameEnd U o U' L (({ frames := 0, cells := 0, slots := 0, locals := 0 } : Room)).cells (({ frames := 0, cells := 0, slots := 0, locals := 0 } : Room)).slots) := by
  refine MetFree.of_bodySF (Jvm.Free.JP.mathPlain rfl (by decide +kernel)) hisR ?_
  intro p e s m args below meth c s₁ Bd hml0 hP hK
  obtain ⟨rfl, hZ, hh⟩ := hP
  have hx := Bd.exec
  have hby := Bd.bytes
  have hml : c.maxLocals = 2 := hml0
  have hown : s.vm.findClass "java/lang/Math" = some m.cls := findClass_of_methodNamed Bd.named
  have hnm := (name_of_methodNamed Bd.named Bd.method).1
  have X0 : Stand p l e ({ frames := 0, cells := 0, slots := 0, locals := 0 } : Room) s m #[(.int p1), (.int p2)] below meth c s₁ [] 0 0 := Stand.of_body Bd
  have e0 : s₁.heap = h0 := by rw [← hh, Bd.state]; rfl
  have N0 := Fr.nil n0
  show own_Go p.tables e below (own_P s (Q6 Z p1 p2 h0 n0) ({ frames := 0, cells := 0, slots := 0, locals := 0 } : Room).cells ({ frames := 0, cells := 0, slots := 0, locals := 0 } : Room).slots) s₁ _
  rw [ef_6]
  show own_Go p.tables e below _ s₁ (mkF m 0 #[.val (.int p1), .val (.int p2)] [])
  refine own_go (fun tz kz => XS.iloadN X0.here hx rfl (hb hby d6_0) rfl kz) ?_
  show own_Go p.tables e below _ s₁ (mkF m 1 #[.val (.int p1), .val (.int p2)] [(.int p1)])
  refine own_go (fun tz kz => XS.iloadN X0.here hx rfl (hb hby d6_1) rfl kz) ?_
  show own_Go p.tables e below _ s₁ (mkF m 2 #[.val (.int p1), .val (.int p2)] [(.int p2), (.int p1)])
  by_cases hc : p2 < p1
  ·
    refine own_go (fun tz kz => XS.icmpYes X0.here hx rfl (pc0 := 2) (pc' := 9) rfl (hb hby d6_2) rfl (XT.ii_gt_t hc) (by decide) (by decide) kz) ?_
    show own_Go p.tables e below _ s₁ (mkF m 9 #[.val (.int p1), .val (.int p2)] [])
    refine own_go (fun tz kz => XS.iloadN X0.here hx rfl (hb hby d6_9) rfl kz) ?_
    show own_Go p.tables e below _ s₁ (mkF m 10 #[.val (.int p1), .val (.int p2)] [(.int p2)])
    obtain ⟨fs, hr, hrun, hended, hW, hsame⟩ := X0.leave (v := some (.int p2)) (fun h => by rw [Bd.returns] at h; cases h)
    refine ⟨_, _, ?_, hrun, hended, _, _, rfl, ?_, ⟨_, rfl⟩, hW, hsame.mono (by decide) (by decide)⟩
    · exact retI X0 hx Bd.returns (hb hby d6_10) hr
    · show Q6 Z p1 p2 h0 n0 _ s₁.heap _
      rw [e0]
      exact ⟨congrArg (fun z => some (Value.int z)) (if_pos hc).symm, N0, rfl⟩
  ·
    refine own_go (fun tz kz => XS.icmpNo X0.here hx rfl (hb hby d6_2) rfl (XT.ii_gt_f hc) kz) ?_
    show own_Go p.tables e below _ s₁ (mkF m 5 #[.val (.int p1), .val (.int p2)] [])
    refine own_go (fun tz kz => XS.iloadN X0.here hx rfl (hb hby d6_5) rfl kz) ?_
    show own_Go p.tables e below _ s₁ (mkF m 6 #[.val (.int p1), .val (.int p2)] [(.int p1)])
    refine own_go (fun tz kz => XS.goto X0.here hx rfl (pc0 := 6) (pc' := 10) rfl (hb hby d6_6) (by decide) (by decide) kz) ?_
    show own_Go p.tables e below _ s₁ (mkF m 10 #[.val (.int p1), .val (.int p2)] [(.int p1)])
    obtain ⟨fs, hr, hrun, hended, hW, hsame⟩ := X0.leave (v := some (.int p1)) (fun h => by rw [Bd.returns] at h; cases h)
    refine ⟨_, _, ?_, hrun, hended, _, _, rfl, ?_, ⟨_, rfl⟩, hW, hsame.mono (by decide) (by decide)⟩
    · exact retI X0 hx Bd.returns (hb hby d6_10) hr
    · show Q6 Z p1 p2 h0 n0 _ s₁.heap _
      rw [e0]
      exact ⟨congrArg (fun z => some (Value.int z)) (if_neg hc).symm, N0, rfl⟩
theorem pd_1 : parseMethodDescriptor "([II)V" = some ⟨[(.array .int), .int], none⟩ := by decide +kernel
theorem pd_2 : parseMethodDescriptor "()I" = some ⟨[], some .int⟩ := by decide +kernel
theorem pd_3 : parseMethodDescriptor "(I)I" = some ⟨[.int], some .int⟩ := by decide +kernel
theorem pd_4 : parseMethodDescriptor "(II)I" = some ⟨[.int, .int], some .int⟩ := by decide +kernel
theorem pn_3 : plainName "com/example/chalk_outline/chalkoutline/PlacementFirstPinLaw" = true := by first | (simp [plainName, overriddenIn]; done) | decide +kernel
theorem ef_0 (m : MethodId) {p1 : Int32} {p2 : Int32} {p3 : Int32} {p4 : Int32} : entryFrame m #[(.int p1), (.int p2), (.int p3), (.int p4)] maxLocals = mkF m 0 #[.val (.int p1), .val (.int p2), .val (.int p3), .val (.int p4), .unset, .unset, .unset, .unset, .unset, .unset, .unset, .unset] [] := by first | (simp [entryFrame, mkF, argsToLocals, Value.category, maxLocals]; done) | rfl
def Q0 (Z : State) (p1 : Int32) (p2 : Int32) (p3 : Int32) (p4 : Int32) (h0 : Heap) (n0 : Nat) (v : Option Value) (h : Heap) (L : List Loc) : Prop := v = some (.int 1) ∧ Fr n0 L
set_option maxRecDepth 65536 in
set_option maxHeartbeats 40000000 in
theorem rm0 (l : Launch) (Z : State) (a0 : Array Value) (hw : ∀ d ∈ tables_1, d.before a0 Z = true) (ws : List Jvm.Cond) (p1 : Int32) (p2 : Int32) (p3 : Int32) (p4 : Int32) (h0 : Heap) (n0 : Nat) (Z0 : n0 ≤ h0.size) :
    MetFree l x (head1 (Jvm.Cond.code x code maxLocals ret :: ws) room_1) (fun a U => a = #[(.int p1), (.int p2), (.int p3), (.int p4)] ∧ Z.Warmed39 U.vm ∧ U.heap = h0) (fun _ _ _ _ _ => True) (fun _ U o U' => ∃ v L, o = .returned v ∧ Q0 Z p1 p2 p3 p4 h0 n0 v U'.heap L ∧ FrameEnd U o U' L (room_1).cells (room_1).slots) := by
  refine MetFree.of_bodySF (plainFor_of_name pn_3) hisR ?_
  intro p e s m args below meth c s₁ Bd hml0 hP hK
  obtain ⟨rfl, hZ, hh⟩ := hP
  have hx := Bd.exec
  have hby := Bd.bytes
  have hml : c.maxLocals = 12 := hml0
  have hown : s.vm.findClass "com/example/chalk_outline/chalkoutline/PlacementFirstPinLaw" = some m.cls := findClass_of_methodNamed Bd.named
  have hnm := (name_of_methodNamed Bd.named Bd.method).1
  have X0 : Stand p l e room_1 s m #[(.int p1), (.int p2), (.int p3), (.int p4)] below meth c s₁ [] 0 0 := Stand.of_body Bd
  have e0 : s₁.heap = h0 := by rw [← hh, Bd.state]; rfl
  have N0 := Fr.nil n0
  show own_Go p.tables e below (own_P s (Q0 Z p1 p2 p3 p4 h0 n0) room_1.cells room_1.slots) s₁ _
  rw [ef_0]
  show own_Go p.tables e below _ s₁ (mkF m 0 #[.val (.int p1), .val (.int p2), .val (.int p3), .val (.int p4), .unset, .unset, .unset, .unset, .unset, .unset, .unset, .unset] [])
  obtain ⟨n, hn, en⟩ := own_low3 p1
  obtain ⟨hr1, hr12, hr23⟩ := own_ranks p2 p3 p4 1073741823 268435455 268435455 (by decide) (by decide) (by decide)
  refine own_go (fun tz kz => XS.iloadN X0.here hx rfl (hb hby at_0) rfl kz) ?_
  show own_Go p.tables e below _ s₁ (mkF m 1 #[.val (.int p1), .val (.int p2), .val (.int p3), .val (.int p4), .unset, .unset, .unset, .unset, .unset, .unset, .unset, .unset] [(.int p1)])
  refine own_go (fun tz kz => XS.iconst X0.here hx rfl (hb hby at_1) kz) ?_
  show own_Go p.tables e below _ s₁ (mkF m 2 #[.val (.int p1), .val (.int p2), .val (.int p3), .val (.int p4), .unset, .unset, .unset, .unset, .unset, .unset, .unset, .unset] [(.int (3 : Int32)), (.int p1)])
  refine own_go (fun tz kz => XS.iand X0.here hx rfl (hb hby at_2) rfl kz) ?_
  show own_Go p.tables e below _ s₁ (mkF m 3 #[.val (.int p1), .val (.int p2), .val (.int p3), .val (.int p4), .unset, .unset, .unset, .unset, .unset, .unset, .unset, .unset] [(.int (p1 &&& (3 : Int32)))])
  rw [show (p1 &&& (3 : Int32)) = (Int32.ofNat n) from en]
  show own_Go p.tables e below _ s₁ (mkF m 3 #[.val (.int p1), .val (.int p2), .val (.int p3), .val (.int p4), .unset, .unset, .unset, .unset, .unset, .unset, .unset, .unset] [(.int (Int32.ofNat n))])
  refine own_go (fun tz kz => XS.istore X0.here hx rfl (hb hby at_3) rfl (l' := #[.val (.int p1), .val (.int p2), .val (.int p3), .val (.int p4), .val (.int (Int32.ofNat n)), .unset, .unset, .unset, .unset, .unset, .unset, .unset]) rfl kz) ?_
  show own_Go p.tables e below _ s₁ (mkF m 5 #[.val (.int p1), .val (.int p2), .val (.int p3), .val (.int p4), .val (.int (Int32.ofNat n)), .unset, .unset, .unset, .unset, .unset, .unset, .unset] [])
  refine own_go (fun tz kz => XS.iconst X0.here hx rfl (hb hby at_5) kz) ?_
  show own_Go p.tables e below _ s₁ (mkF m 6 #[.val (.int p1), .val (.int p2), .val (.int p3), .val (.int p4), .val (.int (Int32.ofNat n)), .unset, .unset, .unset, .unset, .unset, .unset, .unset] [(.int (1 : Int32))])
  refine own_go (fun tz kz => XS.iloadN X0.here hx rfl (hb hby at_6) rfl kz) ?_
  show own_Go p.tables e below _ s₁ (mkF m 7 #[.val (.int p1), .val (.int p2), .val (.int p3), .val (.int p4), .val (.int (Int32.ofNat n)), .unset, .unset, .unset, .unset, .unset, .unset, .unset] [(.int p2), (.int (1 : Int32))])
  refine own_go (fun tz kz => X0.ldcI hx hown (mvT hZ (hw _ (List.mem_of_getElem? (i := 0) rfl))) rfl (hb hby at_7) kz) ?_
  show own_Go p.tables e below _ s₁ (mkF m 9 #[.val (.int p1), .val (.int p2), .val (.int p3), .val (.int p4), .val (.int (Int32.ofNat n)), .unset, .unset, .unset, .unset, .unset, .unset, .unset] [(.int (1073741823 : Int32)), (.int p2), (.int (1 : Int32))])
  refine own_go (fun tz kz => XS.iand X0.here hx rfl (hb hby at_9) rfl kz) ?_
  show own_Go p.tables e below _ s₁ (mkF m 10 #[.val (.int p1), .val (.int p2), .val (.int p3), .val (.int p4), .val (.int (Int32.ofNat n)), .unset, .unset, .unset, .unset, .unset, .unset, .unset] [(.int (p2 &&& (1073741823 : Int32))), (.int (1 : Int32))])
  refine own_go (fun tz kz => XS.iadd X0.here hx rfl (hb hby at_10) rfl kz) ?_
  show own_Go p.tables e below _ s₁ (mkF m 11 #[.val (.int p1), .val (.int p2), .val (.int p3), .val (.int p4), .val (.int (Int32.ofNat n)), .unset, .unset, .unset, .unset, .unset, .unset, .unset] [(.int ((1 : Int32) + (p2 &&& (1073741823 : Int32))))])
  refine own_go (fun tz kz => XS.istore X0.here hx rfl (hb hby at_11) rfl (l' := #[.val (.int p1), .val (.int p2), .val (.int p3), .val (.int p4), .val (.int (Int32.ofNat n)), .val (.int ((1 : Int32) + (p2 &&& (1073741823 : Int32)))), .unset, .unset, .unset, .unset, .unset, .unset]) rfl kz) ?_
  show own_Go p.tables e below _ s₁ (mkF m 13 #[.val (.int p1), .val (.int p2), .val (.int p3), .val (.int p4), .val (.int (Int32.ofNat n)), .val (.int ((1 : Int32) + (p2 &&& (1073741823 : Int32)))), .unset, .unset, .unset, .unset, .unset, .unset] [])
  generalize ((1 : Int32) + (p2 &&& (1073741823 : Int32))) = r1 at hr1 hr12 hr23 ⊢
  show own_Go p.tables e below _ s₁ (mkF m 13 #[.val (.int p1), .val (.int p2), .val (.int p3), .val (.int p4), .val (.int (Int32.ofNat n)), .val (.int r1), .unset, .unset, .unset, .unset, .unset, .unset] [])
  refine own_go (fun tz kz => XS.iload X0.here hx rfl (hb hby at_13) rfl kz) ?_
  show own_Go p.tables e below _ s₁ (mkF m 15 #[.val (.int p1), .val (.int p2), .val (.int p3), .val (.int p4), .val (.int (Int32.ofNat n)), .val (.int r1), .unset, .unset, .unset, .unset, .unset, .unset] [(.int r1)])
  refine own_go (fun tz kz => XS.iconst X0.here hx rfl (hb hby at_15) kz) ?_
  show own_Go p.tables e below _ s₁ (mkF m 16 #[.val (.int p1), .val (.int p2), .val (.int p3), .val (.int p4), .val (.int (Int32.ofNat n)), .val (.int r1), .unset, .unset, .unset, .unset, .unset, .unset] [(.int (1 : Int32)), (.int r1)])
  refine own_go (fun tz kz => XS.iadd X0.here hx rfl (hb hby at_16) rfl kz) ?_
  show own_Go p.tables e below _ s₁ (mkF m 17 #[.val (.int p1), .val (.int p2), .val (.int p3), .val (.int p4), .val (.int (Int32.ofNat n)), .val (.int r1), .unset, .unset, .unset, .unset, .unset, .unset] [(.int (r1 + (1 : Int32)))])
  refine own_go (fun tz kz => XS.iloadN X0.here hx rfl (hb hby at_17) rfl kz) ?_
  show own_Go p.tables e below _ s₁ (mkF m 18 #[.val (.int p1), .val (.int p2), .val (.int p3), .val (.int p4), .val (.int (Int32.ofNat n)), .val (.int r1), .unset, .unset, .unset, .unset, .unset, .unset] [(.int p3), (.int (r1 + (1 : Int32)))])
  refine own_go (fun tz kz => X0.ldcI hx hown (mvT hZ (hw _ (List.mem_of_getElem? (i := 1) rfl))) rfl (hb hby at_18) kz) ?_
  show own_Go p.tables e below _ s₁ (mkF m 20 #[.val (.int p1), .val (.int p2), .val (.int p3), .val (.int p4), .val (.int (Int32.ofNat n)), .val (.int r1), .unset, .unset, .unset, .unset, .unset, .unset] [(.int (268435455 : Int32)), (.int p3), (.int (r1 + (1 : Int32)))])
  refine own_go (fun tz kz => XS.iand X0.here hx rfl (hb hby at_20) rfl kz) ?_
  show own_Go p.tables e below _ s₁ (mkF m 21 #[.val (.int p1), .val (.int p2), .val (.int p3), .val (.int p4), .val (.int (Int32.ofNat n)), .val (.int r1), .unset, .unset, .unset, .unset, .unset, .unset] [(.int (p3 &&& (268435455 : Int32))), (.int (r1 + (1 : Int32)))])
  refine own_go (fun tz kz => XS.iadd X0.here hx rfl (hb hby at_21) rfl kz) ?_
  show own_Go p.tables e below _ s₁ (mkF m 22 #[.val (.int p1), .val (.int p2), .val (.int p3), .val (.int p4), .val (.int (Int32.ofNat n)), .val (.int r1), .unset, .unset, .unset, .unset, .unset, .unset] [(.int ((r1 + (1 : Int32)) + (p3 &&& (268435455 : Int32))))])
  refine own_go (fun tz kz => XS.istore X0.here hx rfl (hb hby at_22) rfl (l' := #[.val (.int p1), .val (.int p2), .val (.int p3), .val (.int p4), .val (.int (Int32.ofNat n)), .val (.int r1), .val (.int ((r1 + (1 : Int32)) + (p3 &&& (268435455 : Int32)))), .unset, .unset, .unset, .unset, .unset]) rfl kz) ?_
  show own_Go p.tables e below _ s₁ (mkF m 24 #[.val (.int p1), .val (.int p2), .val (.int p3), .val (.int p4), .val (.int (Int32.ofNat n)), .val (.int r1), .val (.int ((r1 + (1 : Int32)) + (p3 &&& (268435455 : Int32)))), .unset, .unset, .unset, .unset, .unset] [])
  generalize ((r1 + (1 : Int32)) + (p3 &&& (268435455 : Int32))) = r2 at hr1 hr12 hr23 ⊢
  show own_Go p.tables e below _ s₁ (mkF m 24 #[.val (.int p1), .val (.int p2), .val (.int p3), .val (.int p4), .val (.int (Int32.ofNat n)), .val (.int r1), .val (.int r2), .unset, .unset, .unset, .unset, .unset] [])
  refine own_go (fun tz kz => XS.iload X0.here hx rfl (hb hby at_24) rfl kz) ?_
  show own_Go p.tables e below _ s₁ (mkF m 26 #[.val (.int p1), .val (.int p2), .val (.int p3), .val (.int p4), .val (.int (Int32.ofNat n)), .val (.int r1), .val (.int r2), .unset, .unset, .unset, .unset, .unset] [(.int r2)])
  refine own_go (fun tz kz => XS.iconst X0.here hx rfl (hb hby at_26) kz) ?_
  show own_Go p.tables e below _ s₁ (mkF m 27 #[.val (.int p1), .val (.int p2), .val (.int p3), .val (.int p4), .val (.int (Int32.ofNat n)), .val (.int r1), .val (.int r2), .unset, .unset, .unset, .unset, .unset] [(.int (1 : Int32)), (.int r2)])
  refine own_go (fun tz kz => XS.iadd X0.here hx rfl (hb hby at_27) rfl kz) ?_
  show own_Go p.tables e below _ s₁ (mkF m 28 #[.val (.int p1), .val (.int p2), .val (.int p3), .val (.int p4), .val (.int (Int32.ofNat n)), .val (.int r1), .val (.int r2), .unset, .unset, .unset, .unset, .unset] [(.int (r2 + (1 : Int32)))])
  refine own_go (fun tz kz => XS.iloadN X0.here hx rfl (hb hby at_28) rfl kz) ?_
  show own_Go p.tables e below _ s₁ (mkF m 29 #[.val (.int p1), .val (.int p2), .val (.int p3), .val (.int p4), .val (.int (Int32.ofNat n)), .val (.int r1), .val (.int r2), .unset, .unset, .unset, .unset, .unset] [(.int p4), (.int (r2 + (1 : Int32)))])
  refine own_go (fun tz kz => X0.ldcI hx hown (mvT hZ (hw _ (List.mem_of_getElem? (i := 1) rfl))) rfl (hb hby at_29) kz) ?_
  show own_Go p.tables e below _ s₁ (mkF m 31 #[.val (.int p1), .val (.int p2), .val (.int p3), .val (.int p4), .val (.int (Int32.ofNat n)), .val (.int r1), .val (.int r2), .unset, .unset, .unset, .unset, .unset] [(.int (268435455 : Int32)), (.int p4), (.int (r2 + (1 : Int32)))])
  refine own_go (fun tz kz => XS.iand X0.here hx rfl (hb hby at_31) rfl kz) ?_
  show own_Go p.tables e below _ s₁ (mkF m 32 #[.val (.int p1), .val (.int p2), .val (.int p3), .val (.int p4), .val (.int (Int32.ofNat n)), .val (.int r1), .val (.int r2), .unset, .unset, .unset, .unset, .unset] [(.int (p4 &&& (268435455 : Int32))), (.int (r2 + (1 : Int32)))])
  refine own_go (fun tz kz => XS.iadd X0.here hx rfl (hb hby at_32) rfl kz) ?_
  show own_Go p.tables e below _ s₁ (mkF m 33 #[.val (.int p1), .val (.int p2), .val (.int p3), .val (.int p4), .val (.int (Int32.ofNat n)), .val (.int r1), .val (.int r2), .unset, .unset, .unset, .unset, .unset] [(.int ((r2 + (1 : Int32)) + (p4 &&& (268435455 : Int32))))])
  refine own_go (fun tz kz => XS.istore X0.here hx rfl (hb hby at_33) rfl (l' := #[.val (.int p1), .val (.int p2), .val (.int p3), .val (.int p4), .val (.int (Int32.ofNat n)), .val (.int r1), .val (.int r2), .val (.int ((r2 + (1 : Int32)) + (p4 &&& (268435455 : Int32)))), .unset, .unset, .unset, .unset]) rfl kz) ?_
  show own_Go p.tables e below _ s₁ (mkF m 35 #[.val (.int p1), .val (.int p2), .val (.int p3), .val (.int p4), .val (.int (Int32.ofNat n)), .val (.int r1), .val (.int r2), .val (.int ((r2 + (1 : Int32)) + (p4 &&& (268435455 : Int32)))), .unset, .unset, .unset, .unset] [])
  generalize ((r2 + (1 : Int32)) + (p4 &&& (268435455 : Int32))) = r3 at hr1 hr12 hr23 ⊢
  show own_Go p.tables e below _ s₁ (mkF m 35 #[.val (.int p1), .val (.int p2), .val (.int p3), .val (.int p4), .val (.int (Int32.ofNat n)), .val (.int r1), .val (.int r2), .val (.int r3), .unset, .unset, .unset, .unset] [])
  rcases (by omega : n = 0 ∨ n = 1 ∨ n = 2 ∨ n = 3) with rfl | rfl | rfl | rfl
  ·
    show own_Go p.tables e below _ s₁ (mkF m 35 #[.val (.int p1), .val (.int p2), .val (.int p3), .val (.int p4), .val (.int (Int32.ofNat 0)), .val (.int r1), .val (.int r2), .val (.int r3), .unset, .unset, .unset, .unset] [])
    refine own_go (fun tz kz => XS.iload X0.here hx rfl (hb hby at_35) rfl kz) ?_
    show own_Go p.tables e below _ s₁ (mkF m 37 #[.val (.int p1), .val (.int p2), .val (.int p3), .val (.int p4), .val (.int (Int32.ofNat 0)), .val (.int r1), .val (.int r2), .val (.int r3), .unset, .unset, .unset, .unset] [(.int (Int32.ofNat 0))])
    obtain ⟨T1, h1, k1, X1, e1, E1, A1, st1⟩ := newP X0 hx hZ (hw _ (List.mem_of_getElem? (i := 2) rfl)) e0 (g := (mkF m 37 #[.val (.int p1), .val (.int p2), .val (.int p3), .val (.int p4), .val (.int (Int32.ofNat 0)), .val (.int r1), .val (.int r2), .val (.int r3), .unset, .unset, .unset, .unset] [(.int (Int32.ofNat 0))])) rfl (hb hby at_37) rfl (by decide) (cap := 3) (by decide) (by decide) (by decide) (by decide)
    obtain ⟨b, eq_b⟩ : ∃ z, z = (h0).size := ⟨_, rfl⟩
    rw [← eq_b] at A1 st1
    have g_b : n0 ≤ b := Nat.le_trans Z0 (Nat.le_of_eq eq_b.symm)
    have V_b : own_Av Z h1 b .int 0 (fun _ => .int 0) := own_Av.new A1 (by decide)
    refine own_go st1 ?_
    show own_Go p.tables e below _ T1 (mkF m 39 #[.val (.int p1), .val (.int p2), .val (.int p3), .val (.int p4), .val (.int (Int32.ofNat 0)), .val (.int r1), .val (.int r2), .val (.int r3), .unset, .unset, .unset, .unset] [(.ref b)])
    refine own_go (fun tz kz => XS.astore X1.here hx rfl (hb hby at_39) rfl rfl (l' := #[.val (.int p1), .val (.int p2), .val (.int p3), .val (.int p4), .val (.int (Int32.ofNat 0)), .val (.int r1), .val (.int r2), .val (.int r3), .val (.ref b), .unset, .unset, .unset]) rfl kz) ?_
    show own_Go p.tables e below _ T1 (mkF m 41 #[.val (.int p1), .val (.int p2), .val (.int p3), .val (.int p4), .val (.int (Int32.ofNat 0)), .val (.int r1), .val (.int r2), .val (.int r3), .val (.ref b), .unset, .unset, .unset] [])
    refine own_go (fun tz kz => XS.iload X1.here hx rfl (hb hby at_41) rfl kz) ?_
    show own_Go p.tables e below _ T1 (mkF m 43 #[.val (.int p1), .val (.int p2), .val (.int p3), .val (.int p4), .val (.int (Int32.ofNat 0)), .val (.int r1), .val (.int r2), .val (.int r3), .val (.ref b), .unset, .unset, .unset] [(.int (Int32.ofNat 0))])
    refine own_go (fun tz kz => XS.iconst X1.here hx rfl (hb hby at_43) kz) ?_
    show own_Go p.tables e below _ T1 (mkF m 44 #[.val (.int p1), .val (.int p2), .val (.int p3), .val (.int p4), .val (.int (Int32.ofNat 0)), .val (.int r1), .val (.int r2), .val (.int r3), .val (.ref b), .unset, .unset, .unset] [(.int (1 : Int32)), (.int (Int32.ofNat 0))])
    refine own_go (fun tz kz => XS.icmpYes X1.here hx rfl (pc0 := 44) (pc' := 53) rfl (hb hby at_44) rfl (XT.ii_lt_t (by decide)) (by decide) (by decide) kz) ?_
    show own_Go p.tables e below _ T1 (mkF m 53 #[.val (.int p1), .val (.int p2), .val (.int p3), .val (.int p4), .val (.int (Int32.ofNat 0)), .val (.int r1), .val (.int r2), .val (.int r3), .val (.ref b), .unset, .unset, .unset] [])
    refine own_go (fun tz kz => XS.iload X1.here hx rfl (hb hby at_53) rfl kz) ?_
    show own_Go p.tables e below _ T1 (mkF m 55 #[.val (.int p1), .val (.int p2), .val (.int p3), .val (.int p4), .val (.int (Int32.ofNat 0)), .val (.int r1), .val (.int r2), .val (.int r3), .val (.ref b), .unset, .unset, .unset] [(.int (Int32.ofNat 0))])
    refine own_go (fun tz kz => XS.iconst X1.here hx rfl (hb hby at_55) kz) ?_
    show own_Go p.tables e below _ T1 (mkF m 56 #[.val (.int p1), .val (.int p2), .val (.int p3), .val (.int p4), .val (.int (Int32.ofNat 0)), .val (.int r1), .val (.int r2), .val (.int r3), .val (.ref b), .unset, .unset, .unset] [(.int (2 : Int32)), (.int (Int32.ofNat 0))])
    refine own_go (fun tz kz => XS.icmpYes X1.here hx rfl (pc0 := 56) (pc' := 65) rfl (hb hby at_56) rfl (XT.ii_lt_t (by decide)) (by decide) (by decide) kz) ?_
    show own_Go p.tables e below _ T1 (mkF m 65 #[.val (.int p1), .val (.int p2), .val (.int p3), .val (.int p4), .val (.int (Int32.ofNat 0)), .val (.int r1), .val (.int r2), .val (.int r3), .val (.ref b), .unset, .unset, .unset] [])
    refine own_go (fun tz kz => XS.iload X1.here hx rfl (hb hby at_65) rfl kz) ?_
    show own_Go p.tables e below _ T1 (mkF m 67 #[.val (.int p1), .val (.int p2), .val (.int p3), .val (.int p4), .val (.int (Int32.ofNat 0)), .val (.int r1), .val (.int r2), .val (.int r3), .val (.ref b), .unset, .unset, .unset] [(.int (Int32.ofNat 0))])
    refine own_go (fun tz kz => XS.iconst X1.here hx rfl (hb hby at_67) kz) ?_
    show own_Go p.tables e below _ T1 (mkF m 68 #[.val (.int p1), .val (.int p2), .val (.int p3), .val (.int p4), .val (.int (Int32.ofNat 0)), .val (.int r1), .val (.int r2), .val (.int r3), .val (.ref b), .unset, .unset, .unset] [(.int (3 : Int32)), (.int (Int32.ofNat 0))])
    refine own_go (fun tz kz => XS.icmpYes X1.here hx rfl (pc0 := 68) (pc' := 77) rfl (hb hby at_68) rfl (XT.ii_lt_t (by decide)) (by decide) (by decide) kz) ?_
    show own_Go p.tables e below _ T1 (mkF m 77 #[.val (.int p1), .val (.int p2), .val (.int p3), .val (.int p4), .val (.int (Int32.ofNat 0)), .val (.int r1), .val (.int r2), .val (.int r3), .val (.ref b), .unset, .unset, .unset] [])
    have Vb : own_Av Z h1 b .int 0 (fun k => .int (own_g r1 r2 r3 k)) := own_Av.eq V_b (fun k hk => absurd hk (Nat.not_lt_zero k))
    obtain ⟨T2, h2, X2, e2, E2, A2, D2, -, st2⟩ := newO X1 hx hZ hown (hw _ (List.mem_of_getElem? (i := 3) rfl)) (hw _ (List.mem_of_getElem? (i := 4) rfl)) (hw _ (List.mem_of_getElem? (i := 5) rfl)) e1 (g := (mkF m 77 #[.val (.int p1), .val (.int p2), .val (.int p3), .val (.int p4), .val (.int (Int32.ofNat 0)), .val (.int r1), .val (.int r2), .val (.int r3), .val (.ref b), .unset, .unset, .unset] [])) rfl (hb hby at_77) (by decide) (by decide)
    obtain ⟨o, eq_o⟩ : ∃ z, z = (h1).size := ⟨_, rfl⟩
    rw [← eq_o] at A2 D2 st2
    have g_o : n0 ≤ o := Nat.le_trans (Nat.le_trans Z0 E1.1) (Nat.le_of_eq eq_o.symm)
    have F_ranks_o : Fld Z h2 o "com/example/chalk_outline/chalkoutline/Placement" "ranks" "[I" .null := D2 (Or.inr (hw _ (List.mem_of_getElem? (i := 18) rfl))) (ty := (.array .int)) (by decide)
    have F_relevant_o : Fld Z h2 o "com/example/chalk_outline/chalkoutline/Placement" "relevant" "I" (.int (0 : Int32)) := D2 (Or.inr (hw _ (List.mem_of_getElem? (i := 20) rfl))) (ty := .int) (by decide)
    refine own_go st2 ?_
    show own_Go p.tables e below _ T2 (mkF m 80 #[.val (.int p1), .val (.int p2), .val (.int p3), .val (.int p4), .val (.int (Int32.ofNat 0)), .val (.int r1), .val (.int r2), .val (.int r3), .val (.ref b), .unset, .unset, .unset] [(.ref o)])
    refine own_go (fun tz kz => XS.dup X2.here hx rfl (hb hby at_80) rfl rfl kz) ?_
    show own_Go p.tables e below _ T2 (mkF m 81 #[.val (.int p1), .val (.int p2), .val (.int p3), .val (.int p4), .val (.int (Int32.ofNat 0)), .val (.int r1), .val (.int r2), .val (.int r3), .val (.ref b), .unset, .unset, .unset] [(.ref o), (.ref o)])
    refine own_go (fun tz kz => XS.aload X2.here hx rfl (hb hby at_81) rfl rfl kz) ?_
    show own_Go p.tables e below _ T2 (mkF m 83 #[.val (.int p1), .val (.int p2), .val (.int p3), .val (.int p4), .val (.int (Int32.ofNat 0)), .val (.int r1), .val (.int r2), .val (.int r3), .val (.ref b), .unset, .unset, .unset] [(.ref b), (.ref o), (.ref o)])
    refine own_go (fun tz kz => XS.iload X2.here hx rfl (hb hby at_83) rfl kz) ?_
    show own_Go p.tables e below _ T2 (mkF m 85 #[.val (.int p1), .val (.int p2), .val (.int p3), .val (.int p4), .val (.int (Int32.ofNat 0)), .val (.int r1), .val (.int r2), .val (.int r3), .val (.ref b), .unset, .unset, .unset] [(.int (Int32.ofNat 0)), (.ref b), (.ref o), (.ref o)])
    refine own_go (fun tz kz => XS.iloadN X2.here hx rfl (hb hby at_85) rfl kz) ?_
    show own_Go p.tables e below _ T2 (mkF m 86 #[.val (.int p1), .val (.int p2), .val (.int p3), .val (.int p4), .val (.int (Int32.ofNat 0)), .val (.int r1), .val (.int r2), .val (.int r3), .val (.ref b), .unset, .unset, .unset] [(.int p1), (.int (Int32.ofNat 0)), (.ref b), (.ref o), (.ref o)])
    refine own_go (fun tz kz => XS.iconst X2.here hx rfl (hb hby at_86) kz) ?_
    show own_Go p.tables e below _ T2 (mkF m 87 #[.val (.int p1), .val (.int p2), .val (.int p3), .val (.int p4), .val (.int (Int32.ofNat 0)), .val (.int r1), .val (.int r2), .val (.int r3), .val (.ref b), .unset, .unset, .unset] [(.int (2 : Int32)), (.int p1), (.int (Int32.ofNat 0)), (.ref b), (.ref o), (.ref o)])
    refine own_go (fun tz kz => XT.iushr X2.here hx rfl (hb hby at_87) rfl kz) ?_
    show own_Go p.tables e below _ T2 (mkF m 88 #[.val (.int p1), .val (.int p2), .val (.int p3), .val (.int p4), .val (.int (Int32.ofNat 0)), .val (.int r1), .val (.int r2), .val (.int r3), .val (.ref b), .unset, .unset, .unset] [(.int (XT.ushr p1 (2 : Int32))), (.int (Int32.ofNat 0)), (.ref b), (.ref o), (.ref o)])
    refine own_go (fun tz kz => XS.bipush X2.here hx rfl (hb hby at_88) kz) ?_
    show own_Go p.tables e below _ T2 (mkF m 90 #[.val (.int p1), .val (.int p2), .val (.int p3), .val (.int p4), .val (.int (Int32.ofNat 0)), .val (.int r1), .val (.int r2), .val (.int r3), .val (.ref b), .unset, .unset, .unset] [(.int (7 : Int32)), (.int (XT.ushr p1 (2 : Int32))), (.int (Int32.ofNat 0)), (.ref b), (.ref o), (.ref o)])
    refine own_go (fun tz kz => XS.iand X2.here hx rfl (hb hby at_90) rfl kz) ?_
    show own_Go p.tables e below _ T2 (mkF m 91 #[.val (.int p1), .val (.int p2), .val (.int p3), .val (.int p4), .val (.int (Int32.ofNat 0)), .val (.int r1), .val (.int r2), .val (.int r3), .val (.ref b), .unset, .unset, .unset] [(.int ((XT.ushr p1 (2 : Int32)) &&& (7 : Int32))), (.int (Int32.ofNat 0)), (.ref b), (.ref o), (.ref o)])
    refine own_go (fun tz kz => XS.iadd X2.here hx rfl (hb hby at_91) rfl kz) ?_
    show own_Go p.tables e below _ T2 (mkF m 92 #[.val (.int p1), .val (.int p2), .val (.int p3), .val (.int p4), .val (.int (Int32.ofNat 0)), .val (.int r1), .val (.int r2), .val (.int r3), .val (.ref b), .unset, .unset, .unset] [(.int ((Int32.ofNat 0) + ((XT.ushr p1 (2 : Int32)) &&& (7 : Int32)))), (.ref b), (.ref o), (.ref o)])
    obtain ⟨_, _, ⟨T3, L3, k3, n3⟩, -, X3, ⟨Lc3, hQ3, l3, y3, z3⟩, st3⟩ := X2.specialBack hx (y := (⟨"com/example/chalk_outline/chalkoutline/Placement", "<init>", "([II)V"⟩ : MethodName)) rfl hown (mvT hZ (hw _ (List.mem_of_getElem? (i := 6) rfl))) (mvT hZ (hw _ (List.mem_of_getElem? (i := 7) rfl))) (mvT hZ (hw _ (List.mem_of_getElem? (i := 8) rfl))) (by decide) (backOf (W := 1) (rm1 l Z a0 hw [] o b ((Int32.ofNat 0) + ((XT.ushr p1 (2 : Int32)) &&& (7 : Int32))) _ _ h2 n0 (Nat.le_trans (Nat.le_trans Z0 E1.1) E2.1) F_ranks_o F_relevant_o A2 g_o) hZ (hw _ (List.mem_of_getElem? (i := 8) rfl)) (hw _ (List.mem_of_getElem? (i := 5) rfl)) (by decide) (by decide)) (g := (mkF m 92 #[.val (.int p1), .val (.int p2), .val (.int p3), .val (.int p4), .val (.int (Int32.ofNat 0)), .val (.int r1), .val (.int r2), .val (.int r3), .val (.ref b), .unset, .unset, .unset] [(.int ((Int32.ofNat 0) + ((XT.ushr p1 (2 : Int32)) &&& (7 : Int32)))), (.ref b), (.ref o), (.ref o)])) rfl (by rw [hml]; rfl) (Steps.refl _) (a := o) (argsL := [(.ref b), (.int ((Int32.ofNat 0) + ((XT.ushr p1 (2 : Int32)) &&& (7 : Int32))))]) (rest := [(.ref o)]) (lenOf pd_1 rfl) rfl (by show 2 * 0 + _ ≤ _; exact Nat.le_of_eq rfl) (hb hby at_92) (fun _ _ => ⟨rfl, e2, (by decide : 2 + 0 ≤ _), (by decide : 5 + 0 ≤ _)⟩)
    dsimp only [Pt.U, Pt.locs, Pt.cells, Pt.slots] at X3 l3 y3 z3 st3 hQ3
    subst l3 y3 z3
    obtain ⟨rfl, N3q, K3, Ex, Fr', Fe⟩ := hQ3
    have N3 := Fr.app N0 N3q
    refine own_go (fun tz kz => st3.trans kz) ?_
    show own_Go p.tables e below _ T3 (mkF m 95 #[.val (.int p1), .val (.int p2), .val (.int p3), .val (.int p4), .val (.int (Int32.ofNat 0)), .val (.int r1), .val (.int r2), .val (.int r3), .val (.ref b), .unset, .unset, .unset] [(.ref o)])
    have Vb' := own_Av.keep (Vb.ext E2) K3 (own_not1 (Nat.ne_of_lt (Nat.lt_of_lt_of_le Vb.lt (Nat.le_of_eq eq_o.symm))))
    refine own_go (fun tz kz => XS.astore X3.here hx rfl (hb hby at_95) rfl rfl (l' := #[.val (.int p1), .val (.int p2), .val (.int p3), .val (.int p4), .val (.int (Int32.ofNat 0)), .val (.int r1), .val (.int r2), .val (.int r3), .val (.ref b), .val (.ref o), .unset, .unset]) rfl kz) ?_
    show own_Go p.tables e below _ T3 (mkF m 97 #[.val (.int p1), .val (.int p2), .val (.int p3), .val (.int p4), .val (.int (Int32.ofNat 0)), .val (.int r1), .val (.int r2), .val (.int r3), .val (.ref b), .val (.ref o), .unset, .unset] [])
    refine own_go (fun tz kz => XS.aload X3.here hx rfl (hb hby at_97) rfl rfl kz) ?_
    show own_Go p.tables e below _ T3 (mkF m 99 #[.val (.int p1), .val (.int p2), .val (.int p3), .val (.int p4), .val (.int (Int32.ofNat 0)), .val (.int r1), .val (.int r2), .val (.int r3), .val (.ref b), .val (.ref o), .unset, .unset] [(.ref o)])
    obtain ⟨cq4, kq4, q4a, q4b, q4c⟩ := isOf hZ rfl Ex
    obtain ⟨_, _, ⟨T4, L4, k4, n4⟩, -, X4, ⟨Lc4, hQ4, l4, y4, z4⟩, st4⟩ := X3.virtualBack hx (y := (⟨"com/example/chalk_outline/chalkoutline/Placement", "first", "()I"⟩ : MethodName)) (z := (⟨"com/example/chalk_outline/chalkoutline/Placement", "first", "()I"⟩ : MethodName)) hown (mvT hZ (hw _ (List.mem_of_getElem? (i := 21) rfl))) (mvT hZ (hw _ (List.mem_of_getElem? (i := 22) rfl))) (notFace_of_selects (args := #[]) (mvT hZ (hw _ (List.mem_of_getElem? (i := 24) rfl)))) (mvT hZ (hw _ (List.mem_of_getElem? (i := 24) rfl))) (mvT hZ (hw _ (List.mem_of_getElem? (i := 23) rfl))) (by decide) (backOf (W := 0) (rm4 l Z a0 hw [] o b 0 (own_g r1 r2 r3) T3.heap n0 (Nat.le_trans (Nat.le_trans (Nat.le_trans Z0 E1.1) E2.1) K3.1) Fr' Vb' (by decide)) hZ (hw _ (List.mem_of_getElem? (i := 25) rfl)) (hw _ (List.mem_of_getElem? (i := 5) rfl)) (by decide) (by decide)) q4a q4c (g := (mkF m 99 #[.val (.int p1), .val (.int p2), .val (.int p3), .val (.int p4), .val (.int (Int32.ofNat 0)), .val (.int r1), .val (.int r2), .val (.int r3), .val (.ref b), .val (.ref o), .unset, .unset] [(.ref o)])) rfl (by rw [hml]; rfl) (Steps.refl _) (argsL := []) (rest := []) (lenOf pd_2 rfl) rfl (by show 2 * 0 + _ ≤ _; exact Nat.le_of_eq rfl) (hb hby at_99) (fun _ _ => ⟨rfl, rfl, (by decide : 2 + 0 ≤ _), (by decide : 5 + 0 ≤ _)⟩)
    dsimp only [Pt.U, Pt.locs, Pt.cells, Pt.slots] at X4 l4 y4 z4 st4 hQ4
    subst l4 y4 z4
    obtain ⟨rfl, N4q, e4⟩ := hQ4
    have N4 := Fr.app N3 N4q
    refine own_go (fun tz kz => st4.trans kz) ?_
    show own_Go p.tables e below _ T4 (mkF m 102 #[.val (.int p1), .val (.int p2), .val (.int p3), .val (.int p4), .val (.int (Int32.ofNat 0)), .val (.int r1), .val (.int r2), .val (.int r3), .val (.ref b), .val (.ref o), .unset, .unset] [(.int (if Int32.ofNat 0 = 0 then 0 else (own_g r1 r2 r3) 0))])
    show own_Go p.tables e below _ T4 (mkF m 102 #[.val (.int p1), .val (.int p2), .val (.int p3), .val (.int p4), .val (.int (Int32.ofNat 0)), .val (.int r1), .val (.int r2), .val (.int r3), .val (.ref b), .val (.ref o), .unset, .unset] [(.int (0 : Int32))])
    refine own_go (fun tz kz => XS.istore X4.here hx rfl (hb hby at_102) rfl (l' := #[.val (.int p1), .val (.int p2), .val (.int p3), .val (.int p4), .val (.int (Int32.ofNat 0)), .val (.int r1), .val (.int r2), .val (.int r3), .val (.ref b), .val (.ref o), .val (.int (0 : Int32)), .unset]) rfl kz) ?_
    show own_Go p.tables e below _ T4 (mkF m 104 #[.val (.int p1), .val (.int p2), .val (.int p3), .val (.int p4), .val (.int (Int32.ofNat 0)), .val (.int r1), .val (.int r2), .val (.int r3), .val (.ref b), .val (.ref o), .val (.int (0 : Int32)), .unset] [])
    refine own_go (fun tz kz => XS.iload X4.here hx rfl (hb hby at_104) rfl kz) ?_
    show own_Go p.tables e below _ T4 (mkF m 106 #[.val (.int p1), .val (.int p2), .val (.int p3), .val (.int p4), .val (.int (Int32.ofNat 0)), .val (.int r1), .val (.int r2), .val (.int r3), .val (.ref b), .val (.ref o), .val (.int (0 : Int32)), .unset] [(.int (Int32.ofNat 0))])
    refine own_go (fun tz kz => XS.ifNo X4.here hx rfl (hb hby at_106) rfl (XT.i0_ne_f (by decide)) kz) ?_
    show own_Go p.tables e below _ T4 (mkF m 109 #[.val (.int p1), .val (.int p2), .val (.int p3), .val (.int p4), .val (.int (Int32.ofNat 0)), .val (.int r1), .val (.int r2), .val (.int r3), .val (.ref b), .val (.ref o), .val (.int (0 : Int32)), .unset] [])
    refine own_go (fun tz kz => XS.iconst X4.here hx rfl (hb hby at_109) kz) ?_
    show own_Go p.tables e below _ T4 (mkF m 110 #[.val (.int p1), .val (.int p2), .val (.int p3), .val (.int p4), .val (.int (Int32.ofNat 0)), .val (.int r1), .val (.int r2), .val (.int r3), .val (.ref b), .val (.ref o), .val (.int (0 : Int32)), .unset] [(.int (0 : Int32))])
    refine own_go (fun tz kz => XS.istore X4.here hx rfl (hb hby at_110) rfl (l' := #[.val (.int p1), .val (.int p2), .val (.int p3), .val (.int p4), .val (.int (Int32.ofNat 0)), .val (.int r1), .val (.int r2), .val (.int r3), .val (.ref b), .val (.ref o), .val (.int (0 : Int32)), .val (.int (0 : Int32))]) rfl kz) ?_
    show own_Go p.tables e below _ T4 (mkF m 112 #[.val (.int p1), .val (.int p2), .val (.int p3), .val (.int p4), .val (.int (Int32.ofNat 0)), .val (.int r1), .val (.int r2), .val (.int r3), .val (.ref b), .val (.ref o), .val (.int (0 : Int32)), .val (.int (0 : Int32))] [])
    refine own_go (fun tz kz => XS.goto X4.here hx rfl (pc0 := 112) (pc' := 160) rfl (hb hby at_112) (by decide) (by decide) kz) ?_
    show own_Go p.tables e below _ T4 (mkF m 160 #[.val (.int p1), .val (.int p2), .val (.int p3), .val (.int p4), .val (.int (Int32.ofNat 0)), .val (.int r1), .val (.int r2), .val (.int r3), .val (.ref b), .val (.ref o), .val (.int (0 : Int32)), .val (.int (0 : Int32))] [])
    refine own_go (fun tz kz => XS.iload X4.here hx rfl (hb hby at_160) rfl kz) ?_
    show own_Go p.tables e below _ T4 (mkF m 162 #[.val (.int p1), .val (.int p2), .val (.int p3), .val (.int p4), .val (.int (Int32.ofNat 0)), .val (.int r1), .val (.int r2), .val (.int r3), .val (.ref b), .val (.ref o), .val (.int (0 : Int32)), .val (.int (0 : Int32))] [(.int (0 : Int32))])
    refine own_go (fun tz kz => XS.iload X4.here hx rfl (hb hby at_162) rfl kz) ?_
    show own_Go p.tables e below _ T4 (mkF m 164 #[.val (.int p1), .val (.int p2), .val (.int p3), .val (.int p4), .val (.int (Int32.ofNat 0)), .val (.int r1), .val (.int r2), .val (.int r3), .val (.ref b), .val (.ref o), .val (.int (0 : Int32)), .val (.int (0 : Int32))] [(.int (0 : Int32)), (.int (0 : Int32))])
    refine own_go (fun tz kz => XS.icmpYes X4.here hx rfl (pc0 := 164) (pc' := 169) rfl (hb hby at_164) rfl (XT.ii_eq_t rfl) (by decide) (by decide) kz) ?_
    show own_Go p.tables e below _ T4 (mkF m 169 #[.val (.int p1), .val (.int p2), .val (.int p3), .val (.int p4), .val (.int (Int32.ofNat 0)), .val (.int r1), .val (.int r2), .val (.int r3), .val (.ref b), .val (.ref o), .val (.int (0 : Int32)), .val (.int (0 : Int32))] [])
    refine own_go (fun tz kz => XS.iload X4.here hx rfl (hb hby at_169) rfl kz) ?_
    show own_Go p.tables e below _ T4 (mkF m 171 #[.val (.int p1), .val (.int p2), .val (.int p3), .val (.int p4), .val (.int (Int32.ofNat 0)), .val (.int r1), .val (.int r2), .val (.int r3), .val (.ref b), .val (.ref o), .val (.int (0 : Int32)), .val (.int (0 : Int32))] [(.int (Int32.ofNat 0))])
    refine own_go (fun tz kz => XS.ifNo X4.here hx rfl (hb hby at_171) rfl (XT.i0_ne_f (by decide)) kz) ?_
    show own_Go p.tables e below _ T4 (mkF m 174 #[.val (.int p1), .val (.int p2), .val (.int p3), .val (.int p4), .val (.int (Int32.ofNat 0)), .val (.int r1), .val (.int r2), .val (.int r3), .val (.ref b), .val (.ref o), .val (.int (0 : Int32)), .val (.int (0 : Int32))] [])
    refine own_go (fun tz kz => XS.aload X4.here hx rfl (hb hby at_174) rfl rfl kz) ?_
    show own_Go p.tables e below _ T4 (mkF m 176 #[.val (.int p1), .val (.int p2), .val (.int p3), .val (.int p4), .val (.int (Int32.ofNat 0)), .val (.int r1), .val (.int r2), .val (.int r3), .val (.ref b), .val (.ref o), .val (.int (0 : Int32)), .val (.int (0 : Int32))] [(.ref o)])
    refine own_go (fun tz kz => X4.ldcI hx hown (mvT hZ (hw _ (List.mem_of_getElem? (i := 26) rfl))) rfl (hb hby at_176) kz) ?_
    show own_Go p.tables e below _ T4 (mkF m 178 #[.val (.int p1), .val (.int p2), .val (.int p3), .val (.int p4), .val (.int (Int32.ofNat 0)), .val (.int r1), .val (.int r2), .val (.int r3), .val (.ref b), .val (.ref o), .val (.int (0 : Int32)), .val (.int (0 : Int32))] [(.int (2147483647 : Int32)), (.ref o)])
    obtain ⟨cq5, kq5, q5a, q5b, q5c⟩ := isOf hZ e4 Ex
    obtain ⟨_, _, ⟨T5, L5, k5, n5⟩, -, X5, ⟨Lc5, hQ5, l5, y5, z5⟩, st5⟩ := X4.virtualBack hx (y := (⟨"com/example/chalk_outline/chalkoutline/Placement", "found", "(I)I"⟩ : MethodName)) (z := (⟨"com/example/chalk_outline/chalkoutline/Placement", "found", "(I)I"⟩ : MethodName)) hown (mvT hZ (hw _ (List.mem_of_getElem? (i := 27) rfl))) (mvT hZ (hw _ (List.mem_of_getElem? (i := 28) rfl))) (notFace_of_selects (args := #[]) (mvT hZ (hw _ (List.mem_of_getElem? (i := 30) rfl)))) (mvT hZ (hw _ (List.mem_of_getElem? (i := 30) rfl))) (mvT hZ (hw _ (List.mem_of_getElem? (i := 29) rfl))) (by decide) (backOf (W := 0) (rm5 l Z a0 hw [] o (2147483647 : Int32) b 0 (own_g r1 r2 r3) T3.heap n0 (Nat.le_trans (Nat.le_trans (Nat.le_trans Z0 E1.1) E2.1) K3.1) Fr' Vb' (by decide)) hZ (hw _ (List.mem_of_getElem? (i := 31) rfl)) (hw _ (List.mem_of_getElem? (i := 5) rfl)) (by decide) (by decide)) q5a q5c (g := (mkF m 178 #[.val (.int p1), .val (.int p2), .val (.int p3), .val (.int p4), .val (.int (Int32.ofNat 0)), .val (.int r1), .val (.int r2), .val (.int r3), .val (.ref b), .val (.ref o), .val (.int (0 : Int32)), .val (.int (0 : Int32))] [(.int (2147483647 : Int32)), (.ref o)])) rfl (by rw [hml]; rfl) (Steps.refl _) (argsL := [(.int (2147483647 : Int32))]) (rest := []) (lenOf pd_3 rfl) rfl (by show 2 * 0 + _ ≤ _; exact Nat.le_of_eq rfl) (hb hby at_178) (fun _ _ => ⟨rfl, e4, (by decide : 2 + 0 ≤ _), (by decide : 5 + 0 ≤ _)⟩)
    dsimp only [Pt.U, Pt.locs, Pt.cells, Pt.slots] at X5 l5 y5 z5 st5 hQ5
    subst l5 y5 z5
    obtain ⟨rfl, N5q, e5⟩ := hQ5
    have N5 := Fr.app N4 N5q
    refine own_go (fun tz kz => st5.trans kz) ?_
    show own_Go p.tables e below _ T5 (mkF m 181 #[.val (.int p1), .val (.int p2), .val (.int p3), .val (.int p4), .val (.int (Int32.ofNat 0)), .val (.int r1), .val (.int r2), .val (.int r3), .val (.ref b), .val (.ref o), .val (.int (0 : Int32)), .val (.int (0 : Int32))] [(.int (Int32.ofNat (own_fnd (own_g r1 r2 r3) (2147483647 : Int32) 0 0)))])
    refine own_go (fun tz kz => XS.ifNo X5.here hx rfl (hb hby at_181) rfl (XT.i0_ne_f rfl) kz) ?_
    show own_Go p.tables e below _ T5 (mkF m 184 #[.val (.int p1), .val (.int p2), .val (.int p3), .val (.int p4), .val (.int (Int32.ofNat 0)), .val (.int r1), .val (.int r2), .val (.int r3), .val (.ref b), .val (.ref o), .val (.int (0 : Int32)), .val (.int (0 : Int32))] [])
    refine own_go (fun tz kz => XS.iconst X5.here hx rfl (hb hby at_184) kz) ?_
    show own_Go p.tables e below _ T5 (mkF m 185 #[.val (.int p1), .val (.int p2), .val (.int p3), .val (.int p4), .val (.int (Int32.ofNat 0)), .val (.int r1), .val (.int r2), .val (.int r3), .val (.ref b), .val (.ref o), .val (.int (0 : Int32)), .val (.int (0 : Int32))] [(.int (1 : Int32))])
    refine own_go (fun tz kz => XS.goto X5.here hx rfl (pc0 := 185) (pc' := 189) rfl (hb hby at_185) (by decide) (by decide) kz) ?_
    show own_Go p.tables e below _ T5 (mkF m 189 #[.val (.int p1), .val (.int p2), .val (.int p3), .val (.int p4), .val (.int (Int32.ofNat 0)), .val (.int r1), .val (.int r2), .val (.int r3), .val (.ref b), .val (.ref o), .val (.int (0 : Int32)), .val (.int (0 : Int32))] [(.int (1 : Int32))])
    obtain ⟨fs, hr, hrun, hended, hW, hsame⟩ := X5.leave (v := some (.int (1 : Int32))) (fun h => by rw [Bd.returns] at h; cases h)
    refine ⟨_, _, ?_, hrun, hended, _, _, rfl, ?_, ⟨_, rfl⟩, hW, hsame.mono (by decide) (by decide)⟩
    · exact retN X5 hx (t := .boolean) Bd.returns (by simp) (hb hby at_189) hr
    · show Q0 Z p1 p2 p3 p4 h0 n0 _ T5.heap _
      rw [e5]
      exact ⟨rfl, N5⟩
  ·
    show own_Go p.tables e below _ s₁ (mkF m 35 #[.val (.int p1), .val (.int p2), .val (.int p3), .val (.int p4), .val (.int (Int32.ofNat 1)), .val (.int r1), .val (.int r2), .val (.int r3), .unset, .unset, .unset, .unset] [])
    refine own_go (fun tz kz => XS.iload X0.here hx rfl (hb hby at_35) rfl kz) ?_
    show own_Go p.tables e below _ s₁ (mkF m 37 #[.val (.int p1), .val (.int p2), .val (.int p3), .val (.int p4), .val (.int (Int32.ofNat 1)), .val (.int r1), .val (.int r2), .val (.int r3), .unset, .unset, .unset, .unset] [(.int (Int32.ofNat 1))])
    obtain ⟨T6, h6, k6, X6, e6, E6, A6, st6⟩ := newP X0 hx hZ (hw _ (List.mem_of_getElem? (i := 2) rfl)) e0 (g := (mkF m 37 #[.val (.int p1), .val (.int p2), .val (.int p3), .val (.int p4), .val (.int (Int32.ofNat 1)), .val (.int r1), .val (.int r2), .val (.int r3), .unset, .unset, .unset, .unset] [(.int (Int32.ofNat 1))])) rfl (hb hby at_37) rfl (by decide) (cap := 3) (by decide) (by decide) (by decide) (by decide)
    obtain ⟨b, eq_b⟩ : ∃ z, z = (h0).size := ⟨_, rfl⟩
    rw [← eq_b] at A6 st6
    have g_b : n0 ≤ b := Nat.le_trans Z0 (Nat.le_of_eq eq_b.symm)
    have V_b : own_Av Z h6 b .int 1 (fun _ => .int 0) := own_Av.new A6 (by decide)
    refine own_go st6 ?_
    show own_Go p.tables e below _ T6 (mkF m 39 #[.val (.int p1), .val (.int p2), .val (.int p3), .val (.int p4), .val (.int (Int32.ofNat 1)), .val (.int r1), .val (.int r2), .val (.int r3), .unset, .unset, .unset, .unset] [(.ref b)])
    refine own_go (fun tz kz => XS.astore X6.here hx rfl (hb hby at_39) rfl rfl (l' := #[.val (.int p1), .val (.int p2), .val (.int p3), .val (.int p4), .val (.int (Int32.ofNat 1)), .val (.int r1), .val (.int r2), .val (.int r3), .val (.ref b), .unset, .unset, .unset]) rfl kz) ?_
    show own_Go p.tables e below _ T6 (mkF m 41 #[.val (.int p1), .val (.int p2), .val (.int p3), .val (.int p4), .val (.int (Int32.ofNat 1)), .val (.int r1), .val (.int r2), .val (.int r3), .val (.ref b), .unset, .unset, .unset] [])
    refine own_go (fun tz kz => XS.iload X6.here hx rfl (hb hby at_41) rfl kz) ?_
    show own_Go p.tables e below _ T6 (mkF m 43 #[.val (.int p1), .val (.int p2), .val (.int p3), .val (.int p4), .val (.int (Int32.ofNat 1)), .val (.int r1), .val (.int r2), .val (.int r3), .val (.ref b), .unset, .unset, .unset] [(.int (Int32.ofNat 1))])
    refine own_go (fun tz kz => XS.iconst X6.here hx rfl (hb hby at_43) kz) ?_
    show own_Go p.tables e below _ T6 (mkF m 44 #[.val (.int p1), .val (.int p2), .val (.int p3), .val (.int p4), .val (.int (Int32.ofNat 1)), .val (.int r1), .val (.int r2), .val (.int r3), .val (.ref b), .unset, .unset, .unset] [(.int (1 : Int32)), (.int (Int32.ofNat 1))])
    refine own_go (fun tz kz => XS.icmpNo X6.here hx rfl (hb hby at_44) rfl (XT.ii_lt_f (by decide)) kz) ?_
    show own_Go p.tables e below _ T6 (mkF m 47 #[.val (.int p1), .val (.int p2), .val (.int p3), .val (.int p4), .val (.int (Int32.ofNat 1)), .val (.int r1), .val (.int r2), .val (.int r3), .val (.ref b), .unset, .unset, .unset] [])
    refine own_go (fun tz kz => XS.aload X6.here hx rfl (hb hby at_47) rfl rfl kz) ?_
    show own_Go p.tables e below _ T6 (mkF m 49 #[.val (.int p1), .val (.int p2), .val (.int p3), .val (.int p4), .val (.int (Int32.ofNat 1)), .val (.int r1), .val (.int r2), .val (.int r3), .val (.ref b), .unset, .unset, .unset] [(.ref b)])
    refine own_go (fun tz kz => XS.iconst X6.here hx rfl (hb hby at_49) kz) ?_
    show own_Go p.tables e below _ T6 (mkF m 50 #[.val (.int p1), .val (.int p2), .val (.int p3), .val (.int p4), .val (.int (Int32.ofNat 1)), .val (.int r1), .val (.int r2), .val (.int r3), .val (.ref b), .unset, .unset, .unset] [(.int (0 : Int32)), (.ref b)])
    refine own_go (fun tz kz => XS.iload X6.here hx rfl (hb hby at_50) rfl kz) ?_
    show own_Go p.tables e below _ T6 (mkF m 52 #[.val (.int p1), .val (.int p2), .val (.int p3), .val (.int p4), .val (.int (Int32.ofNat 1)), .val (.int r1), .val (.int r2), .val (.int r3), .val (.ref b), .unset, .unset, .unset] [(.int r1), (.int (0 : Int32)), (.ref b)])
    obtain ⟨c7, Ar7, Sz7, Ge7⟩ := id (V_b)
    obtain ⟨T7, h7, X7, e7, W7, st7⟩ := stI X6 hx hZ e6 Ar7 (j := (0 : Int32)) (own_inb (i := 0) Sz7 ⟨by decide, by decide⟩ (by decide)) (g := (mkF m 52 #[.val (.int p1), .val (.int p2), .val (.int p3), .val (.int p4), .val (.int (Int32.ofNat 1)), .val (.int r1), .val (.int r2), .val (.int r3), .val (.ref b), .unset, .unset, .unset] [(.int r1), (.int (0 : Int32)), (.ref b)])) rfl rfl (hb hby at_52)
    have V0 := own_Av.set (V_b) W7 (⟨by decide, by decide⟩ : ¬ (0 : Int32) < 0 ∧ ((0 : Int32)).toNatClampNeg = 0).2
    have N7 := Fr.snoc X7 N0 g_b
    refine own_go st7 ?_
    show own_Go p.tables e below _ T7 (mkF m 53 #[.val (.int p1), .val (.int p2), .val (.int p3), .val (.int p4), .val (.int (Int32.ofNat 1)), .val (.int r1), .val (.int r2), .val (.int r3), .val (.ref b), .unset, .unset, .unset] [])
    refine own_go (fun tz kz => XS.iload X7.here hx rfl (hb hby at_53) rfl kz) ?_
    show own_Go p.tables e below _ T7 (mkF m 55 #[.val (.int p1), .val (.int p2), .val (.int p3), .val (.int p4), .val (.int (Int32.ofNat 1)), .val (.int r1), .val (.int r2), .val (.int r3), .val (.ref b), .unset, .unset, .unset] [(.int (Int32.ofNat 1))])
    refine own_go (fun tz kz => XS.iconst X7.here hx rfl (hb hby at_55) kz) ?_
    show own_Go p.tables e below _ T7 (mkF m 56 #[.val (.int p1), .val (.int p2), .val (.int p3), .val (.int p4), .val (.int (Int32.ofNat 1)), .val (.int r1), .val (.int r2), .val (.int r3), .val (.ref b), .unset, .unset, .unset] [(.int (2 : Int32)), (.int (Int32.ofNat 1))])
    refine own_go (fun tz kz => XS.icmpYes X7.here hx rfl (pc0 := 56) (pc' := 65) rfl (hb hby at_56) rfl (XT.ii_lt_t (by decide)) (by decide) (by decide) kz) ?_
    show own_Go p.tables e below _ T7 (mkF m 65 #[.val (.int p1), .val (.int p2), .val (.int p3), .val (.int p4), .val (.int (Int32.ofNat 1)), .val (.int r1), .val (.int r2), .val (.int r3), .val (.ref b), .unset, .unset, .unset] [])
    refine own_go (fun tz kz => XS.iload X7.here hx rfl (hb hby at_65) rfl kz) ?_
    show own_Go p.tables e below _ T7 (mkF m 67 #[.val (.int p1), .val (.int p2), .val (.int p3), .val (.int p4), .val (.int (Int32.ofNat 1)), .val (.int r1), .val (.int r2), .val (.int r3), .val (.ref b), .unset, .unset, .unset] [(.int (Int32.ofNat 1))])
    refine own_go (fun tz kz => XS.iconst X7.here hx rfl (hb hby at_67) kz) ?_
    show own_Go p.tables e below _ T7 (mkF m 68 #[.val (.int p1), .val (.int p2), .val (.int p3), .val (.int p4), .val (.int (Int32.ofNat 1)), .val (.int r1), .val (.int r2), .val (.int r3), .val (.ref b), .unset, .unset, .unset] [(.int (3 : Int32)), (.int (Int32.ofNat 1))])
    refine own_go (fun tz kz => XS.icmpYes X7.here hx rfl (pc0 := 68) (pc' := 77) rfl (hb hby at_68) rfl (XT.ii_lt_t (by decide)) (by decide) (by decide) kz) ?_
    show own_Go p.tables e below _ T7 (mkF m 77 #[.val (.int p1), .val (.int p2), .val (.int p3), .val (.int p4), .val (.int (Int32.ofNat 1)), .val (.int r1), .val (.int r2), .val (.int r3), .val (.ref b), .unset, .unset, .unset] [])
    have Vb : own_Av Z h7 b .int 1 (fun k => .int (own_g r1 r2 r3 k)) := own_Av.eq V0 (fun k hk => by rcases (by omega : k = 0) with rfl <;> rfl)
    obtain ⟨T8, h8, X8, e8, E8, A8, D8, -, st8⟩ := newO X7 hx hZ hown (hw _ (List.mem_of_getElem? (i := 3) rfl)) (hw _ (List.mem_of_getElem? (i := 4) rfl)) (hw _ (List.mem_of_getElem? (i := 5) rfl)) e7 (g := (mkF m 77 #[.val (.int p1), .val (.int p2), .val (.int p3), .val (.int p4), .val (.int (Int32.ofNat 1)), .val (.int r1), .val (.int r2), .val (.int r3), .val (.ref b), .unset, .unset, .unset] [])) rfl (hb hby at_77) (by decide) (by decide)
    obtain ⟨o, eq_o⟩ : ∃ z, z = (h7).size := ⟨_, rfl⟩
    rw [← eq_o] at A8 D8 st8
    have g_o : n0 ≤ o := Nat.le_trans (Nat.le_trans (Nat.le_trans Z0 E6.1) (Keep.of_wr W7).1) (Nat.le_of_eq eq_o.symm)
    have F_ranks_o : Fld Z h8 o "com/example/chalk_outline/chalkoutline/Placement" "ranks" "[I" .null := D8 (Or.inr (hw _ (List.mem_of_getElem? (i := 18) rfl))) (ty := (.array .int)) (by decide)
    have F_relevant_o : Fld Z h8 o "com/example/chalk_outline/chalkoutline/Placement" "relevant" "I" (.int (0 : Int32)) := D8 (Or.inr (hw _ (List.mem_of_getElem? (i := 20) rfl))) (ty := .int) (by decide)
    refine own_go st8 ?_
    show own_Go p.tables e below _ T8 (mkF m 80 #[.val (.int p1), .val (.int p2), .val (.int p3), .val (.int p4), .val (.int (Int32.ofNat 1)), .val (.int r1), .val (.int r2), .val (.int r3), .val (.ref b), .unset, .unset, .unset] [(.ref o)])
    refine own_go (fun tz kz => XS.dup X8.here hx rfl (hb hby at_80) rfl rfl kz) ?_
    show own_Go p.tables e below _ T8 (mkF m 81 #[.val (.int p1), .val (.int p2), .val (.int p3), .val (.int p4), .val (.int (Int32.ofNat 1)), .val (.int r1), .val (.int r2), .val (.int r3), .val (.ref b), .unset, .unset, .unset] [(.ref o), (.ref o)])
    refine own_go (fun tz kz => XS.aload X8.here hx rfl (hb hby at_81) rfl rfl kz) ?_
    show own_Go p.tables e below _ T8 (mkF m 83 #[.val (.int p1), .val (.int p2), .val (.int p3), .val (.int p4), .val (.int (Int32.ofNat 1)), .val (.int r1), .val (.int r2), .val (.int r3), .val (.ref b), .unset, .unset, .unset] [(.ref b), (.ref o), (.ref o)])
    refine own_go (fun tz kz => XS.iload X8.here hx rfl (hb hby at_83) rfl kz) ?_
    show own_Go p.tables e below _ T8 (mkF m 85 #[.val (.int p1), .val (.int p2), .val (.int p3), .val (.int p4), .val (.int (Int32.ofNat 1)), .val (.int r1), .val (.int r2), .val (.int r3), .val (.ref b), .unset, .unset, .unset] [(.int (Int32.ofNat 1)), (.ref b), (.ref o), (.ref o)])
    refine own_go (fun tz kz => XS.iloadN X8.here hx rfl (hb hby at_85) rfl kz) ?_
    show own_Go p.tables e below _ T8 (mkF m 86 #[.val (.int p1), .val (.int p2), .val (.int p3), .val (.int p4), .val (.int (Int32.ofNat 1)), .val (.int r1), .val (.int r2), .val (.int r3), .val (.ref b), .unset, .unset, .unset] [(.int p1), (.int (Int32.ofNat 1)), (.ref b), (.ref o), (.ref o)])
    refine own_go (fun tz kz => XS.iconst X8.here hx rfl (hb hby at_86) kz) ?_
    show own_Go p.tables e below _ T8 (mkF m 87 #[.val (.int p1), .val (.int p2), .val (.int p3), .val (.int p4), .val (.int (Int32.ofNat 1)), .val (.int r1), .val (.int r2), .val (.int r3), .val (.ref b), .unset, .unset, .unset] [(.int (2 : Int32)), (.int p1), (.int (Int32.ofNat 1)), (.ref b), (.ref o), (.ref o)])
    refine own_go (fun tz kz => XT.iushr X8.here hx rfl (hb hby at_87) rfl kz) ?_
    show own_Go p.tables e below _ T8 (mkF m 88 #[.val (.int p1), .val (.int p2), .val (.int p3), .val (.int p4), .val (.int (Int32.ofNat 1)), .val (.int r1), .val (.int r2), .val (.int r3), .val (.ref b), .unset, .unset, .unset] [(.int (XT.ushr p1 (2 : Int32))), (.int (Int32.ofNat 1)), (.ref b), (.ref o), (.ref o)])
    refine own_go (fun tz kz => XS.bipush X8.here hx rfl (hb hby at_88) kz) ?_
    show own_Go p.tables e below _ T8 (mkF m 90 #[.val (.int p1), .val (.int p2), .val (.int p3), .val (.int p4), .val (.int (Int32.ofNat 1)), .val (.int r1), .val (.int r2), .val (.int r3), .val (.ref b), .unset, .unset, .unset] [(.int (7 : Int32)), (.int (XT.ushr p1 (2 : Int32))), (.int (Int32.ofNat 1)), (.ref b), (.ref o), (.ref o)])
    refine own_go (fun tz kz => XS.iand X8.here hx rfl (hb hby at_90) rfl kz) ?_
    show own_Go p.tables e below _ T8 (mkF m 91 #[.val (.int p1), .val (.int p2), .val (.int p3), .val (.int p4), .val (.int (Int32.ofNat 1)), .val (.int r1), .val (.int r2), .val (.int r3), .val (.ref b), .unset, .unset, .unset] [(.int ((XT.ushr p1 (2 : Int32)) &&& (7 : Int32))), (.int (Int32.ofNat 1)), (.ref b), (.ref o), (.ref o)])
    refine own_go (fun tz kz => XS.iadd X8.here hx rfl (hb hby at_91) rfl kz) ?_
    show own_Go p.tables e below _ T8 (mkF m 92 #[.val (.int p1), .val (.int p2), .val (.int p3), .val (.int p4), .val (.int (Int32.ofNat 1)), .val (.int r1), .val (.int r2), .val (.int r3), .val (.ref b), .unset, .unset, .unset] [(.int ((Int32.ofNat 1) + ((XT.ushr p1 (2 : Int32)) &&& (7 : Int32)))), (.ref b), (.ref o), (.ref o)])
    obtain ⟨_, _, ⟨T9, L9, k9, n9⟩, -, X9, ⟨Lc9, hQ9, l9, y9, z9⟩, st9⟩ := X8.specialBack hx (y := (⟨"com/example/chalk_outline/chalkoutline/Placement", "<init>", "([II)V"⟩ : MethodName)) rfl hown (mvT hZ (hw _ (List.mem_of_getElem? (i := 6) rfl))) (mvT hZ (hw _ (List.mem_of_getElem? (i := 7) rfl))) (mvT hZ (hw _ (List.mem_of_getElem? (i := 8) rfl))) (by decide) (backOf (W := 1) (rm1 l Z a0 hw [] o b ((Int32.ofNat 1) + ((XT.ushr p1 (2 : Int32)) &&& (7 : Int32))) _ _ h8 n0 (Nat.le_trans (Nat.le_trans (Nat.le_trans Z0 E6.1) (Keep.of_wr W7).1) E8.1) F_ranks_o F_relevant_o A8 g_o) hZ (hw _ (List.mem_of_getElem? (i := 8) rfl)) (hw _ (List.mem_of_getElem? (i := 5) rfl)) (by decide) (by decide)) (g := (mkF m 92 #[.val (.int p1), .val (.int p2), .val (.int p3), .val (.int p4), .val (.int (Int32.ofNat 1)), .val (.int r1), .val (.int r2), .val (.int r3), .val (.ref b), .unset, .unset, .unset] [(.int ((Int32.ofNat 1) + ((XT.ushr p1 (2 : Int32)) &&& (7 : Int32)))), (.ref b), (.ref o), (.ref o)])) rfl (by rw [hml]; rfl) (Steps.refl _) (a := o) (argsL := [(.ref b), (.int ((Int32.ofNat 1) + ((XT.ushr p1 (2 : Int32)) &&& (7 : Int32))))]) (rest := [(.ref o)]) (lenOf pd_1 rfl) rfl (by show 2 * 0 + _ ≤ _; exact Nat.le_of_eq rfl) (hb hby at_92) (fun _ _ => ⟨rfl, e8, (by decide : 2 + 0 ≤ _), (by decide : 5 + 0 ≤ _)⟩)
    dsimp only [Pt.U, Pt.locs, Pt.cells, Pt.slots] at X9 l9 y9 z9 st9 hQ9
    subst l9 y9 z9
    obtain ⟨rfl, N9q, K9, Ex, Fr', Fe⟩ := hQ9
    have N9 := Fr.app N7 N9q
    refine own_go (fun tz kz => st9.trans kz) ?_
    show own_Go p.tables e below _ T9 (mkF m 95 #[.val (.int p1), .val (.int p2), .val (.int p3), .val (.int p4), .val (.int (Int32.ofNat 1)), .val (.int r1), .val (.int r2), .val (.int r3), .val (.ref b), .unset, .unset, .unset] [(.ref o)])
    have Vb' := own_Av.keep (Vb.ext E8) K9 (own_not1 (Nat.ne_of_lt (Nat.lt_of_lt_of_le Vb.lt (Nat.le_of_eq eq_o.symm))))
    refine own_go (fun tz kz => XS.astore X9.here hx rfl (hb hby at_95) rfl rfl (l' := #[.val (.int p1), .val (.int p2), .val (.int p3), .val (.int p4), .val (.int (Int32.ofNat 1)), .val (.int r1), .val (.int r2), .val (.int r3), .val (.ref b), .val (.ref o), .unset, .unset]) rfl kz) ?_
    show own_Go p.tables e below _ T9 (mkF m 97 #[.val (.int p1), .val (.int p2), .val (.int p3), .val (.int p4), .val (.int (Int32.ofNat 1)), .val (.int r1), .val (.int r2), .val (.int r3), .val (.ref b), .val (.ref o), .unset, .unset] [])
    refine own_go (fun tz kz => XS.aload X9.here hx rfl (hb hby at_97) rfl rfl kz) ?_
    show own_Go p.tables e below _ T9 (mkF m 99 #[.val (.int p1), .val (.int p2), .val (.int p3), .val (.int p4), .val (.int (Int32.ofNat 1)), .val (.int r1), .val (.int r2), .val (.int r3), .val (.ref b), .val (.ref o), .unset, .unset] [(.ref o)])
    obtain ⟨cq10, kq10, q10a, q10b, q10c⟩ := isOf hZ rfl Ex
    obtain ⟨_, _, ⟨T10, L10, k10, n10⟩, -, X10, ⟨Lc10, hQ10, l10, y10, z10⟩, st10⟩ := X9.virtualBack hx (y := (⟨"com/example/chalk_outline/chalkoutline/Placement", "first", "()I"⟩ : MethodName)) (z := (⟨"com/example/chalk_outline/chalkoutline/Placement", "first", "()I"⟩ : MethodName)) hown (mvT hZ (hw _ (List.mem_of_getElem? (i := 21) rfl))) (mvT hZ (hw _ (List.mem_of_getElem? (i := 22) rfl))) (notFace_of_selects (args := #[]) (mvT hZ (hw _ (List.mem_of_getElem? (i := 24) rfl)))) (mvT hZ (hw _ (List.mem_of_getElem? (i := 24) rfl))) (mvT hZ (hw _ (List.mem_of_getElem? (i := 23) rfl))) (by decide) (backOf (W := 0) (rm4 l Z a0 hw [] o b 1 (own_g r1 r2 r3) T9.heap n0 (Nat.le_trans (Nat.le_trans (Nat.le_trans (Nat.le_trans Z0 E6.1) (Keep.of_wr W7).1) E8.1) K9.1) Fr' Vb' (by decide)) hZ (hw _ (List.mem_of_getElem? (i := 25) rfl)) (hw _ (List.mem_of_getElem? (i := 5) rfl)) (by decide) (by decide)) q10a q10c (g := (mkF m 99 #[.val (.int p1), .val (.int p2), .val (.int p3), .val (.int p4), .val (.int (Int32.ofNat 1)), .val (.int r1), .val (.int r2), .val (.int r3), .val (.ref b), .val (.ref o), .unset, .unset] [(.ref o)])) rfl (by rw [hml]; rfl) (Steps.refl _) (argsL := []) (rest := []) (lenOf pd_2 rfl) rfl (by show 2 * 0 + _ ≤ _; exact Nat.le_of_eq rfl) (hb hby at_99) (fun _ _ => ⟨rfl, rfl, (by decide : 2 + 0 ≤ _), (by decide : 5 + 0 ≤ _)⟩)
    dsimp only [Pt.U, Pt.locs, Pt.cells, Pt.slots] at X10 l10 y10 z10 st10 hQ10
    subst l10 y10 z10
    obtain ⟨rfl, N10q, e10⟩ := hQ10
    have N10 := Fr.app N9 N10q
    refine own_go (fun tz kz => st10.trans kz) ?_
    show own_Go p.tables e below _ T10 (mkF m 102 #[.val (.int p1), .val (.int p2), .val (.int p3), .val (.int p4), .val (.int (Int32.ofNat 1)), .val (.int r1), .val (.int r2), .val (.int r3), .val (.ref b), .val (.ref o), .unset, .unset] [(.int (if Int32.ofNat 1 = 0 then 0 else (own_g r1 r2 r3) 0))])
    show own_Go p.tables e below _ T10 (mkF m 102 #[.val (.int p1), .val (.int p2), .val (.int p3), .val (.int p4), .val (.int (Int32.ofNat 1)), .val (.int r1), .val (.int r2), .val (.int r3), .val (.ref b), .val (.ref o), .unset, .unset] [(.int r1)])
    refine own_go (fun tz kz => XS.istore X10.here hx rfl (hb hby at_102) rfl (l' := #[.val (.int p1), .val (.int p2), .val (.int p3), .val (.int p4), .val (.int (Int32.ofNat 1)), .val (.int r1), .val (.int r2), .val (.int r3), .val (.ref b), .val (.ref o), .val (.int r1), .unset]) rfl kz) ?_
    show own_Go p.tables e below _ T10 (mkF m 104 #[.val (.int p1), .val (.int p2), .val (.int p3), .val (.int p4), .val (.int (Int32.ofNat 1)), .val (.int r1), .val (.int r2), .val (.int r3), .val (.ref b), .val (.ref o), .val (.int r1), .unset] [])
    refine own_go (fun tz kz => XS.iload X10.here hx rfl (hb hby at_104) rfl kz) ?_
    show own_Go p.tables e below _ T10 (mkF m 106 #[.val (.int p1), .val (.int p2), .val (.int p3), .val (.int p4), .val (.int (Int32.ofNat 1)), .val (.int r1), .val (.int r2), .val (.int r3), .val (.ref b), .val (.ref o), .val (.int r1), .unset] [(.int (Int32.ofNat 1))])
    refine own_go (fun tz kz => XS.ifYes X10.here hx rfl (pc0 := 106) (pc' := 115) rfl (hb hby at_106) rfl (XT.i0_ne_t (by decide)) (by decide) (by decide) kz) ?_
    show own_Go p.tables e below _ T10 (mkF m 115 #[.val (.int p1), .val (.int p2), .val (.int p3), .val (.int p4), .val (.int (Int32.ofNat 1)), .val (.int r1), .val (.int r2), .val (.int r3), .val (.ref b), .val (.ref o), .val (.int r1), .unset] [])
    refine own_go (fun tz kz => XS.iload X10.here hx rfl (hb hby at_115) rfl kz) ?_
    show own_Go p.tables e below _ T10 (mkF m 117 #[.val (.int p1), .val (.int p2), .val (.int p3), .val (.int p4), .val (.int (Int32.ofNat 1)), .val (.int r1), .val (.int r2), .val (.int r3), .val (.ref b), .val (.ref o), .val (.int r1), .unset] [(.int (Int32.ofNat 1))])
    refine own_go (fun tz kz => XS.iconst X10.here hx rfl (hb hby at_117) kz) ?_
    show own_Go p.tables e below _ T10 (mkF m 118 #[.val (.int p1), .val (.int p2), .val (.int p3), .val (.int p4), .val (.int (Int32.ofNat 1)), .val (.int r1), .val (.int r2), .val (.int r3), .val (.ref b), .val (.ref o), .val (.int r1), .unset] [(.int (1 : Int32)), (.int (Int32.ofNat 1))])
    refine own_go (fun tz kz => XS.icmpNo X10.here hx rfl (hb hby at_118) rfl (XT.ii_ne_f (by decide)) kz) ?_
    show own_Go p.tables e below _ T10 (mkF m 121 #[.val (.int p1), .val (.int p2), .val (.int p3), .val (.int p4), .val (.int (Int32.ofNat 1)), .val (.int r1), .val (.int r2), .val (.int r3), .val (.ref b), .val (.ref o), .val (.int r1), .unset] [])
    refine own_go (fun tz kz => XS.iload X10.here hx rfl (hb hby at_121) rfl kz) ?_
    show own_Go p.tables e below _ T10 (mkF m 123 #[.val (.int p1), .val (.int p2), .val (.int p3), .val (.int p4), .val (.int (Int32.ofNat 1)), .val (.int r1), .val (.int r2), .val (.int r3), .val (.ref b), .val (.ref o), .val (.int r1), .unset] [(.int r1)])
    refine own_go (fun tz kz => XS.istore X10.here hx rfl (hb hby at_123) rfl (l' := #[.val (.int p1), .val (.int p2), .val (.int p3), .val (.int p4), .val (.int (Int32.ofNat 1)), .val (.int r1), .val (.int r2), .val (.int r3), .val (.ref b), .val (.ref o), .val (.int r1), .val (.int r1)]) rfl kz) ?_
    show own_Go p.tables e below _ T10 (mkF m 125 #[.val (.int p1), .val (.int p2), .val (.int p3), .val (.int p4), .val (.int (Int32.ofNat 1)), .val (.int r1), .val (.int r2), .val (.int r3), .val (.ref b), .val (.ref o), .val (.int r1), .val (.int r1)] [])
    refine own_go (fun tz kz => XS.goto X10.here hx rfl (pc0 := 125) (pc' := 160) rfl (hb hby at_125) (by decide) (by decide) kz) ?_
    show own_Go p.tables e below _ T10 (mkF m 160 #[.val (.int p1), .val (.int p2), .val (.int p3), .val (.int p4), .val (.int (Int32.ofNat 1)), .val (.int r1), .val (.int r2), .val (.int r3), .val (.ref b), .val (.ref o), .val (.int r1), .val (.int r1)] [])
    refine own_go (fun tz kz => XS.iload X10.here hx rfl (hb hby at_160) rfl kz) ?_
    show own_Go p.tables e below _ T10 (mkF m 162 #[.val (.int p1), .val (.int p2), .val (.int p3), .val (.int p4), .val (.int (Int32.ofNat 1)), .val (.int r1), .val (.int r2), .val (.int r3), .val (.ref b), .val (.ref o), .val (.int r1), .val (.int r1)] [(.int r1)])
    refine own_go (fun tz kz => XS.iload X10.here hx rfl (hb hby at_162) rfl kz) ?_
    show own_Go p.tables e below _ T10 (mkF m 164 #[.val (.int p1), .val (.int p2), .val (.int p3), .val (.int p4), .val (.int (Int32.ofNat 1)), .val (.int r1), .val (.int r2), .val (.int r3), .val (.ref b), .val (.ref o), .val (.int r1), .val (.int r1)] [(.int r1), (.int r1)])
    refine own_go (fun tz kz => XS.icmpYes X10.here hx rfl (pc0 := 164) (pc' := 169) rfl (hb hby at_164) rfl (XT.ii_eq_t rfl) (by decide) (by decide) kz) ?_
    show own_Go p.tables e below _ T10 (mkF m 169 #[.val (.int p1), .val (.int p2), .val (.int p3), .val (.int p4), .val (.int (Int32.ofNat 1)), .val (.int r1), .val (.int r2), .val (.int r3), .val (.ref b), .val (.ref o), .val (.int r1), .val (.int r1)] [])
    refine own_go (fun tz kz => XS.iload X10.here hx rfl (hb hby at_169) rfl kz) ?_
    show own_Go p.tables e below _ T10 (mkF m 171 #[.val (.int p1), .val (.int p2), .val (.int p3), .val (.int p4), .val (.int (Int32.ofNat 1)), .val (.int r1), .val (.int r2), .val (.int r3), .val (.ref b), .val (.ref o), .val (.int r1), .val (.int r1)] [(.int (Int32.ofNat 1))])
    refine own_go (fun tz kz => XS.ifYes X10.here hx rfl (pc0 := 171) (pc' := 190) rfl (hb hby at_171) rfl (XT.i0_ne_t (by decide)) (by decide) (by decide) kz) ?_
    show own_Go p.tables e below _ T10 (mkF m 190 #[.val (.int p1), .val (.int p2), .val (.int p3), .val (.int p4), .val (.int (Int32.ofNat 1)), .val (.int r1), .val (.int r2), .val (.int r3), .val (.ref b), .val (.ref o), .val (.int r1), .val (.int r1)] [])
    refine own_go (fun tz kz => XS.aload X10.here hx rfl (hb hby at_190) rfl rfl kz) ?_
    show own_Go p.tables e below _ T10 (mkF m 192 #[.val (.int p1), .val (.int p2), .val (.int p3), .val (.int p4), .val (.int (Int32.ofNat 1)), .val (.int r1), .val (.int r2), .val (.int r3), .val (.ref b), .val (.ref o), .val (.int r1), .val (.int r1)] [(.ref o)])
    refine own_go (fun tz kz => XS.iload X10.here hx rfl (hb hby at_192) rfl kz) ?_
    show own_Go p.tables e below _ T10 (mkF m 194 #[.val (.int p1), .val (.int p2), .val (.int p3), .val (.int p4), .val (.int (Int32.ofNat 1)), .val (.int r1), .val (.int r2), .val (.int r3), .val (.ref b), .val (.ref o), .val (.int r1), .val (.int r1)] [(.int r1), (.ref o)])
    obtain ⟨cq11, kq11, q11a, q11b, q11c⟩ := isOf hZ e10 Ex
    obtain ⟨_, _, ⟨T11, L11, k11, n11⟩, -, X11, ⟨Lc11, hQ11, l11, y11, z11⟩, st11⟩ := X10.virtualBack hx (y := (⟨"com/example/chalk_outline/chalkoutline/Placement", "found", "(I)I"⟩ : MethodName)) (z := (⟨"com/example/chalk_outline/chalkoutline/Placement", "found", "(I)I"⟩ : MethodName)) hown (mvT hZ (hw _ (List.mem_of_getElem? (i := 27) rfl))) (mvT hZ (hw _ (List.mem_of_getElem? (i := 28) rfl))) (notFace_of_selects (args := #[]) (mvT hZ (hw _ (List.mem_of_getElem? (i := 30) rfl)))) (mvT hZ (hw _ (List.mem_of_getElem? (i := 30) rfl))) (mvT hZ (hw _ (List.mem_of_getElem? (i := 29) rfl))) (by decide) (backOf (W := 0) (rm5 l Z a0 hw [] o r1 b 1 (own_g r1 r2 r3) T9.heap n0 (Nat.le_trans (Nat.le_trans (Nat.le_trans (Nat.le_trans Z0 E6.1) (Keep.of_wr W7).1) E8.1) K9.1) Fr' Vb' (by decide)) hZ (hw _ (List.mem_of_getElem? (i := 31) rfl)) (hw _ (List.mem_of_getElem? (i := 5) rfl)) (by decide) (by decide)) q11a q11c (g := (mkF m 194 #[.val (.int p1), .val (.int p2), .val (.int p3), .val (.int p4), .val (.int (Int32.ofNat 1)), .val (.int r1), .val (.int r2), .val (.int r3), .val (.ref b), .val (.ref o), .val (.int r1), .val (.int r1)] [(.int r1), (.ref o)])) rfl (by rw [hml]; rfl) (Steps.refl _) (argsL := [(.int r1)]) (rest := []) (lenOf pd_3 rfl) rfl (by show 2 * 0 + _ ≤ _; exact Nat.le_of_eq rfl) (hb hby at_194) (fun _ _ => ⟨rfl, e10, (by decide : 2 + 0 ≤ _), (by decide : 5 + 0 ≤ _)⟩)
    dsimp only [Pt.U, Pt.locs, Pt.cells, Pt.slots] at X11 l11 y11 z11 st11 hQ11
    subst l11 y11 z11
    obtain ⟨rfl, N11q, e11⟩ := hQ11
    have N11 := Fr.app N10 N11q
    refine own_go (fun tz kz => st11.trans kz) ?_
    show own_Go p.tables e below _ T11 (mkF m 197 #[.val (.int p1), .val (.int p2), .val (.int p3), .val (.int p4), .val (.int (Int32.ofNat 1)), .val (.int r1), .val (.int r2), .val (.int r3), .val (.ref b), .val (.ref o), .val (.int r1), .val (.int r1)] [(.int (Int32.ofNat (own_fnd (own_g r1 r2 r3) r1 1 0)))])
    refine own_go (fun tz kz => XS.iconst X11.here hx rfl (hb hby at_197) kz) ?_
    show own_Go p.tables e below _ T11 (mkF m 198 #[.val (.int p1), .val (.int p2), .val (.int p3), .val (.int p4), .val (.int (Int32.ofNat 1)), .val (.int r1), .val (.int r2), .val (.int r3), .val (.ref b), .val (.ref o), .val (.int r1), .val (.int r1)] [(.int (1 : Int32)), (.int (Int32.ofNat (own_fnd (own_g r1 r2 r3) r1 1 0)))])
    refine own_go (fun tz kz => XS.icmpNo X11.here hx rfl (hb hby at_198) rfl (XT.ii_ne_f (own_f1 (own_g r1 r2 r3) r1 (own_irr r1))) kz) ?_
    show own_Go p.tables e below _ T11 (mkF m 201 #[.val (.int p1), .val (.int p2), .val (.int p3), .val (.int p4), .val (.int (Int32.ofNat 1)), .val (.int r1), .val (.int r2), .val (.int r3), .val (.ref b), .val (.ref o), .val (.int r1), .val (.int r1)] [])
    refine own_go (fun tz kz => XS.aload X11.here hx rfl (hb hby at_201) rfl rfl kz) ?_
    show own_Go p.tables e below _ T11 (mkF m 203 #[.val (.int p1), .val (.int p2), .val (.int p3), .val (.int p4), .val (.int (Int32.ofNat 1)), .val (.int r1), .val (.int r2), .val (.int r3), .val (.ref b), .val (.ref o), .val (.int r1), .val (.int r1)] [(.ref o)])
    refine own_go (fun tz kz => XS.iload X11.here hx rfl (hb hby at_203) rfl kz) ?_
    show own_Go p.tables e below _ T11 (mkF m 205 #[.val (.int p1), .val (.int p2), .val (.int p3), .val (.int p4), .val (.int (Int32.ofNat 1)), .val (.int r1), .val (.int r2), .val (.int r3), .val (.ref b), .val (.ref o), .val (.int r1), .val (.int r1)] [(.int r1), (.ref o)])
    refine own_go (fun tz kz => XS.iconst X11.here hx rfl (hb hby at_205) kz) ?_
    show own_Go p.tables e below _ T11 (mkF m 206 #[.val (.int p1), .val (.int p2), .val (.int p3), .val (.int p4), .val (.int (Int32.ofNat 1)), .val (.int r1), .val (.int r2), .val (.int r3), .val (.ref b), .val (.ref o), .val (.int r1), .val (.int r1)] [(.int (1 : Int32)), (.int r1), (.ref o)])
    refine own_go (fun tz kz => XS.isub X11.here hx rfl (hb hby at_206) rfl kz) ?_
    show own_Go p.tables e below _ T11 (mkF m 207 #[.val (.int p1), .val (.int p2), .val (.int p3), .val (.int p4), .val (.int (Int32.ofNat 1)), .val (.int r1), .val (.int r2), .val (.int r3), .val (.ref b), .val (.ref o), .val (.int r1), .val (.int r1)] [(.int (r1 - (1 : Int32))), (.ref o)])
    obtain ⟨cq12, kq12, q12a, q12b, q12c⟩ := isOf hZ e11 Ex
    obtain ⟨_, _, ⟨T12, L12, k12, n12⟩, -, X12, ⟨Lc12, hQ12, l12, y12, z12⟩, st12⟩ := X11.virtualBack hx (y := (⟨"com/example/chalk_outline/chalkoutline/Placement", "found", "(I)I"⟩ : MethodName)) (z := (⟨"com/example/chalk_outline/chalkoutline/Placement", "found", "(I)I"⟩ : MethodName)) hown (mvT hZ (hw _ (List.mem_of_getElem? (i := 27) rfl))) (mvT hZ (hw _ (List.mem_of_getElem? (i := 28) rfl))) (notFace_of_selects (args := #[]) (mvT hZ (hw _ (List.mem_of_getElem? (i := 30) rfl)))) (mvT hZ (hw _ (List.mem_of_getElem? (i := 30) rfl))) (mvT hZ (hw _ (List.mem_of_getElem? (i := 29) rfl))) (by decide) (backOf (W := 0) (rm5 l Z a0 hw [] o (r1 - (1 : Int32)) b 1 (own_g r1 r2 r3) T9.heap n0 (Nat.le_trans (Nat.le_trans (Nat.le_trans (Nat.le_trans Z0 E6.1) (Keep.of_wr W7).1) E8.1) K9.1) Fr' Vb' (by decide)) hZ (hw _ (List.mem_of_getElem? (i := 31) rfl)) (hw _ (List.mem_of_getElem? (i := 5) rfl)) (by decide) (by decide)) q12a q12c (g := (mkF m 207 #[.val (.int p1), .val (.int p2), .val (.int p3), .val (.int p4), .val (.int (Int32.ofNat 1)), .val (.int r1), .val (.int r2), .val (.int r3), .val (.ref b), .val (.ref o), .val (.int r1), .val (.int r1)] [(.int (r1 - (1 : Int32))), (.ref o)])) rfl (by rw [hml]; rfl) (Steps.refl _) (argsL := [(.int (r1 - (1 : Int32)))]) (rest := []) (lenOf pd_3 rfl) rfl (by show 2 * 0 + _ ≤ _; exact Nat.le_of_eq rfl) (hb hby at_207) (fun _ _ => ⟨rfl, e11, (by decide : 2 + 0 ≤ _), (by decide : 5 + 0 ≤ _)⟩)
    dsimp only [Pt.U, Pt.locs, Pt.cells, Pt.slots] at X12 l12 y12 z12 st12 hQ12
    subst l12 y12 z12
    obtain ⟨rfl, N12q, e12⟩ := hQ12
    have N12 := Fr.app N11 N12q
    refine own_go (fun tz kz => st12.trans kz) ?_
    show own_Go p.tables e below _ T12 (mkF m 210 #[.val (.int p1), .val (.int p2), .val (.int p3), .val (.int p4), .val (.int (Int32.ofNat 1)), .val (.int r1), .val (.int r2), .val (.int r3), .val (.ref b), .val (.ref o), .val (.int r1), .val (.int r1)] [(.int (Int32.ofNat (own_fnd (own_g r1 r2 r3) (r1 - (1 : Int32)) 1 0)))])
    refine own_go (fun tz kz => XS.ifNo X12.here hx rfl (hb hby at_210) rfl (XT.i0_ne_f (own_f0 (own_g r1 r2 r3) (r1 - 1) 0 (own_pred_lt hr1))) kz) ?_
    show own_Go p.tables e below _ T12 (mkF m 213 #[.val (.int p1), .val (.int p2), .val (.int p3), .val (.int p4), .val (.int (Int32.ofNat 1)), .val (.int r1), .val (.int r2), .val (.int r3), .val (.ref b), .val (.ref o), .val (.int r1), .val (.int r1)] [])
    refine own_go (fun tz kz => XS.iconst X12.here hx rfl (hb hby at_213) kz) ?_
    show own_Go p.tables e below _ T12 (mkF m 214 #[.val (.int p1), .val (.int p2), .val (.int p3), .val (.int p4), .val (.int (Int32.ofNat 1)), .val (.int r1), .val (.int r2), .val (.int r3), .val (.ref b), .val (.ref o), .val (.int r1), .val (.int r1)] [(.int (1 : Int32))])
    refine own_go (fun tz kz => XS.goto X12.here hx rfl (pc0 := 214) (pc' := 218) rfl (hb hby at_214) (by decide) (by decide) kz) ?_
    show own_Go p.tables e below _ T12 (mkF m 218 #[.val (.int p1), .val (.int p2), .val (.int p3), .val (.int p4), .val (.int (Int32.ofNat 1)), .val (.int r1), .val (.int r2), .val (.int r3), .val (.ref b), .val (.ref o), .val (.int r1), .val (.int r1)] [(.int (1 : Int32))])
    obtain ⟨fs, hr, hrun, hended, hW, hsame⟩ := X12.leave (v := some (.int (1 : Int32))) (fun h => by rw [Bd.returns] at h; cases h)
    refine ⟨_, _, ?_, hrun, hended, _, _, rfl, ?_, ⟨_, rfl⟩, hW, hsame.mono (by decide) (by decide)⟩
    · exact retN X12 hx (t := .boolean) Bd.returns (by simp) (hb hby at_218) hr
    · show Q0 Z p1 p2 p3 p4 h0 n0 _ T12.heap _
      rw [e12]
      exact ⟨rfl, N12⟩
  ·
    show own_Go p.tables e below _ s₁ (mkF m 35 #[.val (.int p1), .val (.int p2), .val (.int p3), .val (.int p4), .val (.int (Int32.ofNat 2)), .val (.int r1), .val (.int r2), .val (.int r3), .unset, .unset, .unset, .unset] [])
    refine own_go (fun tz kz => XS.iload X0.here hx rfl (hb hby at_35) rfl kz) ?_
    show own_Go p.tables e below _ s₁ (mkF m 37 #[.val (.int p1), .val (.int p2), .val (.int p3), .val (.int p4), .val (.int (Int32.ofNat 2)), .val (.int r1), .val (.int r2), .val (.int r3), .unset, .unset, .unset, .unset] [(.int (Int32.ofNat 2))])
    obtain ⟨T13, h13, k13, X13, e13, E13, A13, st13⟩ := newP X0 hx hZ (hw _ (List.mem_of_getElem? (i := 2) rfl)) e0 (g := (mkF m 37 #[.val (.int p1), .val (.int p2), .val (.int p3), .val (.int p4), .val (.int (Int32.ofNat 2)), .val (.int r1), .val (.int r2), .val (.int r3), .unset, .unset, .unset, .unset] [(.int (Int32.ofNat 2))])) rfl (hb hby at_37) rfl (by decide) (cap := 3) (by decide) (by decide) (by decide) (by decide)
    obtain ⟨b, eq_b⟩ : ∃ z, z = (h0).size := ⟨_, rfl⟩
    rw [← eq_b] at A13 st13
    have g_b : n0 ≤ b := Nat.le_trans Z0 (Nat.le_of_eq eq_b.symm)
    have V_b : own_Av Z h13 b .int 2 (fun _ => .int 0) := own_Av.new A13 (by decide)
    refine own_go st13 ?_
    show own_Go p.tables e below _ T13 (mkF m 39 #[.val (.int p1), .val (.int p2), .val (.int p3), .val (.int p4), .val (.int (Int32.ofNat 2)), .val (.int r1), .val (.int r2), .val (.int r3), .unset, .unset, .unset, .unset] [(.ref b)])
    refine own_go (fun tz kz => XS.astore X13.here hx rfl (hb hby at_39) rfl rfl (l' := #[.val (.int p1), .val (.int p2), .val (.int p3), .val (.int p4), .val (.int (Int32.ofNat 2)), .val (.int r1), .val (.int r2), .val (.int r3), .val (.ref b), .unset, .unset, .unset]) rfl kz) ?_
    show own_Go p.tables e below _ T13 (mkF m 41 #[.val (.int p1), .val (.int p2), .val (.int p3), .val (.int p4), .val (.int (Int32.ofNat 2)), .val (.int r1), .val (.int r2), .val (.int r3), .val (.ref b), .unset, .unset, .unset] [])
    refine own_go (fun tz kz => XS.iload X13.here hx rfl (hb hby at_41) rfl kz) ?_
    show own_Go p.tables e below _ T13 (mkF m 43 #[.val (.int p1), .val (.int p2), .val (.int p3), .val (.int p4), .val (.int (Int32.ofNat 2)), .val (.int r1), .val (.int r2), .val (.int r3), .val (.ref b), .unset, .unset, .unset] [(.int (Int32.ofNat 2))])
    refine own_go (fun tz kz => XS.iconst X13.here hx rfl (hb hby at_43) kz) ?_
    show own_Go p.tables e below _ T13 (mkF m 44 #[.val (.int p1), .val (.int p2), .val (.int p3), .val (.int p4), .val (.int (Int32.ofNat 2)), .val (.int r1), .val (.int r2), .val (.int r3), .val (.ref b), .unset, .unset, .unset] [(.int (1 : Int32)), (.int (Int32.ofNat 2))])
    refine own_go (fun tz kz => XS.icmpNo X13.here hx rfl (hb hby at_44) rfl (XT.ii_lt_f (by decide)) kz) ?_
    show own_Go p.tables e below _ T13 (mkF m 47 #[.val (.int p1), .val (.int p2), .val (.int p3), .val (.int p4), .val (.int (Int32.ofNat 2)), .val (.int r1), .val (.int r2), .val (.int r3), .val (.ref b), .unset, .unset, .unset] [])
    refine own_go (fun tz kz => XS.aload X13.here hx rfl (hb hby at_47) rfl rfl kz) ?_
    show own_Go p.tables e below _ T13 (mkF m 49 #[.val (.int p1), .val (.int p2), .val (.int p3), .val (.int p4), .val (.int (Int32.ofNat 2)), .val (.int r1), .val (.int r2), .val (.int r3), .val (.ref b), .unset, .unset, .unset] [(.ref b)])
    refine own_go (fun tz kz => XS.iconst X13.here hx rfl (hb hby at_49) kz) ?_
    show own_Go p.tables e below _ T13 (mkF m 50 #[.val (.int p1), .val (.int p2), .val (.int p3), .val (.int p4), .val (.int (Int32.ofNat 2)), .val (.int r1), .val (.int r2), .val (.int r3), .val (.ref b), .unset, .unset, .unset] [(.int (0 : Int32)), (.ref b)])
    refine own_go (fun tz kz => XS.iload X13.here hx rfl (hb hby at_50) rfl kz) ?_
    show own_Go p.tables e below _ T13 (mkF m 52 #[.val (.int p1), .val (.int p2), .val (.int p3), .val (.int p4), .val (.int (Int32.ofNat 2)), .val (.int r1), .val (.int r2), .val (.int r3), .val (.ref b), .unset, .unset, .unset] [(.int r1), (.int (0 : Int32)), (.ref b)])
    obtain ⟨c14, Ar14, Sz14, Ge14⟩ := id (V_b)
    obtain ⟨T14, h14, X14, e14, W14, st14⟩ := stI X13 hx hZ e13 Ar14 (j := (0 : Int32)) (own_inb (i := 0) Sz14 ⟨by decide, by decide⟩ (by decide)) (g := (mkF m 52 #[.val (.int p1), .val (.int p2), .val (.int p3), .val (.int p4), .val (.int (Int32.ofNat 2)), .val (.int r1), .val (.int r2), .val (.int r3), .val (.ref b), .unset, .unset, .unset] [(.int r1), (.int (0 : Int32)), (.ref b)])) rfl rfl (hb hby at_52)
    have V0 := own_Av.set (V_b) W14 (⟨by decide, by decide⟩ : ¬ (0 : Int32) < 0 ∧ ((0 : Int32)).toNatClampNeg = 0).2
    have N14 := Fr.snoc X14 N0 g_b
    refine own_go st14 ?_
    show own_Go p.tables e below _ T14 (mkF m 53 #[.val (.int p1), .val (.int p2), .val (.int p3), .val (.int p4), .val (.int (Int32.ofNat 2)), .val (.int r1), .val (.int r2), .val (.int r3), .val (.ref b), .unset, .unset, .unset] [])
    refine own_go (fun tz kz => XS.iload X14.here hx rfl (hb hby at_53) rfl kz) ?_
    show own_Go p.tables e below _ T14 (mkF m 55 #[.val (.int p1), .val (.int p2), .val (.int p3), .val (.int p4), .val (.int (Int32.ofNat 2)), .val (.int r1), .val (.int r2), .val (.int r3), .val (.ref b), .unset, .unset, .unset] [(.int (Int32.ofNat 2))])
    refine own_go (fun tz kz => XS.iconst X14.here hx rfl (hb hby at_55) kz) ?_
    show own_Go p.tables e below _ T14 (mkF m 56 #[.val (.int p1), .val (.int p2), .val (.int p3), .val (.int p4), .val (.int (Int32.ofNat 2)), .val (.int r1), .val (.int r2), .val (.int r3), .val (.ref b), .unset, .unset, .unset] [(.int (2 : Int32)), (.int (Int32.ofNat 2))])
    refine own_go (fun tz kz => XS.icmpNo X14.here hx rfl (hb hby at_56) rfl (XT.ii_lt_f (by decide)) kz) ?_
    show own_Go p.tables e below _ T14 (mkF m 59 #[.val (.int p1), .val (.int p2), .val (.int p3), .val (.int p4), .val (.int (Int32.ofNat 2)), .val (.int r1), .val (.int r2), .val (.int r3), .val (.ref b), .unset, .unset, .unset] [])
    refine own_go (fun tz kz => XS.aload X14.here hx rfl (hb hby at_59) rfl rfl kz) ?_
    show own_Go p.tables e below _ T14 (mkF m 61 #[.val (.int p1), .val (.int p2), .val (.int p3), .val (.int p4), .val (.int (Int32.ofNat 2)), .val (.int r1), .val (.int r2), .val (.int r3), .val (.ref b), .unset, .unset, .unset] [(.ref b)])
    refine own_go (fun tz kz => XS.iconst X14.here hx rfl (hb hby at_61) kz) ?_
    show own_Go p.tables e below _ T14 (mkF m 62 #[.val (.int p1), .val (.int p2), .val (.int p3), .val (.int p4), .val (.int (Int32.ofNat 2)), .val (.int r1), .val (.int r2), .val (.int r3), .val (.ref b), .unset, .unset, .unset] [(.int (1 : Int32)), (.ref b)])
    refine own_go (fun tz kz => XS.iload X14.here hx rfl (hb hby at_62) rfl kz) ?_
    show own_Go p.tables e below _ T14 (mkF m 64 #[.val (.int p1), .val (.int p2), .val (.int p3), .val (.int p4), .val (.int (Int32.ofNat 2)), .val (.int r1), .val (.int r2), .val (.int r3), .val (.ref b), .unset, .unset, .unset] [(.int r2), (.int (1 : Int32)), (.ref b)])
    obtain ⟨c15, Ar15, Sz15, Ge15⟩ := id (V0)
    obtain ⟨T15, h15, X15, e15, W15, st15⟩ := stI X14 hx hZ e14 Ar15 (j := (1 : Int32)) (own_inb (i := 1) Sz15 ⟨by decide, by decide⟩ (by decide)) (g := (mkF m 64 #[.val (.int p1), .val (.int p2), .val (.int p3), .val (.int p4), .val (.int (Int32.ofNat 2)), .val (.int r1), .val (.int r2), .val (.int r3), .val (.ref b), .unset, .unset, .unset] [(.int r2), (.int (1 : Int32)), (.ref b)])) rfl rfl (hb hby at_64)
    have V1 := own_Av.set (V0) W15 (⟨by decide, by decide⟩ : ¬ (1 : Int32) < 0 ∧ ((1 : Int32)).toNatClampNeg = 1).2
    have N15 := Fr.snoc X15 N14 g_b
    refine own_go st15 ?_
    show own_Go p.tables e below _ T15 (mkF m 65 #[.val (.int p1), .val (.int p2), .val (.int p3), .val (.int p4), .val (.int (Int32.ofNat 2)), .val (.int r1), .val (.int r2), .val (.int r3), .val (.ref b), .unset, .unset, .unset] [])
    refine own_go (fun tz kz => XS.iload X15.here hx rfl (hb hby at_65) rfl kz) ?_
    show own_Go p.tables e below _ T15 (mkF m 67 #[.val (.int p1), .val (.int p2), .val (.int p3), .val (.int p4), .val (.int (Int32.ofNat 2)), .val (.int r1), .val (.int r2), .val (.int r3), .val (.ref b), .unset, .unset, .unset] [(.int (Int32.ofNat 2))])
    refine own_go (fun tz kz => XS.iconst X15.here hx rfl (hb hby at_67) kz) ?_
    show own_Go p.tables e below _ T15 (mkF m 68 #[.val (.int p1), .val (.int p2), .val (.int p3), .val (.int p4), .val (.int (Int32.ofNat 2)), .val (.int r1), .val (.int r2), .val (.int r3), .val (.ref b), .unset, .unset, .unset] [(.int (3 : Int32)), (.int (Int32.ofNat 2))])
    refine own_go (fun tz kz => XS.icmpYes X15.here hx rfl (pc0 := 68) (pc' := 77) rfl (hb hby at_68) rfl (XT.ii_lt_t (by decide)) (by decide) (by decide) kz) ?_
    show own_Go p.tables e below _ T15 (mkF m 77 #[.val (.int p1), .val (.int p2), .val (.int p3), .val (.int p4), .val (.int (Int32.ofNat 2)), .val (.int r1), .val (.int r2), .val (.int r3), .val (.ref b), .unset, .unset, .unset] [])
    have Vb : own_Av Z h15 b .int 2 (fun k => .int (own_g r1 r2 r3 k)) := own_Av.eq V1 (fun k hk => by rcases (by omega : k = 0 ∨ k = 1) with rfl | rfl <;> rfl)
    obtain ⟨T16, h16, X16, e16, E16, A16, D16, -, st16⟩ := newO X15 hx hZ hown (hw _ (List.mem_of_getElem? (i := 3) rfl)) (hw _ (List.mem_of_getElem? (i := 4) rfl)) (hw _ (List.mem_of_getElem? (i := 5) rfl)) e15 (g := (mkF m 77 #[.val (.int p1), .val (.int p2), .val (.int p3), .val (.int p4), .val (.int (Int32.ofNat 2)), .val (.int r1), .val (.int r2), .val (.int r3), .val (.ref b), .unset, .unset, .unset] [])) rfl (hb hby at_77) (by decide) (by decide)
    obtain ⟨o, eq_o⟩ : ∃ z, z = (h15).size := ⟨_, rfl⟩
    rw [← eq_o] at A16 D16 st16
    have g_o : n0 ≤ o := Nat.le_trans (Nat.le_trans (Nat.le_trans (Nat.le_trans Z0 E13.1) (Keep.of_wr W14).1) (Keep.of_wr W15).1) (Nat.le_of_eq eq_o.symm)
    have F_ranks_o : Fld Z h16 o "com/example/chalk_outline/chalkoutline/Placement" "ranks" "[I" .null := D16 (Or.inr (hw _ (List.mem_of_getElem? (i := 18) rfl))) (ty := (.array .int)) (by decide)
    have F_relevant_o : Fld Z h16 o "com/example/chalk_outline/chalkoutline/Placement" "relevant" "I" (.int (0 : Int32)) := D16 (Or.inr (hw _ (List.mem_of_getElem? (i := 20) rfl))) (ty := .int) (by decide)
    refine own_go st16 ?_
    show own_Go p.tables e below _ T16 (mkF m 80 #[.val (.int p1), .val (.int p2), .val (.int p3), .val (.int p4), .val (.int (Int32.ofNat 2)), .val (.int r1), .val (.int r2), .val (.int r3), .val (.ref b), .unset, .unset, .unset] [(.ref o)])
    refine own_go (fun tz kz => XS.dup X16.here hx rfl (hb hby at_80) rfl rfl kz) ?_
    show own_Go p.tables e below _ T16 (mkF m 81 #[.val (.int p1), .val (.int p2), .val (.int p3), .val (.int p4), .val (.int (Int32.ofNat 2)), .val (.int r1), .val (.int r2), .val (.int r3), .val (.ref b), .unset, .unset, .unset] [(.ref o), (.ref o)])
    refine own_go (fun tz kz => XS.aload X16.here hx rfl (hb hby at_81) rfl rfl kz) ?_
    show own_Go p.tables e below _ T16 (mkF m 83 #[.val (.int p1), .val (.int p2), .val (.int p3), .val (.int p4), .val (.int (Int32.ofNat 2)), .val (.int r1), .val (.int r2), .val (.int r3), .val (.ref b), .unset, .unset, .unset] [(.ref b), (.ref o), (.ref o)])
    refine own_go (fun tz kz => XS.iload X16.here hx rfl (hb hby at_83) rfl kz) ?_
    show own_Go p.tables e below _ T16 (mkF m 85 #[.val (.int p1), .val (.int p2), .val (.int p3), .val (.int p4), .val (.int (Int32.ofNat 2)), .val (.int r1), .val (.int r2), .val (.int r3), .val (.ref b), .unset, .unset, .unset] [(.int (Int32.ofNat 2)), (.ref b), (.ref o), (.ref o)])
    refine own_go (fun tz kz => XS.iloadN X16.here hx rfl (hb hby at_85) rfl kz) ?_
    show own_Go p.tables e below _ T16 (mkF m 86 #[.val (.int p1), .val (.int p2), .val (.int p3), .val (.int p4), .val (.int (Int32.ofNat 2)), .val (.int r1), .val (.int r2), .val (.int r3), .val (.ref b), .unset, .unset, .unset] [(.int p1), (.int (Int32.ofNat 2)), (.ref b), (.ref o), (.ref o)])
    refine own_go (fun tz kz => XS.iconst X16.here hx rfl (hb hby at_86) kz) ?_
    show own_Go p.tables e below _ T16 (mkF m 87 #[.val (.int p1), .val (.int p2), .val (.int p3), .val (.int p4), .val (.int (Int32.ofNat 2)), .val (.int r1), .val (.int r2), .val (.int r3), .val (.ref b), .unset, .unset, .unset] [(.int (2 : Int32)), (.int p1), (.int (Int32.ofNat 2)), (.ref b), (.ref o), (.ref o)])
    refine own_go (fun tz kz => XT.iushr X16.here hx rfl (hb hby at_87) rfl kz) ?_
    show own_Go p.tables e below _ T16 (mkF m 88 #[.val (.int p1), .val (.int p2), .val (.int p3), .val (.int p4), .val (.int (Int32.ofNat 2)), .val (.int r1), .val (.int r2), .val (.int r3), .val (.ref b), .unset, .unset, .unset] [(.int (XT.ushr p1 (2 : Int32))), (.int (Int32.ofNat 2)), (.ref b), (.ref o), (.ref o)])
    refine own_go (fun tz kz => XS.bipush X16.here hx rfl (hb hby at_88) kz) ?_
    show own_Go p.tables e below _ T16 (mkF m 90 #[.val (.int p1), .val (.int p2), .val (.int p3), .val (.int p4), .val (.int (Int32.ofNat 2)), .val (.int r1), .val (.int r2), .val (.int r3), .val (.ref b), .unset, .unset, .unset] [(.int (7 : Int32)), (.int (XT.ushr p1 (2 : Int32))), (.int (Int32.ofNat 2)), (.ref b), (.ref o), (.ref o)])
    refine own_go (fun tz kz => XS.iand X16.here hx rfl (hb hby at_90) rfl kz) ?_
    show own_Go p.tables e below _ T16 (mkF m 91 #[.val (.int p1), .val (.int p2), .val (.int p3), .val (.int p4), .val (.int (Int32.ofNat 2)), .val (.int r1), .val (.int r2), .val (.int r3), .val (.ref b), .unset, .unset, .unset] [(.int ((XT.ushr p1 (2 : Int32)) &&& (7 : Int32))), (.int (Int32.ofNat 2)), (.ref b), (.ref o), (.ref o)])
    refine own_go (fun tz kz => XS.iadd X16.here hx rfl (hb hby at_91) rfl kz) ?_
    show own_Go p.tables e below _ T16 (mkF m 92 #[.val (.int p1), .val (.int p2), .val (.int p3), .val (.int p4), .val (.int (Int32.ofNat 2)), .val (.int r1), .val (.int r2), .val (.int r3), .val (.ref b), .unset, .unset, .unset] [(.int ((Int32.ofNat 2) + ((XT.ushr p1 (2 : Int32)) &&& (7 : Int32)))), (.ref b), (.ref o), (.ref o)])
    obtain ⟨_, _, ⟨T17, L17, k17, n17⟩, -, X17, ⟨Lc17, hQ17, l17, y17, z17⟩, st17⟩ := X16.specialBack hx (y := (⟨"com/example/chalk_outline/chalkoutline/Placement", "<init>", "([II)V"⟩ : MethodName)) rfl hown (mvT hZ (hw _ (List.mem_of_getElem? (i := 6) rfl))) (mvT hZ (hw _ (List.mem_of_getElem? (i := 7) rfl))) (mvT hZ (hw _ (List.mem_of_getElem? (i := 8) rfl))) (by decide) (backOf (W := 1) (rm1 l Z a0 hw [] o b ((Int32.ofNat 2) + ((XT.ushr p1 (2 : Int32)) &&& (7 : Int32))) _ _ h16 n0 (Nat.le_trans (Nat.le_trans (Nat.le_trans (Nat.le_trans Z0 E13.1) (Keep.of_wr W14).1) (Keep.of_wr W15).1) E16.1) F_ranks_o F_relevant_o A16 g_o) hZ (hw _ (List.mem_of_getElem? (i := 8) rfl)) (hw _ (List.mem_of_getElem? (i := 5) rfl)) (by decide) (by decide)) (g := (mkF m 92 #[.val (.int p1), .val (.int p2), .val (.int p3), .val (.int p4), .val (.int (Int32.ofNat 2)), .val (.int r1), .val (.int r2), .val (.int r3), .val (.ref b), .unset, .unset, .unset] [(.int ((Int32.ofNat 2) + ((XT.ushr p1 (2 : Int32)) &&& (7 : Int32)))), (.ref b), (.ref o), (.ref o)])) rfl (by rw [hml]; rfl) (Steps.refl _) (a := o) (argsL := [(.ref b), (.int ((Int32.ofNat 2) + ((XT.ushr p1 (2 : Int32)) &&& (7 : Int32))))]) (rest := [(.ref o)]) (lenOf pd_1 rfl) rfl (by show 2 * 0 + _ ≤ _; exact Nat.le_of_eq rfl) (hb hby at_92) (fun _ _ => ⟨rfl, e16, (by decide : 2 + 0 ≤ _), (by decide : 5 + 0 ≤ _)⟩)
    dsimp only [Pt.U, Pt.locs, Pt.cells, Pt.slots] at X17 l17 y17 z17 st17 hQ17
    subst l17 y17 z17
    obtain ⟨rfl, N17q, K17, Ex, Fr', Fe⟩ := hQ17
    have N17 := Fr.app N15 N17q
    refine own_go (fun tz kz => st17.trans kz) ?_
    show own_Go p.tables e below _ T17 (mkF m 95 #[.val (.int p1), .val (.int p2), .val (.int p3), .val (.int p4), .val (.int (Int32.ofNat 2)), .val (.int r1), .val (.int r2), .val (.int r3), .val (.ref b), .unset, .unset, .unset] [(.ref o)])
    have Vb' := own_Av.keep (Vb.ext E16) K17 (own_not1 (Nat.ne_of_lt (Nat.lt_of_lt_of_le Vb.lt (Nat.le_of_eq eq_o.symm))))
    refine own_go (fun tz kz => XS.astore X17.here hx rfl (hb hby at_95) rfl rfl (l' := #[.val (.int p1), .val (.int p2), .val (.int p3), .val (.int p4), .val (.int (Int32.ofNat 2)), .val (.int r1), .val (.int r2), .val (.int r3), .val (.ref b), .val (.ref o), .unset, .unset]) rfl kz) ?_
    show own_Go p.tables e below _ T17 (mkF m 97 #[.val (.int p1), .val (.int p2), .val (.int p3), .val (.int p4), .val (.int (Int32.ofNat 2)), .val (.int r1), .val (.int r2), .val (.int r3), .val (.ref b), .val (.ref o), .unset, .unset] [])
    refine own_go (fun tz kz => XS.aload X17.here hx rfl (hb hby at_97) rfl rfl kz) ?_
    show own_Go p.tables e below _ T17 (mkF m 99 #[.val (.int p1), .val (.int p2), .val (.int p3), .val (.int p4), .val (.int (Int32.ofNat 2)), .val (.int r1), .val (.int r2), .val (.int r3), .val (.ref b), .val (.ref o), .unset, .unset] [(.ref o)])
    obtain ⟨cq18, kq18, q18a, q18b, q18c⟩ := isOf hZ rfl Ex
    obtain ⟨_, _, ⟨T18, L18, k18, n18⟩, -, X18, ⟨Lc18, hQ18, l18, y18, z18⟩, st18⟩ := X17.virtualBack hx (y := (⟨"com/example/chalk_outline/chalkoutline/Placement", "first", "()I"⟩ : MethodName)) (z := (⟨"com/example/chalk_outline/chalkoutline/Placement", "first", "()I"⟩ : MethodName)) hown (mvT hZ (hw _ (List.mem_of_getElem? (i := 21) rfl))) (mvT hZ (hw _ (List.mem_of_getElem? (i := 22) rfl))) (notFace_of_selects (args := #[]) (mvT hZ (hw _ (List.mem_of_getElem? (i := 24) rfl)))) (mvT hZ (hw _ (List.mem_of_getElem? (i := 24) rfl))) (mvT hZ (hw _ (List.mem_of_getElem? (i := 23) rfl))) (by decide) (backOf (W := 0) (rm4 l Z a0 hw [] o b 2 (own_g r1 r2 r3) T17.heap n0 (Nat.le_trans (Nat.le_trans (Nat.le_trans (Nat.le_trans (Nat.le_trans Z0 E13.1) (Keep.of_wr W14).1) (Keep.of_wr W15).1) E16.1) K17.1) Fr' Vb' (by decide)) hZ (hw _ (List.mem_of_getElem? (i := 25) rfl)) (hw _ (List.mem_of_getElem? (i := 5) rfl)) (by decide) (by decide)) q18a q18c (g := (mkF m 99 #[.val (.int p1), .val (.int p2), .val (.int p3), .val (.int p4), .val (.int (Int32.ofNat 2)), .val (.int r1), .val (.int r2), .val (.int r3), .val (.ref b), .val (.ref o), .unset, .unset] [(.ref o)])) rfl (by rw [hml]; rfl) (Steps.refl _) (argsL := []) (rest := []) (lenOf pd_2 rfl) rfl (by show 2 * 0 + _ ≤ _; exact Nat.le_of_eq rfl) (hb hby at_99) (fun _ _ => ⟨rfl, rfl, (by decide : 2 + 0 ≤ _), (by decide : 5 + 0 ≤ _)⟩)
    dsimp only [Pt.U, Pt.locs, Pt.cells, Pt.slots] at X18 l18 y18 z18 st18 hQ18
    subst l18 y18 z18
    obtain ⟨rfl, N18q, e18⟩ := hQ18
    have N18 := Fr.app N17 N18q
    refine own_go (fun tz kz => st18.trans kz) ?_
    show own_Go p.tables e below _ T18 (mkF m 102 #[.val (.int p1), .val (.int p2), .val (.int p3), .val (.int p4), .val (.int (Int32.ofNat 2)), .val (.int r1), .val (.int r2), .val (.int r3), .val (.ref b), .val (.ref o), .unset, .unset] [(.int (if Int32.ofNat 2 = 0 then 0 else (own_g r1 r2 r3) 0))])
    show own_Go p.tables e below _ T18 (mkF m 102 #[.val (.int p1), .val (.int p2), .val (.int p3), .val (.int p4), .val (.int (Int32.ofNat 2)), .val (.int r1), .val (.int r2), .val (.int r3), .val (.ref b), .val (.ref o), .unset, .unset] [(.int r1)])
    refine own_go (fun tz kz => XS.istore X18.here hx rfl (hb hby at_102) rfl (l' := #[.val (.int p1), .val (.int p2), .val (.int p3), .val (.int p4), .val (.int (Int32.ofNat 2)), .val (.int r1), .val (.int r2), .val (.int r3), .val (.ref b), .val (.ref o), .val (.int r1), .unset]) rfl kz) ?_
    show own_Go p.tables e below _ T18 (mkF m 104 #[.val (.int p1), .val (.int p2), .val (.int p3), .val (.int p4), .val (.int (Int32.ofNat 2)), .val (.int r1), .val (.int r2), .val (.int r3), .val (.ref b), .val (.ref o), .val (.int r1), .unset] [])
    refine own_go (fun tz kz => XS.iload X18.here hx rfl (hb hby at_104) rfl kz) ?_
    show own_Go p.tables e below _ T18 (mkF m 106 #[.val (.int p1), .val (.int p2), .val (.int p3), .val (.int p4), .val (.int (Int32.ofNat 2)), .val (.int r1), .val (.int r2), .val (.int r3), .val (.ref b), .val (.ref o), .val (.int r1), .unset] [(.int (Int32.ofNat 2))])
    refine own_go (fun tz kz => XS.ifYes X18.here hx rfl (pc0 := 106) (pc' := 115) rfl (hb hby at_106) rfl (XT.i0_ne_t (by decide)) (by decide) (by decide) kz) ?_
    show own_Go p.tables e below _ T18 (mkF m 115 #[.val (.int p1), .val (.int p2), .val (.int p3), .val (.int p4), .val (.int (Int32.ofNat 2)), .val (.int r1), .val (.int r2), .val (.int r3), .val (.ref b), .val (.ref o), .val (.int r1), .unset] [])
    refine own_go (fun tz kz => XS.iload X18.here hx rfl (hb hby at_115) rfl kz) ?_
    show own_Go p.tables e below _ T18 (mkF m 117 #[.val (.int p1), .val (.int p2), .val (.int p3), .val (.int p4), .val (.int (Int32.ofNat 2)), .val (.int r1), .val (.int r2), .val (.int r3), .val (.ref b), .val (.ref o), .val (.int r1), .unset] [(.int (Int32.ofNat 2))])
    refine own_go (fun tz kz => XS.iconst X18.here hx rfl (hb hby at_117) kz) ?_
    show own_Go p.tables e below _ T18 (mkF m 118 #[.val (.int p1), .val (.int p2), .val (.int p3), .val (.int p4), .val (.int (Int32.ofNat 2)), .val (.int r1), .val (.int r2), .val (.int r3), .val (.ref b), .val (.ref o), .val (.int r1), .unset] [(.int (1 : Int32)), (.int (Int32.ofNat 2))])
    refine own_go (fun tz kz => XS.icmpYes X18.here hx rfl (pc0 := 118) (pc' := 128) rfl (hb hby at_118) rfl (XT.ii_ne_t (by decide)) (by decide) (by decide) kz) ?_
    show own_Go p.tables e below _ T18 (mkF m 128 #[.val (.int p1), .val (.int p2), .val (.int p3), .val (.int p4), .val (.int (Int32.ofNat 2)), .val (.int r1), .val (.int r2), .val (.int r3), .val (.ref b), .val (.ref o), .val (.int r1), .unset] [])
    refine own_go (fun tz kz => XS.iload X18.here hx rfl (hb hby at_128) rfl kz) ?_
    show own_Go p.tables e below _ T18 (mkF m 130 #[.val (.int p1), .val (.int p2), .val (.int p3), .val (.int p4), .val (.int (Int32.ofNat 2)), .val (.int r1), .val (.int r2), .val (.int r3), .val (.ref b), .val (.ref o), .val (.int r1), .unset] [(.int (Int32.ofNat 2))])
    refine own_go (fun tz kz => XS.iconst X18.here hx rfl (hb hby at_130) kz) ?_
    show own_Go p.tables e below _ T18 (mkF m 131 #[.val (.int p1), .val (.int p2), .val (.int p3), .val (.int p4), .val (.int (Int32.ofNat 2)), .val (.int r1), .val (.int r2), .val (.int r3), .val (.ref b), .val (.ref o), .val (.int r1), .unset] [(.int (2 : Int32)), (.int (Int32.ofNat 2))])
    refine own_go (fun tz kz => XS.icmpNo X18.here hx rfl (hb hby at_131) rfl (XT.ii_ne_f (by decide)) kz) ?_
    show own_Go p.tables e below _ T18 (mkF m 134 #[.val (.int p1), .val (.int p2), .val (.int p3), .val (.int p4), .val (.int (Int32.ofNat 2)), .val (.int r1), .val (.int r2), .val (.int r3), .val (.ref b), .val (.ref o), .val (.int r1), .unset] [])
    refine own_go (fun tz kz => XS.iload X18.here hx rfl (hb hby at_134) rfl kz) ?_
    show own_Go p.tables e below _ T18 (mkF m 136 #[.val (.int p1), .val (.int p2), .val (.int p3), .val (.int p4), .val (.int (Int32.ofNat 2)), .val (.int r1), .val (.int r2), .val (.int r3), .val (.ref b), .val (.ref o), .val (.int r1), .unset] [(.int r1)])
    refine own_go (fun tz kz => XS.iload X18.here hx rfl (hb hby at_136) rfl kz) ?_
    show own_Go p.tables e below _ T18 (mkF m 138 #[.val (.int p1), .val (.int p2), .val (.int p3), .val (.int p4), .val (.int (Int32.ofNat 2)), .val (.int r1), .val (.int r2), .val (.int r3), .val (.ref b), .val (.ref o), .val (.int r1), .unset] [(.int r2), (.int r1)])
    obtain ⟨_, _, ⟨T19, L19, k19, n19⟩, -, X19, ⟨Lc19, hQ19, l19, y19, z19⟩, st19⟩ := Jvm.LawKit.callS X18 hx (y := (⟨"java/lang/Math", "min", "(II)I"⟩ : MethodName)) hown (mvT hZ (hw _ (List.mem_of_getElem? (i := 32) rfl))) (mvT hZ (hw _ (List.mem_of_getElem? (i := 33) rfl))) (mvT hZ (hw _ (List.mem_of_getElem? (i := 34) rfl))) (mvT hZ (hw _ (List.mem_of_getElem? (i := 35) rfl))) (by decide) (backOf (W := 0) (rm6 l Z a0 hw [] r1 r2 T17.heap n0 (Nat.le_trans (Nat.le_trans (Nat.le_trans (Nat.le_trans (Nat.le_trans Z0 E13.1) (Keep.of_wr W14).1) (Keep.of_wr W15).1) E16.1) K17.1)) hZ (hw _ (List.mem_of_getElem? (i := 35) rfl)) (hw _ (List.mem_of_getElem? (i := 34) rfl)) (by decide) (by decide)) (g := (mkF m 138 #[.val (.int p1), .val (.int p2), .val (.int p3), .val (.int p4), .val (.int (Int32.ofNat 2)), .val (.int r1), .val (.int r2), .val (.int r3), .val (.ref b), .val (.ref o), .val (.int r1), .unset] [(.int r2), (.int r1)])) rfl (by rw [hml]; rfl) (argsL := [(.int r1), (.int r2)]) (rest := []) (lenOf pd_4 rfl) rfl (by show 2 * 0 + _ ≤ _; exact Nat.le_of_eq rfl) (hb hby at_138) (fun _ _ => ⟨rfl, e18, (by decide : 2 + 0 ≤ _), (by decide : 5 + 0 ≤ _)⟩)
    dsimp only [Pt.U, Pt.locs, Pt.cells, Pt.slots] at X19 l19 y19 z19 st19 hQ19
    subst l19 y19 z19
    obtain ⟨rfl, N19q, e19⟩ := hQ19
    have N19 := Fr.app N18 N19q
    refine own_go (fun tz kz => st19 tz kz) ?_
    show own_Go p.tables e below _ T19 (mkF m 141 #[.val (.int p1), .val (.int p2), .val (.int p3), .val (.int p4), .val (.int (Int32.ofNat 2)), .val (.int r1), .val (.int r2), .val (.int r3), .val (.ref b), .val (.ref o), .val (.int r1), .unset] [(.int (if r2 < r1 then r2 else r1))])
    rw [show (if r2 < r1 then r2 else r1) = r1 from if_neg (own_asym hr12)]
    show own_Go p.tables e below _ T19 (mkF m 141 #[.val (.int p1), .val (.int p2), .val (.int p3), .val (.int p4), .val (.int (Int32.ofNat 2)), .val (.int r1), .val (.int r2), .val (.int r3), .val (.ref b), .val (.ref o), .val (.int r1), .unset] [(.int r1)])
    refine own_go (fun tz kz => XS.istore X19.here hx rfl (hb hby at_141) rfl (l' := #[.val (.int p1), .val (.int p2), .val (.int p3), .val (.int p4), .val (.int (Int32.ofNat 2)), .val (.int r1), .val (.int r2), .val (.int r3), .val (.ref b), .val (.ref o), .val (.int r1), .val (.int r1)]) rfl kz) ?_
    show own_Go p.tables e below _ T19 (mkF m 143 #[.val (.int p1), .val (.int p2), .val (.int p3), .val (.int p4), .val (.int (Int32.ofNat 2)), .val (.int r1), .val (.int r2), .val (.int r3), .val (.ref b), .val (.ref o), .val (.int r1), .val (.int r1)] [])
    refine own_go (fun tz kz => XS.goto X19.here hx rfl (pc0 := 143) (pc' := 160) rfl (hb hby at_143) (by decide) (by decide) kz) ?_
    show own_Go p.tables e below _ T19 (mkF m 160 #[.val (.int p1), .val (.int p2), .val (.int p3), .val (.int p4), .val (.int (Int32.ofNat 2)), .val (.int r1), .val (.int r2), .val (.int r3), .val (.ref b), .val (.ref o), .val (.int r1), .val (.int r1)] [])
    refine own_go (fun tz kz => XS.iload X19.here hx rfl (hb hby at_160) rfl kz) ?_
    show own_Go p.tables e below _ T19 (mkF m 162 #[.val (.int p1), .val (.int p2), .val (.int p3), .val (.int p4), .val (.int (Int32.ofNat 2)), .val (.int r1), .val (.int r2), .val (.int r3), .val (.ref b), .val (.ref o), .val (.int r1), .val (.int r1)] [(.int r1)])
    refine own_go (fun tz kz => XS.iload X19.here hx rfl (hb hby at_162) rfl kz) ?_
    show own_Go p.tables e below _ T19 (mkF m 164 #[.val (.int p1), .val (.int p2), .val (.int p3), .val (.int p4), .val (.int (Int32.ofNat 2)), .val (.int r1), .val (.int r2), .val (.int r3), .val (.ref b), .val (.ref o), .val (.int r1), .val (.int r1)] [(.int r1), (.int r1)])
    refine own_go (fun tz kz => XS.icmpYes X19.here hx rfl (pc0 := 164) (pc' := 169) rfl (hb hby at_164) rfl (XT.ii_eq_t rfl) (by decide) (by decide) kz) ?_
    show own_Go p.tables e below _ T19 (mkF m 169 #[.val (.int p1), .val (.int p2), .val (.int p3), .val (.int p4), .val (.int (Int32.ofNat 2)), .val (.int r1), .val (.int r2), .val (.int r3), .val (.ref b), .val (.ref o), .val (.int r1), .val (.int r1)] [])
    refine own_go (fun tz kz => XS.iload X19.here hx rfl (hb hby at_169) rfl kz) ?_
    show own_Go p.tables e below _ T19 (mkF m 171 #[.val (.int p1), .val (.int p2), .val (.int p3), .val (.int p4), .val (.int (Int32.ofNat 2)), .val (.int r1), .val (.int r2), .val (.int r3), .val (.ref b), .val (.ref o), .val (.int r1), .val (.int r1)] [(.int (Int32.ofNat 2))])
    refine own_go (fun tz kz => XS.ifYes X19.here hx rfl (pc0 := 171) (pc' := 190) rfl (hb hby at_171) rfl (XT.i0_ne_t (by decide)) (by decide) (by decide) kz) ?_
    show own_Go p.tables e below _ T19 (mkF m 190 #[.val (.int p1), .val (.int p2), .val (.int p3), .val (.int p4), .val (.int (Int32.ofNat 2)), .val (.int r1), .val (.int r2), .val (.int r3), .val (.ref b), .val (.ref o), .val (.int r1), .val (.int r1)] [])
    refine own_go (fun tz kz => XS.aload X19.here hx rfl (hb hby at_190) rfl rfl kz) ?_
    show own_Go p.tables e below _ T19 (mkF m 192 #[.val (.int p1), .val (.int p2), .val (.int p3), .val (.int p4), .val (.int (Int32.ofNat 2)), .val (.int r1), .val (.int r2), .val (.int r3), .val (.ref b), .val (.ref o), .val (.int r1), .val (.int r1)] [(.ref o)])
    refine own_go (fun tz kz => XS.iload X19.here hx rfl (hb hby at_192) rfl kz) ?_
    show own_Go p.tables e below _ T19 (mkF m 194 #[.val (.int p1), .val (.int p2), .val (.int p3), .val (.int p4), .val (.int (Int32.ofNat 2)), .val (.int r1), .val (.int r2), .val (.int r3), .val (.ref b), .val (.ref o), .val (.int r1), .val (.int r1)] [(.int r1), (.ref o)])
    obtain ⟨cq20, kq20, q20a, q20b, q20c⟩ := isOf hZ e19 Ex
    obtain ⟨_, _, ⟨T20, L20, k20, n20⟩, -, X20, ⟨Lc20, hQ20, l20, y20, z20⟩, st20⟩ := X19.virtualBack hx (y := (⟨"com/example/chalk_outline/chalkoutline/Placement", "found", "(I)I"⟩ : MethodName)) (z := (⟨"com/example/chalk_outline/chalkoutline/Placement", "found", "(I)I"⟩ : MethodName)) hown (mvT hZ (hw _ (List.mem_of_getElem? (i := 27) rfl))) (mvT hZ (hw _ (List.mem_of_getElem? (i := 28) rfl))) (notFace_of_selects (args := #[]) (mvT hZ (hw _ (List.mem_of_getElem? (i := 30) rfl)))) (mvT hZ (hw _ (List.mem_of_getElem? (i := 30) rfl))) (mvT hZ (hw _ (List.mem_of_getElem? (i := 29) rfl))) (by decide) (backOf (W := 0) (rm5 l Z a0 hw [] o r1 b 2 (own_g r1 r2 r3) T17.heap n0 (Nat.le_trans (Nat.le_trans (Nat.le_trans (Nat.le_trans (Nat.le_trans Z0 E13.1) (Keep.of_wr W14).1) (Keep.of_wr W15).1) E16.1) K17.1) Fr' Vb' (by decide)) hZ (hw _ (List.mem_of_getElem? (i := 31) rfl)) (hw _ (List.mem_of_getElem? (i := 5) rfl)) (by decide) (by decide)) q20a q20c (g := (mkF m 194 #[.val (.int p1), .val (.int p2), .val (.int p3), .val (.int p4), .val (.int (Int32.ofNat 2)), .val (.int r1), .val (.int r2), .val (.int r3), .val (.ref b), .val (.ref o), .val (.int r1), .val (.int r1)] [(.int r1), (.ref o)])) rfl (by rw [hml]; rfl) (Steps.refl _) (argsL := [(.int r1)]) (rest := []) (lenOf pd_3 rfl) rfl (by show 2 * 0 + _ ≤ _; exact Nat.le_of_eq rfl) (hb hby at_194) (fun _ _ => ⟨rfl, e19, (by decide : 2 + 0 ≤ _), (by decide : 5 + 0 ≤ _)⟩)
    dsimp only [Pt.U, Pt.locs, Pt.cells, Pt.slots] at X20 l20 y20 z20 st20 hQ20
    subst l20 y20 z20
    obtain ⟨rfl, N20q, e20⟩ := hQ20
    have N20 := Fr.app N19 N20q
    refine own_go (fun tz kz => st20.trans kz) ?_
    show own_Go p.tables e below _ T20 (mkF m 197 #[.val (.int p1), .val (.int p2), .val (.int p3), .val (.int p4), .val (.int (Int32.ofNat 2)), .val (.int r1), .val (.int r2), .val (.int r3), .val (.ref b), .val (.ref o), .val (.int r1), .val (.int r1)] [(.int (Int32.ofNat (own_fnd (own_g r1 r2 r3) r1 2 0)))])
    refine own_go (fun tz kz => XS.iconst X20.here hx rfl (hb hby at_197) kz) ?_
    show own_Go p.tables e below _ T20 (mkF m 198 #[.val (.int p1), .val (.int p2), .val (.int p3), .val (.int p4), .val (.int (Int32.ofNat 2)), .val (.int r1), .val (.int r2), .val (.int r3), .val (.ref b), .val (.ref o), .val (.int r1), .val (.int r1)] [(.int (1 : Int32)), (.int (Int32.ofNat (own_fnd (own_g r1 r2 r3) r1 2 0)))])
    refine own_go (fun tz kz => XS.icmpNo X20.here hx rfl (hb hby at_198) rfl (XT.ii_ne_f (own_f2 (own_g r1 r2 r3) r1 0 (own_irr r1) hr12)) kz) ?_
    show own_Go p.tables e below _ T20 (mkF m 201 #[.val (.int p1), .val (.int p2), .val (.int p3), .val (.int p4), .val (.int (Int32.ofNat 2)), .val (.int r1), .val (.int r2), .val (.int r3), .val (.ref b), .val (.ref o), .val (.int r1), .val (.int r1)] [])
    refine own_go (fun tz kz => XS.aload X20.here hx rfl (hb hby at_201) rfl rfl kz) ?_
    show own_Go p.tables e below _ T20 (mkF m 203 #[.val (.int p1), .val (.int p2), .val (.int p3), .val (.int p4), .val (.int (Int32.ofNat 2)), .val (.int r1), .val (.int r2), .val (.int r3), .val (.ref b), .val (.ref o), .val (.int r1), .val (.int r1)] [(.ref o)])
    refine own_go (fun tz kz => XS.iload X20.here hx rfl (hb hby at_203) rfl kz) ?_
    show own_Go p.tables e below _ T20 (mkF m 205 #[.val (.int p1), .val (.int p2), .val (.int p3), .val (.int p4), .val (.int (Int32.ofNat 2)), .val (.int r1), .val (.int r2), .val (.int r3), .val (.ref b), .val (.ref o), .val (.int r1), .val (.int r1)] [(.int r1), (.ref o)])
    refine own_go (fun tz kz => XS.iconst X20.here hx rfl (hb hby at_205) kz) ?_
    show own_Go p.tables e below _ T20 (mkF m 206 #[.val (.int p1), .val (.int p2), .val (.int p3), .val (.int p4), .val (.int (Int32.ofNat 2)), .val (.int r1), .val (.int r2), .val (.int r3), .val (.ref b), .val (.ref o), .val (.int r1), .val (.int r1)] [(.int (1 : Int32)), (.int r1), (.ref o)])
    refine own_go (fun tz kz => XS.isub X20.here hx rfl (hb hby at_206) rfl kz) ?_
    show own_Go p.tables e below _ T20 (mkF m 207 #[.val (.int p1), .val (.int p2), .val (.int p3), .val (.int p4), .val (.int (Int32.ofNat 2)), .val (.int r1), .val (.int r2), .val (.int r3), .val (.ref b), .val (.ref o), .val (.int r1), .val (.int r1)] [(.int (r1 - (1 : Int32))), (.ref o)])
    obtain ⟨cq21, kq21, q21a, q21b, q21c⟩ := isOf hZ e20 Ex
    obtain ⟨_, _, ⟨T21, L21, k21, n21⟩, -, X21, ⟨Lc21, hQ21, l21, y21, z21⟩, st21⟩ := X20.virtualBack hx (y := (⟨"com/example/chalk_outline/chalkoutline/Placement", "found", "(I)I"⟩ : MethodName)) (z := (⟨"com/example/chalk_outline/chalkoutline/Placement", "found", "(I)I"⟩ : MethodName)) hown (mvT hZ (hw _ (List.mem_of_getElem? (i := 27) rfl))) (mvT hZ (hw _ (List.mem_of_getElem? (i := 28) rfl))) (notFace_of_selects (args := #[]) (mvT hZ (hw _ (List.mem_of_getElem? (i := 30) rfl)))) (mvT hZ (hw _ (List.mem_of_getElem? (i := 30) rfl))) (mvT hZ (hw _ (List.mem_of_getElem? (i := 29) rfl))) (by decide) (backOf (W := 0) (rm5 l Z a0 hw [] o (r1 - (1 : Int32)) b 2 (own_g r1 r2 r3) T17.heap n0 (Nat.le_trans (Nat.le_trans (Nat.le_trans (Nat.le_trans (Nat.le_trans Z0 E13.1) (Keep.of_wr W14).1) (Keep.of_wr W15).1) E16.1) K17.1) Fr' Vb' (by decide)) hZ (hw _ (List.mem_of_getElem? (i := 31) rfl)) (hw _ (List.mem_of_getElem? (i := 5) rfl)) (by decide) (by decide)) q21a q21c (g := (mkF m 207 #[.val (.int p1), .val (.int p2), .val (.int p3), .val (.int p4), .val (.int (Int32.ofNat 2)), .val (.int r1), .val (.int r2), .val (.int r3), .val (.ref b), .val (.ref o), .val (.int r1), .val (.int r1)] [(.int (r1 - (1 : Int32))), (.ref o)])) rfl (by rw [hml]; rfl) (Steps.refl _) (argsL := [(.int (r1 - (1 : Int32)))]) (rest := []) (lenOf pd_3 rfl) rfl (by show 2 * 0 + _ ≤ _; exact Nat.le_of_eq rfl) (hb hby at_207) (fun _ _ => ⟨rfl, e20, (by decide : 2 + 0 ≤ _), (by decide : 5 + 0 ≤ _)⟩)
    dsimp only [Pt.U, Pt.locs, Pt.cells, Pt.slots] at X21 l21 y21 z21 st21 hQ21
    subst l21 y21 z21
    obtain ⟨rfl, N21q, e21⟩ := hQ21
    have N21 := Fr.app N20 N21q
    refine own_go (fun tz kz => st21.trans kz) ?_
    show own_Go p.tables e below _ T21 (mkF m 210 #[.val (.int p1), .val (.int p2), .val (.int p3), .val (.int p4), .val (.int (Int32.ofNat 2)), .val (.int r1), .val (.int r2), .val (.int r3), .val (.ref b), .val (.ref o), .val (.int r1), .val (.int r1)] [(.int (Int32.ofNat (own_fnd (own_g r1 r2 r3) (r1 - (1 : Int32)) 2 0)))])
    refine own_go (fun tz kz => XS.ifNo X21.here hx rfl (hb hby at_210) rfl (XT.i0_ne_f (own_f0 (own_g r1 r2 r3) (r1 - 1) 1 (own_pred_lt hr1))) kz) ?_
    show own_Go p.tables e below _ T21 (mkF m 213 #[.val (.int p1), .val (.int p2), .val (.int p3), .val (.int p4), .val (.int (Int32.ofNat 2)), .val (.int r1), .val (.int r2), .val (.int r3), .val (.ref b), .val (.ref o), .val (.int r1), .val (.int r1)] [])
    refine own_go (fun tz kz => XS.iconst X21.here hx rfl (hb hby at_213) kz) ?_
    show own_Go p.tables e below _ T21 (mkF m 214 #[.val (.int p1), .val (.int p2), .val (.int p3), .val (.int p4), .val (.int (Int32.ofNat 2)), .val (.int r1), .val (.int r2), .val (.int r3), .val (.ref b), .val (.ref o), .val (.int r1), .val (.int r1)] [(.int (1 : Int32))])
    refine own_go (fun tz kz => XS.goto X21.here hx rfl (pc0 := 214) (pc' := 218) rfl (hb hby at_214) (by decide) (by decide) kz) ?_
    show own_Go p.tables e below _ T21 (mkF m 218 #[.val (.int p1), .val (.int p2), .val (.int p3), .val (.int p4), .val (.int (Int32.ofNat 2)), .val (.int r1), .val (.int r2), .val (.int r3), .val (.ref b), .val (.ref o), .val (.int r1), .val (.int r1)] [(.int (1 : Int32))])
    obtain ⟨fs, hr, hrun, hended, hW, hsame⟩ := X21.leave (v := some (.int (1 : Int32))) (fun h => by rw [Bd.returns] at h; cases h)
    refine ⟨_, _, ?_, hrun, hended, _, _, rfl, ?_, ⟨_, rfl⟩, hW, hsame.mono (by decide) (by decide)⟩
    · exact retN X21 hx (t := .boolean) Bd.returns (by simp) (hb hby at_218) hr
    · show Q0 Z p1 p2 p3 p4 h0 n0 _ T21.heap _
      rw [e21]
      exact ⟨rfl, N21⟩
  ·
    show own_Go p.tables e below _ s₁ (mkF m 35 #[.val (.int p1), .val (.int p2), .val (.int p3), .val (.int p4), .val (.int (Int32.ofNat 3)), .val (.int r1), .val (.int r2), .val (.int r3), .unset, .unset, .unset, .unset] [])
    refine own_go (fun tz kz => XS.iload X0.here hx rfl (hb hby at_35) rfl kz) ?_
    show own_Go p.tables e below _ s₁ (mkF m 37 #[.val (.int p1), .val (.int p2), .val (.int p3), .val (.int p4), .val (.int (Int32.ofNat 3)), .val (.int r1), .val (.int r2), .val (.int r3), .unset, .unset, .unset, .unset] [(.int (Int32.ofNat 3))])
    obtain ⟨T22, h22, k22, X22, e22, E22, A22, st22⟩ := newP X0 hx hZ (hw _ (List.mem_of_getElem? (i := 2) rfl)) e0 (g := (mkF m 37 #[.val (.int p1), .val (.int p2), .val (.int p3), .val (.int p4), .val (.int (Int32.ofNat 3)), .val (.int r1), .val (.int r2), .val (.int r3), .unset, .unset, .unset, .unset] [(.int (Int32.ofNat 3))])) rfl (hb hby at_37) rfl (by decide) (cap := 3) (by decide) (by decide) (by decide) (by decide)
    obtain ⟨b, eq_b⟩ : ∃ z, z = (h0).size := ⟨_, rfl⟩
    rw [← eq_b] at A22 st22
    have g_b : n0 ≤ b := Nat.le_trans Z0 (Nat.le_of_eq eq_b.symm)
    have V_b : own_Av Z h22 b .int 3 (fun _ => .int 0) := own_Av.new A22 (by decide)
    refine own_go st22 ?_
    show own_Go p.tables e below _ T22 (mkF m 39 #[.val (.int p1), .val (.int p2), .val (.int p3), .val (.int p4), .val (.int (Int32.ofNat 3)), .val (.int r1), .val (.int r2), .val (.int r3), .unset, .unset, .unset, .unset] [(.ref b)])
    refine own_go (fun tz kz => XS.astore X22.here hx rfl (hb hby at_39) rfl rfl (l' := #[.val (.int p1), .val (.int p2), .val (.int p3), .val (.int p4), .val (.int (Int32.ofNat 3)), .val (.int r1), .val (.int r2), .val (.int r3), .val (.ref b), .unset, .unset, .unset]) rfl kz) ?_
    show own_Go p.tables e below _ T22 (mkF m 41 #[.val (.int p1), .val (.int p2), .val (.int p3), .val (.int p4), .val (.int (Int32.ofNat 3)), .val (.int r1), .val (.int r2), .val (.int r3), .val (.ref b), .unset, .unset, .unset] [])
    refine own_go (fun tz kz => XS.iload X22.here hx rfl (hb hby at_41) rfl kz) ?_
    show own_Go p.tables e below _ T22 (mkF m 43 #[.val (.int p1), .val (.int p2), .val (.int p3), .val (.int p4), .val (.int (Int32.ofNat 3)), .val (.int r1), .val (.int r2), .val (.int r3), .val (.ref b), .unset, .unset, .unset] [(.int (Int32.ofNat 3))])
    refine own_go (fun tz kz => XS.iconst X22.here hx rfl (hb hby at_43) kz) ?_
    show own_Go p.tables e below _ T22 (mkF m 44 #[.val (.int p1), .val (.int p2), .val (.int p3), .val (.int p4), .val (.int (Int32.ofNat 3)), .val (.int r1), .val (.int r2), .val (.int r3), .val (.ref b), .unset, .unset, .unset] [(.int (1 : Int32)), (.int (Int32.ofNat 3))])
    refine own_go (fun tz kz => XS.icmpNo X22.here hx rfl (hb hby at_44) rfl (XT.ii_lt_f (by decide)) kz) ?_
    show own_Go p.tables e below _ T22 (mkF m 47 #[.val (.int p1), .val (.int p2), .val (.int p3), .val (.int p4), .val (.int (Int32.ofNat 3)), .val (.int r1), .val (.int r2), .val (.int r3), .val (.ref b), .unset, .unset, .unset] [])
    refine own_go (fun tz kz => XS.aload X22.here hx rfl (hb hby at_47) rfl rfl kz) ?_
    show own_Go p.tables e below _ T22 (mkF m 49 #[.val (.int p1), .val (.int p2), .val (.int p3), .val (.int p4), .val (.int (Int32.ofNat 3)), .val (.int r1), .val (.int r2), .val (.int r3), .val (.ref b), .unset, .unset, .unset] [(.ref b)])
    refine own_go (fun tz kz => XS.iconst X22.here hx rfl (hb hby at_49) kz) ?_
    show own_Go p.tables e below _ T22 (mkF m 50 #[.val (.int p1), .val (.int p2), .val (.int p3), .val (.int p4), .val (.int (Int32.ofNat 3)), .val (.int r1), .val (.int r2), .val (.int r3), .val (.ref b), .unset, .unset, .unset] [(.int (0 : Int32)), (.ref b)])
    refine own_go (fun tz kz => XS.iload X22.here hx rfl (hb hby at_50) rfl kz) ?_
    show own_Go p.tables e below _ T22 (mkF m 52 #[.val (.int p1), .val (.int p2), .val (.int p3), .val (.int p4), .val (.int (Int32.ofNat 3)), .val (.int r1), .val (.int r2), .val (.int r3), .val (.ref b), .unset, .unset, .unset] [(.int r1), (.int (0 : Int32)), (.ref b)])
    obtain ⟨c23, Ar23, Sz23, Ge23⟩ := id (V_b)
    obtain ⟨T23, h23, X23, e23, W23, st23⟩ := stI X22 hx hZ e22 Ar23 (j := (0 : Int32)) (own_inb (i := 0) Sz23 ⟨by decide, by decide⟩ (by decide)) (g := (mkF m 52 #[.val (.int p1), .val (.int p2), .val (.int p3), .val (.int p4), .val (.int (Int32.ofNat 3)), .val (.int r1), .val (.int r2), .val (.int r3), .val (.ref b), .unset, .unset, .unset] [(.int r1), (.int (0 : Int32)), (.ref b)])) rfl rfl (hb hby at_52)
    have V0 := own_Av.set (V_b) W23 (⟨by decide, by decide⟩ : ¬ (0 : Int32) < 0 ∧ ((0 : Int32)).toNatClampNeg = 0).2
    have N23 := Fr.snoc X23 N0 g_b
    refine own_go st23 ?_
    show own_Go p.tables e below _ T23 (mkF m 53 #[.val (.int p1), .val (.int p2), .val (.int p3), .val (.int p4), .val (.int (Int32.ofNat 3)), .val (.int r1), .val (.int r2), .val (.int r3), .val (.ref b), .unset, .unset, .unset] [])
    refine own_go (fun tz kz => XS.iload X23.here hx rfl (hb hby at_53) rfl kz) ?_
    show own_Go p.tables e below _ T23 (mkF m 55 #[.val (.int p1), .val (.int p2), .val (.int p3), .val (.int p4), .val (.int (Int32.ofNat 3)), .val (.int r1), .val (.int r2), .val (.int r3), .val (.ref b), .unset, .unset, .unset] [(.int (Int32.ofNat 3))])
    refine own_go (fun tz kz => XS.iconst X23.here hx rfl (hb hby at_55) kz) ?_
    show own_Go p.tables e below _ T23 (mkF m 56 #[.val (.int p1), .val (.int p2), .val (.int p3), .val (.int p4), .val (.int (Int32.ofNat 3)), .val (.int r1), .val (.int r2), .val (.int r3), .val (.ref b), .unset, .unset, .unset] [(.int (2 : Int32)), (.int (Int32.ofNat 3))])
    refine own_go (fun tz kz => XS.icmpNo X23.here hx rfl (hb hby at_56) rfl (XT.ii_lt_f (by decide)) kz) ?_
    show own_Go p.tables e below _ T23 (mkF m 59 #[.val (.int p1), .val (.int p2), .val (.int p3), .val (.int p4), .val (.int (Int32.ofNat 3)), .val (.int r1), .val (.int r2), .val (.int r3), .val (.ref b), .unset, .unset, .unset] [])
    refine own_go (fun tz kz => XS.aload X23.here hx rfl (hb hby at_59) rfl rfl kz) ?_
    show own_Go p.tables e below _ T23 (mkF m 61 #[.val (.int p1), .val (.int p2), .val (.int p3), .val (.int p4), .val (.int (Int32.ofNat 3)), .val (.int r1), .val (.int r2), .val (.int r3), .val (.ref b), .unset, .unset, .unset] [(.ref b)])
    refine own_go (fun tz kz => XS.iconst X23.here hx rfl (hb hby at_61) kz) ?_
    show own_Go p.tables e below _ T23 (mkF m 62 #[.val (.int p1), .val (.int p2), .val (.int p3), .val (.int p4), .val (.int (Int32.ofNat 3)), .val (.int r1), .val (.int r2), .val (.int r3), .val (.ref b), .unset, .unset, .unset] [(.int (1 : Int32)), (.ref b)])
    refine own_go (fun tz kz => XS.iload X23.here hx rfl (hb hby at_62) rfl kz) ?_
    show own_Go p.tables e below _ T23 (mkF m 64 #[.val (.int p1), .val (.int p2), .val (.int p3), .val (.int p4), .val (.int (Int32.ofNat 3)), .val (.int r1), .val (.int r2), .val (.int r3), .val (.ref b), .unset, .unset, .unset] [(.int r2), (.int (1 : Int32)), (.ref b)])
    obtain ⟨c24, Ar24, Sz24, Ge24⟩ := id (V0)
    obtain ⟨T24, h24, X24, e24, W24, st24⟩ := stI X23 hx hZ e23 Ar24 (j := (1 : Int32)) (own_inb (i := 1) Sz24 ⟨by decide, by decide⟩ (by decide)) (g := (mkF m 64 #[.val (.int p1), .val (.int p2), .val (.int p3), .val (.int p4), .val (.int (Int32.ofNat 3)), .val (.int r1), .val (.int r2), .val (.int r3), .val (.ref b), .unset, .unset, .unset] [(.int r2), (.int (1 : Int32)), (.ref b)])) rfl rfl (hb hby at_64)
    have V1 := own_Av.set (V0) W24 (⟨by decide, by decide⟩ : ¬ (1 : Int32) < 0 ∧ ((1 : Int32)).toNatClampNeg = 1).2
    have N24 := Fr.snoc X24 N23 g_b
    refine own_go st24 ?_
    show own_Go p.tables e below _ T24 (mkF m 65 #[.val (.int p1), .val (.int p2), .val (.int p3), .val (.int p4), .val (.int (Int32.ofNat 3)), .val (.int r1), .val (.int r2), .val (.int r3), .val (.ref b), .unset, .unset, .unset] [])
    refine own_go (fun tz kz => XS.iload X24.here hx rfl (hb hby at_65) rfl kz) ?_
    show own_Go p.tables e below _ T24 (mkF m 67 #[.val (.int p1), .val (.int p2), .val (.int p3), .val (.int p4), .val (.int (Int32.ofNat 3)), .val (.int r1), .val (.int r2), .val (.int r3), .val (.ref b), .unset, .unset, .unset] [(.int (Int32.ofNat 3))])
    refine own_go (fun tz kz => XS.iconst X24.here hx rfl (hb hby at_67) kz) ?_
    show own_Go p.tables e below _ T24 (mkF m 68 #[.val (.int p1), .val (.int p2), .val (.int p3), .val (.int p4), .val (.int (Int32.ofNat 3)), .val (.int r1), .val (.int r2), .val (.int r3), .val (.ref b), .unset, .unset, .unset] [(.int (3 : Int32)), (.int (Int32.ofNat 3))])
    refine own_go (fun tz kz => XS.icmpNo X24.here hx rfl (hb hby at_68) rfl (XT.ii_lt_f (by decide)) kz) ?_
    show own_Go p.tables e below _ T24 (mkF m 71 #[.val (.int p1), .val (.int p2), .val (.int p3), .val (.int p4), .val (.int (Int32.ofNat 3)), .val (.int r1), .val (.int r2), .val (.int r3), .val (.ref b), .unset, .unset, .unset] [])
    refine own_go (fun tz kz => XS.aload X24.here hx rfl (hb hby at_71) rfl rfl kz) ?_
    show own_Go p.tables e below _ T24 (mkF m 73 #[.val (.int p1), .val (.int p2), .val (.int p3), .val (.int p4), .val (.int (Int32.ofNat 3)), .val (.int r1), .val (.int r2), .val (.int r3), .val (.ref b), .unset, .unset, .unset] [(.ref b)])
    refine own_go (fun tz kz => XS.iconst X24.here hx rfl (hb hby at_73) kz) ?_
    show own_Go p.tables e below _ T24 (mkF m 74 #[.val (.int p1), .val (.int p2), .val (.int p3), .val (.int p4), .val (.int (Int32.ofNat 3)), .val (.int r1), .val (.int r2), .val (.int r3), .val (.ref b), .unset, .unset, .unset] [(.int (2 : Int32)), (.ref b)])
    refine own_go (fun tz kz => XS.iload X24.here hx rfl (hb hby at_74) rfl kz) ?_
    show own_Go p.tables e below _ T24 (mkF m 76 #[.val (.int p1), .val (.int p2), .val (.int p3), .val (.int p4), .val (.int (Int32.ofNat 3)), .val (.int r1), .val (.int r2), .val (.int r3), .val (.ref b), .unset, .unset, .unset] [(.int r3), (.int (2 : Int32)), (.ref b)])
    obtain ⟨c25, Ar25, Sz25, Ge25⟩ := id (V1)
    obtain ⟨T25, h25, X25, e25, W25, st25⟩ := stI X24 hx hZ e24 Ar25 (j := (2 : Int32)) (own_inb (i := 2) Sz25 ⟨by decide, by decide⟩ (by decide)) (g := (mkF m 76 #[.val (.int p1), .val (.int p2), .val (.int p3), .val (.int p4), .val (.int (Int32.ofNat 3)), .val (.int r1), .val (.int r2), .val (.int r3), .val (.ref b), .unset, .unset, .unset] [(.int r3), (.int (2 : Int32)), (.ref b)])) rfl rfl (hb hby at_76)
    have V2 := own_Av.set (V1) W25 (⟨by decide, by decide⟩ : ¬ (2 : Int32) < 0 ∧ ((2 : Int32)).toNatClampNeg = 2).2
    have N25 := Fr.snoc X25 N24 g_b
    refine own_go st25 ?_
    show own_Go p.tables e below _ T25 (mkF m 77 #[.val (.int p1), .val (.int p2), .val (.int p3), .val (.int p4), .val (.int (Int32.ofNat 3)), .val (.int r1), .val (.int r2), .val (.int r3), .val (.ref b), .unset, .unset, .unset] [])
    have Vb : own_Av Z h25 b .int 3 (fun k => .int (own_g r1 r2 r3 k)) := own_Av.eq V2 (fun k hk => by rcases (by omega : k = 0 ∨ k = 1 ∨ k = 2) with rfl | rfl | rfl <;> rfl)
    obtain ⟨T26, h26, X26, e26, E26, A26, D26, -, st26⟩ := newO X25 hx hZ hown (hw _ (List.mem_of_getElem? (i := 3) rfl)) (hw _ (List.mem_of_getElem? (i := 4) rfl)) (hw _ (List.mem_of_getElem? (i := 5) rfl)) e25 (g := (mkF m 77 #[.val (.int p1), .val (.int p2), .val (.int p3), .val (.int p4), .val (.int (Int32.ofNat 3)), .val (.int r1), .val (.int r2), .val (.int r3), .val (.ref b), .unset, .unset, .unset] [])) rfl (hb hby at_77) (by decide) (by decide)
    obtain ⟨o, eq_o⟩ : ∃ z, z = (h25).size := ⟨_, rfl⟩
    rw [← eq_o] at A26 D26 st26
    have g_o : n0 ≤ o := Nat.le_trans (Nat.le_trans (Nat.le_trans (Nat.le_trans (Nat.le_trans Z0 E22.1) (Keep.of_wr W23).1) (Keep.of_wr W24).1) (Keep.of_wr W25).1) (Nat.le_of_eq eq_o.symm)
    have F_ranks_o : Fld Z h26 o "com/example/chalk_outline/chalkoutline/Placement" "ranks" "[I" .null := D26 (Or.inr (hw _ (List.mem_of_getElem? (i := 18) rfl))) (ty := (.array .int)) (by decide)
    have F_relevant_o : Fld Z h26 o "com/example/chalk_outline/chalkoutline/Placement" "relevant" "I" (.int (0 : Int32)) := D26 (Or.inr (hw _ (List.mem_of_getElem? (i := 20) rfl))) (ty := .int) (by decide)
    refine own_go st26 ?_
    show own_Go p.tables e below _ T26 (mkF m 80 #[.val (.int p1), .val (.int p2), .val (.int p3), .val (.int p4), .val (.int (Int32.ofNat 3)), .val (.int r1), .val (.int r2), .val (.int r3), .val (.ref b), .unset, .unset, .unset] [(.ref o)])
    refine own_go (fun tz kz => XS.dup X26.here hx rfl (hb hby at_80) rfl rfl kz) ?_
    show own_Go p.tables e below _ T26 (mkF m 81 #[.val (.int p1), .val (.int p2), .val (.int p3), .val (.int p4), .val (.int (Int32.ofNat 3)), .val (.int r1), .val (.int r2), .val (.int r3), .val (.ref b), .unset, .unset, .unset] [(.ref o), (.ref o)])
    refine own_go (fun tz kz => XS.aload X26.here hx rfl (hb hby at_81) rfl rfl kz) ?_
    show own_Go p.tables e below _ T26 (mkF m 83 #[.val (.int p1), .val (.int p2), .val (.int p3), .val (.int p4), .val (.int (Int32.ofNat 3)), .val (.int r1), .val (.int r2), .val (.int r3), .val (.ref b), .unset, .unset, .unset] [(.ref b), (.ref o), (.ref o)])
    refine own_go (fun tz kz => XS.iload X26.here hx rfl (hb hby at_83) rfl kz) ?_
    show own_Go p.tables e below _ T26 (mkF m 85 #[.val (.int p1), .val (.int p2), .val (.int p3), .val (.int p4), .val (.int (Int32.ofNat 3)), .val (.int r1), .val (.int r2), .val (.int r3), .val (.ref b), .unset, .unset, .unset] [(.int (Int32.ofNat 3)), (.ref b), (.ref o), (.ref o)])
    refine own_go (fun tz kz => XS.iloadN X26.here hx rfl (hb hby at_85) rfl kz) ?_
    show own_Go p.tables e below _ T26 (mkF m 86 #[.val (.int p1), .val (.int p2), .val (.int p3), .val (.int p4), .val (.int (Int32.ofNat 3)), .val (.int r1), .val (.int r2), .val (.int r3), .val (.ref b), .unset, .unset, .unset] [(.int p1), (.int (Int32.ofNat 3)), (.ref b), (.ref o), (.ref o)])
    refine own_go (fun tz kz => XS.iconst X26.here hx rfl (hb hby at_86) kz) ?_
    show own_Go p.tables e below _ T26 (mkF m 87 #[.val (.int p1), .val (.int p2), .val (.int p3), .val (.int p4), .val (.int (Int32.ofNat 3)), .val (.int r1), .val (.int r2), .val (.int r3), .val (.ref b), .unset, .unset, .unset] [(.int (2 : Int32)), (.int p1), (.int (Int32.ofNat 3)), (.ref b), (.ref o), (.ref o)])
    refine own_go (fun tz kz => XT.iushr X26.here hx rfl (hb hby at_87) rfl kz) ?_
    show own_Go p.tables e below _ T26 (mkF m 88 #[.val (.int p1), .val (.int p2), .val (.int p3), .val (.int p4), .val (.int (Int32.ofNat 3)), .val (.int r1), .val (.int r2), .val (.int r3), .val (.ref b), .unset, .unset, .unset] [(.int (XT.ushr p1 (2 : Int32))), (.int (Int32.ofNat 3)), (.ref b), (.ref o), (.ref o)])
    refine own_go (fun tz kz => XS.bipush X26.here hx rfl (hb hby at_88) kz) ?_
    show own_Go p.tables e below _ T26 (mkF m 90 #[.val (.int p1), .val (.int p2), .val (.int p3), .val (.int p4), .val (.int (Int32.ofNat 3)), .val (.int r1), .val (.int r2), .val (.int r3), .val (.ref b), .unset, .unset, .unset] [(.int (7 : Int32)), (.int (XT.ushr p1 (2 : Int32))), (.int (Int32.ofNat 3)), (.ref b), (.ref o), (.ref o)])
    refine own_go (fun tz kz => XS.iand X26.here hx rfl (hb hby at_90) rfl kz) ?_
    show own_Go p.tables e below _ T26 (mkF m 91 #[.val (.int p1), .val (.int p2), .val (.int p3), .val (.int p4), .val (.int (Int32.ofNat 3)), .val (.int r1), .val (.int r2), .val (.int r3), .val (.ref b), .unset, .unset, .unset] [(.int ((XT.ushr p1 (2 : Int32)) &&& (7 : Int32))), (.int (Int32.ofNat 3)), (.ref b), (.ref o), (.ref o)])
    refine own_go (fun tz kz => XS.iadd X26.here hx rfl (hb hby at_91) rfl kz) ?_
    show own_Go p.tables e below _ T26 (mkF m 92 #[.val (.int p1), .val (.int p2), .val (.int p3), .val (.int p4), .val (.int (Int32.ofNat 3)), .val (.int r1), .val (.int r2), .val (.int r3), .val (.ref b), .unset, .unset, .unset] [(.int ((Int32.ofNat 3) + ((XT.ushr p1 (2 : Int32)) &&& (7 : Int32)))), (.ref b), (.ref o), (.ref o)])
    obtain ⟨_, _, ⟨T27, L27, k27, n27⟩, -, X27, ⟨Lc27, hQ27, l27, y27, z27⟩, st27⟩ := X26.specialBack hx (y := (⟨"com/example/chalk_outline/chalkoutline/Placement", "<init>", "([II)V"⟩ : MethodName)) rfl hown (mvT hZ (hw _ (List.mem_of_getElem? (i := 6) rfl))) (mvT hZ (hw _ (List.mem_of_getElem? (i := 7) rfl))) (mvT hZ (hw _ (List.mem_of_getElem? (i := 8) rfl))) (by decide) (backOf (W := 1) (rm1 l Z a0 hw [] o b ((Int32.ofNat 3) + ((XT.ushr p1 (2 : Int32)) &&& (7 : Int32))) _ _ h26 n0 (Nat.le_trans (Nat.le_trans (Nat.le_trans (Nat.le_trans (Nat.le_trans Z0 E22.1) (Keep.of_wr W23).1) (Keep.of_wr W24).1) (Keep.of_wr W25).1) E26.1) F_ranks_o F_relevant_o A26 g_o) hZ (hw _ (List.mem_of_getElem? (i := 8) rfl)) (hw _ (List.mem_of_getElem? (i := 5) rfl)) (by decide) (by decide)) (g := (mkF m 92 #[.val (.int p1), .val (.int p2), .val (.int p3), .val (.int p4), .val (.int (Int32.ofNat 3)), .val (.int r1), .val (.int r2), .val (.int r3), .val (.ref b), .unset, .unset, .unset] [(.int ((Int32.ofNat 3) + ((XT.ushr p1 (2 : Int32)) &&& (7 : Int32)))), (.ref b), (.ref o), (.ref o)])) rfl (by rw [hml]; rfl) (Steps.refl _) (a := o) (argsL := [(.ref b), (.int ((Int32.ofNat 3) + ((XT.ushr p1 (2 : Int32)) &&& (7 : Int32))))]) (rest := [(.ref o)]) (lenOf pd_1 rfl) rfl (by show 2 * 0 + _ ≤ _; exact Nat.le_of_eq rfl) (hb hby at_92) (fun _ _ => ⟨rfl, e26, (by decide : 2 + 0 ≤ _), (by decide : 5 + 0 ≤ _)⟩)
    dsimp only [Pt.U, Pt.locs, Pt.cells, Pt.slots] at X27 l27 y27 z27 st27 hQ27
    subst l27 y27 z27
    obtain ⟨rfl, N27q, K27, Ex, Fr', Fe⟩ := hQ27
    have N27 := Fr.app N25 N27q
    refine own_go (fun tz kz => st27.trans kz) ?_
    show own_Go p.tables e below _ T27 (mkF m 95 #[.val (.int p1), .val (.int p2), .val (.int p3), .val (.int p4), .val (.int (Int32.ofNat 3)), .val (.int r1), .val (.int r2), .val (.int r3), .val (.ref b), .unset, .unset, .unset] [(.ref o)])
    have Vb' := own_Av.keep (Vb.ext E26) K27 (own_not1 (Nat.ne_of_lt (Nat.lt_of_lt_of_le Vb.lt (Nat.le_of_eq eq_o.symm))))
    refine own_go (fun tz kz => XS.astore X27.here hx rfl (hb hby at_95) rfl rfl (l' := #[.val (.int p1), .val (.int p2), .val (.int p3), .val (.int p4), .val (.int (Int32.ofNat 3)), .val (.int r1), .val (.int r2), .val (.int r3), .val (.ref b), .val (.ref o), .unset, .unset]) rfl kz) ?_
    show own_Go p.tables e below _ T27 (mkF m 97 #[.val (.int p1), .val (.int p2), .val (.int p3), .val (.int p4), .val (.int (Int32.ofNat 3)), .val (.int r1), .val (.int r2), .val (.int r3), .val (.ref b), .val (.ref o), .unset, .unset] [])
    refine own_go (fun tz kz => XS.aload X27.here hx rfl (hb hby at_97) rfl rfl kz) ?_
    show own_Go p.tables e below _ T27 (mkF m 99 #[.val (.int p1), .val (.int p2), .val (.int p3), .val (.int p4), .val (.int (Int32.ofNat 3)), .val (.int r1), .val (.int r2), .val (.int r3), .val (.ref b), .val (.ref o), .unset, .unset] [(.ref o)])
    obtain ⟨cq28, kq28, q28a, q28b, q28c⟩ := isOf hZ rfl Ex
    obtain ⟨_, _, ⟨T28, L28, k28, n28⟩, -, X28, ⟨Lc28, hQ28, l28, y28, z28⟩, st28⟩ := X27.virtualBack hx (y := (⟨"com/example/chalk_outline/chalkoutline/Placement", "first", "()I"⟩ : MethodName)) (z := (⟨"com/example/chalk_outline/chalkoutline/Placement", "first", "()I"⟩ : MethodName)) hown (mvT hZ (hw _ (List.mem_of_getElem? (i := 21) rfl))) (mvT hZ (hw _ (List.mem_of_getElem? (i := 22) rfl))) (notFace_of_selects (args := #[]) (mvT hZ (hw _ (List.mem_of_getElem? (i := 24) rfl)))) (mvT hZ (hw _ (List.mem_of_getElem? (i := 24) rfl))) (mvT hZ (hw _ (List.mem_of_getElem? (i := 23) rfl))) (by decide) (backOf (W := 0) (rm4 l Z a0 hw [] o b 3 (own_g r1 r2 r3) T27.heap n0 (Nat.le_trans (Nat.le_trans (Nat.le_trans (Nat.le_trans (Nat.le_trans (Nat.le_trans Z0 E22.1) (Keep.of_wr W23).1) (Keep.of_wr W24).1) (Keep.of_wr W25).1) E26.1) K27.1) Fr' Vb' (by decide)) hZ (hw _ (List.mem_of_getElem? (i := 25) rfl)) (hw _ (List.mem_of_getElem? (i := 5) rfl)) (by decide) (by decide)) q28a q28c (g := (mkF m 99 #[.val (.int p1), .val (.int p2), .val (.int p3), .val (.int p4), .val (.int (Int32.ofNat 3)), .val (.int r1), .val (.int r2), .val (.int r3), .val (.ref b), .val (.ref o), .unset, .unset] [(.ref o)])) rfl (by rw [hml]; rfl) (Steps.refl _) (argsL := []) (rest := []) (lenOf pd_2 rfl) rfl (by show 2 * 0 + _ ≤ _; exact Nat.le_of_eq rfl) (hb hby at_99) (fun _ _ => ⟨rfl, rfl, (by decide : 2 + 0 ≤ _), (by decide : 5 + 0 ≤ _)⟩)
    dsimp only [Pt.U, Pt.locs, Pt.cells, Pt.slots] at X28 l28 y28 z28 st28 hQ28
    subst l28 y28 z28
    obtain ⟨rfl, N28q, e28⟩ := hQ28
    have N28 := Fr.app N27 N28q
    refine own_go (fun tz kz => st28.trans kz) ?_
    show own_Go p.tables e below _ T28 (mkF m 102 #[.val (.int p1), .val (.int p2), .val (.int p3), .val (.int p4), .val (.int (Int32.ofNat 3)), .val (.int r1), .val (.int r2), .val (.int r3), .val (.ref b), .val (.ref o), .unset, .unset] [(.int (if Int32.ofNat 3 = 0 then 0 else (own_g r1 r2 r3) 0))])
    show own_Go p.tables e below _ T28 (mkF m 102 #[.val (.int p1), .val (.int p2), .val (.int p3), .val (.int p4), .val (.int (Int32.ofNat 3)), .val (.int r1), .val (.int r2), .val (.int r3), .val (.ref b), .val (.ref o), .unset, .unset] [(.int r1)])
    refine own_go (fun tz kz => XS.istore X28.here hx rfl (hb hby at_102) rfl (l' := #[.val (.int p1), .val (.int p2), .val (.int p3), .val (.int p4), .val (.int (Int32.ofNat 3)), .val (.int r1), .val (.int r2), .val (.int r3), .val (.ref b), .val (.ref o), .val (.int r1), .unset]) rfl kz) ?_
    show own_Go p.tables e below _ T28 (mkF m 104 #[.val (.int p1), .val (.int p2), .val (.int p3), .val (.int p4), .val (.int (Int32.ofNat 3)), .val (.int r1), .val (.int r2), .val (.int r3), .val (.ref b), .val (.ref o), .val (.int r1), .unset] [])
    refine own_go (fun tz kz => XS.iload X28.here hx rfl (hb hby at_104) rfl kz) ?_
    show own_Go p.tables e below _ T28 (mkF m 106 #[.val (.int p1), .val (.int p2), .val (.int p3), .val (.int p4), .val (.int (Int32.ofNat 3)), .val (.int r1), .val (.int r2), .val (.int r3), .val (.ref b), .val (.ref o), .val (.int r1), .unset] [(.int (Int32.ofNat 3))])
    refine own_go (fun tz kz => XS.ifYes X28.here hx rfl (pc0 := 106) (pc' := 115) rfl (hb hby at_106) rfl (XT.i0_ne_t (by decide)) (by decide) (by decide) kz) ?_
    show own_Go p.tables e below _ T28 (mkF m 115 #[.val (.int p1), .val (.int p2), .val (.int p3), .val (.int p4), .val (.int (Int32.ofNat 3)), .val (.int r1), .val (.int r2), .val (.int r3), .val (.ref b), .val (.ref o), .val (.int r1), .unset] [])
    refine own_go (fun tz kz => XS.iload X28.here hx rfl (hb hby at_115) rfl kz) ?_
    show own_Go p.tables e below _ T28 (mkF m 117 #[.val (.int p1), .val (.int p2), .val (.int p3), .val (.int p4), .val (.int (Int32.ofNat 3)), .val (.int r1), .val (.int r2), .val (.int r3), .val (.ref b), .val (.ref o), .val (.int r1), .unset] [(.int (Int32.ofNat 3))])
    refine own_go (fun tz kz => XS.iconst X28.here hx rfl (hb hby at_117) kz) ?_
    show own_Go p.tables e below _ T28 (mkF m 118 #[.val (.int p1), .val (.int p2), .val (.int p3), .val (.int p4), .val (.int (Int32.ofNat 3)), .val (.int r1), .val (.int r2), .val (.int r3), .val (.ref b), .val (.ref o), .val (.int r1), .unset] [(.int (1 : Int32)), (.int (Int32.ofNat 3))])
    refine own_go (fun tz kz => XS.icmpYes X28.here hx rfl (pc0 := 118) (pc' := 128) rfl (hb hby at_118) rfl (XT.ii_ne_t (by decide)) (by decide) (by decide) kz) ?_
    show own_Go p.tables e below _ T28 (mkF m 128 #[.val (.int p1), .val (.int p2), .val (.int p3), .val (.int p4), .val (.int (Int32.ofNat 3)), .val (.int r1), .val (.int r2), .val (.int r3), .val (.ref b), .val (.ref o), .val (.int r1), .unset] [])
    refine own_go (fun tz kz => XS.iload X28.here hx rfl (hb hby at_128) rfl kz) ?_
    show own_Go p.tables e below _ T28 (mkF m 130 #[.val (.int p1), .val (.int p2), .val (.int p3), .val (.int p4), .val (.int (Int32.ofNat 3)), .val (.int r1), .val (.int r2), .val (.int r3), .val (.ref b), .val (.ref o), .val (.int r1), .unset] [(.int (Int32.ofNat 3))])
    refine own_go (fun tz kz => XS.iconst X28.here hx rfl (hb hby at_130) kz) ?_
    show own_Go p.tables e below _ T28 (mkF m 131 #[.val (.int p1), .val (.int p2), .val (.int p3), .val (.int p4), .val (.int (Int32.ofNat 3)), .val (.int r1), .val (.int r2), .val (.int r3), .val (.ref b), .val (.ref o), .val (.int r1), .unset] [(.int (2 : Int32)), (.int (Int32.ofNat 3))])
    refine own_go (fun tz kz => XS.icmpYes X28.here hx rfl (pc0 := 131) (pc' := 146) rfl (hb hby at_131) rfl (XT.ii_ne_t (by decide)) (by decide) (by decide) kz) ?_
    show own_Go p.tables e below _ T28 (mkF m 146 #[.val (.int p1), .val (.int p2), .val (.int p3), .val (.int p4), .val (.int (Int32.ofNat 3)), .val (.int r1), .val (.int r2), .val (.int r3), .val (.ref b), .val (.ref o), .val (.int r1), .unset] [])
    refine own_go (fun tz kz => XS.iload X28.here hx rfl (hb hby at_146) rfl kz) ?_
    show own_Go p.tables e below _ T28 (mkF m 148 #[.val (.int p1), .val (.int p2), .val (.int p3), .val (.int p4), .val (.int (Int32.ofNat 3)), .val (.int r1), .val (.int r2), .val (.int r3), .val (.ref b), .val (.ref o), .val (.int r1), .unset] [(.int r1)])
    refine own_go (fun tz kz => XS.iload X28.here hx rfl (hb hby at_148) rfl kz) ?_
    show own_Go p.tables e below _ T28 (mkF m 150 #[.val (.int p1), .val (.int p2), .val (.int p3), .val (.int p4), .val (.int (Int32.ofNat 3)), .val (.int r1), .val (.int r2), .val (.int r3), .val (.ref b), .val (.ref o), .val (.int r1), .unset] [(.int r2), (.int r1)])
    obtain ⟨_, _, ⟨T29, L29, k29, n29⟩, -, X29, ⟨Lc29, hQ29, l29, y29, z29⟩, st29⟩ := Jvm.LawKit.callS X28 hx (y := (⟨"java/lang/Math", "min", "(II)I"⟩ : MethodName)) hown (mvT hZ (hw _ (List.mem_of_getElem? (i := 32) rfl))) (mvT hZ (hw _ (List.mem_of_getElem? (i := 33) rfl))) (mvT hZ (hw _ (List.mem_of_getElem? (i := 34) rfl))) (mvT hZ (hw _ (List.mem_of_getElem? (i := 35) rfl))) (by decide) (backOf (W := 0) (rm6 l Z a0 hw [] r1 r2 T27.heap n0 (Nat.le_trans (Nat.le_trans (Nat.le_trans (Nat.le_trans (Nat.le_trans (Nat.le_trans Z0 E22.1) (Keep.of_wr W23).1) (Keep.of_wr W24).1) (Keep.of_wr W25).1) E26.1) K27.1)) hZ (hw _ (List.mem_of_getElem? (i := 35) rfl)) (hw _ (List.mem_of_getElem? (i := 34) rfl)) (by decide) (by decide)) (g := (mkF m 150 #[.val (.int p1), .val (.int p2), .val (.int p3), .val (.int p4), .val (.int (Int32.ofNat 3)), .val (.int r1), .val (.int r2), .val (.int r3), .val (.ref b), .val (.ref o), .val (.int r1), .unset] [(.int r2), (.int r1)])) rfl (by rw [hml]; rfl) (argsL := [(.int r1), (.int r2)]) (rest := []) (lenOf pd_4 rfl) rfl (by show 2 * 0 + _ ≤ _; exact Nat.le_of_eq rfl) (hb hby at_150) (fun _ _ => ⟨rfl, e28, (by decide : 2 + 0 ≤ _), (by decide : 5 + 0 ≤ _)⟩)
    dsimp only [Pt.U, Pt.locs, Pt.cells, Pt.slots] at X29 l29 y29 z29 st29 hQ29
    subst l29 y29 z29
    obtain ⟨rfl, N29q, e29⟩ := hQ29
    have N29 := Fr.app N28 N29q
    refine own_go (fun tz kz => st29 tz kz) ?_
    show own_Go p.tables e below _ T29 (mkF m 153 #[.val (.int p1), .val (.int p2), .val (.int p3), .val (.int p4), .val (.int (Int32.ofNat 3)), .val (.int r1), .val (.int r2), .val (.int r3), .val (.ref b), .val (.ref o), .val (.int r1), .unset] [(.int (if r2 < r1 then r2 else r1))])
    rw [show (if r2 < r1 then r2 else r1) = r1 from if_neg (own_asym hr12)]
    show own_Go p.tables e below _ T29 (mkF m 153 #[.val (.int p1), .val (.int p2), .val (.int p3), .val (.int p4), .val (.int (Int32.ofNat 3)), .val (.int r1), .val (.int r2), .val (.int r3), .val (.ref b), .val (.ref o), .val (.int r1), .unset] [(.int r1)])
    refine own_go (fun tz kz => XS.iload X29.here hx rfl (hb hby at_153) rfl kz) ?_
    show own_Go p.tables e below _ T29 (mkF m 155 #[.val (.int p1), .val (.int p2), .val (.int p3), .val (.int p4), .val (.int (Int32.ofNat 3)), .val (.int r1), .val (.int r2), .val (.int r3), .val (.ref b), .val (.ref o), .val (.int r1), .unset] [(.int r3), (.int r1)])
    obtain ⟨_, _, ⟨T30, L30, k30, n30⟩, -, X30, ⟨Lc30, hQ30, l30, y30, z30⟩, st30⟩ := Jvm.LawKit.callS X29 hx (y := (⟨"java/lang/Math", "min", "(II)I"⟩ : MethodName)) hown (mvT hZ (hw _ (List.mem_of_getElem? (i := 32) rfl))) (mvT hZ (hw _ (List.mem_of_getElem? (i := 33) rfl))) (mvT hZ (hw _ (List.mem_of_getElem? (i := 34) rfl))) (mvT hZ (hw _ (List.mem_of_getElem? (i := 35) rfl))) (by decide) (backOf (W := 0) (rm6 l Z a0 hw [] r1 r3 T27.heap n0 (Nat.le_trans (Nat.le_trans (Nat.le_trans (Nat.le_trans (Nat.le_trans (Nat.le_trans Z0 E22.1) (Keep.of_wr W23).1) (Keep.of_wr W24).1) (Keep.of_wr W25).1) E26.1) K27.1)) hZ (hw _ (List.mem_of_getElem? (i := 35) rfl)) (hw _ (List.mem_of_getElem? (i := 34) rfl)) (by decide) (by decide)) (g := (mkF m 155 #[.val (.int p1), .val (.int p2), .val (.int p3), .val (.int p4), .val (.int (Int32.ofNat 3)), .val (.int r1), .val (.int r2), .val (.int r3), .val (.ref b), .val (.ref o), .val (.int r1), .unset] [(.int r3), (.int r1)])) rfl (by rw [hml]; rfl) (argsL := [(.int r1), (.int r3)]) (rest := []) (lenOf pd_4 rfl) rfl (by show 2 * 0 + _ ≤ _; exact Nat.le_of_eq rfl) (hb hby at_155) (fun _ _ => ⟨rfl, e29, (by decide : 2 + 0 ≤ _), (by decide : 5 + 0 ≤ _)⟩)
    dsimp only [Pt.U, Pt.locs, Pt.cells, Pt.slots] at X30 l30 y30 z30 st30 hQ30
    subst l30 y30 z30
    obtain ⟨rfl, N30q, e30⟩ := hQ30
    have N30 := Fr.app N29 N30q
    refine own_go (fun tz kz => st30 tz kz) ?_
    show own_Go p.tables e below _ T30 (mkF m 158 #[.val (.int p1), .val (.int p2), .val (.int p3), .val (.int p4), .val (.int (Int32.ofNat 3)), .val (.int r1), .val (.int r2), .val (.int r3), .val (.ref b), .val (.ref o), .val (.int r1), .unset] [(.int (if r3 < r1 then r3 else r1))])
    rw [show (if r3 < r1 then r3 else r1) = r1 from if_neg (own_asym (Int32.lt_trans hr12 hr23))]
    show own_Go p.tables e below _ T30 (mkF m 158 #[.val (.int p1), .val (.int p2), .val (.int p3), .val (.int p4), .val (.int (Int32.ofNat 3)), .val (.int r1), .val (.int r2), .val (.int r3), .val (.ref b), .val (.ref o), .val (.int r1), .unset] [(.int r1)])
    refine own_go (fun tz kz => XS.istore X30.here hx rfl (hb hby at_158) rfl (l' := #[.val (.int p1), .val (.int p2), .val (.int p3), .val (.int p4), .val (.int (Int32.ofNat 3)), .val (.int r1), .val (.int r2), .val (.int r3), .val (.ref b), .val (.ref o), .val (.int r1), .val (.int r1)]) rfl kz) ?_
    show own_Go p.tables e below _ T30 (mkF m 160 #[.val (.int p1), .val (.int p2), .val (.int p3), .val (.int p4), .val (.int (Int32.ofNat 3)), .val (.int r1), .val (.int r2), .val (.int r3), .val (.ref b), .val (.ref o), .val (.int r1), .val (.int r1)] [])
    refine own_go (fun tz kz => XS.iload X30.here hx rfl (hb hby at_160) rfl kz) ?_
    show own_Go p.tables e below _ T30 (mkF m 162 #[.val (.int p1), .val (.int p2), .val (.int p3), .val (.int p4), .val (.int (Int32.ofNat 3)), .val (.int r1), .val (.int r2), .val (.int r3), .val (.ref b), .val (.ref o), .val (.int r1), .val (.int r1)] [(.int r1)])
    refine own_go (fun tz kz => XS.iload X30.here hx rfl (hb hby at_162) rfl kz) ?_
    show own_Go p.tables e below _ T30 (mkF m 164 #[.val (.int p1), .val (.int p2), .val (.int p3), .val (.int p4), .val (.int (Int32.ofNat 3)), .val (.int r1), .val (.int r2), .val (.int r3), .val (.ref b), .val (.ref o), .val (.int r1), .val (.int r1)] [(.int r1), (.int r1)])
    refine own_go (fun tz kz => XS.icmpYes X30.here hx rfl (pc0 := 164) (pc' := 169) rfl (hb hby at_164) rfl (XT.ii_eq_t rfl) (by decide) (by decide) kz) ?_
    show own_Go p.tables e below _ T30 (mkF m 169 #[.val (.int p1), .val (.int p2), .val (.int p3), .val (.int p4), .val (.int (Int32.ofNat 3)), .val (.int r1), .val (.int r2), .val (.int r3), .val (.ref b), .val (.ref o), .val (.int r1), .val (.int r1)] [])
    refine own_go (fun tz kz => XS.iload X30.here hx rfl (hb hby at_169) rfl kz) ?_
    show own_Go p.tables e below _ T30 (mkF m 171 #[.val (.int p1), .val (.int p2), .val (.int p3), .val (.int p4), .val (.int (Int32.ofNat 3)), .val (.int r1), .val (.int r2), .val (.int r3), .val (.ref b), .val (.ref o), .val (.int r1), .val (.int r1)] [(.int (Int32.ofNat 3))])
    refine own_go (fun tz kz => XS.ifYes X30.here hx rfl (pc0 := 171) (pc' := 190) rfl (hb hby at_171) rfl (XT.i0_ne_t (by decide)) (by decide) (by decide) kz) ?_
    show own_Go p.tables e below _ T30 (mkF m 190 #[.val (.int p1), .val (.int p2), .val (.int p3), .val (.int p4), .val (.int (Int32.ofNat 3)), .val (.int r1), .val (.int r2), .val (.int r3), .val (.ref b), .val (.ref o), .val (.int r1), .val (.int r1)] [])
    refine own_go (fun tz kz => XS.aload X30.here hx rfl (hb hby at_190) rfl rfl kz) ?_
    show own_Go p.tables e below _ T30 (mkF m 192 #[.val (.int p1), .val (.int p2), .val (.int p3), .val (.int p4), .val (.int (Int32.ofNat 3)), .val (.int r1), .val (.int r2), .val (.int r3), .val (.ref b), .val (.ref o), .val (.int r1), .val (.int r1)] [(.ref o)])
    refine own_go (fun tz kz => XS.iload X30.here hx rfl (hb hby at_192) rfl kz) ?_
    show own_Go p.tables e below _ T30 (mkF m 194 #[.val (.int p1), .val (.int p2), .val (.int p3), .val (.int p4), .val (.int (Int32.ofNat 3)), .val (.int r1), .val (.int r2), .val (.int r3), .val (.ref b), .val (.ref o), .val (.int r1), .val (.int r1)] [(.int r1), (.ref o)])
    obtain ⟨cq31, kq31, q31a, q31b, q31c⟩ := isOf hZ e30 Ex
    obtain ⟨_, _, ⟨T31, L31, k31, n31⟩, -, X31, ⟨Lc31, hQ31, l31, y31, z31⟩, st31⟩ := X30.virtualBack hx (y := (⟨"com/example/chalk_outline/chalkoutline/Placement", "found", "(I)I"⟩ : MethodName)) (z := (⟨"com/example/chalk_outline/chalkoutline/Placement", "found", "(I)I"⟩ : MethodName)) hown (mvT hZ (hw _ (List.mem_of_getElem? (i := 27) rfl))) (mvT hZ (hw _ (List.mem_of_getElem? (i := 28) rfl))) (notFace_of_selects (args := #[]) (mvT hZ (hw _ (List.mem_of_getElem? (i := 30) rfl)))) (mvT hZ (hw _ (List.mem_of_getElem? (i := 30) rfl))) (mvT hZ (hw _ (List.mem_of_getElem? (i := 29) rfl))) (by decide) (backOf (W := 0) (rm5 l Z a0 hw [] o r1 b 3 (own_g r1 r2 r3) T27.heap n0 (Nat.le_trans (Nat.le_trans (Nat.le_trans (Nat.le_trans (Nat.le_trans (Nat.le_trans Z0 E22.1) (Keep.of_wr W23).1) (Keep.of_wr W24).1) (Keep.of_wr W25).1) E26.1) K27.1) Fr' Vb' (by decide)) hZ (hw _ (List.mem_of_getElem? (i := 31) rfl)) (hw _ (List.mem_of_getElem? (i := 5) rfl)) (by decide) (by decide)) q31a q31c (g := (mkF m 194 #[.val (.int p1), .val (.int p2), .val (.int p3), .val (.int p4), .val (.int (Int32.ofNat 3)), .val (.int r1), .val (.int r2), .val (.int r3), .val (.ref b), .val (.ref o), .val (.int r1), .val (.int r1)] [(.int r1), (.ref o)])) rfl (by rw [hml]; rfl) (Steps.refl _) (argsL := [(.int r1)]) (rest := []) (lenOf pd_3 rfl) rfl (by show 2 * 0 + _ ≤ _; exact Nat.le_of_eq rfl) (hb hby at_194) (fun _ _ => ⟨rfl, e30, (by decide : 2 + 0 ≤ _), (by decide : 5 + 0 ≤ _)⟩)
    dsimp only [Pt.U, Pt.locs, Pt.cells, Pt.slots] at X31 l31 y31 z31 st31 hQ31
    subst l31 y31 z31
    obtain ⟨rfl, N31q, e31⟩ := hQ31
    have N31 := Fr.app N30 N31q
    refine own_go (fun tz kz => st31.trans kz) ?_
    show own_Go p.tables e below _ T31 (mkF m 197 #[.val (.int p1), .val (.int p2), .val (.int p3), .val (.int p4), .val (.int (Int32.ofNat 3)), .val (.int r1), .val (.int r2), .val (.int r3), .val (.ref b), .val (.ref o), .val (.int r1), .val (.int r1)] [(.int (Int32.ofNat (own_fnd (own_g r1 r2 r3) r1 3 0)))])
    refine own_go (fun tz kz => XS.iconst X31.here hx rfl (hb hby at_197) kz) ?_
    show own_Go p.tables e below _ T31 (mkF m 198 #[.val (.int p1), .val (.int p2), .val (.int p3), .val (.int p4), .val (.int (Int32.ofNat 3)), .val (.int r1), .val (.int r2), .val (.int r3), .val (.ref b), .val (.ref o), .val (.int r1), .val (.int r1)] [(.int (1 : Int32)), (.int (Int32.ofNat (own_fnd (own_g r1 r2 r3) r1 3 0)))])
    refine own_go (fun tz kz => XS.icmpNo X31.here hx rfl (hb hby at_198) rfl (XT.ii_ne_f (own_f2 (own_g r1 r2 r3) r1 1 (own_irr r1) hr12)) kz) ?_
    show own_Go p.tables e below _ T31 (mkF m 201 #[.val (.int p1), .val (.int p2), .val (.int p3), .val (.int p4), .val (.int (Int32.ofNat 3)), .val (.int r1), .val (.int r2), .val (.int r3), .val (.ref b), .val (.ref o), .val (.int r1), .val (.int r1)] [])
    refine own_go (fun tz kz => XS.aload X31.here hx rfl (hb hby at_201) rfl rfl kz) ?_
    show own_Go p.tables e below _ T31 (mkF m 203 #[.val (.int p1), .val (.int p2), .val (.int p3), .val (.int p4), .val (.int (Int32.ofNat 3)), .val (.int r1), .val (.int r2), .val (.int r3), .val (.ref b), .val (.ref o), .val (.int r1), .val (.int r1)] [(.ref o)])
    refine own_go (fun tz kz => XS.iload X31.here hx rfl (hb hby at_203) rfl kz) ?_
    show own_Go p.tables e below _ T31 (mkF m 205 #[.val (.int p1), .val (.int p2), .val (.int p3), .val (.int p4), .val (.int (Int32.ofNat 3)), .val (.int r1), .val (.int r2), .val (.int r3), .val (.ref b), .val (.ref o), .val (.int r1), .val (.int r1)] [(.int r1), (.ref o)])
    refine own_go (fun tz kz => XS.iconst X31.here hx rfl (hb hby at_205) kz) ?_
    show own_Go p.tables e below _ T31 (mkF m 206 #[.val (.int p1), .val (.int p2), .val (.int p3), .val (.int p4), .val (.int (Int32.ofNat 3)), .val (.int r1), .val (.int r2), .val (.int r3), .val (.ref b), .val (.ref o), .val (.int r1), .val (.int r1)] [(.int (1 : Int32)), (.int r1), (.ref o)])
    refine own_go (fun tz kz => XS.isub X31.here hx rfl (hb hby at_206) rfl kz) ?_
    show own_Go p.tables e below _ T31 (mkF m 207 #[.val (.int p1), .val (.int p2), .val (.int p3), .val (.int p4), .val (.int (Int32.ofNat 3)), .val (.int r1), .val (.int r2), .val (.int r3), .val (.ref b), .val (.ref o), .val (.int r1), .val (.int r1)] [(.int (r1 - (1 : Int32))), (.ref o)])
    obtain ⟨cq32, kq32, q32a, q32b, q32c⟩ := isOf hZ e31 Ex
    obtain ⟨_, _, ⟨T32, L32, k32, n32⟩, -, X32, ⟨Lc32, hQ32, l32, y32, z32⟩, st32⟩ := X31.virtualBack hx (y := (⟨"com/example/chalk_outline/chalkoutline/Placement", "found", "(I)I"⟩ : MethodName)) (z := (⟨"com/example/chalk_outline/chalkoutline/Placement", "found", "(I)I"⟩ : MethodName)) hown (mvT hZ (hw _ (List.mem_of_getElem? (i := 27) rfl))) (mvT hZ (hw _ (List.mem_of_getElem? (i := 28) rfl))) (notFace_of_selects (args := #[]) (mvT hZ (hw _ (List.mem_of_getElem? (i := 30) rfl)))) (mvT hZ (hw _ (List.mem_of_getElem? (i := 30) rfl))) (mvT hZ (hw _ (List.mem_of_getElem? (i := 29) rfl))) (by decide) (backOf (W := 0) (rm5 l Z a0 hw [] o (r1 - (1 : Int32)) b 3 (own_g r1 r2 r3) T27.heap n0 (Nat.le_trans (Nat.le_trans (Nat.le_trans (Nat.le_trans (Nat.le_trans (Nat.le_trans Z0 E22.1) (Keep.of_wr W23).1) (Keep.of_wr W24).1) (Keep.of_wr W25).1) E26.1) K27.1) Fr' Vb' (by decide)) hZ (hw _ (List.mem_of_getElem? (i := 31) rfl)) (hw _ (List.mem_of_getElem? (i := 5) rfl)) (by decide) (by decide)) q32a q32c (g := (mkF m 207 #[.val (.int p1), .val (.int p2), .val (.int p3), .val (.int p4), .val (.int (Int32.ofNat 3)), .val (.int r1), .val (.int r2), .val (.int r3), .val (.ref b), .val (.ref o), .val (.int r1), .val (.int r1)] [(.int (r1 - (1 : Int32))), (.ref o)])) rfl (by rw [hml]; rfl) (Steps.refl _) (argsL := [(.int (r1 - (1 : Int32)))]) (rest := []) (lenOf pd_3 rfl) rfl (by show 2 * 0 + _ ≤ _; exact Nat.le_of_eq rfl) (hb hby at_207) (fun _ _ => ⟨rfl, e31, (by decide : 2 + 0 ≤ _), (by decide : 5 + 0 ≤ _)⟩)
    dsimp only [Pt.U, Pt.locs, Pt.cells, Pt.slots] at X32 l32 y32 z32 st32 hQ32
    subst l32 y32 z32
    obtain ⟨rfl, N32q, e32⟩ := hQ32
    have N32 := Fr.app N31 N32q
    refine own_go (fun tz kz => st32.trans kz) ?_
    show own_Go p.tables e below _ T32 (mkF m 210 #[.val (.int p1), .val (.int p2), .val (.int p3), .val (.int p4), .val (.int (Int32.ofNat 3)), .val (.int r1), .val (.int r2), .val (.int r3), .val (.ref b), .val (.ref o), .val (.int r1), .val (.int r1)] [(.int (Int32.ofNat (own_fnd (own_g r1 r2 r3) (r1 - (1 : Int32)) 3 0)))])
    refine own_go (fun tz kz => XS.ifNo X32.here hx rfl (hb hby at_210) rfl (XT.i0_ne_f (own_f0 (own_g r1 r2 r3) (r1 - 1) 2 (own_pred_lt hr1))) kz) ?_
    show own_Go p.tables e below _ T32 (mkF m 213 #[.val (.int p1), .val (.int p2), .val (.int p3), .val (.int p4), .val (.int (Int32.ofNat 3)), .val (.int r1), .val (.int r2), .val (.int r3), .val (.ref b), .val (.ref o), .val (.int r1), .val (.int r1)] [])
    refine own_go (fun tz kz => XS.iconst X32.here hx rfl (hb hby at_213) kz) ?_
    show own_Go p.tables e below _ T32 (mkF m 214 #[.val (.int p1), .val (.int p2), .val (.int p3), .val (.int p4), .val (.int (Int32.ofNat 3)), .val (.int r1), .val (.int r2), .val (.int r3), .val (.ref b), .val (.ref o), .val (.int r1), .val (.int r1)] [(.int (1 : Int32))])
    refine own_go (fun tz kz => XS.goto X32.here hx rfl (pc0 := 214) (pc' := 218) rfl (hb hby at_214) (by decide) (by decide) kz) ?_
    show own_Go p.tables e below _ T32 (mkF m 218 #[.val (.int p1), .val (.int p2), .val (.int p3), .val (.int p4), .val (.int (Int32.ofNat 3)), .val (.int r1), .val (.int r2), .val (.int r3), .val (.ref b), .val (.ref o), .val (.int r1), .val (.int r1)] [(.int (1 : Int32))])
    obtain ⟨fs, hr, hrun, hended, hW, hsame⟩ := X32.leave (v := some (.int (1 : Int32))) (fun h => by rw [Bd.returns] at h; cases h)
    refine ⟨_, _, ?_, hrun, hended, _, _, rfl, ?_, ⟨_, rfl⟩, hW, hsame.mono (by decide) (by decide)⟩
    · exact retN X32 hx (t := .boolean) Bd.returns (by simp) (hb hby at_218) hr
    · show Q0 Z p1 p2 p3 p4 h0 n0 _ T32.heap _
      rw [e32]
      exact ⟨rfl, N32⟩
set_option maxRecDepth 65536 in
set_option maxHeartbeats 40000000 in
theorem comes_1 {Post : Tables → Env → Array Value → State → Outcome → State → Prop} (hpost : ∀ tb e args s v u, (limb_1_1.after args s (.returned v) u = true ∧ limb_1_2.after args s (.returned v) u = true ∧ True) → FrameEnd s (.returned v) u (Jvm.fieldLocs frame_1_writes args s ++ Jvm.arrayLocs frame_1_arrays args s ++ Jvm.staticLocs frame_1_statics s) 16 128 → Post tb e args s (.returned v) u) :
    ArmFor flags0 classFile x code maxLocals ret World_1 tables_1 room_1 Calls_1 rest_1 Pre_1 Post := by
  intro l hfl _ _ p e ha hc hk s m args below hf hA hF happ hP
  obtain ⟨hcalls, hrest, hpre⟩ := hP
  obtain ⟨-, -, -, hnamed, -, -, -, hat⟩ := (Spec.applies_iff hf).mp happ
  obtain ⟨hg, hn⟩ := and_e (Cond.before_iff.mp (show (Jvm.Cond.and given_1 narrow_1).before args s = true from hpre))
  obtain ⟨gc, ga0⟩ := and_e hg
  obtain ⟨gv0, ga1⟩ := and_e ga0
  obtain ⟨gv1, ga2⟩ := and_e ga1
  obtain ⟨gv2, ga3⟩ := and_e ga2
  have gv3 := ga3
  obtain ⟨w0, w1, w2, w3, rfl⟩ : ∃ w0 w1 w2 w3 : Value, args = #[w0, w1, w2, w3] := by
    have hs : args.size = 4 := by simpa [Cond.value, given_1] using gc
    obtain ⟨L⟩ := args
    match L, hs with
    | [w0, w1, w2, w3], _ => exact ⟨w0, w1, w2, w3, rfl⟩
  have hw := fun d (hd : d ∈ tables_1) => atoms_spec (ws := Jvm.Cond.code x code maxLocals ret :: tables_1) hat d (List.mem_cons_of_mem _ hd)
  have hfit : Fit s := fun {y c} hc i hi => by
    obtain ⟨ha, rfl⟩ := Array.getElem?_eq_some_iff.mp hc
    have q := List.all_eq_true.mp ((Array.all_eq_true_iff_forall_mem.mp hF) _ (Array.getElem_mem ha)) i (List.mem_range.mpr hi)
    simpa [Array.getElem?_eq_getElem hi] using q
  obtain ⟨i0, ei0⟩ := is_v gv0
  obtain rfl : w0 = (.int i0) := Option.some.inj ei0
  obtain ⟨i1, ei1⟩ := is_v gv1
  obtain rfl : w1 = (.int i1) := Option.some.inj ei1
  obtain ⟨i2, ei2⟩ := is_v gv2
  obtain rfl : w2 = (.int i2) := Option.some.inj ei2
  obtain ⟨i3, ei3⟩ := is_v gv3
  obtain rfl : w3 = (.int i3) := Option.some.inj ei3
  obtain ⟨n, o, h1, h2, h3, _, L, rfl, ⟨rfl, N⟩, hq⟩ := rm0 l s _ hw tables_1 i0 i1 i2 i3  s.heap s.heap.size (Nat.le_refl _)  p e ha hc hk s m _ below hf ((Spec.applies_iff_loose hf).mp happ).1 ⟨rfl, State.Warmed39.refl s, rfl⟩ trivial
  exact ⟨n, _, h1, h2, h3, hpost _ _ _ _ _ _ ⟨Cond.after_iff.mpr rfl, Cond.after_iff.mpr (eq_i res_at (Term.int_eval (1)) rfl), trivial⟩ ⟨hq.1, hq.2.1, (hq.2.2.sift fun y hy => Or.inr (N y hy)).mono (by decide) (by decide)⟩⟩
theorem main_1_1 : Claimed_1_1 := comes_1 fun _ _ _ _ _ _ h hF => ⟨h.1, hF⟩
theorem main_1_2 : Claimed_1_2 := comes_1 fun _ _ _ _ _ _ h hF => ⟨h.2.1, hF⟩
end Jvm.Pilot.@@N@@
namespace Jvm.Pilot.@@N@@
open Jvm Jvm.ClassFile Sem Op Lib Jvm.Free Jvm.Stand Jvm.Pilot.@@N@@.Jvm.D
/-! MADE BY PROGRAM (witnessworld.py) out of the Statement's table words and the real class files: 11 classes; the members and pool entries that the words name. The judged class is class 1, her method 1. -/
namespace start1
open Jvm.ClassFile
def u (s : String) : CpInfo := .utf8 (stringToUtf16 s)
/-- a pool by its gaps: so many unusable entries, then the entry; so many at the end -/
def gap : Nat → List CpInfo → List CpInfo
  | 0, r => r
  | n + 1, r => .unusable :: gap n r
def poolList (es : List (Nat × CpInfo)) (last : Nat) : List CpInfo := es.foldr (fun e r => gap e.1 (e.2 :: r)) (gap last [])
def pool (es : List (Nat × CpInfo)) (last : Nat) : Array CpInfo := ⟨poolList es last⟩
def fileOf (pool : Array CpInfo) (this : Nat) (attrs : Array Attribute := #[]) (ms : Array MethodInfo := #[]) (fl : Nat := 33) (sup : Nat := 0) (ifs : Array Nat := #[]) (fds : Array FieldInfo := #[]) : ClassFile where
  minorVersion := 0
  majorVersion := 65
  constantPool := pool
  accessFlags := fl
  thisClass := this
  superClass := sup
  interfaces := ifs
  fields := fds
  methods := ms
  attributes := attrs
def plain (name : String) (sup : Option ClassId) : Class where
  name := name
  kind := .ordinary
  loader := none
  accessFlags := 33
  super := sup
  interfaces := #[]
  cf := none
  fields := #[]
  methods := #[]
  instanceTypes := #[]
  staticTypes := #[]
  resolved := #[]
  callSites := []
  init := .initialized
  statics := none
  mirror := none

def pool0 : Array CpInfo := pool [(5, u "<init>"), (0, u "()V"), (1, .class_ 10), (1, u "java/lang/Object")] 113

def k0c0 : Code := { maxStack := 0, maxLocals := 1, code := object_method_1_code, exceptionTable := #[], attributes := #[] }
def k0m0 : Method := { name := "<init>", desc := "()V", sig := { parameters := [], returnType := none }, accessFlags := 1, code := some k0c0 }
/-- java/lang/Object -/
def k0 : Class := { plain "java/lang/Object" none with
  accessFlags := 33
  interfaces := #[]
  cf := some (fileOf pool0 8 #[] #[{ accessFlags := 1, nameIndex := 5, descriptorIndex := 6, attributes := #[] }] 33 0 #[] #[])
  fields := #[]
  methods := #[k0m0]
  instanceTypes := #[]
  staticTypes := #[]
  resolved := Array.replicate 124 none
  statics := none }

def pool1 : Array CpInfo := pool [(2, .class_ 4), (1, u "java/lang/Object"), (0, u "<init>"), (0, u "()V"), (0, .integer 1073741823), (0, .integer 268435455), (0, .class_ 10), (0, u "com/example/chalk_outline/chalkoutline/Placement"), (0, .methodref 9 12), (0, .nameAndType 5 13), (0, u "([II)V"), (0, .methodref 9 15), (0, .nameAndType 16 17), (0, u "first"), (0, u "()I"), (0, .methodref 19 20), (0, .class_ 21), (0, .nameAndType 22 23), (0, u "java/lang/Math"), (0, u "min"), (0, u "(II)I"), (0, .integer 2147483647), (0, .methodref 9 26), (0, .nameAndType 27 28), (0, u "found"), (0, u "(I)I"), (0, .class_ 30), (0, u "com/example/chalk_outline/chalkoutline/PlacementFirstPinLaw"), (2, u "law"), (0, u "(IIII)Z")] 5

def k1m0 : Method := { name := "<init>", desc := "()V", sig := { parameters := [], returnType := none }, accessFlags := 1, code := none }
def k1c1 : Code := { maxStack := 6, maxLocals := 12, code := code, exceptionTable := #[], attributes := #[] }
def k1m1 : Method := { name := "law", desc := "(IIII)Z", sig := { parameters := [.int, .int, .int, .int], returnType := some .boolean }, accessFlags := 9, code := some k1c1 }
/-- com/example/chalk_outline/chalkoutline/PlacementFirstPinLaw -/
def k1 : Class := { plain "com/example/chalk_outline/chalkoutline/PlacementFirstPinLaw" (some 0) with
  accessFlags := 49
  interfaces := #[]
  cf := some (fileOf pool1 29 #[] #[{ accessFlags := 1, nameIndex := 5, descriptorIndex := 6, attributes := #[] }, { accessFlags := 9, nameIndex := 33, descriptorIndex := 34, attributes := #[] }] 49 2 #[] #[])
  fields := #[]
  methods := #[k1m0, k1m1]
  instanceTypes := #[]
  staticTypes := #[]
  resolved := Array.replicate 40 none
  statics := none }

def pool2 : Array CpInfo := pool [(1, .methodref 2 3), (0, .class_ 4), (0, .nameAndType 5 6), (0, u "java/lang/Object"), (0, u "<init>"), (0, u "()V"), (0, .class_ 8), (0, u "java/lang/Record")] 13

def k2c0 : Code := { maxStack := 1, maxLocals := 1, code := jdk_30_method_1_code, exceptionTable := #[], attributes := #[] }
def k2m0 : Method := { name := "<init>", desc := "()V", sig := { parameters := [], returnType := none }, accessFlags := 4, code := some k2c0 }
/-- java/lang/Record -/
def k2 : Class := { plain "java/lang/Record" (some 0) with
  accessFlags := 1057
  interfaces := #[]
  cf := some (fileOf pool2 7 #[] #[{ accessFlags := 4, nameIndex := 5, descriptorIndex := 6, attributes := #[] }] 1057 2 #[] #[])
  fields := #[]
  methods := #[k2m0]
  instanceTypes := #[]
  staticTypes := #[]
  resolved := Array.replicate 22 none
  statics := none }

def pool3 : Array CpInfo := pool [(3, .methodref 4 5), (0, .class_ 6), (0, .nameAndType 7 8), (0, u "java/lang/Record"), (0, u "<init>"), (0, u "()V"), (0, .fieldref 10 11), (0, .class_ 12), (0, .nameAndType 13 14), (0, u "com/example/chalk_outline/chalkoutline/Placement"), (0, u "ranks"), (0, u "[I"), (0, .fieldref 10 16), (0, .nameAndType 17 18), (0, u "relevant"), (0, u "I"), (5, u "()I"), (19, u "([II)V"), (2, u "found"), (0, u "(I)I"), (12, u "ALL"), (11, u "first")] 28

def k3c0 : Code := { maxStack := 2, maxLocals := 3, code := prog_11_method_1_code, exceptionTable := #[], attributes := #[] }
def k3m0 : Method := { name := "<init>", desc := "([II)V", sig := { parameters := [(.array .int), .int], returnType := none }, accessFlags := 0, code := some k3c0 }
def k3c1 : Code := { maxStack := 2, maxLocals := 1, code := prog_11_method_3_code, exceptionTable := #[], attributes := #[] }
def k3m1 : Method := { name := "first", desc := "()I", sig := { parameters := [], returnType := some .int }, accessFlags := 0, code := some k3c1 }
def k3c2 : Code := { maxStack := 2, maxLocals := 3, code := prog_11_method_4_code, exceptionTable := #[], attributes := #[] }
def k3m2 : Method := { name := "found", desc := "(I)I", sig := { parameters := [.int], returnType := some .int }, accessFlags := 0, code := some k3c2 }
/-- com/example/chalk_outline/chalkoutline/Placement -/
def k3 : Class := { plain "com/example/chalk_outline/chalkoutline/Placement" (some 2) with
  accessFlags := 48
  interfaces := #[]
  cf := some (fileOf pool3 10 #[] #[{ accessFlags := 0, nameIndex := 7, descriptorIndex := 44, attributes := #[] }, { accessFlags := 0, nameIndex := 73, descriptorIndex := 24, attributes := #[] }, { accessFlags := 0, nameIndex := 47, descriptorIndex := 48, attributes := #[] }] 48 4 #[] #[{ accessFlags := 18, nameIndex := 13, descriptorIndex := 14, attributes := #[] }, { accessFlags := 18, nameIndex := 17, descriptorIndex := 18, attributes := #[] }, { accessFlags := 24, nameIndex := 61, descriptorIndex := 18, attributes := #[] }])
  fields := #[{ name := "ranks", type := (.array .int), accessFlags := 18, slot := 0, constantValue := 0 }, { name := "relevant", type := .int, accessFlags := 18, slot := 1, constantValue := 0 }, { name := "ALL", type := .int, accessFlags := 24, slot := 0, constantValue := 0 }]
  methods := #[k3m0, k3m1, k3m2]
  instanceTypes := #[(.array .int), .int]
  staticTypes := #[.int]
  resolved := Array.replicate 102 none
  statics := none }

def pool4 : Array CpInfo := pool [(1, .class_ 2), (0, u "java/lang/Math"), (1, .class_ 6), (1, u "java/lang/Object"), (0, u "<init>"), (0, u "()V"), (89, .class_ 100), (1, u "java/lang/Math$RandomNumberGeneratorHolder"), (71, u "negativeZeroFloatBits"), (0, u "J"), (2, u "negativeZeroDoubleBits"), (24, u "min"), (43, u "$assertionsDisabled"), (0, u "Z"), (88, u "(II)I"), (2, u "twoToTheDoubleScaleDown"), (0, u "D"), (4, u "twoToTheDoubleScaleUp"), (9, u "E"), (3, u "PI"), (2, u "TAU"), (2, u "DEGREES_TO_RADIANS"), (0, u "RADIANS_TO_DEGREES")] 94

def k4m0 : Method := { name := "<init>", desc := "()V", sig := { parameters := [], returnType := none }, accessFlags := 2, code := none }
def k4c1 : Code := { maxStack := 2, maxLocals := 2, code := jdk_29_method_69_code, exceptionTable := #[], attributes := #[] }
def k4m1 : Method := { name := "min", desc := "(II)I", sig := { parameters := [.int, .int], returnType := some .int }, accessFlags := 9, code := some k4c1 }
/-- java/lang/Math -/
def k4 : Class := { plain "java/lang/Math" (some 0) with
  accessFlags := 49
  interfaces := #[]
  cf := some (fileOf pool4 1 #[.nestMembers #[98]] #[{ accessFlags := 2, nameIndex := 7, descriptorIndex := 8, attributes := #[] }, { accessFlags := 9, nameIndex := 201, descriptorIndex := 335, attributes := #[] }] 49 4 #[] #[{ accessFlags := 25, nameIndex := 354, descriptorIndex := 339, attributes := #[] }, { accessFlags := 25, nameIndex := 358, descriptorIndex := 339, attributes := #[] }, { accessFlags := 25, nameIndex := 361, descriptorIndex := 339, attributes := #[] }, { accessFlags := 26, nameIndex := 364, descriptorIndex := 339, attributes := #[] }, { accessFlags := 26, nameIndex := 365, descriptorIndex := 339, attributes := #[] }, { accessFlags := 26, nameIndex := 172, descriptorIndex := 173, attributes := #[] }, { accessFlags := 26, nameIndex := 176, descriptorIndex := 173, attributes := #[] }, { accessFlags := 8, nameIndex := 344, descriptorIndex := 339, attributes := #[] }, { accessFlags := 8, nameIndex := 338, descriptorIndex := 339, attributes := #[] }, { accessFlags := 4120, nameIndex := 245, descriptorIndex := 246, attributes := #[] }])
  fields := #[{ name := "E", type := .double, accessFlags := 25, slot := 0, constantValue := 0 }, { name := "PI", type := .double, accessFlags := 25, slot := 1, constantValue := 0 }, { name := "TAU", type := .double, accessFlags := 25, slot := 2, constantValue := 0 }, { name := "DEGREES_TO_RADIANS", type := .double, accessFlags := 26, slot := 3, constantValue := 0 }, { name := "RADIANS_TO_DEGREES", type := .double, accessFlags := 26, slot := 4, constantValue := 0 }, { name := "negativeZeroFloatBits", type := .long, accessFlags := 26, slot := 5, constantValue := 0 }, { name := "negativeZeroDoubleBits", type := .long, accessFlags := 26, slot := 6, constantValue := 0 }, { name := "twoToTheDoubleScaleUp", type := .double, accessFlags := 8, slot := 7, constantValue := 0 }, { name := "twoToTheDoubleScaleDown", type := .double, accessFlags := 8, slot := 8, constantValue := 0 }, { name := "$assertionsDisabled", type := .boolean, accessFlags := 4120, slot := 9, constantValue := 0 }]
  methods := #[k4m0, k4m1]
  instanceTypes := #[]
  staticTypes := #[.double, .double, .double, .double, .double, .long, .long, .double, .double, .boolean]
  resolved := Array.replicate 460 none
  statics := none }

def pool5 : Array CpInfo := pool [(1, u "java/lang/Cloneable"), (0, .class_ 1), (0, u "java/lang/Object"), (0, .class_ 3)] 3

/-- java/lang/Cloneable -/
def k5 : Class := { plain "java/lang/Cloneable" (some 0) with
  accessFlags := 1537
  interfaces := #[]
  cf := some (fileOf pool5 2 #[] #[] 1537 4 #[] #[])
  fields := #[]
  methods := #[]
  instanceTypes := #[]
  staticTypes := #[]
  resolved := Array.replicate 8 none
  statics := none }

def pool6 : Array CpInfo := pool [(1, u "java/io/Serializable"), (0, .class_ 1), (0, u "java/lang/Object"), (0, .class_ 3)] 3

/-- java/io/Serializable -/
def k6 : Class := { plain "java/io/Serializable" (some 0) with
  accessFlags := 1537
  interfaces := #[]
  cf := some (fileOf pool6 2 #[] #[] 1537 4 #[] #[])
  fields := #[]
  methods := #[]
  instanceTypes := #[]
  staticTypes := #[]
  resolved := Array.replicate 8 none
  statics := none }

/-- the primitive byte -/
def k7 : Class := { plain "byte" none with kind := .primitive 'B', accessFlags := 0x411 }
/-- [B -/
def k8 : Class := { plain "[B" (some 0) with kind := .array 7 .byte, interfaces := #[5, 6], accessFlags := 1041 }

/-- the primitive int -/
def k9 : Class := { plain "int" none with kind := .primitive 'I', accessFlags := 0x411 }
/-- [I -/
def k10 : Class := { plain "[I" (some 0) with kind := .array 9 .int, interfaces := #[5, 6], accessFlags := 1041 }

def heap : Heap := #[]
def classes : Array Class := #[k0, k1, k2, k3, k4, k5, k6, k7, k8, k9, k10]
def interned : List (Array UInt16 × Addr) := []
def slotsUsed : Nat := 0
def theMethod : MethodId := ⟨1, 1⟩
def args0 : Array Value := #[.int 5, .int 300, .int 7, .int 1]
def aboutOver (below : List Frame) : State where
  vm := { classes := classes, interned := interned.toArray }
  heap := heap
  slotsUsed := slotsUsed
  threads := #[{ frames := .invoking theMethod args0 :: below }]
def below0 : List Frame := [.native { method := ⟨0, 0⟩, args := #[] }]
def about1 : State := aboutOver below0
def p0 : Program := .bare "" "" ""
def e0 : Env := launch0.env 0 0 0
theorem w_frames : about1.frames = Frame.invoking theMethod args0 :: below0 := rfl
set_option maxRecDepth 65536 in
theorem w_args : argsFit about1.vm theMethod args0 = true := by decide +kernel
set_option maxRecDepth 65536 in
theorem w_heap : heapFits about1 = true := by decide +kernel
set_option maxRecDepth 65536 in
theorem w_runnable : about1.curStatus? = some .runnable := by decide +kernel
set_option maxRecDepth 65536 in
theorem w_alone : about1.alone = true := by decide +kernel
set_option maxRecDepth 65536 in
theorem w_named : about1.methodNamed? x = some theMethod := by decide +kernel
set_option maxRecDepth 65536 in
theorem w_hears : about1.hears theMethod below0 = true := by decide +kernel
set_option maxRecDepth 65536 in
theorem w_ripe : about1.ripe theMethod args0 below0 = true := by decide +kernel
theorem w_running : about1.status = .running := rfl
set_option maxRecDepth 65536 in
theorem w_room : about1.hasRoom e0.platform room_1 = true :=
  launch0.hasRoom_least _ room_1 (by decide +kernel) (by decide +kernel) (by decide +kernel) (by decide +kernel) (by decide +kernel) (by decide +kernel)
theorem allAtoms_all (ts : List Jvm.Cond) (a : Array Jvm.Value) (st : Jvm.State) : (allAtoms ts).before a st = ts.all (fun c => c.before a st) := by
  induction ts with
  | nil => rfl
  | cons c t ih =>
    show (Jvm.Cond.and c (allAtoms t)).before a st = _
    rw [Jvm.Cond.before_and, ih, List.all_cons]
def words1 : List Jvm.Cond := Jvm.Cond.code x code maxLocals ret :: tables_1
/-- a 'code' word, met by the world's own term for the bytes: nothing is compared byte by byte -/
theorem code_word {y : MethodName} {bytes : ByteArray} {mx : Nat} {rt : Option FieldType} {a : Array Value} {s : State} {m : MethodId} {meth : Method} {c : Code} (h1 : s.methodNamed? y = some m) (h2 : s.vm.method? m = some meth) (h3 : meth.code = some c) (h4 : c.code = bytes)
    (h5 : (c.maxLocals == mx && c.exceptionTable.isEmpty && decide (c.maxStack ≤ mostOperands) && decide (meth.sig.returnType = rt) && !meth.locks && decide (parseMethodDescriptor y.desc = some meth.sig)) = true) : (Jvm.Cond.code y bytes mx rt).before a s = true := by
  simp only [Bool.and_eq_true, beq_iff_eq, Bool.not_eq_true', decide_eq_true_eq] at h5
  obtain ⟨⟨⟨⟨⟨g1, g2⟩, g3⟩, g4⟩, g5⟩, g6⟩ := h5
  simp [Cond.before, Cond.holds, Cond.value, h1, h2, h3, h4, g1, g2, g3, g4, g5, g6]
def isCode : Jvm.Cond → Bool
  | .code _ _ _ _ => true
  | _ => false
theorem all_split {L : List Jvm.Cond} {P : Jvm.Cond → Bool} (h1 : L.all (fun c => isCode c || P c) = true) (h2 : ∀ c ∈ L.filter isCode, P c = true) : L.all P = true := by
  refine List.all_eq_true.mpr fun c hc => ?_
  have h := List.all_eq_true.mp h1 c hc
  rcases Bool.eq_false_or_eq_true (isCode c) with hi | hi
  · exact h2 c (List.mem_filter.mpr ⟨hc, hi⟩)
  · simpa [hi] using h
set_option maxRecDepth 65536 in
theorem w_c0 : (Jvm.Cond.code x code maxLocals ret).before args0 about1 = true := code_word (m := ⟨1, 1⟩) (meth := k1m1) (c := k1c1) (by decide +kernel) rfl rfl rfl (by decide +kernel)
set_option maxRecDepth 65536 in
theorem w_c1 : (Jvm.Cond.code ({ cls := "com/example/chalk_outline/chalkoutline/Placement", name := "<init>", desc := "([II)V" } : Jvm.MethodName) prog_11_method_1_code (3 : Nat) (Option.none : Option Jvm.ClassFile.FieldType)).before args0 about1 = true := code_word (m := ⟨3, 0⟩) (meth := k3m0) (c := k3c0) (by decide +kernel) rfl rfl rfl (by decide +kernel)
set_option maxRecDepth 65536 in
theorem w_c2 : (Jvm.Cond.code ({ cls := "java/lang/Record", name := "<init>", desc := "()V" } : Jvm.MethodName) jdk_30_method_1_code (1 : Nat) (Option.none : Option Jvm.ClassFile.FieldType)).before args0 about1 = true := code_word (m := ⟨2, 0⟩) (meth := k2m0) (c := k2c0) (by decide +kernel) rfl rfl rfl (by decide +kernel)
set_option maxRecDepth 65536 in
theorem w_c3 : (Jvm.Cond.code ({ cls := "java/lang/Object", name := "<init>", desc := "()V" } : Jvm.MethodName) object_method_1_code (1 : Nat) (Option.none : Option Jvm.ClassFile.FieldType)).before args0 about1 = true := code_word (m := ⟨0, 0⟩) (meth := k0m0) (c := k0c0) (by decide +kernel) rfl rfl rfl (by decide +kernel)
set_option maxRecDepth 65536 in
theorem w_c4 : (Jvm.Cond.code ({ cls := "com/example/chalk_outline/chalkoutline/Placement", name := "first", desc := "()I" } : Jvm.MethodName) prog_11_method_3_code (1 : Nat) (Option.some Jvm.ClassFile.FieldType.int)).before args0 about1 = true := code_word (m := ⟨3, 1⟩) (meth := k3m1) (c := k3c1) (by decide +kernel) rfl rfl rfl (by decide +kernel)
set_option maxRecDepth 65536 in
theorem w_c5 : (Jvm.Cond.code ({ cls := "com/example/chalk_outline/chalkoutline/Placement", name := "found", desc := "(I)I" } : Jvm.MethodName) prog_11_method_4_code (3 : Nat) (Option.some Jvm.ClassFile.FieldType.int)).before args0 about1 = true := code_word (m := ⟨3, 2⟩) (meth := k3m2) (c := k3c2) (by decide +kernel) rfl rfl rfl (by decide +kernel)
set_option maxRecDepth 65536 in
theorem w_c6 : (Jvm.Cond.code ({ cls := "java/lang/Math", name := "min", desc := "(II)I" } : Jvm.MethodName) jdk_29_method_69_code (2 : Nat) (Option.some Jvm.ClassFile.FieldType.int)).before args0 about1 = true := code_word (m := ⟨4, 1⟩) (meth := k4m1) (c := k4c1) (by decide +kernel) rfl rfl rfl (by decide +kernel)
def codes1 : List Jvm.Cond := [Jvm.Cond.code x code maxLocals ret, Jvm.Cond.code ({ cls := "com/example/chalk_outline/chalkoutline/Placement", name := "<init>", desc := "([II)V" } : Jvm.MethodName) prog_11_method_1_code (3 : Nat) (Option.none : Option Jvm.ClassFile.FieldType), Jvm.Cond.code ({ cls := "java/lang/Record", name := "<init>", desc := "()V" } : Jvm.MethodName) jdk_30_method_1_code (1 : Nat) (Option.none : Option Jvm.ClassFile.FieldType), Jvm.Cond.code ({ cls := "java/lang/Object", name := "<init>", desc := "()V" } : Jvm.MethodName) object_method_1_code (1 : Nat) (Option.none : Option Jvm.ClassFile.FieldType), Jvm.Cond.code ({ cls := "com/example/chalk_outline/chalkoutline/Placement", name := "first", desc := "()I" } : Jvm.MethodName) prog_11_method_3_code (1 : Nat) (Option.some Jvm.ClassFile.FieldType.int), Jvm.Cond.code ({ cls := "com/example/chalk_outline/chalkoutline/Placement", name := "found", desc := "(I)I" } : Jvm.MethodName) prog_11_method_4_code (3 : Nat) (Option.some Jvm.ClassFile.FieldType.int), Jvm.Cond.code ({ cls := "java/lang/Math", name := "min", desc := "(II)I" } : Jvm.MethodName) jdk_29_method_69_code (2 : Nat) (Option.some Jvm.ClassFile.FieldType.int)]
set_option maxRecDepth 65536 in
theorem codes_eq : words1.filter isCode = codes1 := rfl
theorem w_codes : ∀ c ∈ words1.filter isCode, c.before args0 about1 = true := by
  rw [codes_eq]
  intro c hc
  simp only [codes1, List.mem_cons, List.not_mem_nil, or_false] at hc
  rcases hc with rfl | rfl | rfl | rfl | rfl | rfl | rfl
  · exact w_c0
  · exact w_c1
  · exact w_c2
  · exact w_c3
  · exact w_c4
  · exact w_c5
  · exact w_c6
set_option maxRecDepth 65536 in
theorem w_t1 : (words1.take 24).all (fun c => isCode c || c.before args0 about1) = true := by decide +kernel
set_option maxRecDepth 65536 in
theorem w_t2 : (words1.drop 24).all (fun c => isCode c || c.before args0 about1) = true := by decide +kernel
theorem w_tables : (allAtoms (Jvm.Cond.code x code maxLocals ret :: tables_1)).before args0 about1 = true := by
  rw [allAtoms_all]
  show words1.all (fun c => c.before args0 about1) = true
  refine all_split ?_ w_codes
  rw [← List.take_append_drop 24 words1, List.all_append, w_t1, w_t2]
  rfl
set_option maxRecDepth 65536 in
theorem w_case : (Jvm.Cond.and given_1 narrow_1).before args0 about1 = true := by decide +kernel
theorem w_applies : (headSpec (Jvm.Cond.code x code maxLocals ret :: tables_1) room_1).applies x e0.platform about1 = true :=
  (Spec.applies_iff w_frames).mpr ⟨w_running, w_runnable, w_alone, w_named, w_hears, w_ripe, w_room, w_tables⟩
theorem atStart : AtStart classFile x code maxLocals ret World_1 tables_1 room_1 Calls_1 rest_1 Pre_1 launch0 p0 e0 about1 theMethod args0 below0 :=
  ⟨lists_1, trivial, launch0.admits_env _ _ _, launch0.least_env, fairChoices_fair.cas, fairChoices_fair.clock, w_frames, w_args, w_heap, w_applies, trivial, trivial, w_case⟩
end start1
theorem witness_1 : WitnessClaimed_1 := ⟨start1.p0, start1.e0, start1.about1, start1.theMethod, start1.args0, start1.below0, start1.atStart⟩
end Jvm.Pilot.@@N@@
