import JvmDerived
import JvmDerived.Pilot.@@N@@Statement
import JvmDerived.Pilot.@@N@@Code
set_option linter.unusedVariables false
set_option linter.unusedSimpArgs false
namespace Jvm.RoadKit
open Sem ClassFile Op Lib Jvm.Stand Jvm.Free Jvm.LawKit
section New
variable {p : Program} {l : Launch} {e : Env} {R : Room} {s : State} {m : MethodId} {args : Array Value} {below : List Frame} {meth : Method} {c : Code} {T : State} {locs : List Loc} {cells slots : Nat}
theorem retI (X : Stand p l e R s m args below meth c T locs cells slots) (hx : p.tables.exec = Jvm.exec) {pc : Nat} {Ls : Array Slot} {z : Int32} {rest : List Value} (hret : meth.sig.returnType = some .int) (hd : decode c.code pc = .ok (.ireturn, 1)) {fs : List Frame}
    (hl : ∀ (f : JFrame) (acts : List Action), f.method = m → f.locked = none → f.entered = [] → (doReturn e (T.setTop f) acts (some (.int z))).1 = T.setFrames fs) : Steps p.tables e below (T.setTop (mkF m pc Ls (.int z :: rest))) (T.setFrames fs) := by
  have hm' : T.vm.method? m = some meth := X.method'
  have hn : narrow .int (.int z) = .int z := rfl
  show Steps p.tables e below (T.setTop { method := m, pc := pc, locals := Ls, stack := _ :: rest, locked := none }) _
  jvm_step X.here [X.here.top, hx, hd, hm', hret, hn]
  first | (intro acts; rw [hl _ acts rfl rfl rfl]) | rw [hl _ _ rfl rfl rfl]
  exact Steps.refl _
end New
end Jvm.RoadKit
namespace Jvm.Pilot.@@N@@
open Jvm Jvm.ClassFile Sem Op Lib Jvm.Free Jvm.Stand Jvm.LawKit Jvm.RoadKit Bundle Jvm.Pilot.@@N@@.Jvm.D
/-- the run from here ends well -/
def own_Go (tb : Tables) (e : Env) (below : List Frame) (P : Outcome → State → Prop) (T : State) (f : JFrame) : Prop := ∃ s₂ o, Steps tb e below (T.setTop f) s₂ ∧ s₂.status = .running ∧ Ended s₂ below o ∧ P o s₂
theorem own_go {tb : Tables} {e : Env} {below : List Frame} {P : Outcome → State → Prop} {T T' : State} {f f' : JFrame} (k : ∀ t, Steps tb e below (T'.setTop f') t → Steps tb e below (T.setTop f) t) (h : own_Go tb e below P T' f') : own_Go tb e below P T f := by
  obtain ⟨s₂, o, h1, h2⟩ := h
  exact ⟨s₂, o, k _ h1, h2⟩
theorem own_keep1 {h0 h h' : Heap} {ws : List Addr} {b : Addr} (K : Keep h0 h ws) (K' : Keep h h' [b]) (q : h0.size ≤ b) : Keep h0 h' ws := K.trans K' fun x hx => Or.inr (by cases List.mem_singleton.mp hx; exact q)
theorem own_eqi {a b : Term} {args : Array Value} {first s : State} {o : Option Outcome} {idx : List Nat} {y : Int32} (h : (Jvm.Cond.eq a b).value args first o s idx = some true) (hb : b.eval args first o idx s = some (.int y)) : a.eval args first o idx s = some (.int y) := by
  cases ha : a.eval args first o idx s with
  | none => simp [Cond.value, ha] at h
  | some x => cases x <;> simp [Cond.value, ha, hb] at h; subst h; rfl
theorem own_not1 {a b : Addr} (q : a ≠ b) : a ∉ [b] := fun h => q (List.mem_singleton.mp h)
def own_PW (s : State) (Q : Option Value → Heap → List Loc → Prop) (k n : Nat) (o : Outcome) (U : State) : Prop := ∃ v L, o = .returned v ∧ Q v U.heap L ∧ ReturnedEndW s o U L k n
def own_P (s : State) (Q : Option Value → Heap → List Loc → Prop) (k n : Nat) (o : Outcome) (U : State) : Prop := ∃ v L, o = .returned v ∧ Q v U.heap L ∧ FrameEnd s o U L k n
/-- the array at a has n places; place k holds f k -/
def own_Av (Z : State) (h : Heap) (a : Addr) (ty : FieldType) (n : Nat) (f : Nat → Value) : Prop := ∃ c : Cell, Arr Z h a c ty ∧ c.slots.size = n ∧ ∀ k, k < n → c.slots[k]? = some (f k)
theorem own_Av.lt {Z : State} {h : Heap} {a : Addr} {ty : FieldType} {n : Nat} {f : Nat → Value} (F : own_Av Z h a ty n f) : a < h.size := by obtain ⟨c, A, -⟩ := F; exact A.lt
theorem own_Av.ext {Z : State} {h h' : Heap} {a : Addr} {ty : FieldType} {n : Nat} {f : Nat → Value} (F : own_Av Z h a ty n f) (E : Ext h h') : own_Av Z h' a ty n f := by obtain ⟨c, A, r⟩ := F; exact ⟨c, A.ext E, r⟩
theorem own_Av.other {Z : State} {h h' : Heap} {a b : Addr} {ty : FieldType} {n sl : Nat} {v : Value} {f : Nat → Value} (F : own_Av Z h b ty n f) (W : Wr h h' a sl v) (q : b ≠ a) : own_Av Z h' b ty n f := by obtain ⟨c, A, r⟩ := F; exact ⟨c, A.other W q, r⟩
theorem own_Av.keep {Z : State} {h h' : Heap} {a : Addr} {ty : FieldType} {n : Nat} {ws : List Addr} {f : Nat → Value} (F : own_Av Z h a ty n f) (K : Keep h h' ws) (q : a ∉ ws) : own_Av Z h' a ty n f := by obtain ⟨c, A, r⟩ := F; exact ⟨c, ⟨K.2.1 a c A.1 q, A.2⟩, r⟩
theorem own_Av.new {Z : State} {h : Heap} {a : Addr} {ty : FieldType} {k : ClassId} {z : Int32} {n : Nat} (A : Arr Z h a (newA k ty z) ty) (hz : z.toNatClampNeg = n) : own_Av Z h a ty n (fun _ => defaultValue ty) := by
  refine ⟨_, A, (sz_new _ _ _).trans hz, fun i hi => ?_⟩
  subst hz
  simp [newA, hi]
theorem own_Av.set {Z : State} {h h' : Heap} {a : Addr} {ty : FieldType} {n i j : Nat} {v : Value} {f : Nat → Value} (F : own_Av Z h a ty n f) (W : Wr h h' a j v) (hj : j = i) : own_Av Z h' a ty n (fun k => if k = i then v else f k) := by
  subst hj
  obtain ⟨c, A, S, G⟩ := F
  have hlt : j < c.slots.size := by
    obtain ⟨cell, h1, h2, h3, -⟩ := W
    cases A.1.symm.trans h1; exact h3
  refine ⟨_, A.same W, (sz_set _ _ _).trans S, fun k hk => ?_⟩
  by_cases q : k = j
  · subst q; simp [Cell.setSlot, hlt]
  · show (c.setSlot j v).slots[k]? = some (if k = j then v else f k)
    rw [if_neg q, ← G k hk]; simp [Cell.setSlot, Array.getElem?_setIfInBounds, Ne.symm q]
theorem own_Av.eq {Z : State} {h : Heap} {a : Addr} {ty : FieldType} {n : Nat} {f g : Nat → Value} (F : own_Av Z h a ty n f) (q : ∀ k, k < n → f k = g k) : own_Av Z h a ty n g := by
  obtain ⟨c, A, S, G⟩ := F
  exact ⟨c, A, S, fun k hk => by rw [G k hk, q k hk]⟩
theorem own_inb {c : Cell} {n i : Nat} {j : Int32} (S : c.slots.size = n) (hj : ¬ j < 0 ∧ j.toNatClampNeg = i) (hi : i < n) : ¬ (j < 0 ∨ c.slots.size ≤ j.toNatClampNeg) := by
  rw [S, hj.2]
  exact fun q => q.elim hj.1 (Nat.not_le.mpr hi)
theorem own_at {c : Cell} {n i : Nat} {j : Int32} {f : Nat → Value} {v : Value} (G : ∀ k, k < n → c.slots[k]? = some (f k)) (hj : ¬ j < 0 ∧ j.toNatClampNeg = i) (hi : i < n) (hv : f i = v) : c.slots[j.toNatClampNeg]? = some v := by
  rw [hj.2, G i hi, hv]
theorem own_nat {i : Nat} (h : i < 2 ^ 31) : ¬ Int32.ofNat i < 0 ∧ (Int32.ofNat i).toNatClampNeg = i := by
  have e : (Int32.ofNat i).toInt = i := Int32.toInt_ofNat_of_lt h
  refine ⟨?_, ?_⟩
  · rw [Int32.lt_iff_toInt_lt, e, Int32.toInt_zero]; omega
  · show (Int32.ofNat i).toInt.toNat = i
    rw [e]; rfl
theorem own_NSroot {Z : State} {a0 : Array Value} {O K : String} {n : Nat} (w : (Jvm.Cond.noSuperclass O).before a0 Z = true) (wk : (Jvm.Cond.instantiable K n).before a0 Z = true) (hn : O ≠ K) : NS Z O K := by
  obtain ⟨c, k, h1, h2, h3, -, -⟩ := Cond.noSuperclass_spec w
  obtain ⟨t, kt, g1, -⟩ := Cond.instantiable_spec wk
  have ne := ids_ne h1 g1 hn
  refine ⟨c, t, h1, g1, fun fuel => ?_⟩
  cases fuel with
  | zero => rfl
  | succ f => simp [Vm.isSubclassAux, ne, h2, h3]
theorem own_NSno {Z : State} {a0 : Array Value} {C S K : String} {n : Nat} (w : (Jvm.Cond.superclass C S).before a0 Z = true) (wk : (Jvm.Cond.instantiable K n).before a0 Z = true) (q : NS Z C K) (hn : C ≠ K) : ∃ c t, Z.vm.findClass C = some c ∧ Z.vm.findClass K = some t ∧ Z.vm.assignable c t = false := by
  obtain ⟨c, t, h0, g0, n3⟩ := q
  obtain ⟨p, k, kp, h1, h2, h3, h4, h5, -, h7⟩ := Cond.superclass_spec h0 w
  obtain ⟨t', kt, g1, g2, g3, g4, -⟩ := Cond.instantiable_spec wk
  cases g0.symm.trans g1
  have g4' : kt.isInterface = false := by
    cases q : kt.isInterface
    · rfl
    · simp [q] at g4
  have ne := ids_ne h0 g0 hn
  refine ⟨c, t, h0, g0, ?_⟩
  show Z.vm.assignableAux (255 + 1) c t = false
  simp [Vm.assignableAux, ne, h2, g2, h5, g3, g4', Vm.isSubclass, n3]
theorem own_len {args : Array Value} {s : State} {t : Term} {a : Addr} {cl : Cell} {n : Int32} (h : (Term.length t).eval args s none [] s = some (.int n)) (ht : t.eval args s none [] s = some (.ref a)) (ha : s.arrayAt? a = some cl) : cl.slots.size < 2 ^ 31 ∧ cl.slots.size.toInt32 = n := by
  simp [Term.eval, ht, ha] at h
  exact ⟨by omega, h.2⟩
def own_max (a b : Int64) : Int64 := if a < b then b else a
def own_eq (b1 b2 : Int64) (h1 h2 : Int32) : Int32 := if b1 = b2 then if h1 = h2 then 1 else 0 else 0
theorem own_eq_comm (b1 b2 : Int64) (h1 h2 : Int32) : own_eq b2 b1 h2 h1 = own_eq b1 b2 h1 h2 := by
  unfold own_eq
  by_cases a : b1 = b2
  · subst a
    by_cases b : h1 = h2
    · subst b; rfl
    · simp [b, Ne.symm b]
  · simp [a, Ne.symm a]
theorem own_eq_self (b1 : Int64) (h1 : Int32) : ¬ own_eq b1 b1 h1 h1 = 0 := by unfold own_eq; simp
theorem own_max1 (b : Int64) : ¬ own_max 1 b < 1 := by
  unfold own_max
  by_cases h : 1 < b
  · rw [if_pos h]; rw [Int64.lt_iff_toInt_lt] at *; omega
  · rw [if_neg h]; rw [Int64.lt_iff_toInt_lt]; omega
theorem own_hash (x : Int32) : ¬ (x &&& 2147483647) % 1075 + 1 < 1 ∧ ¬ 1075 < (x &&& 2147483647) % 1075 + 1 := by
  have h1 : (x &&& 2147483647).toBitVec.toNat ≤ (2147483647 : Int32).toBitVec.toNat := by rw [Int32.toBitVec_and, BitVec.toNat_and]; exact Nat.and_le_right
  have e2 : (2147483647 : Int32).toBitVec.toNat = 2147483647 := by decide
  have e1 : (x &&& 2147483647).toInt = (x &&& 2147483647).toBitVec.toNat := BitVec.toInt_eq_toNat_of_lt (by omega)
  have m : ((x &&& 2147483647) % 1075).toInt = (x &&& 2147483647).toInt % 1075 := by
    rw [Int32.toInt_mod, show (1075 : Int32).toInt = 1075 from by decide]
    exact Int.tmod_eq_emod_of_nonneg (by omega)
  have r0 := Int.emod_nonneg (x &&& 2147483647).toInt (b := 1075) (by omega)
  have r1 := Int.emod_lt_of_pos (x &&& 2147483647).toInt (b := 1075) (by omega)
  have a : ((x &&& 2147483647) % 1075 + 1).toInt = (x &&& 2147483647).toInt % 1075 + 1 := by
    rw [Int32.toInt_add, m, show (1 : Int32).toInt = 1 from by decide, Int.bmod_eq_of_le] <;> omega
  rw [Int32.lt_iff_toInt_lt, Int32.lt_iff_toInt_lt, a, show (1 : Int32).toInt = 1 from by decide, show (1075 : Int32).toInt = 1075 from by decide]
  omega
theorem own_idx {p : Int32} (h1 : ¬ p < -128) (h2 : ¬ 127 < p) : (¬ p + 128 < 0 ∧ (p + 128).toNatClampNeg = (p + 128).toInt.toNat) ∧ (p + 128).toInt.toNat < 256 := by
  rw [Int32.lt_iff_toInt_lt, show (-128 : Int32).toInt = -128 from by decide] at h1
  rw [Int32.lt_iff_toInt_lt, show (127 : Int32).toInt = 127 from by decide] at h2
  have a : (p + 128).toInt = p.toInt + 128 := by rw [Int32.toInt_add, show (128 : Int32).toInt = 128 from by decide, Int.bmod_eq_of_le] <;> omega
  refine ⟨⟨?_, rfl⟩, by omega⟩
  rw [Int32.lt_iff_toInt_lt, a, Int32.toInt_zero]; omega
theorem d1_0 : decode jdk_29_method_66_code 0 = .ok (.lload_n 0, 1) := by decide +kernel
theorem d1_1 : decode jdk_29_method_66_code 1 = .ok (.lload_n 2, 1) := by decide +kernel
theorem d1_2 : decode jdk_29_method_66_code 2 = .ok (.lcmp, 1) := by decide +kernel
theorem d1_3 : decode jdk_29_method_66_code 3 = .ok (.ifCond .lt 7, 3) := by decide +kernel
theorem d1_6 : decode jdk_29_method_66_code 6 = .ok (.lload_n 0, 1) := by decide +kernel
theorem d1_7 : decode jdk_29_method_66_code 7 = .ok (.goto 4, 3) := by decide +kernel
theorem d1_10 : decode jdk_29_method_66_code 10 = .ok (.lload_n 2, 1) := by decide +kernel
theorem d1_11 : decode jdk_29_method_66_code 11 = .ok (.lreturn, 1) := by decide +kernel
theorem ef_1 (m : MethodId) {q1 : Int64} {q2 : Int64} : entryFrame m #[(.long q1), (.long q2)] 4 = mkF m 0 #[.val (.long q1), .second, .val (.long q2), .second] [] := by first | (simp [entryFrame, mkF, argsToLocals, Value.category]; done) | rfl
def Q1 (Z : State) (q1 : Int64) (q2 : Int64) (h0 : Heap) (n0 : Nat) (v : Option Value) (h : Heap) (L : List Loc) : Prop := v = some (.long (own_max q1 q2)) ∧ Fr n0 L ∧ h = h0
set_option maxRecDepth 65536 in
set_option maxHeartbeats 40000000 in
theorem rm1 (l : Launch) (Z : State) (a0 : Array Value) (hw : ∀ d ∈ tables_1, d.before a0 Z = true) (ws : List Jvm.Cond) (q1 : Int64) (q2 : Int64) (h0 : Heap) (n0 : Nat) (Z0 : n0 ≤ h0.size) :
    MetFree l (⟨"java/lang/Math", "max", "(JJ)J"⟩ : MethodName) (head1 (Jvm.Cond.code (⟨"java/lang/Math", "max", "(JJ)J"⟩ : MethodName) jdk_29_method_66_code 4 (some .long) :: ws) ({ frames := 0, cells := 0, slots := 0, locals := 0 } : Room)) (fun a U => a = #[(.long q1), (.long q2)] ∧ Z.Warmed39 U.vm ∧ U.heap = h0) (fun _ _ _ _ _ => True) (fun _ U o U' => ∃ v L, o = .returned v ∧ Q1 Z q1 q2 h0 n0 v U'.heap L ∧ FrameEnd U o U' L (({ frames := 0, cells := 0, slots := 0, locals := 0 } : Room)).cells (({ frames := 0, cells := 0, slots := 0, locals := 0 } : Room)).slots) := by
  refine MetFree.of_bodySF (Jvm.Free.JP.mathPlain rfl (by decide +kernel)) hisR ?_
  intro p e s m args below meth c s₁ Bd hml0 hP hK
  obtain ⟨rfl, hZ, hh⟩ := hP
  have hx := Bd.exec
  have hby := Bd.bytes
  have hml : c.maxLocals = 4 := hml0
  have hown : s.vm.findClass "java/lang/Math" = some m.cls := findClass_of_methodNamed Bd.named
  have hnm := (name_of_methodNamed Bd.named Bd.method).1
  have X0 : Stand p l e ({ frames := 0, cells := 0, slots := 0, locals := 0 } : Room) s m #[(.long q1), (.long q2)] below meth c s₁ [] 0 0 := Stand.of_body Bd
  have e0 : s₁.heap = h0 := by rw [← hh, Bd.state]; rfl
  have N0 := Fr.nil n0
  show own_Go p.tables e below (own_P s (Q1 Z q1 q2 h0 n0) ({ frames := 0, cells := 0, slots := 0, locals := 0 } : Room).cells ({ frames := 0, cells := 0, slots := 0, locals := 0 } : Room).slots) s₁ _
  rw [ef_1]
  show own_Go p.tables e below _ s₁ (mkF m 0 #[.val (.long q1), .second, .val (.long q2), .second] [])
  refine own_go (fun tz kz => XT.lloadN X0.here hx rfl (hb hby d1_0) rfl kz) ?_
  show own_Go p.tables e below _ s₁ (mkF m 1 #[.val (.long q1), .second, .val (.long q2), .second] [(.long q1)])
  refine own_go (fun tz kz => XT.lloadN X0.here hx rfl (hb hby d1_1) rfl kz) ?_
  show own_Go p.tables e below _ s₁ (mkF m 2 #[.val (.long q1), .second, .val (.long q2), .second] [(.long q2), (.long q1)])
  refine own_go (fun tz kz => XT.lcmp X0.here hx rfl (hb hby d1_2) rfl kz) ?_
  show own_Go p.tables e below _ s₁ (mkF m 3 #[.val (.long q1), .second, .val (.long q2), .second] [(.int (XT.cmpL q1 q2))])
  by_cases hc : q1 < q2
  ·
    refine own_go (fun tz kz => XS.ifYes X0.here hx rfl (pc0 := 3) (pc' := 10) rfl (hb hby d1_3) rfl (XT.ll_lt_t hc) (by decide) (by decide) kz) ?_
    show own_Go p.tables e below _ s₁ (mkF m 10 #[.val (.long q1), .second, .val (.long q2), .second] [])
    refine own_go (fun tz kz => XT.lloadN X0.here hx rfl (hb hby d1_10) rfl kz) ?_
    show own_Go p.tables e below _ s₁ (mkF m 11 #[.val (.long q1), .second, .val (.long q2), .second] [(.long q2)])
    obtain ⟨fs, hr, hrun, hended, hW, hsame⟩ := X0.leave (v := some (.long q2)) (fun h => by rw [Bd.returns] at h; cases h) (BodyLoose.notSynchronized Bd)
    refine ⟨_, _, ?_, hrun, hended, _, _, rfl, ?_, ⟨_, rfl⟩, hW, hsame.mono (by decide) (by decide)⟩
    · exact X0.lreturnOut hx Bd.returns (hb hby d1_11) hr
    · show Q1 Z q1 q2 h0 n0 _ s₁.heap _
      rw [e0]
      exact ⟨congrArg (fun z => some (Value.long z)) (if_pos hc).symm, N0, rfl⟩
  ·
    refine own_go (fun tz kz => XS.ifNo X0.here hx rfl (hb hby d1_3) rfl (XT.ll_lt_f hc) kz) ?_
    show own_Go p.tables e below _ s₁ (mkF m 6 #[.val (.long q1), .second, .val (.long q2), .second] [])
    refine own_go (fun tz kz => XT.lloadN X0.here hx rfl (hb hby d1_6) rfl kz) ?_
    show own_Go p.tables e below _ s₁ (mkF m 7 #[.val (.long q1), .second, .val (.long q2), .second] [(.long q1)])
    refine own_go (fun tz kz => XS.goto X0.here hx rfl (pc0 := 7) (pc' := 11) rfl (hb hby d1_7) (by decide) (by decide) kz) ?_
    show own_Go p.tables e below _ s₁ (mkF m 11 #[.val (.long q1), .second, .val (.long q2), .second] [(.long q1)])
    obtain ⟨fs, hr, hrun, hended, hW, hsame⟩ := X0.leave (v := some (.long q1)) (fun h => by rw [Bd.returns] at h; cases h) (BodyLoose.notSynchronized Bd)
    refine ⟨_, _, ?_, hrun, hended, _, _, rfl, ?_, ⟨_, rfl⟩, hW, hsame.mono (by decide) (by decide)⟩
    · exact X0.lreturnOut hx Bd.returns (hb hby d1_11) hr
    · show Q1 Z q1 q2 h0 n0 _ s₁.heap _
      rw [e0]
      exact ⟨congrArg (fun z => some (Value.long z)) (if_neg hc).symm, N0, rfl⟩
theorem d2_0 : decode prog_36_method_1_code 0 = .ok (.aload_n 0, 1) := by decide +kernel
theorem d2_1 : decode prog_36_method_1_code 1 = .ok (.invokespecial 1, 3) := by decide +kernel
theorem d2_4 : decode prog_36_method_1_code 4 = .ok (.lload_n 1, 1) := by decide +kernel
theorem d2_5 : decode prog_36_method_1_code 5 = .ok (.lconst 1, 1) := by decide +kernel
theorem d2_6 : decode prog_36_method_1_code 6 = .ok (.lcmp, 1) := by decide +kernel
theorem d2_7 : decode prog_36_method_1_code 7 = .ok (.ifCond .ge 17, 3) := by decide +kernel
theorem d2_10 : decode prog_36_method_1_code 10 = .ok (.new 7, 3) := by decide +kernel
theorem d2_13 : decode prog_36_method_1_code 13 = .ok (.dup, 1) := by decide +kernel
theorem d2_14 : decode prog_36_method_1_code 14 = .ok (.lload_n 1, 1) := by decide +kernel
theorem d2_15 : decode prog_36_method_1_code 15 = .ok (.invokedynamic 9, 5) := by decide +kernel
theorem d2_20 : decode prog_36_method_1_code 20 = .ok (.invokespecial 13, 3) := by decide +kernel
theorem d2_23 : decode prog_36_method_1_code 23 = .ok (.athrow, 1) := by decide +kernel
theorem d2_24 : decode prog_36_method_1_code 24 = .ok (.iload_n 3, 1) := by decide +kernel
theorem d2_25 : decode prog_36_method_1_code 25 = .ok (.iconst 1, 1) := by decide +kernel
theorem d2_26 : decode prog_36_method_1_code 26 = .ok (.if_icmp .lt 10, 3) := by decide +kernel
theorem d2_29 : decode prog_36_method_1_code 29 = .ok (.iload_n 3, 1) := by decide +kernel
theorem d2_30 : decode prog_36_method_1_code 30 = .ok (.getstatic 16, 3) := by decide +kernel
theorem d2_33 : decode prog_36_method_1_code 33 = .ok (.if_icmp .le 20, 3) := by decide +kernel
theorem d2_36 : decode prog_36_method_1_code 36 = .ok (.new 7, 3) := by decide +kernel
theorem d2_39 : decode prog_36_method_1_code 39 = .ok (.dup, 1) := by decide +kernel
theorem d2_40 : decode prog_36_method_1_code 40 = .ok (.getstatic 16, 3) := by decide +kernel
theorem d2_43 : decode prog_36_method_1_code 43 = .ok (.iload_n 3, 1) := by decide +kernel
theorem d2_44 : decode prog_36_method_1_code 44 = .ok (.invokedynamic 22, 5) := by decide +kernel
theorem d2_49 : decode prog_36_method_1_code 49 = .ok (.invokespecial 13, 3) := by decide +kernel
theorem d2_52 : decode prog_36_method_1_code 52 = .ok (.athrow, 1) := by decide +kernel
theorem d2_53 : decode prog_36_method_1_code 53 = .ok (.aload_n 0, 1) := by decide +kernel
theorem d2_54 : decode prog_36_method_1_code 54 = .ok (.lload_n 1, 1) := by decide +kernel
theorem d2_55 : decode prog_36_method_1_code 55 = .ok (.putfield 25, 3) := by decide +kernel
theorem d2_58 : decode prog_36_method_1_code 58 = .ok (.aload_n 0, 1) := by decide +kernel
theorem d2_59 : decode prog_36_method_1_code 59 = .ok (.iload_n 3, 1) := by decide +kernel
theorem d2_60 : decode prog_36_method_1_code 60 = .ok (.putfield 29, 3) := by decide +kernel
theorem d2_63 : decode prog_36_method_1_code 63 = .ok (.return_, 1) := by decide +kernel
theorem pn_1 : plainName "com/example/bit_sieve/bitsieve/FilterSize" = true := by first | (simp [plainName, overriddenIn]; done) | decide +kernel
theorem ef_2 (m : MethodId) {a1 : Addr} {q2 : Int64} {p3 : Int32} : entryFrame m #[(.ref a1), (.long q2), (.int p3)] 4 = mkF m 0 #[.val (.ref a1), .val (.long q2), .second, .val (.int p3)] [] := by first | (simp [entryFrame, mkF, argsToLocals, Value.category]; done) | rfl
def Q2 (Z : State) (a1 : Addr) (q2 : Int64) (p3 : Int32) (u_bits : Value) (u_hashes : Value) (h0 : Heap) (n0 : Nat) (v : Option Value) (h : Heap) (L : List Loc) : Prop := v = none ∧ Fr n0 L ∧ Keep h0 h [a1] ∧ Exa Z h a1 "com/example/bit_sieve/bitsieve/FilterSize" ∧ Fld Z h a1 "com/example/bit_sieve/bitsieve/FilterSize" "bits" "J" (.long q2) ∧ Fld Z h a1 "com/example/bit_sieve/bitsieve/FilterSize" "hashes" "I" (.int p3)
set_option maxRecDepth 65536 in
set_option maxHeartbeats 40000000 in
theorem rm2 (l : Launch) (Z : State) (a0 : Array Value) (hw : ∀ d ∈ tables_1, d.before a0 Z = true) (ws : List Jvm.Cond) (a1 : Addr) (q2 : Int64) (p3 : Int32) (u_bits : Value) (u_hashes : Value) (h0 : Heap) (n0 : Nat) (Z0 : n0 ≤ h0.size) (F_bits : Fld Z h0 a1 "com/example/bit_sieve/bitsieve/FilterSize" "bits" "J" u_bits) (F_hashes : Fld Z h0 a1 "com/example/bit_sieve/bitsieve/FilterSize" "hashes" "I" u_hashes) (Ex : Exa Z h0 a1 "com/example/bit_sieve/bitsieve/FilterSize") (g : n0 ≤ a1) (h1 : ¬ q2 < 1) (h2 : ¬ p3 < 1) (SM : Sta Z h0 "com/example/bit_sieve/bitsieve/FilterSize" "MOST_HASHES" "I" (.int 1075)) (h3 : ¬ (1075 : Int32) < p3) :
    MetFree l (⟨"com/example/bit_sieve/bitsieve/FilterSize", "<init>", "(JI)V"⟩ : MethodName) (head1 (Jvm.Cond.code (⟨"com/example/bit_sieve/bitsieve/FilterSize", "<init>", "(JI)V"⟩ : MethodName) prog_36_method_1_code 4 none :: ws) ({ frames := 1, cells := 0, slots := 0, locals := 12 } : Room)) (fun a U => a = #[(.ref a1), (.long q2), (.int p3)] ∧ Z.Warmed39 U.vm ∧ U.heap = h0) (fun _ _ _ _ _ => True) (fun _ U o U' => ∃ v L, o = .returned v ∧ Q2 Z a1 q2 p3 u_bits u_hashes h0 n0 v U'.heap L ∧ FrameEnd U o U' L (({ frames := 1, cells := 0, slots := 0, locals := 12 } : Room)).cells (({ frames := 1, cells := 0, slots := 0, locals := 12 } : Room)).slots) := by
  refine MetFree.of_bodySF (plainFor_of_name pn_1) hisR ?_
  intro p e s m args below meth c s₁ Bd hml0 hP hK
  obtain ⟨rfl, hZ, hh⟩ := hP
  have hx := Bd.exec
  have hby := Bd.bytes
  have hml : c.maxLocals = 4 := hml0
  have hown : s.vm.findClass "com/example/bit_sieve/bitsieve/FilterSize" = some m.cls := findClass_of_methodNamed Bd.named
  have hnm := (name_of_methodNamed Bd.named Bd.method).1
  have X0 : Stand p l e ({ frames := 1, cells := 0, slots := 0, locals := 12 } : Room) s m #[(.ref a1), (.long q2), (.int p3)] below meth c s₁ [] 0 0 := Stand.of_body Bd
  have e0 : s₁.heap = h0 := by rw [← hh, Bd.state]; rfl
  have N0 := Fr.nil n0
  show own_Go p.tables e below (own_P s (Q2 Z a1 q2 p3 u_bits u_hashes h0 n0) ({ frames := 1, cells := 0, slots := 0, locals := 12 } : Room).cells ({ frames := 1, cells := 0, slots := 0, locals := 12 } : Room).slots) s₁ _
  rw [ef_2]
  show own_Go p.tables e below _ s₁ (mkF m 0 #[.val (.ref a1), .val (.long q2), .second, .val (.int p3)] [])
  refine own_go (fun tz kz => XS.aloadN X0.here hx rfl (hb hby d2_0) rfl rfl kz) ?_
  show own_Go p.tables e below _ s₁ (mkF m 1 #[.val (.ref a1), .val (.long q2), .second, .val (.int p3)] [(.ref a1)])
  obtain ⟨T1, X1, e1, st1⟩ := initO X0 hx hZ hown (hw _ (List.mem_of_getElem? (i := 12) rfl)) (hw _ (List.mem_of_getElem? (i := 13) rfl)) (hw _ (List.mem_of_getElem? (i := 14) rfl)) e0 (g := (mkF m 1 #[.val (.ref a1), .val (.long q2), .second, .val (.int p3)] [(.ref a1)])) rfl (by rw [hml]; rfl) rfl (hb hby d2_1) (by decide) (W := 0) (by show 2 * 0 + _ ≤ _; exact Nat.le_of_eq rfl) (by decide)
  refine own_go st1 ?_
  show own_Go p.tables e below _ T1 (mkF m 4 #[.val (.ref a1), .val (.long q2), .second, .val (.int p3)] [])
  refine own_go (fun tz kz => XT.lloadN X1.here hx rfl (hb hby d2_4) rfl kz) ?_
  show own_Go p.tables e below _ T1 (mkF m 5 #[.val (.ref a1), .val (.long q2), .second, .val (.int p3)] [(.long q2)])
  refine own_go (fun tz kz => XT.lconst X1.here hx rfl (hb hby d2_5) kz) ?_
  show own_Go p.tables e below _ T1 (mkF m 6 #[.val (.ref a1), .val (.long q2), .second, .val (.int p3)] [(.long (1 : Int64)), (.long q2)])
  refine own_go (fun tz kz => XT.lcmp X1.here hx rfl (hb hby d2_6) rfl kz) ?_
  show own_Go p.tables e below _ T1 (mkF m 7 #[.val (.ref a1), .val (.long q2), .second, .val (.int p3)] [(.int (XT.cmpL q2 (1 : Int64)))])
  refine own_go (fun tz kz => XS.ifYes X1.here hx rfl (pc0 := 7) (pc' := 24) rfl (hb hby d2_7) rfl (XT.ll_ge_t h1) (by decide) (by decide) kz) ?_
  show own_Go p.tables e below _ T1 (mkF m 24 #[.val (.ref a1), .val (.long q2), .second, .val (.int p3)] [])
  refine own_go (fun tz kz => XS.iloadN X1.here hx rfl (hb hby d2_24) rfl kz) ?_
  show own_Go p.tables e below _ T1 (mkF m 25 #[.val (.ref a1), .val (.long q2), .second, .val (.int p3)] [(.int p3)])
  refine own_go (fun tz kz => XS.iconst X1.here hx rfl (hb hby d2_25) kz) ?_
  show own_Go p.tables e below _ T1 (mkF m 26 #[.val (.ref a1), .val (.long q2), .second, .val (.int p3)] [(.int (1 : Int32)), (.int p3)])
  refine own_go (fun tz kz => XS.icmpNo X1.here hx rfl (hb hby d2_26) rfl (XT.ii_lt_f h2) kz) ?_
  show own_Go p.tables e below _ T1 (mkF m 29 #[.val (.ref a1), .val (.long q2), .second, .val (.int p3)] [])
  refine own_go (fun tz kz => XS.iloadN X1.here hx rfl (hb hby d2_29) rfl kz) ?_
  show own_Go p.tables e below _ T1 (mkF m 30 #[.val (.ref a1), .val (.long q2), .second, .val (.int p3)] [(.int p3)])
  obtain ⟨T2, X2, e2, st2⟩ := getS2 X1 hx hZ hown (host := "") (Or.inl (hw _ (List.mem_of_getElem? (i := 15) rfl))) Via.refl e1 SM (g := (mkF m 30 #[.val (.ref a1), .val (.long q2), .second, .val (.int p3)] [(.int p3)])) rfl (hb hby d2_30)
  refine own_go st2 ?_
  show own_Go p.tables e below _ T2 (mkF m 33 #[.val (.ref a1), .val (.long q2), .second, .val (.int p3)] [(.int (1075 : Int32)), (.int p3)])
  refine own_go (fun tz kz => XS.icmpYes X2.here hx rfl (pc0 := 33) (pc' := 53) rfl (hb hby d2_33) rfl (XT.ii_le_t h3) (by decide) (by decide) kz) ?_
  show own_Go p.tables e below _ T2 (mkF m 53 #[.val (.ref a1), .val (.long q2), .second, .val (.int p3)] [])
  refine own_go (fun tz kz => XS.aloadN X2.here hx rfl (hb hby d2_53) rfl rfl kz) ?_
  show own_Go p.tables e below _ T2 (mkF m 54 #[.val (.ref a1), .val (.long q2), .second, .val (.int p3)] [(.ref a1)])
  refine own_go (fun tz kz => XT.lloadN X2.here hx rfl (hb hby d2_54) rfl kz) ?_
  show own_Go p.tables e below _ T2 (mkF m 55 #[.val (.ref a1), .val (.long q2), .second, .val (.int p3)] [(.long q2), (.ref a1)])
  obtain ⟨T3, h3, X3, e3, W3, st3⟩ := putF X2 hx hZ hown (host := "") (Or.inl (hw _ (List.mem_of_getElem? (i := 17) rfl))) Via.refl e2 F_bits Ex (Or.inr ⟨(hw _ (List.mem_of_getElem? (i := 18) rfl)), rfl, hnm⟩) (hw _ (List.mem_of_getElem? (i := 7) rfl)) (ty := .long) (by decide) rfl rfl (g := (mkF m 55 #[.val (.ref a1), .val (.long q2), .second, .val (.int p3)] [(.long q2), (.ref a1)])) rfl rfl (hb hby d2_55)
  have Fw3 := F_bits.same W3
  have N3 := Fr.snoc X3 N0 g
  refine own_go st3 ?_
  show own_Go p.tables e below _ T3 (mkF m 58 #[.val (.ref a1), .val (.long q2), .second, .val (.int p3)] [])
  refine own_go (fun tz kz => XS.aloadN X3.here hx rfl (hb hby d2_58) rfl rfl kz) ?_
  show own_Go p.tables e below _ T3 (mkF m 59 #[.val (.ref a1), .val (.long q2), .second, .val (.int p3)] [(.ref a1)])
  refine own_go (fun tz kz => XS.iloadN X3.here hx rfl (hb hby d2_59) rfl kz) ?_
  show own_Go p.tables e below _ T3 (mkF m 60 #[.val (.ref a1), .val (.long q2), .second, .val (.int p3)] [(.int p3), (.ref a1)])
  obtain ⟨T4, h4, X4, e4, W4, st4⟩ := putF X3 hx hZ hown (host := "") (Or.inl (hw _ (List.mem_of_getElem? (i := 19) rfl))) Via.refl e3 (F_hashes.other W3 (Or.inr (slot_ne (Or.inr (hw _ (List.mem_of_getElem? (i := 20) rfl))) (Or.inr (hw _ (List.mem_of_getElem? (i := 18) rfl))) (by decide) (t := .int) (t' := .long) (by decide) (by decide)))) (Ex.wr W3) (Or.inr ⟨(hw _ (List.mem_of_getElem? (i := 20) rfl)), rfl, hnm⟩) (hw _ (List.mem_of_getElem? (i := 7) rfl)) (ty := .int) (by decide) rfl rfl (g := (mkF m 60 #[.val (.ref a1), .val (.long q2), .second, .val (.int p3)] [(.int p3), (.ref a1)])) rfl rfl (hb hby d2_60)
  have Fw4 := (F_hashes.other W3 (Or.inr (slot_ne (Or.inr (hw _ (List.mem_of_getElem? (i := 20) rfl))) (Or.inr (hw _ (List.mem_of_getElem? (i := 18) rfl))) (by decide) (t := .int) (t' := .long) (by decide) (by decide)))).same W4
  have N4 := Fr.snoc X4 N3 g
  refine own_go st4 ?_
  show own_Go p.tables e below _ T4 (mkF m 63 #[.val (.ref a1), .val (.long q2), .second, .val (.int p3)] [])
  obtain ⟨fs, hr, hrun, hended, hW, hsame⟩ := X4.leave (v := none) (fun _ => rfl) (BodyLoose.notSynchronized Bd)
  refine ⟨_, _, ?_, hrun, hended, _, _, rfl, ?_, ⟨_, rfl⟩, hW, hsame.mono (by decide) (by decide)⟩
  · exact X4.returnOut hx Bd.returns (hb hby d2_63) hr
  · show Q2 Z a1 q2 p3 u_bits u_hashes h0 n0 _ T4.heap _
    rw [e4]
    exact ⟨rfl, N4, (((Keep.refl _ _).wr W3 (Or.inl (List.mem_of_getElem? (i := 0) rfl))).wr W4 (Or.inl (List.mem_of_getElem? (i := 0) rfl))), ((Ex.wr W3).wr W4), (Fw3.other W4 (Or.inr (slot_ne (Or.inr (hw _ (List.mem_of_getElem? (i := 18) rfl))) (Or.inr (hw _ (List.mem_of_getElem? (i := 20) rfl))) (by decide) (t := .long) (t' := .int) (by decide) (by decide)))), Fw4⟩
theorem d7_0 : decode jdk_18_method_1_code 0 = .ok (.aload_n 0, 1) := by decide +kernel
theorem d7_1 : decode jdk_18_method_1_code 1 = .ok (.invokespecial 1, 3) := by decide +kernel
theorem d7_4 : decode jdk_18_method_1_code 4 = .ok (.return_, 1) := by decide +kernel
theorem pn_2 : plainName "java/lang/Number" = true := by first | (simp [plainName, overriddenIn]; done) | decide +kernel
theorem ef_7 (m : MethodId) {a1 : Addr} : entryFrame m #[(.ref a1)] 1 = mkF m 0 #[.val (.ref a1)] [] := by first | (simp [entryFrame, mkF, argsToLocals, Value.category]; done) | rfl
def Q7 (Z : State) (a1 : Addr) (h0 : Heap) (n0 : Nat) (v : Option Value) (h : Heap) (L : List Loc) : Prop := v = none ∧ Fr n0 L ∧ h = h0
set_option maxRecDepth 65536 in
set_option maxHeartbeats 40000000 in
theorem rm7 (l : Launch) (Z : State) (a0 : Array Value) (hw : ∀ d ∈ tables_1, d.before a0 Z = true) (ws : List Jvm.Cond) (a1 : Addr) (h0 : Heap) (n0 : Nat) (Z0 : n0 ≤ h0.size) :
    MetFree l (⟨"java/lang/Number", "<init>", "()V"⟩ : MethodName) (head1 (Jvm.Cond.code (⟨"java/lang/Number", "<init>", "()V"⟩ : MethodName) jdk_18_method_1_code 1 none :: ws) ({ frames := 1, cells := 0, slots := 0, locals := 12 } : Room)) (fun a U => a = #[(.ref a1)] ∧ Z.Warmed39 U.vm ∧ U.heap = h0) (fun _ _ _ _ _ => True) (fun _ U o U' => ∃ v L, o = .returned v ∧ Q7 Z a1 h0 n0 v U'.heap L ∧ FrameEnd U o U' L (({ frames := 1, cells := 0, slots := 0, locals := 12 } : Room)).cells (({ frames := 1, cells := 0, slots := 0, locals := 12 } : Room)).slots) := by
  refine MetFree.of_bodySF (plainFor_of_name pn_2) hisR ?_
  intro p e s m args below meth c s₁ Bd hml0 hP hK
  obtain ⟨rfl, hZ, hh⟩ := hP
  have hx := Bd.exec
  have hby := Bd.bytes
  have hml : c.maxLocals = 1 := hml0
  have hown : s.vm.findClass "java/lang/Number" = some m.cls := findClass_of_methodNamed Bd.named
  have hnm := (name_of_methodNamed Bd.named Bd.method).1
  have X0 : Stand p l e ({ frames := 1, cells := 0, slots := 0, locals := 12 } : Room) s m #[(.ref a1)] below meth c s₁ [] 0 0 := Stand.of_body Bd
  have e0 : s₁.heap = h0 := by rw [← hh, Bd.state]; rfl
  have N0 := Fr.nil n0
  show own_Go p.tables e below (own_P s (Q7 Z a1 h0 n0) ({ frames := 1, cells := 0, slots := 0, locals := 12 } : Room).cells ({ frames := 1, cells := 0, slots := 0, locals := 12 } : Room).slots) s₁ _
  rw [ef_7]
  show own_Go p.tables e below _ s₁ (mkF m 0 #[.val (.ref a1)] [])
  refine own_go (fun tz kz => XS.aloadN X0.here hx rfl (hb hby d7_0) rfl rfl kz) ?_
  show own_Go p.tables e below _ s₁ (mkF m 1 #[.val (.ref a1)] [(.ref a1)])
  obtain ⟨T1, X1, e1, st1⟩ := initO X0 hx hZ hown (hw _ (List.mem_of_getElem? (i := 50) rfl)) (hw _ (List.mem_of_getElem? (i := 13) rfl)) (hw _ (List.mem_of_getElem? (i := 14) rfl)) e0 (g := (mkF m 1 #[.val (.ref a1)] [(.ref a1)])) rfl (by rw [hml]; rfl) rfl (hb hby d7_1) (by decide) (W := 0) (by show 2 * 0 + _ ≤ _; exact Nat.le_of_eq rfl) (by decide)
  refine own_go st1 ?_
  show own_Go p.tables e below _ T1 (mkF m 4 #[.val (.ref a1)] [])
  obtain ⟨fs, hr, hrun, hended, hW, hsame⟩ := X1.leave (v := none) (fun _ => rfl) (BodyLoose.notSynchronized Bd)
  refine ⟨_, _, ?_, hrun, hended, _, _, rfl, ?_, ⟨_, rfl⟩, hW, hsame.mono (by decide) (by decide)⟩
  · exact X1.returnOut hx Bd.returns (hb hby d7_4) hr
  · show Q7 Z a1 h0 n0 _ T1.heap _
    rw [e1]
    exact ⟨rfl, N0, rfl⟩
theorem d6_0 : decode jdk_33_method_23_code 0 = .ok (.aload_n 0, 1) := by decide +kernel
theorem d6_1 : decode jdk_33_method_23_code 1 = .ok (.invokespecial 202, 3) := by decide +kernel
theorem d6_4 : decode jdk_33_method_23_code 4 = .ok (.aload_n 0, 1) := by decide +kernel
theorem d6_5 : decode jdk_33_method_23_code 5 = .ok (.iload_n 1, 1) := by decide +kernel
theorem d6_6 : decode jdk_33_method_23_code 6 = .ok (.putfield 205, 3) := by decide +kernel
theorem d6_9 : decode jdk_33_method_23_code 9 = .ok (.return_, 1) := by decide +kernel
theorem pd_0 : parseMethodDescriptor "()V" = some ⟨[], none⟩ := by decide +kernel
theorem pn_3 : plainName "java/lang/Integer" = true := by first | (simp [plainName, overriddenIn]; done) | decide +kernel
theorem ef_6 (m : MethodId) {a1 : Addr} {p2 : Int32} : entryFrame m #[(.ref a1), (.int p2)] 2 = mkF m 0 #[.val (.ref a1), .val (.int p2)] [] := by first | (simp [entryFrame, mkF, argsToLocals, Value.category]; done) | rfl
def Q6 (Z : State) (a1 : Addr) (p2 : Int32) (u_value : Value) (h0 : Heap) (n0 : Nat) (v : Option Value) (h : Heap) (L : List Loc) : Prop := v = none ∧ Fr n0 L ∧ Keep h0 h [a1] ∧ Exa Z h a1 "java/lang/Integer" ∧ Fld Z h a1 "java/lang/Integer" "value" "I" (.int p2)
set_option maxRecDepth 65536 in
set_option maxHeartbeats 40000000 in
theorem rm6 (l : Launch) (Z : State) (a0 : Array Value) (hw : ∀ d ∈ tables_1, d.before a0 Z = true) (ws : List Jvm.Cond) (a1 : Addr) (p2 : Int32) (u_value : Value) (h0 : Heap) (n0 : Nat) (Z0 : n0 ≤ h0.size) (F_value : Fld Z h0 a1 "java/lang/Integer" "value" "I" u_value) (Ex : Exa Z h0 a1 "java/lang/Integer") (g : n0 ≤ a1) :
    MetFree l (⟨"java/lang/Integer", "<init>", "(I)V"⟩ : MethodName) (head1 (Jvm.Cond.code (⟨"java/lang/Integer", "<init>", "(I)V"⟩ : MethodName) jdk_33_method_23_code 2 none :: ws) ({ frames := 2, cells := 0, slots := 0, locals := 24 } : Room)) (fun a U => a = #[(.ref a1), (.int p2)] ∧ Z.Warmed39 U.vm ∧ U.heap = h0) (fun _ _ _ _ _ => True) (fun _ U o U' => ∃ v L, o = .returned v ∧ Q6 Z a1 p2 u_value h0 n0 v U'.heap L ∧ FrameEnd U o U' L (({ frames := 2, cells := 0, slots := 0, locals := 24 } : Room)).cells (({ frames := 2, cells := 0, slots := 0, locals := 24 } : Room)).slots) := by
  refine MetFree.of_bodySF (plainFor_of_name pn_3) hisR ?_
  intro p e s m args below meth c s₁ Bd hml0 hP hK
  obtain ⟨rfl, hZ, hh⟩ := hP
  have hx := Bd.exec
  have hby := Bd.bytes
  have hml : c.maxLocals = 2 := hml0
  have hown : s.vm.findClass "java/lang/Integer" = some m.cls := findClass_of_methodNamed Bd.named
  have hnm := (name_of_methodNamed Bd.named Bd.method).1
  have X0 : Stand p l e ({ frames := 2, cells := 0, slots := 0, locals := 24 } : Room) s m #[(.ref a1), (.int p2)] below meth c s₁ [] 0 0 := Stand.of_body Bd
  have e0 : s₁.heap = h0 := by rw [← hh, Bd.state]; rfl
  have N0 := Fr.nil n0
  show own_Go p.tables e below (own_P s (Q6 Z a1 p2 u_value h0 n0) ({ frames := 2, cells := 0, slots := 0, locals := 24 } : Room).cells ({ frames := 2, cells := 0, slots := 0, locals := 24 } : Room).slots) s₁ _
  rw [ef_6]
  show own_Go p.tables e below _ s₁ (mkF m 0 #[.val (.ref a1), .val (.int p2)] [])
  refine own_go (fun tz kz => XS.aloadN X0.here hx rfl (hb hby d6_0) rfl rfl kz) ?_
  show own_Go p.tables e below _ s₁ (mkF m 1 #[.val (.ref a1), .val (.int p2)] [(.ref a1)])
  obtain ⟨_, _, ⟨T1, L1, k1, n1⟩, -, X1, ⟨Lc1, hQ1, l1, y1, z1⟩, st1⟩ := X0.specialBack hx (y := (⟨"java/lang/Number", "<init>", "()V"⟩ : MethodName)) rfl hown (mvT hZ (hw _ (List.mem_of_getElem? (i := 44) rfl))) (mvT hZ (hw _ (List.mem_of_getElem? (i := 45) rfl))) (mvT hZ (hw _ (List.mem_of_getElem? (i := 49) rfl))) (by decide) (backOf (W := 0) (rm7 l Z a0 hw [] a1 h0 n0 Z0) hZ (hw _ (List.mem_of_getElem? (i := 49) rfl)) (hw _ (List.mem_of_getElem? (i := 48) rfl)) (by decide) (by decide)) (g := (mkF m 1 #[.val (.ref a1), .val (.int p2)] [(.ref a1)])) rfl (by rw [hml]; rfl) (Steps.refl _) (a := a1) (argsL := []) (rest := []) (lenOf pd_0 rfl) rfl (by show 2 * 0 + _ ≤ _; exact Nat.le_of_eq rfl) (hb hby d6_1) (fun _ _ => ⟨rfl, e0, (by decide : 0 + 0 ≤ _), (by decide : 0 + 0 ≤ _)⟩)
  dsimp only [Pt.U, Pt.locs, Pt.cells, Pt.slots] at X1 l1 y1 z1 st1 hQ1
  subst l1 y1 z1
  obtain ⟨rfl, N1q, e1⟩ := hQ1
  have N1 := Fr.app N0 N1q
  refine own_go (fun tz kz => st1.trans kz) ?_
  show own_Go p.tables e below _ T1 (mkF m 4 #[.val (.ref a1), .val (.int p2)] [])
  refine own_go (fun tz kz => XS.aloadN X1.here hx rfl (hb hby d6_4) rfl rfl kz) ?_
  show own_Go p.tables e below _ T1 (mkF m 5 #[.val (.ref a1), .val (.int p2)] [(.ref a1)])
  refine own_go (fun tz kz => XS.iloadN X1.here hx rfl (hb hby d6_5) rfl kz) ?_
  show own_Go p.tables e below _ T1 (mkF m 6 #[.val (.ref a1), .val (.int p2)] [(.int p2), (.ref a1)])
  obtain ⟨T2, h2, X2, e2, W2, st2⟩ := putF X1 hx hZ hown (host := "") (Or.inl (hw _ (List.mem_of_getElem? (i := 51) rfl))) Via.refl e1 F_value Ex (Or.inr ⟨(hw _ (List.mem_of_getElem? (i := 52) rfl)), rfl, hnm⟩) (hw _ (List.mem_of_getElem? (i := 39) rfl)) (ty := .int) (by decide) rfl rfl (g := (mkF m 6 #[.val (.ref a1), .val (.int p2)] [(.int p2), (.ref a1)])) rfl rfl (hb hby d6_6)
  have Fw2 := F_value.same W2
  have N2 := Fr.snoc X2 N1 g
  refine own_go st2 ?_
  show own_Go p.tables e below _ T2 (mkF m 9 #[.val (.ref a1), .val (.int p2)] [])
  obtain ⟨fs, hr, hrun, hended, hW, hsame⟩ := X2.leave (v := none) (fun _ => rfl) (BodyLoose.notSynchronized Bd)
  refine ⟨_, _, ?_, hrun, hended, _, _, rfl, ?_, ⟨_, rfl⟩, hW, hsame.mono (by decide) (by decide)⟩
  · exact X2.returnOut hx Bd.returns (hb hby d6_9) hr
  · show Q6 Z a1 p2 u_value h0 n0 _ T2.heap _
    rw [e2]
    exact ⟨rfl, N2, ((Keep.refl _ _).wr W2 (Or.inl (List.mem_of_getElem? (i := 0) rfl))), (Ex.wr W2), Fw2⟩
theorem d4_0 : decode jdk_33_method_22_code 0 = .ok (.iload_n 0, 1) := by decide +kernel
theorem d4_1 : decode jdk_33_method_22_code 1 = .ok (.bipush (-128), 2) := by decide +kernel
theorem d4_3 : decode jdk_33_method_22_code 3 = .ok (.if_icmp .lt 20, 3) := by decide +kernel
theorem d4_6 : decode jdk_33_method_22_code 6 = .ok (.iload_n 0, 1) := by decide +kernel
theorem d4_7 : decode jdk_33_method_22_code 7 = .ok (.getstatic 191, 3) := by decide +kernel
theorem d4_10 : decode jdk_33_method_22_code 10 = .ok (.if_icmp .gt 13, 3) := by decide +kernel
theorem d4_13 : decode jdk_33_method_22_code 13 = .ok (.getstatic 195, 3) := by decide +kernel
theorem d4_16 : decode jdk_33_method_22_code 16 = .ok (.iload_n 0, 1) := by decide +kernel
theorem d4_17 : decode jdk_33_method_22_code 17 = .ok (.sipush 128, 3) := by decide +kernel
theorem d4_20 : decode jdk_33_method_22_code 20 = .ok (.iadd, 1) := by decide +kernel
theorem d4_21 : decode jdk_33_method_22_code 21 = .ok (.aaload, 1) := by decide +kernel
theorem d4_22 : decode jdk_33_method_22_code 22 = .ok (.areturn, 1) := by decide +kernel
theorem d4_23 : decode jdk_33_method_22_code 23 = .ok (.new 1, 3) := by decide +kernel
theorem d4_26 : decode jdk_33_method_22_code 26 = .ok (.dup, 1) := by decide +kernel
theorem d4_27 : decode jdk_33_method_22_code 27 = .ok (.iload_n 0, 1) := by decide +kernel
theorem d4_28 : decode jdk_33_method_22_code 28 = .ok (.invokespecial 199, 3) := by decide +kernel
theorem d4_31 : decode jdk_33_method_22_code 31 = .ok (.areturn, 1) := by decide +kernel
theorem ef_4c (m : MethodId) {p1 : Int32} : entryFrame m #[(.int p1)] 1 = mkF m 0 #[.val (.int p1)] [] := by first | (simp [entryFrame, mkF, argsToLocals, Value.category]; done) | rfl
def Q4c (Z : State) (p1 : Int32) (ca : Addr) (gc : Nat → Addr) (h0 : Heap) (n0 : Nat) (v : Option Value) (h : Heap) (L : List Loc) : Prop := v = some (.ref (gc (p1 + 128).toInt.toNat)) ∧ Fr n0 L ∧ h = h0
set_option maxRecDepth 65536 in
set_option maxHeartbeats 40000000 in
theorem rm4c (l : Launch) (Z : State) (a0 : Array Value) (hw : ∀ d ∈ tables_1, d.before a0 Z = true) (ws : List Jvm.Cond) (p1 : Int32) (ca : Addr) (gc : Nat → Addr) (h0 : Heap) (n0 : Nat) (Z0 : n0 ≤ h0.size) (SH : Sta Z h0 "java/lang/Integer$IntegerCache" "high" "I" (.int 127)) (SC : Sta Z h0 "java/lang/Integer$IntegerCache" "cache" "[Ljava/lang/Integer;" (.ref ca)) (Vc : own_Av Z h0 ca (.object "java/lang/Integer") 256 (fun k => .ref (gc k))) (h1 : ¬ p1 < -128) (h2 : ¬ (127 : Int32) < p1) :
    MetFree l (⟨"java/lang/Integer", "valueOf", "(I)Ljava/lang/Integer;"⟩ : MethodName) (head1 (Jvm.Cond.code (⟨"java/lang/Integer", "valueOf", "(I)Ljava/lang/Integer;"⟩ : MethodName) jdk_33_method_22_code 1 (some (.object "java/lang/Integer")) :: ws) ({ frames := 0, cells := 1, slots := 1, locals := 0 } : Room)) (fun a U => a = #[(.int p1)] ∧ Z.Warmed39 U.vm ∧ U.heap = h0) (fun _ _ _ _ _ => True) (fun _ U o U' => ∃ v L, o = .returned v ∧ Q4c Z p1 ca gc h0 n0 v U'.heap L ∧ FrameEnd U o U' L (({ frames := 0, cells := 1, slots := 1, locals := 0 } : Room)).cells (({ frames := 0, cells := 1, slots := 1, locals := 0 } : Room)).slots) := by
  refine MetFree.of_bodySF (plainFor_of_name pn_3) hisR ?_
  intro p e s m args below meth c s₁ Bd hml0 hP hK
  obtain ⟨rfl, hZ, hh⟩ := hP
  have hx := Bd.exec
  have hby := Bd.bytes
  have hml : c.maxLocals = 1 := hml0
  have hown : s.vm.findClass "java/lang/Integer" = some m.cls := findClass_of_methodNamed Bd.named
  have hnm := (name_of_methodNamed Bd.named Bd.method).1
  have X0 : Stand p l e ({ frames := 0, cells := 1, slots := 1, locals := 0 } : Room) s m #[(.int p1)] below meth c s₁ [] 0 0 := Stand.of_body Bd
  have e0 : s₁.heap = h0 := by rw [← hh, Bd.state]; rfl
  have N0 := Fr.nil n0
  show own_Go p.tables e below (own_P s (Q4c Z p1 ca gc h0 n0) ({ frames := 0, cells := 1, slots := 1, locals := 0 } : Room).cells ({ frames := 0, cells := 1, slots := 1, locals := 0 } : Room).slots) s₁ _
  rw [ef_4c]
  show own_Go p.tables e below _ s₁ (mkF m 0 #[.val (.int p1)] [])
  refine own_go (fun tz kz => XS.iloadN X0.here hx rfl (hb hby d4_0) rfl kz) ?_
  show own_Go p.tables e below _ s₁ (mkF m 1 #[.val (.int p1)] [(.int p1)])
  refine own_go (fun tz kz => XS.bipush X0.here hx rfl (hb hby d4_1) kz) ?_
  show own_Go p.tables e below _ s₁ (mkF m 3 #[.val (.int p1)] [(.int (-128 : Int32)), (.int p1)])
  refine own_go (fun tz kz => XS.icmpNo X0.here hx rfl (hb hby d4_3) rfl (XT.ii_lt_f h1) kz) ?_
  show own_Go p.tables e below _ s₁ (mkF m 6 #[.val (.int p1)] [])
  refine own_go (fun tz kz => XS.iloadN X0.here hx rfl (hb hby d4_6) rfl kz) ?_
  show own_Go p.tables e below _ s₁ (mkF m 7 #[.val (.int p1)] [(.int p1)])
  obtain ⟨T1, X1, e1, st1⟩ := getS2 X0 hx hZ hown (host := "") (Or.inl (hw _ (List.mem_of_getElem? (i := 25) rfl))) Via.refl e0 SH (g := (mkF m 7 #[.val (.int p1)] [(.int p1)])) rfl (hb hby d4_7)
  refine own_go st1 ?_
  show own_Go p.tables e below _ T1 (mkF m 10 #[.val (.int p1)] [(.int (127 : Int32)), (.int p1)])
  refine own_go (fun tz kz => XS.icmpNo X1.here hx rfl (hb hby d4_10) rfl (XT.ii_gt_f h2) kz) ?_
  show own_Go p.tables e below _ T1 (mkF m 13 #[.val (.int p1)] [])
  obtain ⟨T2, X2, e2, st2⟩ := getS2 X1 hx hZ hown (host := "") (Or.inl (hw _ (List.mem_of_getElem? (i := 27) rfl))) Via.refl e1 SC (g := (mkF m 13 #[.val (.int p1)] [])) rfl (hb hby d4_13)
  refine own_go st2 ?_
  show own_Go p.tables e below _ T2 (mkF m 16 #[.val (.int p1)] [(.ref ca)])
  refine own_go (fun tz kz => XS.iloadN X2.here hx rfl (hb hby d4_16) rfl kz) ?_
  show own_Go p.tables e below _ T2 (mkF m 17 #[.val (.int p1)] [(.int p1), (.ref ca)])
  refine own_go (fun tz kz => XS.sipush X2.here hx rfl (hb hby d4_17) kz) ?_
  show own_Go p.tables e below _ T2 (mkF m 20 #[.val (.int p1)] [(.int (128 : Int32)), (.int p1), (.ref ca)])
  refine own_go (fun tz kz => XS.iadd X2.here hx rfl (hb hby d4_20) rfl kz) ?_
  show own_Go p.tables e below _ T2 (mkF m 21 #[.val (.int p1)] [(.int (p1 + (128 : Int32))), (.ref ca)])
  obtain ⟨c3, Ar3, Sz3, Ge3⟩ := id (Vc)
  refine own_go (fun tz kz => X2.aaload hx (j := (p1 + (128 : Int32))) (v := (.ref (gc (p1 + 128).toInt.toNat))) (by rw [e2]; exact Ar3.1) (State.isArrayOf_alike hZ.alike Ar3.2.1) rfl Ar3.2.2 (own_inb Sz3 (own_idx h1 h2).1 (own_idx h1 h2).2) (own_at Ge3 (own_idx h1 h2).1 (own_idx h1 h2).2 rfl) (g := (mkF m 21 #[.val (.int p1)] [(.int (p1 + (128 : Int32))), (.ref ca)])) rfl rfl (hb hby d4_21) tz kz) ?_
  show own_Go p.tables e below _ T2 (mkF m 22 #[.val (.int p1)] [(.ref (gc (p1 + 128).toInt.toNat))])
  obtain ⟨fs, hr, hrun, hended, hW, hsame⟩ := X2.leave (v := some (.ref (gc (p1 + 128).toInt.toNat))) (fun h => by rw [Bd.returns] at h; cases h) (BodyLoose.notSynchronized Bd)
  refine ⟨_, _, ?_, hrun, hended, _, _, rfl, ?_, ⟨_, rfl⟩, hW, hsame.mono (by decide) (by decide)⟩
  · exact retOut X2 hx Bd.returns rfl (Or.inr (Or.inr (Or.inr (Or.inr ⟨rfl, rfl, rfl⟩)))) (hb hby d4_22) hr
  · show Q4c Z p1 ca gc h0 n0 _ T2.heap _
    rw [e2]
    exact ⟨rfl, N0, rfl⟩
theorem pd_1 : parseMethodDescriptor "(I)V" = some ⟨[.int], none⟩ := by decide +kernel
theorem ef_4n (m : MethodId) {p1 : Int32} : entryFrame m #[(.int p1)] 1 = mkF m 0 #[.val (.int p1)] [] := by first | (simp [entryFrame, mkF, argsToLocals, Value.category]; done) | rfl
def Q4n (Z : State) (p1 : Int32) (b : Addr) (h0 : Heap) (n0 : Nat) (v : Option Value) (h : Heap) (L : List Loc) : Prop := v = some (.ref b) ∧ Fr n0 L ∧ Keep h0 h [] ∧ Exa Z h b "java/lang/Integer"
set_option maxRecDepth 65536 in
set_option maxHeartbeats 40000000 in
theorem rm4n (l : Launch) (Z : State) (a0 : Array Value) (hw : ∀ d ∈ tables_1, d.before a0 Z = true) (ws : List Jvm.Cond) (p1 : Int32) (b : Addr) (h0 : Heap) (n0 : Nat) (Z0 : n0 ≤ h0.size) (SH : Sta Z h0 "java/lang/Integer$IntegerCache" "high" "I" (.int 127)) (eb : b = h0.size) (hp : ¬ (¬ p1 < -128 ∧ ¬ (127 : Int32) < p1)) :
    MetFree l (⟨"java/lang/Integer", "valueOf", "(I)Ljava/lang/Integer;"⟩ : MethodName) (head1 (Jvm.Cond.code (⟨"java/lang/Integer", "valueOf", "(I)Ljava/lang/Integer;"⟩ : MethodName) jdk_33_method_22_code 1 (some (.object "java/lang/Integer")) :: ws) ({ frames := 3, cells := 1, slots := 1, locals := 38 } : Room)) (fun a U => a = #[(.int p1)] ∧ Z.Warmed39 U.vm ∧ U.heap = h0) (fun _ _ _ _ _ => True) (fun _ U o U' => ∃ v L, o = .returned v ∧ Q4n Z p1 b h0 n0 v U'.heap L ∧ FrameEnd U o U' L (({ frames := 3, cells := 1, slots := 1, locals := 38 } : Room)).cells (({ frames := 3, cells := 1, slots := 1, locals := 38 } : Room)).slots) := by
  refine MetFree.of_bodySF (plainFor_of_name pn_3) hisR ?_
  intro p e s m args below meth c s₁ Bd hml0 hP hK
  obtain ⟨rfl, hZ, hh⟩ := hP
  have hx := Bd.exec
  have hby := Bd.bytes
  have hml : c.maxLocals = 1 := hml0
  have hown : s.vm.findClass "java/lang/Integer" = some m.cls := findClass_of_methodNamed Bd.named
  have hnm := (name_of_methodNamed Bd.named Bd.method).1
  have X0 : Stand p l e ({ frames := 3, cells := 1, slots := 1, locals := 38 } : Room) s m #[(.int p1)] below meth c s₁ [] 0 0 := Stand.of_body Bd
  have e0 : s₁.heap = h0 := by rw [← hh, Bd.state]; rfl
  have N0 := Fr.nil n0
  show own_Go p.tables e below (own_P s (Q4n Z p1 b h0 n0) ({ frames := 3, cells := 1, slots := 1, locals := 38 } : Room).cells ({ frames := 3, cells := 1, slots := 1, locals := 38 } : Room).slots) s₁ _
  rw [ef_4n]
  show own_Go p.tables e below _ s₁ (mkF m 0 #[.val (.int p1)] [])
  refine own_go (fun tz kz => XS.iloadN X0.here hx rfl (hb hby d4_0) rfl kz) ?_
  show own_Go p.tables e below _ s₁ (mkF m 1 #[.val (.int p1)] [(.int p1)])
  refine own_go (fun tz kz => XS.bipush X0.here hx rfl (hb hby d4_1) kz) ?_
  show own_Go p.tables e below _ s₁ (mkF m 3 #[.val (.int p1)] [(.int (-128 : Int32)), (.int p1)])
  by_cases hc : p1 < (-128 : Int32)
  ·
    refine own_go (fun tz kz => XS.icmpYes X0.here hx rfl (pc0 := 3) (pc' := 23) rfl (hb hby d4_3) rfl (XT.ii_lt_t hc) (by decide) (by decide) kz) ?_
    show own_Go p.tables e below _ s₁ (mkF m 23 #[.val (.int p1)] [])
    obtain ⟨T1, h1, X1, e1, E1, A1, D1, -, st1⟩ := newO X0 hx hZ hown (hw _ (List.mem_of_getElem? (i := 38) rfl)) (hw _ (List.mem_of_getElem? (i := 39) rfl)) (hw _ (List.mem_of_getElem? (i := 23) rfl)) e0 (g := (mkF m 23 #[.val (.int p1)] [])) rfl (hb hby d4_23) (by decide) (by decide)
    rw [← eb] at A1 D1 st1
    have g_b : n0 ≤ b := Nat.le_trans Z0 (Nat.le_of_eq eb.symm)
    have F_value_b : Fld Z h1 b "java/lang/Integer" "value" "I" (.int (0 : Int32)) := D1 (Or.inr (hw _ (List.mem_of_getElem? (i := 52) rfl))) (ty := .int) (by decide)
    refine own_go st1 ?_
    show own_Go p.tables e below _ T1 (mkF m 26 #[.val (.int p1)] [(.ref b)])
    refine own_go (fun tz kz => XS.dup X1.here hx rfl (hb hby d4_26) rfl rfl kz) ?_
    show own_Go p.tables e below _ T1 (mkF m 27 #[.val (.int p1)] [(.ref b), (.ref b)])
    refine own_go (fun tz kz => XS.iloadN X1.here hx rfl (hb hby d4_27) rfl kz) ?_
    show own_Go p.tables e below _ T1 (mkF m 28 #[.val (.int p1)] [(.int p1), (.ref b), (.ref b)])
    obtain ⟨_, _, ⟨T2, L2, k2, n2⟩, -, X2, ⟨Lc2, hQ2, l2, y2, z2⟩, st2⟩ := X1.specialBack hx (y := (⟨"java/lang/Integer", "<init>", "(I)V"⟩ : MethodName)) rfl hown (mvT hZ (hw _ (List.mem_of_getElem? (i := 40) rfl))) (mvT hZ (hw _ (List.mem_of_getElem? (i := 41) rfl))) (mvT hZ (hw _ (List.mem_of_getElem? (i := 43) rfl))) (by decide) (backOf (W := 1) (rm6 l Z a0 hw [] b p1 _ h1 n0 (Nat.le_trans Z0 E1.1) F_value_b A1 g_b) hZ (hw _ (List.mem_of_getElem? (i := 43) rfl)) (hw _ (List.mem_of_getElem? (i := 23) rfl)) (by decide) (by decide)) (g := (mkF m 28 #[.val (.int p1)] [(.int p1), (.ref b), (.ref b)])) rfl (by rw [hml]; rfl) (Steps.refl _) (a := b) (argsL := [(.int p1)]) (rest := [(.ref b)]) (lenOf pd_1 rfl) rfl (by show 2 * 0 + _ ≤ _; exact Nat.le_of_eq rfl) (hb hby d4_28) (fun _ _ => ⟨rfl, e1, (by decide : 1 + 0 ≤ _), (by decide : 1 + 0 ≤ _)⟩)
    dsimp only [Pt.U, Pt.locs, Pt.cells, Pt.slots] at X2 l2 y2 z2 st2 hQ2
    subst l2 y2 z2
    obtain ⟨rfl, N2q, K2, Ex, Fv⟩ := hQ2
    have N2 := Fr.app N0 N2q
    refine own_go (fun tz kz => st2.trans kz) ?_
    show own_Go p.tables e below _ T2 (mkF m 31 #[.val (.int p1)] [(.ref b)])
    obtain ⟨fs, hr, hrun, hended, hW, hsame⟩ := X2.leave (v := some (.ref b)) (fun h => by rw [Bd.returns] at h; cases h) (BodyLoose.notSynchronized Bd)
    refine ⟨_, _, ?_, hrun, hended, _, _, rfl, ?_, ⟨_, rfl⟩, hW, hsame.mono (by decide) (by decide)⟩
    · exact retOut X2 hx Bd.returns rfl (Or.inr (Or.inr (Or.inr (Or.inr ⟨rfl, rfl, rfl⟩)))) (hb hby d4_31) hr
    · show Q4n Z p1 b h0 n0 _ T2.heap _
      exact ⟨rfl, N2, own_keep1 ((Keep.refl _ []).ext E1) K2 (Nat.le_of_eq eb.symm), Ex⟩
  ·
    refine own_go (fun tz kz => XS.icmpNo X0.here hx rfl (hb hby d4_3) rfl (XT.ii_lt_f hc) kz) ?_
    show own_Go p.tables e below _ s₁ (mkF m 6 #[.val (.int p1)] [])
    refine own_go (fun tz kz => XS.iloadN X0.here hx rfl (hb hby d4_6) rfl kz) ?_
    show own_Go p.tables e below _ s₁ (mkF m 7 #[.val (.int p1)] [(.int p1)])
    obtain ⟨T3, X3, e3, st3⟩ := getS2 X0 hx hZ hown (host := "") (Or.inl (hw _ (List.mem_of_getElem? (i := 25) rfl))) Via.refl e0 SH (g := (mkF m 7 #[.val (.int p1)] [(.int p1)])) rfl (hb hby d4_7)
    refine own_go st3 ?_
    show own_Go p.tables e below _ T3 (mkF m 10 #[.val (.int p1)] [(.int (127 : Int32)), (.int p1)])
    refine own_go (fun tz kz => XS.icmpYes X3.here hx rfl (pc0 := 10) (pc' := 23) rfl (hb hby d4_10) rfl (XT.ii_gt_t (Classical.not_not.mp fun q => hp ⟨hc, q⟩)) (by decide) (by decide) kz) ?_
    show own_Go p.tables e below _ T3 (mkF m 23 #[.val (.int p1)] [])
    obtain ⟨T4, h4, X4, e4, E4, A4, D4, -, st4⟩ := newO X3 hx hZ hown (hw _ (List.mem_of_getElem? (i := 38) rfl)) (hw _ (List.mem_of_getElem? (i := 39) rfl)) (hw _ (List.mem_of_getElem? (i := 23) rfl)) e3 (g := (mkF m 23 #[.val (.int p1)] [])) rfl (hb hby d4_23) (by decide) (by decide)
    rw [← eb] at A4 D4 st4
    have g_b : n0 ≤ b := Nat.le_trans Z0 (Nat.le_of_eq eb.symm)
    have F_value_b : Fld Z h4 b "java/lang/Integer" "value" "I" (.int (0 : Int32)) := D4 (Or.inr (hw _ (List.mem_of_getElem? (i := 52) rfl))) (ty := .int) (by decide)
    refine own_go st4 ?_
    show own_Go p.tables e below _ T4 (mkF m 26 #[.val (.int p1)] [(.ref b)])
    refine own_go (fun tz kz => XS.dup X4.here hx rfl (hb hby d4_26) rfl rfl kz) ?_
    show own_Go p.tables e below _ T4 (mkF m 27 #[.val (.int p1)] [(.ref b), (.ref b)])
    refine own_go (fun tz kz => XS.iloadN X4.here hx rfl (hb hby d4_27) rfl kz) ?_
    show own_Go p.tables e below _ T4 (mkF m 28 #[.val (.int p1)] [(.int p1), (.ref b), (.ref b)])
    obtain ⟨_, _, ⟨T5, L5, k5, n5⟩, -, X5, ⟨Lc5, hQ5, l5, y5, z5⟩, st5⟩ := X4.specialBack hx (y := (⟨"java/lang/Integer", "<init>", "(I)V"⟩ : MethodName)) rfl hown (mvT hZ (hw _ (List.mem_of_getElem? (i := 40) rfl))) (mvT hZ (hw _ (List.mem_of_getElem? (i := 41) rfl))) (mvT hZ (hw _ (List.mem_of_getElem? (i := 43) rfl))) (by decide) (backOf (W := 1) (rm6 l Z a0 hw [] b p1 _ h4 n0 (Nat.le_trans Z0 E4.1) F_value_b A4 g_b) hZ (hw _ (List.mem_of_getElem? (i := 43) rfl)) (hw _ (List.mem_of_getElem? (i := 23) rfl)) (by decide) (by decide)) (g := (mkF m 28 #[.val (.int p1)] [(.int p1), (.ref b), (.ref b)])) rfl (by rw [hml]; rfl) (Steps.refl _) (a := b) (argsL := [(.int p1)]) (rest := [(.ref b)]) (lenOf pd_1 rfl) rfl (by show 2 * 0 + _ ≤ _; exact Nat.le_of_eq rfl) (hb hby d4_28) (fun _ _ => ⟨rfl, e4, (by decide : 1 + 0 ≤ _), (by decide : 1 + 0 ≤ _)⟩)
    dsimp only [Pt.U, Pt.locs, Pt.cells, Pt.slots] at X5 l5 y5 z5 st5 hQ5
    subst l5 y5 z5
    obtain ⟨rfl, N5q, K5, Ex, Fv⟩ := hQ5
    have N5 := Fr.app N0 N5q
    refine own_go (fun tz kz => st5.trans kz) ?_
    show own_Go p.tables e below _ T5 (mkF m 31 #[.val (.int p1)] [(.ref b)])
    obtain ⟨fs, hr, hrun, hended, hW, hsame⟩ := X5.leave (v := some (.ref b)) (fun h => by rw [Bd.returns] at h; cases h) (BodyLoose.notSynchronized Bd)
    refine ⟨_, _, ?_, hrun, hended, _, _, rfl, ?_, ⟨_, rfl⟩, hW, hsame.mono (by decide) (by decide)⟩
    · exact retOut X5 hx Bd.returns rfl (Or.inr (Or.inr (Or.inr (Or.inr ⟨rfl, rfl, rfl⟩)))) (hb hby d4_31) hr
    · show Q4n Z p1 b h0 n0 _ T5.heap _
      exact ⟨rfl, N5, own_keep1 ((Keep.refl _ []).ext E4) K5 (Nat.le_of_eq eb.symm), Ex⟩
theorem d5_0 : decode prog_36_method_14_code 0 = .ok (.aload_n 1, 1) := by decide +kernel
theorem d5_1 : decode prog_36_method_14_code 1 = .ok (.instanceof 17, 3) := by decide +kernel
theorem d5_4 : decode prog_36_method_14_code 4 = .ok (.ifCond .eq 35, 3) := by decide +kernel
theorem d5_7 : decode prog_36_method_14_code 7 = .ok (.aload_n 1, 1) := by decide +kernel
theorem d5_8 : decode prog_36_method_14_code 8 = .ok (.checkcast 17, 3) := by decide +kernel
theorem d5_11 : decode prog_36_method_14_code 11 = .ok (.astore_n 2, 1) := by decide +kernel
theorem d5_12 : decode prog_36_method_14_code 12 = .ok (.aload_n 0, 1) := by decide +kernel
theorem d5_13 : decode prog_36_method_14_code 13 = .ok (.getfield 25, 3) := by decide +kernel
theorem d5_16 : decode prog_36_method_14_code 16 = .ok (.aload_n 2, 1) := by decide +kernel
theorem d5_17 : decode prog_36_method_14_code 17 = .ok (.getfield 25, 3) := by decide +kernel
theorem d5_20 : decode prog_36_method_14_code 20 = .ok (.lcmp, 1) := by decide +kernel
theorem d5_21 : decode prog_36_method_14_code 21 = .ok (.ifCond .ne 18, 3) := by decide +kernel
theorem d5_24 : decode prog_36_method_14_code 24 = .ok (.aload_n 0, 1) := by decide +kernel
theorem d5_25 : decode prog_36_method_14_code 25 = .ok (.getfield 29, 3) := by decide +kernel
theorem d5_28 : decode prog_36_method_14_code 28 = .ok (.aload_n 2, 1) := by decide +kernel
theorem d5_29 : decode prog_36_method_14_code 29 = .ok (.getfield 29, 3) := by decide +kernel
theorem d5_32 : decode prog_36_method_14_code 32 = .ok (.if_icmp .ne 7, 3) := by decide +kernel
theorem d5_35 : decode prog_36_method_14_code 35 = .ok (.iconst 1, 1) := by decide +kernel
theorem d5_36 : decode prog_36_method_14_code 36 = .ok (.goto 4, 3) := by decide +kernel
theorem d5_39 : decode prog_36_method_14_code 39 = .ok (.iconst 0, 1) := by decide +kernel
theorem d5_40 : decode prog_36_method_14_code 40 = .ok (.ireturn, 1) := by decide +kernel
theorem ef_5f (m : MethodId) {a1 : Addr} {a2 : Addr} : entryFrame m #[(.ref a1), (.ref a2)] 3 = mkF m 0 #[.val (.ref a1), .val (.ref a2), .unset] [] := by first | (simp [entryFrame, mkF, argsToLocals, Value.category]; done) | rfl
def Q5f (Z : State) (a1 : Addr) (a2 : Addr) (b1 : Int64) (b2 : Int64) (i1 : Int32) (i2 : Int32) (h0 : Heap) (n0 : Nat) (v : Option Value) (h : Heap) (L : List Loc) : Prop := v = some (.int (own_eq b1 b2 i1 i2)) ∧ Fr n0 L ∧ h = h0
set_option maxRecDepth 65536 in
set_option maxHeartbeats 40000000 in
theorem rm5f (l : Launch) (Z : State) (a0 : Array Value) (hw : ∀ d ∈ tables_1, d.before a0 Z = true) (ws : List Jvm.Cond) (a1 : Addr) (a2 : Addr) (b1 : Int64) (b2 : Int64) (i1 : Int32) (i2 : Int32) (h0 : Heap) (n0 : Nat) (Z0 : n0 ≤ h0.size) (Ex : Exa Z h0 a2 "com/example/bit_sieve/bitsieve/FilterSize") (F1 : Fld Z h0 a1 "com/example/bit_sieve/bitsieve/FilterSize" "bits" "J" (.long b1)) (F2 : Fld Z h0 a2 "com/example/bit_sieve/bitsieve/FilterSize" "bits" "J" (.long b2)) (G1 : Fld Z h0 a1 "com/example/bit_sieve/bitsieve/FilterSize" "hashes" "I" (.int i1)) (G2 : Fld Z h0 a2 "com/example/bit_sieve/bitsieve/FilterSize" "hashes" "I" (.int i2)) :
    MetFree l (⟨"com/example/bit_sieve/bitsieve/FilterSize", "equals", "(Ljava/lang/Object;)Z"⟩ : MethodName) (head1 (Jvm.Cond.code (⟨"com/example/bit_sieve/bitsieve/FilterSize", "equals", "(Ljava/lang/Object;)Z"⟩ : MethodName) prog_36_method_14_code 3 (some .boolean) :: ws) ({ frames := 0, cells := 0, slots := 0, locals := 0 } : Room)) (fun a U => a = #[(.ref a1), (.ref a2)] ∧ Z.Warmed39 U.vm ∧ U.heap = h0) (fun _ _ _ _ _ => True) (fun _ U o U' => ∃ v L, o = .returned v ∧ Q5f Z a1 a2 b1 b2 i1 i2 h0 n0 v U'.heap L ∧ FrameEnd U o U' L (({ frames := 0, cells := 0, slots := 0, locals := 0 } : Room)).cells (({ frames := 0, cells := 0, slots := 0, locals := 0 } : Room)).slots) := by
  refine MetFree.of_bodySF (plainFor_of_name pn_1) hisR ?_
  intro p e s m args below meth c s₁ Bd hml0 hP hK
  obtain ⟨rfl, hZ, hh⟩ := hP
  have hx := Bd.exec
  have hby := Bd.bytes
  have hml : c.maxLocals = 3 := hml0
  have hown : s.vm.findClass "com/example/bit_sieve/bitsieve/FilterSize" = some m.cls := findClass_of_methodNamed Bd.named
  have hnm := (name_of_methodNamed Bd.named Bd.method).1
  have X0 : Stand p l e ({ frames := 0, cells := 0, slots := 0, locals := 0 } : Room) s m #[(.ref a1), (.ref a2)] below meth c s₁ [] 0 0 := Stand.of_body Bd
  have e0 : s₁.heap = h0 := by rw [← hh, Bd.state]; rfl
  have N0 := Fr.nil n0
  show own_Go p.tables e below (own_P s (Q5f Z a1 a2 b1 b2 i1 i2 h0 n0) ({ frames := 0, cells := 0, slots := 0, locals := 0 } : Room).cells ({ frames := 0, cells := 0, slots := 0, locals := 0 } : Room).slots) s₁ _
  rw [ef_5f]
  show own_Go p.tables e below _ s₁ (mkF m 0 #[.val (.ref a1), .val (.ref a2), .unset] [])
  refine own_go (fun tz kz => XS.aloadN X0.here hx rfl (hb hby d5_0) rfl rfl kz) ?_
  show own_Go p.tables e below _ s₁ (mkF m 1 #[.val (.ref a1), .val (.ref a2), .unset] [(.ref a2)])
  obtain ⟨T1, X1, e1, st1⟩ := instY X0 hx hZ hown (hw _ (List.mem_of_getElem? (i := 33) rfl)) e0 (Ins.self Ex) (g := (mkF m 1 #[.val (.ref a1), .val (.ref a2), .unset] [(.ref a2)])) rfl rfl (hb hby d5_1)
  refine own_go st1 ?_
  show own_Go p.tables e below _ T1 (mkF m 4 #[.val (.ref a1), .val (.ref a2), .unset] [(.int (1 : Int32))])
  refine own_go (fun tz kz => XS.ifNo X1.here hx rfl (hb hby d5_4) rfl (XT.i0_eq_f (by decide)) kz) ?_
  show own_Go p.tables e below _ T1 (mkF m 7 #[.val (.ref a1), .val (.ref a2), .unset] [])
  refine own_go (fun tz kz => XS.aloadN X1.here hx rfl (hb hby d5_7) rfl rfl kz) ?_
  show own_Go p.tables e below _ T1 (mkF m 8 #[.val (.ref a1), .val (.ref a2), .unset] [(.ref a2)])
  obtain ⟨T2, X2, e2, st2⟩ := castY X1 hx hZ hown (hw _ (List.mem_of_getElem? (i := 33) rfl)) e1 (Ins.self Ex) (g := (mkF m 8 #[.val (.ref a1), .val (.ref a2), .unset] [(.ref a2)])) rfl rfl (hb hby d5_8)
  refine own_go st2 ?_
  show own_Go p.tables e below _ T2 (mkF m 11 #[.val (.ref a1), .val (.ref a2), .unset] [(.ref a2)])
  refine own_go (fun tz kz => XS.astoreN X2.here hx rfl (hb hby d5_11) rfl rfl (l' := #[.val (.ref a1), .val (.ref a2), .val (.ref a2)]) rfl kz) ?_
  show own_Go p.tables e below _ T2 (mkF m 12 #[.val (.ref a1), .val (.ref a2), .val (.ref a2)] [])
  refine own_go (fun tz kz => XS.aloadN X2.here hx rfl (hb hby d5_12) rfl rfl kz) ?_
  show own_Go p.tables e below _ T2 (mkF m 13 #[.val (.ref a1), .val (.ref a2), .val (.ref a2)] [(.ref a1)])
  obtain ⟨T3, X3, e3, st3⟩ := getF X2 hx hZ hown (host := "") (Or.inl (hw _ (List.mem_of_getElem? (i := 17) rfl))) Via.refl e2 F1 (g := (mkF m 13 #[.val (.ref a1), .val (.ref a2), .val (.ref a2)] [(.ref a1)])) rfl rfl (hb hby d5_13)
  refine own_go st3 ?_
  show own_Go p.tables e below _ T3 (mkF m 16 #[.val (.ref a1), .val (.ref a2), .val (.ref a2)] [(.long b1)])
  refine own_go (fun tz kz => XS.aloadN X3.here hx rfl (hb hby d5_16) rfl rfl kz) ?_
  show own_Go p.tables e below _ T3 (mkF m 17 #[.val (.ref a1), .val (.ref a2), .val (.ref a2)] [(.ref a2), (.long b1)])
  obtain ⟨T4, X4, e4, st4⟩ := getF X3 hx hZ hown (host := "") (Or.inl (hw _ (List.mem_of_getElem? (i := 17) rfl))) Via.refl e3 F2 (g := (mkF m 17 #[.val (.ref a1), .val (.ref a2), .val (.ref a2)] [(.ref a2), (.long b1)])) rfl rfl (hb hby d5_17)
  refine own_go st4 ?_
  show own_Go p.tables e below _ T4 (mkF m 20 #[.val (.ref a1), .val (.ref a2), .val (.ref a2)] [(.long b2), (.long b1)])
  refine own_go (fun tz kz => XT.lcmp X4.here hx rfl (hb hby d5_20) rfl kz) ?_
  show own_Go p.tables e below _ T4 (mkF m 21 #[.val (.ref a1), .val (.ref a2), .val (.ref a2)] [(.int (XT.cmpL b1 b2))])
  by_cases ha : b1 = b2
  ·
    refine own_go (fun tz kz => XS.ifNo X4.here hx rfl (hb hby d5_21) rfl (XT.ll_ne_f ha) kz) ?_
    show own_Go p.tables e below _ T4 (mkF m 24 #[.val (.ref a1), .val (.ref a2), .val (.ref a2)] [])
    refine own_go (fun tz kz => XS.aloadN X4.here hx rfl (hb hby d5_24) rfl rfl kz) ?_
    show own_Go p.tables e below _ T4 (mkF m 25 #[.val (.ref a1), .val (.ref a2), .val (.ref a2)] [(.ref a1)])
    obtain ⟨T5, X5, e5, st5⟩ := getF X4 hx hZ hown (host := "") (Or.inl (hw _ (List.mem_of_getElem? (i := 19) rfl))) Via.refl e4 G1 (g := (mkF m 25 #[.val (.ref a1), .val (.ref a2), .val (.ref a2)] [(.ref a1)])) rfl rfl (hb hby d5_25)
    refine own_go st5 ?_
    show own_Go p.tables e below _ T5 (mkF m 28 #[.val (.ref a1), .val (.ref a2), .val (.ref a2)] [(.int i1)])
    refine own_go (fun tz kz => XS.aloadN X5.here hx rfl (hb hby d5_28) rfl rfl kz) ?_
    show own_Go p.tables e below _ T5 (mkF m 29 #[.val (.ref a1), .val (.ref a2), .val (.ref a2)] [(.ref a2), (.int i1)])
    obtain ⟨T6, X6, e6, st6⟩ := getF X5 hx hZ hown (host := "") (Or.inl (hw _ (List.mem_of_getElem? (i := 19) rfl))) Via.refl e5 G2 (g := (mkF m 29 #[.val (.ref a1), .val (.ref a2), .val (.ref a2)] [(.ref a2), (.int i1)])) rfl rfl (hb hby d5_29)
    refine own_go st6 ?_
    show own_Go p.tables e below _ T6 (mkF m 32 #[.val (.ref a1), .val (.ref a2), .val (.ref a2)] [(.int i2), (.int i1)])
    by_cases hb' : i1 = i2
    ·
      refine own_go (fun tz kz => XS.icmpNo X6.here hx rfl (hb hby d5_32) rfl (XT.ii_ne_f hb') kz) ?_
      show own_Go p.tables e below _ T6 (mkF m 35 #[.val (.ref a1), .val (.ref a2), .val (.ref a2)] [])
      refine own_go (fun tz kz => XS.iconst X6.here hx rfl (hb hby d5_35) kz) ?_
      show own_Go p.tables e below _ T6 (mkF m 36 #[.val (.ref a1), .val (.ref a2), .val (.ref a2)] [(.int (1 : Int32))])
      refine own_go (fun tz kz => XS.goto X6.here hx rfl (pc0 := 36) (pc' := 40) rfl (hb hby d5_36) (by decide) (by decide) kz) ?_
      show own_Go p.tables e below _ T6 (mkF m 40 #[.val (.ref a1), .val (.ref a2), .val (.ref a2)] [(.int (1 : Int32))])
      obtain ⟨fs, hr, hrun, hended, hW, hsame⟩ := X6.leave (v := some (.int (1 : Int32))) (fun h => by rw [Bd.returns] at h; cases h) (BodyLoose.notSynchronized Bd)
      refine ⟨_, _, ?_, hrun, hended, _, _, rfl, ?_, ⟨_, rfl⟩, hW, hsame.mono (by decide) (by decide)⟩
      · exact retN X6 hx (t := .boolean) Bd.returns (by simp) (hb hby d5_40) hr
      · show Q5f Z a1 a2 b1 b2 i1 i2 h0 n0 _ T6.heap _
        rw [e6]
        exact ⟨congrArg (fun z => some (Value.int z)) ((if_pos ha).trans (if_pos hb')).symm, N0, rfl⟩
    ·
      refine own_go (fun tz kz => XS.icmpYes X6.here hx rfl (pc0 := 32) (pc' := 39) rfl (hb hby d5_32) rfl (XT.ii_ne_t hb') (by decide) (by decide) kz) ?_
      show own_Go p.tables e below _ T6 (mkF m 39 #[.val (.ref a1), .val (.ref a2), .val (.ref a2)] [])
      refine own_go (fun tz kz => XS.iconst X6.here hx rfl (hb hby d5_39) kz) ?_
      show own_Go p.tables e below _ T6 (mkF m 40 #[.val (.ref a1), .val (.ref a2), .val (.ref a2)] [(.int (0 : Int32))])
      obtain ⟨fs, hr, hrun, hended, hW, hsame⟩ := X6.leave (v := some (.int (0 : Int32))) (fun h => by rw [Bd.returns] at h; cases h) (BodyLoose.notSynchronized Bd)
      refine ⟨_, _, ?_, hrun, hended, _, _, rfl, ?_, ⟨_, rfl⟩, hW, hsame.mono (by decide) (by decide)⟩
      · exact retN X6 hx (t := .boolean) Bd.returns (by simp) (hb hby d5_40) hr
      · show Q5f Z a1 a2 b1 b2 i1 i2 h0 n0 _ T6.heap _
        rw [e6]
        exact ⟨congrArg (fun z => some (Value.int z)) ((if_pos ha).trans (if_neg hb')).symm, N0, rfl⟩
  ·
    refine own_go (fun tz kz => XS.ifYes X4.here hx rfl (pc0 := 21) (pc' := 39) rfl (hb hby d5_21) rfl (XT.ll_ne_t ha) (by decide) (by decide) kz) ?_
    show own_Go p.tables e below _ T4 (mkF m 39 #[.val (.ref a1), .val (.ref a2), .val (.ref a2)] [])
    refine own_go (fun tz kz => XS.iconst X4.here hx rfl (hb hby d5_39) kz) ?_
    show own_Go p.tables e below _ T4 (mkF m 40 #[.val (.ref a1), .val (.ref a2), .val (.ref a2)] [(.int (0 : Int32))])
    obtain ⟨fs, hr, hrun, hended, hW, hsame⟩ := X4.leave (v := some (.int (0 : Int32))) (fun h => by rw [Bd.returns] at h; cases h) (BodyLoose.notSynchronized Bd)
    refine ⟨_, _, ?_, hrun, hended, _, _, rfl, ?_, ⟨_, rfl⟩, hW, hsame.mono (by decide) (by decide)⟩
    · exact retN X4 hx (t := .boolean) Bd.returns (by simp) (hb hby d5_40) hr
    · show Q5f Z a1 a2 b1 b2 i1 i2 h0 n0 _ T4.heap _
      rw [e4]
      exact ⟨congrArg (fun z => some (Value.int z)) (if_neg ha).symm, N0, rfl⟩
theorem ef_5n (m : MethodId) {a1 : Addr} : entryFrame m #[(.ref a1), .null] 3 = mkF m 0 #[.val (.ref a1), .val .null, .unset] [] := by first | (simp [entryFrame, mkF, argsToLocals, Value.category]; done) | rfl
def Q5n (Z : State) (a1 : Addr) (h0 : Heap) (n0 : Nat) (v : Option Value) (h : Heap) (L : List Loc) : Prop := v = some (.int 0) ∧ Fr n0 L ∧ h = h0
set_option maxRecDepth 65536 in
set_option maxHeartbeats 40000000 in
theorem rm5n (l : Launch) (Z : State) (a0 : Array Value) (hw : ∀ d ∈ tables_1, d.before a0 Z = true) (ws : List Jvm.Cond) (a1 : Addr) (h0 : Heap) (n0 : Nat) (Z0 : n0 ≤ h0.size) :
    MetFree l (⟨"com/example/bit_sieve/bitsieve/FilterSize", "equals", "(Ljava/lang/Object;)Z"⟩ : MethodName) (head1 (Jvm.Cond.code (⟨"com/example/bit_sieve/bitsieve/FilterSize", "equals", "(Ljava/lang/Object;)Z"⟩ : MethodName) prog_36_method_14_code 3 (some .boolean) :: ws) ({ frames := 0, cells := 0, slots := 0, locals := 0 } : Room)) (fun a U => a = #[(.ref a1), .null] ∧ Z.Warmed39 U.vm ∧ U.heap = h0) (fun _ _ _ _ _ => True) (fun _ U o U' => ∃ v L, o = .returned v ∧ Q5n Z a1 h0 n0 v U'.heap L ∧ FrameEnd U o U' L (({ frames := 0, cells := 0, slots := 0, locals := 0 } : Room)).cells (({ frames := 0, cells := 0, slots := 0, locals := 0 } : Room)).slots) := by
  refine MetFree.of_bodySF (plainFor_of_name pn_1) hisR ?_
  intro p e s m args below meth c s₁ Bd hml0 hP hK
  obtain ⟨rfl, hZ, hh⟩ := hP
  have hx := Bd.exec
  have hby := Bd.bytes
  have hml : c.maxLocals = 3 := hml0
  have hown : s.vm.findClass "com/example/bit_sieve/bitsieve/FilterSize" = some m.cls := findClass_of_methodNamed Bd.named
  have hnm := (name_of_methodNamed Bd.named Bd.method).1
  have X0 : Stand p l e ({ frames := 0, cells := 0, slots := 0, locals := 0 } : Room) s m #[(.ref a1), .null] below meth c s₁ [] 0 0 := Stand.of_body Bd
  have e0 : s₁.heap = h0 := by rw [← hh, Bd.state]; rfl
  have N0 := Fr.nil n0
  show own_Go p.tables e below (own_P s (Q5n Z a1 h0 n0) ({ frames := 0, cells := 0, slots := 0, locals := 0 } : Room).cells ({ frames := 0, cells := 0, slots := 0, locals := 0 } : Room).slots) s₁ _
  rw [ef_5n]
  show own_Go p.tables e below _ s₁ (mkF m 0 #[.val (.ref a1), .val .null, .unset] [])
  refine own_go (fun tz kz => XS.aloadN X0.here hx rfl (hb hby d5_0) rfl rfl kz) ?_
  show own_Go p.tables e below _ s₁ (mkF m 1 #[.val (.ref a1), .val .null, .unset] [.null])
  refine own_go (fun tz kz => X0.instanceofNull hx (g := (mkF m 1 #[.val (.ref a1), .val .null, .unset] [.null])) rfl rfl (hb hby d5_1) tz kz) ?_
  show own_Go p.tables e below _ s₁ (mkF m 4 #[.val (.ref a1), .val .null, .unset] [(.int (0 : Int32))])
  refine own_go (fun tz kz => XS.ifYes X0.here hx rfl (pc0 := 4) (pc' := 39) rfl (hb hby d5_4) rfl (XT.i0_eq_t rfl) (by decide) (by decide) kz) ?_
  show own_Go p.tables e below _ s₁ (mkF m 39 #[.val (.ref a1), .val .null, .unset] [])
  refine own_go (fun tz kz => XS.iconst X0.here hx rfl (hb hby d5_39) kz) ?_
  show own_Go p.tables e below _ s₁ (mkF m 40 #[.val (.ref a1), .val .null, .unset] [(.int (0 : Int32))])
  obtain ⟨fs, hr, hrun, hended, hW, hsame⟩ := X0.leave (v := some (.int (0 : Int32))) (fun h => by rw [Bd.returns] at h; cases h) (BodyLoose.notSynchronized Bd)
  refine ⟨_, _, ?_, hrun, hended, _, _, rfl, ?_, ⟨_, rfl⟩, hW, hsame.mono (by decide) (by decide)⟩
  · exact retN X0 hx (t := .boolean) Bd.returns (by simp) (hb hby d5_40) hr
  · show Q5n Z a1 h0 n0 _ s₁.heap _
    rw [e0]
    exact ⟨rfl, N0, rfl⟩
theorem ef_5i (m : MethodId) {a1 : Addr} {a2 : Addr} : entryFrame m #[(.ref a1), (.ref a2)] 3 = mkF m 0 #[.val (.ref a1), .val (.ref a2), .unset] [] := by first | (simp [entryFrame, mkF, argsToLocals, Value.category]; done) | rfl
def Q5i (Z : State) (a1 : Addr) (a2 : Addr) (h0 : Heap) (n0 : Nat) (v : Option Value) (h : Heap) (L : List Loc) : Prop := v = some (.int 0) ∧ Fr n0 L ∧ h = h0
set_option maxRecDepth 65536 in
set_option maxHeartbeats 40000000 in
theorem rm5i (l : Launch) (Z : State) (a0 : Array Value) (hw : ∀ d ∈ tables_1, d.before a0 Z = true) (ws : List Jvm.Cond) (a1 : Addr) (a2 : Addr) (h0 : Heap) (n0 : Nat) (Z0 : n0 ≤ h0.size) (Ex : Exa Z h0 a2 "java/lang/Integer") :
    MetFree l (⟨"com/example/bit_sieve/bitsieve/FilterSize", "equals", "(Ljava/lang/Object;)Z"⟩ : MethodName) (head1 (Jvm.Cond.code (⟨"com/example/bit_sieve/bitsieve/FilterSize", "equals", "(Ljava/lang/Object;)Z"⟩ : MethodName) prog_36_method_14_code 3 (some .boolean) :: ws) ({ frames := 0, cells := 0, slots := 0, locals := 0 } : Room)) (fun a U => a = #[(.ref a1), (.ref a2)] ∧ Z.Warmed39 U.vm ∧ U.heap = h0) (fun _ _ _ _ _ => True) (fun _ U o U' => ∃ v L, o = .returned v ∧ Q5i Z a1 a2 h0 n0 v U'.heap L ∧ FrameEnd U o U' L (({ frames := 0, cells := 0, slots := 0, locals := 0 } : Room)).cells (({ frames := 0, cells := 0, slots := 0, locals := 0 } : Room)).slots) := by
  refine MetFree.of_bodySF (plainFor_of_name pn_1) hisR ?_
  intro p e s m args below meth c s₁ Bd hml0 hP hK
  obtain ⟨rfl, hZ, hh⟩ := hP
  have hx := Bd.exec
  have hby := Bd.bytes
  have hml : c.maxLocals = 3 := hml0
  have hown : s.vm.findClass "com/example/bit_sieve/bitsieve/FilterSize" = some m.cls := findClass_of_methodNamed Bd.named
  have hnm := (name_of_methodNamed Bd.named Bd.method).1
  have X0 : Stand p l e ({ frames := 0, cells := 0, slots := 0, locals := 0 } : Room) s m #[(.ref a1), (.ref a2)] below meth c s₁ [] 0 0 := Stand.of_body Bd
  have e0 : s₁.heap = h0 := by rw [← hh, Bd.state]; rfl
  have N0 := Fr.nil n0
  show own_Go p.tables e below (own_P s (Q5i Z a1 a2 h0 n0) ({ frames := 0, cells := 0, slots := 0, locals := 0 } : Room).cells ({ frames := 0, cells := 0, slots := 0, locals := 0 } : Room).slots) s₁ _
  rw [ef_5i]
  show own_Go p.tables e below _ s₁ (mkF m 0 #[.val (.ref a1), .val (.ref a2), .unset] [])
  refine own_go (fun tz kz => XS.aloadN X0.here hx rfl (hb hby d5_0) rfl rfl kz) ?_
  show own_Go p.tables e below _ s₁ (mkF m 1 #[.val (.ref a1), .val (.ref a2), .unset] [(.ref a2)])
  obtain ⟨T1, X1, e1, st1⟩ := instNo X0 hx hZ hown (hw _ (List.mem_of_getElem? (i := 33) rfl)) e0 Ex (own_NSno (hw _ (List.mem_of_getElem? (i := 35) rfl)) (hw _ (List.mem_of_getElem? (i := 7) rfl)) (NS.step (hw _ (List.mem_of_getElem? (i := 35) rfl)) (NS.step (hw _ (List.mem_of_getElem? (i := 36) rfl)) (own_NSroot (hw _ (List.mem_of_getElem? (i := 37) rfl)) (hw _ (List.mem_of_getElem? (i := 7) rfl)) (by decide)) (by decide)) (by decide)) (by decide)) (g := (mkF m 1 #[.val (.ref a1), .val (.ref a2), .unset] [(.ref a2)])) rfl rfl (hb hby d5_1)
  refine own_go st1 ?_
  show own_Go p.tables e below _ T1 (mkF m 4 #[.val (.ref a1), .val (.ref a2), .unset] [(.int (0 : Int32))])
  refine own_go (fun tz kz => XS.ifYes X1.here hx rfl (pc0 := 4) (pc' := 39) rfl (hb hby d5_4) rfl (XT.i0_eq_t rfl) (by decide) (by decide) kz) ?_
  show own_Go p.tables e below _ T1 (mkF m 39 #[.val (.ref a1), .val (.ref a2), .unset] [])
  refine own_go (fun tz kz => XS.iconst X1.here hx rfl (hb hby d5_39) kz) ?_
  show own_Go p.tables e below _ T1 (mkF m 40 #[.val (.ref a1), .val (.ref a2), .unset] [(.int (0 : Int32))])
  obtain ⟨fs, hr, hrun, hended, hW, hsame⟩ := X1.leave (v := some (.int (0 : Int32))) (fun h => by rw [Bd.returns] at h; cases h) (BodyLoose.notSynchronized Bd)
  refine ⟨_, _, ?_, hrun, hended, _, _, rfl, ?_, ⟨_, rfl⟩, hW, hsame.mono (by decide) (by decide)⟩
  · exact retN X1 hx (t := .boolean) Bd.returns (by simp) (hb hby d5_40) hr
  · show Q5i Z a1 a2 h0 n0 _ T1.heap _
    rw [e1]
    exact ⟨rfl, N0, rfl⟩
theorem pd_2 : parseMethodDescriptor "(JJ)J" = some ⟨[.long, .long], some .long⟩ := by decide +kernel
theorem pd_3 : parseMethodDescriptor "(JI)V" = some ⟨[.long, .int], none⟩ := by decide +kernel
theorem pd_4 : parseMethodDescriptor "(Ljava/lang/Object;)Z" = some ⟨[(.object "java/lang/Object")], some .boolean⟩ := by decide +kernel
theorem pd_5 : parseMethodDescriptor "(I)Ljava/lang/Integer;" = some ⟨[.int], some (.object "java/lang/Integer")⟩ := by decide +kernel
theorem pn_4 : plainName "com/example/bit_sieve/bitsieve/FilterSizeEqualsPinLaw" = true := by first | (simp [plainName, overriddenIn]; done) | decide +kernel
theorem ef_0 (m : MethodId) {q1 : Int64} {q2 : Int64} {p3 : Int32} {p4 : Int32} {p5 : Int32} {p6 : Int32} : entryFrame m #[(.long q1), (.long q2), (.int p3), (.int p4), (.int p5), (.int p6)] maxLocals = mkF m 0 #[.val (.long q1), .second, .val (.long q2), .second, .val (.int p3), .val (.int p4), .val (.int p5), .val (.int p6), .unset, .unset, .unset, .unset, .unset, .unset, .unset, .unset, .unset, .unset, .unset, .unset, .unset, .unset, .unset] [] := by first | (simp [entryFrame, mkF, argsToLocals, Value.category, maxLocals]; done) | rfl
def Q0 (Z : State) (q1 : Int64) (q2 : Int64) (p3 : Int32) (p4 : Int32) (p5 : Int32) (p6 : Int32) (ca : Addr) (gc : Nat → Addr) (h0 : Heap) (n0 : Nat) (v : Option Value) (h : Heap) (L : List Loc) : Prop := v = some (.int 1) ∧ Fr n0 L
set_option maxRecDepth 65536 in
set_option maxHeartbeats 40000000 in
theorem rm0 (l : Launch) (Z : State) (a0 : Array Value) (hw : ∀ d ∈ tables_1, d.before a0 Z = true) (ws : List Jvm.Cond) (q1 : Int64) (q2 : Int64) (p3 : Int32) (p4 : Int32) (p5 : Int32) (p6 : Int32) (ca : Addr) (gc : Nat → Addr) (h0 : Heap) (n0 : Nat) (Z0 : n0 ≤ h0.size) (SM : Sta Z Z.heap "com/example/bit_sieve/bitsieve/FilterSize" "MOST_HASHES" "I" (.int 1075)) (SH : Sta Z Z.heap "java/lang/Integer$IntegerCache" "high" "I" (.int 127)) (SC : Sta Z Z.heap "java/lang/Integer$IntegerCache" "cache" "[Ljava/lang/Integer;" (.ref ca)) (Vc : own_Av Z Z.heap ca (.object "java/lang/Integer") 256 (fun k => .ref (gc k))) (Ec : ∀ k, k < 256 → Exa Z Z.heap (gc k) "java/lang/Integer") (O0 : Old Z n0 h0) :
    MetFree l x (head1 (Jvm.Cond.code x code maxLocals ret :: ws) room_1) (fun a U => a = #[(.long q1), (.long q2), (.int p3), (.int p4), (.int p5), (.int p6)] ∧ Z.Warmed39 U.vm ∧ U.heap = h0) (fun _ _ _ _ _ => True) (fun _ U o U' => ∃ v L, o = .returned v ∧ Q0 Z q1 q2 p3 p4 p5 p6 ca gc h0 n0 v U'.heap L ∧ FrameEnd U o U' L (room_1).cells (room_1).slots) := by
  refine MetFree.of_bodySF (plainFor_of_name pn_4) hisR ?_
  intro p e s m args below meth c s₁ Bd hml0 hP hK
  obtain ⟨rfl, hZ, hh⟩ := hP
  have hx := Bd.exec
  have hby := Bd.bytes
  have hml : c.maxLocals = 23 := hml0
  have hown : s.vm.findClass "com/example/bit_sieve/bitsieve/FilterSizeEqualsPinLaw" = some m.cls := findClass_of_methodNamed Bd.named
  have hnm := (name_of_methodNamed Bd.named Bd.method).1
  have X0 : Stand p l e room_1 s m #[(.long q1), (.long q2), (.int p3), (.int p4), (.int p5), (.int p6)] below meth c s₁ [] 0 0 := Stand.of_body Bd
  have e0 : s₁.heap = h0 := by rw [← hh, Bd.state]; rfl
  have N0 := Fr.nil n0
  show own_Go p.tables e below (own_P s (Q0 Z q1 q2 p3 p4 p5 p6 ca gc h0 n0) room_1.cells room_1.slots) s₁ _
  rw [ef_0]
  show own_Go p.tables e below _ s₁ (mkF m 0 #[.val (.long q1), .second, .val (.long q2), .second, .val (.int p3), .val (.int p4), .val (.int p5), .val (.int p6), .unset, .unset, .unset, .unset, .unset, .unset, .unset, .unset, .unset, .unset, .unset, .unset, .unset, .unset, .unset] [])
  refine own_go (fun tz kz => XT.lconst X0.here hx rfl (hb hby at_0) kz) ?_
  show own_Go p.tables e below _ s₁ (mkF m 1 #[.val (.long q1), .second, .val (.long q2), .second, .val (.int p3), .val (.int p4), .val (.int p5), .val (.int p6), .unset, .unset, .unset, .unset, .unset, .unset, .unset, .unset, .unset, .unset, .unset, .unset, .unset, .unset, .unset] [(.long (1 : Int64))])
  refine own_go (fun tz kz => XT.lloadN X0.here hx rfl (hb hby at_1) rfl kz) ?_
  show own_Go p.tables e below _ s₁ (mkF m 2 #[.val (.long q1), .second, .val (.long q2), .second, .val (.int p3), .val (.int p4), .val (.int p5), .val (.int p6), .unset, .unset, .unset, .unset, .unset, .unset, .unset, .unset, .unset, .unset, .unset, .unset, .unset, .unset, .unset] [(.long q1), (.long (1 : Int64))])
  refine own_go (fun tz kz => X0.ldc2J hx hown (mvT hZ (hw _ (List.mem_of_getElem? (i := 0) rfl))) rfl (hb hby at_2) kz) ?_
  show own_Go p.tables e below _ s₁ (mkF m 5 #[.val (.long q1), .second, .val (.long q2), .second, .val (.int p3), .val (.int p4), .val (.int p5), .val (.int p6), .unset, .unset, .unset, .unset, .unset, .unset, .unset, .unset, .unset, .unset, .unset, .unset, .unset, .unset, .unset] [(.long (9223372036854775807 : Int64)), (.long q1), (.long (1 : Int64))])
  refine own_go (fun tz kz => XT.land X0.here hx rfl (hb hby at_5) rfl kz) ?_
  show own_Go p.tables e below _ s₁ (mkF m 6 #[.val (.long q1), .second, .val (.long q2), .second, .val (.int p3), .val (.int p4), .val (.int p5), .val (.int p6), .unset, .unset, .unset, .unset, .unset, .unset, .unset, .unset, .unset, .unset, .unset, .unset, .unset, .unset, .unset] [(.long (q1 &&& (9223372036854775807 : Int64))), (.long (1 : Int64))])
  obtain ⟨_, _, ⟨T1, L1, k1, n1⟩, -, X1, ⟨Lc1, hQ1, l1, y1, z1⟩, st1⟩ := Jvm.LawKit.callS X0 hx (y := (⟨"java/lang/Math", "max", "(JJ)J"⟩ : MethodName)) hown (mvT hZ (hw _ (List.mem_of_getElem? (i := 1) rfl))) (mvT hZ (hw _ (List.mem_of_getElem? (i := 2) rfl))) (mvT hZ (hw _ (List.mem_of_getElem? (i := 3) rfl))) (mvT hZ (hw _ (List.mem_of_getElem? (i := 4) rfl))) (by decide) (backOf (W := 0) (rm1 l Z a0 hw [] (1 : Int64) (q1 &&& (9223372036854775807 : Int64)) h0 n0 Z0) hZ (hw _ (List.mem_of_getElem? (i := 4) rfl)) (hw _ (List.mem_of_getElem? (i := 3) rfl)) (by decide) (by decide)) (g := (mkF m 6 #[.val (.long q1), .second, .val (.long q2), .second, .val (.int p3), .val (.int p4), .val (.int p5), .val (.int p6), .unset, .unset, .unset, .unset, .unset, .unset, .unset, .unset, .unset, .unset, .unset, .unset, .unset, .unset, .unset] [(.long (q1 &&& (9223372036854775807 : Int64))), (.long (1 : Int64))])) rfl (by rw [hml]; rfl) (argsL := [(.long (1 : Int64)), (.long (q1 &&& (9223372036854775807 : Int64)))]) (rest := []) (lenOf pd_2 rfl) rfl (by show 2 * 0 + _ ≤ _; exact Nat.le_of_eq rfl) (hb hby at_6) (fun _ _ => ⟨rfl, e0, (by decide : 0 + 0 ≤ _), (by decide : 0 + 0 ≤ _)⟩)
  dsimp only [Pt.U, Pt.locs, Pt.cells, Pt.slots] at X1 l1 y1 z1 st1 hQ1
  subst l1 y1 z1
  obtain ⟨rfl, N1q, e1⟩ := hQ1
  have N1 := Fr.app N0 N1q
  refine own_go (fun tz kz => st1 tz kz) ?_
  show own_Go p.tables e below _ T1 (mkF m 9 #[.val (.long q1), .second, .val (.long q2), .second, .val (.int p3), .val (.int p4), .val (.int p5), .val (.int p6), .unset, .unset, .unset, .unset, .unset, .unset, .unset, .unset, .unset, .unset, .unset, .unset, .unset, .unset, .unset] [(.long (own_max (1 : Int64) (q1 &&& (9223372036854775807 : Int64))))])
  refine own_go (fun tz kz => XT.lstore X1.here hx rfl (hb hby at_9) rfl (l' := #[.val (.long q1), .second, .val (.long q2), .second, .val (.int p3), .val (.int p4), .val (.int p5), .val (.int p6), .val (.long (own_max (1 : Int64) (q1 &&& (9223372036854775807 : Int64)))), .second, .unset, .unset, .unset, .unset, .unset, .unset, .unset, .unset, .unset, .unset, .unset, .unset, .unset]) rfl kz) ?_
  show own_Go p.tables e below _ T1 (mkF m 11 #[.val (.long q1), .second, .val (.long q2), .second, .val (.int p3), .val (.int p4), .val (.int p5), .val (.int p6), .val (.long (own_max (1 : Int64) (q1 &&& (9223372036854775807 : Int64)))), .second, .unset, .unset, .unset, .unset, .unset, .unset, .unset, .unset, .unset, .unset, .unset, .unset, .unset] [])
  generalize gb1 : (own_max (1 : Int64) (q1 &&& (9223372036854775807 : Int64))) = b1
  show own_Go p.tables e below _ T1 (mkF m 11 #[.val (.long q1), .second, .val (.long q2), .second, .val (.int p3), .val (.int p4), .val (.int p5), .val (.int p6), .val (.long b1), .second, .unset, .unset, .unset, .unset, .unset, .unset, .unset, .unset, .unset, .unset, .unset, .unset, .unset] [])
  have hb1 : ¬ b1 < 1 := gb1 ▸ own_max1 _
  refine own_go (fun tz kz => XS.iload X1.here hx rfl (hb hby at_11) rfl kz) ?_
  show own_Go p.tables e below _ T1 (mkF m 13 #[.val (.long q1), .second, .val (.long q2), .second, .val (.int p3), .val (.int p4), .val (.int p5), .val (.int p6), .val (.long b1), .second, .unset, .unset, .unset, .unset, .unset, .unset, .unset, .unset, .unset, .unset, .unset, .unset, .unset] [(.int p5)])
  refine own_go (fun tz kz => XS.iconst X1.here hx rfl (hb hby at_13) kz) ?_
  show own_Go p.tables e below _ T1 (mkF m 14 #[.val (.long q1), .second, .val (.long q2), .second, .val (.int p3), .val (.int p4), .val (.int p5), .val (.int p6), .val (.long b1), .second, .unset, .unset, .unset, .unset, .unset, .unset, .unset, .unset, .unset, .unset, .unset, .unset, .unset] [(.int (1 : Int32)), (.int p5)])
  refine own_go (fun tz kz => XS.iand X1.here hx rfl (hb hby at_14) rfl kz) ?_
  show own_Go p.tables e below _ T1 (mkF m 15 #[.val (.long q1), .second, .val (.long q2), .second, .val (.int p3), .val (.int p4), .val (.int p5), .val (.int p6), .val (.long b1), .second, .unset, .unset, .unset, .unset, .unset, .unset, .unset, .unset, .unset, .unset, .unset, .unset, .unset] [(.int (p5 &&& (1 : Int32)))])
  have J32 : ∀ (T2 : State) (h2 : Heap) (lo2 : List Loc) (X2 : Stand p l e room_1 s m #[(.long q1), (.long q2), (.int p3), (.int p4), (.int p5), (.int p6)] below meth c T2 lo2 0 0) (e2 : T2.heap = h2) (N2 : Fr n0 lo2) (Zs2 : n0 ≤ h2.size) (b2 : Int64) (hb2 : ¬ b2 < 1) (O1 : Old Z n0 h2), own_Go p.tables e below (own_P s (Q0 Z q1 q2 p3 p4 p5 p6 ca gc h0 n0) room_1.cells room_1.slots) T2 (mkF m 32 #[.val (.long q1), .second, .val (.long q2), .second, .val (.int p3), .val (.int p4), .val (.int p5), .val (.int p6), .val (.long b1), .second, .unset, .unset, .unset, .unset, .unset, .unset, .unset, .unset, .unset, .unset, .unset, .unset, .unset] [(.long b2)]) := by
    intro T2 h2 lo2 X2 e2 N2 Zs2 b2 hb2 O1
    show own_Go p.tables e below _ T2 (mkF m 32 #[.val (.long q1), .second, .val (.long q2), .second, .val (.int p3), .val (.int p4), .val (.int p5), .val (.int p6), .val (.long b1), .second, .unset, .unset, .unset, .unset, .unset, .unset, .unset, .unset, .unset, .unset, .unset, .unset, .unset] [(.long b2)])
    refine own_go (fun tz kz => XT.lstore X2.here hx rfl (hb hby at_32) rfl (l' := #[.val (.long q1), .second, .val (.long q2), .second, .val (.int p3), .val (.int p4), .val (.int p5), .val (.int p6), .val (.long b1), .second, .val (.long b2), .second, .unset, .unset, .unset, .unset, .unset, .unset, .unset, .unset, .unset, .unset, .unset]) rfl kz) ?_
    show own_Go p.tables e below _ T2 (mkF m 34 #[.val (.long q1), .second, .val (.long q2), .second, .val (.int p3), .val (.int p4), .val (.int p5), .val (.int p6), .val (.long b1), .second, .val (.long b2), .second, .unset, .unset, .unset, .unset, .unset, .unset, .unset, .unset, .unset, .unset, .unset] [])
    refine own_go (fun tz kz => XS.iload X2.here hx rfl (hb hby at_34) rfl kz) ?_
    show own_Go p.tables e below _ T2 (mkF m 36 #[.val (.long q1), .second, .val (.long q2), .second, .val (.int p3), .val (.int p4), .val (.int p5), .val (.int p6), .val (.long b1), .second, .val (.long b2), .second, .unset, .unset, .unset, .unset, .unset, .unset, .unset, .unset, .unset, .unset, .unset] [(.int p3)])
    refine own_go (fun tz kz => X2.ldcI hx hown (mvT hZ (hw _ (List.mem_of_getElem? (i := 5) rfl))) rfl (hb hby at_36) kz) ?_
    show own_Go p.tables e below _ T2 (mkF m 38 #[.val (.long q1), .second, .val (.long q2), .second, .val (.int p3), .val (.int p4), .val (.int p5), .val (.int p6), .val (.long b1), .second, .val (.long b2), .second, .unset, .unset, .unset, .unset, .unset, .unset, .unset, .unset, .unset, .unset, .unset] [(.int (2147483647 : Int32)), (.int p3)])
    refine own_go (fun tz kz => XS.iand X2.here hx rfl (hb hby at_38) rfl kz) ?_
    show own_Go p.tables e below _ T2 (mkF m 39 #[.val (.long q1), .second, .val (.long q2), .second, .val (.int p3), .val (.int p4), .val (.int p5), .val (.int p6), .val (.long b1), .second, .val (.long b2), .second, .unset, .unset, .unset, .unset, .unset, .unset, .unset, .unset, .unset, .unset, .unset] [(.int (p3 &&& (2147483647 : Int32)))])
    refine own_go (fun tz kz => XS.sipush X2.here hx rfl (hb hby at_39) kz) ?_
    show own_Go p.tables e below _ T2 (mkF m 42 #[.val (.long q1), .second, .val (.long q2), .second, .val (.int p3), .val (.int p4), .val (.int p5), .val (.int p6), .val (.long b1), .second, .val (.long b2), .second, .unset, .unset, .unset, .unset, .unset, .unset, .unset, .unset, .unset, .unset, .unset] [(.int (1075 : Int32)), (.int (p3 &&& (2147483647 : Int32)))])
    refine own_go (fun tz kz => iremM X2 hx rfl (hb hby at_42) rfl (by decide) kz) ?_
    show own_Go p.tables e below _ T2 (mkF m 43 #[.val (.long q1), .second, .val (.long q2), .second, .val (.int p3), .val (.int p4), .val (.int p5), .val (.int p6), .val (.long b1), .second, .val (.long b2), .second, .unset, .unset, .unset, .unset, .unset, .unset, .unset, .unset, .unset, .unset, .unset] [(.int ((p3 &&& (2147483647 : Int32)) % (1075 : Int32)))])
    refine own_go (fun tz kz => XS.iconst X2.here hx rfl (hb hby at_43) kz) ?_
    show own_Go p.tables e below _ T2 (mkF m 44 #[.val (.long q1), .second, .val (.long q2), .second, .val (.int p3), .val (.int p4), .val (.int p5), .val (.int p6), .val (.long b1), .second, .val (.long b2), .second, .unset, .unset, .unset, .unset, .unset, .unset, .unset, .unset, .unset, .unset, .unset] [(.int (1 : Int32)), (.int ((p3 &&& (2147483647 : Int32)) % (1075 : Int32)))])
    refine own_go (fun tz kz => XS.iadd X2.here hx rfl (hb hby at_44) rfl kz) ?_
    show own_Go p.tables e below _ T2 (mkF m 45 #[.val (.long q1), .second, .val (.long q2), .second, .val (.int p3), .val (.int p4), .val (.int p5), .val (.int p6), .val (.long b1), .second, .val (.long b2), .second, .unset, .unset, .unset, .unset, .unset, .unset, .unset, .unset, .unset, .unset, .unset] [(.int (((p3 &&& (2147483647 : Int32)) % (1075 : Int32)) + (1 : Int32)))])
    refine own_go (fun tz kz => XS.istore X2.here hx rfl (hb hby at_45) rfl (l' := #[.val (.long q1), .second, .val (.long q2), .second, .val (.int p3), .val (.int p4), .val (.int p5), .val (.int p6), .val (.long b1), .second, .val (.long b2), .second, .val (.int (((p3 &&& (2147483647 : Int32)) % (1075 : Int32)) + (1 : Int32))), .unset, .unset, .unset, .unset, .unset, .unset, .unset, .unset, .unset, .unset]) rfl kz) ?_
    show own_Go p.tables e below _ T2 (mkF m 47 #[.val (.long q1), .second, .val (.long q2), .second, .val (.int p3), .val (.int p4), .val (.int p5), .val (.int p6), .val (.long b1), .second, .val (.long b2), .second, .val (.int (((p3 &&& (2147483647 : Int32)) % (1075 : Int32)) + (1 : Int32))), .unset, .unset, .unset, .unset, .unset, .unset, .unset, .unset, .unset, .unset] [])
    generalize ghs1 : (((p3 &&& (2147483647 : Int32)) % (1075 : Int32)) + (1 : Int32)) = hs1
    show own_Go p.tables e below _ T2 (mkF m 47 #[.val (.long q1), .second, .val (.long q2), .second, .val (.int p3), .val (.int p4), .val (.int p5), .val (.int p6), .val (.long b1), .second, .val (.long b2), .second, .val (.int hs1), .unset, .unset, .unset, .unset, .unset, .unset, .unset, .unset, .unset, .unset] [])
    have hh1 : ¬ hs1 < 1 ∧ ¬ (1075 : Int32) < hs1 := ghs1 ▸ own_hash p3
    refine own_go (fun tz kz => XS.iload X2.here hx rfl (hb hby at_47) rfl kz) ?_
    show own_Go p.tables e below _ T2 (mkF m 49 #[.val (.long q1), .second, .val (.long q2), .second, .val (.int p3), .val (.int p4), .val (.int p5), .val (.int p6), .val (.long b1), .second, .val (.long b2), .second, .val (.int hs1), .unset, .unset, .unset, .unset, .unset, .unset, .unset, .unset, .unset, .unset] [(.int p5)])
    refine own_go (fun tz kz => XS.iconst X2.here hx rfl (hb hby at_49) kz) ?_
    show own_Go p.tables e below _ T2 (mkF m 50 #[.val (.long q1), .second, .val (.long q2), .second, .val (.int p3), .val (.int p4), .val (.int p5), .val (.int p6), .val (.long b1), .second, .val (.long b2), .second, .val (.int hs1), .unset, .unset, .unset, .unset, .unset, .unset, .unset, .unset, .unset, .unset] [(.int (2 : Int32)), (.int p5)])
    refine own_go (fun tz kz => XS.iand X2.here hx rfl (hb hby at_50) rfl kz) ?_
    show own_Go p.tables e below _ T2 (mkF m 51 #[.val (.long q1), .second, .val (.long q2), .second, .val (.int p3), .val (.int p4), .val (.int p5), .val (.int p6), .val (.long b1), .second, .val (.long b2), .second, .val (.int hs1), .unset, .unset, .unset, .unset, .unset, .unset, .unset, .unset, .unset, .unset] [(.int (p5 &&& (2 : Int32)))])
    have J70 : ∀ (hs2 : Int32) (hh2 : ¬ hs2 < 1 ∧ ¬ (1075 : Int32) < hs2), own_Go p.tables e below (own_P s (Q0 Z q1 q2 p3 p4 p5 p6 ca gc h0 n0) room_1.cells room_1.slots) T2 (mkF m 70 #[.val (.long q1), .second, .val (.long q2), .second, .val (.int p3), .val (.int p4), .val (.int p5), .val (.int p6), .val (.long b1), .second, .val (.long b2), .second, .val (.int hs1), .unset, .unset, .unset, .unset, .unset, .unset, .unset, .unset, .unset, .unset] [(.int hs2)]) := by
      intro hs2 hh2
      show own_Go p.tables e below _ T2 (mkF m 70 #[.val (.long q1), .second, .val (.long q2), .second, .val (.int p3), .val (.int p4), .val (.int p5), .val (.int p6), .val (.long b1), .second, .val (.long b2), .second, .val (.int hs1), .unset, .unset, .unset, .unset, .unset, .unset, .unset, .unset, .unset, .unset] [(.int hs2)])
      refine own_go (fun tz kz => XS.istore X2.here hx rfl (hb hby at_70) rfl (l' := #[.val (.long q1), .second, .val (.long q2), .second, .val (.int p3), .val (.int p4), .val (.int p5), .val (.int p6), .val (.long b1), .second, .val (.long b2), .second, .val (.int hs1), .val (.int hs2), .unset, .unset, .unset, .unset, .unset, .unset, .unset, .unset, .unset]) rfl kz) ?_
      show own_Go p.tables e below _ T2 (mkF m 72 #[.val (.long q1), .second, .val (.long q2), .second, .val (.int p3), .val (.int p4), .val (.int p5), .val (.int p6), .val (.long b1), .second, .val (.long b2), .second, .val (.int hs1), .val (.int hs2), .unset, .unset, .unset, .unset, .unset, .unset, .unset, .unset, .unset] [])
      obtain ⟨T3, h3, X3, e3, E3, A3, D3, -, st3⟩ := newO X2 hx hZ hown (hw _ (List.mem_of_getElem? (i := 6) rfl)) (hw _ (List.mem_of_getElem? (i := 7) rfl)) (hw _ (List.mem_of_getElem? (i := 8) rfl)) e2 (g := (mkF m 72 #[.val (.long q1), .second, .val (.long q2), .second, .val (.int p3), .val (.int p4), .val (.int p5), .val (.int p6), .val (.long b1), .second, .val (.long b2), .second, .val (.int hs1), .val (.int hs2), .unset, .unset, .unset, .unset, .unset, .unset, .unset, .unset, .unset] [])) rfl (hb hby at_72) (by decide) (by decide)
      obtain ⟨o1, eq_o1⟩ : ∃ z, z = (h2).size := ⟨_, rfl⟩
      rw [← eq_o1] at A3 D3 st3
      have g_o1 : n0 ≤ o1 := Nat.le_trans Zs2 (Nat.le_of_eq eq_o1.symm)
      have F_bits_o1 : Fld Z h3 o1 "com/example/bit_sieve/bitsieve/FilterSize" "bits" "J" (.long (0 : Int64)) := D3 (Or.inr (hw _ (List.mem_of_getElem? (i := 18) rfl))) (ty := .long) (by decide)
      have F_hashes_o1 : Fld Z h3 o1 "com/example/bit_sieve/bitsieve/FilterSize" "hashes" "I" (.int (0 : Int32)) := D3 (Or.inr (hw _ (List.mem_of_getElem? (i := 20) rfl))) (ty := .int) (by decide)
      refine own_go st3 ?_
      show own_Go p.tables e below _ T3 (mkF m 75 #[.val (.long q1), .second, .val (.long q2), .second, .val (.int p3), .val (.int p4), .val (.int p5), .val (.int p6), .val (.long b1), .second, .val (.long b2), .second, .val (.int hs1), .val (.int hs2), .unset, .unset, .unset, .unset, .unset, .unset, .unset, .unset, .unset] [(.ref o1)])
      refine own_go (fun tz kz => XS.dup X3.here hx rfl (hb hby at_75) rfl rfl kz) ?_
      show own_Go p.tables e below _ T3 (mkF m 76 #[.val (.long q1), .second, .val (.long q2), .second, .val (.int p3), .val (.int p4), .val (.int p5), .val (.int p6), .val (.long b1), .second, .val (.long b2), .second, .val (.int hs1), .val (.int hs2), .unset, .unset, .unset, .unset, .unset, .unset, .unset, .unset, .unset] [(.ref o1), (.ref o1)])
      refine own_go (fun tz kz => XT.lload X3.here hx rfl (hb hby at_76) rfl kz) ?_
      show own_Go p.tables e below _ T3 (mkF m 78 #[.val (.long q1), .second, .val (.long q2), .second, .val (.int p3), .val (.int p4), .val (.int p5), .val (.int p6), .val (.long b1), .second, .val (.long b2), .second, .val (.int hs1), .val (.int hs2), .unset, .unset, .unset, .unset, .unset, .unset, .unset, .unset, .unset] [(.long b1), (.ref o1), (.ref o1)])
      refine own_go (fun tz kz => XS.iload X3.here hx rfl (hb hby at_78) rfl kz) ?_
      show own_Go p.tables e below _ T3 (mkF m 80 #[.val (.long q1), .second, .val (.long q2), .second, .val (.int p3), .val (.int p4), .val (.int p5), .val (.int p6), .val (.long b1), .second, .val (.long b2), .second, .val (.int hs1), .val (.int hs2), .unset, .unset, .unset, .unset, .unset, .unset, .unset, .unset, .unset] [(.int hs1), (.long b1), (.ref o1), (.ref o1)])
      have Oa := O1.ext E3
      obtain ⟨_, _, ⟨T4, L4, k4, n4⟩, -, X4, ⟨Lc4, hQ4, l4, y4, z4⟩, st4⟩ := X3.specialBack hx (y := (⟨"com/example/bit_sieve/bitsieve/FilterSize", "<init>", "(JI)V"⟩ : MethodName)) rfl hown (mvT hZ (hw _ (List.mem_of_getElem? (i := 9) rfl))) (mvT hZ (hw _ (List.mem_of_getElem? (i := 10) rfl))) (mvT hZ (hw _ (List.mem_of_getElem? (i := 11) rfl))) (by decide) (backOf (W := 1) (rm2 l Z a0 hw [] o1 b1 hs1 _ _ h3 n0 (Nat.le_trans Zs2 E3.1) F_bits_o1 F_hashes_o1 A3 g_o1 hb1 hh1.1 (SM.ext Oa.2) hh1.2) hZ (hw _ (List.mem_of_getElem? (i := 11) rfl)) (hw _ (List.mem_of_getElem? (i := 8) rfl)) (by decide) (by decide)) (g := (mkF m 80 #[.val (.long q1), .second, .val (.long q2), .second, .val (.int p3), .val (.int p4), .val (.int p5), .val (.int p6), .val (.long b1), .second, .val (.long b2), .second, .val (.int hs1), .val (.int hs2), .unset, .unset, .unset, .unset, .unset, .unset, .unset, .unset, .unset] [(.int hs1), (.long b1), (.ref o1), (.ref o1)])) rfl (by rw [hml]; rfl) (Steps.refl _) (a := o1) (argsL := [(.long b1), (.int hs1)]) (rest := [(.ref o1)]) (lenOf pd_3 rfl) rfl (by show 2 * 0 + _ ≤ _; exact Nat.le_of_eq rfl) (hb hby at_80) (fun _ _ => ⟨rfl, e3, (by decide : 1 + 0 ≤ _), (by decide : 2 + 0 ≤ _)⟩)
      dsimp only [Pt.U, Pt.locs, Pt.cells, Pt.slots] at X4 l4 y4 z4 st4 hQ4
      subst l4 y4 z4
      obtain ⟨rfl, N4q, K4, E1, F1, G1⟩ := hQ4
      have N4 := Fr.app N2 N4q
      refine own_go (fun tz kz => st4.trans kz) ?_
      show own_Go p.tables e below _ T4 (mkF m 83 #[.val (.long q1), .second, .val (.long q2), .second, .val (.int p3), .val (.int p4), .val (.int p5), .val (.int p6), .val (.long b1), .second, .val (.long b2), .second, .val (.int hs1), .val (.int hs2), .unset, .unset, .unset, .unset, .unset, .unset, .unset, .unset, .unset] [(.ref o1)])
      have Ob := Oa.keep K4 (fun x hx => by cases List.mem_singleton.mp hx; exact g_o1)
      refine own_go (fun tz kz => XS.astore X4.here hx rfl (hb hby at_83) rfl rfl (l' := #[.val (.long q1), .second, .val (.long q2), .second, .val (.int p3), .val (.int p4), .val (.int p5), .val (.int p6), .val (.long b1), .second, .val (.long b2), .second, .val (.int hs1), .val (.int hs2), .val (.ref o1), .unset, .unset, .unset, .unset, .unset, .unset, .unset, .unset]) rfl kz) ?_
      show own_Go p.tables e below _ T4 (mkF m 85 #[.val (.long q1), .second, .val (.long q2), .second, .val (.int p3), .val (.int p4), .val (.int p5), .val (.int p6), .val (.long b1), .second, .val (.long b2), .second, .val (.int hs1), .val (.int hs2), .val (.ref o1), .unset, .unset, .unset, .unset, .unset, .unset, .unset, .unset] [])
      obtain ⟨T5, h5, X5, e5, E5, A5, D5, -, st5⟩ := newO X4 hx hZ hown (hw _ (List.mem_of_getElem? (i := 6) rfl)) (hw _ (List.mem_of_getElem? (i := 7) rfl)) (hw _ (List.mem_of_getElem? (i := 8) rfl)) rfl (g := (mkF m 85 #[.val (.long q1), .second, .val (.long q2), .second, .val (.int p3), .val (.int p4), .val (.int p5), .val (.int p6), .val (.long b1), .second, .val (.long b2), .second, .val (.int hs1), .val (.int hs2), .val (.ref o1), .unset, .unset, .unset, .unset, .unset, .unset, .unset, .unset] [])) rfl (hb hby at_85) (by decide) (by decide)
      obtain ⟨o2, eq_o2⟩ : ∃ z, z = (T4.heap).size := ⟨_, rfl⟩
      rw [← eq_o2] at A5 D5 st5
      have g_o2 : n0 ≤ o2 := Nat.le_trans (Nat.le_trans (Nat.le_trans Zs2 E3.1) K4.1) (Nat.le_of_eq eq_o2.symm)
      have F_bits_o2 : Fld Z h5 o2 "com/example/bit_sieve/bitsieve/FilterSize" "bits" "J" (.long (0 : Int64)) := D5 (Or.inr (hw _ (List.mem_of_getElem? (i := 18) rfl))) (ty := .long) (by decide)
      have F_hashes_o2 : Fld Z h5 o2 "com/example/bit_sieve/bitsieve/FilterSize" "hashes" "I" (.int (0 : Int32)) := D5 (Or.inr (hw _ (List.mem_of_getElem? (i := 20) rfl))) (ty := .int) (by decide)
      refine own_go st5 ?_
      show own_Go p.tables e below _ T5 (mkF m 88 #[.val (.long q1), .second, .val (.long q2), .second, .val (.int p3), .val (.int p4), .val (.int p5), .val (.int p6), .val (.long b1), .second, .val (.long b2), .second, .val (.int hs1), .val (.int hs2), .val (.ref o1), .unset, .unset, .unset, .unset, .unset, .unset, .unset, .unset] [(.ref o2)])
      have hne : o1 ≠ o2 := Nat.ne_of_lt (Nat.lt_of_lt_of_le E1.lt (Nat.le_of_eq eq_o2.symm))
      have Oc := Ob.ext E5
      refine own_go (fun tz kz => XS.dup X5.here hx rfl (hb hby at_88) rfl rfl kz) ?_
      show own_Go p.tables e below _ T5 (mkF m 89 #[.val (.long q1), .second, .val (.long q2), .second, .val (.int p3), .val (.int p4), .val (.int p5), .val (.int p6), .val (.long b1), .second, .val (.long b2), .second, .val (.int hs1), .val (.int hs2), .val (.ref o1), .unset, .unset, .unset, .unset, .unset, .unset, .unset, .unset] [(.ref o2), (.ref o2)])
      refine own_go (fun tz kz => XT.lload X5.here hx rfl (hb hby at_89) rfl kz) ?_
      show own_Go p.tables e below _ T5 (mkF m 91 #[.val (.long q1), .second, .val (.long q2), .second, .val (.int p3), .val (.int p4), .val (.int p5), .val (.int p6), .val (.long b1), .second, .val (.long b2), .second, .val (.int hs1), .val (.int hs2), .val (.ref o1), .unset, .unset, .unset, .unset, .unset, .unset, .unset, .unset] [(.long b2), (.ref o2), (.ref o2)])
      refine own_go (fun tz kz => XS.iload X5.here hx rfl (hb hby at_91) rfl kz) ?_
      show own_Go p.tables e below _ T5 (mkF m 93 #[.val (.long q1), .second, .val (.long q2), .second, .val (.int p3), .val (.int p4), .val (.int p5), .val (.int p6), .val (.long b1), .second, .val (.long b2), .second, .val (.int hs1), .val (.int hs2), .val (.ref o1), .unset, .unset, .unset, .unset, .unset, .unset, .unset, .unset] [(.int hs2), (.long b2), (.ref o2), (.ref o2)])
      obtain ⟨_, _, ⟨T6, L6, k6, n6⟩, -, X6, ⟨Lc6, hQ6, l6, y6, z6⟩, st6⟩ := X5.specialBack hx (y := (⟨"com/example/bit_sieve/bitsieve/FilterSize", "<init>", "(JI)V"⟩ : MethodName)) rfl hown (mvT hZ (hw _ (List.mem_of_getElem? (i := 9) rfl))) (mvT hZ (hw _ (List.mem_of_getElem? (i := 10) rfl))) (mvT hZ (hw _ (List.mem_of_getElem? (i := 11) rfl))) (by decide) (backOf (W := 1) (rm2 l Z a0 hw [] o2 b2 hs2 _ _ h5 n0 (Nat.le_trans (Nat.le_trans (Nat.le_trans Zs2 E3.1) K4.1) E5.1) F_bits_o2 F_hashes_o2 A5 g_o2 hb2 hh2.1 (SM.ext Oc.2) hh2.2) hZ (hw _ (List.mem_of_getElem? (i := 11) rfl)) (hw _ (List.mem_of_getElem? (i := 8) rfl)) (by decide) (by decide)) (g := (mkF m 93 #[.val (.long q1), .second, .val (.long q2), .second, .val (.int p3), .val (.int p4), .val (.int p5), .val (.int p6), .val (.long b1), .second, .val (.long b2), .second, .val (.int hs1), .val (.int hs2), .val (.ref o1), .unset, .unset, .unset, .unset, .unset, .unset, .unset, .unset] [(.int hs2), (.long b2), (.ref o2), (.ref o2)])) rfl (by rw [hml]; rfl) (Steps.refl _) (a := o2) (argsL := [(.long b2), (.int hs2)]) (rest := [(.ref o2)]) (lenOf pd_3 rfl) rfl (by show 2 * 0 + _ ≤ _; exact Nat.le_of_eq rfl) (hb hby at_93) (fun _ _ => ⟨rfl, e5, (by decide : 2 + 0 ≤ _), (by decide : 4 + 0 ≤ _)⟩)
      dsimp only [Pt.U, Pt.locs, Pt.cells, Pt.slots] at X6 l6 y6 z6 st6 hQ6
      subst l6 y6 z6
      obtain ⟨rfl, N6q, K6, E2, F2, G2⟩ := hQ6
      have N6 := Fr.app N4 N6q
      refine own_go (fun tz kz => st6.trans kz) ?_
      show own_Go p.tables e below _ T6 (mkF m 96 #[.val (.long q1), .second, .val (.long q2), .second, .val (.int p3), .val (.int p4), .val (.int p5), .val (.int p6), .val (.long b1), .second, .val (.long b2), .second, .val (.int hs1), .val (.int hs2), .val (.ref o1), .unset, .unset, .unset, .unset, .unset, .unset, .unset, .unset] [(.ref o2)])
      have Od := Oc.keep K6 (fun x hx => by cases List.mem_singleton.mp hx; exact g_o2)
      have E1' := (E1.ext E5).keep K6
      have F1' := (F1.ext E5).keep K6 (own_not1 hne)
      have G1' := (G1.ext E5).keep K6 (own_not1 hne)
      refine own_go (fun tz kz => XS.astore X6.here hx rfl (hb hby at_96) rfl rfl (l' := #[.val (.long q1), .second, .val (.long q2), .second, .val (.int p3), .val (.int p4), .val (.int p5), .val (.int p6), .val (.long b1), .second, .val (.long b2), .second, .val (.int hs1), .val (.int hs2), .val (.ref o1), .val (.ref o2), .unset, .unset, .unset, .unset, .unset, .unset, .unset]) rfl kz) ?_
      show own_Go p.tables e below _ T6 (mkF m 98 #[.val (.long q1), .second, .val (.long q2), .second, .val (.int p3), .val (.int p4), .val (.int p5), .val (.int p6), .val (.long b1), .second, .val (.long b2), .second, .val (.int hs1), .val (.int hs2), .val (.ref o1), .val (.ref o2), .unset, .unset, .unset, .unset, .unset, .unset, .unset] [])
      refine own_go (fun tz kz => XT.lload X6.here hx rfl (hb hby at_98) rfl kz) ?_
      show own_Go p.tables e below _ T6 (mkF m 100 #[.val (.long q1), .second, .val (.long q2), .second, .val (.int p3), .val (.int p4), .val (.int p5), .val (.int p6), .val (.long b1), .second, .val (.long b2), .second, .val (.int hs1), .val (.int hs2), .val (.ref o1), .val (.ref o2), .unset, .unset, .unset, .unset, .unset, .unset, .unset] [(.long b1)])
      refine own_go (fun tz kz => XT.lload X6.here hx rfl (hb hby at_100) rfl kz) ?_
      show own_Go p.tables e below _ T6 (mkF m 102 #[.val (.long q1), .second, .val (.long q2), .second, .val (.int p3), .val (.int p4), .val (.int p5), .val (.int p6), .val (.long b1), .second, .val (.long b2), .second, .val (.int hs1), .val (.int hs2), .val (.ref o1), .val (.ref o2), .unset, .unset, .unset, .unset, .unset, .unset, .unset] [(.long b2), (.long b1)])
      refine own_go (fun tz kz => XT.lcmp X6.here hx rfl (hb hby at_102) rfl kz) ?_
      show own_Go p.tables e below _ T6 (mkF m 103 #[.val (.long q1), .second, .val (.long q2), .second, .val (.int p3), .val (.int p4), .val (.int p5), .val (.int p6), .val (.long b1), .second, .val (.long b2), .second, .val (.int hs1), .val (.int hs2), .val (.ref o1), .val (.ref o2), .unset, .unset, .unset, .unset, .unset, .unset, .unset] [(.int (XT.cmpL b1 b2))])
      have J118 : ∀ (x : Int32) (hx0 : x = own_eq b1 b2 hs1 hs2), own_Go p.tables e below (own_P s (Q0 Z q1 q2 p3 p4 p5 p6 ca gc h0 n0) room_1.cells room_1.slots) T6 (mkF m 118 #[.val (.long q1), .second, .val (.long q2), .second, .val (.int p3), .val (.int p4), .val (.int p5), .val (.int p6), .val (.long b1), .second, .val (.long b2), .second, .val (.int hs1), .val (.int hs2), .val (.ref o1), .val (.ref o2), .unset, .unset, .unset, .unset, .unset, .unset, .unset] [(.int x)]) := by
        intro x hx0
        show own_Go p.tables e below _ T6 (mkF m 118 #[.val (.long q1), .second, .val (.long q2), .second, .val (.int p3), .val (.int p4), .val (.int p5), .val (.int p6), .val (.long b1), .second, .val (.long b2), .second, .val (.int hs1), .val (.int hs2), .val (.ref o1), .val (.ref o2), .unset, .unset, .unset, .unset, .unset, .unset, .unset] [(.int x)])
        subst hx0
        show own_Go p.tables e below _ T6 (mkF m 118 #[.val (.long q1), .second, .val (.long q2), .second, .val (.int p3), .val (.int p4), .val (.int p5), .val (.int p6), .val (.long b1), .second, .val (.long b2), .second, .val (.int hs1), .val (.int hs2), .val (.ref o1), .val (.ref o2), .unset, .unset, .unset, .unset, .unset, .unset, .unset] [(.int (own_eq b1 b2 hs1 hs2))])
        refine own_go (fun tz kz => XS.istore X6.here hx rfl (hb hby at_118) rfl (l' := #[.val (.long q1), .second, .val (.long q2), .second, .val (.int p3), .val (.int p4), .val (.int p5), .val (.int p6), .val (.long b1), .second, .val (.long b2), .second, .val (.int hs1), .val (.int hs2), .val (.ref o1), .val (.ref o2), .val (.int (own_eq b1 b2 hs1 hs2)), .unset, .unset, .unset, .unset, .unset, .unset]) rfl kz) ?_
        show own_Go p.tables e below _ T6 (mkF m 120 #[.val (.long q1), .second, .val (.long q2), .second, .val (.int p3), .val (.int p4), .val (.int p5), .val (.int p6), .val (.long b1), .second, .val (.long b2), .second, .val (.int hs1), .val (.int hs2), .val (.ref o1), .val (.ref o2), .val (.int (own_eq b1 b2 hs1 hs2)), .unset, .unset, .unset, .unset, .unset, .unset] [])
        refine own_go (fun tz kz => XS.iload X6.here hx rfl (hb hby at_120) rfl kz) ?_
        show own_Go p.tables e below _ T6 (mkF m 122 #[.val (.long q1), .second, .val (.long q2), .second, .val (.int p3), .val (.int p4), .val (.int p5), .val (.int p6), .val (.long b1), .second, .val (.long b2), .second, .val (.int hs1), .val (.int hs2), .val (.ref o1), .val (.ref o2), .val (.int (own_eq b1 b2 hs1 hs2)), .unset, .unset, .unset, .unset, .unset, .unset] [(.int p6)])
        have J125 : ∀ (T7 : State) (h7 : Heap) (lo7 : List Loc) (X7 : Stand p l e room_1 s m #[(.long q1), (.long q2), (.int p3), (.int p4), (.int p5), (.int p6)] below meth c T7 lo7 3 5) (e7 : T7.heap = h7) (N7 : Fr n0 lo7) (Zs7 : n0 ≤ h7.size) (bx : Addr) (Eb : Exa Z h7 bx "java/lang/Integer") (E1 : Exa Z h7 o1 "com/example/bit_sieve/bitsieve/FilterSize") (E2 : Exa Z h7 o2 "com/example/bit_sieve/bitsieve/FilterSize") (F1 : Fld Z h7 o1 "com/example/bit_sieve/bitsieve/FilterSize" "bits" "J" (.long b1)) (F2 : Fld Z h7 o2 "com/example/bit_sieve/bitsieve/FilterSize" "bits" "J" (.long b2)) (G1 : Fld Z h7 o1 "com/example/bit_sieve/bitsieve/FilterSize" "hashes" "I" (.int hs1)) (G2 : Fld Z h7 o2 "com/example/bit_sieve/bitsieve/FilterSize" "hashes" "I" (.int hs2)), own_Go p.tables e below (own_P s (Q0 Z q1 q2 p3 p4 p5 p6 ca gc h0 n0) room_1.cells room_1.slots) T7 (mkF m 125 #[.val (.long q1), .second, .val (.long q2), .second, .val (.int p3), .val (.int p4), .val (.int p5), .val (.int p6), .val (.long b1), .second, .val (.long b2), .second, .val (.int hs1), .val (.int hs2), .val (.ref o1), .val (.ref o2), .val (.int (own_eq b1 b2 hs1 hs2)), .unset, .unset, .unset, .unset, .unset, .unset] [(.ref bx)]) := by
          intro T7 h7 lo7 X7 e7 N7 Zs7 bx Eb E1 E2 F1 F2 G1 G2
          show own_Go p.tables e below _ T7 (mkF m 125 #[.val (.long q1), .second, .val (.long q2), .second, .val (.int p3), .val (.int p4), .val (.int p5), .val (.int p6), .val (.long b1), .second, .val (.long b2), .second, .val (.int hs1), .val (.int hs2), .val (.ref o1), .val (.ref o2), .val (.int (own_eq b1 b2 hs1 hs2)), .unset, .unset, .unset, .unset, .unset, .unset] [(.ref bx)])
          refine own_go (fun tz kz => XS.astore X7.here hx rfl (hb hby at_125) rfl rfl (l' := #[.val (.long q1), .second, .val (.long q2), .second, .val (.int p3), .val (.int p4), .val (.int p5), .val (.int p6), .val (.long b1), .second, .val (.long b2), .second, .val (.int hs1), .val (.int hs2), .val (.ref o1), .val (.ref o2), .val (.int (own_eq b1 b2 hs1 hs2)), .val (.ref bx), .unset, .unset, .unset, .unset, .unset]) rfl kz) ?_
          show own_Go p.tables e below _ T7 (mkF m 127 #[.val (.long q1), .second, .val (.long q2), .second, .val (.int p3), .val (.int p4), .val (.int p5), .val (.int p6), .val (.long b1), .second, .val (.long b2), .second, .val (.int hs1), .val (.int hs2), .val (.ref o1), .val (.ref o2), .val (.int (own_eq b1 b2 hs1 hs2)), .val (.ref bx), .unset, .unset, .unset, .unset, .unset] [])
          refine own_go (fun tz kz => XS.aload X7.here hx rfl (hb hby at_127) rfl rfl kz) ?_
          show own_Go p.tables e below _ T7 (mkF m 129 #[.val (.long q1), .second, .val (.long q2), .second, .val (.int p3), .val (.int p4), .val (.int p5), .val (.int p6), .val (.long b1), .second, .val (.long b2), .second, .val (.int hs1), .val (.int hs2), .val (.ref o1), .val (.ref o2), .val (.int (own_eq b1 b2 hs1 hs2)), .val (.ref bx), .unset, .unset, .unset, .unset, .unset] [(.ref o1)])
          refine own_go (fun tz kz => XS.aload X7.here hx rfl (hb hby at_129) rfl rfl kz) ?_
          show own_Go p.tables e below _ T7 (mkF m 131 #[.val (.long q1), .second, .val (.long q2), .second, .val (.int p3), .val (.int p4), .val (.int p5), .val (.int p6), .val (.long b1), .second, .val (.long b2), .second, .val (.int hs1), .val (.int hs2), .val (.ref o1), .val (.ref o2), .val (.int (own_eq b1 b2 hs1 hs2)), .val (.ref bx), .unset, .unset, .unset, .unset, .unset] [(.ref o2), (.ref o1)])
          obtain ⟨cq8, kq8, q8a, q8b, q8c⟩ := isOf hZ e7 E1
          obtain ⟨_, _, ⟨T8, L8, k8, n8⟩, -, X8, ⟨Lc8, hQ8, l8, y8, z8⟩, st8⟩ := X7.virtualBack hx (y := (⟨"com/example/bit_sieve/bitsieve/FilterSize", "equals", "(Ljava/lang/Object;)Z"⟩ : MethodName)) (z := (⟨"com/example/bit_sieve/bitsieve/FilterSize", "equals", "(Ljava/lang/Object;)Z"⟩ : MethodName)) hown (mvT hZ (hw _ (List.mem_of_getElem? (i := 28) rfl))) (mvT hZ (hw _ (List.mem_of_getElem? (i := 29) rfl))) (notFace_of_selects (args := #[]) (mvT hZ (hw _ (List.mem_of_getElem? (i := 31) rfl)))) (mvT hZ (hw _ (List.mem_of_getElem? (i := 31) rfl))) (mvT hZ (hw _ (List.mem_of_getElem? (i := 30) rfl))) (by decide) (backOf (W := 0) (rm5f l Z a0 hw [] o1 o2 b1 b2 hs1 hs2 h7 n0 Zs7 E2 F1 F2 G1 G2) hZ (hw _ (List.mem_of_getElem? (i := 32) rfl)) (hw _ (List.mem_of_getElem? (i := 8) rfl)) (by decide) (by decide)) q8a q8c (g := (mkF m 131 #[.val (.long q1), .second, .val (.long q2), .second, .val (.int p3), .val (.int p4), .val (.int p5), .val (.int p6), .val (.long b1), .second, .val (.long b2), .second, .val (.int hs1), .val (.int hs2), .val (.ref o1), .val (.ref o2), .val (.int (own_eq b1 b2 hs1 hs2)), .val (.ref bx), .unset, .unset, .unset, .unset, .unset] [(.ref o2), (.ref o1)])) rfl (by rw [hml]; rfl) (Steps.refl _) (argsL := [(.ref o2)]) (rest := []) (lenOf pd_4 rfl) rfl (by show 2 * 0 + _ ≤ _; exact Nat.le_of_eq rfl) (hb hby at_131) (fun _ _ => ⟨rfl, e7, (by decide : 3 + 0 ≤ _), (by decide : 5 + 0 ≤ _)⟩)
          dsimp only [Pt.U, Pt.locs, Pt.cells, Pt.slots] at X8 l8 y8 z8 st8 hQ8
          subst l8 y8 z8
          obtain ⟨rfl, N8q, e8⟩ := hQ8
          have N8 := Fr.app N7 N8q
          refine own_go (fun tz kz => st8.trans kz) ?_
          show own_Go p.tables e below _ T8 (mkF m 134 #[.val (.long q1), .second, .val (.long q2), .second, .val (.int p3), .val (.int p4), .val (.int p5), .val (.int p6), .val (.long b1), .second, .val (.long b2), .second, .val (.int hs1), .val (.int hs2), .val (.ref o1), .val (.ref o2), .val (.int (own_eq b1 b2 hs1 hs2)), .val (.ref bx), .unset, .unset, .unset, .unset, .unset] [(.int (own_eq b1 b2 hs1 hs2))])
          refine own_go (fun tz kz => XS.istore X8.here hx rfl (hb hby at_134) rfl (l' := #[.val (.long q1), .second, .val (.long q2), .second, .val (.int p3), .val (.int p4), .val (.int p5), .val (.int p6), .val (.long b1), .second, .val (.long b2), .second, .val (.int hs1), .val (.int hs2), .val (.ref o1), .val (.ref o2), .val (.int (own_eq b1 b2 hs1 hs2)), .val (.ref bx), .val (.int (own_eq b1 b2 hs1 hs2)), .unset, .unset, .unset, .unset]) rfl kz) ?_
          show own_Go p.tables e below _ T8 (mkF m 136 #[.val (.long q1), .second, .val (.long q2), .second, .val (.int p3), .val (.int p4), .val (.int p5), .val (.int p6), .val (.long b1), .second, .val (.long b2), .second, .val (.int hs1), .val (.int hs2), .val (.ref o1), .val (.ref o2), .val (.int (own_eq b1 b2 hs1 hs2)), .val (.ref bx), .val (.int (own_eq b1 b2 hs1 hs2)), .unset, .unset, .unset, .unset] [])
          refine own_go (fun tz kz => XS.aload X8.here hx rfl (hb hby at_136) rfl rfl kz) ?_
          show own_Go p.tables e below _ T8 (mkF m 138 #[.val (.long q1), .second, .val (.long q2), .second, .val (.int p3), .val (.int p4), .val (.int p5), .val (.int p6), .val (.long b1), .second, .val (.long b2), .second, .val (.int hs1), .val (.int hs2), .val (.ref o1), .val (.ref o2), .val (.int (own_eq b1 b2 hs1 hs2)), .val (.ref bx), .val (.int (own_eq b1 b2 hs1 hs2)), .unset, .unset, .unset, .unset] [(.ref o2)])
          refine own_go (fun tz kz => XS.aload X8.here hx rfl (hb hby at_138) rfl rfl kz) ?_
          show own_Go p.tables e below _ T8 (mkF m 140 #[.val (.long q1), .second, .val (.long q2), .second, .val (.int p3), .val (.int p4), .val (.int p5), .val (.int p6), .val (.long b1), .second, .val (.long b2), .second, .val (.int hs1), .val (.int hs2), .val (.ref o1), .val (.ref o2), .val (.int (own_eq b1 b2 hs1 hs2)), .val (.ref bx), .val (.int (own_eq b1 b2 hs1 hs2)), .unset, .unset, .unset, .unset] [(.ref o1), (.ref o2)])
          obtain ⟨cq9, kq9, q9a, q9b, q9c⟩ := isOf hZ e8 E2
          obtain ⟨_, _, ⟨T9, L9, k9, n9⟩, -, X9, ⟨Lc9, hQ9, l9, y9, z9⟩, st9⟩ := X8.virtualBack hx (y := (⟨"com/example/bit_sieve/bitsieve/FilterSize", "equals", "(Ljava/lang/Object;)Z"⟩ : MethodName)) (z := (⟨"com/example/bit_sieve/bitsieve/FilterSize", "equals", "(Ljava/lang/Object;)Z"⟩ : MethodName)) hown (mvT hZ (hw _ (List.mem_of_getElem? (i := 28) rfl))) (mvT hZ (hw _ (List.mem_of_getElem? (i := 29) rfl))) (notFace_of_selects (args := #[]) (mvT hZ (hw _ (List.mem_of_getElem? (i := 31) rfl)))) (mvT hZ (hw _ (List.mem_of_getElem? (i := 31) rfl))) (mvT hZ (hw _ (List.mem_of_getElem? (i := 30) rfl))) (by decide) (backOf (W := 0) (rm5f l Z a0 hw [] o2 o1 b2 b1 hs2 hs1 h7 n0 Zs7 E1 F2 F1 G2 G1) hZ (hw _ (List.mem_of_getElem? (i := 32) rfl)) (hw _ (List.mem_of_getElem? (i := 8) rfl)) (by decide) (by decide)) q9a q9c (g := (mkF m 140 #[.val (.long q1), .second, .val (.long q2), .second, .val (.int p3), .val (.int p4), .val (.int p5), .val (.int p6), .val (.long b1), .second, .val (.long b2), .second, .val (.int hs1), .val (.int hs2), .val (.ref o1), .val (.ref o2), .val (.int (own_eq b1 b2 hs1 hs2)), .val (.ref bx), .val (.int (own_eq b1 b2 hs1 hs2)), .unset, .unset, .unset, .unset] [(.ref o1), (.ref o2)])) rfl (by rw [hml]; rfl) (Steps.refl _) (argsL := [(.ref o1)]) (rest := []) (lenOf pd_4 rfl) rfl (by show 2 * 0 + _ ≤ _; exact Nat.le_of_eq rfl) (hb hby at_140) (fun _ _ => ⟨rfl, e8, (by decide : 3 + 0 ≤ _), (by decide : 5 + 0 ≤ _)⟩)
          dsimp only [Pt.U, Pt.locs, Pt.cells, Pt.slots] at X9 l9 y9 z9 st9 hQ9
          subst l9 y9 z9
          obtain ⟨rfl, N9q, e9⟩ := hQ9
          have N9 := Fr.app N8 N9q
          refine own_go (fun tz kz => st9.trans kz) ?_
          show own_Go p.tables e below _ T9 (mkF m 143 #[.val (.long q1), .second, .val (.long q2), .second, .val (.int p3), .val (.int p4), .val (.int p5), .val (.int p6), .val (.long b1), .second, .val (.long b2), .second, .val (.int hs1), .val (.int hs2), .val (.ref o1), .val (.ref o2), .val (.int (own_eq b1 b2 hs1 hs2)), .val (.ref bx), .val (.int (own_eq b1 b2 hs1 hs2)), .unset, .unset, .unset, .unset] [(.int (own_eq b2 b1 hs2 hs1))])
          refine own_go (fun tz kz => XS.istore X9.here hx rfl (hb hby at_143) rfl (l' := #[.val (.long q1), .second, .val (.long q2), .second, .val (.int p3), .val (.int p4), .val (.int p5), .val (.int p6), .val (.long b1), .second, .val (.long b2), .second, .val (.int hs1), .val (.int hs2), .val (.ref o1), .val (.ref o2), .val (.int (own_eq b1 b2 hs1 hs2)), .val (.ref bx), .val (.int (own_eq b1 b2 hs1 hs2)), .val (.int (own_eq b2 b1 hs2 hs1)), .unset, .unset, .unset]) rfl kz) ?_
          show own_Go p.tables e below _ T9 (mkF m 145 #[.val (.long q1), .second, .val (.long q2), .second, .val (.int p3), .val (.int p4), .val (.int p5), .val (.int p6), .val (.long b1), .second, .val (.long b2), .second, .val (.int hs1), .val (.int hs2), .val (.ref o1), .val (.ref o2), .val (.int (own_eq b1 b2 hs1 hs2)), .val (.ref bx), .val (.int (own_eq b1 b2 hs1 hs2)), .val (.int (own_eq b2 b1 hs2 hs1)), .unset, .unset, .unset] [])
          refine own_go (fun tz kz => XS.aload X9.here hx rfl (hb hby at_145) rfl rfl kz) ?_
          show own_Go p.tables e below _ T9 (mkF m 147 #[.val (.long q1), .second, .val (.long q2), .second, .val (.int p3), .val (.int p4), .val (.int p5), .val (.int p6), .val (.long b1), .second, .val (.long b2), .second, .val (.int hs1), .val (.int hs2), .val (.ref o1), .val (.ref o2), .val (.int (own_eq b1 b2 hs1 hs2)), .val (.ref bx), .val (.int (own_eq b1 b2 hs1 hs2)), .val (.int (own_eq b2 b1 hs2 hs1)), .unset, .unset, .unset] [(.ref o1)])
          refine own_go (fun tz kz => XS.aload X9.here hx rfl (hb hby at_147) rfl rfl kz) ?_
          show own_Go p.tables e below _ T9 (mkF m 149 #[.val (.long q1), .second, .val (.long q2), .second, .val (.int p3), .val (.int p4), .val (.int p5), .val (.int p6), .val (.long b1), .second, .val (.long b2), .second, .val (.int hs1), .val (.int hs2), .val (.ref o1), .val (.ref o2), .val (.int (own_eq b1 b2 hs1 hs2)), .val (.ref bx), .val (.int (own_eq b1 b2 hs1 hs2)), .val (.int (own_eq b2 b1 hs2 hs1)), .unset, .unset, .unset] [(.ref o1), (.ref o1)])
          obtain ⟨cq10, kq10, q10a, q10b, q10c⟩ := isOf hZ e9 E1
          obtain ⟨_, _, ⟨T10, L10, k10, n10⟩, -, X10, ⟨Lc10, hQ10, l10, y10, z10⟩, st10⟩ := X9.virtualBack hx (y := (⟨"com/example/bit_sieve/bitsieve/FilterSize", "equals", "(Ljava/lang/Object;)Z"⟩ : MethodName)) (z := (⟨"com/example/bit_sieve/bitsieve/FilterSize", "equals", "(Ljava/lang/Object;)Z"⟩ : MethodName)) hown (mvT hZ (hw _ (List.mem_of_getElem? (i := 28) rfl))) (mvT hZ (hw _ (List.mem_of_getElem? (i := 29) rfl))) (notFace_of_selects (args := #[]) (mvT hZ (hw _ (List.mem_of_getElem? (i := 31) rfl)))) (mvT hZ (hw _ (List.mem_of_getElem? (i := 31) rfl))) (mvT hZ (hw _ (List.mem_of_getElem? (i := 30) rfl))) (by decide) (backOf (W := 0) (rm5f l Z a0 hw [] o1 o1 b1 b1 hs1 hs1 h7 n0 Zs7 E1 F1 F1 G1 G1) hZ (hw _ (List.mem_of_getElem? (i := 32) rfl)) (hw _ (List.mem_of_getElem? (i := 8) rfl)) (by decide) (by decide)) q10a q10c (g := (mkF m 149 #[.val (.long q1), .second, .val (.long q2), .second, .val (.int p3), .val (.int p4), .val (.int p5), .val (.int p6), .val (.long b1), .second, .val (.long b2), .second, .val (.int hs1), .val (.int hs2), .val (.ref o1), .val (.ref o2), .val (.int (own_eq b1 b2 hs1 hs2)), .val (.ref bx), .val (.int (own_eq b1 b2 hs1 hs2)), .val (.int (own_eq b2 b1 hs2 hs1)), .unset, .unset, .unset] [(.ref o1), (.ref o1)])) rfl (by rw [hml]; rfl) (Steps.refl _) (argsL := [(.ref o1)]) (rest := []) (lenOf pd_4 rfl) rfl (by show 2 * 0 + _ ≤ _; exact Nat.le_of_eq rfl) (hb hby at_149) (fun _ _ => ⟨rfl, e9, (by decide : 3 + 0 ≤ _), (by decide : 5 + 0 ≤ _)⟩)
          dsimp only [Pt.U, Pt.locs, Pt.cells, Pt.slots] at X10 l10 y10 z10 st10 hQ10
          subst l10 y10 z10
          obtain ⟨rfl, N10q, e10⟩ := hQ10
          have N10 := Fr.app N9 N10q
          refine own_go (fun tz kz => st10.trans kz) ?_
          show own_Go p.tables e below _ T10 (mkF m 152 #[.val (.long q1), .second, .val (.long q2), .second, .val (.int p3), .val (.int p4), .val (.int p5), .val (.int p6), .val (.long b1), .second, .val (.long b2), .second, .val (.int hs1), .val (.int hs2), .val (.ref o1), .val (.ref o2), .val (.int (own_eq b1 b2 hs1 hs2)), .val (.ref bx), .val (.int (own_eq b1 b2 hs1 hs2)), .val (.int (own_eq b2 b1 hs2 hs1)), .unset, .unset, .unset] [(.int (own_eq b1 b1 hs1 hs1))])
          refine own_go (fun tz kz => XS.istore X10.here hx rfl (hb hby at_152) rfl (l' := #[.val (.long q1), .second, .val (.long q2), .second, .val (.int p3), .val (.int p4), .val (.int p5), .val (.int p6), .val (.long b1), .second, .val (.long b2), .second, .val (.int hs1), .val (.int hs2), .val (.ref o1), .val (.ref o2), .val (.int (own_eq b1 b2 hs1 hs2)), .val (.ref bx), .val (.int (own_eq b1 b2 hs1 hs2)), .val (.int (own_eq b2 b1 hs2 hs1)), .val (.int (own_eq b1 b1 hs1 hs1)), .unset, .unset]) rfl kz) ?_
          show own_Go p.tables e below _ T10 (mkF m 154 #[.val (.long q1), .second, .val (.long q2), .second, .val (.int p3), .val (.int p4), .val (.int p5), .val (.int p6), .val (.long b1), .second, .val (.long b2), .second, .val (.int hs1), .val (.int hs2), .val (.ref o1), .val (.ref o2), .val (.int (own_eq b1 b2 hs1 hs2)), .val (.ref bx), .val (.int (own_eq b1 b2 hs1 hs2)), .val (.int (own_eq b2 b1 hs2 hs1)), .val (.int (own_eq b1 b1 hs1 hs1)), .unset, .unset] [])
          refine own_go (fun tz kz => XS.aload X10.here hx rfl (hb hby at_154) rfl rfl kz) ?_
          show own_Go p.tables e below _ T10 (mkF m 156 #[.val (.long q1), .second, .val (.long q2), .second, .val (.int p3), .val (.int p4), .val (.int p5), .val (.int p6), .val (.long b1), .second, .val (.long b2), .second, .val (.int hs1), .val (.int hs2), .val (.ref o1), .val (.ref o2), .val (.int (own_eq b1 b2 hs1 hs2)), .val (.ref bx), .val (.int (own_eq b1 b2 hs1 hs2)), .val (.int (own_eq b2 b1 hs2 hs1)), .val (.int (own_eq b1 b1 hs1 hs1)), .unset, .unset] [(.ref o1)])
          refine own_go (fun tz kz => XS.aconstNull X10.here hx rfl (hb hby at_156) kz) ?_
          show own_Go p.tables e below _ T10 (mkF m 157 #[.val (.long q1), .second, .val (.long q2), .second, .val (.int p3), .val (.int p4), .val (.int p5), .val (.int p6), .val (.long b1), .second, .val (.long b2), .second, .val (.int hs1), .val (.int hs2), .val (.ref o1), .val (.ref o2), .val (.int (own_eq b1 b2 hs1 hs2)), .val (.ref bx), .val (.int (own_eq b1 b2 hs1 hs2)), .val (.int (own_eq b2 b1 hs2 hs1)), .val (.int (own_eq b1 b1 hs1 hs1)), .unset, .unset] [.null, (.ref o1)])
          obtain ⟨cq11, kq11, q11a, q11b, q11c⟩ := isOf hZ e10 E1
          obtain ⟨_, _, ⟨T11, L11, k11, n11⟩, -, X11, ⟨Lc11, hQ11, l11, y11, z11⟩, st11⟩ := X10.virtualBack hx (y := (⟨"com/example/bit_sieve/bitsieve/FilterSize", "equals", "(Ljava/lang/Object;)Z"⟩ : MethodName)) (z := (⟨"com/example/bit_sieve/bitsieve/FilterSize", "equals", "(Ljava/lang/Object;)Z"⟩ : MethodName)) hown (mvT hZ (hw _ (List.mem_of_getElem? (i := 28) rfl))) (mvT hZ (hw _ (List.mem_of_getElem? (i := 29) rfl))) (notFace_of_selects (args := #[]) (mvT hZ (hw _ (List.mem_of_getElem? (i := 31) rfl)))) (mvT hZ (hw _ (List.mem_of_getElem? (i := 31) rfl))) (mvT hZ (hw _ (List.mem_of_getElem? (i := 30) rfl))) (by decide) (backOf (W := 0) (rm5n l Z a0 hw [] o1 h7 n0 Zs7) hZ (hw _ (List.mem_of_getElem? (i := 32) rfl)) (hw _ (List.mem_of_getElem? (i := 8) rfl)) (by decide) (by decide)) q11a q11c (g := (mkF m 157 #[.val (.long q1), .second, .val (.long q2), .second, .val (.int p3), .val (.int p4), .val (.int p5), .val (.int p6), .val (.long b1), .second, .val (.long b2), .second, .val (.int hs1), .val (.int hs2), .val (.ref o1), .val (.ref o2), .val (.int (own_eq b1 b2 hs1 hs2)), .val (.ref bx), .val (.int (own_eq b1 b2 hs1 hs2)), .val (.int (own_eq b2 b1 hs2 hs1)), .val (.int (own_eq b1 b1 hs1 hs1)), .unset, .unset] [.null, (.ref o1)])) rfl (by rw [hml]; rfl) (Steps.refl _) (argsL := [.null]) (rest := []) (lenOf pd_4 rfl) rfl (by show 2 * 0 + _ ≤ _; exact Nat.le_of_eq rfl) (hb hby at_157) (fun _ _ => ⟨rfl, e10, (by decide : 3 + 0 ≤ _), (by decide : 5 + 0 ≤ _)⟩)
          dsimp only [Pt.U, Pt.locs, Pt.cells, Pt.slots] at X11 l11 y11 z11 st11 hQ11
          subst l11 y11 z11
          obtain ⟨rfl, N11q, e11⟩ := hQ11
          have N11 := Fr.app N10 N11q
          refine own_go (fun tz kz => st11.trans kz) ?_
          show own_Go p.tables e below _ T11 (mkF m 160 #[.val (.long q1), .second, .val (.long q2), .second, .val (.int p3), .val (.int p4), .val (.int p5), .val (.int p6), .val (.long b1), .second, .val (.long b2), .second, .val (.int hs1), .val (.int hs2), .val (.ref o1), .val (.ref o2), .val (.int (own_eq b1 b2 hs1 hs2)), .val (.ref bx), .val (.int (own_eq b1 b2 hs1 hs2)), .val (.int (own_eq b2 b1 hs2 hs1)), .val (.int (own_eq b1 b1 hs1 hs1)), .unset, .unset] [(.int (0 : Int32))])
          refine own_go (fun tz kz => XS.istore X11.here hx rfl (hb hby at_160) rfl (l' := #[.val (.long q1), .second, .val (.long q2), .second, .val (.int p3), .val (.int p4), .val (.int p5), .val (.int p6), .val (.long b1), .second, .val (.long b2), .second, .val (.int hs1), .val (.int hs2), .val (.ref o1), .val (.ref o2), .val (.int (own_eq b1 b2 hs1 hs2)), .val (.ref bx), .val (.int (own_eq b1 b2 hs1 hs2)), .val (.int (own_eq b2 b1 hs2 hs1)), .val (.int (own_eq b1 b1 hs1 hs1)), .val (.int (0 : Int32)), .unset]) rfl kz) ?_
          show own_Go p.tables e below _ T11 (mkF m 162 #[.val (.long q1), .second, .val (.long q2), .second, .val (.int p3), .val (.int p4), .val (.int p5), .val (.int p6), .val (.long b1), .second, .val (.long b2), .second, .val (.int hs1), .val (.int hs2), .val (.ref o1), .val (.ref o2), .val (.int (own_eq b1 b2 hs1 hs2)), .val (.ref bx), .val (.int (own_eq b1 b2 hs1 hs2)), .val (.int (own_eq b2 b1 hs2 hs1)), .val (.int (own_eq b1 b1 hs1 hs1)), .val (.int (0 : Int32)), .unset] [])
          refine own_go (fun tz kz => XS.aload X11.here hx rfl (hb hby at_162) rfl rfl kz) ?_
          show own_Go p.tables e below _ T11 (mkF m 164 #[.val (.long q1), .second, .val (.long q2), .second, .val (.int p3), .val (.int p4), .val (.int p5), .val (.int p6), .val (.long b1), .second, .val (.long b2), .second, .val (.int hs1), .val (.int hs2), .val (.ref o1), .val (.ref o2), .val (.int (own_eq b1 b2 hs1 hs2)), .val (.ref bx), .val (.int (own_eq b1 b2 hs1 hs2)), .val (.int (own_eq b2 b1 hs2 hs1)), .val (.int (own_eq b1 b1 hs1 hs1)), .val (.int (0 : Int32)), .unset] [(.ref o1)])
          refine own_go (fun tz kz => XS.aload X11.here hx rfl (hb hby at_164) rfl rfl kz) ?_
          show own_Go p.tables e below _ T11 (mkF m 166 #[.val (.long q1), .second, .val (.long q2), .second, .val (.int p3), .val (.int p4), .val (.int p5), .val (.int p6), .val (.long b1), .second, .val (.long b2), .second, .val (.int hs1), .val (.int hs2), .val (.ref o1), .val (.ref o2), .val (.int (own_eq b1 b2 hs1 hs2)), .val (.ref bx), .val (.int (own_eq b1 b2 hs1 hs2)), .val (.int (own_eq b2 b1 hs2 hs1)), .val (.int (own_eq b1 b1 hs1 hs1)), .val (.int (0 : Int32)), .unset] [(.ref bx), (.ref o1)])
          obtain ⟨cq12, kq12, q12a, q12b, q12c⟩ := isOf hZ e11 E1
          obtain ⟨_, _, ⟨T12, L12, k12, n12⟩, -, X12, ⟨Lc12, hQ12, l12, y12, z12⟩, st12⟩ := X11.virtualBack hx (y := (⟨"com/example/bit_sieve/bitsieve/FilterSize", "equals", "(Ljava/lang/Object;)Z"⟩ : MethodName)) (z := (⟨"com/example/bit_sieve/bitsieve/FilterSize", "equals", "(Ljava/lang/Object;)Z"⟩ : MethodName)) hown (mvT hZ (hw _ (List.mem_of_getElem? (i := 28) rfl))) (mvT hZ (hw _ (List.mem_of_getElem? (i := 29) rfl))) (notFace_of_selects (args := #[]) (mvT hZ (hw _ (List.mem_of_getElem? (i := 31) rfl)))) (mvT hZ (hw _ (List.mem_of_getElem? (i := 31) rfl))) (mvT hZ (hw _ (List.mem_of_getElem? (i := 30) rfl))) (by decide) (backOf (W := 0) (rm5i l Z a0 hw [] o1 bx h7 n0 Zs7 Eb) hZ (hw _ (List.mem_of_getElem? (i := 32) rfl)) (hw _ (List.mem_of_getElem? (i := 8) rfl)) (by decide) (by decide)) q12a q12c (g := (mkF m 166 #[.val (.long q1), .second, .val (.long q2), .second, .val (.int p3), .val (.int p4), .val (.int p5), .val (.int p6), .val (.long b1), .second, .val (.long b2), .second, .val (.int hs1), .val (.int hs2), .val (.ref o1), .val (.ref o2), .val (.int (own_eq b1 b2 hs1 hs2)), .val (.ref bx), .val (.int (own_eq b1 b2 hs1 hs2)), .val (.int (own_eq b2 b1 hs2 hs1)), .val (.int (own_eq b1 b1 hs1 hs1)), .val (.int (0 : Int32)), .unset] [(.ref bx), (.ref o1)])) rfl (by rw [hml]; rfl) (Steps.refl _) (argsL := [(.ref bx)]) (rest := []) (lenOf pd_4 rfl) rfl (by show 2 * 0 + _ ≤ _; exact Nat.le_of_eq rfl) (hb hby at_166) (fun _ _ => ⟨rfl, e11, (by decide : 3 + 0 ≤ _), (by decide : 5 + 0 ≤ _)⟩)
          dsimp only [Pt.U, Pt.locs, Pt.cells, Pt.slots] at X12 l12 y12 z12 st12 hQ12
          subst l12 y12 z12
          obtain ⟨rfl, N12q, e12⟩ := hQ12
          have N12 := Fr.app N11 N12q
          refine own_go (fun tz kz => st12.trans kz) ?_
          show own_Go p.tables e below _ T12 (mkF m 169 #[.val (.long q1), .second, .val (.long q2), .second, .val (.int p3), .val (.int p4), .val (.int p5), .val (.int p6), .val (.long b1), .second, .val (.long b2), .second, .val (.int hs1), .val (.int hs2), .val (.ref o1), .val (.ref o2), .val (.int (own_eq b1 b2 hs1 hs2)), .val (.ref bx), .val (.int (own_eq b1 b2 hs1 hs2)), .val (.int (own_eq b2 b1 hs2 hs1)), .val (.int (own_eq b1 b1 hs1 hs1)), .val (.int (0 : Int32)), .unset] [(.int (0 : Int32))])
          refine own_go (fun tz kz => XS.istore X12.here hx rfl (hb hby at_169) rfl (l' := #[.val (.long q1), .second, .val (.long q2), .second, .val (.int p3), .val (.int p4), .val (.int p5), .val (.int p6), .val (.long b1), .second, .val (.long b2), .second, .val (.int hs1), .val (.int hs2), .val (.ref o1), .val (.ref o2), .val (.int (own_eq b1 b2 hs1 hs2)), .val (.ref bx), .val (.int (own_eq b1 b2 hs1 hs2)), .val (.int (own_eq b2 b1 hs2 hs1)), .val (.int (own_eq b1 b1 hs1 hs1)), .val (.int (0 : Int32)), .val (.int (0 : Int32))]) rfl kz) ?_
          show own_Go p.tables e below _ T12 (mkF m 171 #[.val (.long q1), .second, .val (.long q2), .second, .val (.int p3), .val (.int p4), .val (.int p5), .val (.int p6), .val (.long b1), .second, .val (.long b2), .second, .val (.int hs1), .val (.int hs2), .val (.ref o1), .val (.ref o2), .val (.int (own_eq b1 b2 hs1 hs2)), .val (.ref bx), .val (.int (own_eq b1 b2 hs1 hs2)), .val (.int (own_eq b2 b1 hs2 hs1)), .val (.int (own_eq b1 b1 hs1 hs1)), .val (.int (0 : Int32)), .val (.int (0 : Int32))] [])
          refine own_go (fun tz kz => XS.iload X12.here hx rfl (hb hby at_171) rfl kz) ?_
          show own_Go p.tables e below _ T12 (mkF m 173 #[.val (.long q1), .second, .val (.long q2), .second, .val (.int p3), .val (.int p4), .val (.int p5), .val (.int p6), .val (.long b1), .second, .val (.long b2), .second, .val (.int hs1), .val (.int hs2), .val (.ref o1), .val (.ref o2), .val (.int (own_eq b1 b2 hs1 hs2)), .val (.ref bx), .val (.int (own_eq b1 b2 hs1 hs2)), .val (.int (own_eq b2 b1 hs2 hs1)), .val (.int (own_eq b1 b1 hs1 hs1)), .val (.int (0 : Int32)), .val (.int (0 : Int32))] [(.int (own_eq b1 b2 hs1 hs2))])
          refine own_go (fun tz kz => XS.iload X12.here hx rfl (hb hby at_173) rfl kz) ?_
          show own_Go p.tables e below _ T12 (mkF m 175 #[.val (.long q1), .second, .val (.long q2), .second, .val (.int p3), .val (.int p4), .val (.int p5), .val (.int p6), .val (.long b1), .second, .val (.long b2), .second, .val (.int hs1), .val (.int hs2), .val (.ref o1), .val (.ref o2), .val (.int (own_eq b1 b2 hs1 hs2)), .val (.ref bx), .val (.int (own_eq b1 b2 hs1 hs2)), .val (.int (own_eq b2 b1 hs2 hs1)), .val (.int (own_eq b1 b1 hs1 hs1)), .val (.int (0 : Int32)), .val (.int (0 : Int32))] [(.int (own_eq b1 b2 hs1 hs2)), (.int (own_eq b1 b2 hs1 hs2))])
          refine own_go (fun tz kz => XS.icmpNo X12.here hx rfl (hb hby at_175) rfl (XT.ii_ne_f rfl) kz) ?_
          show own_Go p.tables e below _ T12 (mkF m 178 #[.val (.long q1), .second, .val (.long q2), .second, .val (.int p3), .val (.int p4), .val (.int p5), .val (.int p6), .val (.long b1), .second, .val (.long b2), .second, .val (.int hs1), .val (.int hs2), .val (.ref o1), .val (.ref o2), .val (.int (own_eq b1 b2 hs1 hs2)), .val (.ref bx), .val (.int (own_eq b1 b2 hs1 hs2)), .val (.int (own_eq b2 b1 hs2 hs1)), .val (.int (own_eq b1 b1 hs1 hs1)), .val (.int (0 : Int32)), .val (.int (0 : Int32))] [])
          refine own_go (fun tz kz => XS.iload X12.here hx rfl (hb hby at_178) rfl kz) ?_
          show own_Go p.tables e below _ T12 (mkF m 180 #[.val (.long q1), .second, .val (.long q2), .second, .val (.int p3), .val (.int p4), .val (.int p5), .val (.int p6), .val (.long b1), .second, .val (.long b2), .second, .val (.int hs1), .val (.int hs2), .val (.ref o1), .val (.ref o2), .val (.int (own_eq b1 b2 hs1 hs2)), .val (.ref bx), .val (.int (own_eq b1 b2 hs1 hs2)), .val (.int (own_eq b2 b1 hs2 hs1)), .val (.int (own_eq b1 b1 hs1 hs1)), .val (.int (0 : Int32)), .val (.int (0 : Int32))] [(.int (own_eq b2 b1 hs2 hs1))])
          refine own_go (fun tz kz => XS.iload X12.here hx rfl (hb hby at_180) rfl kz) ?_
          show own_Go p.tables e below _ T12 (mkF m 182 #[.val (.long q1), .second, .val (.long q2), .second, .val (.int p3), .val (.int p4), .val (.int p5), .val (.int p6), .val (.long b1), .second, .val (.long b2), .second, .val (.int hs1), .val (.int hs2), .val (.ref o1), .val (.ref o2), .val (.int (own_eq b1 b2 hs1 hs2)), .val (.ref bx), .val (.int (own_eq b1 b2 hs1 hs2)), .val (.int (own_eq b2 b1 hs2 hs1)), .val (.int (own_eq b1 b1 hs1 hs1)), .val (.int (0 : Int32)), .val (.int (0 : Int32))] [(.int (own_eq b1 b2 hs1 hs2)), (.int (own_eq b2 b1 hs2 hs1))])
          refine own_go (fun tz kz => XS.icmpNo X12.here hx rfl (hb hby at_182) rfl (XT.ii_ne_f (own_eq_comm b1 b2 hs1 hs2)) kz) ?_
          show own_Go p.tables e below _ T12 (mkF m 185 #[.val (.long q1), .second, .val (.long q2), .second, .val (.int p3), .val (.int p4), .val (.int p5), .val (.int p6), .val (.long b1), .second, .val (.long b2), .second, .val (.int hs1), .val (.int hs2), .val (.ref o1), .val (.ref o2), .val (.int (own_eq b1 b2 hs1 hs2)), .val (.ref bx), .val (.int (own_eq b1 b2 hs1 hs2)), .val (.int (own_eq b2 b1 hs2 hs1)), .val (.int (own_eq b1 b1 hs1 hs1)), .val (.int (0 : Int32)), .val (.int (0 : Int32))] [])
          refine own_go (fun tz kz => XS.iload X12.here hx rfl (hb hby at_185) rfl kz) ?_
          show own_Go p.tables e below _ T12 (mkF m 187 #[.val (.long q1), .second, .val (.long q2), .second, .val (.int p3), .val (.int p4), .val (.int p5), .val (.int p6), .val (.long b1), .second, .val (.long b2), .second, .val (.int hs1), .val (.int hs2), .val (.ref o1), .val (.ref o2), .val (.int (own_eq b1 b2 hs1 hs2)), .val (.ref bx), .val (.int (own_eq b1 b2 hs1 hs2)), .val (.int (own_eq b2 b1 hs2 hs1)), .val (.int (own_eq b1 b1 hs1 hs1)), .val (.int (0 : Int32)), .val (.int (0 : Int32))] [(.int (own_eq b1 b1 hs1 hs1))])
          refine own_go (fun tz kz => XS.ifNo X12.here hx rfl (hb hby at_187) rfl (XT.i0_eq_f (own_eq_self b1 hs1)) kz) ?_
          show own_Go p.tables e below _ T12 (mkF m 190 #[.val (.long q1), .second, .val (.long q2), .second, .val (.int p3), .val (.int p4), .val (.int p5), .val (.int p6), .val (.long b1), .second, .val (.long b2), .second, .val (.int hs1), .val (.int hs2), .val (.ref o1), .val (.ref o2), .val (.int (own_eq b1 b2 hs1 hs2)), .val (.ref bx), .val (.int (own_eq b1 b2 hs1 hs2)), .val (.int (own_eq b2 b1 hs2 hs1)), .val (.int (own_eq b1 b1 hs1 hs1)), .val (.int (0 : Int32)), .val (.int (0 : Int32))] [])
          refine own_go (fun tz kz => XS.iload X12.here hx rfl (hb hby at_190) rfl kz) ?_
          show own_Go p.tables e below _ T12 (mkF m 192 #[.val (.long q1), .second, .val (.long q2), .second, .val (.int p3), .val (.int p4), .val (.int p5), .val (.int p6), .val (.long b1), .second, .val (.long b2), .second, .val (.int hs1), .val (.int hs2), .val (.ref o1), .val (.ref o2), .val (.int (own_eq b1 b2 hs1 hs2)), .val (.ref bx), .val (.int (own_eq b1 b2 hs1 hs2)), .val (.int (own_eq b2 b1 hs2 hs1)), .val (.int (own_eq b1 b1 hs1 hs1)), .val (.int (0 : Int32)), .val (.int (0 : Int32))] [(.int (0 : Int32))])
          refine own_go (fun tz kz => XS.ifNo X12.here hx rfl (hb hby at_192) rfl (XT.i0_ne_f rfl) kz) ?_
          show own_Go p.tables e below _ T12 (mkF m 195 #[.val (.long q1), .second, .val (.long q2), .second, .val (.int p3), .val (.int p4), .val (.int p5), .val (.int p6), .val (.long b1), .second, .val (.long b2), .second, .val (.int hs1), .val (.int hs2), .val (.ref o1), .val (.ref o2), .val (.int (own_eq b1 b2 hs1 hs2)), .val (.ref bx), .val (.int (own_eq b1 b2 hs1 hs2)), .val (.int (own_eq b2 b1 hs2 hs1)), .val (.int (own_eq b1 b1 hs1 hs1)), .val (.int (0 : Int32)), .val (.int (0 : Int32))] [])
          refine own_go (fun tz kz => XS.iload X12.here hx rfl (hb hby at_195) rfl kz) ?_
          show own_Go p.tables e below _ T12 (mkF m 197 #[.val (.long q1), .second, .val (.long q2), .second, .val (.int p3), .val (.int p4), .val (.int p5), .val (.int p6), .val (.long b1), .second, .val (.long b2), .second, .val (.int hs1), .val (.int hs2), .val (.ref o1), .val (.ref o2), .val (.int (own_eq b1 b2 hs1 hs2)), .val (.ref bx), .val (.int (own_eq b1 b2 hs1 hs2)), .val (.int (own_eq b2 b1 hs2 hs1)), .val (.int (own_eq b1 b1 hs1 hs1)), .val (.int (0 : Int32)), .val (.int (0 : Int32))] [(.int (0 : Int32))])
          refine own_go (fun tz kz => XS.ifNo X12.here hx rfl (hb hby at_197) rfl (XT.i0_ne_f rfl) kz) ?_
          show own_Go p.tables e below _ T12 (mkF m 200 #[.val (.long q1), .second, .val (.long q2), .second, .val (.int p3), .val (.int p4), .val (.int p5), .val (.int p6), .val (.long b1), .second, .val (.long b2), .second, .val (.int hs1), .val (.int hs2), .val (.ref o1), .val (.ref o2), .val (.int (own_eq b1 b2 hs1 hs2)), .val (.ref bx), .val (.int (own_eq b1 b2 hs1 hs2)), .val (.int (own_eq b2 b1 hs2 hs1)), .val (.int (own_eq b1 b1 hs1 hs1)), .val (.int (0 : Int32)), .val (.int (0 : Int32))] [])
          refine own_go (fun tz kz => XS.iconst X12.here hx rfl (hb hby at_200) kz) ?_
          show own_Go p.tables e below _ T12 (mkF m 201 #[.val (.long q1), .second, .val (.long q2), .second, .val (.int p3), .val (.int p4), .val (.int p5), .val (.int p6), .val (.long b1), .second, .val (.long b2), .second, .val (.int hs1), .val (.int hs2), .val (.ref o1), .val (.ref o2), .val (.int (own_eq b1 b2 hs1 hs2)), .val (.ref bx), .val (.int (own_eq b1 b2 hs1 hs2)), .val (.int (own_eq b2 b1 hs2 hs1)), .val (.int (own_eq b1 b1 hs1 hs1)), .val (.int (0 : Int32)), .val (.int (0 : Int32))] [(.int (1 : Int32))])
          refine own_go (fun tz kz => XS.goto X12.here hx rfl (pc0 := 201) (pc' := 205) rfl (hb hby at_201) (by decide) (by decide) kz) ?_
          show own_Go p.tables e below _ T12 (mkF m 205 #[.val (.long q1), .second, .val (.long q2), .second, .val (.int p3), .val (.int p4), .val (.int p5), .val (.int p6), .val (.long b1), .second, .val (.long b2), .second, .val (.int hs1), .val (.int hs2), .val (.ref o1), .val (.ref o2), .val (.int (own_eq b1 b2 hs1 hs2)), .val (.ref bx), .val (.int (own_eq b1 b2 hs1 hs2)), .val (.int (own_eq b2 b1 hs2 hs1)), .val (.int (own_eq b1 b1 hs1 hs1)), .val (.int (0 : Int32)), .val (.int (0 : Int32))] [(.int (1 : Int32))])
          obtain ⟨fs, hr, hrun, hended, hW, hsame⟩ := X12.leave (v := some (.int (1 : Int32))) (fun h => by rw [Bd.returns] at h; cases h) (BodyLoose.notSynchronized Bd)
          refine ⟨_, _, ?_, hrun, hended, _, _, rfl, ?_, ⟨_, rfl⟩, hW, hsame.mono (by decide) (by decide)⟩
          · exact retN X12 hx (t := .boolean) Bd.returns (by simp) (hb hby at_205) hr
          · show Q0 Z q1 q2 p3 p4 p5 p6 ca gc h0 n0 _ T12.heap _
            rw [e12]
            exact ⟨rfl, N12⟩
        by_cases hp : ¬ p6 < -128 ∧ ¬ (127 : Int32) < p6
        ·
          obtain ⟨_, _, ⟨T13, L13, k13, n13⟩, -, X13, ⟨Lc13, hQ13, l13, y13, z13⟩, st13⟩ := Jvm.LawKit.callS X6 hx (y := (⟨"java/lang/Integer", "valueOf", "(I)Ljava/lang/Integer;"⟩ : MethodName)) hown (mvT hZ (hw _ (List.mem_of_getElem? (i := 21) rfl))) (mvT hZ (hw _ (List.mem_of_getElem? (i := 22) rfl))) (mvT hZ (hw _ (List.mem_of_getElem? (i := 23) rfl))) (mvT hZ (hw _ (List.mem_of_getElem? (i := 24) rfl))) (by decide) (backOf (W := 0) (rm4c l Z a0 hw [] p6 ca gc T6.heap n0 (Nat.le_trans (Nat.le_trans (Nat.le_trans (Nat.le_trans Zs2 E3.1) K4.1) E5.1) K6.1) (SH.ext Od.2) (SC.ext Od.2) (Vc.ext Od.2) hp.1 hp.2) hZ (hw _ (List.mem_of_getElem? (i := 24) rfl)) (hw _ (List.mem_of_getElem? (i := 23) rfl)) (by decide) (by decide)) (g := (mkF m 122 #[.val (.long q1), .second, .val (.long q2), .second, .val (.int p3), .val (.int p4), .val (.int p5), .val (.int p6), .val (.long b1), .second, .val (.long b2), .second, .val (.int hs1), .val (.int hs2), .val (.ref o1), .val (.ref o2), .val (.int (own_eq b1 b2 hs1 hs2)), .unset, .unset, .unset, .unset, .unset, .unset] [(.int p6)])) rfl (by rw [hml]; rfl) (argsL := [(.int p6)]) (rest := []) (lenOf pd_5 rfl) rfl (by show 2 * 0 + _ ≤ _; exact Nat.le_of_eq rfl) (hb hby at_122) (fun _ _ => ⟨rfl, rfl, (by decide : 2 + 1 ≤ _), (by decide : 4 + 1 ≤ _)⟩)
          dsimp only [Pt.U, Pt.locs, Pt.cells, Pt.slots] at X13 l13 y13 z13 st13 hQ13
          subst l13 y13 z13
          obtain ⟨rfl, N13q, e13⟩ := hQ13
          have N13 := Fr.app N6 N13q
          refine own_go (fun tz kz => st13 tz kz) ?_
          show own_Go p.tables e below _ T13 (mkF m 125 #[.val (.long q1), .second, .val (.long q2), .second, .val (.int p3), .val (.int p4), .val (.int p5), .val (.int p6), .val (.long b1), .second, .val (.long b2), .second, .val (.int hs1), .val (.int hs2), .val (.ref o1), .val (.ref o2), .val (.int (own_eq b1 b2 hs1 hs2)), .unset, .unset, .unset, .unset, .unset, .unset] [(.ref (gc (p6 + 128).toInt.toNat))])
          exact J125 T13 _ _ X13 e13 N13 (Nat.le_trans (Nat.le_trans (Nat.le_trans (Nat.le_trans Zs2 E3.1) K4.1) E5.1) K6.1) _ ((Ec _ (own_idx hp.1 hp.2).2).ext Od.2) E1' E2 F1' F2 G1' G2
        ·
          obtain ⟨bx, ebx⟩ : ∃ z, z = (T6.heap).size := ⟨_, rfl⟩
          obtain ⟨_, _, ⟨T14, L14, k14, n14⟩, -, X14, ⟨Lc14, hQ14, l14, y14, z14⟩, st14⟩ := Jvm.LawKit.callS X6 hx (y := (⟨"java/lang/Integer", "valueOf", "(I)Ljava/lang/Integer;"⟩ : MethodName)) hown (mvT hZ (hw _ (List.mem_of_getElem? (i := 21) rfl))) (mvT hZ (hw _ (List.mem_of_getElem? (i := 22) rfl))) (mvT hZ (hw _ (List.mem_of_getElem? (i := 23) rfl))) (mvT hZ (hw _ (List.mem_of_getElem? (i := 24) rfl))) (by decide) (backOf (W := 0) (rm4n l Z a0 hw [] p6 bx T6.heap n0 (Nat.le_trans (Nat.le_trans (Nat.le_trans (Nat.le_trans Zs2 E3.1) K4.1) E5.1) K6.1) (SH.ext Od.2) ebx hp) hZ (hw _ (List.mem_of_getElem? (i := 24) rfl)) (hw _ (List.mem_of_getElem? (i := 23) rfl)) (by decide) (by decide)) (g := (mkF m 122 #[.val (.long q1), .second, .val (.long q2), .second, .val (.int p3), .val (.int p4), .val (.int p5), .val (.int p6), .val (.long b1), .second, .val (.long b2), .second, .val (.int hs1), .val (.int hs2), .val (.ref o1), .val (.ref o2), .val (.int (own_eq b1 b2 hs1 hs2)), .unset, .unset, .unset, .unset, .unset, .unset] [(.int p6)])) rfl (by rw [hml]; rfl) (argsL := [(.int p6)]) (rest := []) (lenOf pd_5 rfl) rfl (by show 2 * 0 + _ ≤ _; exact Nat.le_of_eq rfl) (hb hby at_122) (fun _ _ => ⟨rfl, rfl, (by decide : 2 + 1 ≤ _), (by decide : 4 + 1 ≤ _)⟩)
          dsimp only [Pt.U, Pt.locs, Pt.cells, Pt.slots] at X14 l14 y14 z14 st14 hQ14
          subst l14 y14 z14
          obtain ⟨rfl, N14q, K14, Ebx⟩ := hQ14
          have N14 := Fr.app N6 N14q
          refine own_go (fun tz kz => st14 tz kz) ?_
          show own_Go p.tables e below _ T14 (mkF m 125 #[.val (.long q1), .second, .val (.long q2), .second, .val (.int p3), .val (.int p4), .val (.int p5), .val (.int p6), .val (.long b1), .second, .val (.long b2), .second, .val (.int hs1), .val (.int hs2), .val (.ref o1), .val (.ref o2), .val (.int (own_eq b1 b2 hs1 hs2)), .unset, .unset, .unset, .unset, .unset, .unset] [(.ref bx)])
          exact J125 T14 _ _ X14 rfl N14 (Nat.le_trans (Nat.le_trans (Nat.le_trans (Nat.le_trans (Nat.le_trans Zs2 E3.1) K4.1) E5.1) K6.1) K14.1) bx Ebx (E1'.keep K14) (E2.keep K14) (F1'.keep K14 (fun q => nomatch q)) (F2.keep K14 (fun q => nomatch q)) (G1'.keep K14 (fun q => nomatch q)) (G2.keep K14 (fun q => nomatch q))
      by_cases ha : b1 = b2
      ·
        refine own_go (fun tz kz => XS.ifNo X6.here hx rfl (hb hby at_103) rfl (XT.ll_ne_f ha) kz) ?_
        show own_Go p.tables e below _ T6 (mkF m 106 #[.val (.long q1), .second, .val (.long q2), .second, .val (.int p3), .val (.int p4), .val (.int p5), .val (.int p6), .val (.long b1), .second, .val (.long b2), .second, .val (.int hs1), .val (.int hs2), .val (.ref o1), .val (.ref o2), .unset, .unset, .unset, .unset, .unset, .unset, .unset] [])
        refine own_go (fun tz kz => XS.iload X6.here hx rfl (hb hby at_106) rfl kz) ?_
        show own_Go p.tables e below _ T6 (mkF m 108 #[.val (.long q1), .second, .val (.long q2), .second, .val (.int p3), .val (.int p4), .val (.int p5), .val (.int p6), .val (.long b1), .second, .val (.long b2), .second, .val (.int hs1), .val (.int hs2), .val (.ref o1), .val (.ref o2), .unset, .unset, .unset, .unset, .unset, .unset, .unset] [(.int hs1)])
        refine own_go (fun tz kz => XS.iload X6.here hx rfl (hb hby at_108) rfl kz) ?_
        show own_Go p.tables e below _ T6 (mkF m 110 #[.val (.long q1), .second, .val (.long q2), .second, .val (.int p3), .val (.int p4), .val (.int p5), .val (.int p6), .val (.long b1), .second, .val (.long b2), .second, .val (.int hs1), .val (.int hs2), .val (.ref o1), .val (.ref o2), .unset, .unset, .unset, .unset, .unset, .unset, .unset] [(.int hs2), (.int hs1)])
        by_cases hb' : hs1 = hs2
        ·
          refine own_go (fun tz kz => XS.icmpNo X6.here hx rfl (hb hby at_110) rfl (XT.ii_ne_f hb') kz) ?_
          show own_Go p.tables e below _ T6 (mkF m 113 #[.val (.long q1), .second, .val (.long q2), .second, .val (.int p3), .val (.int p4), .val (.int p5), .val (.int p6), .val (.long b1), .second, .val (.long b2), .second, .val (.int hs1), .val (.int hs2), .val (.ref o1), .val (.ref o2), .unset, .unset, .unset, .unset, .unset, .unset, .unset] [])
          refine own_go (fun tz kz => XS.iconst X6.here hx rfl (hb hby at_113) kz) ?_
          show own_Go p.tables e below _ T6 (mkF m 114 #[.val (.long q1), .second, .val (.long q2), .second, .val (.int p3), .val (.int p4), .val (.int p5), .val (.int p6), .val (.long b1), .second, .val (.long b2), .second, .val (.int hs1), .val (.int hs2), .val (.ref o1), .val (.ref o2), .unset, .unset, .unset, .unset, .unset, .unset, .unset] [(.int (1 : Int32))])
          refine own_go (fun tz kz => XS.goto X6.here hx rfl (pc0 := 114) (pc' := 118) rfl (hb hby at_114) (by decide) (by decide) kz) ?_
          show own_Go p.tables e below _ T6 (mkF m 118 #[.val (.long q1), .second, .val (.long q2), .second, .val (.int p3), .val (.int p4), .val (.int p5), .val (.int p6), .val (.long b1), .second, .val (.long b2), .second, .val (.int hs1), .val (.int hs2), .val (.ref o1), .val (.ref o2), .unset, .unset, .unset, .unset, .unset, .unset, .unset] [(.int (1 : Int32))])
          exact J118 _ ((if_pos ha).trans (if_pos hb')).symm
        ·
          refine own_go (fun tz kz => XS.icmpYes X6.here hx rfl (pc0 := 110) (pc' := 117) rfl (hb hby at_110) rfl (XT.ii_ne_t hb') (by decide) (by decide) kz) ?_
          show own_Go p.tables e below _ T6 (mkF m 117 #[.val (.long q1), .second, .val (.long q2), .second, .val (.int p3), .val (.int p4), .val (.int p5), .val (.int p6), .val (.long b1), .second, .val (.long b2), .second, .val (.int hs1), .val (.int hs2), .val (.ref o1), .val (.ref o2), .unset, .unset, .unset, .unset, .unset, .unset, .unset] [])
          refine own_go (fun tz kz => XS.iconst X6.here hx rfl (hb hby at_117) kz) ?_
          show own_Go p.tables e below _ T6 (mkF m 118 #[.val (.long q1), .second, .val (.long q2), .second, .val (.int p3), .val (.int p4), .val (.int p5), .val (.int p6), .val (.long b1), .second, .val (.long b2), .second, .val (.int hs1), .val (.int hs2), .val (.ref o1), .val (.ref o2), .unset, .unset, .unset, .unset, .unset, .unset, .unset] [(.int (0 : Int32))])
          exact J118 _ ((if_pos ha).trans (if_neg hb')).symm
      ·
        refine own_go (fun tz kz => XS.ifYes X6.here hx rfl (pc0 := 103) (pc' := 117) rfl (hb hby at_103) rfl (XT.ll_ne_t ha) (by decide) (by decide) kz) ?_
        show own_Go p.tables e below _ T6 (mkF m 117 #[.val (.long q1), .second, .val (.long q2), .second, .val (.int p3), .val (.int p4), .val (.int p5), .val (.int p6), .val (.long b1), .second, .val (.long b2), .second, .val (.int hs1), .val (.int hs2), .val (.ref o1), .val (.ref o2), .unset, .unset, .unset, .unset, .unset, .unset, .unset] [])
        refine own_go (fun tz kz => XS.iconst X6.here hx rfl (hb hby at_117) kz) ?_
        show own_Go p.tables e below _ T6 (mkF m 118 #[.val (.long q1), .second, .val (.long q2), .second, .val (.int p3), .val (.int p4), .val (.int p5), .val (.int p6), .val (.long b1), .second, .val (.long b2), .second, .val (.int hs1), .val (.int hs2), .val (.ref o1), .val (.ref o2), .unset, .unset, .unset, .unset, .unset, .unset, .unset] [(.int (0 : Int32))])
        exact J118 _ (if_neg ha).symm
    by_cases hf2 : (p5 &&& (2 : Int32)) = (0 : Int32)
    ·
      refine own_go (fun tz kz => XS.ifYes X2.here hx rfl (pc0 := 51) (pc' := 59) rfl (hb hby at_51) rfl (XT.i0_eq_t hf2) (by decide) (by decide) kz) ?_
      show own_Go p.tables e below _ T2 (mkF m 59 #[.val (.long q1), .second, .val (.long q2), .second, .val (.int p3), .val (.int p4), .val (.int p5), .val (.int p6), .val (.long b1), .second, .val (.long b2), .second, .val (.int hs1), .unset, .unset, .unset, .unset, .unset, .unset, .unset, .unset, .unset, .unset] [])
      refine own_go (fun tz kz => XS.iload X2.here hx rfl (hb hby at_59) rfl kz) ?_
      show own_Go p.tables e below _ T2 (mkF m 61 #[.val (.long q1), .second, .val (.long q2), .second, .val (.int p3), .val (.int p4), .val (.int p5), .val (.int p6), .val (.long b1), .second, .val (.long b2), .second, .val (.int hs1), .unset, .unset, .unset, .unset, .unset, .unset, .unset, .unset, .unset, .unset] [(.int p4)])
      refine own_go (fun tz kz => X2.ldcI hx hown (mvT hZ (hw _ (List.mem_of_getElem? (i := 5) rfl))) rfl (hb hby at_61) kz) ?_
      show own_Go p.tables e below _ T2 (mkF m 63 #[.val (.long q1), .second, .val (.long q2), .second, .val (.int p3), .val (.int p4), .val (.int p5), .val (.int p6), .val (.long b1), .second, .val (.long b2), .second, .val (.int hs1), .unset, .unset, .unset, .unset, .unset, .unset, .unset, .unset, .unset, .unset] [(.int (2147483647 : Int32)), (.int p4)])
      refine own_go (fun tz kz => XS.iand X2.here hx rfl (hb hby at_63) rfl kz) ?_
      show own_Go p.tables e below _ T2 (mkF m 64 #[.val (.long q1), .second, .val (.long q2), .second, .val (.int p3), .val (.int p4), .val (.int p5), .val (.int p6), .val (.long b1), .second, .val (.long b2), .second, .val (.int hs1), .unset, .unset, .unset, .unset, .unset, .unset, .unset, .unset, .unset, .unset] [(.int (p4 &&& (2147483647 : Int32)))])
      refine own_go (fun tz kz => XS.sipush X2.here hx rfl (hb hby at_64) kz) ?_
      show own_Go p.tables e below _ T2 (mkF m 67 #[.val (.long q1), .second, .val (.long q2), .second, .val (.int p3), .val (.int p4), .val (.int p5), .val (.int p6), .val (.long b1), .second, .val (.long b2), .second, .val (.int hs1), .unset, .unset, .unset, .unset, .unset, .unset, .unset, .unset, .unset, .unset] [(.int (1075 : Int32)), (.int (p4 &&& (2147483647 : Int32)))])
      refine own_go (fun tz kz => iremM X2 hx rfl (hb hby at_67) rfl (by decide) kz) ?_
      show own_Go p.tables e below _ T2 (mkF m 68 #[.val (.long q1), .second, .val (.long q2), .second, .val (.int p3), .val (.int p4), .val (.int p5), .val (.int p6), .val (.long b1), .second, .val (.long b2), .second, .val (.int hs1), .unset, .unset, .unset, .unset, .unset, .unset, .unset, .unset, .unset, .unset] [(.int ((p4 &&& (2147483647 : Int32)) % (1075 : Int32)))])
      refine own_go (fun tz kz => XS.iconst X2.here hx rfl (hb hby at_68) kz) ?_
      show own_Go p.tables e below _ T2 (mkF m 69 #[.val (.long q1), .second, .val (.long q2), .second, .val (.int p3), .val (.int p4), .val (.int p5), .val (.int p6), .val (.long b1), .second, .val (.long b2), .second, .val (.int hs1), .unset, .unset, .unset, .unset, .unset, .unset, .unset, .unset, .unset, .unset] [(.int (1 : Int32)), (.int ((p4 &&& (2147483647 : Int32)) % (1075 : Int32)))])
      refine own_go (fun tz kz => XS.iadd X2.here hx rfl (hb hby at_69) rfl kz) ?_
      show own_Go p.tables e below _ T2 (mkF m 70 #[.val (.long q1), .second, .val (.long q2), .second, .val (.int p3), .val (.int p4), .val (.int p5), .val (.int p6), .val (.long b1), .second, .val (.long b2), .second, .val (.int hs1), .unset, .unset, .unset, .unset, .unset, .unset, .unset, .unset, .unset, .unset] [(.int (((p4 &&& (2147483647 : Int32)) % (1075 : Int32)) + (1 : Int32)))])
      exact J70 _ (own_hash p4)
    ·
      refine own_go (fun tz kz => XS.ifNo X2.here hx rfl (hb hby at_51) rfl (XT.i0_eq_f hf2) kz) ?_
      show own_Go p.tables e below _ T2 (mkF m 54 #[.val (.long q1), .second, .val (.long q2), .second, .val (.int p3), .val (.int p4), .val (.int p5), .val (.int p6), .val (.long b1), .second, .val (.long b2), .second, .val (.int hs1), .unset, .unset, .unset, .unset, .unset, .unset, .unset, .unset, .unset, .unset] [])
      refine own_go (fun tz kz => XS.iload X2.here hx rfl (hb hby at_54) rfl kz) ?_
      show own_Go p.tables e below _ T2 (mkF m 56 #[.val (.long q1), .second, .val (.long q2), .second, .val (.int p3), .val (.int p4), .val (.int p5), .val (.int p6), .val (.long b1), .second, .val (.long b2), .second, .val (.int hs1), .unset, .unset, .unset, .unset, .unset, .unset, .unset, .unset, .unset, .unset] [(.int hs1)])
      refine own_go (fun tz kz => XS.goto X2.here hx rfl (pc0 := 56) (pc' := 70) rfl (hb hby at_56) (by decide) (by decide) kz) ?_
      show own_Go p.tables e below _ T2 (mkF m 70 #[.val (.long q1), .second, .val (.long q2), .second, .val (.int p3), .val (.int p4), .val (.int p5), .val (.int p6), .val (.long b1), .second, .val (.long b2), .second, .val (.int hs1), .unset, .unset, .unset, .unset, .unset, .unset, .unset, .unset, .unset, .unset] [(.int hs1)])
      exact J70 _ hh1
  by_cases hf1 : (p5 &&& (1 : Int32)) = (0 : Int32)
  ·
    refine own_go (fun tz kz => XS.ifYes X1.here hx rfl (pc0 := 15) (pc' := 23) rfl (hb hby at_15) rfl (XT.i0_eq_t hf1) (by decide) (by decide) kz) ?_
    show own_Go p.tables e below _ T1 (mkF m 23 #[.val (.long q1), .second, .val (.long q2), .second, .val (.int p3), .val (.int p4), .val (.int p5), .val (.int p6), .val (.long b1), .second, .unset, .unset, .unset, .unset, .unset, .unset, .unset, .unset, .unset, .unset, .unset, .unset, .unset] [])
    refine own_go (fun tz kz => XT.lconst X1.here hx rfl (hb hby at_23) kz) ?_
    show own_Go p.tables e below _ T1 (mkF m 24 #[.val (.long q1), .second, .val (.long q2), .second, .val (.int p3), .val (.int p4), .val (.int p5), .val (.int p6), .val (.long b1), .second, .unset, .unset, .unset, .unset, .unset, .unset, .unset, .unset, .unset, .unset, .unset, .unset, .unset] [(.long (1 : Int64))])
    refine own_go (fun tz kz => XT.lloadN X1.here hx rfl (hb hby at_24) rfl kz) ?_
    show own_Go p.tables e below _ T1 (mkF m 25 #[.val (.long q1), .second, .val (.long q2), .second, .val (.int p3), .val (.int p4), .val (.int p5), .val (.int p6), .val (.long b1), .second, .unset, .unset, .unset, .unset, .unset, .unset, .unset, .unset, .unset, .unset, .unset, .unset, .unset] [(.long q2), (.long (1 : Int64))])
    refine own_go (fun tz kz => X1.ldc2J hx hown (mvT hZ (hw _ (List.mem_of_getElem? (i := 0) rfl))) rfl (hb hby at_25) kz) ?_
    show own_Go p.tables e below _ T1 (mkF m 28 #[.val (.long q1), .second, .val (.long q2), .second, .val (.int p3), .val (.int p4), .val (.int p5), .val (.int p6), .val (.long b1), .second, .unset, .unset, .unset, .unset, .unset, .unset, .unset, .unset, .unset, .unset, .unset, .unset, .unset] [(.long (9223372036854775807 : Int64)), (.long q2), (.long (1 : Int64))])
    refine own_go (fun tz kz => XT.land X1.here hx rfl (hb hby at_28) rfl kz) ?_
    show own_Go p.tables e below _ T1 (mkF m 29 #[.val (.long q1), .second, .val (.long q2), .second, .val (.int p3), .val (.int p4), .val (.int p5), .val (.int p6), .val (.long b1), .second, .unset, .unset, .unset, .unset, .unset, .unset, .unset, .unset, .unset, .unset, .unset, .unset, .unset] [(.long (q2 &&& (9223372036854775807 : Int64))), (.long (1 : Int64))])
    obtain ⟨_, _, ⟨T15, L15, k15, n15⟩, -, X15, ⟨Lc15, hQ15, l15, y15, z15⟩, st15⟩ := Jvm.LawKit.callS X1 hx (y := (⟨"java/lang/Math", "max", "(JJ)J"⟩ : MethodName)) hown (mvT hZ (hw _ (List.mem_of_getElem? (i := 1) rfl))) (mvT hZ (hw _ (List.mem_of_getElem? (i := 2) rfl))) (mvT hZ (hw _ (List.mem_of_getElem? (i := 3) rfl))) (mvT hZ (hw _ (List.mem_of_getElem? (i := 4) rfl))) (by decide) (backOf (W := 0) (rm1 l Z a0 hw [] (1 : Int64) (q2 &&& (9223372036854775807 : Int64)) h0 n0 Z0) hZ (hw _ (List.mem_of_getElem? (i := 4) rfl)) (hw _ (List.mem_of_getElem? (i := 3) rfl)) (by decide) (by decide)) (g := (mkF m 29 #[.val (.long q1), .second, .val (.long q2), .second, .val (.int p3), .val (.int p4), .val (.int p5), .val (.int p6), .val (.long b1), .second, .unset, .unset, .unset, .unset, .unset, .unset, .unset, .unset, .unset, .unset, .unset, .unset, .unset] [(.long (q2 &&& (9223372036854775807 : Int64))), (.long (1 : Int64))])) rfl (by rw [hml]; rfl) (argsL := [(.long (1 : Int64)), (.long (q2 &&& (9223372036854775807 : Int64)))]) (rest := []) (lenOf pd_2 rfl) rfl (by show 2 * 0 + _ ≤ _; exact Nat.le_of_eq rfl) (hb hby at_29) (fun _ _ => ⟨rfl, e1, (by decide : 0 + 0 ≤ _), (by decide : 0 + 0 ≤ _)⟩)
    dsimp only [Pt.U, Pt.locs, Pt.cells, Pt.slots] at X15 l15 y15 z15 st15 hQ15
    subst l15 y15 z15
    obtain ⟨rfl, N15q, e15⟩ := hQ15
    have N15 := Fr.app N1 N15q
    refine own_go (fun tz kz => st15 tz kz) ?_
    show own_Go p.tables e below _ T15 (mkF m 32 #[.val (.long q1), .second, .val (.long q2), .second, .val (.int p3), .val (.int p4), .val (.int p5), .val (.int p6), .val (.long b1), .second, .unset, .unset, .unset, .unset, .unset, .unset, .unset, .unset, .unset, .unset, .unset, .unset, .unset] [(.long (own_max (1 : Int64) (q2 &&& (9223372036854775807 : Int64))))])
    exact J32 T15 _ _ X15 e15 N15 Z0 _ (own_max1 _) O0
  ·
    refine own_go (fun tz kz => XS.ifNo X1.here hx rfl (hb hby at_15) rfl (XT.i0_eq_f hf1) kz) ?_
    show own_Go p.tables e below _ T1 (mkF m 18 #[.val (.long q1), .second, .val (.long q2), .second, .val (.int p3), .val (.int p4), .val (.int p5), .val (.int p6), .val (.long b1), .second, .unset, .unset, .unset, .unset, .unset, .unset, .unset, .unset, .unset, .unset, .unset, .unset, .unset] [])
    refine own_go (fun tz kz => XT.lload X1.here hx rfl (hb hby at_18) rfl kz) ?_
    show own_Go p.tables e below _ T1 (mkF m 20 #[.val (.long q1), .second, .val (.long q2), .second, .val (.int p3), .val (.int p4), .val (.int p5), .val (.int p6), .val (.long b1), .second, .unset, .unset, .unset, .unset, .unset, .unset, .unset, .unset, .unset, .unset, .unset, .unset, .unset] [(.long b1)])
    refine own_go (fun tz kz => XS.goto X1.here hx rfl (pc0 := 20) (pc' := 32) rfl (hb hby at_20) (by decide) (by decide) kz) ?_
    show own_Go p.tables e below _ T1 (mkF m 32 #[.val (.long q1), .second, .val (.long q2), .second, .val (.int p3), .val (.int p4), .val (.int p5), .val (.int p6), .val (.long b1), .second, .unset, .unset, .unset, .unset, .unset, .unset, .unset, .unset, .unset, .unset, .unset, .unset, .unset] [(.long b1)])
    exact J32 T1 _ _ X1 e1 N1 Z0 _ hb1 O0
set_option maxRecDepth 65536 in
set_option maxHeartbeats 40000000 in
theorem comes_1 {Post : Tables → Env → Array Value → State → Outcome → State → Prop} (hpost : ∀ tb e args s v u, (limb_1_1.after args s (.returned v) u = true ∧ limb_1_2.after args s (.returned v) u = true ∧ True) → FrameEnd s (.returned v) u (Jvm.fieldLocs frame_1_writes args s ++ Jvm.arrayLocs frame_1_arrays args s ++ Jvm.staticLocs frame_1_statics s) 16 128 → Post tb e args s (.returned v) u) :
    ArmFor flags0 classFile x code maxLocals ret World_1 tables_1 room_1 Calls_1 rest_1 Pre_1 Post := by
  intro l hfl _ _ p e ha hc hk s m args below hf hA hF happ hP
  obtain ⟨hcalls, hrest, hpre⟩ := hP
  obtain ⟨-, -, -, hnamed, -, -, -, hat⟩ := (Spec.applies_iff hf).mp happ
  obtain ⟨hg, hn⟩ := and_e (Cond.before_iff.mp (show (Jvm.Cond.and given_1 narrow_1).before args s = true from hpre))
  obtain ⟨gc, ga0⟩ := and_e hg
  obtain ⟨gv0, ga1⟩ := and_e ga0
  obtain ⟨gv1, ga2⟩ := and_e ga1
  obtain ⟨gv2, ga3⟩ := and_e ga2
  obtain ⟨gv3, ga4⟩ := and_e ga3
  obtain ⟨gv4, ga5⟩ := and_e ga4
  have gv5 := ga5
  obtain ⟨w0, w1, w2, w3, w4, w5, rfl⟩ : ∃ w0 w1 w2 w3 w4 w5 : Value, args = #[w0, w1, w2, w3, w4, w5] := by
    have hs : args.size = 6 := by simpa [Cond.value, given_1] using gc
    obtain ⟨L⟩ := args
    match L, hs with
    | [w0, w1, w2, w3, w4, w5], _ => exact ⟨w0, w1, w2, w3, w4, w5, rfl⟩
  have hw := fun d (hd : d ∈ tables_1) => atoms_spec (ws := Jvm.Cond.code x code maxLocals ret :: tables_1) hat d (List.mem_cons_of_mem _ hd)
  have hfit : Fit s := fun {y c} hc i hi => by
    obtain ⟨ha, rfl⟩ := Array.getElem?_eq_some_iff.mp hc
    have q := List.all_eq_true.mp ((Array.all_eq_true_iff_forall_mem.mp hF) _ (Array.getElem_mem ha)) i (List.mem_range.mpr hi)
    simpa [Array.getElem?_eq_getElem hi] using q
  obtain ⟨hsets, hown0⟩ := atoms_of _ (rest_1_c_eq ▸ (show rest_1_c.before _ s = true from hrest))
  have hr0 := Cond.before_iff.mp hown0
  obtain ⟨i0, ei0⟩ := isL_v gv0
  obtain rfl : w0 = (.long i0) := Option.some.inj ei0
  obtain ⟨i1, ei1⟩ := isL_v gv1
  obtain rfl : w1 = (.long i1) := Option.some.inj ei1
  obtain ⟨i2, ei2⟩ := is_v gv2
  obtain rfl : w2 = (.int i2) := Option.some.inj ei2
  obtain ⟨i3, ei3⟩ := is_v gv3
  obtain rfl : w3 = (.int i3) := Option.some.inj ei3
  obtain ⟨i4, ei4⟩ := is_v gv4
  obtain rfl : w4 = (.int i4) := Option.some.inj ei4
  obtain ⟨i5, ei5⟩ := is_v gv5
  obtain rfl : w5 = (.int i5) := Option.some.inj ei5
  have vm_ := own_eqi hn (Term.int_eval (1075))
  have SM : Sta s s.heap "com/example/bit_sieve/bitsieve/FilterSize" "MOST_HASHES" "I" (.int 1075) := Sta.start vm_ (Or.inr ⟨(hw _ (List.mem_of_getElem? (i := 8) rfl)), (hw _ (List.mem_of_getElem? (i := 16) rfl))⟩)
  have vh := own_eqi (Cond.before_iff.mp (hsets _ (List.mem_of_getElem? (i := 3) rfl))) (Term.int_eval (127))
  have SH : Sta s s.heap "java/lang/Integer$IntegerCache" "high" "I" (.int 127) := Sta.start vh (Or.inl (hsets _ (List.mem_of_getElem? (i := 1) rfl)))
  obtain ⟨ca, vc⟩ := exa_v (Cond.before_iff.mp (hsets _ (List.mem_of_getElem? (i := 5) rfl)))
  have SC : Sta s s.heap "java/lang/Integer$IntegerCache" "cache" "[Ljava/lang/Integer;" (.ref ca) := Sta.start vc (Or.inr ⟨(hw _ (List.mem_of_getElem? (i := 26) rfl)), (hsets _ (List.mem_of_getElem? (i := 2) rfl))⟩)
  obtain ⟨cl, Ar⟩ := Arr.start vc (Cond.before_iff.mp (hsets _ (List.mem_of_getElem? (i := 4) rfl)))
  have hat' : s.arrayAt? ca = some cl := Arr.fin (Vm.Alike.refl _) Ar
  obtain ⟨hl1, hl2⟩ := own_len (own_eqi (Cond.before_iff.mp (hsets _ (List.mem_of_getElem? (i := 6) rfl))) (Term.int_eval (256))) vc hat'
  have hsz : cl.slots.size = 256 := by have q := len_toInt hl1; rw [hl2, show (256 : Int32).toInt = 256 from by decide] at q; omega
  have hel : ∀ k, k < 256 → ∃ x, cl.slots[k]? = some (.ref x) ∧ Exa s s.heap x "java/lang/Integer" := fun k hk => by
    have q := Cond.all_elim vc hat' (Cond.before_iff.mp (hsets _ (List.mem_of_getElem? (i := 7) rfl))) k (by rw [hsz]; exact hk)
    obtain ⟨q1, -⟩ := and_e q
    obtain ⟨x, e0⟩ := exa_v q1
    have ix0 : (Term.index 0).eval #[.long i0, .long i1, .int i2, .int i3, .int i4, .int i5] s none [k] s = some (.int k.toInt32) := rfl
    have hk' : (k.toInt32).toNatClampNeg = k := (own_nat (i := k) (by omega)).2
    have e1 := (elem_in e0 vc ix0 Ar.1).2
    rw [hk'] at e1
    refine ⟨x, e1, ?_⟩
    have e2 : (Term.elem (Term.static "java/lang/Integer$IntegerCache" "cache" "[Ljava/lang/Integer;") (Term.int k.toInt32)).eval #[.long i0, .long i1, .int i2, .int i3, .int i4, .int i5] s none [] s = some (.ref x) := by rw [elem_f (j := k.toInt32) vc (Term.int_eval _) hat' (own_nat (i := k) (by omega)).1, hk']; exact e1
    refine Exa.start (args := #[.long i0, .long i1, .int i2, .int i3, .int i4, .int i5]) (t := Term.elem (Term.static "java/lang/Integer$IntegerCache" "cache" "[Ljava/lang/Integer;") (Term.int k.toInt32)) e2 ?_
    simp only [Cond.value] at q1 ⊢
    rw [e0] at q1
    rw [e2]; exact q1
  let gc : Nat → Addr := fun k => match cl.slots[k]? with | some (.ref x) => x | _ => 0
  have hgc : ∀ k, k < 256 → cl.slots[k]? = some (.ref (gc k)) ∧ Exa s s.heap (gc k) "java/lang/Integer" := fun k hk => by
    obtain ⟨x, e1, e2⟩ := hel k hk
    have e3 : gc k = x := by show (match cl.slots[k]? with | some (.ref x) => x | _ => 0) = x; rw [e1]
    rw [e3]; exact ⟨e1, e2⟩
  have Vc : own_Av s s.heap ca (.object "java/lang/Integer") 256 (fun k => .ref (gc k)) := ⟨cl, Ar, hsz, fun k hk => (hgc k hk).1⟩
  obtain ⟨n, o, h1, h2, h3, _, L, rfl, ⟨rfl, N⟩, hq⟩ := rm0 l s _ hw tables_1 i0 i1 i2 i3 i4 i5 ca gc s.heap s.heap.size (Nat.le_refl _) SM SH SC Vc (fun k hk => (hgc k hk).2) (Old.start s) p e ha hc hk s m _ below hf ((Spec.applies_iff_loose hf).mp happ).1 ⟨rfl, State.Warmed39.refl s, rfl⟩ trivial
  exact ⟨n, _, h1, h2, h3, hpost _ _ _ _ _ _ ⟨Cond.after_iff.mpr rfl, Cond.after_iff.mpr (eq_i res_at (Term.int_eval (1)) rfl), trivial⟩ ⟨hq.1, hq.2.1, (hq.2.2.sift fun y hy => Or.inr (N y hy)).mono (by decide) (by decide)⟩⟩
theorem main_1_1 : Claimed_1_1 := comes_1 fun _ _ _ _ _ _ h hF => ⟨h.1, hF⟩
theorem main_1_2 : Claimed_1_2 := comes_1 fun _ _ _ _ _ _ h hF => ⟨h.2.1, hF⟩
end Jvm.Pilot.@@N@@
namespace Jvm.Pilot.@@N@@
open Jvm Jvm.ClassFile Sem Op Lib Jvm.Free Jvm.Stand Jvm.Pilot.@@N@@.Jvm.D
/-! MADE BY PROGRAM (witnessworld.py) out of the Statement's table words and the real class files: 17 classes; the members and pool entries that the words name. The judged class is class 1, her method 1. -/
namespace start1
open Jvm.ClassFile
def u (s : String) : CpInfo := .utf8 (stringToUtf16 s)
/-- a pool by its gaps: so many unusable entries, then the entry; so many at the end -/
def gap : Nat → List CpInfo → List CpInfo
  | 0, r => r
  | n + 1, r => .unusable :: gap n r
def poolList (es : List (Nat × CpInfo)) (last : Nat) : List CpInfo := es.foldr (fun e r => gap e.1 (e.2 :: r)) (gap last [])
def pool (es : List (Nat × CpInfo)) (last : Nat) : Array CpInfo := ⟨poolList es last⟩
def fileOf (pool : Array CpInfo) (this : Nat) (attrs : Array Attribute := #[]) (ms : Array MethodInfo := #[]) (fl : Nat := 33) (sup : Nat := 0) (ifs : Array Nat := #[]) (fds : Array FieldInfo := #[]) : ClassFile where
  minorVersion := 0
  majorVersion := 65
  constantPool := pool
  accessFlags := fl
  thisClass := this
  superClass := sup
  interfaces := ifs
  fields := fds
  methods := ms
  attributes := attrs
def plain (name : String) (sup : Option ClassId) : Class where
  name := name
  kind := .ordinary
  loader := none
  accessFlags := 33
  super := sup
  interfaces := #[]
  cf := none
  fields := #[]
  methods := #[]
  instanceTypes := #[]
  staticTypes := #[]
  resolved := #[]
  callSites := []
  init := .initialized
  statics := none
  mirror := none

def pool0 : Array CpInfo := pool [(5, u "<init>"), (0, u "()V"), (1, .class_ 10), (1, u "java/lang/Object")] 113

def k0c0 : Code := { maxStack := 0, maxLocals := 1, code := object_method_1_code, exceptionTable := #[], attributes := #[] }
def k0m0 : Method := { name := "<init>", desc := "()V", sig := { parameters := [], returnType := none }, accessFlags := 1, code := some k0c0 }
/-- java/lang/Object -/
def k0 : Class := { plain "java/lang/Object" none with
  accessFlags := 33
  interfaces := #[]
  cf := some (fileOf pool0 8 #[] #[{ accessFlags := 1, nameIndex := 5, descriptorIndex := 6, attributes := #[] }] 33 0 #[] #[])
  fields := #[]
  methods := #[k0m0]
  instanceTypes := #[]
  staticTypes := #[]
  resolved := Array.replicate 124 none
  statics := none }

def pool1 : Array CpInfo := pool [(2, .class_ 4), (1, u "java/lang/Object"), (0, u "<init>"), (0, u "()V"), (2, .long 9223372036854775807), (1, .methodref 12 13), (0, .class_ 14), (0, .nameAndType 15 16), (0, u "java/lang/Math"), (0, u "max"), (0, u "(JJ)J"), (0, .integer 2147483647), (0, .class_ 19), (0, u "com/example/bit_sieve/bitsieve/FilterSize"), (0, .methodref 18 21), (0, .nameAndType 5 22), (0, u "(JI)V"), (0, .methodref 24 25), (0, .class_ 26), (0, .nameAndType 27 28), (0, u "java/lang/Integer"), (0, u "valueOf"), (0, u "(I)Ljava/lang/Integer;"), (0, .methodref 18 30), (0, .nameAndType 31 32), (0, u "equals"), (0, u "(Ljava/lang/Object;)Z"), (0, .class_ 34), (0, u "com/example/bit_sieve/bitsieve/FilterSizeEqualsPinLaw"), (2, u "law"), (0, u "(JJIIII)Z")] 3

def k1m0 : Method := { name := "<init>", desc := "()V", sig := { parameters := [], returnType := none }, accessFlags := 1, code := none }
def k1c1 : Code := { maxStack := 6, maxLocals := 23, code := code, exceptionTable := #[], attributes := #[] }
def k1m1 : Method := { name := "law", desc := "(JJIIII)Z", sig := { parameters := [.long, .long, .int, .int, .int, .int], returnType := some .boolean }, accessFlags := 9, code := some k1c1 }
/-- com/example/bit_sieve/bitsieve/FilterSizeEqualsPinLaw -/
def k1 : Class := { plain "com/example/bit_sieve/bitsieve/FilterSizeEqualsPinLaw" (some 0) with
  accessFlags := 49
  interfaces := #[]
  cf := some (fileOf pool1 33 #[] #[{ accessFlags := 1, nameIndex := 5, descriptorIndex := 6, attributes := #[] }, { accessFlags := 9, nameIndex := 37, descriptorIndex := 38, attributes := #[] }] 49 2 #[] #[])
  fields := #[]
  methods := #[k1m0, k1m1]
  instanceTypes := #[]
  staticTypes := #[]
  resolved := Array.replicate 42 none
  statics := none }

def pool2 : Array CpInfo := pool [(1, .class_ 2), (0, u "java/lang/Math"), (1, .class_ 6), (1, u "java/lang/Object"), (0, u "<init>"), (0, u "()V"), (89, .class_ 100), (1, u "java/lang/Math$RandomNumberGeneratorHolder"), (20, u "(JJ)J"), (50, u "negativeZeroFloatBits"), (0, u "J"), (2, u "negativeZeroDoubleBits"), (21, u "max"), (46, u "$assertionsDisabled"), (0, u "Z"), (91, u "twoToTheDoubleScaleDown"), (0, u "D"), (4, u "twoToTheDoubleScaleUp"), (9, u "E"), (3, u "PI"), (2, u "TAU"), (2, u "DEGREES_TO_RADIANS"), (0, u "RADIANS_TO_DEGREES")] 94

def k2m0 : Method := { name := "<init>", desc := "()V", sig := { parameters := [], returnType := none }, accessFlags := 2, code := none }
def k2c1 : Code := { maxStack := 4, maxLocals := 4, code := jdk_29_method_66_code, exceptionTable := #[], attributes := #[] }
def k2m1 : Method := { name := "max", desc := "(JJ)J", sig := { parameters := [.long, .long], returnType := some .long }, accessFlags := 9, code := some k2c1 }
/-- java/lang/Math -/
def k2 : Class := { plain "java/lang/Math" (some 0) with
  accessFlags := 49
  interfaces := #[]
  cf := some (fileOf pool2 1 #[.nestMembers #[98]] #[{ accessFlags := 2, nameIndex := 7, descriptorIndex := 8, attributes := #[] }, { accessFlags := 9, nameIndex := 198, descriptorIndex := 121, attributes := #[] }] 49 4 #[] #[{ accessFlags := 25, nameIndex := 354, descriptorIndex := 339, attributes := #[] }, { accessFlags := 25, nameIndex := 358, descriptorIndex := 339, attributes := #[] }, { accessFlags := 25, nameIndex := 361, descriptorIndex := 339, attributes := #[] }, { accessFlags := 26, nameIndex := 364, descriptorIndex := 339, attributes := #[] }, { accessFlags := 26, nameIndex := 365, descriptorIndex := 339, attributes := #[] }, { accessFlags := 26, nameIndex := 172, descriptorIndex := 173, attributes := #[] }, { accessFlags := 26, nameIndex := 176, descriptorIndex := 173, attributes := #[] }, { accessFlags := 8, nameIndex := 344, descriptorIndex := 339, attributes := #[] }, { accessFlags := 8, nameIndex := 338, descriptorIndex := 339, attributes := #[] }, { accessFlags := 4120, nameIndex := 245, descriptorIndex := 246, attributes := #[] }])
  fields := #[{ name := "E", type := .double, accessFlags := 25, slot := 0, constantValue := 0 }, { name := "PI", type := .double, accessFlags := 25, slot := 1, constantValue := 0 }, { name := "TAU", type := .double, accessFlags := 25, slot := 2, constantValue := 0 }, { name := "DEGREES_TO_RADIANS", type := .double, accessFlags := 26, slot := 3, constantValue := 0 }, { name := "RADIANS_TO_DEGREES", type := .double, accessFlags := 26, slot := 4, constantValue := 0 }, { name := "negativeZeroFloatBits", type := .long, accessFlags := 26, slot := 5, constantValue := 0 }, { name := "negativeZeroDoubleBits", type := .long, accessFlags := 26, slot := 6, constantValue := 0 }, { name := "twoToTheDoubleScaleUp", type := .double, accessFlags := 8, slot := 7, constantValue := 0 }, { name := "twoToTheDoubleScaleDown", type := .double, accessFlags := 8, slot := 8, constantValue := 0 }, { name := "$assertionsDisabled", type := .boolean, accessFlags := 4120, slot := 9, constantValue := 0 }]
  methods := #[k2m0, k2m1]
  instanceTypes := #[]
  staticTypes := #[.double, .double, .double, .double, .double, .long, .long, .double, .double, .boolean]
  resolved := Array.replicate 460 none
  statics := none }

def pool3 : Array CpInfo := pool [(1, .methodref 2 3), (0, .class_ 4), (0, .nameAndType 5 6), (0, u "java/lang/Object"), (0, u "<init>"), (0, u "()V"), (9, .fieldref 17 18), (0, .class_ 19), (0, .nameAndType 20 21), (0, u "com/example/bit_sieve/bitsieve/FilterSize"), (0, u "MOST_HASHES"), (0, u "I"), (3, .fieldref 17 26), (0, .nameAndType 27 28), (0, u "bits"), (0, u "J"), (0, .fieldref 17 30), (0, .nameAndType 31 21), (0, u "hashes"), (14, u "(JI)V"), (80, u "equals"), (0, u "(Ljava/lang/Object;)Z")] 38

def k3c0 : Code := { maxStack := 4, maxLocals := 4, code := prog_36_method_1_code, exceptionTable := #[], attributes := #[] }
def k3m0 : Method := { name := "<init>", desc := "(JI)V", sig := { parameters := [.long, .int], returnType := none }, accessFlags := 0, code := some k3c0 }
def k3c1 : Code := { maxStack := 4, maxLocals := 3, code := prog_36_method_14_code, exceptionTable := #[], attributes := #[] }
def k3m1 : Method := { name := "equals", desc := "(Ljava/lang/Object;)Z", sig := { parameters := [(.object "java/lang/Object")], returnType := some .boolean }, accessFlags := 1, code := some k3c1 }
/-- com/example/bit_sieve/bitsieve/FilterSize -/
def k3 : Class := { plain "com/example/bit_sieve/bitsieve/FilterSize" (some 0) with
  accessFlags := 48
  interfaces := #[]
  cf := some (fileOf pool3 17 #[] #[{ accessFlags := 0, nameIndex := 5, descriptorIndex := 46, attributes := #[] }, { accessFlags := 1, nameIndex := 127, descriptorIndex := 128, attributes := #[] }] 48 2 #[] #[{ accessFlags := 24, nameIndex := 20, descriptorIndex := 21, attributes := #[] }, { accessFlags := 18, nameIndex := 27, descriptorIndex := 28, attributes := #[] }, { accessFlags := 18, nameIndex := 31, descriptorIndex := 21, attributes := #[] }])
  fields := #[{ name := "MOST_HASHES", type := .int, accessFlags := 24, slot := 0, constantValue := 0 }, { name := "bits", type := .long, accessFlags := 18, slot := 0, constantValue := 0 }, { name := "hashes", type := .int, accessFlags := 18, slot := 1, constantValue := 0 }]
  methods := #[k3m0, k3m1]
  instanceTypes := #[.long, .int]
  staticTypes := #[.int]
  resolved := Array.replicate 167 none
  statics := some 0 }

def pool4 : Array CpInfo := pool [(1, .class_ 2), (0, u "java/io/Serializable"), (0, .class_ 4), (0, u "java/lang/Object")] 2

/-- java/io/Serializable -/
def k4 : Class := { plain "java/io/Serializable" (some 0) with
  accessFlags := 1537
  interfaces := #[]
  cf := some (fileOf pool4 1 #[] #[] 1537 3 #[] #[])
  fields := #[]
  methods := #[]
  instanceTypes := #[]
  staticTypes := #[]
  resolved := Array.replicate 7 none
  statics := none }

def pool5 : Array CpInfo := pool [(1, .methodref 2 3), (0, .class_ 4), (0, .nameAndType 5 6), (0, u "java/lang/Object"), (0, u "<init>"), (0, u "()V"), (1, .class_ 10), (1, u "java/lang/Number"), (2, .class_ 14), (0, u "java/io/Serializable"), (0, u "serialVersionUID"), (0, u "J")] 20

def k5c0 : Code := { maxStack := 1, maxLocals := 1, code := jdk_18_method_1_code, exceptionTable := #[], attributes := #[] }
def k5m0 : Method := { name := "<init>", desc := "()V", sig := { parameters := [], returnType := none }, accessFlags := 1, code := some k5c0 }
/-- java/lang/Number -/
def k5 : Class := { plain "java/lang/Number" (some 0) with
  accessFlags := 1057
  interfaces := #[4]
  cf := some (fileOf pool5 8 #[] #[{ accessFlags := 1, nameIndex := 5, descriptorIndex := 6, attributes := #[] }] 1057 2 #[13] #[{ accessFlags := 26, nameIndex := 15, descriptorIndex := 16, attributes := #[] }])
  fields := #[{ name := "serialVersionUID", type := .long, accessFlags := 26, slot := 0, constantValue := 0 }]
  methods := #[k5m0]
  instanceTypes := #[]
  staticTypes := #[.long]
  resolved := Array.replicate 37 none
  statics := none }

def pool6 : Array CpInfo := pool [(1, .class_ 2), (0, u "java/lang/Comparable"), (0, .class_ 4), (0, u "java/lang/Object")] 7

/-- java/lang/Comparable -/
def k6 : Class := { plain "java/lang/Comparable" (some 0) with
  accessFlags := 1537
  interfaces := #[]
  cf := some (fileOf pool6 1 #[] #[] 1537 3 #[] #[])
  fields := #[]
  methods := #[]
  instanceTypes := #[]
  staticTypes := #[]
  resolved := Array.replicate 12 none
  statics := none }

def pool7 : Array CpInfo := pool [(1, .class_ 2), (0, u "java/lang/constant/Constable"), (0, .class_ 4), (0, u "java/lang/Object")] 6

/-- java/lang/constant/Constable -/
def k7 : Class := { plain "java/lang/constant/Constable" (some 0) with
  accessFlags := 1537
  interfaces := #[]
  cf := some (fileOf pool7 1 #[] #[] 1537 3 #[] #[])
  fields := #[]
  methods := #[]
  instanceTypes := #[]
  staticTypes := #[]
  resolved := Array.replicate 11 none
  statics := none }

def pool8 : Array CpInfo := pool [(1, .class_ 2), (0, u "java/lang/constant/ConstantDesc"), (0, .class_ 4), (0, u "java/lang/Object")] 32

/-- java/lang/constant/ConstantDesc -/
def k8 : Class := { plain "java/lang/constant/ConstantDesc" (some 0) with
  accessFlags := 1537
  interfaces := #[]
  cf := some (fileOf pool8 1 #[] #[] 1537 3 #[] #[])
  fields := #[]
  methods := #[]
  instanceTypes := #[]
  staticTypes := #[]
  resolved := Array.replicate 37 none
  statics := none }

def pool9 : Array CpInfo := pool [(1, .class_ 2), (0, u "java/lang/Integer"), (16, u "digits"), (0, u "[C"), (46, u "<init>"), (17, u "DigitOnes"), (0, u "[B"), (2, u "DigitTens"), (10, .nameAndType 67 101), (0, u "()V"), (85, u "valueOf"), (0, u "(I)Ljava/lang/Integer;"), (0, .class_ 190), (0, u "java/lang/Integer$IntegerCache"), (0, .fieldref 189 192), (0, .nameAndType 193 194), (0, u "high"), (0, u "I"), (0, .fieldref 189 196), (0, .nameAndType 197 198), (0, u "cache"), (0, u "[Ljava/lang/Integer;"), (0, .methodref 1 200), (0, .nameAndType 67 201), (0, u "(I)V"), (0, .methodref 203 100), (0, .class_ 204), (0, u "java/lang/Number"), (0, .fieldref 1 206), (0, .nameAndType 207 194), (0, u "value"), (94, u "TYPE"), (0, u "Ljava/lang/Class;"), (0, .class_ 305), (0, u "java/lang/Comparable"), (0, .class_ 307), (0, u "java/lang/constant/Constable"), (0, .class_ 309), (0, u "java/lang/constant/ConstantDesc"), (0, u "MIN_VALUE"), (1, u "MAX_VALUE"), (3, u "SIZE"), (1, u "BYTES"), (1, u "serialVersionUID"), (0, u "J")] 131

def k9c0 : Code := { maxStack := 3, maxLocals := 1, code := jdk_33_method_22_code, exceptionTable := #[], attributes := #[] }
def k9m0 : Method := { name := "valueOf", desc := "(I)Ljava/lang/Integer;", sig := { parameters := [.int], returnType := some (.object "java/lang/Integer") }, accessFlags := 9, code := some k9c0 }
def k9c1 : Code := { maxStack := 2, maxLocals := 2, code := jdk_33_method_23_code, exceptionTable := #[], attributes := #[] }
def k9m1 : Method := { name := "<init>", desc := "(I)V", sig := { parameters := [.int], returnType := none }, accessFlags := 1, code := some k9c1 }
/-- java/lang/Integer -/
def k9 : Class := { plain "java/lang/Integer" (some 5) with
  accessFlags := 49
  interfaces := #[6, 7, 8]
  cf := some (fileOf pool9 1 #[.nestMembers #[189]] #[{ accessFlags := 9, nameIndex := 187, descriptorIndex := 188, attributes := #[] }, { accessFlags := 1, nameIndex := 67, descriptorIndex := 201, attributes := #[] }] 49 203 #[304, 306, 308] #[{ accessFlags := 25, nameIndex := 310, descriptorIndex := 194, attributes := #[] }, { accessFlags := 25, nameIndex := 312, descriptorIndex := 194, attributes := #[] }, { accessFlags := 25, nameIndex := 302, descriptorIndex := 303, attributes := #[] }, { accessFlags := 24, nameIndex := 19, descriptorIndex := 20, attributes := #[] }, { accessFlags := 24, nameIndex := 89, descriptorIndex := 86, attributes := #[] }, { accessFlags := 24, nameIndex := 85, descriptorIndex := 86, attributes := #[] }, { accessFlags := 18, nameIndex := 207, descriptorIndex := 194, attributes := #[] }, { accessFlags := 25, nameIndex := 316, descriptorIndex := 194, attributes := #[] }, { accessFlags := 25, nameIndex := 318, descriptorIndex := 194, attributes := #[] }, { accessFlags := 26, nameIndex := 320, descriptorIndex := 321, attributes := #[] }])
  fields := #[{ name := "MIN_VALUE", type := .int, accessFlags := 25, slot := 0, constantValue := 0 }, { name := "MAX_VALUE", type := .int, accessFlags := 25, slot := 1, constantValue := 0 }, { name := "TYPE", type := (.object "java/lang/Class"), accessFlags := 25, slot := 2, constantValue := 0 }, { name := "digits", type := (.array .char), accessFlags := 24, slot := 3, constantValue := 0 }, { name := "DigitTens", type := (.array .byte), accessFlags := 24, slot := 4, constantValue := 0 }, { name := "DigitOnes", type := (.array .byte), accessFlags := 24, slot := 5, constantValue := 0 }, { name := "value", type := .int, accessFlags := 18, slot := 0, constantValue := 0 }, { name := "SIZE", type := .int, accessFlags := 25, slot := 6, constantValue := 0 }, { name := "BYTES", type := .int, accessFlags := 25, slot := 7, constantValue := 0 }, { name := "serialVersionUID", type := .long, accessFlags := 26, slot := 8, constantValue := 0 }]
  methods := #[k9m0, k9m1]
  instanceTypes := #[.int]
  staticTypes := #[.int, .int, (.object "java/lang/Class"), (.array .char), (.array .byte), (.array .byte), .int, .int, .long]
  resolved := Array.replicate 453 none
  statics := none }

def pool10 : Array CpInfo := pool [(2, .class_ 4), (1, u "java/lang/Object"), (0, u "<init>"), (0, u "()V"), (0, .class_ 8), (0, u "java/lang/Integer"), (7, .class_ 18), (1, u "java/lang/Integer$IntegerCache"), (0, u "$assertionsDisabled"), (0, u "Z"), (26, u "high"), (0, u "I"), (8, u "archivedCache"), (0, u "[Ljava/lang/Integer;"), (12, u "cache"), (0, u "low")] 27

def k10m0 : Method := { name := "<init>", desc := "()V", sig := { parameters := [], returnType := none }, accessFlags := 2, code := none }
/-- java/lang/Integer$IntegerCache -/
def k10 : Class := { plain "java/lang/Integer$IntegerCache" (some 0) with
  accessFlags := 48
  interfaces := #[]
  cf := some (fileOf pool10 16 #[.nestHost 7] #[{ accessFlags := 2, nameIndex := 5, descriptorIndex := 6, attributes := #[] }] 48 2 #[] #[{ accessFlags := 24, nameIndex := 72, descriptorIndex := 48, attributes := #[] }, { accessFlags := 24, nameIndex := 47, descriptorIndex := 48, attributes := #[] }, { accessFlags := 24, nameIndex := 71, descriptorIndex := 58, attributes := #[] }, { accessFlags := 8, nameIndex := 57, descriptorIndex := 58, attributes := #[] }, { accessFlags := 4120, nameIndex := 19, descriptorIndex := 20, attributes := #[] }])
  fields := #[{ name := "low", type := .int, accessFlags := 24, slot := 0, constantValue := 0 }, { name := "high", type := .int, accessFlags := 24, slot := 1, constantValue := 0 }, { name := "cache", type := (.array (.object "java/lang/Integer")), accessFlags := 24, slot := 2, constantValue := 0 }, { name := "archivedCache", type := (.array (.object "java/lang/Integer")), accessFlags := 8, slot := 3, constantValue := 0 }, { name := "$assertionsDisabled", type := .boolean, accessFlags := 4120, slot := 4, constantValue := 0 }]
  methods := #[k10m0]
  instanceTypes := #[]
  staticTypes := #[.int, .int, (.array (.object "java/lang/Integer")), (.array (.object "java/lang/Integer")), .boolean]
  resolved := Array.replicate 100 none
  statics := some 1 }

def pool11 : Array CpInfo := pool [(1, u "java/lang/Cloneable"), (0, .class_ 1), (0, u "java/lang/Object"), (0, .class_ 3)] 3

/-- java/lang/Cloneable -/
def k11 : Class := { plain "java/lang/Cloneable" (some 0) with
  accessFlags := 1537
  interfaces := #[]
  cf := some (fileOf pool11 2 #[] #[] 1537 4 #[] #[])
  fields := #[]
  methods := #[]
  instanceTypes := #[]
  staticTypes := #[]
  resolved := Array.replicate 8 none
  statics := none }

/-- the primitive byte -/
def k12 : Class := { plain "byte" none with kind := .primitive 'B', accessFlags := 0x411 }
/-- [B -/
def k13 : Class := { plain "[B" (some 0) with kind := .array 12 .byte, interfaces := #[11, 4], accessFlags := 1041 }

/-- the primitive int -/
def k14 : Class := { plain "int" none with kind := .primitive 'I', accessFlags := 0x411 }
/-- [I -/
def k15 : Class := { plain "[I" (some 0) with kind := .array 14 .int, interfaces := #[11, 4], accessFlags := 1041 }

/-- [Ljava/lang/Integer; -/
def k16 : Class := { plain "[Ljava/lang/Integer;" (some 0) with kind := .array 9 (.object "java/lang/Integer"), interfaces := #[11, 4], accessFlags := 1041 }

def heap : Heap := #[{ cls := 3, slots := #[.int 1075], vm := .statics 3 },
  { cls := 10, slots := #[.int 0, .int 127, .ref 2, .null, .int 0], vm := .statics 10 },
  { cls := 16, slots := #[.ref 3, .ref 4, .ref 5, .ref 6, .ref 7, .ref 8, .ref 9, .ref 10, .ref 11, .ref 12, .ref 13, .ref 14, .ref 15, .ref 16, .ref 17, .ref 18, .ref 19, .ref 20, .ref 21, .ref 22, .ref 23, .ref 24, .ref 25, .ref 26, .ref 27, .ref 28, .ref 29, .ref 30, .ref 31, .ref 32, .ref 33, .ref 34, .ref 35, .ref 36, .ref 37, .ref 38, .ref 39, .ref 40, .ref 41, .ref 42, .ref 43, .ref 44, .ref 45, .ref 46, .ref 47, .ref 48, .ref 49, .ref 50, .ref 51, .ref 52, .ref 53, .ref 54, .ref 55, .ref 56, .ref 57, .ref 58, .ref 59, .ref 60, .ref 61, .ref 62, .ref 63, .ref 64, .ref 65, .ref 66, .ref 67, .ref 68, .ref 69, .ref 70, .ref 71, .ref 72, .ref 73, .ref 74, .ref 75, .ref 76, .ref 77, .ref 78, .ref 79, .ref 80, .ref 81, .ref 82, .ref 83, .ref 84, .ref 85, .ref 86, .ref 87, .ref 88, .ref 89, .ref 90, .ref 91, .ref 92, .ref 93, .ref 94, .ref 95, .ref 96, .ref 97, .ref 98, .ref 99, .ref 100, .ref 101, .ref 102, .ref 103, .ref 104, .ref 105, .ref 106, .ref 107, .ref 108, .ref 109, .ref 110, .ref 111, .ref 112, .ref 113, .ref 114, .ref 115, .ref 116, .ref 117, .ref 118, .ref 119, .ref 120, .ref 121, .ref 122, .ref 123, .ref 124, .ref 125, .ref 126, .ref 127, .ref 128, .ref 129, .ref 130, .ref 131, .ref 132, .ref 133, .ref 134, .ref 135, .ref 136, .ref 137, .ref 138, .ref 139, .ref 140, .ref 141, .ref 142, .ref 143, .ref 144, .ref 145, .ref 146, .ref 147, .ref 148, .ref 149, .ref 150, .ref 151, .ref 152, .ref 153, .ref 154, .ref 155, .ref 156, .ref 157, .ref 158, .ref 159, .ref 160, .ref 161, .ref 162, .ref 163, .ref 164, .ref 165, .ref 166, .ref 167, .ref 168, .ref 169, .ref 170, .ref 171, .ref 172, .ref 173, .ref 174, .ref 175, .ref 176, .ref 177, .ref 178, .ref 179, .ref 180, .ref 181, .ref 182, .ref 183, .ref 184, .ref 185, .ref 186, .ref 187, .ref 188, .ref 189, .ref 190, .ref 191, .ref 192, .ref 193, .ref 194, .ref 195, .ref 196, .ref 197, .ref 198, .ref 199, .ref 200, .ref 201, .ref 202, .ref 203, .ref 204, .ref 205, .ref 206, .ref 207, .ref 208, .ref 209, .ref 210, .ref 211, .ref 212, .ref 213, .ref 214, .ref 215, .ref 216, .ref 217, .ref 218, .ref 219, .ref 220, .ref 221, .ref 222, .ref 223, .ref 224, .ref 225, .ref 226, .ref 227, .ref 228, .ref 229, .ref 230, .ref 231, .ref 232, .ref 233, .ref 234, .ref 235, .ref 236, .ref 237, .ref 238, .ref 239, .ref 240, .ref 241, .ref 242, .ref 243, .ref 244, .ref 245, .ref 246, .ref 247, .ref 248, .ref 249, .ref 250, .ref 251, .ref 252, .ref 253, .ref 254, .ref 255, .ref 256, .ref 257, .ref 258], vm := .none },
  { cls := 9, slots := #[.int (-128)], vm := .none },
  { cls := 9, slots := #[.int (-127)], vm := .none },
  { cls := 9, slots := #[.int (-126)], vm := .none },
  { cls := 9, slots := #[.int (-125)], vm := .none },
  { cls := 9, slots := #[.int (-124)], vm := .none },
  { cls := 9, slots := #[.int (-123)], vm := .none },
  { cls := 9, slots := #[.int (-122)], vm := .none },
  { cls := 9, slots := #[.int (-121)], vm := .none },
  { cls := 9, slots := #[.int (-120)], vm := .none },
  { cls := 9, slots := #[.int (-119)], vm := .none },
  { cls := 9, slots := #[.int (-118)], vm := .none },
  { cls := 9, slots := #[.int (-117)], vm := .none },
  { cls := 9, slots := #[.int (-116)], vm := .none },
  { cls := 9, slots := #[.int (-115)], vm := .none },
  { cls := 9, slots := #[.int (-114)], vm := .none },
  { cls := 9, slots := #[.int (-113)], vm := .none },
  { cls := 9, slots := #[.int (-112)], vm := .none },
  { cls := 9, slots := #[.int (-111)], vm := .none },
  { cls := 9, slots := #[.int (-110)], vm := .none },
  { cls := 9, slots := #[.int (-109)], vm := .none },
  { cls := 9, slots := #[.int (-108)], vm := .none },
  { cls := 9, slots := #[.int (-107)], vm := .none },
  { cls := 9, slots := #[.int (-106)], vm := .none },
  { cls := 9, slots := #[.int (-105)], vm := .none },
  { cls := 9, slots := #[.int (-104)], vm := .none },
  { cls := 9, slots := #[.int (-103)], vm := .none },
  { cls := 9, slots := #[.int (-102)], vm := .none },
  { cls := 9, slots := #[.int (-101)], vm := .none },
  { cls := 9, slots := #[.int (-100)], vm := .none },
  { cls := 9, slots := #[.int (-99)], vm := .none },
  { cls := 9, slots := #[.int (-98)], vm := .none },
  { cls := 9, slots := #[.int (-97)], vm := .none },
  { cls := 9, slots := #[.int (-96)], vm := .none },
  { cls := 9, slots := #[.int (-95)], vm := .none },
  { cls := 9, slots := #[.int (-94)], vm := .none },
  { cls := 9, slots := #[.int (-93)], vm := .none },
  { cls := 9, slots := #[.int (-92)], vm := .none },
  { cls := 9, slots := #[.int (-91)], vm := .none },
  { cls := 9, slots := #[.int (-90)], vm := .none },
  { cls := 9, slots := #[.int (-89)], vm := .none },
  { cls := 9, slots := #[.int (-88)], vm := .none },
  { cls := 9, slots := #[.int (-87)], vm := .none },
  { cls := 9, slots := #[.int (-86)], vm := .none },
  { cls := 9, slots := #[.int (-85)], vm := .none },
  { cls := 9, slots := #[.int (-84)], vm := .none },
  { cls := 9, slots := #[.int (-83)], vm := .none },
  { cls := 9, slots := #[.int (-82)], vm := .none },
  { cls := 9, slots := #[.int (-81)], vm := .none },
  { cls := 9, slots := #[.int (-80)], vm := .none },
  { cls := 9, slots := #[.int (-79)], vm := .none },
  { cls := 9, slots := #[.int (-78)], vm := .none },
  { cls := 9, slots := #[.int (-77)], vm := .none },
  { cls := 9, slots := #[.int (-76)], vm := .none },
  { cls := 9, slots := #[.int (-75)], vm := .none },
  { cls := 9, slots := #[.int (-74)], vm := .none },
  { cls := 9, slots := #[.int (-73)], vm := .none },
  { cls := 9, slots := #[.int (-72)], vm := .none },
  { cls := 9, slots := #[.int (-71)], vm := .none },
  { cls := 9, slots := #[.int (-70)], vm := .none },
  { cls := 9, slots := #[.int (-69)], vm := .none },
  { cls := 9, slots := #[.int (-68)], vm := .none },
  { cls := 9, slots := #[.int (-67)], vm := .none },
  { cls := 9, slots := #[.int (-66)], vm := .none },
  { cls := 9, slots := #[.int (-65)], vm := .none },
  { cls := 9, slots := #[.int (-64)], vm := .none },
  { cls := 9, slots := #[.int (-63)], vm := .none },
  { cls := 9, slots := #[.int (-62)], vm := .none },
  { cls := 9, slots := #[.int (-61)], vm := .none },
  { cls := 9, slots := #[.int (-60)], vm := .none },
  { cls := 9, slots := #[.int (-59)], vm := .none },
  { cls := 9, slots := #[.int (-58)], vm := .none },
  { cls := 9, slots := #[.int (-57)], vm := .none },
  { cls := 9, slots := #[.int (-56)], vm := .none },
  { cls := 9, slots := #[.int (-55)], vm := .none },
  { cls := 9, slots := #[.int (-54)], vm := .none },
  { cls := 9, slots := #[.int (-53)], vm := .none },
  { cls := 9, slots := #[.int (-52)], vm := .none },
  { cls := 9, slots := #[.int (-51)], vm := .none },
  { cls := 9, slots := #[.int (-50)], vm := .none },
  { cls := 9, slots := #[.int (-49)], vm := .none },
  { cls := 9, slots := #[.int (-48)], vm := .none },
  { cls := 9, slots := #[.int (-47)], vm := .none },
  { cls := 9, slots := #[.int (-46)], vm := .none },
  { cls := 9, slots := #[.int (-45)], vm := .none },
  { cls := 9, slots := #[.int (-44)], vm := .none },
  { cls := 9, slots := #[.int (-43)], vm := .none },
  { cls := 9, slots := #[.int (-42)], vm := .none },
  { cls := 9, slots := #[.int (-41)], vm := .none },
  { cls := 9, slots := #[.int (-40)], vm := .none },
  { cls := 9, slots := #[.int (-39)], vm := .none },
  { cls := 9, slots := #[.int (-38)], vm := .none },
  { cls := 9, slots := #[.int (-37)], vm := .none },
  { cls := 9, slots := #[.int (-36)], vm := .none },
  { cls := 9, slots := #[.int (-35)], vm := .none },
  { cls := 9, slots := #[.int (-34)], vm := .none },
  { cls := 9, slots := #[.int (-33)], vm := .none },
  { cls := 9, slots := #[.int (-32)], vm := .none },
  { cls := 9, slots := #[.int (-31)], vm := .none },
  { cls := 9, slots := #[.int (-30)], vm := .none },
  { cls := 9, slots := #[.int (-29)], vm := .none },
  { cls := 9, slots := #[.int (-28)], vm := .none },
  { cls := 9, slots := #[.int (-27)], vm := .none },
  { cls := 9, slots := #[.int (-26)], vm := .none },
  { cls := 9, slots := #[.int (-25)], vm := .none },
  { cls := 9, slots := #[.int (-24)], vm := .none },
  { cls := 9, slots := #[.int (-23)], vm := .none },
  { cls := 9, slots := #[.int (-22)], vm := .none },
  { cls := 9, slots := #[.int (-21)], vm := .none },
  { cls := 9, slots := #[.int (-20)], vm := .none },
  { cls := 9, slots := #[.int (-19)], vm := .none },
  { cls := 9, slots := #[.int (-18)], vm := .none },
  { cls := 9, slots := #[.int (-17)], vm := .none },
  { cls := 9, slots := #[.int (-16)], vm := .none },
  { cls := 9, slots := #[.int (-15)], vm := .none },
  { cls := 9, slots := #[.int (-14)], vm := .none },
  { cls := 9, slots := #[.int (-13)], vm := .none },
  { cls := 9, slots := #[.int (-12)], vm := .none },
  { cls := 9, slots := #[.int (-11)], vm := .none },
  { cls := 9, slots := #[.int (-10)], vm := .none },
  { cls := 9, slots := #[.int (-9)], vm := .none },
  { cls := 9, slots := #[.int (-8)], vm := .none },
  { cls := 9, slots := #[.int (-7)], vm := .none },
  { cls := 9, slots := #[.int (-6)], vm := .none },
  { cls := 9, slots := #[.int (-5)], vm := .none },
  { cls := 9, slots := #[.int (-4)], vm := .none },
  { cls := 9, slots := #[.int (-3)], vm := .none },
  { cls := 9, slots := #[.int (-2)], vm := .none },
  { cls := 9, slots := #[.int (-1)], vm := .none },
  { cls := 9, slots := #[.int (0)], vm := .none },
  { cls := 9, slots := #[.int (1)], vm := .none },
  { cls := 9, slots := #[.int (2)], vm := .none },
  { cls := 9, slots := #[.int (3)], vm := .none },
  { cls := 9, slots := #[.int (4)], vm := .none },
  { cls := 9, slots := #[.int (5)], vm := .none },
  { cls := 9, slots := #[.int (6)], vm := .none },
  { cls := 9, slots := #[.int (7)], vm := .none },
  { cls := 9, slots := #[.int (8)], vm := .none },
  { cls := 9, slots := #[.int (9)], vm := .none },
  { cls := 9, slots := #[.int (10)], vm := .none },
  { cls := 9, slots := #[.int (11)], vm := .none },
  { cls := 9, slots := #[.int (12)], vm := .none },
  { cls := 9, slots := #[.int (13)], vm := .none },
  { cls := 9, slots := #[.int (14)], vm := .none },
  { cls := 9, slots := #[.int (15)], vm := .none },
  { cls := 9, slots := #[.int (16)], vm := .none },
  { cls := 9, slots := #[.int (17)], vm := .none },
  { cls := 9, slots := #[.int (18)], vm := .none },
  { cls := 9, slots := #[.int (19)], vm := .none },
  { cls := 9, slots := #[.int (20)], vm := .none },
  { cls := 9, slots := #[.int (21)], vm := .none },
  { cls := 9, slots := #[.int (22)], vm := .none },
  { cls := 9, slots := #[.int (23)], vm := .none },
  { cls := 9, slots := #[.int (24)], vm := .none },
  { cls := 9, slots := #[.int (25)], vm := .none },
  { cls := 9, slots := #[.int (26)], vm := .none },
  { cls := 9, slots := #[.int (27)], vm := .none },
  { cls := 9, slots := #[.int (28)], vm := .none },
  { cls := 9, slots := #[.int (29)], vm := .none },
  { cls := 9, slots := #[.int (30)], vm := .none },
  { cls := 9, slots := #[.int (31)], vm := .none },
  { cls := 9, slots := #[.int (32)], vm := .none },
  { cls := 9, slots := #[.int (33)], vm := .none },
  { cls := 9, slots := #[.int (34)], vm := .none },
  { cls := 9, slots := #[.int (35)], vm := .none },
  { cls := 9, slots := #[.int (36)], vm := .none },
  { cls := 9, slots := #[.int (37)], vm := .none },
  { cls := 9, slots := #[.int (38)], vm := .none },
  { cls := 9, slots := #[.int (39)], vm := .none },
  { cls := 9, slots := #[.int (40)], vm := .none },
  { cls := 9, slots := #[.int (41)], vm := .none },
  { cls := 9, slots := #[.int (42)], vm := .none },
  { cls := 9, slots := #[.int (43)], vm := .none },
  { cls := 9, slots := #[.int (44)], vm := .none },
  { cls := 9, slots := #[.int (45)], vm := .none },
  { cls := 9, slots := #[.int (46)], vm := .none },
  { cls := 9, slots := #[.int (47)], vm := .none },
  { cls := 9, slots := #[.int (48)], vm := .none },
  { cls := 9, slots := #[.int (49)], vm := .none },
  { cls := 9, slots := #[.int (50)], vm := .none },
  { cls := 9, slots := #[.int (51)], vm := .none },
  { cls := 9, slots := #[.int (52)], vm := .none },
  { cls := 9, slots := #[.int (53)], vm := .none },
  { cls := 9, slots := #[.int (54)], vm := .none },
  { cls := 9, slots := #[.int (55)], vm := .none },
  { cls := 9, slots := #[.int (56)], vm := .none },
  { cls := 9, slots := #[.int (57)], vm := .none },
  { cls := 9, slots := #[.int (58)], vm := .none },
  { cls := 9, slots := #[.int (59)], vm := .none },
  { cls := 9, slots := #[.int (60)], vm := .none },
  { cls := 9, slots := #[.int (61)], vm := .none },
  { cls := 9, slots := #[.int (62)], vm := .none },
  { cls := 9, slots := #[.int (63)], vm := .none },
  { cls := 9, slots := #[.int (64)], vm := .none },
  { cls := 9, slots := #[.int (65)], vm := .none },
  { cls := 9, slots := #[.int (66)], vm := .none },
  { cls := 9, slots := #[.int (67)], vm := .none },
  { cls := 9, slots := #[.int (68)], vm := .none },
  { cls := 9, slots := #[.int (69)], vm := .none },
  { cls := 9, slots := #[.int (70)], vm := .none },
  { cls := 9, slots := #[.int (71)], vm := .none },
  { cls := 9, slots := #[.int (72)], vm := .none },
  { cls := 9, slots := #[.int (73)], vm := .none },
  { cls := 9, slots := #[.int (74)], vm := .none },
  { cls := 9, slots := #[.int (75)], vm := .none },
  { cls := 9, slots := #[.int (76)], vm := .none },
  { cls := 9, slots := #[.int (77)], vm := .none },
  { cls := 9, slots := #[.int (78)], vm := .none },
  { cls := 9, slots := #[.int (79)], vm := .none },
  { cls := 9, slots := #[.int (80)], vm := .none },
  { cls := 9, slots := #[.int (81)], vm := .none },
  { cls := 9, slots := #[.int (82)], vm := .none },
  { cls := 9, slots := #[.int (83)], vm := .none },
  { cls := 9, slots := #[.int (84)], vm := .none },
  { cls := 9, slots := #[.int (85)], vm := .none },
  { cls := 9, slots := #[.int (86)], vm := .none },
  { cls := 9, slots := #[.int (87)], vm := .none },
  { cls := 9, slots := #[.int (88)], vm := .none },
  { cls := 9, slots := #[.int (89)], vm := .none },
  { cls := 9, slots := #[.int (90)], vm := .none },
  { cls := 9, slots := #[.int (91)], vm := .none },
  { cls := 9, slots := #[.int (92)], vm := .none },
  { cls := 9, slots := #[.int (93)], vm := .none },
  { cls := 9, slots := #[.int (94)], vm := .none },
  { cls := 9, slots := #[.int (95)], vm := .none },
  { cls := 9, slots := #[.int (96)], vm := .none },
  { cls := 9, slots := #[.int (97)], vm := .none },
  { cls := 9, slots := #[.int (98)], vm := .none },
  { cls := 9, slots := #[.int (99)], vm := .none },
  { cls := 9, slots := #[.int (100)], vm := .none },
  { cls := 9, slots := #[.int (101)], vm := .none },
  { cls := 9, slots := #[.int (102)], vm := .none },
  { cls := 9, slots := #[.int (103)], vm := .none },
  { cls := 9, slots := #[.int (104)], vm := .none },
  { cls := 9, slots := #[.int (105)], vm := .none },
  { cls := 9, slots := #[.int (106)], vm := .none },
  { cls := 9, slots := #[.int (107)], vm := .none },
  { cls := 9, slots := #[.int (108)], vm := .none },
  { cls := 9, slots := #[.int (109)], vm := .none },
  { cls := 9, slots := #[.int (110)], vm := .none },
  { cls := 9, slots := #[.int (111)], vm := .none },
  { cls := 9, slots := #[.int (112)], vm := .none },
  { cls := 9, slots := #[.int (113)], vm := .none },
  { cls := 9, slots := #[.int (114)], vm := .none },
  { cls := 9, slots := #[.int (115)], vm := .none },
  { cls := 9, slots := #[.int (116)], vm := .none },
  { cls := 9, slots := #[.int (117)], vm := .none },
  { cls := 9, slots := #[.int (118)], vm := .none },
  { cls := 9, slots := #[.int (119)], vm := .none },
  { cls := 9, slots := #[.int (120)], vm := .none },
  { cls := 9, slots := #[.int (121)], vm := .none },
  { cls := 9, slots := #[.int (122)], vm := .none },
  { cls := 9, slots := #[.int (123)], vm := .none },
  { cls := 9, slots := #[.int (124)], vm := .none },
  { cls := 9, slots := #[.int (125)], vm := .none },
  { cls := 9, slots := #[.int (126)], vm := .none },
  { cls := 9, slots := #[.int (127)], vm := .none }]
def classes : Array Class := #[k0, k1, k2, k3, k4, k5, k6, k7, k8, k9, k10, k11, k12, k13, k14, k15, k16]
def interned : List (Array UInt16 × Addr) := []
def slotsUsed : Nat := 518
def theMethod : MethodId := ⟨1, 1⟩
def args0 : Array Value := #[.long 5, .long 300, .int 7, .int 1, .int 2, .int 3]
def aboutOver (below : List Frame) : State where
  vm := { classes := classes, interned := interned.toArray }
  heap := heap
  slotsUsed := slotsUsed
  threads := #[{ frames := .invoking theMethod args0 :: below }]
def below0 : List Frame := [.native { method := ⟨0, 0⟩, args := #[] }]
def about1 : State := aboutOver below0
def p0 : Program := .bare "" "" ""
def e0 : Env := launch0.env 0 0 0
theorem w_frames : about1.frames = Frame.invoking theMethod args0 :: below0 := rfl
set_option maxRecDepth 65536 in
theorem w_args : argsFit about1.vm theMethod args0 = true := by decide +kernel
set_option maxRecDepth 65536 in
theorem w_heap : heapFits about1 = true := by decide +kernel
set_option maxRecDepth 65536 in
theorem w_runnable : about1.curStatus? = some .runnable := by decide +kernel
set_option maxRecDepth 65536 in
theorem w_alone : about1.alone = true := by decide +kernel
set_option maxRecDepth 65536 in
theorem w_named : about1.methodNamed? x = some theMethod := by decide +kernel
set_option maxRecDepth 65536 in
theorem w_hears : about1.hears theMethod below0 = true := by decide +kernel
set_option maxRecDepth 65536 in
theorem w_ripe : about1.ripe theMethod args0 below0 = true := by decide +kernel
theorem w_running : about1.status = .running := rfl
set_option maxRecDepth 65536 in
theorem w_room : about1.hasRoom e0.platform room_1 = true :=
  launch0.hasRoom_least _ room_1 (by decide +kernel) (by decide +kernel) (by decide +kernel) (by decide +kernel) (by decide +kernel) (by decide +kernel)
theorem allAtoms_all (ts : List Jvm.Cond) (a : Array Jvm.Value) (st : Jvm.State) : (allAtoms ts).before a st = ts.all (fun c => c.before a st) := by
  induction ts with
  | nil => rfl
  | cons c t ih =>
    show (Jvm.Cond.and c (allAtoms t)).before a st = _
    rw [Jvm.Cond.before_and, ih, List.all_cons]
def words1 : List Jvm.Cond := Jvm.Cond.code x code maxLocals ret :: tables_1
/-- a 'code' word, met by the world's own term for the bytes: nothing is compared byte by byte -/
theorem code_word {y : MethodName} {bytes : ByteArray} {mx : Nat} {rt : Option FieldType} {a : Array Value} {s : State} {m : MethodId} {meth : Method} {c : Code} (h1 : s.methodNamed? y = some m) (h2 : s.vm.method? m = some meth) (h3 : meth.code = some c) (h4 : c.code = bytes)
    (h5 : (c.maxLocals == mx && c.exceptionTable.isEmpty && decide (c.maxStack ≤ mostOperands) && decide (meth.sig.returnType = rt) && !meth.locks && decide (parseMethodDescriptor y.desc = some meth.sig)) = true) : (Jvm.Cond.code y bytes mx rt).before a s = true := by
  simp only [Bool.and_eq_true, beq_iff_eq, Bool.not_eq_true', decide_eq_true_eq] at h5
  obtain ⟨⟨⟨⟨⟨g1, g2⟩, g3⟩, g4⟩, g5⟩, g6⟩ := h5
  simp [Cond.before, Cond.holds, Cond.value, h1, h2, h3, h4, g1, g2, g3, g4, g5, g6]
def isCode : Jvm.Cond → Bool
  | .code _ _ _ _ => true
  | _ => false
theorem all_split {L : List Jvm.Cond} {P : Jvm.Cond → Bool} (h1 : L.all (fun c => isCode c || P c) = true) (h2 : ∀ c ∈ L.filter isCode, P c = true) : L.all P = true := by
  refine List.all_eq_true.mpr fun c hc => ?_
  have h := List.all_eq_true.mp h1 c hc
  rcases Bool.eq_false_or_eq_true (isCode c) with hi | hi
  · exact h2 c (List.mem_filter.mpr ⟨hc, hi⟩)
  · simpa [hi] using h
set_option maxRecDepth 65536 in
theorem w_c0 : (Jvm.Cond.code x code maxLocals ret).before args0 about1 = true := code_word (m := ⟨1, 1⟩) (meth := k1m1) (c := k1c1) (by decide +kernel) rfl rfl rfl (by decide +kernel)
set_option maxRecDepth 65536 in
theorem w_c1 : (Jvm.Cond.code ({ cls := "java/lang/Math", name := "max", desc := "(JJ)J" } : Jvm.MethodName) jdk_29_method_66_code (4 : Nat) (Option.some Jvm.ClassFile.FieldType.long)).before args0 about1 = true := code_word (m := ⟨2, 1⟩) (meth := k2m1) (c := k2c1) (by decide +kernel) rfl rfl rfl (by decide +kernel)
set_option maxRecDepth 65536 in
theorem w_c2 : (Jvm.Cond.code ({ cls := "com/example/bit_sieve/bitsieve/FilterSize", name := "<init>", desc := "(JI)V" } : Jvm.MethodName) prog_36_method_1_code (4 : Nat) (Option.none : Option Jvm.ClassFile.FieldType)).before args0 about1 = true := code_word (m := ⟨3, 0⟩) (meth := k3m0) (c := k3c0) (by decide +kernel) rfl rfl rfl (by decide +kernel)
set_option maxRecDepth 65536 in
theorem w_c3 : (Jvm.Cond.code ({ cls := "java/lang/Object", name := "<init>", desc := "()V" } : Jvm.MethodName) object_method_1_code (1 : Nat) (Option.none : Option Jvm.ClassFile.FieldType)).before args0 about1 = true := code_word (m := ⟨0, 0⟩) (meth := k0m0) (c := k0c0) (by decide +kernel) rfl rfl rfl (by decide +kernel)
set_option maxRecDepth 65536 in
theorem w_c4 : (Jvm.Cond.code ({ cls := "java/lang/Integer", name := "valueOf", desc := "(I)Ljava/lang/Integer;" } : Jvm.MethodName) jdk_33_method_22_code (1 : Nat) (Option.some (Jvm.ClassFile.FieldType.object "java/lang/Integer"))).before args0 about1 = true := code_word (m := ⟨9, 0⟩) (meth := k9m0) (c := k9c0) (by decide +kernel) rfl rfl rfl (by decide +kernel)
set_option maxRecDepth 65536 in
theorem w_c5 : (Jvm.Cond.code ({ cls := "com/example/bit_sieve/bitsieve/FilterSize", name := "equals", desc := "(Ljava/lang/Object;)Z" } : Jvm.MethodName) prog_36_method_14_code (3 : Nat) (Option.some Jvm.ClassFile.FieldType.boolean)).before args0 about1 = true := code_word (m := ⟨3, 1⟩) (meth := k3m1) (c := k3c1) (by decide +kernel) rfl rfl rfl (by decide +kernel)
set_option maxRecDepth 65536 in
theorem w_c6 : (Jvm.Cond.code ({ cls := "java/lang/Integer", name := "<init>", desc := "(I)V" } : Jvm.MethodName) jdk_33_method_23_code (2 : Nat) (Option.none : Option Jvm.ClassFile.FieldType)).before args0 about1 = true := code_word (m := ⟨9, 1⟩) (meth := k9m1) (c := k9c1) (by decide +kernel) rfl rfl rfl (by decide +kernel)
set_option maxRecDepth 65536 in
theorem w_c7 : (Jvm.Cond.code ({ cls := "java/lang/Number", name := "<init>", desc := "()V" } : Jvm.MethodName) jdk_18_method_1_code (1 : Nat) (Option.none : Option Jvm.ClassFile.FieldType)).before args0 about1 = true := code_word (m := ⟨5, 0⟩) (meth := k5m0) (c := k5c0) (by decide +kernel) rfl rfl rfl (by decide +kernel)
def codes1 : List Jvm.Cond := [Jvm.Cond.code x code maxLocals ret, Jvm.Cond.code ({ cls := "java/lang/Math", name := "max", desc := "(JJ)J" } : Jvm.MethodName) jdk_29_method_66_code (4 : Nat) (Option.some Jvm.ClassFile.FieldType.long), Jvm.Cond.code ({ cls := "com/example/bit_sieve/bitsieve/FilterSize", name := "<init>", desc := "(JI)V" } : Jvm.MethodName) prog_36_method_1_code (4 : Nat) (Option.none : Option Jvm.ClassFile.FieldType), Jvm.Cond.code ({ cls := "java/lang/Object", name := "<init>", desc := "()V" } : Jvm.MethodName) object_method_1_code (1 : Nat) (Option.none : Option Jvm.ClassFile.FieldType), Jvm.Cond.code ({ cls := "java/lang/Integer", name := "valueOf", desc := "(I)Ljava/lang/Integer;" } : Jvm.MethodName) jdk_33_method_22_code (1 : Nat) (Option.some (Jvm.ClassFile.FieldType.object "java/lang/Integer")), Jvm.Cond.code ({ cls := "com/example/bit_sieve/bitsieve/FilterSize", name := "equals", desc := "(Ljava/lang/Object;)Z" } : Jvm.MethodName) prog_36_method_14_code (3 : Nat) (Option.some Jvm.ClassFile.FieldType.boolean), Jvm.Cond.code ({ cls := "java/lang/Integer", name := "<init>", desc := "(I)V" } : Jvm.MethodName) jdk_33_method_23_code (2 : Nat) (Option.none : Option Jvm.ClassFile.FieldType), Jvm.Cond.code ({ cls := "java/lang/Number", name := "<init>", desc := "()V" } : Jvm.MethodName) jdk_18_method_1_code (1 : Nat) (Option.none : Option Jvm.ClassFile.FieldType)]
set_option maxRecDepth 65536 in
theorem codes_eq : words1.filter isCode = codes1 := rfl
theorem w_codes : ∀ c ∈ words1.filter isCode, c.before args0 about1 = true := by
  rw [codes_eq]
  intro c hc
  simp only [codes1, List.mem_cons, List.not_mem_nil, or_false] at hc
  rcases hc with rfl | rfl | rfl | rfl | rfl | rfl | rfl | rfl
  · exact w_c0
  · exact w_c1
  · exact w_c2
  · exact w_c3
  · exact w_c4
  · exact w_c5
  · exact w_c6
  · exact w_c7
set_option maxRecDepth 65536 in
theorem w_t1 : (words1.take 24).all (fun c => isCode c || c.before args0 about1) = true := by decide +kernel
set_option maxRecDepth 65536 in
theorem w_t2 : ((words1.drop 24).take 24).all (fun c => isCode c || c.before args0 about1) = true := by decide +kernel
set_option maxRecDepth 65536 in
theorem w_t3 : ((words1.drop 24).drop 24).all (fun c => isCode c || c.before args0 about1) = true := by decide +kernel
theorem w_tables : (allAtoms (Jvm.Cond.code x code maxLocals ret :: tables_1)).before args0 about1 = true := by
  rw [allAtoms_all]
  show words1.all (fun c => c.before args0 about1) = true
  refine all_split ?_ w_codes
  rw [← List.take_append_drop 24 words1, List.all_append, w_t1, ← List.take_append_drop 24 (words1.drop 24), List.all_append, w_t2, w_t3]
  rfl
set_option maxRecDepth 65536 in
theorem w_rest : rest_1_c.before args0 about1 = true := by decide +kernel
set_option maxRecDepth 65536 in
theorem w_case : (Jvm.Cond.and given_1 narrow_1).before args0 about1 = true := by decide +kernel
theorem w_applies : (headSpec (Jvm.Cond.code x code maxLocals ret :: tables_1) room_1).applies x e0.platform about1 = true :=
  (Spec.applies_iff w_frames).mpr ⟨w_running, w_runnable, w_alone, w_named, w_hears, w_ripe, w_room, w_tables⟩
theorem atStart : AtStart classFile x code maxLocals ret World_1 tables_1 room_1 Calls_1 rest_1 Pre_1 launch0 p0 e0 about1 theMethod args0 below0 :=
  ⟨lists_1, trivial, launch0.admits_env _ _ _, launch0.least_env, fairChoices_fair.cas, fairChoices_fair.clock, w_frames, w_args, w_heap, w_applies, trivial, w_rest, w_case⟩
end start1
theorem witness_1 : WitnessClaimed_1 := ⟨start1.p0, start1.e0, start1.about1, start1.theMethod, start1.args0, start1.below0, start1.atStart⟩
end Jvm.Pilot.@@N@@
