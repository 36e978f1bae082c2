import JvmDerived
import JvmDerived.Pilot.@@N@@Statement
import JvmDerived.Pilot.@@N@@Code
set_option linter.unusedVariables false
set_option linter.unusedSimpArgs false
namespace Jvm.RoadKit
open Sem ClassFile Op Lib Jvm.Stand Jvm.Free Jvm.LawKit
section New
variable {p : Program} {l : Launch} {e : Env} {R : Room} {s : State} {m : MethodId} {args : Array Value} {below : List Frame} {meth : Method} {c : Code} {T : State} {locs : List Loc} {cells slots : Nat}
theorem retI (X : Stand p l e R s m args below meth c T locs cells slots) (hx : p.tables.exec = Jvm.exec) {pc : Nat} {Ls : Array Slot} {z : Int32} {rest : List Value} (hret : meth.sig.returnType = some .int) (hd : decode c.code pc = .ok (.ireturn, 1)) {fs : List Frame}
    (hl : ∀ (f : JFrame) (acts : List Action), f.method = m → f.locked = none → f.entered = [] → (doReturn e (T.setTop f) acts (some (.int z))).1 = T.setFrames fs) : Steps p.tables e below (T.setTop (mkF m pc Ls (.int z :: rest))) (T.setFrames fs) := by
  have hm' : T.vm.method? m = some meth := X.method'
  have hn : narrow .int (.int z) = .int z := rfl
  show Steps p.tables e below (T.setTop { method := m, pc := pc, locals := Ls, stack := _ :: rest, locked := none }) _
  jvm_step X.here [X.here.top, hx, hd, hm', hret, hn]
  first | (intro acts; rw [hl _ acts rfl rfl rfl]) | rw [hl _ _ rfl rfl rfl]
  exact Steps.refl _
end New
end Jvm.RoadKit
namespace Jvm.Pilot.@@N@@
open Jvm Jvm.ClassFile Sem Op Lib Jvm.Free Jvm.Stand Jvm.LawKit Jvm.RoadKit Bundle Jvm.Pilot.@@N@@.Jvm.D
def own_arr (Z : State) (h : Heap) (a : Addr) (ty : FieldType) (n : Nat) (f : Nat → Value) : Prop := ∃ c : Cell, Arr Z h a c ty ∧ c.slots.size = n ∧ ∀ j, j < n → c.slots[j]? = some (f j)
theorem own_arr_lt {Z : State} {h : Heap} {a : Addr} {ty : FieldType} {n : Nat} {f : Nat → Value} (F : own_arr Z h a ty n f) : a < h.size := by
  obtain ⟨c, A, -⟩ := F; exact A.lt
theorem own_arr_ext {Z : State} {h h' : Heap} {a : Addr} {ty : FieldType} {n : Nat} {f : Nat → Value} (F : own_arr Z h a ty n f) (E : Ext h h') : own_arr Z h' a ty n f := by
  obtain ⟨c, A, r⟩ := F; exact ⟨c, A.ext E, r⟩
theorem own_arr_other {Z : State} {h h' : Heap} {a b : Addr} {sl : Nat} {v : Value} {ty : FieldType} {n : Nat} {f : Nat → Value} (F : own_arr Z h a ty n f) (W : Wr h h' b sl v) (q : a ≠ b) : own_arr Z h' a ty n f := by
  obtain ⟨c, A, r⟩ := F; exact ⟨c, A.other W q, r⟩
theorem own_arr_keep {Z : State} {h h' : Heap} {a : Addr} {ws : List Addr} {ty : FieldType} {n : Nat} {f : Nat → Value} (F : own_arr Z h a ty n f) (K : Keep h h' ws) (q : a ∉ ws) : own_arr Z h' a ty n f := by
  obtain ⟨c, A, r⟩ := F; exact ⟨c, ⟨K.2.1 a c A.1 q, A.2⟩, r⟩
theorem own_arr_set {Z : State} {h h' : Heap} {a : Addr} {j : Nat} {v : Value} {ty : FieldType} {n : Nat} {f : Nat → Value} (F : own_arr Z h a ty n f) (W : Wr h h' a j v) : own_arr Z h' a ty n (fun i => if i = j then v else f i) := by
  obtain ⟨c, A, S, H⟩ := F
  refine ⟨c.setSlot j v, A.same W, by rw [sz_set]; exact S, fun i hi => ?_⟩
  by_cases u : i = j
  · subst u
    simp [Cell.setSlot, S, hi]
  · have := H i hi
    simp only [Cell.setSlot, if_neg u]
    rw [Array.getElem?_setIfInBounds_ne (Ne.symm u)]; exact this
theorem own_arr_eq {Z : State} {h : Heap} {a : Addr} {ty : FieldType} {n : Nat} {f g : Nat → Value} (F : own_arr Z h a ty n f) (q : ∀ j, j < n → f j = g j) : own_arr Z h a ty n g := by
  obtain ⟨c, A, S, H⟩ := F
  exact ⟨c, A, S, fun j hj => by rw [← q j hj]; exact H j hj⟩
theorem own_arr_new {Z : State} {h : Heap} {a : Addr} {k : ClassId} {ty : FieldType} {z : Int32} (A : Arr Z h a (newA k ty z) ty) {n : Nat} (hn : z.toNatClampNeg = n) : own_arr Z h a ty n (fun _ => defaultValue ty) := by
  refine ⟨_, A, (sz_new _ _ _).trans hn, fun j hj => ?_⟩
  rw [← hn] at hj
  simp [newA, hj]
theorem own_in {c : Cell} {n : Nat} {j : Int32} (S : c.slots.size = n) (h0 : 0 ≤ j.toInt) (h1 : j.toInt.toNat < n) : ¬ (j < 0 ∨ c.slots.size ≤ j.toNatClampNeg) := by
  have e : (0 : Int32).toInt = 0 := rfl
  have e2 : j.toNatClampNeg = j.toInt.toNat := rfl
  rw [S, Int32.lt_iff_toInt_lt, e, e2]
  omega
theorem own_ofNat {n : Nat} (h : n < 2147483648) : (Int32.ofNat n).toInt = n := Int32.toInt_ofNat_of_lt h
theorem own_one (i : Nat) : Int32.ofNat i + (1 : Int32) = Int32.ofNat (i + 1) := (Int32.ofNat_add i 1).symm
def own_b (b : Bool) : Int32 := if b = true then 1 else 0
theorem own_b1 {b : Bool} (h : b = true) : own_b b = (1 : Int32) := if_pos h
theorem own_b0 {b : Bool} (h : b = false) : own_b b = (0 : Int32) := by rw [h]; rfl
theorem own_bn {b : Bool} (h : ¬ b = false) : ¬ own_b b = (0 : Int32) := by
  rw [own_b1 (by simpa using h)]; decide
theorem own_nar (b : Bool) : nar .boolean (own_b b) = own_b b := by cases b <;> decide
/-- how many a node counts of itself -/
def own_h (b : Bool) : Int := if b = true then 1 else 0
theorem own_hv (b : Bool) : (((0 : Int32) + own_b b).toInt64).toInt = own_h b := by cases b <;> decide
theorem own_n (z : Int32) : ∃ n : Nat, 2 ≤ n ∧ n ≤ 5 ∧ ((z &&& (3 : Int32)) + (2 : Int32)) = Int32.ofNat n := by
  have e1 : (3 : Int32).toInt = 3 := rfl
  have e2 : (2 : Int32).toInt = 2 := rfl
  have h1 := c_and z (3 : Int32) (by decide)
  have h2 := c_iadd (z &&& (3 : Int32)) (2 : Int32)
  have h3 := rng32 ((z &&& (3 : Int32)) + (2 : Int32))
  refine ⟨((z &&& (3 : Int32)) + (2 : Int32)).toInt.toNat, by omega, by omega, ?_⟩
  apply Int32.toInt_inj.mp
  rw [own_ofNat (by omega)]; omega
theorem own_nz {r : Int32} (h : 0 < r.toInt) : r ≠ 0 := by
  intro q
  have e : (0 : Int32).toInt = 0 := rfl
  rw [q, e] at h; omega
theorem own_mod (b r : Int32) (h : 0 < r.toInt) : 0 ≤ ((b &&& (2147483647 : Int32)) - ((b &&& (2147483647 : Int32)) / r) * r).toInt ∧ ((b &&& (2147483647 : Int32)) - ((b &&& (2147483647 : Int32)) / r) * r).toInt < r.toInt := by
  rw [irem_eq_mod]
  have h1 := c_and b (2147483647 : Int32) (by decide)
  have h2 := (c_iremV (b &&& (2147483647 : Int32)) r).1 h1.1 h
  exact ⟨h2.1, h2.2.1⟩
theorem own_next (x r : Int32) (h0 : 0 ≤ x.toInt) (h1 : x.toInt < r.toInt) (h2 : 2 ≤ r.toInt) (h3 : r.toInt ≤ 5) : 0 ≤ ((x + (1 : Int32)) - ((x + (1 : Int32)) / r) * r).toInt ∧ ((x + (1 : Int32)) - ((x + (1 : Int32)) / r) * r).toInt < r.toInt ∧ ¬ ((x + (1 : Int32)) - ((x + (1 : Int32)) / r) * r).toInt = x.toInt := by
  rw [irem_eq_mod]
  have e2 : (1 : Int32).toInt = 1 := rfl
  have a1 := c_iadd x (1 : Int32)
  have a2 := rng32 (x + (1 : Int32))
  have a3 : (x + (1 : Int32)).toInt = x.toInt + 1 := by omega
  have h := (c_iremV (x + (1 : Int32)) r).1 (by omega) (by omega)
  refine ⟨h.1, h.2.1, ?_⟩
  by_cases q : (x + (1 : Int32)).toInt < r.toInt
  · have := h.2.2.2.1 q; omega
  · have := h.2.2.2.2 (by omega) (by omega); omega
/-- what the law asks of one run, in booleans: b1, b2, b3 the flags; xe: excite ≤ 0, te: excite ≤ 1; xa, ta: accept likewise -/
theorem own_hle (b : Bool) (z : Int) : decide (z ≤ own_h b) = (if b = true then decide (z ≤ 1) else decide (z ≤ 0)) := by cases b <;> rfl
theorem own_or1 {b c : Bool} (h : ¬ b = false) : (b || c) = true := by cases b; exact absurd rfl h; rfl
theorem own_or2 {b c : Bool} (h1 : b = false) (h2 : c = false) : (b || c) = false := by rw [h1, h2]; rfl
theorem own_or3 {b c : Bool} (h2 : c = true) : (b || c) = true := by rw [h2, Bool.or_true]
theorem own_and1 {b c : Bool} (h : b = false) : (b && c) = false := by rw [h]; rfl
theorem own_and2 {b : Bool} {z : Int} (h : 0 < z) : (b && decide (z ≤ 0)) = false := by rw [decide_eq_false (by omega), Bool.and_false]
theorem own_and3 {b : Bool} {z : Int} (h1 : ¬ b = false) (h : ¬ 0 < z) : (b && decide (z ≤ 0)) = true := by
  rw [decide_eq_true (by omega), Bool.and_true]; simpa using h1
theorem own_acc {e : Bool} {z : Int} : (¬ e = false → 1 < z → decide (z ≤ own_h e) = false) ∧ (¬ e = false → ¬ 1 < z → decide (z ≤ own_h e) = true) ∧ (e = false → 0 < z → decide (z ≤ own_h e) = false) ∧ (e = false → ¬ 0 < z → decide (z ≤ own_h e) = true) := by
  have e1 : own_h true = 1 := rfl
  have e0 : own_h false = 0 := rfl
  refine ⟨fun h q => ?_, fun h q => ?_, fun h q => ?_, fun h q => ?_⟩
  · rw [show e = true by simpa using h, e1]; exact decide_eq_false (by omega)
  · rw [show e = true by simpa using h, e1]; exact decide_eq_true (by omega)
  · rw [h, e0]; exact decide_eq_false (by omega)
  · rw [h, e0]; exact decide_eq_true (by omega)
theorem own_a4 (b1 b2 b3 xe : Bool) {i j : Nat} (h : ¬ i = j) : ((((b1 && decide (i = i)) || (b3 && decide (i = j))) || (b2 && xe)) && !false) = (b1 || (b2 && xe)) := by simp [h]
theorem own_r4 (b1 b2 b3 xe : Bool) {i j : Nat} (h : ¬ i = j) (x : Nat) : (false || (decide (x = i) && (((b1 && decide (i = i)) || (b3 && decide (i = j))) || (b2 && xe)))) = (decide (x = i) && (b1 || (b2 && xe))) := by simp [h]
theorem own_a5 (b1 b2 b3 xe : Bool) {i j : Nat} (h : ¬ i = j) : ((((b1 && decide (i = i)) || (b3 && decide (i = j))) || (b2 && xe)) && !(decide (i = i) && (b1 || (b2 && xe)))) = false := by cases b1 <;> cases b2 <;> cases xe <;> simp [h]
theorem own_r5 (b1 b2 b3 xe : Bool) {i j : Nat} (h : ¬ i = j) (x : Nat) : ((decide (x = i) && (b1 || (b2 && xe))) || (decide (x = i) && (((b1 && decide (i = i)) || (b3 && decide (i = j))) || (b2 && xe)))) = (decide (x = i) && (b1 || (b2 && xe))) := by cases b1 <;> cases b2 <;> cases xe <;> simp [h]
theorem own_a6 (b1 b2 b3 xe eN : Bool) {i j : Nat} (h : ¬ j = i) : ((((b1 && decide (j = i)) || (b3 && decide (j = j))) || (b2 && xe)) && !(decide (j = i) && eN)) = (b3 || (b2 && xe)) := by simp [h]
theorem own_r6 (b1 b2 b3 xe eN : Bool) {i j : Nat} (h : ¬ j = i) (x : Nat) : ((decide (x = i) && eN) || (decide (x = j) && (((b1 && decide (j = i)) || (b3 && decide (j = j))) || (b2 && xe)))) = ((decide (x = i) && eN) || (decide (x = j) && (b3 || (b2 && xe)))) := by simp [h]
theorem own_a8 (b1 b2 b3 xe eN eO : Bool) {i j : Nat} (z : Int) (h : ¬ i = j) (hxe : xe = decide (z ≤ 0)) (heN : eN = (b1 || (b2 && xe))) : (((((b1 && decide (i = i)) || (b3 && decide (i = j))) || (b2 && xe)) || decide (z ≤ own_h ((decide (i = i) && eN) || (decide (i = j) && eO)))) && !((decide (i = i) && eN) || (decide (i = j) && eO))) = (!eN && xe) := by
  have e0 : own_h false = 0 := rfl
  rw [decide_eq_true (rfl : i = i), decide_eq_false h, Bool.and_true, Bool.and_false, Bool.or_false, Bool.true_and, Bool.false_and, Bool.or_false, ← heN]
  cases eN
  · rw [e0, ← hxe, Bool.false_or, Bool.not_false, Bool.and_true, Bool.true_and]
  · rfl
theorem own_a9 (ea eN eO : Bool) {i j : Nat} (z : Int) (h : ¬ i = j) : (ea || decide (z ≤ own_h ((decide (i = i) && eN) || (decide (i = j) && eO)))) = (ea || decide (z ≤ own_h eN)) := by
  rw [decide_eq_true (rfl : i = i), decide_eq_false h, Bool.true_and, Bool.false_and, Bool.or_false]
/-- the object and its arrays in the heap -/
def own_heap (Z : State) (h : Heap) (n0 : Nat) (a ae ar av aq : Addr) (n : Nat) (ex ac : Int64) (E R A : Nat → Bool) : Prop :=
  (Exa Z h a "com/example/halfmesh/halfmesh/CompleteRelay" ∧ Fld Z h a "com/example/halfmesh/halfmesh/CompleteRelay" "nodes" "I" (.int (Int32.ofNat n)) ∧ Fld Z h a "com/example/halfmesh/halfmesh/CompleteRelay" "excite" "J" (.long ex) ∧ Fld Z h a "com/example/halfmesh/halfmesh/CompleteRelay" "accept" "J" (.long ac) ∧ Fld Z h a "com/example/halfmesh/halfmesh/CompleteRelay" "excited" "[Z" (.ref ae) ∧ Fld Z h a "com/example/halfmesh/halfmesh/CompleteRelay" "relayed" "[Z" (.ref ar) ∧ Fld Z h a "com/example/halfmesh/halfmesh/CompleteRelay" "accepted" "[Z" (.ref av) ∧ Fld Z h a "com/example/halfmesh/halfmesh/CompleteRelay" "heardFrom" "[I" (.ref aq)) ∧
  (own_arr Z h ae .boolean n (fun j => .int (own_b (E j))) ∧ own_arr Z h ar .boolean n (fun j => .int (own_b (R j))) ∧ own_arr Z h av .boolean n (fun j => .int (own_b (A j))) ∧ own_arr Z h aq .int n (fun _ => .int 0)) ∧
  (a < ae ∧ ae < ar ∧ ar < av ∧ av < aq) ∧ (n0 ≤ a ∧ n0 ≤ h.size)
theorem own_heap_eq {Z : State} {h : Heap} {n0 : Nat} {a ae ar av aq : Addr} {n : Nat} {ex ac : Int64} {E R A E' R' A' : Nat → Bool} (H : own_heap Z h n0 a ae ar av aq n ex ac E R A) (h1 : ∀ j, j < n → E j = E' j) (h2 : ∀ j, j < n → R j = R' j) (h3 : ∀ j, j < n → A j = A' j) : own_heap Z h n0 a ae ar av aq n ex ac E' R' A' := by
  obtain ⟨F, ⟨A1, A2, A3, A4⟩, D, G⟩ := H
  exact ⟨F, ⟨own_arr_eq A1 (fun j hj => by rw [h1 j hj]), own_arr_eq A2 (fun j hj => by rw [h2 j hj]), own_arr_eq A3 (fun j hj => by rw [h3 j hj]), A4⟩, D, G⟩
/-- a store of true into one of the three arrays of booleans -/
theorem own_wr {Z : State} {h h' : Heap} {n0 : Nat} {a ae ar av aq : Addr} {n : Nat} {ex ac : Int64} {E R A : Nat → Bool} {j : Nat} {b : Addr} (H : own_heap Z h n0 a ae ar av aq n ex ac E R A) (W : Wr h h' b j (.int (nar .boolean (1 : Int32)))) :
    (b = ae → own_heap Z h' n0 a ae ar av aq n ex ac (fun i => E i || decide (i = j)) R A) ∧ (b = ar → own_heap Z h' n0 a ae ar av aq n ex ac E (fun i => R i || decide (i = j)) A) ∧ (b = av → own_heap Z h' n0 a ae ar av aq n ex ac E R (fun i => A i || decide (i = j))) := by
  obtain ⟨⟨E1, F1, F2, F3, F4, F5, F6, F7⟩, ⟨A1, A2, A3, A4⟩, ⟨d1, d2, d3, d4⟩, G1, G2⟩ := H
  have e1 : nar .boolean (1 : Int32) = 1 := by decide
  rw [e1] at W
  have hs : n0 ≤ h'.size := Nat.le_trans G2 (Keep.of_wr W).1
  have key : ∀ (f : Nat → Bool), (fun i => if i = j then Value.int 1 else Value.int (own_b (f i))) = fun i => Value.int (own_b (f i || decide (i = j))) := fun f => by
    funext i
    by_cases u : i = j
    · simp [u, own_b]
    · simp [u]
  have l1 : a < ar := Nat.lt_trans d1 d2
  have l2 : a < av := Nat.lt_trans l1 d3
  have l3 : a < aq := Nat.lt_trans l2 d4
  have l4 : ae < av := Nat.lt_trans d2 d3
  have l5 : ae < aq := Nat.lt_trans l4 d4
  have l6 : ar < aq := Nat.lt_trans d3 d4
  refine ⟨fun q => ?_, fun q => ?_, fun q => ?_⟩
  · subst q
    have n1 : a ≠ b := Nat.ne_of_lt d1
    have B := own_arr_set A1 W
    rw [key E] at B
    exact ⟨⟨E1.wr W, F1.other W (Or.inl n1), F2.other W (Or.inl n1), F3.other W (Or.inl n1), F4.other W (Or.inl n1), F5.other W (Or.inl n1), F6.other W (Or.inl n1), F7.other W (Or.inl n1)⟩, ⟨B, own_arr_other A2 W (Nat.ne_of_gt d2), own_arr_other A3 W (Nat.ne_of_gt l4), own_arr_other A4 W (Nat.ne_of_gt l5)⟩, ⟨d1, d2, d3, d4⟩, G1, hs⟩
  · subst q
    have n1 : a ≠ b := Nat.ne_of_lt l1
    have B := own_arr_set A2 W
    rw [key R] at B
    exact ⟨⟨E1.wr W, F1.other W (Or.inl n1), F2.other W (Or.inl n1), F3.other W (Or.inl n1), F4.other W (Or.inl n1), F5.other W (Or.inl n1), F6.other W (Or.inl n1), F7.other W (Or.inl n1)⟩, ⟨own_arr_other A1 W (Nat.ne_of_lt d2), B, own_arr_other A3 W (Nat.ne_of_gt d3), own_arr_other A4 W (Nat.ne_of_gt l6)⟩, ⟨d1, d2, d3, d4⟩, G1, hs⟩
  · subst q
    have n1 : a ≠ b := Nat.ne_of_lt l2
    have B := own_arr_set A3 W
    rw [key A] at B
    exact ⟨⟨E1.wr W, F1.other W (Or.inl n1), F2.other W (Or.inl n1), F3.other W (Or.inl n1), F4.other W (Or.inl n1), F5.other W (Or.inl n1), F6.other W (Or.inl n1), F7.other W (Or.inl n1)⟩, ⟨own_arr_other A1 W (Nat.ne_of_lt l4), own_arr_other A2 W (Nat.ne_of_lt d3), B, own_arr_other A4 W (Nat.ne_of_gt d4)⟩, ⟨d1, d2, d3, d4⟩, G1, hs⟩
theorem d5_0 : decode jdk_92_method_1_code 0 = .ok (.iload_n 0, 1) := by decide +kernel
theorem d5_1 : decode jdk_92_method_1_code 1 = .ok (.bipush 6, 2) := by decide +kernel
theorem d5_3 : decode jdk_92_method_1_code 3 = .ok (.ishr, 1) := by decide +kernel
theorem d5_4 : decode jdk_92_method_1_code 4 = .ok (.ireturn, 1) := by decide +kernel
theorem pn_5 : plainName "java/util/BitSet" = true := by first | (simp [plainName, overriddenIn]; done) | decide +kernel
theorem ef_5 (m : MethodId) (p1 : Int32) : entryFrame m #[(.int p1)] 1 = mkF m 0 #[.val (.int p1)] [] := by first | (simp [entryFrame, mkF, argsToLocals, Value.category]; done) | rfl
def Q5 (Z : State) (p1 : Int32) (h0 : Heap) (n0 : Nat) (v : Option Value) (h : Heap) (L : List Loc) : Prop := v = some (.int (p1 >>> ((6 : Int32) &&& 31))) ∧ Fr n0 L ∧ h = h0
set_option maxRecDepth 65536 in
set_option maxHeartbeats 40000000 in
theorem rm5 (l : Launch) (Z : State) (a0 : Array Value) (hw : ∀ d ∈ tables_1, d.before a0 Z = true) (ws : List Jvm.Cond) (p1 : Int32) (h0 : Heap) (n0 : Nat) (Z0 : n0 ≤ h0.size) :
    MetFree l (⟨"java/util/BitSet", "wordIndex", "(I)I"⟩ : MethodName) (head1 (Jvm.Cond.code (⟨"java/util/BitSet", "wordIndex", "(I)I"⟩ : MethodName) jdk_92_method_1_code 1 (some .int) :: ws) ({ frames := 0, cells := 0, slots := 0, locals := 0 } : Room)) (fun a U => a = #[(.int p1)] ∧ Z.Warmed39 U.vm ∧ U.heap = h0) (fun _ _ _ _ _ => True) (fun _ U o U' => ∃ v L, o = .returned v ∧ Q5 Z p1 h0 n0 v U'.heap L ∧ FrameEnd U o U' L ({ frames := 0, cells := 0, slots := 0, locals := 0 } : Room).cells ({ frames := 0, cells := 0, slots := 0, locals := 0 } : Room).slots) := by
  refine MetFree.of_bodySF (plainFor_of_name pn_5) hisR ?_
  intro p e s m args below meth c s₁ Bd hml0 hP hK
  obtain ⟨rfl, hZ, hh⟩ := hP
  have hx := Bd.exec
  have hby := Bd.bytes
  have hml : c.maxLocals = 1 := hml0
  have hown : s.vm.findClass "java/util/BitSet" = some m.cls := findClass_of_methodNamed Bd.named
  have hnm := (name_of_methodNamed Bd.named Bd.method).1
  have X0 : Stand p l e ({ frames := 0, cells := 0, slots := 0, locals := 0 } : Room) s m #[(.int p1)] below meth c s₁ [] 0 0 := Stand.of_body Bd
  have e0 : s₁.heap = h0 := by rw [← hh, Bd.state]; rfl
  have N0 := Fr.nil n0
  have pre0 : ∀ t, Steps p.tables e below (s₁.setTop (mkF m 0 #[.val (.int p1)] [])) t → Steps p.tables e below (s₁.setTop (entryFrame m #[(.int p1)] 1)) t := fun t k => castTop (ef_5 m p1) k
  obtain ⟨G, hG⟩ : ∃ G : State → Prop, G = fun t => Steps p.tables e below (s₁.setTop (entryFrame m #[(.int p1)] 1)) t := ⟨_, rfl⟩
  have fin : ∀ t, G t → Steps p.tables e below (s₁.setTop (entryFrame m #[(.int p1)] 1)) t := by rw [hG]; exact fun _ k => k
  have go0 : ∀ t, Steps p.tables e below (s₁.setTop (mkF m 0 #[.val (.int p1)] [])) t → G t := by rw [hG]; exact pre0
  have go1 : ∀ t, Steps p.tables e below (s₁.setTop (mkF m 4 #[.val (.int p1)] [(.int (p1 >>> ((6 : Int32) &&& 31)))])) t → G t := fun t k => go0 t (by
      show Steps p.tables e below (s₁.setTop (mkF m 0 #[.val (.int p1)] [])) _
      refine XS.iloadN X0.here hx rfl (hb hby d5_0) rfl ?_
      show Steps p.tables e below (s₁.setTop (mkF m 1 #[.val (.int p1)] [(.int p1)])) _
      refine XS.bipush X0.here hx rfl (hb hby d5_1) ?_
      show Steps p.tables e below (s₁.setTop (mkF m 3 #[.val (.int p1)] [(.int (6 : Int32)), (.int p1)])) _
      refine XS.ishr X0.here hx rfl (hb hby d5_3) rfl ?_
      show Steps p.tables e below (s₁.setTop (mkF m 4 #[.val (.int p1)] [(.int (p1 >>> ((6 : Int32) &&& 31)))])) _
      exact k)
  obtain ⟨fs, hr, hrun, hended, hW, hsame⟩ := X0.leave (v := some (.int (p1 >>> ((6 : Int32) &&& 31)))) (fun h => by rw [Bd.returns] at h; cases h)
  refine ⟨_, _, fin _ (go1 _ ?_), hrun, hended, _, _, rfl, ?_, ⟨_, rfl⟩, hW, hsame.mono (by decide) (by decide)⟩
  · exact retI X0 hx Bd.returns (hb hby d5_4) hr
  · show Q5 Z p1 h0 n0 _ s₁.heap _
    rw [e0]
    exact ⟨rfl, N0, rfl⟩
theorem d4_0 : decode jdk_92_method_6_code 0 = .ok (.aload_n 0, 1) := by decide +kernel
theorem d4_1 : decode jdk_92_method_6_code 1 = .ok (.iload_n 1, 1) := by decide +kernel
theorem d4_2 : decode jdk_92_method_6_code 2 = .ok (.iconst 1, 1) := by decide +kernel
theorem d4_3 : decode jdk_92_method_6_code 3 = .ok (.isub, 1) := by decide +kernel
theorem d4_4 : decode jdk_92_method_6_code 4 = .ok (.invokestatic 52, 3) := by decide +kernel
theorem d4_7 : decode jdk_92_method_6_code 7 = .ok (.iconst 1, 1) := by decide +kernel
theorem d4_8 : decode jdk_92_method_6_code 8 = .ok (.iadd, 1) := by decide +kernel
theorem d4_9 : decode jdk_92_method_6_code 9 = .ok (.newarray .long, 2) := by decide +kernel
theorem d4_11 : decode jdk_92_method_6_code 11 = .ok (.putfield 11, 3) := by decide +kernel
theorem d4_14 : decode jdk_92_method_6_code 14 = .ok (.return_, 1) := by decide +kernel
theorem pn_4 : plainName "java/util/BitSet" = true := by first | (simp [plainName, overriddenIn]; done) | decide +kernel
theorem pd_w : parseMethodDescriptor "(I)I" = some ⟨[.int], some .int⟩ := by decide +kernel
theorem ef_4 (m : MethodId) (a1 : Addr) (p2 : Int32) : entryFrame m #[(.ref a1), (.int p2)] 2 = mkF m 0 #[.val (.ref a1), .val (.int p2)] [] := by first | (simp [entryFrame, mkF, argsToLocals, Value.category]; done) | rfl
def Q4 (Z : State) (a1 : Addr) (p2 : Int32) (h0 : Heap) (n0 : Nat) (v : Option Value) (h : Heap) (L : List Loc) : Prop := v = none ∧ Fr n0 L ∧ Keep h0 h [a1] ∧ Exa Z h a1 "java/util/BitSet" ∧ Fld Z h a1 "java/util/BitSet" "sizeIsSticky" "Z" (.int (0 : Int32))
set_option maxRecDepth 65536 in
set_option maxHeartbeats 40000000 in
theorem rm4 (l : Launch) (Z : State) (a0 : Array Value) (hw : ∀ d ∈ tables_1, d.before a0 Z = true) (ws : List Jvm.Cond) (a1 : Addr) (p2 : Int32) (h0 : Heap) (n0 : Nat) (Z0 : n0 ≤ h0.size) (E_a1 : Exa Z h0 a1 "java/util/BitSet") (F_w : Fld Z h0 a1 "java/util/BitSet" "words" "[J" .null) (F_s : Fld Z h0 a1 "java/util/BitSet" "sizeIsSticky" "Z" (.int (0 : Int32))) (g_a1 : n0 ≤ a1) (h64 : p2 = (64 : Int32)) :
    MetFree l (⟨"java/util/BitSet", "initWords", "(I)V"⟩ : MethodName) (head1 (Jvm.Cond.code (⟨"java/util/BitSet", "initWords", "(I)V"⟩ : MethodName) jdk_92_method_6_code 2 none :: ws) ({ frames := 1, cells := 1, slots := 1, locals := 13 } : Room)) (fun a U => a = #[(.ref a1), (.int p2)] ∧ Z.Warmed39 U.vm ∧ U.heap = h0) (fun _ _ _ _ _ => True) (fun _ U o U' => ∃ v L, o = .returned v ∧ Q4 Z a1 p2 h0 n0 v U'.heap L ∧ FrameEnd U o U' L ({ frames := 1, cells := 1, slots := 1, locals := 13 } : Room).cells ({ frames := 1, cells := 1, slots := 1, locals := 13 } : Room).slots) := by
  refine MetFree.of_bodySF (plainFor_of_name pn_4) hisR ?_
  intro p e s m args below meth c s₁ Bd hml0 hP hK
  obtain ⟨rfl, hZ, hh⟩ := hP
  have hx := Bd.exec
  have hby := Bd.bytes
  have hml : c.maxLocals = 2 := hml0
  have hown : s.vm.findClass "java/util/BitSet" = some m.cls := findClass_of_methodNamed Bd.named
  have hnm := (name_of_methodNamed Bd.named Bd.method).1
  have X0 : Stand p l e ({ frames := 1, cells := 1, slots := 1, locals := 13 } : Room) s m #[(.ref a1), (.int p2)] below meth c s₁ [] 0 0 := Stand.of_body Bd
  have e0 : s₁.heap = h0 := by rw [← hh, Bd.state]; rfl
  have N0 := Fr.nil n0
  have pre0 : ∀ t, Steps p.tables e below (s₁.setTop (mkF m 0 #[.val (.ref a1), .val (.int p2)] [])) t → Steps p.tables e below (s₁.setTop (entryFrame m #[(.ref a1), (.int p2)] 2)) t := fun t k => castTop (ef_4 m a1 p2) k
  obtain ⟨G, hG⟩ : ∃ G : State → Prop, G = fun t => Steps p.tables e below (s₁.setTop (entryFrame m #[(.ref a1), (.int p2)] 2)) t := ⟨_, rfl⟩
  have fin : ∀ t, G t → Steps p.tables e below (s₁.setTop (entryFrame m #[(.ref a1), (.int p2)] 2)) t := by rw [hG]; exact fun _ k => k
  have go0 : ∀ t, Steps p.tables e below (s₁.setTop (mkF m 0 #[.val (.ref a1), .val (.int p2)] [])) t → G t := by rw [hG]; exact pre0
  have go1 : ∀ t, Steps p.tables e below (s₁.setTop (mkF m 4 #[.val (.ref a1), .val (.int p2)] [(.int (p2 - (1 : Int32))), (.ref a1)])) t → G t := fun t k => go0 t (by
      show Steps p.tables e below (s₁.setTop (mkF m 0 #[.val (.ref a1), .val (.int p2)] [])) _
      refine XS.aloadN X0.here hx rfl (hb hby d4_0) rfl rfl ?_
      show Steps p.tables e below (s₁.setTop (mkF m 1 #[.val (.ref a1), .val (.int p2)] [(.ref a1)])) _
      refine XS.iloadN X0.here hx rfl (hb hby d4_1) rfl ?_
      show Steps p.tables e below (s₁.setTop (mkF m 2 #[.val (.ref a1), .val (.int p2)] [(.int p2), (.ref a1)])) _
      refine XS.iconst X0.here hx rfl (hb hby d4_2) ?_
      show Steps p.tables e below (s₁.setTop (mkF m 3 #[.val (.ref a1), .val (.int p2)] [(.int (1 : Int32)), (.int p2), (.ref a1)])) _
      refine XS.isub X0.here hx rfl (hb hby d4_3) rfl ?_
      show Steps p.tables e below (s₁.setTop (mkF m 4 #[.val (.ref a1), .val (.int p2)] [(.int (p2 - (1 : Int32))), (.ref a1)])) _
      exact k)
  obtain ⟨_, _, ⟨T2, L2, k2, n2⟩, -, X2, ⟨Lc2, hQ2, l2, y2, z2⟩, st2⟩ := Jvm.LawKit.callS X0 hx (y := (⟨"java/util/BitSet", "wordIndex", "(I)I"⟩ : MethodName)) hown (mvT hZ (hw _ (List.mem_of_getElem? (i := 27) rfl))) (mvT hZ (hw _ (List.mem_of_getElem? (i := 28) rfl))) (mvT hZ (hw _ (List.mem_of_getElem? (i := 13) rfl))) (mvT hZ (hw _ (List.mem_of_getElem? (i := 29) rfl))) (by decide) (backOf (W := 1) (rm5 l Z a0 hw [] (p2 - (1 : Int32)) h0 n0 Z0) hZ (hw _ (List.mem_of_getElem? (i := 29) rfl)) (hw _ (List.mem_of_getElem? (i := 13) rfl)) (by decide) (by decide)) (g := (mkF m 4 #[.val (.ref a1), .val (.int p2)] [(.int (p2 - (1 : Int32))), (.ref a1)])) rfl (by rw [hml]; rfl) (argsL := [(.int (p2 - (1 : Int32)))]) (rest := [(.ref a1)]) (lenOf pd_w rfl) rfl (by show 2 * 0 + _ ≤ _; exact Nat.le_of_eq rfl) (hb hby d4_4) (fun _ _ => ⟨rfl, e0, (by decide : 0 + 0 ≤ _), (by decide : 0 + 0 ≤ _)⟩)
  dsimp only [Pt.U, Pt.locs, Pt.cells, Pt.slots] at X2 l2 y2 z2 st2 hQ2
  subst l2 y2 z2
  obtain ⟨rfl, N2q, q2⟩ := hQ2
  have N2 := Fr.app N0 N2q
  have go3 : ∀ t, Steps p.tables e below (T2.setTop (mkF m 7 #[.val (.ref a1), .val (.int p2)] [(.int ((p2 - (1 : Int32)) >>> ((6 : Int32) &&& 31))), (.ref a1)])) t → G t := fun t k => go1 t (st2 _ k)
  have go4 : ∀ t, Steps p.tables e below (T2.setTop (mkF m 9 #[.val (.ref a1), .val (.int p2)] [(.int (((p2 - (1 : Int32)) >>> ((6 : Int32) &&& 31)) + (1 : Int32))), (.ref a1)])) t → G t := fun t k => go3 t (by
      show Steps p.tables e below (T2.setTop (mkF m 7 #[.val (.ref a1), .val (.int p2)] [(.int ((p2 - (1 : Int32)) >>> ((6 : Int32) &&& 31))), (.ref a1)])) _
      refine XS.iconst X2.here hx rfl (hb hby d4_7) ?_
      show Steps p.tables e below (T2.setTop (mkF m 8 #[.val (.ref a1), .val (.int p2)] [(.int (1 : Int32)), (.int ((p2 - (1 : Int32)) >>> ((6 : Int32) &&& 31))), (.ref a1)])) _
      refine XS.iadd X2.here hx rfl (hb hby d4_8) rfl ?_
      show Steps p.tables e below (T2.setTop (mkF m 9 #[.val (.ref a1), .val (.int p2)] [(.int (((p2 - (1 : Int32)) >>> ((6 : Int32) &&& 31)) + (1 : Int32))), (.ref a1)])) _
      exact k)
  have hone : (((p2 - (1 : Int32)) >>> ((6 : Int32) &&& 31)) + (1 : Int32)) = (1 : Int32) := by rw [h64]; decide
  obtain ⟨T5, h5, c5, X5, e5, E5, A5, st5⟩ := newP X2 hx hZ (hw _ (List.mem_of_getElem? (i := 30) rfl)) q2 (g := (mkF m 9 #[.val (.ref a1), .val (.int p2)] [(.int (((p2 - (1 : Int32)) >>> ((6 : Int32) &&& 31)) + (1 : Int32))), (.ref a1)])) rfl (hb hby d4_9) rfl (by rw [hone]; decide) (cap := 1) (by rw [hone]; decide) (by decide) (by decide) (by decide)
  obtain ⟨b5, g5⟩ : ∃ z, z = h0.size := ⟨_, rfl⟩
  rw [← g5] at A5 st5
  have go6 : ∀ t, Steps p.tables e below (T5.setTop (mkF m 11 #[.val (.ref a1), .val (.int p2)] [(.ref b5), (.ref a1)])) t → G t := fun t k => go4 t (st5 _ k)
  have gl : a1 < b5 := Nat.lt_of_lt_of_le E_a1.lt (Nat.le_of_eq g5.symm)
  obtain ⟨T7, h7, X7, e7, W7, st7⟩ := putF X5 hx hZ hown (host := "") (Or.inl (hw _ (List.mem_of_getElem? (i := 31) rfl))) Via.refl e5 (F_w.ext E5) (E_a1.ext E5) (Or.inl (hw _ (List.mem_of_getElem? (i := 32) rfl))) (hw _ (List.mem_of_getElem? (i := 12) rfl)) (ty := (.array .long)) (by decide) rfl rfl (g := (mkF m 11 #[.val (.ref a1), .val (.int p2)] [(.ref b5), (.ref a1)])) rfl rfl (hb hby d4_11)
  have N7 := Fr.snoc X7 N2 g_a1
  have go8 : ∀ t, Steps p.tables e below (T7.setTop (mkF m 14 #[.val (.ref a1), .val (.int p2)] [])) t → G t := fun t k => go6 t (st7 _ k)
  have K : Keep h0 h7 [a1] := ((Keep.refl h0 [a1]).ext E5).wr W7 (Or.inl (List.mem_of_getElem? (i := 0) rfl))
  obtain ⟨fs, hr, hrun, hended, hW, hsame⟩ := X7.leave (v := none) (fun _ => rfl)
  refine ⟨_, _, fin _ (go8 _ ?_), hrun, hended, _, _, rfl, ?_, ⟨_, rfl⟩, hW, hsame.mono (by decide) (by decide)⟩
  · exact X7.returnOut hx Bd.returns (hb hby d4_14) hr
  · show Q4 Z a1 p2 h0 n0 _ T7.heap _
    rw [e7]
    exact ⟨rfl, N7, K, (E_a1.ext E5).wr W7, (F_s.ext E5).other W7 (Or.inr (slot_ne (Or.inl (hw _ (List.mem_of_getElem? (i := 21) rfl))) (Or.inl (hw _ (List.mem_of_getElem? (i := 32) rfl))) (by decide) (t := .boolean) (t' := (.array .long)) (by decide) (by decide)))⟩
theorem d3_0 : decode jdk_92_method_4_code 0 = .ok (.aload_n 0, 1) := by decide +kernel
theorem d3_1 : decode jdk_92_method_4_code 1 = .ok (.invokespecial 21, 3) := by decide +kernel
theorem d3_4 : decode jdk_92_method_4_code 4 = .ok (.aload_n 0, 1) := by decide +kernel
theorem d3_5 : decode jdk_92_method_4_code 5 = .ok (.iconst 0, 1) := by decide +kernel
theorem d3_6 : decode jdk_92_method_4_code 6 = .ok (.putfield 7, 3) := by decide +kernel
theorem d3_9 : decode jdk_92_method_4_code 9 = .ok (.aload_n 0, 1) := by decide +kernel
theorem d3_10 : decode jdk_92_method_4_code 10 = .ok (.iconst 0, 1) := by decide +kernel
theorem d3_11 : decode jdk_92_method_4_code 11 = .ok (.putfield 24, 3) := by decide +kernel
theorem d3_14 : decode jdk_92_method_4_code 14 = .ok (.aload_n 0, 1) := by decide +kernel
theorem d3_15 : decode jdk_92_method_4_code 15 = .ok (.bipush 64, 2) := by decide +kernel
theorem d3_17 : decode jdk_92_method_4_code 17 = .ok (.invokevirtual 27, 3) := by decide +kernel
theorem d3_20 : decode jdk_92_method_4_code 20 = .ok (.aload_n 0, 1) := by decide +kernel
theorem d3_21 : decode jdk_92_method_4_code 21 = .ok (.iconst 0, 1) := by decide +kernel
theorem d3_22 : decode jdk_92_method_4_code 22 = .ok (.putfield 24, 3) := by decide +kernel
theorem d3_25 : decode jdk_92_method_4_code 25 = .ok (.return_, 1) := by decide +kernel
theorem pn_3 : plainName "java/util/BitSet" = true := by first | (simp [plainName, overriddenIn]; done) | decide +kernel
theorem pd_iv : parseMethodDescriptor "(I)V" = some ⟨[.int], none⟩ := by decide +kernel
theorem ef_3 (m : MethodId) (a1 : Addr) : entryFrame m #[(.ref a1)] 1 = mkF m 0 #[.val (.ref a1)] [] := by first | (simp [entryFrame, mkF, argsToLocals, Value.category]; done) | rfl
def Q3 (Z : State) (a1 : Addr) (h0 : Heap) (n0 : Nat) (v : Option Value) (h : Heap) (L : List Loc) : Prop := v = none ∧ Fr n0 L ∧ Keep h0 h [a1]
set_option maxRecDepth 65536 in
set_option maxHeartbeats 40000000 in
theorem rm3 (l : Launch) (Z : State) (a0 : Array Value) (hw : ∀ d ∈ tables_1, d.before a0 Z = true) (ws : List Jvm.Cond) (a1 : Addr) (h0 : Heap) (n0 : Nat) (Z0 : n0 ≤ h0.size) (E_a1 : Exa Z h0 a1 "java/util/BitSet") (F_u : Fld Z h0 a1 "java/util/BitSet" "wordsInUse" "I" (.int (0 : Int32))) (F_s : Fld Z h0 a1 "java/util/BitSet" "sizeIsSticky" "Z" (.int (0 : Int32))) (F_w : Fld Z h0 a1 "java/util/BitSet" "words" "[J" .null) (g_a1 : n0 ≤ a1) :
    MetFree l (⟨"java/util/BitSet", "<init>", "()V"⟩ : MethodName) (head1 (Jvm.Cond.code (⟨"java/util/BitSet", "<init>", "()V"⟩ : MethodName) jdk_92_method_4_code 1 none :: ws) ({ frames := 2, cells := 1, slots := 1, locals := 26 } : Room)) (fun a U => a = #[(.ref a1)] ∧ Z.Warmed39 U.vm ∧ U.heap = h0) (fun _ _ _ _ _ => True) (fun _ U o U' => ∃ v L, o = .returned v ∧ Q3 Z a1 h0 n0 v U'.heap L ∧ FrameEnd U o U' L ({ frames := 2, cells := 1, slots := 1, locals := 26 } : Room).cells ({ frames := 2, cells := 1, slots := 1, locals := 26 } : Room).slots) := by
  refine MetFree.of_bodySF (plainFor_of_name pn_3) hisR ?_
  intro p e s m args below meth c s₁ Bd hml0 hP hK
  obtain ⟨rfl, hZ, hh⟩ := hP
  have hx := Bd.exec
  have hby := Bd.bytes
  have hml : c.maxLocals = 1 := hml0
  have hown : s.vm.findClass "java/util/BitSet" = some m.cls := findClass_of_methodNamed Bd.named
  have hnm := (name_of_methodNamed Bd.named Bd.method).1
  have X0 : Stand p l e ({ frames := 2, cells := 1, slots := 1, locals := 26 } : Room) s m #[(.ref a1)] below meth c s₁ [] 0 0 := Stand.of_body Bd
  have e0 : s₁.heap = h0 := by rw [← hh, Bd.state]; rfl
  have N0 := Fr.nil n0
  have pre0 : ∀ t, Steps p.tables e below (s₁.setTop (mkF m 0 #[.val (.ref a1)] [])) t → Steps p.tables e below (s₁.setTop (entryFrame m #[(.ref a1)] 1)) t := fun t k => castTop (ef_3 m a1) k
  obtain ⟨G, hG⟩ : ∃ G : State → Prop, G = fun t => Steps p.tables e below (s₁.setTop (entryFrame m #[(.ref a1)] 1)) t := ⟨_, rfl⟩
  have fin : ∀ t, G t → Steps p.tables e below (s₁.setTop (entryFrame m #[(.ref a1)] 1)) t := by rw [hG]; exact fun _ k => k
  have go0 : ∀ t, Steps p.tables e below (s₁.setTop (mkF m 0 #[.val (.ref a1)] [])) t → G t := by rw [hG]; exact pre0
  have go1 : ∀ t, Steps p.tables e below (s₁.setTop (mkF m 1 #[.val (.ref a1)] [(.ref a1)])) t → G t := fun t k => go0 t (by
      show Steps p.tables e below (s₁.setTop (mkF m 0 #[.val (.ref a1)] [])) _
      refine XS.aloadN X0.here hx rfl (hb hby d3_0) rfl rfl ?_
      show Steps p.tables e below (s₁.setTop (mkF m 1 #[.val (.ref a1)] [(.ref a1)])) _
      exact k)
  obtain ⟨T2, X2, e2, st2⟩ := initO X0 hx hZ hown (hw _ (List.mem_of_getElem? (i := 17) rfl)) (hw _ (List.mem_of_getElem? (i := 9) rfl)) (hw _ (List.mem_of_getElem? (i := 10) rfl)) e0 (g := (mkF m 1 #[.val (.ref a1)] [(.ref a1)])) rfl (by rw [hml]; rfl) rfl (hb hby d3_1) (by decide) (W := 0) (by show 2 * 0 + _ ≤ _; exact Nat.le_of_eq rfl) (by decide)
  have go3 : ∀ t, Steps p.tables e below (T2.setTop (mkF m 4 #[.val (.ref a1)] [])) t → G t := fun t k => go1 t (st2 _ k)
  have go4 : ∀ t, Steps p.tables e below (T2.setTop (mkF m 6 #[.val (.ref a1)] [(.int (0 : Int32)), (.ref a1)])) t → G t := fun t k => go3 t (by
      show Steps p.tables e below (T2.setTop (mkF m 4 #[.val (.ref a1)] [])) _
      refine XS.aloadN X2.here hx rfl (hb hby d3_4) rfl rfl ?_
      show Steps p.tables e below (T2.setTop (mkF m 5 #[.val (.ref a1)] [(.ref a1)])) _
      refine XS.iconst X2.here hx rfl (hb hby d3_5) ?_
      show Steps p.tables e below (T2.setTop (mkF m 6 #[.val (.ref a1)] [(.int (0 : Int32)), (.ref a1)])) _
      exact k)
  obtain ⟨T5, h5, X5, e5, W5, st5⟩ := putF X2 hx hZ hown (host := "") (Or.inl (hw _ (List.mem_of_getElem? (i := 18) rfl))) Via.refl e2 F_u E_a1 (Or.inl (hw _ (List.mem_of_getElem? (i := 19) rfl))) (hw _ (List.mem_of_getElem? (i := 12) rfl)) (ty := .int) (by decide) rfl rfl (g := (mkF m 6 #[.val (.ref a1)] [(.int (0 : Int32)), (.ref a1)])) rfl rfl (hb hby d3_6)
  have N5 := Fr.snoc X5 N0 g_a1
  have go6 : ∀ t, Steps p.tables e below (T5.setTop (mkF m 9 #[.val (.ref a1)] [])) t → G t := fun t k => go4 t (st5 _ k)
  have Fs1 := F_s.other W5 (Or.inr (slot_ne (Or.inl (hw _ (List.mem_of_getElem? (i := 21) rfl))) (Or.inl (hw _ (List.mem_of_getElem? (i := 19) rfl))) (by decide) (t := .boolean) (t' := .int) (by decide) (by decide)))
  have Fw1 := F_w.other W5 (Or.inr (slot_ne (Or.inl (hw _ (List.mem_of_getElem? (i := 32) rfl))) (Or.inl (hw _ (List.mem_of_getElem? (i := 19) rfl))) (by decide) (t := (.array .long)) (t' := .int) (by decide) (by decide)))
  have go7 : ∀ t, Steps p.tables e below (T5.setTop (mkF m 11 #[.val (.ref a1)] [(.int (0 : Int32)), (.ref a1)])) t → G t := fun t k => go6 t (by
      show Steps p.tables e below (T5.setTop (mkF m 9 #[.val (.ref a1)] [])) _
      refine XS.aloadN X5.here hx rfl (hb hby d3_9) rfl rfl ?_
      show Steps p.tables e below (T5.setTop (mkF m 10 #[.val (.ref a1)] [(.ref a1)])) _
      refine XS.iconst X5.here hx rfl (hb hby d3_10) ?_
      show Steps p.tables e below (T5.setTop (mkF m 11 #[.val (.ref a1)] [(.int (0 : Int32)), (.ref a1)])) _
      exact k)
  obtain ⟨T8, h8, X8, e8, W8, st8⟩ := putF X5 hx hZ hown (host := "") (Or.inl (hw _ (List.mem_of_getElem? (i := 20) rfl))) Via.refl e5 Fs1 (E_a1.wr W5) (Or.inl (hw _ (List.mem_of_getElem? (i := 21) rfl))) (hw _ (List.mem_of_getElem? (i := 12) rfl)) (ty := .boolean) (by decide) rfl rfl (g := (mkF m 11 #[.val (.ref a1)] [(.int (0 : Int32)), (.ref a1)])) rfl rfl (hb hby d3_11)
  have N8 := Fr.snoc X8 N5 g_a1
  have go9 : ∀ t, Steps p.tables e below (T8.setTop (mkF m 14 #[.val (.ref a1)] [])) t → G t := fun t k => go7 t (st8 _ k)
  have Fs2 := Fs1.same W8
  have Fw2 := Fw1.other W8 (Or.inr (slot_ne (Or.inl (hw _ (List.mem_of_getElem? (i := 32) rfl))) (Or.inl (hw _ (List.mem_of_getElem? (i := 21) rfl))) (by decide) (t := (.array .long)) (t' := .boolean) (by decide) (by decide)))
  have Ea2 := (E_a1.wr W5).wr W8
  have K2 : Keep h0 h8 [a1] := ((Keep.refl h0 [a1]).wr W5 (Or.inl (List.mem_of_getElem? (i := 0) rfl))).wr W8 (Or.inl (List.mem_of_getElem? (i := 0) rfl))
  have go10 : ∀ t, Steps p.tables e below (T8.setTop (mkF m 17 #[.val (.ref a1)] [(.int (64 : Int32)), (.ref a1)])) t → G t := fun t k => go9 t (by
      show Steps p.tables e below (T8.setTop (mkF m 14 #[.val (.ref a1)] [])) _
      refine XS.aloadN X8.here hx rfl (hb hby d3_14) rfl rfl ?_
      show Steps p.tables e below (T8.setTop (mkF m 15 #[.val (.ref a1)] [(.ref a1)])) _
      refine XS.bipush X8.here hx rfl (hb hby d3_15) ?_
      show Steps p.tables e below (T8.setTop (mkF m 17 #[.val (.ref a1)] [(.int (64 : Int32)), (.ref a1)])) _
      exact k)
  obtain ⟨cq11, q11, q11'⟩ := Ea2.cell
  obtain ⟨_, _, ⟨T11, L11, k11, n11⟩, -, X11, ⟨Lc11, hQ11, l11, y11, z11⟩, st11⟩ := X8.privateBack hx (y := (⟨"java/util/BitSet", "initWords", "(I)V"⟩ : MethodName)) hown (mvT hZ (hw _ (List.mem_of_getElem? (i := 22) rfl))) (mvT hZ (hw _ (List.mem_of_getElem? (i := 23) rfl))) (mvT hZ (hw _ (List.mem_of_getElem? (i := 25) rfl))) (Cond.privateMethod_at (mvP hZ (hw _ (List.mem_of_getElem? (i := 24) rfl)) (args := #[]))) (mvT hZ (hw _ (List.mem_of_getElem? (i := 26) rfl))) (by decide) (backOf (W := 0) (rm4 l Z a0 hw [] a1 (64 : Int32) h8 n0 (Nat.le_trans Z0 K2.1) Ea2 Fw2 Fs2 g_a1 rfl) hZ (hw _ (List.mem_of_getElem? (i := 26) rfl)) (hw _ (List.mem_of_getElem? (i := 13) rfl)) (by decide) (by decide)) (g := (mkF m 17 #[.val (.ref a1)] [(.int (64 : Int32)), (.ref a1)])) rfl (by rw [hml]; rfl) (Steps.refl _) (a := a1) (by rw [e8]; exact q11) q11' (argsL := [(.int (64 : Int32))]) (rest := []) (lenOf pd_iv rfl) rfl (by show 2 * 0 + _ ≤ _; exact Nat.le_of_eq rfl) (hb hby d3_17) (fun _ _ => ⟨rfl, e8, (by decide : 0 + 1 ≤ _), (by decide : 0 + 1 ≤ _)⟩)
  dsimp only [Pt.U, Pt.locs, Pt.cells, Pt.slots] at X11 l11 y11 z11 st11 hQ11
  subst l11 y11 z11
  obtain ⟨rfl, N11q, K3, E3, F3⟩ := hQ11
  have N11 := Fr.app N8 N11q
  have go12 : ∀ t, Steps p.tables e below (T11.setTop (mkF m 20 #[.val (.ref a1)] [])) t → G t := fun t k => go10 t (st11.trans k)
  have K4 : Keep h0 T11.heap [a1] := K2.trans K3 (allS (Or.inl (List.mem_of_getElem? (i := 0) rfl)) all0)
  have go13 : ∀ t, Steps p.tables e below (T11.setTop (mkF m 22 #[.val (.ref a1)] [(.int (0 : Int32)), (.ref a1)])) t → G t := fun t k => go12 t (by
      show Steps p.tables e below (T11.setTop (mkF m 20 #[.val (.ref a1)] [])) _
      refine XS.aloadN X11.here hx rfl (hb hby d3_20) rfl rfl ?_
      show Steps p.tables e below (T11.setTop (mkF m 21 #[.val (.ref a1)] [(.ref a1)])) _
      refine XS.iconst X11.here hx rfl (hb hby d3_21) ?_
      show Steps p.tables e below (T11.setTop (mkF m 22 #[.val (.ref a1)] [(.int (0 : Int32)), (.ref a1)])) _
      exact k)
  obtain ⟨T14, h14, X14, e14, W14, st14⟩ := putF X11 hx hZ hown (host := "") (Or.inl (hw _ (List.mem_of_getElem? (i := 20) rfl))) Via.refl rfl F3 E3 (Or.inl (hw _ (List.mem_of_getElem? (i := 21) rfl))) (hw _ (List.mem_of_getElem? (i := 12) rfl)) (ty := .boolean) (by decide) rfl rfl (g := (mkF m 22 #[.val (.ref a1)] [(.int (0 : Int32)), (.ref a1)])) rfl rfl (hb hby d3_22)
  have N14 := Fr.snoc X14 N11 g_a1
  have go15 : ∀ t, Steps p.tables e below (T14.setTop (mkF m 25 #[.val (.ref a1)] [])) t → G t := fun t k => go13 t (st14 _ k)
  have K5 : Keep h0 h14 [a1] := K4.wr W14 (Or.inl (List.mem_of_getElem? (i := 0) rfl))
  obtain ⟨fs, hr, hrun, hended, hW, hsame⟩ := X14.leave (v := none) (fun _ => rfl)
  refine ⟨_, _, fin _ (go15 _ ?_), hrun, hended, _, _, rfl, ?_, ⟨_, rfl⟩, hW, hsame.mono (by decide) (by decide)⟩
  · exact X14.returnOut hx Bd.returns (hb hby d3_25) hr
  · show Q3 Z a1 h0 n0 _ T14.heap _
    rw [e14]
    exact ⟨rfl, N14, K5⟩
theorem d1_0 : decode prog_38_method_1_code 0 = .ok (.aload_n 0, 1) := by decide +kernel
theorem d1_1 : decode prog_38_method_1_code 1 = .ok (.invokespecial 1, 3) := by decide +kernel
theorem d1_4 : decode prog_38_method_1_code 4 = .ok (.aload_n 0, 1) := by decide +kernel
theorem d1_5 : decode prog_38_method_1_code 5 = .ok (.new 7, 3) := by decide +kernel
theorem d1_8 : decode prog_38_method_1_code 8 = .ok (.dup, 1) := by decide +kernel
theorem d1_9 : decode prog_38_method_1_code 9 = .ok (.invokespecial 9, 3) := by decide +kernel
theorem d1_12 : decode prog_38_method_1_code 12 = .ok (.putfield 10, 3) := by decide +kernel
theorem d1_15 : decode prog_38_method_1_code 15 = .ok (.aload_n 0, 1) := by decide +kernel
theorem d1_16 : decode prog_38_method_1_code 16 = .ok (.iload_n 1, 1) := by decide +kernel
theorem d1_17 : decode prog_38_method_1_code 17 = .ok (.putfield 16, 3) := by decide +kernel
theorem d1_20 : decode prog_38_method_1_code 20 = .ok (.aload_n 0, 1) := by decide +kernel
theorem d1_21 : decode prog_38_method_1_code 21 = .ok (.iload_n 1, 1) := by decide +kernel
theorem d1_22 : decode prog_38_method_1_code 22 = .ok (.i2l, 1) := by decide +kernel
theorem d1_23 : decode prog_38_method_1_code 23 = .ok (.ldc2_w 20, 3) := by decide +kernel
theorem d1_26 : decode prog_38_method_1_code 26 = .ok (.iload_n 2, 1) := by decide +kernel
theorem d1_27 : decode prog_38_method_1_code 27 = .ok (.i2l, 1) := by decide +kernel
theorem d1_28 : decode prog_38_method_1_code 28 = .ok (.lmul, 1) := by decide +kernel
theorem d1_29 : decode prog_38_method_1_code 29 = .ok (.lsub, 1) := by decide +kernel
theorem d1_30 : decode prog_38_method_1_code 30 = .ok (.putfield 22, 3) := by decide +kernel
theorem d1_33 : decode prog_38_method_1_code 33 = .ok (.aload_n 0, 1) := by decide +kernel
theorem d1_34 : decode prog_38_method_1_code 34 = .ok (.iload_n 1, 1) := by decide +kernel
theorem d1_35 : decode prog_38_method_1_code 35 = .ok (.i2l, 1) := by decide +kernel
theorem d1_36 : decode prog_38_method_1_code 36 = .ok (.iload_n 2, 1) := by decide +kernel
theorem d1_37 : decode prog_38_method_1_code 37 = .ok (.i2l, 1) := by decide +kernel
theorem d1_38 : decode prog_38_method_1_code 38 = .ok (.lsub, 1) := by decide +kernel
theorem d1_39 : decode prog_38_method_1_code 39 = .ok (.putfield 26, 3) := by decide +kernel
theorem d1_42 : decode prog_38_method_1_code 42 = .ok (.aload_n 0, 1) := by decide +kernel
theorem d1_43 : decode prog_38_method_1_code 43 = .ok (.iload_n 1, 1) := by decide +kernel
theorem d1_44 : decode prog_38_method_1_code 44 = .ok (.newarray .boolean, 2) := by decide +kernel
theorem d1_46 : decode prog_38_method_1_code 46 = .ok (.putfield 29, 3) := by decide +kernel
theorem d1_49 : decode prog_38_method_1_code 49 = .ok (.aload_n 0, 1) := by decide +kernel
theorem d1_50 : decode prog_38_method_1_code 50 = .ok (.iload_n 1, 1) := by decide +kernel
theorem d1_51 : decode prog_38_method_1_code 51 = .ok (.newarray .boolean, 2) := by decide +kernel
theorem d1_53 : decode prog_38_method_1_code 53 = .ok (.putfield 33, 3) := by decide +kernel
theorem d1_56 : decode prog_38_method_1_code 56 = .ok (.aload_n 0, 1) := by decide +kernel
theorem d1_57 : decode prog_38_method_1_code 57 = .ok (.iload_n 1, 1) := by decide +kernel
theorem d1_58 : decode prog_38_method_1_code 58 = .ok (.newarray .boolean, 2) := by decide +kernel
theorem d1_60 : decode prog_38_method_1_code 60 = .ok (.putfield 36, 3) := by decide +kernel
theorem d1_63 : decode prog_38_method_1_code 63 = .ok (.aload_n 0, 1) := by decide +kernel
theorem d1_64 : decode prog_38_method_1_code 64 = .ok (.iload_n 1, 1) := by decide +kernel
theorem d1_65 : decode prog_38_method_1_code 65 = .ok (.newarray .int, 2) := by decide +kernel
theorem d1_67 : decode prog_38_method_1_code 67 = .ok (.putfield 39, 3) := by decide +kernel
theorem d1_70 : decode prog_38_method_1_code 70 = .ok (.return_, 1) := by decide +kernel
theorem pn_1 : plainName "com/example/halfmesh/halfmesh/CompleteRelay" = true := by first | (simp [plainName, overriddenIn]; done) | decide +kernel
theorem pd_v : parseMethodDescriptor "()V" = some ⟨[], none⟩ := by decide +kernel
theorem ef_1 (m : MethodId) (a1 : Addr) (p2 : Int32) (p3 : Int32) : entryFrame m #[(.ref a1), (.int p2), (.int p3)] 3 = mkF m 0 #[.val (.ref a1), .val (.int p2), .val (.int p3)] [] := by first | (simp [entryFrame, mkF, argsToLocals, Value.category]; done) | rfl
def Q1 (Z : State) (a1 : Addr) (p2 : Int32) (p3 : Int32) (n : Nat) (h0 : Heap) (n0 : Nat) (v : Option Value) (h : Heap) (L : List Loc) : Prop := v = none ∧ Fr n0 L ∧ ∃ (ae ar av aq : Addr), own_heap Z h n0 a1 ae ar av aq n ((p2.toInt64) - ((2 : Int64) * (p3.toInt64))) ((p2.toInt64) - (p3.toInt64)) (fun _ => false) (fun _ => false) (fun _ => false)
set_option maxRecDepth 65536 in
set_option maxHeartbeats 40000000 in
theorem rm1 (l : Launch) (Z : State) (a0 : Array Value) (hw : ∀ d ∈ tables_1, d.before a0 Z = true) (ws : List Jvm.Cond) (a1 : Addr) (p2 : Int32) (p3 : Int32) (n : Nat) (h0 : Heap) (n0 : Nat) (Z0 : n0 ≤ h0.size) (E_a1 : Exa Z h0 a1 "com/example/halfmesh/halfmesh/CompleteRelay") (F_heard : Fld Z h0 a1 "com/example/halfmesh/halfmesh/CompleteRelay" "heard" "Ljava/util/BitSet;" .null) (F_nodes : Fld Z h0 a1 "com/example/halfmesh/halfmesh/CompleteRelay" "nodes" "I" (.int (0 : Int32))) (F_excite : Fld Z h0 a1 "com/example/halfmesh/halfmesh/CompleteRelay" "excite" "J" (.long (0 : Int64))) (F_accept : Fld Z h0 a1 "com/example/halfmesh/halfmesh/CompleteRelay" "accept" "J" (.long (0 : Int64))) (F_excited : Fld Z h0 a1 "com/example/halfmesh/halfmesh/CompleteRelay" "excited" "[Z" .null) (F_relayed : Fld Z h0 a1 "com/example/halfmesh/halfmesh/CompleteRelay" "relayed" "[Z" .null) (F_accepted : Fld Z h0 a1 "com/example/halfmesh/halfmesh/CompleteRelay" "accepted" "[Z" .null) (F_heardFrom : Fld Z h0 a1 "com/example/halfmesh/halfmesh/CompleteRelay" "heardFrom" "[I" .null) (g_a1 : n0 ≤ a1) (hn : p2 = Int32.ofNat n) (hn5 : n ≤ 5) :
    MetFree l (⟨"com/example/halfmesh/halfmesh/CompleteRelay", "<init>", "(II)V"⟩ : MethodName) (head1 (Jvm.Cond.code (⟨"com/example/halfmesh/halfmesh/CompleteRelay", "<init>", "(II)V"⟩ : MethodName) prog_38_method_1_code 3 none :: ws) ({ frames := 3, cells := 6, slots := 24, locals := 40 } : Room)) (fun a U => a = #[(.ref a1), (.int p2), (.int p3)] ∧ Z.Warmed39 U.vm ∧ U.heap = h0) (fun _ _ _ _ _ => True) (fun _ U o U' => ∃ v L, o = .returned v ∧ Q1 Z a1 p2 p3 n h0 n0 v U'.heap L ∧ FrameEnd U o U' L ({ frames := 3, cells := 6, slots := 24, locals := 40 } : Room).cells ({ frames := 3, cells := 6, slots := 24, locals := 40 } : Room).slots) := by
  refine MetFree.of_bodySF (plainFor_of_name pn_1) hisR ?_
  intro p e s m args below meth c s₁ Bd hml0 hP hK
  obtain ⟨rfl, hZ, hh⟩ := hP
  have hx := Bd.exec
  have hby := Bd.bytes
  have hml : c.maxLocals = 3 := hml0
  have hown : s.vm.findClass "com/example/halfmesh/halfmesh/CompleteRelay" = some m.cls := findClass_of_methodNamed Bd.named
  have hnm := (name_of_methodNamed Bd.named Bd.method).1
  have X0 : Stand p l e ({ frames := 3, cells := 6, slots := 24, locals := 40 } : Room) s m #[(.ref a1), (.int p2), (.int p3)] below meth c s₁ [] 0 0 := Stand.of_body Bd
  have e0 : s₁.heap = h0 := by rw [← hh, Bd.state]; rfl
  have N0 := Fr.nil n0
  have pre0 : ∀ t, Steps p.tables e below (s₁.setTop (mkF m 0 #[.val (.ref a1), .val (.int p2), .val (.int p3)] [])) t → Steps p.tables e below (s₁.setTop (entryFrame m #[(.ref a1), (.int p2), (.int p3)] 3)) t := fun t k => castTop (ef_1 m a1 p2 p3) k
  obtain ⟨G, hG⟩ : ∃ G : State → Prop, G = fun t => Steps p.tables e below (s₁.setTop (entryFrame m #[(.ref a1), (.int p2), (.int p3)] 3)) t := ⟨_, rfl⟩
  have fin : ∀ t, G t → Steps p.tables e below (s₁.setTop (entryFrame m #[(.ref a1), (.int p2), (.int p3)] 3)) t := by rw [hG]; exact fun _ k => k
  have go0 : ∀ t, Steps p.tables e below (s₁.setTop (mkF m 0 #[.val (.ref a1), .val (.int p2), .val (.int p3)] [])) t → G t := by rw [hG]; exact pre0
  have hnv : (Int32.ofNat n).toInt = n := own_ofNat (by omega)
  have go1 : ∀ t, Steps p.tables e below (s₁.setTop (mkF m 1 #[.val (.ref a1), .val (.int p2), .val (.int p3)] [(.ref a1)])) t → G t := fun t k => go0 t (by
      show Steps p.tables e below (s₁.setTop (mkF m 0 #[.val (.ref a1), .val (.int p2), .val (.int p3)] [])) _
      refine XS.aloadN X0.here hx rfl (hb hby d1_0) rfl rfl ?_
      show Steps p.tables e below (s₁.setTop (mkF m 1 #[.val (.ref a1), .val (.int p2), .val (.int p3)] [(.ref a1)])) _
      exact k)
  obtain ⟨T2, X2, e2, st2⟩ := initO X0 hx hZ hown (hw _ (List.mem_of_getElem? (i := 8) rfl)) (hw _ (List.mem_of_getElem? (i := 9) rfl)) (hw _ (List.mem_of_getElem? (i := 10) rfl)) e0 (g := (mkF m 1 #[.val (.ref a1), .val (.int p2), .val (.int p3)] [(.ref a1)])) rfl (by rw [hml]; rfl) rfl (hb hby d1_1) (by decide) (W := 0) (by show 2 * 0 + _ ≤ _; exact Nat.le_of_eq rfl) (by decide)
  have go3 : ∀ t, Steps p.tables e below (T2.setTop (mkF m 4 #[.val (.ref a1), .val (.int p2), .val (.int p3)] [])) t → G t := fun t k => go1 t (st2 _ k)
  have go4 : ∀ t, Steps p.tables e below (T2.setTop (mkF m 5 #[.val (.ref a1), .val (.int p2), .val (.int p3)] [(.ref a1)])) t → G t := fun t k => go3 t (by
      show Steps p.tables e below (T2.setTop (mkF m 4 #[.val (.ref a1), .val (.int p2), .val (.int p3)] [])) _
      refine XS.aloadN X2.here hx rfl (hb hby d1_4) rfl rfl ?_
      show Steps p.tables e below (T2.setTop (mkF m 5 #[.val (.ref a1), .val (.int p2), .val (.int p3)] [(.ref a1)])) _
      exact k)
  obtain ⟨T5, h5, X5, e5, E5, A5, D5, -, st5⟩ := newO X2 hx hZ hown (hw _ (List.mem_of_getElem? (i := 11) rfl)) (hw _ (List.mem_of_getElem? (i := 12) rfl)) (hw _ (List.mem_of_getElem? (i := 13) rfl)) e2 (g := (mkF m 5 #[.val (.ref a1), .val (.int p2), .val (.int p3)] [(.ref a1)])) rfl (hb hby d1_5) (by decide) (by decide)
  obtain ⟨b5, g5⟩ : ∃ z, z = h0.size := ⟨_, rfl⟩
  rw [← g5] at A5 D5 st5
  have F5_wordsInUse : Fld Z h5 b5 "java/util/BitSet" "wordsInUse" "I" (.int (0 : Int32)) := D5 (Or.inl (hw _ (List.mem_of_getElem? (i := 19) rfl))) (ty := .int) (by decide)
  have F5_sizeIsSticky : Fld Z h5 b5 "java/util/BitSet" "sizeIsSticky" "Z" (.int (0 : Int32)) := D5 (Or.inl (hw _ (List.mem_of_getElem? (i := 21) rfl))) (ty := .boolean) (by decide)
  have F5_words : Fld Z h5 b5 "java/util/BitSet" "words" "[J" .null := D5 (Or.inl (hw _ (List.mem_of_getElem? (i := 32) rfl))) (ty := (.array .long)) (by decide)
  have go6 : ∀ t, Steps p.tables e below (T5.setTop (mkF m 8 #[.val (.ref a1), .val (.int p2), .val (.int p3)] [(.ref b5), (.ref a1)])) t → G t := fun t k => go4 t (st5 _ k)
  have lb : a1 < b5 := Nat.lt_of_lt_of_le E_a1.lt (Nat.le_of_eq g5.symm)
  have gb : n0 ≤ b5 := Nat.le_trans g_a1 (Nat.le_of_lt lb)
  have Zb : n0 ≤ h5.size := Nat.le_trans Z0 E5.1
  have E_5 : Exa Z h5 a1 "com/example/halfmesh/halfmesh/CompleteRelay" := E_a1.ext E5
  have heard_5 : Fld Z h5 a1 "com/example/halfmesh/halfmesh/CompleteRelay" "heard" "Ljava/util/BitSet;" .null := F_heard.ext E5
  have nodes_5 : Fld Z h5 a1 "com/example/halfmesh/halfmesh/CompleteRelay" "nodes" "I" (.int (0 : Int32)) := F_nodes.ext E5
  have excite_5 : Fld Z h5 a1 "com/example/halfmesh/halfmesh/CompleteRelay" "excite" "J" (.long (0 : Int64)) := F_excite.ext E5
  have accept_5 : Fld Z h5 a1 "com/example/halfmesh/halfmesh/CompleteRelay" "accept" "J" (.long (0 : Int64)) := F_accept.ext E5
  have excited_5 : Fld Z h5 a1 "com/example/halfmesh/halfmesh/CompleteRelay" "excited" "[Z" .null := F_excited.ext E5
  have relayed_5 : Fld Z h5 a1 "com/example/halfmesh/halfmesh/CompleteRelay" "relayed" "[Z" .null := F_relayed.ext E5
  have accepted_5 : Fld Z h5 a1 "com/example/halfmesh/halfmesh/CompleteRelay" "accepted" "[Z" .null := F_accepted.ext E5
  have heardFrom_5 : Fld Z h5 a1 "com/example/halfmesh/halfmesh/CompleteRelay" "heardFrom" "[I" .null := F_heardFrom.ext E5
  have go7 : ∀ t, Steps p.tables e below (T5.setTop (mkF m 9 #[.val (.ref a1), .val (.int p2), .val (.int p3)] [(.ref b5), (.ref b5), (.ref a1)])) t → G t := fun t k => go6 t (by
      show Steps p.tables e below (T5.setTop (mkF m 8 #[.val (.ref a1), .val (.int p2), .val (.int p3)] [(.ref b5), (.ref a1)])) _
      refine XS.dup X5.here hx rfl (hb hby d1_8) rfl rfl ?_
      show Steps p.tables e below (T5.setTop (mkF m 9 #[.val (.ref a1), .val (.int p2), .val (.int p3)] [(.ref b5), (.ref b5), (.ref a1)])) _
      exact k)
  obtain ⟨_, _, ⟨T8, L8, k8, n8⟩, -, X8, ⟨Lc8, hQ8, l8, y8, z8⟩, st8⟩ := X5.specialBack hx (y := (⟨"java/util/BitSet", "<init>", "()V"⟩ : MethodName)) rfl hown (mvT hZ (hw _ (List.mem_of_getElem? (i := 14) rfl))) (mvT hZ (hw _ (List.mem_of_getElem? (i := 15) rfl))) (mvT hZ (hw _ (List.mem_of_getElem? (i := 16) rfl))) (by decide) (backOf (W := 2) (rm3 l Z a0 hw [] b5 h5 n0 Zb A5 F5_wordsInUse F5_sizeIsSticky F5_words gb) hZ (hw _ (List.mem_of_getElem? (i := 16) rfl)) (hw _ (List.mem_of_getElem? (i := 13) rfl)) (by decide) (by decide)) (g := (mkF m 9 #[.val (.ref a1), .val (.int p2), .val (.int p3)] [(.ref b5), (.ref b5), (.ref a1)])) rfl (by rw [hml]; rfl) (Steps.refl _) (a := b5) (argsL := []) (rest := [(.ref b5), (.ref a1)]) (lenOf pd_v rfl) rfl (by show 2 * 0 + _ ≤ _; exact Nat.le_of_eq rfl) (hb hby d1_9) (fun _ _ => ⟨rfl, e5, (by decide : 1 + 1 ≤ _), (by decide : 3 + 1 ≤ _)⟩)
  dsimp only [Pt.U, Pt.locs, Pt.cells, Pt.slots] at X8 l8 y8 z8 st8 hQ8
  subst l8 y8 z8
  obtain ⟨rfl, N8q, Kb⟩ := hQ8
  have N8 := Fr.app N0 N8q
  have go9 : ∀ t, Steps p.tables e below (T8.setTop (mkF m 12 #[.val (.ref a1), .val (.int p2), .val (.int p3)] [(.ref b5), (.ref a1)])) t → G t := fun t k => go7 t (st8.trans k)
  have E_8 : Exa Z T8.heap a1 "com/example/halfmesh/halfmesh/CompleteRelay" := E_5.keep Kb
  have heard_8 : Fld Z T8.heap a1 "com/example/halfmesh/halfmesh/CompleteRelay" "heard" "Ljava/util/BitSet;" .null := heard_5.keep Kb (ninS (Nat.ne_of_lt lb) nin0)
  have nodes_8 : Fld Z T8.heap a1 "com/example/halfmesh/halfmesh/CompleteRelay" "nodes" "I" (.int (0 : Int32)) := nodes_5.keep Kb (ninS (Nat.ne_of_lt lb) nin0)
  have excite_8 : Fld Z T8.heap a1 "com/example/halfmesh/halfmesh/CompleteRelay" "excite" "J" (.long (0 : Int64)) := excite_5.keep Kb (ninS (Nat.ne_of_lt lb) nin0)
  have accept_8 : Fld Z T8.heap a1 "com/example/halfmesh/halfmesh/CompleteRelay" "accept" "J" (.long (0 : Int64)) := accept_5.keep Kb (ninS (Nat.ne_of_lt lb) nin0)
  have excited_8 : Fld Z T8.heap a1 "com/example/halfmesh/halfmesh/CompleteRelay" "excited" "[Z" .null := excited_5.keep Kb (ninS (Nat.ne_of_lt lb) nin0)
  have relayed_8 : Fld Z T8.heap a1 "com/example/halfmesh/halfmesh/CompleteRelay" "relayed" "[Z" .null := relayed_5.keep Kb (ninS (Nat.ne_of_lt lb) nin0)
  have accepted_8 : Fld Z T8.heap a1 "com/example/halfmesh/halfmesh/CompleteRelay" "accepted" "[Z" .null := accepted_5.keep Kb (ninS (Nat.ne_of_lt lb) nin0)
  have heardFrom_8 : Fld Z T8.heap a1 "com/example/halfmesh/halfmesh/CompleteRelay" "heardFrom" "[I" .null := heardFrom_5.keep Kb (ninS (Nat.ne_of_lt lb) nin0)
  obtain ⟨T10, h10, X10, e10, W10, st10⟩ := putF X8 hx hZ hown (host := "") (Or.inl (hw _ (List.mem_of_getElem? (i := 33) rfl))) Via.refl rfl heard_8 E_8 (Or.inr ⟨(hw _ (List.mem_of_getElem? (i := 34) rfl)), rfl, hnm⟩) (hw _ (List.mem_of_getElem? (i := 3) rfl)) (ty := (.object "java/util/BitSet")) (by decide) rfl rfl (g := (mkF m 12 #[.val (.ref a1), .val (.int p2), .val (.int p3)] [(.ref b5), (.ref a1)])) rfl rfl (hb hby d1_12)
  have N10 := Fr.snoc X10 N8 g_a1
  have go11 : ∀ t, Steps p.tables e below (T10.setTop (mkF m 15 #[.val (.ref a1), .val (.int p2), .val (.int p3)] [])) t → G t := fun t k => go9 t (st10 _ k)
  have E_10 : Exa Z h10 a1 "com/example/halfmesh/halfmesh/CompleteRelay" := E_8.wr W10
  have heard_10 : Fld Z h10 a1 "com/example/halfmesh/halfmesh/CompleteRelay" "heard" "Ljava/util/BitSet;" (.ref b5) := heard_8.same W10
  have nodes_10 : Fld Z h10 a1 "com/example/halfmesh/halfmesh/CompleteRelay" "nodes" "I" (.int (0 : Int32)) := nodes_8.other W10 (Or.inr (slot_ne (Or.inr (hw _ (List.mem_of_getElem? (i := 36) rfl))) (Or.inr (hw _ (List.mem_of_getElem? (i := 34) rfl))) (by decide) (t := .int) (t' := (.object "java/util/BitSet")) (by decide) (by decide)))
  have excite_10 : Fld Z h10 a1 "com/example/halfmesh/halfmesh/CompleteRelay" "excite" "J" (.long (0 : Int64)) := excite_8.other W10 (Or.inr (slot_ne (Or.inr (hw _ (List.mem_of_getElem? (i := 39) rfl))) (Or.inr (hw _ (List.mem_of_getElem? (i := 34) rfl))) (by decide) (t := .long) (t' := (.object "java/util/BitSet")) (by decide) (by decide)))
  have accept_10 : Fld Z h10 a1 "com/example/halfmesh/halfmesh/CompleteRelay" "accept" "J" (.long (0 : Int64)) := accept_8.other W10 (Or.inr (slot_ne (Or.inr (hw _ (List.mem_of_getElem? (i := 41) rfl))) (Or.inr (hw _ (List.mem_of_getElem? (i := 34) rfl))) (by decide) (t := .long) (t' := (.object "java/util/BitSet")) (by decide) (by decide)))
  have excited_10 : Fld Z h10 a1 "com/example/halfmesh/halfmesh/CompleteRelay" "excited" "[Z" .null := excited_8.other W10 (Or.inr (slot_ne (Or.inr (hw _ (List.mem_of_getElem? (i := 44) rfl))) (Or.inr (hw _ (List.mem_of_getElem? (i := 34) rfl))) (by decide) (t := (.array .boolean)) (t' := (.object "java/util/BitSet")) (by decide) (by decide)))
  have relayed_10 : Fld Z h10 a1 "com/example/halfmesh/halfmesh/CompleteRelay" "relayed" "[Z" .null := relayed_8.other W10 (Or.inr (slot_ne (Or.inr (hw _ (List.mem_of_getElem? (i := 46) rfl))) (Or.inr (hw _ (List.mem_of_getElem? (i := 34) rfl))) (by decide) (t := (.array .boolean)) (t' := (.object "java/util/BitSet")) (by decide) (by decide)))
  have accepted_10 : Fld Z h10 a1 "com/example/halfmesh/halfmesh/CompleteRelay" "accepted" "[Z" .null := accepted_8.other W10 (Or.inr (slot_ne (Or.inr (hw _ (List.mem_of_getElem? (i := 48) rfl))) (Or.inr (hw _ (List.mem_of_getElem? (i := 34) rfl))) (by decide) (t := (.array .boolean)) (t' := (.object "java/util/BitSet")) (by decide) (by decide)))
  have heardFrom_10 : Fld Z h10 a1 "com/example/halfmesh/halfmesh/CompleteRelay" "heardFrom" "[I" .null := heardFrom_8.other W10 (Or.inr (slot_ne (Or.inr (hw _ (List.mem_of_getElem? (i := 51) rfl))) (Or.inr (hw _ (List.mem_of_getElem? (i := 34) rfl))) (by decide) (t := (.array .int)) (t' := (.object "java/util/BitSet")) (by decide) (by decide)))
  have go12 : ∀ t, Steps p.tables e below (T10.setTop (mkF m 17 #[.val (.ref a1), .val (.int p2), .val (.int p3)] [(.int p2), (.ref a1)])) t → G t := fun t k => go11 t (by
      show Steps p.tables e below (T10.setTop (mkF m 15 #[.val (.ref a1), .val (.int p2), .val (.int p3)] [])) _
      refine XS.aloadN X10.here hx rfl (hb hby d1_15) rfl rfl ?_
      show Steps p.tables e below (T10.setTop (mkF m 16 #[.val (.ref a1), .val (.int p2), .val (.int p3)] [(.ref a1)])) _
      refine XS.iloadN X10.here hx rfl (hb hby d1_16) rfl ?_
      show Steps p.tables e below (T10.setTop (mkF m 17 #[.val (.ref a1), .val (.int p2), .val (.int p3)] [(.int p2), (.ref a1)])) _
      exact k)
  obtain ⟨T13, h13, X13, e13, W13, st13⟩ := putF X10 hx hZ hown (host := "") (Or.inl (hw _ (List.mem_of_getElem? (i := 35) rfl))) Via.refl e10 nodes_10 E_10 (Or.inr ⟨(hw _ (List.mem_of_getElem? (i := 36) rfl)), rfl, hnm⟩) (hw _ (List.mem_of_getElem? (i := 3) rfl)) (ty := .int) (by decide) rfl rfl (g := (mkF m 17 #[.val (.ref a1), .val (.int p2), .val (.int p3)] [(.int p2), (.ref a1)])) rfl rfl (hb hby d1_17)
  have N13 := Fr.snoc X13 N10 g_a1
  have go14 : ∀ t, Steps p.tables e below (T13.setTop (mkF m 20 #[.val (.ref a1), .val (.int p2), .val (.int p3)] [])) t → G t := fun t k => go12 t (st13 _ k)
  have E_13 : Exa Z h13 a1 "com/example/halfmesh/halfmesh/CompleteRelay" := E_10.wr W13
  have heard_13 : Fld Z h13 a1 "com/example/halfmesh/halfmesh/CompleteRelay" "heard" "Ljava/util/BitSet;" (.ref b5) := heard_10.other W13 (Or.inr (slot_ne (Or.inr (hw _ (List.mem_of_getElem? (i := 34) rfl))) (Or.inr (hw _ (List.mem_of_getElem? (i := 36) rfl))) (by decide) (t := (.object "java/util/BitSet")) (t' := .int) (by decide) (by decide)))
  have nodes_13 : Fld Z h13 a1 "com/example/halfmesh/halfmesh/CompleteRelay" "nodes" "I" (.int p2) := nodes_10.same W13
  have excite_13 : Fld Z h13 a1 "com/example/halfmesh/halfmesh/CompleteRelay" "excite" "J" (.long (0 : Int64)) := excite_10.other W13 (Or.inr (slot_ne (Or.inr (hw _ (List.mem_of_getElem? (i := 39) rfl))) (Or.inr (hw _ (List.mem_of_getElem? (i := 36) rfl))) (by decide) (t := .long) (t' := .int) (by decide) (by decide)))
  have accept_13 : Fld Z h13 a1 "com/example/halfmesh/halfmesh/CompleteRelay" "accept" "J" (.long (0 : Int64)) := accept_10.other W13 (Or.inr (slot_ne (Or.inr (hw _ (List.mem_of_getElem? (i := 41) rfl))) (Or.inr (hw _ (List.mem_of_getElem? (i := 36) rfl))) (by decide) (t := .long) (t' := .int) (by decide) (by decide)))
  have excited_13 : Fld Z h13 a1 "com/example/halfmesh/halfmesh/CompleteRelay" "excited" "[Z" .null := excited_10.other W13 (Or.inr (slot_ne (Or.inr (hw _ (List.mem_of_getElem? (i := 44) rfl))) (Or.inr (hw _ (List.mem_of_getElem? (i := 36) rfl))) (by decide) (t := (.array .boolean)) (t' := .int) (by decide) (by decide)))
  have relayed_13 : Fld Z h13 a1 "com/example/halfmesh/halfmesh/CompleteRelay" "relayed" "[Z" .null := relayed_10.other W13 (Or.inr (slot_ne (Or.inr (hw _ (List.mem_of_getElem? (i := 46) rfl))) (Or.inr (hw _ (List.mem_of_getElem? (i := 36) rfl))) (by decide) (t := (.array .boolean)) (t' := .int) (by decide) (by decide)))
  have accepted_13 : Fld Z h13 a1 "com/example/halfmesh/halfmesh/CompleteRelay" "accepted" "[Z" .null := accepted_10.other W13 (Or.inr (slot_ne (Or.inr (hw _ (List.mem_of_getElem? (i := 48) rfl))) (Or.inr (hw _ (List.mem_of_getElem? (i := 36) rfl))) (by decide) (t := (.array .boolean)) (t' := .int) (by decide) (by decide)))
  have heardFrom_13 : Fld Z h13 a1 "com/example/halfmesh/halfmesh/CompleteRelay" "heardFrom" "[I" .null := heardFrom_10.other W13 (Or.inr (slot_ne (Or.inr (hw _ (List.mem_of_getElem? (i := 51) rfl))) (Or.inr (hw _ (List.mem_of_getElem? (i := 36) rfl))) (by decide) (t := (.array .int)) (t' := .int) (by decide) (by decide)))
  have go15 : ∀ t, Steps p.tables e below (T13.setTop (mkF m 30 #[.val (.ref a1), .val (.int p2), .val (.int p3)] [(.long ((p2.toInt64) - ((2 : Int64) * (p3.toInt64)))), (.ref a1)])) t → G t := fun t k => go14 t (by
      show Steps p.tables e below (T13.setTop (mkF m 20 #[.val (.ref a1), .val (.int p2), .val (.int p3)] [])) _
      refine XS.aloadN X13.here hx rfl (hb hby d1_20) rfl rfl ?_
      show Steps p.tables e below (T13.setTop (mkF m 21 #[.val (.ref a1), .val (.int p2), .val (.int p3)] [(.ref a1)])) _
      refine XS.iloadN X13.here hx rfl (hb hby d1_21) rfl ?_
      show Steps p.tables e below (T13.setTop (mkF m 22 #[.val (.ref a1), .val (.int p2), .val (.int p3)] [(.int p2), (.ref a1)])) _
      refine XS.i2l X13.here hx rfl (hb hby d1_22) rfl ?_
      show Steps p.tables e below (T13.setTop (mkF m 23 #[.val (.ref a1), .val (.int p2), .val (.int p3)] [(.long (p2.toInt64)), (.ref a1)])) _
      refine X13.ldc2Long hx hown (mvT hZ (hw _ (List.mem_of_getElem? (i := 37) rfl))) (g := (mkF m 23 #[.val (.ref a1), .val (.int p2), .val (.int p3)] [(.long (p2.toInt64)), (.ref a1)])) rfl (hb hby d1_23) _ ?_
      show Steps p.tables e below (T13.setTop (mkF m 26 #[.val (.ref a1), .val (.int p2), .val (.int p3)] [(.long (2 : Int64)), (.long (p2.toInt64)), (.ref a1)])) _
      refine XS.iloadN X13.here hx rfl (hb hby d1_26) rfl ?_
      show Steps p.tables e below (T13.setTop (mkF m 27 #[.val (.ref a1), .val (.int p2), .val (.int p3)] [(.int p3), (.long (2 : Int64)), (.long (p2.toInt64)), (.ref a1)])) _
      refine XS.i2l X13.here hx rfl (hb hby d1_27) rfl ?_
      show Steps p.tables e below (T13.setTop (mkF m 28 #[.val (.ref a1), .val (.int p2), .val (.int p3)] [(.long (p3.toInt64)), (.long (2 : Int64)), (.long (p2.toInt64)), (.ref a1)])) _
      refine XS.lmul X13.here hx rfl (hb hby d1_28) rfl ?_
      show Steps p.tables e below (T13.setTop (mkF m 29 #[.val (.ref a1), .val (.int p2), .val (.int p3)] [(.long ((2 : Int64) * (p3.toInt64))), (.long (p2.toInt64)), (.ref a1)])) _
      refine XS.lsub X13.here hx rfl (hb hby d1_29) rfl ?_
      show Steps p.tables e below (T13.setTop (mkF m 30 #[.val (.ref a1), .val (.int p2), .val (.int p3)] [(.long ((p2.toInt64) - ((2 : Int64) * (p3.toInt64)))), (.ref a1)])) _
      exact k)
  obtain ⟨T16, h16, X16, e16, W16, st16⟩ := putF X13 hx hZ hown (host := "") (Or.inl (hw _ (List.mem_of_getElem? (i := 38) rfl))) Via.refl e13 excite_13 E_13 (Or.inr ⟨(hw _ (List.mem_of_getElem? (i := 39) rfl)), rfl, hnm⟩) (hw _ (List.mem_of_getElem? (i := 3) rfl)) (ty := .long) (by decide) rfl rfl (g := (mkF m 30 #[.val (.ref a1), .val (.int p2), .val (.int p3)] [(.long ((p2.toInt64) - ((2 : Int64) * (p3.toInt64)))), (.ref a1)])) rfl rfl (hb hby d1_30)
  have N16 := Fr.snoc X16 N13 g_a1
  have go17 : ∀ t, Steps p.tables e below (T16.setTop (mkF m 33 #[.val (.ref a1), .val (.int p2), .val (.int p3)] [])) t → G t := fun t k => go15 t (st16 _ k)
  have E_16 : Exa Z h16 a1 "com/example/halfmesh/halfmesh/CompleteRelay" := E_13.wr W16
  have heard_16 : Fld Z h16 a1 "com/example/halfmesh/halfmesh/CompleteRelay" "heard" "Ljava/util/BitSet;" (.ref b5) := heard_13.other W16 (Or.inr (slot_ne (Or.inr (hw _ (List.mem_of_getElem? (i := 34) rfl))) (Or.inr (hw _ (List.mem_of_getElem? (i := 39) rfl))) (by decide) (t := (.object "java/util/BitSet")) (t' := .long) (by decide) (by decide)))
  have nodes_16 : Fld Z h16 a1 "com/example/halfmesh/halfmesh/CompleteRelay" "nodes" "I" (.int p2) := nodes_13.other W16 (Or.inr (slot_ne (Or.inr (hw _ (List.mem_of_getElem? (i := 36) rfl))) (Or.inr (hw _ (List.mem_of_getElem? (i := 39) rfl))) (by decide) (t := .int) (t' := .long) (by decide) (by decide)))
  have excite_16 : Fld Z h16 a1 "com/example/halfmesh/halfmesh/CompleteRelay" "excite" "J" (.long ((p2.toInt64) - ((2 : Int64) * (p3.toInt64)))) := excite_13.same W16
  have accept_16 : Fld Z h16 a1 "com/example/halfmesh/halfmesh/CompleteRelay" "accept" "J" (.long (0 : Int64)) := accept_13.other W16 (Or.inr (slot_ne (Or.inr (hw _ (List.mem_of_getElem? (i := 41) rfl))) (Or.inr (hw _ (List.mem_of_getElem? (i := 39) rfl))) (by decide) (t := .long) (t' := .long) (by decide) (by decide)))
  have excited_16 : Fld Z h16 a1 "com/example/halfmesh/halfmesh/CompleteRelay" "excited" "[Z" .null := excited_13.other W16 (Or.inr (slot_ne (Or.inr (hw _ (List.mem_of_getElem? (i := 44) rfl))) (Or.inr (hw _ (List.mem_of_getElem? (i := 39) rfl))) (by decide) (t := (.array .boolean)) (t' := .long) (by decide) (by decide)))
  have relayed_16 : Fld Z h16 a1 "com/example/halfmesh/halfmesh/CompleteRelay" "relayed" "[Z" .null := relayed_13.other W16 (Or.inr (slot_ne (Or.inr (hw _ (List.mem_of_getElem? (i := 46) rfl))) (Or.inr (hw _ (List.mem_of_getElem? (i := 39) rfl))) (by decide) (t := (.array .boolean)) (t' := .long) (by decide) (by decide)))
  have accepted_16 : Fld Z h16 a1 "com/example/halfmesh/halfmesh/CompleteRelay" "accepted" "[Z" .null := accepted_13.other W16 (Or.inr (slot_ne (Or.inr (hw _ (List.mem_of_getElem? (i := 48) rfl))) (Or.inr (hw _ (List.mem_of_getElem? (i := 39) rfl))) (by decide) (t := (.array .boolean)) (t' := .long) (by decide) (by decide)))
  have heardFrom_16 : Fld Z h16 a1 "com/example/halfmesh/halfmesh/CompleteRelay" "heardFrom" "[I" .null := heardFrom_13.other W16 (Or.inr (slot_ne (Or.inr (hw _ (List.mem_of_getElem? (i := 51) rfl))) (Or.inr (hw _ (List.mem_of_getElem? (i := 39) rfl))) (by decide) (t := (.array .int)) (t' := .long) (by decide) (by decide)))
  have go18 : ∀ t, Steps p.tables e below (T16.setTop (mkF m 39 #[.val (.ref a1), .val (.int p2), .val (.int p3)] [(.long ((p2.toInt64) - (p3.toInt64))), (.ref a1)])) t → G t := fun t k => go17 t (by
      show Steps p.tables e below (T16.setTop (mkF m 33 #[.val (.ref a1), .val (.int p2), .val (.int p3)] [])) _
      refine XS.aloadN X16.here hx rfl (hb hby d1_33) rfl rfl ?_
      show Steps p.tables e below (T16.setTop (mkF m 34 #[.val (.ref a1), .val (.int p2), .val (.int p3)] [(.ref a1)])) _
      refine XS.iloadN X16.here hx rfl (hb hby d1_34) rfl ?_
      show Steps p.tables e below (T16.setTop (mkF m 35 #[.val (.ref a1), .val (.int p2), .val (.int p3)] [(.int p2), (.ref a1)])) _
      refine XS.i2l X16.here hx rfl (hb hby d1_35) rfl ?_
      show Steps p.tables e below (T16.setTop (mkF m 36 #[.val (.ref a1), .val (.int p2), .val (.int p3)] [(.long (p2.toInt64)), (.ref a1)])) _
      refine XS.iloadN X16.here hx rfl (hb hby d1_36) rfl ?_
      show Steps p.tables e below (T16.setTop (mkF m 37 #[.val (.ref a1), .val (.int p2), .val (.int p3)] [(.int p3), (.long (p2.toInt64)), (.ref a1)])) _
      refine XS.i2l X16.here hx rfl (hb hby d1_37) rfl ?_
      show Steps p.tables e below (T16.setTop (mkF m 38 #[.val (.ref a1), .val (.int p2), .val (.int p3)] [(.long (p3.toInt64)), (.long (p2.toInt64)), (.ref a1)])) _
      refine XS.lsub X16.here hx rfl (hb hby d1_38) rfl ?_
      show Steps p.tables e below (T16.setTop (mkF m 39 #[.val (.ref a1), .val (.int p2), .val (.int p3)] [(.long ((p2.toInt64) - (p3.toInt64))), (.ref a1)])) _
      exact k)
  obtain ⟨T19, h19, X19, e19, W19, st19⟩ := putF X16 hx hZ hown (host := "") (Or.inl (hw _ (List.mem_of_getElem? (i := 40) rfl))) Via.refl e16 accept_16 E_16 (Or.inr ⟨(hw _ (List.mem_of_getElem? (i := 41) rfl)), rfl, hnm⟩) (hw _ (List.mem_of_getElem? (i := 3) rfl)) (ty := .long) (by decide) rfl rfl (g := (mkF m 39 #[.val (.ref a1), .val (.int p2), .val (.int p3)] [(.long ((p2.toInt64) - (p3.toInt64))), (.ref a1)])) rfl rfl (hb hby d1_39)
  have N19 := Fr.snoc X19 N16 g_a1
  have go20 : ∀ t, Steps p.tables e below (T19.setTop (mkF m 42 #[.val (.ref a1), .val (.int p2), .val (.int p3)] [])) t → G t := fun t k => go18 t (st19 _ k)
  have E_19 : Exa Z h19 a1 "com/example/halfmesh/halfmesh/CompleteRelay" := E_16.wr W19
  have heard_19 : Fld Z h19 a1 "com/example/halfmesh/halfmesh/CompleteRelay" "heard" "Ljava/util/BitSet;" (.ref b5) := heard_16.other W19 (Or.inr (slot_ne (Or.inr (hw _ (List.mem_of_getElem? (i := 34) rfl))) (Or.inr (hw _ (List.mem_of_getElem? (i := 41) rfl))) (by decide) (t := (.object "java/util/BitSet")) (t' := .long) (by decide) (by decide)))
  have nodes_19 : Fld Z h19 a1 "com/example/halfmesh/halfmesh/CompleteRelay" "nodes" "I" (.int p2) := nodes_16.other W19 (Or.inr (slot_ne (Or.inr (hw _ (List.mem_of_getElem? (i := 36) rfl))) (Or.inr (hw _ (List.mem_of_getElem? (i := 41) rfl))) (by decide) (t := .int) (t' := .long) (by decide) (by decide)))
  have excite_19 : Fld Z h19 a1 "com/example/halfmesh/halfmesh/CompleteRelay" "excite" "J" (.long ((p2.toInt64) - ((2 : Int64) * (p3.toInt64)))) := excite_16.other W19 (Or.inr (slot_ne (Or.inr (hw _ (List.mem_of_getElem? (i := 39) rfl))) (Or.inr (hw _ (List.mem_of_getElem? (i := 41) rfl))) (by decide) (t := .long) (t' := .long) (by decide) (by decide)))
  have accept_19 : Fld Z h19 a1 "com/example/halfmesh/halfmesh/CompleteRelay" "accept" "J" (.long ((p2.toInt64) - (p3.toInt64))) := accept_16.same W19
  have excited_19 : Fld Z h19 a1 "com/example/halfmesh/halfmesh/CompleteRelay" "excited" "[Z" .null := excited_16.other W19 (Or.inr (slot_ne (Or.inr (hw _ (List.mem_of_getElem? (i := 44) rfl))) (Or.inr (hw _ (List.mem_of_getElem? (i := 41) rfl))) (by decide) (t := (.array .boolean)) (t' := .long) (by decide) (by decide)))
  have relayed_19 : Fld Z h19 a1 "com/example/halfmesh/halfmesh/CompleteRelay" "relayed" "[Z" .null := relayed_16.other W19 (Or.inr (slot_ne (Or.inr (hw _ (List.mem_of_getElem? (i := 46) rfl))) (Or.inr (hw _ (List.mem_of_getElem? (i := 41) rfl))) (by decide) (t := (.array .boolean)) (t' := .long) (by decide) (by decide)))
  have accepted_19 : Fld Z h19 a1 "com/example/halfmesh/halfmesh/CompleteRelay" "accepted" "[Z" .null := accepted_16.other W19 (Or.inr (slot_ne (Or.inr (hw _ (List.mem_of_getElem? (i := 48) rfl))) (Or.inr (hw _ (List.mem_of_getElem? (i := 41) rfl))) (by decide) (t := (.array .boolean)) (t' := .long) (by decide) (by decide)))
  have heardFrom_19 : Fld Z h19 a1 "com/example/halfmesh/halfmesh/CompleteRelay" "heardFrom" "[I" .null := heardFrom_16.other W19 (Or.inr (slot_ne (Or.inr (hw _ (List.mem_of_getElem? (i := 51) rfl))) (Or.inr (hw _ (List.mem_of_getElem? (i := 41) rfl))) (by decide) (t := (.array .int)) (t' := .long) (by decide) (by decide)))
  have go21 : ∀ t, Steps p.tables e below (T19.setTop (mkF m 44 #[.val (.ref a1), .val (.int p2), .val (.int p3)] [(.int p2), (.ref a1)])) t → G t := fun t k => go20 t (by
      show Steps p.tables e below (T19.setTop (mkF m 42 #[.val (.ref a1), .val (.int p2), .val (.int p3)] [])) _
      refine XS.aloadN X19.here hx rfl (hb hby d1_42) rfl rfl ?_
      show Steps p.tables e below (T19.setTop (mkF m 43 #[.val (.ref a1), .val (.int p2), .val (.int p3)] [(.ref a1)])) _
      refine XS.iloadN X19.here hx rfl (hb hby d1_43) rfl ?_
      show Steps p.tables e below (T19.setTop (mkF m 44 #[.val (.ref a1), .val (.int p2), .val (.int p3)] [(.int p2), (.ref a1)])) _
      exact k)
  obtain ⟨T22, h22, c22, X22, e22, E22, A22, st22⟩ := newP X19 hx hZ (hw _ (List.mem_of_getElem? (i := 42) rfl)) e19 (g := (mkF m 44 #[.val (.ref a1), .val (.int p2), .val (.int p3)] [(.int p2), (.ref a1)])) rfl (hb hby d1_44) rfl (by rw [hn, Int32.lt_iff_toInt_lt, hnv, show (0 : Int32).toInt = 0 from rfl]; omega) (cap := 5) (by rw [hn]; show (Int32.ofNat n).toInt.toNat ≤ 5; omega) (by decide) (by decide) (by decide)
  obtain ⟨b22, g22⟩ : ∃ z, z = h19.size := ⟨_, rfl⟩
  rw [← g22] at A22 st22
  have go23 : ∀ t, Steps p.tables e below (T22.setTop (mkF m 46 #[.val (.ref a1), .val (.int p2), .val (.int p3)] [(.ref b22), (.ref a1)])) t → G t := fun t k => go21 t (st22 _ k)
  have lt_b22 : a1 < b22 := Nat.lt_of_lt_of_le E_19.lt (Nat.le_of_eq g22.symm)
  have E_22 : Exa Z h22 a1 "com/example/halfmesh/halfmesh/CompleteRelay" := E_19.ext E22
  have heard_22 : Fld Z h22 a1 "com/example/halfmesh/halfmesh/CompleteRelay" "heard" "Ljava/util/BitSet;" (.ref b5) := heard_19.ext E22
  have nodes_22 : Fld Z h22 a1 "com/example/halfmesh/halfmesh/CompleteRelay" "nodes" "I" (.int p2) := nodes_19.ext E22
  have excite_22 : Fld Z h22 a1 "com/example/halfmesh/halfmesh/CompleteRelay" "excite" "J" (.long ((p2.toInt64) - ((2 : Int64) * (p3.toInt64)))) := excite_19.ext E22
  have accept_22 : Fld Z h22 a1 "com/example/halfmesh/halfmesh/CompleteRelay" "accept" "J" (.long ((p2.toInt64) - (p3.toInt64))) := accept_19.ext E22
  have excited_22 : Fld Z h22 a1 "com/example/halfmesh/halfmesh/CompleteRelay" "excited" "[Z" .null := excited_19.ext E22
  have relayed_22 : Fld Z h22 a1 "com/example/halfmesh/halfmesh/CompleteRelay" "relayed" "[Z" .null := relayed_19.ext E22
  have accepted_22 : Fld Z h22 a1 "com/example/halfmesh/halfmesh/CompleteRelay" "accepted" "[Z" .null := accepted_19.ext E22
  have heardFrom_22 : Fld Z h22 a1 "com/example/halfmesh/halfmesh/CompleteRelay" "heardFrom" "[I" .null := heardFrom_19.ext E22
  have A_b22_22 : own_arr Z h22 b22 .boolean n (fun _ => .int 0) := own_arr_new A22 (by rw [hn]; show (Int32.ofNat n).toInt.toNat = n; omega)
  obtain ⟨T24, h24, X24, e24, W24, st24⟩ := putF X22 hx hZ hown (host := "") (Or.inl (hw _ (List.mem_of_getElem? (i := 43) rfl))) Via.refl e22 excited_22 E_22 (Or.inr ⟨(hw _ (List.mem_of_getElem? (i := 44) rfl)), rfl, hnm⟩) (hw _ (List.mem_of_getElem? (i := 3) rfl)) (ty := (.array .boolean)) (by decide) rfl rfl (g := (mkF m 46 #[.val (.ref a1), .val (.int p2), .val (.int p3)] [(.ref b22), (.ref a1)])) rfl rfl (hb hby d1_46)
  have N24 := Fr.snoc X24 N19 g_a1
  have go25 : ∀ t, Steps p.tables e below (T24.setTop (mkF m 49 #[.val (.ref a1), .val (.int p2), .val (.int p3)] [])) t → G t := fun t k => go23 t (st24 _ k)
  have E_24 : Exa Z h24 a1 "com/example/halfmesh/halfmesh/CompleteRelay" := E_22.wr W24
  have heard_24 : Fld Z h24 a1 "com/example/halfmesh/halfmesh/CompleteRelay" "heard" "Ljava/util/BitSet;" (.ref b5) := heard_22.other W24 (Or.inr (slot_ne (Or.inr (hw _ (List.mem_of_getElem? (i := 34) rfl))) (Or.inr (hw _ (List.mem_of_getElem? (i := 44) rfl))) (by decide) (t := (.object "java/util/BitSet")) (t' := (.array .boolean)) (by decide) (by decide)))
  have nodes_24 : Fld Z h24 a1 "com/example/halfmesh/halfmesh/CompleteRelay" "nodes" "I" (.int p2) := nodes_22.other W24 (Or.inr (slot_ne (Or.inr (hw _ (List.mem_of_getElem? (i := 36) rfl))) (Or.inr (hw _ (List.mem_of_getElem? (i := 44) rfl))) (by decide) (t := .int) (t' := (.array .boolean)) (by decide) (by decide)))
  have excite_24 : Fld Z h24 a1 "com/example/halfmesh/halfmesh/CompleteRelay" "excite" "J" (.long ((p2.toInt64) - ((2 : Int64) * (p3.toInt64)))) := excite_22.other W24 (Or.inr (slot_ne (Or.inr (hw _ (List.mem_of_getElem? (i := 39) rfl))) (Or.inr (hw _ (List.mem_of_getElem? (i := 44) rfl))) (by decide) (t := .long) (t' := (.array .boolean)) (by decide) (by decide)))
  have accept_24 : Fld Z h24 a1 "com/example/halfmesh/halfmesh/CompleteRelay" "accept" "J" (.long ((p2.toInt64) - (p3.toInt64))) := accept_22.other W24 (Or.inr (slot_ne (Or.inr (hw _ (List.mem_of_getElem? (i := 41) rfl))) (Or.inr (hw _ (List.mem_of_getElem? (i := 44) rfl))) (by decide) (t := .long) (t' := (.array .boolean)) (by decide) (by decide)))
  have excited_24 : Fld Z h24 a1 "com/example/halfmesh/halfmesh/CompleteRelay" "excited" "[Z" (.ref b22) := excited_22.same W24
  have relayed_24 : Fld Z h24 a1 "com/example/halfmesh/halfmesh/CompleteRelay" "relayed" "[Z" .null := relayed_22.other W24 (Or.inr (slot_ne (Or.inr (hw _ (List.mem_of_getElem? (i := 46) rfl))) (Or.inr (hw _ (List.mem_of_getElem? (i := 44) rfl))) (by decide) (t := (.array .boolean)) (t' := (.array .boolean)) (by decide) (by decide)))
  have accepted_24 : Fld Z h24 a1 "com/example/halfmesh/halfmesh/CompleteRelay" "accepted" "[Z" .null := accepted_22.other W24 (Or.inr (slot_ne (Or.inr (hw _ (List.mem_of_getElem? (i := 48) rfl))) (Or.inr (hw _ (List.mem_of_getElem? (i := 44) rfl))) (by decide) (t := (.array .boolean)) (t' := (.array .boolean)) (by decide) (by decide)))
  have heardFrom_24 : Fld Z h24 a1 "com/example/halfmesh/halfmesh/CompleteRelay" "heardFrom" "[I" .null := heardFrom_22.other W24 (Or.inr (slot_ne (Or.inr (hw _ (List.mem_of_getElem? (i := 51) rfl))) (Or.inr (hw _ (List.mem_of_getElem? (i := 44) rfl))) (by decide) (t := (.array .int)) (t' := (.array .boolean)) (by decide) (by decide)))
  have A_b22_24 : own_arr Z h24 b22 .boolean n (fun _ => .int 0) := own_arr_other A_b22_22 W24 (Nat.ne_of_gt lt_b22)
  have go26 : ∀ t, Steps p.tables e below (T24.setTop (mkF m 51 #[.val (.ref a1), .val (.int p2), .val (.int p3)] [(.int p2), (.ref a1)])) t → G t := fun t k => go25 t (by
      show Steps p.tables e below (T24.setTop (mkF m 49 #[.val (.ref a1), .val (.int p2), .val (.int p3)] [])) _
      refine XS.aloadN X24.here hx rfl (hb hby d1_49) rfl rfl ?_
      show Steps p.tables e below (T24.setTop (mkF m 50 #[.val (.ref a1), .val (.int p2), .val (.int p3)] [(.ref a1)])) _
      refine XS.iloadN X24.here hx rfl (hb hby d1_50) rfl ?_
      show Steps p.tables e below (T24.setTop (mkF m 51 #[.val (.ref a1), .val (.int p2), .val (.int p3)] [(.int p2), (.ref a1)])) _
      exact k)
  obtain ⟨T27, h27, c27, X27, e27, E27, A27, st27⟩ := newP X24 hx hZ (hw _ (List.mem_of_getElem? (i := 42) rfl)) e24 (g := (mkF m 51 #[.val (.ref a1), .val (.int p2), .val (.int p3)] [(.int p2), (.ref a1)])) rfl (hb hby d1_51) rfl (by rw [hn, Int32.lt_iff_toInt_lt, hnv, show (0 : Int32).toInt = 0 from rfl]; omega) (cap := 5) (by rw [hn]; show (Int32.ofNat n).toInt.toNat ≤ 5; omega) (by decide) (by decide) (by decide)
  obtain ⟨b27, g27⟩ : ∃ z, z = h24.size := ⟨_, rfl⟩
  rw [← g27] at A27 st27
  have go28 : ∀ t, Steps p.tables e below (T27.setTop (mkF m 53 #[.val (.ref a1), .val (.int p2), .val (.int p3)] [(.ref b27), (.ref a1)])) t → G t := fun t k => go26 t (st27 _ k)
  have lt_b22_b27 : b22 < b27 := Nat.lt_of_lt_of_le (own_arr_lt A_b22_24) (Nat.le_of_eq g27.symm)
  have lt_b27 : a1 < b27 := Nat.lt_trans lt_b22 lt_b22_b27
  have E_27 : Exa Z h27 a1 "com/example/halfmesh/halfmesh/CompleteRelay" := E_24.ext E27
  have heard_27 : Fld Z h27 a1 "com/example/halfmesh/halfmesh/CompleteRelay" "heard" "Ljava/util/BitSet;" (.ref b5) := heard_24.ext E27
  have nodes_27 : Fld Z h27 a1 "com/example/halfmesh/halfmesh/CompleteRelay" "nodes" "I" (.int p2) := nodes_24.ext E27
  have excite_27 : Fld Z h27 a1 "com/example/halfmesh/halfmesh/CompleteRelay" "excite" "J" (.long ((p2.toInt64) - ((2 : Int64) * (p3.toInt64)))) := excite_24.ext E27
  have accept_27 : Fld Z h27 a1 "com/example/halfmesh/halfmesh/CompleteRelay" "accept" "J" (.long ((p2.toInt64) - (p3.toInt64))) := accept_24.ext E27
  have excited_27 : Fld Z h27 a1 "com/example/halfmesh/halfmesh/CompleteRelay" "excited" "[Z" (.ref b22) := excited_24.ext E27
  have relayed_27 : Fld Z h27 a1 "com/example/halfmesh/halfmesh/CompleteRelay" "relayed" "[Z" .null := relayed_24.ext E27
  have accepted_27 : Fld Z h27 a1 "com/example/halfmesh/halfmesh/CompleteRelay" "accepted" "[Z" .null := accepted_24.ext E27
  have heardFrom_27 : Fld Z h27 a1 "com/example/halfmesh/halfmesh/CompleteRelay" "heardFrom" "[I" .null := heardFrom_24.ext E27
  have A_b22_27 : own_arr Z h27 b22 .boolean n (fun _ => .int 0) := own_arr_ext A_b22_24 E27
  have A_b27_27 : own_arr Z h27 b27 .boolean n (fun _ => .int 0) := own_arr_new A27 (by rw [hn]; show (Int32.ofNat n).toInt.toNat = n; omega)
  obtain ⟨T29, h29, X29, e29, W29, st29⟩ := putF X27 hx hZ hown (host := "") (Or.inl (hw _ (List.mem_of_getElem? (i := 45) rfl))) Via.refl e27 relayed_27 E_27 (Or.inr ⟨(hw _ (List.mem_of_getElem? (i := 46) rfl)), rfl, hnm⟩) (hw _ (List.mem_of_getElem? (i := 3) rfl)) (ty := (.array .boolean)) (by decide) rfl rfl (g := (mkF m 53 #[.val (.ref a1), .val (.int p2), .val (.int p3)] [(.ref b27), (.ref a1)])) rfl rfl (hb hby d1_53)
  have N29 := Fr.snoc X29 N24 g_a1
  have go30 : ∀ t, Steps p.tables e below (T29.setTop (mkF m 56 #[.val (.ref a1), .val (.int p2), .val (.int p3)] [])) t → G t := fun t k => go28 t (st29 _ k)
  have E_29 : Exa Z h29 a1 "com/example/halfmesh/halfmesh/CompleteRelay" := E_27.wr W29
  have heard_29 : Fld Z h29 a1 "com/example/halfmesh/halfmesh/CompleteRelay" "heard" "Ljava/util/BitSet;" (.ref b5) := heard_27.other W29 (Or.inr (slot_ne (Or.inr (hw _ (List.mem_of_getElem? (i := 34) rfl))) (Or.inr (hw _ (List.mem_of_getElem? (i := 46) rfl))) (by decide) (t := (.object "java/util/BitSet")) (t' := (.array .boolean)) (by decide) (by decide)))
  have nodes_29 : Fld Z h29 a1 "com/example/halfmesh/halfmesh/CompleteRelay" "nodes" "I" (.int p2) := nodes_27.other W29 (Or.inr (slot_ne (Or.inr (hw _ (List.mem_of_getElem? (i := 36) rfl))) (Or.inr (hw _ (List.mem_of_getElem? (i := 46) rfl))) (by decide) (t := .int) (t' := (.array .boolean)) (by decide) (by decide)))
  have excite_29 : Fld Z h29 a1 "com/example/halfmesh/halfmesh/CompleteRelay" "excite" "J" (.long ((p2.toInt64) - ((2 : Int64) * (p3.toInt64)))) := excite_27.other W29 (Or.inr (slot_ne (Or.inr (hw _ (List.mem_of_getElem? (i := 39) rfl))) (Or.inr (hw _ (List.mem_of_getElem? (i := 46) rfl))) (by decide) (t := .long) (t' := (.array .boolean)) (by decide) (by decide)))
  have accept_29 : Fld Z h29 a1 "com/example/halfmesh/halfmesh/CompleteRelay" "accept" "J" (.long ((p2.toInt64) - (p3.toInt64))) := accept_27.other W29 (Or.inr (slot_ne (Or.inr (hw _ (List.mem_of_getElem? (i := 41) rfl))) (Or.inr (hw _ (List.mem_of_getElem? (i := 46) rfl))) (by decide) (t := .long) (t' := (.array .boolean)) (by decide) (by decide)))
  have excited_29 : Fld Z h29 a1 "com/example/halfmesh/halfmesh/CompleteRelay" "excited" "[Z" (.ref b22) := excited_27.other W29 (Or.inr (slot_ne (Or.inr (hw _ (List.mem_of_getElem? (i := 44) rfl))) (Or.inr (hw _ (List.mem_of_getElem? (i := 46) rfl))) (by decide) (t := (.array .boolean)) (t' := (.array .boolean)) (by decide) (by decide)))
  have relayed_29 : Fld Z h29 a1 "com/example/halfmesh/halfmesh/CompleteRelay" "relayed" "[Z" (.ref b27) := relayed_27.same W29
  have accepted_29 : Fld Z h29 a1 "com/example/halfmesh/halfmesh/CompleteRelay" "accepted" "[Z" .null := accepted_27.other W29 (Or.inr (slot_ne (Or.inr (hw _ (List.mem_of_getElem? (i := 48) rfl))) (Or.inr (hw _ (List.mem_of_getElem? (i := 46) rfl))) (by decide) (t := (.array .boolean)) (t' := (.array .boolean)) (by decide) (by decide)))
  have heardFrom_29 : Fld Z h29 a1 "com/example/halfmesh/halfmesh/CompleteRelay" "heardFrom" "[I" .null := heardFrom_27.other W29 (Or.inr (slot_ne (Or.inr (hw _ (List.mem_of_getElem? (i := 51) rfl))) (Or.inr (hw _ (List.mem_of_getElem? (i := 46) rfl))) (by decide) (t := (.array .int)) (t' := (.array .boolean)) (by decide) (by decide)))
  have A_b22_29 : own_arr Z h29 b22 .boolean n (fun _ => .int 0) := own_arr_other A_b22_27 W29 (Nat.ne_of_gt lt_b22)
  have A_b27_29 : own_arr Z h29 b27 .boolean n (fun _ => .int 0) := own_arr_other A_b27_27 W29 (Nat.ne_of_gt lt_b27)
  have go31 : ∀ t, Steps p.tables e below (T29.setTop (mkF m 58 #[.val (.ref a1), .val (.int p2), .val (.int p3)] [(.int p2), (.ref a1)])) t → G t := fun t k => go30 t (by
      show Steps p.tables e below (T29.setTop (mkF m 56 #[.val (.ref a1), .val (.int p2), .val (.int p3)] [])) _
      refine XS.aloadN X29.here hx rfl (hb hby d1_56) rfl rfl ?_
      show Steps p.tables e below (T29.setTop (mkF m 57 #[.val (.ref a1), .val (.int p2), .val (.int p3)] [(.ref a1)])) _
      refine XS.iloadN X29.here hx rfl (hb hby d1_57) rfl ?_
      show Steps p.tables e below (T29.setTop (mkF m 58 #[.val (.ref a1), .val (.int p2), .val (.int p3)] [(.int p2), (.ref a1)])) _
      exact k)
  obtain ⟨T32, h32, c32, X32, e32, E32, A32, st32⟩ := newP X29 hx hZ (hw _ (List.mem_of_getElem? (i := 42) rfl)) e29 (g := (mkF m 58 #[.val (.ref a1), .val (.int p2), .val (.int p3)] [(.int p2), (.ref a1)])) rfl (hb hby d1_58) rfl (by rw [hn, Int32.lt_iff_toInt_lt, hnv, show (0 : Int32).toInt = 0 from rfl]; omega) (cap := 5) (by rw [hn]; show (Int32.ofNat n).toInt.toNat ≤ 5; omega) (by decide) (by decide) (by decide)
  obtain ⟨b32, g32⟩ : ∃ z, z = h29.size := ⟨_, rfl⟩
  rw [← g32] at A32 st32
  have go33 : ∀ t, Steps p.tables e below (T32.setTop (mkF m 60 #[.val (.ref a1), .val (.int p2), .val (.int p3)] [(.ref b32), (.ref a1)])) t → G t := fun t k => go31 t (st32 _ k)
  have lt_b27_b32 : b27 < b32 := Nat.lt_of_lt_of_le (own_arr_lt A_b27_29) (Nat.le_of_eq g32.symm)
  have lt_b32 : a1 < b32 := Nat.lt_trans lt_b27 lt_b27_b32
  have E_32 : Exa Z h32 a1 "com/example/halfmesh/halfmesh/CompleteRelay" := E_29.ext E32
  have heard_32 : Fld Z h32 a1 "com/example/halfmesh/halfmesh/CompleteRelay" "heard" "Ljava/util/BitSet;" (.ref b5) := heard_29.ext E32
  have nodes_32 : Fld Z h32 a1 "com/example/halfmesh/halfmesh/CompleteRelay" "nodes" "I" (.int p2) := nodes_29.ext E32
  have excite_32 : Fld Z h32 a1 "com/example/halfmesh/halfmesh/CompleteRelay" "excite" "J" (.long ((p2.toInt64) - ((2 : Int64) * (p3.toInt64)))) := excite_29.ext E32
  have accept_32 : Fld Z h32 a1 "com/example/halfmesh/halfmesh/CompleteRelay" "accept" "J" (.long ((p2.toInt64) - (p3.toInt64))) := accept_29.ext E32
  have excited_32 : Fld Z h32 a1 "com/example/halfmesh/halfmesh/CompleteRelay" "excited" "[Z" (.ref b22) := excited_29.ext E32
  have relayed_32 : Fld Z h32 a1 "com/example/halfmesh/halfmesh/CompleteRelay" "relayed" "[Z" (.ref b27) := relayed_29.ext E32
  have accepted_32 : Fld Z h32 a1 "com/example/halfmesh/halfmesh/CompleteRelay" "accepted" "[Z" .null := accepted_29.ext E32
  have heardFrom_32 : Fld Z h32 a1 "com/example/halfmesh/halfmesh/CompleteRelay" "heardFrom" "[I" .null := heardFrom_29.ext E32
  have A_b22_32 : own_arr Z h32 b22 .boolean n (fun _ => .int 0) := own_arr_ext A_b22_29 E32
  have A_b27_32 : own_arr Z h32 b27 .boolean n (fun _ => .int 0) := own_arr_ext A_b27_29 E32
  have A_b32_32 : own_arr Z h32 b32 .boolean n (fun _ => .int 0) := own_arr_new A32 (by rw [hn]; show (Int32.ofNat n).toInt.toNat = n; omega)
  obtain ⟨T34, h34, X34, e34, W34, st34⟩ := putF X32 hx hZ hown (host := "") (Or.inl (hw _ (List.mem_of_getElem? (i := 47) rfl))) Via.refl e32 accepted_32 E_32 (Or.inr ⟨(hw _ (List.mem_of_getElem? (i := 48) rfl)), rfl, hnm⟩) (hw _ (List.mem_of_getElem? (i := 3) rfl)) (ty := (.array .boolean)) (by decide) rfl rfl (g := (mkF m 60 #[.val (.ref a1), .val (.int p2), .val (.int p3)] [(.ref b32), (.ref a1)])) rfl rfl (hb hby d1_60)
  have N34 := Fr.snoc X34 N29 g_a1
  have go35 : ∀ t, Steps p.tables e below (T34.setTop (mkF m 63 #[.val (.ref a1), .val (.int p2), .val (.int p3)] [])) t → G t := fun t k => go33 t (st34 _ k)
  have E_34 : Exa Z h34 a1 "com/example/halfmesh/halfmesh/CompleteRelay" := E_32.wr W34
  have heard_34 : Fld Z h34 a1 "com/example/halfmesh/halfmesh/CompleteRelay" "heard" "Ljava/util/BitSet;" (.ref b5) := heard_32.other W34 (Or.inr (slot_ne (Or.inr (hw _ (List.mem_of_getElem? (i := 34) rfl))) (Or.inr (hw _ (List.mem_of_getElem? (i := 48) rfl))) (by decide) (t := (.object "java/util/BitSet")) (t' := (.array .boolean)) (by decide) (by decide)))
  have nodes_34 : Fld Z h34 a1 "com/example/halfmesh/halfmesh/CompleteRelay" "nodes" "I" (.int p2) := nodes_32.other W34 (Or.inr (slot_ne (Or.inr (hw _ (List.mem_of_getElem? (i := 36) rfl))) (Or.inr (hw _ (List.mem_of_getElem? (i := 48) rfl))) (by decide) (t := .int) (t' := (.array .boolean)) (by decide) (by decide)))
  have excite_34 : Fld Z h34 a1 "com/example/halfmesh/halfmesh/CompleteRelay" "excite" "J" (.long ((p2.toInt64) - ((2 : Int64) * (p3.toInt64)))) := excite_32.other W34 (Or.inr (slot_ne (Or.inr (hw _ (List.mem_of_getElem? (i := 39) rfl))) (Or.inr (hw _ (List.mem_of_getElem? (i := 48) rfl))) (by decide) (t := .long) (t' := (.array .boolean)) (by decide) (by decide)))
  have accept_34 : Fld Z h34 a1 "com/example/halfmesh/halfmesh/CompleteRelay" "accept" "J" (.long ((p2.toInt64) - (p3.toInt64))) := accept_32.other W34 (Or.inr (slot_ne (Or.inr (hw _ (List.mem_of_getElem? (i := 41) rfl))) (Or.inr (hw _ (List.mem_of_getElem? (i := 48) rfl))) (by decide) (t := .long) (t' := (.array .boolean)) (by decide) (by decide)))
  have excited_34 : Fld Z h34 a1 "com/example/halfmesh/halfmesh/CompleteRelay" "excited" "[Z" (.ref b22) := excited_32.other W34 (Or.inr (slot_ne (Or.inr (hw _ (List.mem_of_getElem? (i := 44) rfl))) (Or.inr (hw _ (List.mem_of_getElem? (i := 48) rfl))) (by decide) (t := (.array .boolean)) (t' := (.array .boolean)) (by decide) (by decide)))
  have relayed_34 : Fld Z h34 a1 "com/example/halfmesh/halfmesh/CompleteRelay" "relayed" "[Z" (.ref b27) := relayed_32.other W34 (Or.inr (slot_ne (Or.inr (hw _ (List.mem_of_getElem? (i := 46) rfl))) (Or.inr (hw _ (List.mem_of_getElem? (i := 48) rfl))) (by decide) (t := (.array .boolean)) (t' := (.array .boolean)) (by decide) (by decide)))
  have accepted_34 : Fld Z h34 a1 "com/example/halfmesh/halfmesh/CompleteRelay" "accepted" "[Z" (.ref b32) := accepted_32.same W34
  have heardFrom_34 : Fld Z h34 a1 "com/example/halfmesh/halfmesh/CompleteRelay" "heardFrom" "[I" .null := heardFrom_32.other W34 (Or.inr (slot_ne (Or.inr (hw _ (List.mem_of_getElem? (i := 51) rfl))) (Or.inr (hw _ (List.mem_of_getElem? (i := 48) rfl))) (by decide) (t := (.array .int)) (t' := (.array .boolean)) (by decide) (by decide)))
  have A_b22_34 : own_arr Z h34 b22 .boolean n (fun _ => .int 0) := own_arr_other A_b22_32 W34 (Nat.ne_of_gt lt_b22)
  have A_b27_34 : own_arr Z h34 b27 .boolean n (fun _ => .int 0) := own_arr_other A_b27_32 W34 (Nat.ne_of_gt lt_b27)
  have A_b32_34 : own_arr Z h34 b32 .boolean n (fun _ => .int 0) := own_arr_other A_b32_32 W34 (Nat.ne_of_gt lt_b32)
  have go36 : ∀ t, Steps p.tables e below (T34.setTop (mkF m 65 #[.val (.ref a1), .val (.int p2), .val (.int p3)] [(.int p2), (.ref a1)])) t → G t := fun t k => go35 t (by
      show Steps p.tables e below (T34.setTop (mkF m 63 #[.val (.ref a1), .val (.int p2), .val (.int p3)] [])) _
      refine XS.aloadN X34.here hx rfl (hb hby d1_63) rfl rfl ?_
      show Steps p.tables e below (T34.setTop (mkF m 64 #[.val (.ref a1), .val (.int p2), .val (.int p3)] [(.ref a1)])) _
      refine XS.iloadN X34.here hx rfl (hb hby d1_64) rfl ?_
      show Steps p.tables e below (T34.setTop (mkF m 65 #[.val (.ref a1), .val (.int p2), .val (.int p3)] [(.int p2), (.ref a1)])) _
      exact k)
  obtain ⟨T37, h37, c37, X37, e37, E37, A37, st37⟩ := newP X34 hx hZ (hw _ (List.mem_of_getElem? (i := 49) rfl)) e34 (g := (mkF m 65 #[.val (.ref a1), .val (.int p2), .val (.int p3)] [(.int p2), (.ref a1)])) rfl (hb hby d1_65) rfl (by rw [hn, Int32.lt_iff_toInt_lt, hnv, show (0 : Int32).toInt = 0 from rfl]; omega) (cap := 5) (by rw [hn]; show (Int32.ofNat n).toInt.toNat ≤ 5; omega) (by decide) (by decide) (by decide)
  obtain ⟨b37, g37⟩ : ∃ z, z = h34.size := ⟨_, rfl⟩
  rw [← g37] at A37 st37
  have go38 : ∀ t, Steps p.tables e below (T37.setTop (mkF m 67 #[.val (.ref a1), .val (.int p2), .val (.int p3)] [(.ref b37), (.ref a1)])) t → G t := fun t k => go36 t (st37 _ k)
  have lt_b32_b37 : b32 < b37 := Nat.lt_of_lt_of_le (own_arr_lt A_b32_34) (Nat.le_of_eq g37.symm)
  have lt_b37 : a1 < b37 := Nat.lt_trans lt_b32 lt_b32_b37
  have E_37 : Exa Z h37 a1 "com/example/halfmesh/halfmesh/CompleteRelay" := E_34.ext E37
  have heard_37 : Fld Z h37 a1 "com/example/halfmesh/halfmesh/CompleteRelay" "heard" "Ljava/util/BitSet;" (.ref b5) := heard_34.ext E37
  have nodes_37 : Fld Z h37 a1 "com/example/halfmesh/halfmesh/CompleteRelay" "nodes" "I" (.int p2) := nodes_34.ext E37
  have excite_37 : Fld Z h37 a1 "com/example/halfmesh/halfmesh/CompleteRelay" "excite" "J" (.long ((p2.toInt64) - ((2 : Int64) * (p3.toInt64)))) := excite_34.ext E37
  have accept_37 : Fld Z h37 a1 "com/example/halfmesh/halfmesh/CompleteRelay" "accept" "J" (.long ((p2.toInt64) - (p3.toInt64))) := accept_34.ext E37
  have excited_37 : Fld Z h37 a1 "com/example/halfmesh/halfmesh/CompleteRelay" "excited" "[Z" (.ref b22) := excited_34.ext E37
  have relayed_37 : Fld Z h37 a1 "com/example/halfmesh/halfmesh/CompleteRelay" "relayed" "[Z" (.ref b27) := relayed_34.ext E37
  have accepted_37 : Fld Z h37 a1 "com/example/halfmesh/halfmesh/CompleteRelay" "accepted" "[Z" (.ref b32) := accepted_34.ext E37
  have heardFrom_37 : Fld Z h37 a1 "com/example/halfmesh/halfmesh/CompleteRelay" "heardFrom" "[I" .null := heardFrom_34.ext E37
  have A_b22_37 : own_arr Z h37 b22 .boolean n (fun _ => .int 0) := own_arr_ext A_b22_34 E37
  have A_b27_37 : own_arr Z h37 b27 .boolean n (fun _ => .int 0) := own_arr_ext A_b27_34 E37
  have A_b32_37 : own_arr Z h37 b32 .boolean n (fun _ => .int 0) := own_arr_ext A_b32_34 E37
  have A_b37_37 : own_arr Z h37 b37 .int n (fun _ => .int 0) := own_arr_new A37 (by rw [hn]; show (Int32.ofNat n).toInt.toNat = n; omega)
  obtain ⟨T39, h39, X39, e39, W39, st39⟩ := putF X37 hx hZ hown (host := "") (Or.inl (hw _ (List.mem_of_getElem? (i := 50) rfl))) Via.refl e37 heardFrom_37 E_37 (Or.inr ⟨(hw _ (List.mem_of_getElem? (i := 51) rfl)), rfl, hnm⟩) (hw _ (List.mem_of_getElem? (i := 3) rfl)) (ty := (.array .int)) (by decide) rfl rfl (g := (mkF m 67 #[.val (.ref a1), .val (.int p2), .val (.int p3)] [(.ref b37), (.ref a1)])) rfl rfl (hb hby d1_67)
  have N39 := Fr.snoc X39 N34 g_a1
  have go40 : ∀ t, Steps p.tables e below (T39.setTop (mkF m 70 #[.val (.ref a1), .val (.int p2), .val (.int p3)] [])) t → G t := fun t k => go38 t (st39 _ k)
  have E_39 : Exa Z h39 a1 "com/example/halfmesh/halfmesh/CompleteRelay" := E_37.wr W39
  have heard_39 : Fld Z h39 a1 "com/example/halfmesh/halfmesh/CompleteRelay" "heard" "Ljava/util/BitSet;" (.ref b5) := heard_37.other W39 (Or.inr (slot_ne (Or.inr (hw _ (List.mem_of_getElem? (i := 34) rfl))) (Or.inr (hw _ (List.mem_of_getElem? (i := 51) rfl))) (by decide) (t := (.object "java/util/BitSet")) (t' := (.array .int)) (by decide) (by decide)))
  have nodes_39 : Fld Z h39 a1 "com/example/halfmesh/halfmesh/CompleteRelay" "nodes" "I" (.int p2) := nodes_37.other W39 (Or.inr (slot_ne (Or.inr (hw _ (List.mem_of_getElem? (i := 36) rfl))) (Or.inr (hw _ (List.mem_of_getElem? (i := 51) rfl))) (by decide) (t := .int) (t' := (.array .int)) (by decide) (by decide)))
  have excite_39 : Fld Z h39 a1 "com/example/halfmesh/halfmesh/CompleteRelay" "excite" "J" (.long ((p2.toInt64) - ((2 : Int64) * (p3.toInt64)))) := excite_37.other W39 (Or.inr (slot_ne (Or.inr (hw _ (List.mem_of_getElem? (i := 39) rfl))) (Or.inr (hw _ (List.mem_of_getElem? (i := 51) rfl))) (by decide) (t := .long) (t' := (.array .int)) (by decide) (by decide)))
  have accept_39 : Fld Z h39 a1 "com/example/halfmesh/halfmesh/CompleteRelay" "accept" "J" (.long ((p2.toInt64) - (p3.toInt64))) := accept_37.other W39 (Or.inr (slot_ne (Or.inr (hw _ (List.mem_of_getElem? (i := 41) rfl))) (Or.inr (hw _ (List.mem_of_getElem? (i := 51) rfl))) (by decide) (t := .long) (t' := (.array .int)) (by decide) (by decide)))
  have excited_39 : Fld Z h39 a1 "com/example/halfmesh/halfmesh/CompleteRelay" "excited" "[Z" (.ref b22) := excited_37.other W39 (Or.inr (slot_ne (Or.inr (hw _ (List.mem_of_getElem? (i := 44) rfl))) (Or.inr (hw _ (List.mem_of_getElem? (i := 51) rfl))) (by decide) (t := (.array .boolean)) (t' := (.array .int)) (by decide) (by decide)))
  have relayed_39 : Fld Z h39 a1 "com/example/halfmesh/halfmesh/CompleteRelay" "relayed" "[Z" (.ref b27) := relayed_37.other W39 (Or.inr (slot_ne (Or.inr (hw _ (List.mem_of_getElem? (i := 46) rfl))) (Or.inr (hw _ (List.mem_of_getElem? (i := 51) rfl))) (by decide) (t := (.array .boolean)) (t' := (.array .int)) (by decide) (by decide)))
  have accepted_39 : Fld Z h39 a1 "com/example/halfmesh/halfmesh/CompleteRelay" "accepted" "[Z" (.ref b32) := accepted_37.other W39 (Or.inr (slot_ne (Or.inr (hw _ (List.mem_of_getElem? (i := 48) rfl))) (Or.inr (hw _ (List.mem_of_getElem? (i := 51) rfl))) (by decide) (t := (.array .boolean)) (t' := (.array .int)) (by decide) (by decide)))
  have heardFrom_39 : Fld Z h39 a1 "com/example/halfmesh/halfmesh/CompleteRelay" "heardFrom" "[I" (.ref b37) := heardFrom_37.same W39
  have A_b22_39 : own_arr Z h39 b22 .boolean n (fun _ => .int 0) := own_arr_other A_b22_37 W39 (Nat.ne_of_gt lt_b22)
  have A_b27_39 : own_arr Z h39 b27 .boolean n (fun _ => .int 0) := own_arr_other A_b27_37 W39 (Nat.ne_of_gt lt_b27)
  have A_b32_39 : own_arr Z h39 b32 .boolean n (fun _ => .int 0) := own_arr_other A_b32_37 W39 (Nat.ne_of_gt lt_b32)
  have A_b37_39 : own_arr Z h39 b37 .int n (fun _ => .int 0) := own_arr_other A_b37_37 W39 (Nat.ne_of_gt lt_b37)
  rw [hn] at nodes_39
  obtain ⟨fs, hr, hrun, hended, hW, hsame⟩ := X39.leave (v := none) (fun _ => rfl)
  refine ⟨_, _, fin _ (go40 _ ?_), hrun, hended, _, _, rfl, ?_, ⟨_, rfl⟩, hW, hsame.mono (by decide) (by decide)⟩
  · exact X39.returnOut hx Bd.returns (hb hby d1_70) hr
  · show Q1 Z a1 p2 p3 n h0 n0 _ T39.heap _
    rw [e39]
    exact ⟨rfl, N39, b22, b27, b32, b37, ⟨E_39, nodes_39, excite_39, accept_39, excited_39, relayed_39, accepted_39, heardFrom_39⟩, ⟨A_b22_39, A_b27_39, A_b32_39, A_b37_39⟩, ⟨lt_b22, lt_b22_b27, lt_b27_b32, lt_b32_b37⟩, g_a1, Nat.le_trans g_a1 (Nat.le_of_lt E_39.lt)⟩
theorem d6_0 : decode prog_38_method_2_code 0 = .ok (.aload_n 0, 1) := by decide +kernel
theorem d6_1 : decode prog_38_method_2_code 1 = .ok (.getfield 29, 3) := by decide +kernel
theorem d6_4 : decode prog_38_method_2_code 4 = .ok (.iload_n 1, 1) := by decide +kernel
theorem d6_5 : decode prog_38_method_2_code 5 = .ok (.iconst 1, 1) := by decide +kernel
theorem d6_6 : decode prog_38_method_2_code 6 = .ok (.bastore, 1) := by decide +kernel
theorem d6_7 : decode prog_38_method_2_code 7 = .ok (.return_, 1) := by decide +kernel
theorem pn_6 : plainName "com/example/halfmesh/halfmesh/CompleteRelay" = true := by first | (simp [plainName, overriddenIn]; done) | decide +kernel
theorem ef_6 (m : MethodId) (a1 : Addr) (p2 : Int32) : entryFrame m #[(.ref a1), (.int p2)] 2 = mkF m 0 #[.val (.ref a1), .val (.int p2)] [] := by first | (simp [entryFrame, mkF, argsToLocals, Value.category]; done) | rfl
def Q6 (Z : State) (a1 : Addr) (p2 : Int32) (ae : Addr) (ar : Addr) (av : Addr) (aq : Addr) (n : Nat) (ex : Int64) (ac : Int64) (E : Nat → Bool) (R : Nat → Bool) (A : Nat → Bool) (h0 : Heap) (n0 : Nat) (v : Option Value) (h : Heap) (L : List Loc) : Prop := v = none ∧ Fr n0 L ∧ own_heap Z h n0 a1 ae ar av aq n ex ac (fun i => E i || decide (i = p2.toInt.toNat)) R A
set_option maxRecDepth 65536 in
set_option maxHeartbeats 40000000 in
theorem rm6 (l : Launch) (Z : State) (a0 : Array Value) (hw : ∀ d ∈ tables_1, d.before a0 Z = true) (ws : List Jvm.Cond) (a1 : Addr) (p2 : Int32) (ae : Addr) (ar : Addr) (av : Addr) (aq : Addr) (n : Nat) (ex : Int64) (ac : Int64) (E : Nat → Bool) (R : Nat → Bool) (A : Nat → Bool) (h0 : Heap) (n0 : Nat) (Z0 : n0 ≤ h0.size) (H : own_heap Z h0 n0 a1 ae ar av aq n ex ac E R A) (hp0 : 0 ≤ p2.toInt) (hp1 : p2.toInt.toNat < n) :
    MetFree l (⟨"com/example/halfmesh/halfmesh/CompleteRelay", "initiate", "(I)V"⟩ : MethodName) (head1 (Jvm.Cond.code (⟨"com/example/halfmesh/halfmesh/CompleteRelay", "initiate", "(I)V"⟩ : MethodName) prog_38_method_2_code 2 none :: ws) ({ frames := 0, cells := 0, slots := 0, locals := 0 } : Room)) (fun a U => a = #[(.ref a1), (.int p2)] ∧ Z.Warmed39 U.vm ∧ U.heap = h0) (fun _ _ _ _ _ => True) (fun _ U o U' => ∃ v L, o = .returned v ∧ Q6 Z a1 p2 ae ar av aq n ex ac E R A h0 n0 v U'.heap L ∧ FrameEnd U o U' L ({ frames := 0, cells := 0, slots := 0, locals := 0 } : Room).cells ({ frames := 0, cells := 0, slots := 0, locals := 0 } : Room).slots) := by
  refine MetFree.of_bodySF (plainFor_of_name pn_6) hisR ?_
  intro p e s m args below meth c s₁ Bd hml0 hP hK
  obtain ⟨rfl, hZ, hh⟩ := hP
  have hx := Bd.exec
  have hby := Bd.bytes
  have hml : c.maxLocals = 2 := hml0
  have hown : s.vm.findClass "com/example/halfmesh/halfmesh/CompleteRelay" = some m.cls := findClass_of_methodNamed Bd.named
  have hnm := (name_of_methodNamed Bd.named Bd.method).1
  have X0 : Stand p l e ({ frames := 0, cells := 0, slots := 0, locals := 0 } : Room) s m #[(.ref a1), (.int p2)] below meth c s₁ [] 0 0 := Stand.of_body Bd
  have e0 : s₁.heap = h0 := by rw [← hh, Bd.state]; rfl
  have N0 := Fr.nil n0
  have pre0 : ∀ t, Steps p.tables e below (s₁.setTop (mkF m 0 #[.val (.ref a1), .val (.int p2)] [])) t → Steps p.tables e below (s₁.setTop (entryFrame m #[(.ref a1), (.int p2)] 2)) t := fun t k => castTop (ef_6 m a1 p2) k
  obtain ⟨G, hG⟩ : ∃ G : State → Prop, G = fun t => Steps p.tables e below (s₁.setTop (entryFrame m #[(.ref a1), (.int p2)] 2)) t := ⟨_, rfl⟩
  have fin : ∀ t, G t → Steps p.tables e below (s₁.setTop (entryFrame m #[(.ref a1), (.int p2)] 2)) t := by rw [hG]; exact fun _ k => k
  have go0 : ∀ t, Steps p.tables e below (s₁.setTop (mkF m 0 #[.val (.ref a1), .val (.int p2)] [])) t → G t := by rw [hG]; exact pre0
  obtain ⟨⟨E1, Fn, Fx, Fa, Fe, Fr', Ft, Fq⟩, ⟨⟨ce, Ae, Se, He⟩, ⟨cr, Ar, Sr, Hr⟩, ⟨ct, At, St, Ht⟩, ⟨cq, Aq, Sq, Hq⟩⟩, ⟨d1, d2, d3, d4⟩, G1, G2⟩ := id H
  have go1 : ∀ t, Steps p.tables e below (s₁.setTop (mkF m 1 #[.val (.ref a1), .val (.int p2)] [(.ref a1)])) t → G t := fun t k => go0 t (by
      show Steps p.tables e below (s₁.setTop (mkF m 0 #[.val (.ref a1), .val (.int p2)] [])) _
      refine XS.aloadN X0.here hx rfl (hb hby d6_0) rfl rfl ?_
      show Steps p.tables e below (s₁.setTop (mkF m 1 #[.val (.ref a1), .val (.int p2)] [(.ref a1)])) _
      exact k)
  obtain ⟨T2, X2, e2, st2⟩ := getF X0 hx hZ hown (host := "") (Or.inl (hw _ (List.mem_of_getElem? (i := 43) rfl))) Via.refl e0 Fe (g := (mkF m 1 #[.val (.ref a1), .val (.int p2)] [(.ref a1)])) rfl rfl (hb hby d6_1)
  have go3 : ∀ t, Steps p.tables e below (T2.setTop (mkF m 4 #[.val (.ref a1), .val (.int p2)] [(.ref ae)])) t → G t := fun t k => go1 t (st2 _ k)
  have go4 : ∀ t, Steps p.tables e below (T2.setTop (mkF m 6 #[.val (.ref a1), .val (.int p2)] [(.int (1 : Int32)), (.int p2), (.ref ae)])) t → G t := fun t k => go3 t (by
      show Steps p.tables e below (T2.setTop (mkF m 4 #[.val (.ref a1), .val (.int p2)] [(.ref ae)])) _
      refine XS.iloadN X2.here hx rfl (hb hby d6_4) rfl ?_
      show Steps p.tables e below (T2.setTop (mkF m 5 #[.val (.ref a1), .val (.int p2)] [(.int p2), (.ref ae)])) _
      refine XS.iconst X2.here hx rfl (hb hby d6_5) ?_
      show Steps p.tables e below (T2.setTop (mkF m 6 #[.val (.ref a1), .val (.int p2)] [(.int (1 : Int32)), (.int p2), (.ref ae)])) _
      exact k)
  obtain ⟨T5, h5, X5, e5, W5, st5⟩ := stZ X2 hx hZ e2 Ae (j := p2) (own_in Se hp0 hp1) (g := (mkF m 6 #[.val (.ref a1), .val (.int p2)] [(.int (1 : Int32)), (.int p2), (.ref ae)])) rfl rfl (hb hby d6_6)
  have N5 := Fr.snoc X5 N0 (Nat.le_trans G1 (Nat.le_of_lt d1))
  have go6 : ∀ t, Steps p.tables e below (T5.setTop (mkF m 7 #[.val (.ref a1), .val (.int p2)] [])) t → G t := fun t k => go4 t (st5 _ k)
  obtain ⟨fs, hr, hrun, hended, hW, hsame⟩ := X5.leave (v := none) (fun _ => rfl)
  refine ⟨_, _, fin _ (go6 _ ?_), hrun, hended, _, _, rfl, ?_, ⟨_, rfl⟩, hW, hsame.mono (by decide) (by decide)⟩
  · exact X5.returnOut hx Bd.returns (hb hby d6_7) hr
  · show Q6 Z a1 p2 ae ar av aq n ex ac E R A h0 n0 _ T5.heap _
    rw [e5]
    exact ⟨rfl, N5, (own_wr H W5).1 rfl⟩
theorem d9_0 : decode prog_38_method_6_code 0 = .ok (.aload_n 0, 1) := by decide +kernel
theorem d9_1 : decode prog_38_method_6_code 1 = .ok (.getfield 36, 3) := by decide +kernel
theorem d9_4 : decode prog_38_method_6_code 4 = .ok (.iload_n 1, 1) := by decide +kernel
theorem d9_5 : decode prog_38_method_6_code 5 = .ok (.baload, 1) := by decide +kernel
theorem d9_6 : decode prog_38_method_6_code 6 = .ok (.ireturn, 1) := by decide +kernel
theorem pn_9 : plainName "com/example/halfmesh/halfmesh/CompleteRelay" = true := by first | (simp [plainName, overriddenIn]; done) | decide +kernel
theorem ef_9 (m : MethodId) (a1 : Addr) (p2 : Int32) : entryFrame m #[(.ref a1), (.int p2)] 2 = mkF m 0 #[.val (.ref a1), .val (.int p2)] [] := by first | (simp [entryFrame, mkF, argsToLocals, Value.category]; done) | rfl
def Q9 (Z : State) (a1 : Addr) (p2 : Int32) (ae : Addr) (ar : Addr) (av : Addr) (aq : Addr) (n : Nat) (ex : Int64) (ac : Int64) (E : Nat → Bool) (R : Nat → Bool) (A : Nat → Bool) (h0 : Heap) (n0 : Nat) (v : Option Value) (h : Heap) (L : List Loc) : Prop := v = some (.int (own_b (A p2.toInt.toNat))) ∧ Fr n0 L ∧ h = h0
set_option maxRecDepth 65536 in
set_option maxHeartbeats 40000000 in
theorem rm9 (l : Launch) (Z : State) (a0 : Array Value) (hw : ∀ d ∈ tables_1, d.before a0 Z = true) (ws : List Jvm.Cond) (a1 : Addr) (p2 : Int32) (ae : Addr) (ar : Addr) (av : Addr) (aq : Addr) (n : Nat) (ex : Int64) (ac : Int64) (E : Nat → Bool) (R : Nat → Bool) (A : Nat → Bool) (h0 : Heap) (n0 : Nat) (Z0 : n0 ≤ h0.size) (H : own_heap Z h0 n0 a1 ae ar av aq n ex ac E R A) (hp0 : 0 ≤ p2.toInt) (hp1 : p2.toInt.toNat < n) :
    MetFree l (⟨"com/example/halfmesh/halfmesh/CompleteRelay", "accepted", "(I)Z"⟩ : MethodName) (head1 (Jvm.Cond.code (⟨"com/example/halfmesh/halfmesh/CompleteRelay", "accepted", "(I)Z"⟩ : MethodName) prog_38_method_6_code 2 (some .boolean) :: ws) ({ frames := 0, cells := 0, slots := 0, locals := 0 } : Room)) (fun a U => a = #[(.ref a1), (.int p2)] ∧ Z.Warmed39 U.vm ∧ U.heap = h0) (fun _ _ _ _ _ => True) (fun _ U o U' => ∃ v L, o = .returned v ∧ Q9 Z a1 p2 ae ar av aq n ex ac E R A h0 n0 v U'.heap L ∧ FrameEnd U o U' L ({ frames := 0, cells := 0, slots := 0, locals := 0 } : Room).cells ({ frames := 0, cells := 0, slots := 0, locals := 0 } : Room).slots) := by
  refine MetFree.of_bodySF (plainFor_of_name pn_9) hisR ?_
  intro p e s m args below meth c s₁ Bd hml0 hP hK
  obtain ⟨rfl, hZ, hh⟩ := hP
  have hx := Bd.exec
  have hby := Bd.bytes
  have hml : c.maxLocals = 2 := hml0
  have hown : s.vm.findClass "com/example/halfmesh/halfmesh/CompleteRelay" = some m.cls := findClass_of_methodNamed Bd.named
  have hnm := (name_of_methodNamed Bd.named Bd.method).1
  have X0 : Stand p l e ({ frames := 0, cells := 0, slots := 0, locals := 0 } : Room) s m #[(.ref a1), (.int p2)] below meth c s₁ [] 0 0 := Stand.of_body Bd
  have e0 : s₁.heap = h0 := by rw [← hh, Bd.state]; rfl
  have N0 := Fr.nil n0
  have pre0 : ∀ t, Steps p.tables e below (s₁.setTop (mkF m 0 #[.val (.ref a1), .val (.int p2)] [])) t → Steps p.tables e below (s₁.setTop (entryFrame m #[(.ref a1), (.int p2)] 2)) t := fun t k => castTop (ef_9 m a1 p2) k
  obtain ⟨G, hG⟩ : ∃ G : State → Prop, G = fun t => Steps p.tables e below (s₁.setTop (entryFrame m #[(.ref a1), (.int p2)] 2)) t := ⟨_, rfl⟩
  have fin : ∀ t, G t → Steps p.tables e below (s₁.setTop (entryFrame m #[(.ref a1), (.int p2)] 2)) t := by rw [hG]; exact fun _ k => k
  have go0 : ∀ t, Steps p.tables e below (s₁.setTop (mkF m 0 #[.val (.ref a1), .val (.int p2)] [])) t → G t := by rw [hG]; exact pre0
  obtain ⟨⟨E1, Fn, Fx, Fa, Fe, Fr', Ft, Fq⟩, ⟨⟨ce, Ae, Se, He⟩, ⟨cr, Ar, Sr, Hr⟩, ⟨ct, At, St, Ht⟩, ⟨cq, Aq, Sq, Hq⟩⟩, ⟨d1, d2, d3, d4⟩, G1, G2⟩ := id H
  have go1 : ∀ t, Steps p.tables e below (s₁.setTop (mkF m 1 #[.val (.ref a1), .val (.int p2)] [(.ref a1)])) t → G t := fun t k => go0 t (by
      show Steps p.tables e below (s₁.setTop (mkF m 0 #[.val (.ref a1), .val (.int p2)] [])) _
      refine XS.aloadN X0.here hx rfl (hb hby d9_0) rfl rfl ?_
      show Steps p.tables e below (s₁.setTop (mkF m 1 #[.val (.ref a1), .val (.int p2)] [(.ref a1)])) _
      exact k)
  obtain ⟨T2, X2, e2, st2⟩ := getF X0 hx hZ hown (host := "") (Or.inl (hw _ (List.mem_of_getElem? (i := 47) rfl))) Via.refl e0 Ft (g := (mkF m 1 #[.val (.ref a1), .val (.int p2)] [(.ref a1)])) rfl rfl (hb hby d9_1)
  have go3 : ∀ t, Steps p.tables e below (T2.setTop (mkF m 4 #[.val (.ref a1), .val (.int p2)] [(.ref av)])) t → G t := fun t k => go1 t (st2 _ k)
  have go4 : ∀ t, Steps p.tables e below (T2.setTop (mkF m 5 #[.val (.ref a1), .val (.int p2)] [(.int p2), (.ref av)])) t → G t := fun t k => go3 t (by
      show Steps p.tables e below (T2.setTop (mkF m 4 #[.val (.ref a1), .val (.int p2)] [(.ref av)])) _
      refine XS.iloadN X2.here hx rfl (hb hby d9_4) rfl ?_
      show Steps p.tables e below (T2.setTop (mkF m 5 #[.val (.ref a1), .val (.int p2)] [(.int p2), (.ref av)])) _
      exact k)
  have st5 := X2.baloadBooleans hx (j := p2) (v := (.int (own_b (A p2.toInt.toNat)))) (by rw [e2]; exact At.1) (State.isArrayOf_alike hZ.alike At.2.1) At.2.2 (own_in St hp0 hp1) (Ht _ hp1) (g := (mkF m 5 #[.val (.ref a1), .val (.int p2)] [(.int p2), (.ref av)])) rfl rfl (hb hby d9_5)
  have go6 : ∀ t, Steps p.tables e below (T2.setTop (mkF m 6 #[.val (.ref a1), .val (.int p2)] [(.int (own_b (A p2.toInt.toNat)))])) t → G t := fun t k => go4 t (st5 _ k)
  obtain ⟨fs, hr, hrun, hended, hW, hsame⟩ := X2.leave (v := some (.int (own_b (A p2.toInt.toNat)))) (fun h => by rw [Bd.returns] at h; cases h)
  rw [← own_nar] at hr
  refine ⟨_, _, fin _ (go6 _ ?_), hrun, hended, _, _, rfl, ?_, ⟨_, rfl⟩, hW, hsame.mono (by decide) (by decide)⟩
  · exact retN X2 hx (t := .boolean) Bd.returns (by simp) (hb hby d9_6) hr
  · show Q9 Z a1 p2 ae ar av aq n ex ac E R A h0 n0 _ T2.heap _
    rw [e2]
    exact ⟨rfl, N0, rfl⟩
theorem d7_0 : decode prog_38_method_3_code 0 = .ok (.aload_n 0, 1) := by decide +kernel
theorem d7_1 : decode prog_38_method_3_code 1 = .ok (.getfield 29, 3) := by decide +kernel
theorem d7_4 : decode prog_38_method_3_code 4 = .ok (.iload_n 1, 1) := by decide +kernel
theorem d7_5 : decode prog_38_method_3_code 5 = .ok (.baload, 1) := by decide +kernel
theorem d7_6 : decode prog_38_method_3_code 6 = .ok (.ifCond .eq 12, 3) := by decide +kernel
theorem d7_9 : decode prog_38_method_3_code 9 = .ok (.aload_n 0, 1) := by decide +kernel
theorem d7_10 : decode prog_38_method_3_code 10 = .ok (.getfield 33, 3) := by decide +kernel
theorem d7_13 : decode prog_38_method_3_code 13 = .ok (.iload_n 1, 1) := by decide +kernel
theorem d7_14 : decode prog_38_method_3_code 14 = .ok (.baload, 1) := by decide +kernel
theorem d7_15 : decode prog_38_method_3_code 15 = .ok (.ifCond .eq 5, 3) := by decide +kernel
theorem d7_18 : decode prog_38_method_3_code 18 = .ok (.iconst 0, 1) := by decide +kernel
theorem d7_19 : decode prog_38_method_3_code 19 = .ok (.ireturn, 1) := by decide +kernel
theorem d7_20 : decode prog_38_method_3_code 20 = .ok (.aload_n 0, 1) := by decide +kernel
theorem d7_21 : decode prog_38_method_3_code 21 = .ok (.getfield 33, 3) := by decide +kernel
theorem d7_24 : decode prog_38_method_3_code 24 = .ok (.iload_n 1, 1) := by decide +kernel
theorem d7_25 : decode prog_38_method_3_code 25 = .ok (.iconst 1, 1) := by decide +kernel
theorem d7_26 : decode prog_38_method_3_code 26 = .ok (.bastore, 1) := by decide +kernel
theorem d7_27 : decode prog_38_method_3_code 27 = .ok (.iconst 1, 1) := by decide +kernel
theorem d7_28 : decode prog_38_method_3_code 28 = .ok (.ireturn, 1) := by decide +kernel
theorem pn_7 : plainName "com/example/halfmesh/halfmesh/CompleteRelay" = true := by first | (simp [plainName, overriddenIn]; done) | decide +kernel
theorem ef_7 (m : MethodId) (a1 : Addr) (p2 : Int32) : entryFrame m #[(.ref a1), (.int p2)] 2 = mkF m 0 #[.val (.ref a1), .val (.int p2)] [] := by first | (simp [entryFrame, mkF, argsToLocals, Value.category]; done) | rfl
def Q7 (Z : State) (a1 : Addr) (p2 : Int32) (ae : Addr) (ar : Addr) (av : Addr) (aq : Addr) (n : Nat) (ex : Int64) (ac : Int64) (E : Nat → Bool) (R : Nat → Bool) (A : Nat → Bool) (h0 : Heap) (n0 : Nat) (v : Option Value) (h : Heap) (L : List Loc) : Prop := v = some (.int (own_b (E p2.toInt.toNat && !(R p2.toInt.toNat)))) ∧ Fr n0 L ∧ own_heap Z h n0 a1 ae ar av aq n ex ac E (fun i => R i || (decide (i = p2.toInt.toNat) && E p2.toInt.toNat)) A
set_option maxRecDepth 65536 in
set_option maxHeartbeats 40000000 in
theorem rm7 (l : Launch) (Z : State) (a0 : Array Value) (hw : ∀ d ∈ tables_1, d.before a0 Z = true) (ws : List Jvm.Cond) (a1 : Addr) (p2 : Int32) (ae : Addr) (ar : Addr) (av : Addr) (aq : Addr) (n : Nat) (ex : Int64) (ac : Int64) (E : Nat → Bool) (R : Nat → Bool) (A : Nat → Bool) (h0 : Heap) (n0 : Nat) (Z0 : n0 ≤ h0.size) (H : own_heap Z h0 n0 a1 ae ar av aq n ex ac E R A) (hp0 : 0 ≤ p2.toInt) (hp1 : p2.toInt.toNat < n) :
    MetFree l (⟨"com/example/halfmesh/halfmesh/CompleteRelay", "relays", "(I)Z"⟩ : MethodName) (head1 (Jvm.Cond.code (⟨"com/example/halfmesh/halfmesh/CompleteRelay", "relays", "(I)Z"⟩ : MethodName) prog_38_method_3_code 2 (some .boolean) :: ws) ({ frames := 0, cells := 0, slots := 0, locals := 0 } : Room)) (fun a U => a = #[(.ref a1), (.int p2)] ∧ Z.Warmed39 U.vm ∧ U.heap = h0) (fun _ _ _ _ _ => True) (fun _ U o U' => ∃ v L, o = .returned v ∧ Q7 Z a1 p2 ae ar av aq n ex ac E R A h0 n0 v U'.heap L ∧ FrameEnd U o U' L ({ frames := 0, cells := 0, slots := 0, locals := 0 } : Room).cells ({ frames := 0, cells := 0, slots := 0, locals := 0 } : Room).slots) := by
  refine MetFree.of_bodySF (plainFor_of_name pn_7) hisR ?_
  intro p e s m args below meth c s₁ Bd hml0 hP hK
  obtain ⟨rfl, hZ, hh⟩ := hP
  have hx := Bd.exec
  have hby := Bd.bytes
  have hml : c.maxLocals = 2 := hml0
  have hown : s.vm.findClass "com/example/halfmesh/halfmesh/CompleteRelay" = some m.cls := findClass_of_methodNamed Bd.named
  have hnm := (name_of_methodNamed Bd.named Bd.method).1
  have X0 : Stand p l e ({ frames := 0, cells := 0, slots := 0, locals := 0 } : Room) s m #[(.ref a1), (.int p2)] below meth c s₁ [] 0 0 := Stand.of_body Bd
  have e0 : s₁.heap = h0 := by rw [← hh, Bd.state]; rfl
  have N0 := Fr.nil n0
  have pre0 : ∀ t, Steps p.tables e below (s₁.setTop (mkF m 0 #[.val (.ref a1), .val (.int p2)] [])) t → Steps p.tables e below (s₁.setTop (entryFrame m #[(.ref a1), (.int p2)] 2)) t := fun t k => castTop (ef_7 m a1 p2) k
  obtain ⟨G, hG⟩ : ∃ G : State → Prop, G = fun t => Steps p.tables e below (s₁.setTop (entryFrame m #[(.ref a1), (.int p2)] 2)) t := ⟨_, rfl⟩
  have fin : ∀ t, G t → Steps p.tables e below (s₁.setTop (entryFrame m #[(.ref a1), (.int p2)] 2)) t := by rw [hG]; exact fun _ k => k
  have go0 : ∀ t, Steps p.tables e below (s₁.setTop (mkF m 0 #[.val (.ref a1), .val (.int p2)] [])) t → G t := by rw [hG]; exact pre0
  obtain ⟨⟨E1, Fn, Fx, Fa, Fe, Fr', Ft, Fq⟩, ⟨⟨ce, Ae, Se, He⟩, ⟨cr, Ar, Sr, Hr⟩, ⟨ct, At, St, Ht⟩, ⟨cq, Aq, Sq, Hq⟩⟩, ⟨d1, d2, d3, d4⟩, G1, G2⟩ := id H
  have go1 : ∀ t, Steps p.tables e below (s₁.setTop (mkF m 1 #[.val (.ref a1), .val (.int p2)] [(.ref a1)])) t → G t := fun t k => go0 t (by
      show Steps p.tables e below (s₁.setTop (mkF m 0 #[.val (.ref a1), .val (.int p2)] [])) _
      refine XS.aloadN X0.here hx rfl (hb hby d7_0) rfl rfl ?_
      show Steps p.tables e below (s₁.setTop (mkF m 1 #[.val (.ref a1), .val (.int p2)] [(.ref a1)])) _
      exact k)
  obtain ⟨T2, X2, e2, st2⟩ := getF X0 hx hZ hown (host := "") (Or.inl (hw _ (List.mem_of_getElem? (i := 43) rfl))) Via.refl e0 Fe (g := (mkF m 1 #[.val (.ref a1), .val (.int p2)] [(.ref a1)])) rfl rfl (hb hby d7_1)
  have go3 : ∀ t, Steps p.tables e below (T2.setTop (mkF m 4 #[.val (.ref a1), .val (.int p2)] [(.ref ae)])) t → G t := fun t k => go1 t (st2 _ k)
  have go4 : ∀ t, Steps p.tables e below (T2.setTop (mkF m 5 #[.val (.ref a1), .val (.int p2)] [(.int p2), (.ref ae)])) t → G t := fun t k => go3 t (by
      show Steps p.tables e below (T2.setTop (mkF m 4 #[.val (.ref a1), .val (.int p2)] [(.ref ae)])) _
      refine XS.iloadN X2.here hx rfl (hb hby d7_4) rfl ?_
      show Steps p.tables e below (T2.setTop (mkF m 5 #[.val (.ref a1), .val (.int p2)] [(.int p2), (.ref ae)])) _
      exact k)
  have st5 := X2.baloadBooleans hx (j := p2) (v := (.int (own_b (E p2.toInt.toNat)))) (by rw [e2]; exact Ae.1) (State.isArrayOf_alike hZ.alike Ae.2.1) Ae.2.2 (own_in Se hp0 hp1) (He _ hp1) (g := (mkF m 5 #[.val (.ref a1), .val (.int p2)] [(.int p2), (.ref ae)])) rfl rfl (hb hby d7_5)
  have go6 : ∀ t, Steps p.tables e below (T2.setTop (mkF m 6 #[.val (.ref a1), .val (.int p2)] [(.int (own_b (E p2.toInt.toNat)))])) t → G t := fun t k => go4 t (st5 _ k)
  by_cases hE : E p2.toInt.toNat = false
  · have hv : own_b (E p2.toInt.toNat && !(R p2.toInt.toNat)) = (0 : Int32) := by rw [hE]; rfl
    have go7 : ∀ t, Steps p.tables e below (T2.setTop (mkF m 19 #[.val (.ref a1), .val (.int p2)] [(.int (0 : Int32))])) t → G t := fun t k => go6 t (by
        show Steps p.tables e below (T2.setTop (mkF m 6 #[.val (.ref a1), .val (.int p2)] [(.int (own_b (E p2.toInt.toNat)))])) _
        refine XS.ifYes X2.here hx rfl (pc0 := 6) (pc' := 18) rfl (hb hby d7_6) rfl ((if0 _ _).trans (teq (own_b0 hE)).1) (by decide) (by decide) ?_
        show Steps p.tables e below (T2.setTop (mkF m 18 #[.val (.ref a1), .val (.int p2)] [])) _
        refine XS.iconst X2.here hx rfl (hb hby d7_18) ?_
        show Steps p.tables e below (T2.setTop (mkF m 19 #[.val (.ref a1), .val (.int p2)] [(.int (0 : Int32))])) _
        exact k)
    obtain ⟨fs, hr, hrun, hended, hW, hsame⟩ := X2.leave (v := some (.int (0 : Int32))) (fun h => by rw [Bd.returns] at h; cases h)
    refine ⟨_, _, fin _ (go7 _ ?_), hrun, hended, _, _, rfl, ?_, ⟨_, rfl⟩, hW, hsame.mono (by decide) (by decide)⟩
    · exact retN X2 hx (t := .boolean) Bd.returns (by simp) (hb hby d7_19) hr
    · show Q7 Z a1 p2 ae ar av aq n ex ac E R A h0 n0 _ T2.heap _
      rw [e2]
      exact ⟨by rw [hv], N0, own_heap_eq H (fun _ _ => rfl) (fun j _ => by rw [hE]; simp) (fun _ _ => rfl)⟩
  · have hE' : E p2.toInt.toNat = true := by simpa using hE
    have go8 : ∀ t, Steps p.tables e below (T2.setTop (mkF m 10 #[.val (.ref a1), .val (.int p2)] [(.ref a1)])) t → G t := fun t k => go6 t (by
        show Steps p.tables e below (T2.setTop (mkF m 6 #[.val (.ref a1), .val (.int p2)] [(.int (own_b (E p2.toInt.toNat)))])) _
        refine XS.ifNo X2.here hx rfl (hb hby d7_6) rfl ((if0 _ _).trans (feq (own_bn hE)).1) ?_
        show Steps p.tables e below (T2.setTop (mkF m 9 #[.val (.ref a1), .val (.int p2)] [])) _
        refine XS.aloadN X2.here hx rfl (hb hby d7_9) rfl rfl ?_
        show Steps p.tables e below (T2.setTop (mkF m 10 #[.val (.ref a1), .val (.int p2)] [(.ref a1)])) _
        exact k)
    obtain ⟨T9, X9, e9, st9⟩ := getF X2 hx hZ hown (host := "") (Or.inl (hw _ (List.mem_of_getElem? (i := 45) rfl))) Via.refl e2 Fr' (g := (mkF m 10 #[.val (.ref a1), .val (.int p2)] [(.ref a1)])) rfl rfl (hb hby d7_10)
    have go10 : ∀ t, Steps p.tables e below (T9.setTop (mkF m 13 #[.val (.ref a1), .val (.int p2)] [(.ref ar)])) t → G t := fun t k => go8 t (st9 _ k)
    have go11 : ∀ t, Steps p.tables e below (T9.setTop (mkF m 14 #[.val (.ref a1), .val (.int p2)] [(.int p2), (.ref ar)])) t → G t := fun t k => go10 t (by
        show Steps p.tables e below (T9.setTop (mkF m 13 #[.val (.ref a1), .val (.int p2)] [(.ref ar)])) _
        refine XS.iloadN X9.here hx rfl (hb hby d7_13) rfl ?_
        show Steps p.tables e below (T9.setTop (mkF m 14 #[.val (.ref a1), .val (.int p2)] [(.int p2), (.ref ar)])) _
        exact k)
    have st12 := X9.baloadBooleans hx (j := p2) (v := (.int (own_b (R p2.toInt.toNat)))) (by rw [e9]; exact Ar.1) (State.isArrayOf_alike hZ.alike Ar.2.1) Ar.2.2 (own_in Sr hp0 hp1) (Hr _ hp1) (g := (mkF m 14 #[.val (.ref a1), .val (.int p2)] [(.int p2), (.ref ar)])) rfl rfl (hb hby d7_14)
    have go13 : ∀ t, Steps p.tables e below (T9.setTop (mkF m 15 #[.val (.ref a1), .val (.int p2)] [(.int (own_b (R p2.toInt.toNat)))])) t → G t := fun t k => go11 t (st12 _ k)
    by_cases hR : R p2.toInt.toNat = false
    · have hv : own_b (E p2.toInt.toNat && !(R p2.toInt.toNat)) = (1 : Int32) := by rw [hE', hR]; rfl
      have go14 : ∀ t, Steps p.tables e below (T9.setTop (mkF m 21 #[.val (.ref a1), .val (.int p2)] [(.ref a1)])) t → G t := fun t k => go13 t (by
          show Steps p.tables e below (T9.setTop (mkF m 15 #[.val (.ref a1), .val (.int p2)] [(.int (own_b (R p2.toInt.toNat)))])) _
          refine XS.ifYes X9.here hx rfl (pc0 := 15) (pc' := 20) rfl (hb hby d7_15) rfl ((if0 _ _).trans (teq (own_b0 hR)).1) (by decide) (by decide) ?_
          show Steps p.tables e below (T9.setTop (mkF m 20 #[.val (.ref a1), .val (.int p2)] [])) _
          refine XS.aloadN X9.here hx rfl (hb hby d7_20) rfl rfl ?_
          show Steps p.tables e below (T9.setTop (mkF m 21 #[.val (.ref a1), .val (.int p2)] [(.ref a1)])) _
          exact k)
      obtain ⟨T15, X15, e15, st15⟩ := getF X9 hx hZ hown (host := "") (Or.inl (hw _ (List.mem_of_getElem? (i := 45) rfl))) Via.refl e9 Fr' (g := (mkF m 21 #[.val (.ref a1), .val (.int p2)] [(.ref a1)])) rfl rfl (hb hby d7_21)
      have go16 : ∀ t, Steps p.tables e below (T15.setTop (mkF m 24 #[.val (.ref a1), .val (.int p2)] [(.ref ar)])) t → G t := fun t k => go14 t (st15 _ k)
      have go17 : ∀ t, Steps p.tables e below (T15.setTop (mkF m 26 #[.val (.ref a1), .val (.int p2)] [(.int (1 : Int32)), (.int p2), (.ref ar)])) t → G t := fun t k => go16 t (by
          show Steps p.tables e below (T15.setTop (mkF m 24 #[.val (.ref a1), .val (.int p2)] [(.ref ar)])) _
          refine XS.iloadN X15.here hx rfl (hb hby d7_24) rfl ?_
          show Steps p.tables e below (T15.setTop (mkF m 25 #[.val (.ref a1), .val (.int p2)] [(.int p2), (.ref ar)])) _
          refine XS.iconst X15.here hx rfl (hb hby d7_25) ?_
          show Steps p.tables e below (T15.setTop (mkF m 26 #[.val (.ref a1), .val (.int p2)] [(.int (1 : Int32)), (.int p2), (.ref ar)])) _
          exact k)
      obtain ⟨T18, h18, X18, e18, W18, st18⟩ := stZ X15 hx hZ e15 Ar (j := p2) (own_in Sr hp0 hp1) (g := (mkF m 26 #[.val (.ref a1), .val (.int p2)] [(.int (1 : Int32)), (.int p2), (.ref ar)])) rfl rfl (hb hby d7_26)
      have N18 := Fr.snoc X18 N0 (Nat.le_trans G1 (Nat.le_of_lt (Nat.lt_trans d1 d2)))
      have go19 : ∀ t, Steps p.tables e below (T18.setTop (mkF m 27 #[.val (.ref a1), .val (.int p2)] [])) t → G t := fun t k => go17 t (st18 _ k)
      have go20 : ∀ t, Steps p.tables e below (T18.setTop (mkF m 28 #[.val (.ref a1), .val (.int p2)] [(.int (1 : Int32))])) t → G t := fun t k => go19 t (by
          show Steps p.tables e below (T18.setTop (mkF m 27 #[.val (.ref a1), .val (.int p2)] [])) _
          refine XS.iconst X18.here hx rfl (hb hby d7_27) ?_
          show Steps p.tables e below (T18.setTop (mkF m 28 #[.val (.ref a1), .val (.int p2)] [(.int (1 : Int32))])) _
          exact k)
      obtain ⟨fs, hr, hrun, hended, hW, hsame⟩ := X18.leave (v := some (.int (1 : Int32))) (fun h => by rw [Bd.returns] at h; cases h)
      refine ⟨_, _, fin _ (go20 _ ?_), hrun, hended, _, _, rfl, ?_, ⟨_, rfl⟩, hW, hsame.mono (by decide) (by decide)⟩
      · exact retN X18 hx (t := .boolean) Bd.returns (by simp) (hb hby d7_28) hr
      · show Q7 Z a1 p2 ae ar av aq n ex ac E R A h0 n0 _ T18.heap _
        rw [e18]
        exact ⟨by rw [hv], N18, own_heap_eq ((own_wr H W18).2.1 rfl) (fun _ _ => rfl) (fun j _ => by rw [hE', Bool.and_true]; rfl) (fun _ _ => rfl)⟩
    · have hR' : R p2.toInt.toNat = true := by simpa using hR
      have hv : own_b (E p2.toInt.toNat && !(R p2.toInt.toNat)) = (0 : Int32) := by rw [hE', hR']; rfl
      have go21 : ∀ t, Steps p.tables e below (T9.setTop (mkF m 19 #[.val (.ref a1), .val (.int p2)] [(.int (0 : Int32))])) t → G t := fun t k => go13 t (by
          show Steps p.tables e below (T9.setTop (mkF m 15 #[.val (.ref a1), .val (.int p2)] [(.int (own_b (R p2.toInt.toNat)))])) _
          refine XS.ifNo X9.here hx rfl (hb hby d7_15) rfl ((if0 _ _).trans (feq (own_bn hR)).1) ?_
          show Steps p.tables e below (T9.setTop (mkF m 18 #[.val (.ref a1), .val (.int p2)] [])) _
          refine XS.iconst X9.here hx rfl (hb hby d7_18) ?_
          show Steps p.tables e below (T9.setTop (mkF m 19 #[.val (.ref a1), .val (.int p2)] [(.int (0 : Int32))])) _
          exact k)
      obtain ⟨fs, hr, hrun, hended, hW, hsame⟩ := X9.leave (v := some (.int (0 : Int32))) (fun h => by rw [Bd.returns] at h; cases h)
      refine ⟨_, _, fin _ (go21 _ ?_), hrun, hended, _, _, rfl, ?_, ⟨_, rfl⟩, hW, hsame.mono (by decide) (by decide)⟩
      · exact retN X9 hx (t := .boolean) Bd.returns (by simp) (hb hby d7_19) hr
      · show Q7 Z a1 p2 ae ar av aq n ex ac E R A h0 n0 _ T9.heap _
        rw [e9]
        exact ⟨by rw [hv], N0, own_heap_eq H (fun _ _ => rfl) (fun j _ => by by_cases u : j = p2.toInt.toNat; (rw [u, hR']; simp); (simp only [decide_eq_false u, Bool.false_and, Bool.or_false])) (fun _ _ => rfl)⟩
theorem d8_0 : decode prog_38_method_5_code 0 = .ok (.iconst 0, 1) := by decide +kernel
theorem d8_1 : decode prog_38_method_5_code 1 = .ok (.istore_n 1, 1) := by decide +kernel
theorem d8_2 : decode prog_38_method_5_code 2 = .ok (.iload_n 1, 1) := by decide +kernel
theorem d8_3 : decode prog_38_method_5_code 3 = .ok (.aload_n 0, 1) := by decide +kernel
theorem d8_4 : decode prog_38_method_5_code 4 = .ok (.getfield 16, 3) := by decide +kernel
theorem d8_7 : decode prog_38_method_5_code 7 = .ok (.if_icmp .ge 64, 3) := by decide +kernel
theorem d8_10 : decode prog_38_method_5_code 10 = .ok (.aload_n 0, 1) := by decide +kernel
theorem d8_11 : decode prog_38_method_5_code 11 = .ok (.getfield 39, 3) := by decide +kernel
theorem d8_14 : decode prog_38_method_5_code 14 = .ok (.iload_n 1, 1) := by decide +kernel
theorem d8_15 : decode prog_38_method_5_code 15 = .ok (.iaload, 1) := by decide +kernel
theorem d8_16 : decode prog_38_method_5_code 16 = .ok (.aload_n 0, 1) := by decide +kernel
theorem d8_17 : decode prog_38_method_5_code 17 = .ok (.getfield 33, 3) := by decide +kernel
theorem d8_20 : decode prog_38_method_5_code 20 = .ok (.iload_n 1, 1) := by decide +kernel
theorem d8_21 : decode prog_38_method_5_code 21 = .ok (.baload, 1) := by decide +kernel
theorem d8_22 : decode prog_38_method_5_code 22 = .ok (.ifCond .eq 7, 3) := by decide +kernel
theorem d8_25 : decode prog_38_method_5_code 25 = .ok (.iconst 1, 1) := by decide +kernel
theorem d8_26 : decode prog_38_method_5_code 26 = .ok (.goto 4, 3) := by decide +kernel
theorem d8_29 : decode prog_38_method_5_code 29 = .ok (.iconst 0, 1) := by decide +kernel
theorem d8_30 : decode prog_38_method_5_code 30 = .ok (.iadd, 1) := by decide +kernel
theorem d8_31 : decode prog_38_method_5_code 31 = .ok (.i2l, 1) := by decide +kernel
theorem d8_32 : decode prog_38_method_5_code 32 = .ok (.lstore_n 2, 1) := by decide +kernel
theorem d8_33 : decode prog_38_method_5_code 33 = .ok (.lload_n 2, 1) := by decide +kernel
theorem d8_34 : decode prog_38_method_5_code 34 = .ok (.aload_n 0, 1) := by decide +kernel
theorem d8_35 : decode prog_38_method_5_code 35 = .ok (.getfield 22, 3) := by decide +kernel
theorem d8_38 : decode prog_38_method_5_code 38 = .ok (.lcmp, 1) := by decide +kernel
theorem d8_39 : decode prog_38_method_5_code 39 = .ok (.ifCond .lt 10, 3) := by decide +kernel
theorem d8_42 : decode prog_38_method_5_code 42 = .ok (.aload_n 0, 1) := by decide +kernel
theorem d8_43 : decode prog_38_method_5_code 43 = .ok (.getfield 29, 3) := by decide +kernel
theorem d8_46 : decode prog_38_method_5_code 46 = .ok (.iload_n 1, 1) := by decide +kernel
theorem d8_47 : decode prog_38_method_5_code 47 = .ok (.iconst 1, 1) := by decide +kernel
theorem d8_48 : decode prog_38_method_5_code 48 = .ok (.bastore, 1) := by decide +kernel
theorem d8_49 : decode prog_38_method_5_code 49 = .ok (.lload_n 2, 1) := by decide +kernel
theorem d8_50 : decode prog_38_method_5_code 50 = .ok (.aload_n 0, 1) := by decide +kernel
theorem d8_51 : decode prog_38_method_5_code 51 = .ok (.getfield 26, 3) := by decide +kernel
theorem d8_54 : decode prog_38_method_5_code 54 = .ok (.lcmp, 1) := by decide +kernel
theorem d8_55 : decode prog_38_method_5_code 55 = .ok (.ifCond .lt 10, 3) := by decide +kernel
theorem d8_58 : decode prog_38_method_5_code 58 = .ok (.aload_n 0, 1) := by decide +kernel
theorem d8_59 : decode prog_38_method_5_code 59 = .ok (.getfield 36, 3) := by decide +kernel
theorem d8_62 : decode prog_38_method_5_code 62 = .ok (.iload_n 1, 1) := by decide +kernel
theorem d8_63 : decode prog_38_method_5_code 63 = .ok (.iconst 1, 1) := by decide +kernel
theorem d8_64 : decode prog_38_method_5_code 64 = .ok (.bastore, 1) := by decide +kernel
theorem d8_65 : decode prog_38_method_5_code 65 = .ok (.iinc 1 1, 3) := by decide +kernel
theorem d8_68 : decode prog_38_method_5_code 68 = .ok (.goto (-66), 3) := by decide +kernel
theorem d8_71 : decode prog_38_method_5_code 71 = .ok (.return_, 1) := by decide +kernel
theorem pn_8 : plainName "com/example/halfmesh/halfmesh/CompleteRelay" = true := by first | (simp [plainName, overriddenIn]; done) | decide +kernel
theorem ef_8 (m : MethodId) (a1 : Addr) : entryFrame m #[(.ref a1)] 4 = mkF m 0 #[.val (.ref a1), .unset, .unset, .unset] [] := by first | (simp [entryFrame, mkF, argsToLocals, Value.category]; done) | rfl
set_option maxRecDepth 65536 in
set_option maxHeartbeats 40000000 in
theorem tn8 {p : Program} {l : Launch} {e : Env} {s : State} {m : MethodId} {args : Array Value} {below : List Frame} {meth : Method} {c : Code} {Z : State} {a0 : Array Value} {Ro : Room} {cells slots : Nat} (a1 : Addr) (ae ar av aq : Addr) (n : Nat) (ex ac : Int64) (E R A : Nat → Bool) (i : Nat) (s2 s3 : Slot) (n0 : Nat) (hx : p.tables.exec = Jvm.exec) (hZ : Z.Warmed39 s.vm) (hw : ∀ d ∈ tables_1, d.before a0 Z = true) (hby : c.code = prog_38_method_5_code) (hml : c.maxLocals = 4) (hown : s.vm.findClass "com/example/halfmesh/halfmesh/CompleteRelay" = some m.cls)
    (T0 : State) (h0 : Heap) (locs : List Loc) (X0 : Stand p l e Ro s m args below meth c T0 locs cells slots) (e0 : T0.heap = h0) (N0 : Fr n0 locs) (Z0 : n0 ≤ h0.size) (H : own_heap Z h0 n0 a1 ae ar av aq n ex ac E R A) (hi : i < n) (hn5 : n ≤ 5) (hs : ∀ (x : Addr) (y : Int32) (z : Int64), storeLocals #[.val (.ref x), .val (.int y), s2, s3] 2 (.long z) = some #[.val (.ref x), .val (.int y), .val (.long z), .second]) :
    ∃ (T' : State) (h' : Heap) (locs' : List Loc), Stand p l e Ro s m args below meth c T' locs' cells slots ∧ T'.heap = h' ∧ Fr n0 locs' ∧ n0 ≤ h'.size ∧ (own_heap Z h' n0 a1 ae ar av aq n ex ac (fun j => E j || (decide (j = i) && decide (ex.toInt ≤ own_h (R i)))) R (fun j => A j || (decide (j = i) && decide (ac.toInt ≤ own_h (R i))))) ∧
      ∀ t, Steps p.tables e below (T'.setTop (mkF m 2 #[.val (.ref a1), .val (.int (Int32.ofNat (i + 1))), .val (.long (((0 : Int32) + (own_b (R i))).toInt64)), .second] [])) t → Steps p.tables e below (T0.setTop (mkF m 2 #[.val (.ref a1), .val (.int (Int32.ofNat i)), s2, s3] [])) t := by
  obtain ⟨G, hG⟩ : ∃ G : State → Prop, G = fun t => Steps p.tables e below (T0.setTop (mkF m 2 #[.val (.ref a1), .val (.int (Int32.ofNat i)), s2, s3] [])) t := ⟨_, rfl⟩
  have fin : ∀ t, G t → Steps p.tables e below (T0.setTop (mkF m 2 #[.val (.ref a1), .val (.int (Int32.ofNat i)), s2, s3] [])) t := by rw [hG]; exact fun _ k => k
  have go0 : ∀ t, Steps p.tables e below (T0.setTop (mkF m 2 #[.val (.ref a1), .val (.int (Int32.ofNat i)), s2, s3] [])) t → G t := by rw [hG]; exact fun _ k => k
  obtain ⟨⟨E1, Fn, Fx, Fa, Fe, Fr', Ft, Fq⟩, ⟨⟨ce, Ae, Se, He⟩, ⟨cr, Ar, Sr, Hr⟩, ⟨ct, At, St, Ht⟩, ⟨cq, Aq, Sq, Hq⟩⟩, ⟨d1, d2, d3, d4⟩, G1, G2⟩ := id H
  have hiv : (Int32.ofNat i).toInt = i := own_ofNat (by omega)
  have hnv : (Int32.ofNat n).toInt = n := own_ofNat (by omega)
  have hic : (Int32.ofNat i).toNatClampNeg = i := by show (Int32.ofNat i).toInt.toNat = _; omega
  have hp0 : 0 ≤ (Int32.ofNat i).toInt := by omega
  have hp1 : (Int32.ofNat i).toInt.toNat < n := by omega
  have go1 : ∀ t, Steps p.tables e below (T0.setTop (mkF m 4 #[.val (.ref a1), .val (.int (Int32.ofNat i)), s2, s3] [(.ref a1), (.int (Int32.ofNat i))])) t → G t := fun t k => go0 t (by
      show Steps p.tables e below (T0.setTop (mkF m 2 #[.val (.ref a1), .val (.int (Int32.ofNat i)), s2, s3] [])) _
      refine XS.iloadN X0.here hx rfl (hb hby d8_2) rfl ?_
      show Steps p.tables e below (T0.setTop (mkF m 3 #[.val (.ref a1), .val (.int (Int32.ofNat i)), s2, s3] [(.int (Int32.ofNat i))])) _
      refine XS.aloadN X0.here hx rfl (hb hby d8_3) rfl rfl ?_
      show Steps p.tables e below (T0.setTop (mkF m 4 #[.val (.ref a1), .val (.int (Int32.ofNat i)), s2, s3] [(.ref a1), (.int (Int32.ofNat i))])) _
      exact k)
  obtain ⟨T2, X2, e2, st2⟩ := getF X0 hx hZ hown (host := "") (Or.inl (hw _ (List.mem_of_getElem? (i := 35) rfl))) Via.refl e0 Fn (g := (mkF m 4 #[.val (.ref a1), .val (.int (Int32.ofNat i)), s2, s3] [(.ref a1), (.int (Int32.ofNat i))])) rfl rfl (hb hby d8_4)
  have go3 : ∀ t, Steps p.tables e below (T2.setTop (mkF m 7 #[.val (.ref a1), .val (.int (Int32.ofNat i)), s2, s3] [(.int (Int32.ofNat n)), (.int (Int32.ofNat i))])) t → G t := fun t k => go1 t (st2 _ k)
  have go4 : ∀ t, Steps p.tables e below (T2.setTop (mkF m 11 #[.val (.ref a1), .val (.int (Int32.ofNat i)), s2, s3] [(.ref a1)])) t → G t := fun t k => go3 t (by
      show Steps p.tables e below (T2.setTop (mkF m 7 #[.val (.ref a1), .val (.int (Int32.ofNat i)), s2, s3] [(.int (Int32.ofNat n)), (.int (Int32.ofNat i))])) _
      refine XS.icmpNo X2.here hx rfl (hb hby d8_7) rfl (tlt (Int32.lt_iff_toInt_lt.mpr (by omega))).2.1 ?_
      show Steps p.tables e below (T2.setTop (mkF m 10 #[.val (.ref a1), .val (.int (Int32.ofNat i)), s2, s3] [])) _
      refine XS.aloadN X2.here hx rfl (hb hby d8_10) rfl rfl ?_
      show Steps p.tables e below (T2.setTop (mkF m 11 #[.val (.ref a1), .val (.int (Int32.ofNat i)), s2, s3] [(.ref a1)])) _
      exact k)
  obtain ⟨T5, X5, e5, st5⟩ := getF X2 hx hZ hown (host := "") (Or.inl (hw _ (List.mem_of_getElem? (i := 50) rfl))) Via.refl e2 Fq (g := (mkF m 11 #[.val (.ref a1), .val (.int (Int32.ofNat i)), s2, s3] [(.ref a1)])) rfl rfl (hb hby d8_11)
  have go6 : ∀ t, Steps p.tables e below (T5.setTop (mkF m 14 #[.val (.ref a1), .val (.int (Int32.ofNat i)), s2, s3] [(.ref aq)])) t → G t := fun t k => go4 t (st5 _ k)
  have go7 : ∀ t, Steps p.tables e below (T5.setTop (mkF m 15 #[.val (.ref a1), .val (.int (Int32.ofNat i)), s2, s3] [(.int (Int32.ofNat i)), (.ref aq)])) t → G t := fun t k => go6 t (by
      show Steps p.tables e below (T5.setTop (mkF m 14 #[.val (.ref a1), .val (.int (Int32.ofNat i)), s2, s3] [(.ref aq)])) _
      refine XS.iloadN X5.here hx rfl (hb hby d8_14) rfl ?_
      show Steps p.tables e below (T5.setTop (mkF m 15 #[.val (.ref a1), .val (.int (Int32.ofNat i)), s2, s3] [(.int (Int32.ofNat i)), (.ref aq)])) _
      exact k)
  have st8 := X5.iaload hx (j := (Int32.ofNat i)) (v := (.int (0 : Int32))) (by rw [e5]; exact Aq.1) (State.isArrayOf_alike hZ.alike Aq.2.1) Aq.2.2 (own_in Sq hp0 hp1) (Hq _ hp1) (g := (mkF m 15 #[.val (.ref a1), .val (.int (Int32.ofNat i)), s2, s3] [(.int (Int32.ofNat i)), (.ref aq)])) rfl rfl (hb hby d8_15)
  have go9 : ∀ t, Steps p.tables e below (T5.setTop (mkF m 16 #[.val (.ref a1), .val (.int (Int32.ofNat i)), s2, s3] [(.int (0 : Int32))])) t → G t := fun t k => go7 t (st8 _ k)
  have go10 : ∀ t, Steps p.tables e below (T5.setTop (mkF m 17 #[.val (.ref a1), .val (.int (Int32.ofNat i)), s2, s3] [(.ref a1), (.int (0 : Int32))])) t → G t := fun t k => go9 t (by
      show Steps p.tables e below (T5.setTop (mkF m 16 #[.val (.ref a1), .val (.int (Int32.ofNat i)), s2, s3] [(.int (0 : Int32))])) _
      refine XS.aloadN X5.here hx rfl (hb hby d8_16) rfl rfl ?_
      show Steps p.tables e below (T5.setTop (mkF m 17 #[.val (.ref a1), .val (.int (Int32.ofNat i)), s2, s3] [(.ref a1), (.int (0 : Int32))])) _
      exact k)
  obtain ⟨T11, X11, e11, st11⟩ := getF X5 hx hZ hown (host := "") (Or.inl (hw _ (List.mem_of_getElem? (i := 45) rfl))) Via.refl e5 Fr' (g := (mkF m 17 #[.val (.ref a1), .val (.int (Int32.ofNat i)), s2, s3] [(.ref a1), (.int (0 : Int32))])) rfl rfl (hb hby d8_17)
  have go12 : ∀ t, Steps p.tables e below (T11.setTop (mkF m 20 #[.val (.ref a1), .val (.int (Int32.ofNat i)), s2, s3] [(.ref ar), (.int (0 : Int32))])) t → G t := fun t k => go10 t (st11 _ k)
  have go13 : ∀ t, Steps p.tables e below (T11.setTop (mkF m 21 #[.val (.ref a1), .val (.int (Int32.ofNat i)), s2, s3] [(.int (Int32.ofNat i)), (.ref ar), (.int (0 : Int32))])) t → G t := fun t k => go12 t (by
      show Steps p.tables e below (T11.setTop (mkF m 20 #[.val (.ref a1), .val (.int (Int32.ofNat i)), s2, s3] [(.ref ar), (.int (0 : Int32))])) _
      refine XS.iloadN X11.here hx rfl (hb hby d8_20) rfl ?_
      show Steps p.tables e below (T11.setTop (mkF m 21 #[.val (.ref a1), .val (.int (Int32.ofNat i)), s2, s3] [(.int (Int32.ofNat i)), (.ref ar), (.int (0 : Int32))])) _
      exact k)
  have hatr : cr.slots[(Int32.ofNat i).toNatClampNeg]? = some (.int (own_b (R i))) := by rw [hic]; exact Hr i hi
  have st14 := X11.baloadBooleans hx (j := (Int32.ofNat i)) (v := (.int (own_b (R i)))) (by rw [e11]; exact Ar.1) (State.isArrayOf_alike hZ.alike Ar.2.1) Ar.2.2 (own_in Sr hp0 hp1) hatr (g := (mkF m 21 #[.val (.ref a1), .val (.int (Int32.ofNat i)), s2, s3] [(.int (Int32.ofNat i)), (.ref ar), (.int (0 : Int32))])) rfl rfl (hb hby d8_21)
  have go15 : ∀ t, Steps p.tables e below (T11.setTop (mkF m 22 #[.val (.ref a1), .val (.int (Int32.ofNat i)), s2, s3] [(.int (own_b (R i))), (.int (0 : Int32))])) t → G t := fun t k => go13 t (st14 _ k)
  have go16 : ∀ t, Steps p.tables e below (T11.setTop (mkF m 30 #[.val (.ref a1), .val (.int (Int32.ofNat i)), s2, s3] [(.int (own_b (R i))), (.int (0 : Int32))])) t → G t := fun t k => go15 t (by
      show Steps p.tables e below (T11.setTop (mkF m 22 #[.val (.ref a1), .val (.int (Int32.ofNat i)), s2, s3] [(.int (own_b (R i))), (.int (0 : Int32))])) _
      by_cases h22 : R i = false
      · refine XS.ifYes X11.here hx rfl (pc0 := 22) (pc' := 29) rfl (hb hby d8_22) rfl ((if0 _ _).trans (teq (own_b0 h22)).1) (by decide) (by decide) ?_
        show Steps p.tables e below (T11.setTop (mkF m 29 #[.val (.ref a1), .val (.int (Int32.ofNat i)), s2, s3] [(.int (0 : Int32))])) _
        refine XS.iconst X11.here hx rfl (hb hby d8_29) ?_
        show Steps p.tables e below (T11.setTop (mkF m 30 #[.val (.ref a1), .val (.int (Int32.ofNat i)), s2, s3] [(.int (0 : Int32)), (.int (0 : Int32))])) _
        have hv : own_b (R i) = (0 : Int32) := own_b0 h22
        rw [hv] at k
        exact k
      · refine XS.ifNo X11.here hx rfl (hb hby d8_22) rfl ((if0 _ _).trans (feq (own_bn h22)).1) ?_
        show Steps p.tables e below (T11.setTop (mkF m 25 #[.val (.ref a1), .val (.int (Int32.ofNat i)), s2, s3] [(.int (0 : Int32))])) _
        refine XS.iconst X11.here hx rfl (hb hby d8_25) ?_
        show Steps p.tables e below (T11.setTop (mkF m 26 #[.val (.ref a1), .val (.int (Int32.ofNat i)), s2, s3] [(.int (1 : Int32)), (.int (0 : Int32))])) _
        refine XS.goto X11.here hx rfl (pc0 := 26) (pc' := 30) rfl (hb hby d8_26) (by decide) (by decide) ?_
        show Steps p.tables e below (T11.setTop (mkF m 30 #[.val (.ref a1), .val (.int (Int32.ofNat i)), s2, s3] [(.int (1 : Int32)), (.int (0 : Int32))])) _
        have hv : own_b (R i) = (1 : Int32) := own_b1 (by simpa using h22)
        rw [hv] at k
        exact k)
  have go17 : ∀ t, Steps p.tables e below (T11.setTop (mkF m 35 #[.val (.ref a1), .val (.int (Int32.ofNat i)), .val (.long (((0 : Int32) + (own_b (R i))).toInt64)), .second] [(.ref a1), (.long (((0 : Int32) + (own_b (R i))).toInt64))])) t → G t := fun t k => go16 t (by
      show Steps p.tables e below (T11.setTop (mkF m 30 #[.val (.ref a1), .val (.int (Int32.ofNat i)), s2, s3] [(.int (own_b (R i))), (.int (0 : Int32))])) _
      refine XS.iadd X11.here hx rfl (hb hby d8_30) rfl ?_
      show Steps p.tables e below (T11.setTop (mkF m 31 #[.val (.ref a1), .val (.int (Int32.ofNat i)), s2, s3] [(.int ((0 : Int32) + (own_b (R i))))])) _
      refine XS.i2l X11.here hx rfl (hb hby d8_31) rfl ?_
      show Steps p.tables e below (T11.setTop (mkF m 32 #[.val (.ref a1), .val (.int (Int32.ofNat i)), s2, s3] [(.long (((0 : Int32) + (own_b (R i))).toInt64))])) _
      refine XS.lstoreN X11.here hx rfl (hb hby d8_32) rfl (l' := #[.val (.ref a1), .val (.int (Int32.ofNat i)), .val (.long (((0 : Int32) + (own_b (R i))).toInt64)), .second]) (hs _ _ _) ?_
      show Steps p.tables e below (T11.setTop (mkF m 33 #[.val (.ref a1), .val (.int (Int32.ofNat i)), .val (.long (((0 : Int32) + (own_b (R i))).toInt64)), .second] [])) _
      refine XS.lloadN X11.here hx rfl (hb hby d8_33) rfl ?_
      show Steps p.tables e below (T11.setTop (mkF m 34 #[.val (.ref a1), .val (.int (Int32.ofNat i)), .val (.long (((0 : Int32) + (own_b (R i))).toInt64)), .second] [(.long (((0 : Int32) + (own_b (R i))).toInt64))])) _
      refine XS.aloadN X11.here hx rfl (hb hby d8_34) rfl rfl ?_
      show Steps p.tables e below (T11.setTop (mkF m 35 #[.val (.ref a1), .val (.int (Int32.ofNat i)), .val (.long (((0 : Int32) + (own_b (R i))).toInt64)), .second] [(.ref a1), (.long (((0 : Int32) + (own_b (R i))).toInt64))])) _
      exact k)
  obtain ⟨T18, X18, e18, st18⟩ := getF X11 hx hZ hown (host := "") (Or.inl (hw _ (List.mem_of_getElem? (i := 38) rfl))) Via.refl e11 Fx (g := (mkF m 35 #[.val (.ref a1), .val (.int (Int32.ofNat i)), .val (.long (((0 : Int32) + (own_b (R i))).toInt64)), .second] [(.ref a1), (.long (((0 : Int32) + (own_b (R i))).toInt64))])) rfl rfl (hb hby d8_35)
  have go19 : ∀ t, Steps p.tables e below (T18.setTop (mkF m 38 #[.val (.ref a1), .val (.int (Int32.ofNat i)), .val (.long (((0 : Int32) + (own_b (R i))).toInt64)), .second] [(.long ex), (.long (((0 : Int32) + (own_b (R i))).toInt64))])) t → G t := fun t k => go17 t (st18 _ k)
  have hhv := own_hv (R i)
  obtain ⟨T20, h20, locs20, X20, e20, N20, f20_0, go20⟩ : ∃ (T' : State) (h' : Heap) (locs' : List Loc), Stand p l e Ro s m args below meth c T' locs' cells slots ∧ T'.heap = h' ∧ Fr n0 locs' ∧ (own_heap Z h' n0 a1 ae ar av aq n ex ac (fun j => E j || (decide (j = i) && decide (ex.toInt ≤ own_h (R i)))) R A) ∧ (∀ t, Steps p.tables e below (T'.setTop (mkF m 49 #[.val (.ref a1), .val (.int (Int32.ofNat i)), .val (.long (((0 : Int32) + (own_b (R i))).toInt64)), .second] [])) t → G t) := by
    by_cases hlt : ((((0 : Int32) + (own_b (R i))).toInt64)).toInt < ex.toInt
    · have go21 : ∀ t, Steps p.tables e below (T18.setTop (mkF m 49 #[.val (.ref a1), .val (.int (Int32.ofNat i)), .val (.long (((0 : Int32) + (own_b (R i))).toInt64)), .second] [])) t → G t := fun t k => go19 t (by
          show Steps p.tables e below (T18.setTop (mkF m 38 #[.val (.ref a1), .val (.int (Int32.ofNat i)), .val (.long (((0 : Int32) + (own_b (R i))).toInt64)), .second] [(.long ex), (.long (((0 : Int32) + (own_b (R i))).toInt64))])) _
          refine XS.lcmp X18.here hx rfl (hb hby d8_38) rfl ?_
          show Steps p.tables e below (T18.setTop (mkF m 39 #[.val (.ref a1), .val (.int (Int32.ofNat i)), .val (.long (((0 : Int32) + (own_b (R i))).toInt64)), .second] [(.int (lcmpW (((0 : Int32) + (own_b (R i))).toInt64) ex))])) _
          refine XS.ifYes X18.here hx rfl (pc0 := 39) (pc' := 49) rfl (hb hby d8_39) rfl ((if0 _ _).trans (tlt ((lw_lt _ _).mpr (Int64.lt_iff_toInt_lt.mpr hlt))).1) (by decide) (by decide) ?_
          show Steps p.tables e below (T18.setTop (mkF m 49 #[.val (.ref a1), .val (.int (Int32.ofNat i)), .val (.long (((0 : Int32) + (own_b (R i))).toInt64)), .second] [])) _
          exact k)
      exact ⟨T18, h0, _, X18, e18, N0, own_heap_eq H (fun j _ => by rw [show decide (ex.toInt ≤ own_h (R i)) = false from decide_eq_false (by omega)]; simp) (fun _ _ => rfl) (fun _ _ => rfl), go21⟩
    · have go22 : ∀ t, Steps p.tables e below (T18.setTop (mkF m 43 #[.val (.ref a1), .val (.int (Int32.ofNat i)), .val (.long (((0 : Int32) + (own_b (R i))).toInt64)), .second] [(.ref a1)])) t → G t := fun t k => go19 t (by
          show Steps p.tables e below (T18.setTop (mkF m 38 #[.val (.ref a1), .val (.int (Int32.ofNat i)), .val (.long (((0 : Int32) + (own_b (R i))).toInt64)), .second] [(.long ex), (.long (((0 : Int32) + (own_b (R i))).toInt64))])) _
          refine XS.lcmp X18.here hx rfl (hb hby d8_38) rfl ?_
          show Steps p.tables e below (T18.setTop (mkF m 39 #[.val (.ref a1), .val (.int (Int32.ofNat i)), .val (.long (((0 : Int32) + (own_b (R i))).toInt64)), .second] [(.int (lcmpW (((0 : Int32) + (own_b (R i))).toInt64) ex))])) _
          refine XS.ifNo X18.here hx rfl (hb hby d8_39) rfl ((if0 _ _).trans (flt (fun z => hlt (Int64.lt_iff_toInt_lt.mp ((lw_lt _ _).mp z)))).1) ?_
          show Steps p.tables e below (T18.setTop (mkF m 42 #[.val (.ref a1), .val (.int (Int32.ofNat i)), .val (.long (((0 : Int32) + (own_b (R i))).toInt64)), .second] [])) _
          refine XS.aloadN X18.here hx rfl (hb hby d8_42) rfl rfl ?_
          show Steps p.tables e below (T18.setTop (mkF m 43 #[.val (.ref a1), .val (.int (Int32.ofNat i)), .val (.long (((0 : Int32) + (own_b (R i))).toInt64)), .second] [(.ref a1)])) _
          exact k)
      obtain ⟨T23, X23, e23, st23⟩ := getF X18 hx hZ hown (host := "") (Or.inl (hw _ (List.mem_of_getElem? (i := 43) rfl))) Via.refl e18 Fe (g := (mkF m 43 #[.val (.ref a1), .val (.int (Int32.ofNat i)), .val (.long (((0 : Int32) + (own_b (R i))).toInt64)), .second] [(.ref a1)])) rfl rfl (hb hby d8_43)
      have go24 : ∀ t, Steps p.tables e below (T23.setTop (mkF m 46 #[.val (.ref a1), .val (.int (Int32.ofNat i)), .val (.long (((0 : Int32) + (own_b (R i))).toInt64)), .second] [(.ref ae)])) t → G t := fun t k => go22 t (st23 _ k)
      have go25 : ∀ t, Steps p.tables e below (T23.setTop (mkF m 48 #[.val (.ref a1), .val (.int (Int32.ofNat i)), .val (.long (((0 : Int32) + (own_b (R i))).toInt64)), .second] [(.int (1 : Int32)), (.int (Int32.ofNat i)), (.ref ae)])) t → G t := fun t k => go24 t (by
          show Steps p.tables e below (T23.setTop (mkF m 46 #[.val (.ref a1), .val (.int (Int32.ofNat i)), .val (.long (((0 : Int32) + (own_b (R i))).toInt64)), .second] [(.ref ae)])) _
          refine XS.iloadN X23.here hx rfl (hb hby d8_46) rfl ?_
          show Steps p.tables e below (T23.setTop (mkF m 47 #[.val (.ref a1), .val (.int (Int32.ofNat i)), .val (.long (((0 : Int32) + (own_b (R i))).toInt64)), .second] [(.int (Int32.ofNat i)), (.ref ae)])) _
          refine XS.iconst X23.here hx rfl (hb hby d8_47) ?_
          show Steps p.tables e below (T23.setTop (mkF m 48 #[.val (.ref a1), .val (.int (Int32.ofNat i)), .val (.long (((0 : Int32) + (own_b (R i))).toInt64)), .second] [(.int (1 : Int32)), (.int (Int32.ofNat i)), (.ref ae)])) _
          exact k)
      obtain ⟨T26, h26, X26, e26, W26, st26⟩ := stZ X23 hx hZ e23 Ae (j := (Int32.ofNat i)) (own_in Se hp0 hp1) (g := (mkF m 48 #[.val (.ref a1), .val (.int (Int32.ofNat i)), .val (.long (((0 : Int32) + (own_b (R i))).toInt64)), .second] [(.int (1 : Int32)), (.int (Int32.ofNat i)), (.ref ae)])) rfl rfl (hb hby d8_48)
      have N26 := Fr.snoc X26 N0 (Nat.le_trans G1 (Nat.le_of_lt d1))
      have go27 : ∀ t, Steps p.tables e below (T26.setTop (mkF m 49 #[.val (.ref a1), .val (.int (Int32.ofNat i)), .val (.long (((0 : Int32) + (own_b (R i))).toInt64)), .second] [])) t → G t := fun t k => go25 t (st26 _ k)
      exact ⟨T26, h26, _, X26, e26, N26, own_heap_eq ((own_wr H W26).1 rfl) (fun j _ => by rw [hic, show decide (ex.toInt ≤ own_h (R i)) = true from decide_eq_true (by omega), Bool.and_true]) (fun _ _ => rfl) (fun _ _ => rfl), go27⟩
  have H1 := f20_0
  obtain ⟨⟨E1', Fn', Fx', Fa', Fe', Fr'', Ft', Fq'⟩, ⟨⟨ce', Ae', Se', He'⟩, ⟨cr', Ar', Sr', Hr'⟩, ⟨ct', At', St', Ht'⟩, ⟨cq', Aq', Sq', Hq'⟩⟩, ⟨d1, d2, d3, d4⟩, G1, G2⟩ := id H1
  have go28 : ∀ t, Steps p.tables e below (T20.setTop (mkF m 51 #[.val (.ref a1), .val (.int (Int32.ofNat i)), .val (.long (((0 : Int32) + (own_b (R i))).toInt64)), .second] [(.ref a1), (.long (((0 : Int32) + (own_b (R i))).toInt64))])) t → G t := fun t k => go20 t (by
      show Steps p.tables e below (T20.setTop (mkF m 49 #[.val (.ref a1), .val (.int (Int32.ofNat i)), .val (.long (((0 : Int32) + (own_b (R i))).toInt64)), .second] [])) _
      refine XS.lloadN X20.here hx rfl (hb hby d8_49) rfl ?_
      show Steps p.tables e below (T20.setTop (mkF m 50 #[.val (.ref a1), .val (.int (Int32.ofNat i)), .val (.long (((0 : Int32) + (own_b (R i))).toInt64)), .second] [(.long (((0 : Int32) + (own_b (R i))).toInt64))])) _
      refine XS.aloadN X20.here hx rfl (hb hby d8_50) rfl rfl ?_
      show Steps p.tables e below (T20.setTop (mkF m 51 #[.val (.ref a1), .val (.int (Int32.ofNat i)), .val (.long (((0 : Int32) + (own_b (R i))).toInt64)), .second] [(.ref a1), (.long (((0 : Int32) + (own_b (R i))).toInt64))])) _
      exact k)
  obtain ⟨T29, X29, e29, st29⟩ := getF X20 hx hZ hown (host := "") (Or.inl (hw _ (List.mem_of_getElem? (i := 40) rfl))) Via.refl e20 Fa' (g := (mkF m 51 #[.val (.ref a1), .val (.int (Int32.ofNat i)), .val (.long (((0 : Int32) + (own_b (R i))).toInt64)), .second] [(.ref a1), (.long (((0 : Int32) + (own_b (R i))).toInt64))])) rfl rfl (hb hby d8_51)
  have go30 : ∀ t, Steps p.tables e below (T29.setTop (mkF m 54 #[.val (.ref a1), .val (.int (Int32.ofNat i)), .val (.long (((0 : Int32) + (own_b (R i))).toInt64)), .second] [(.long ac), (.long (((0 : Int32) + (own_b (R i))).toInt64))])) t → G t := fun t k => go28 t (st29 _ k)
  obtain ⟨T31, h31, locs31, X31, e31, N31, f31_0, go31⟩ : ∃ (T' : State) (h' : Heap) (locs' : List Loc), Stand p l e Ro s m args below meth c T' locs' cells slots ∧ T'.heap = h' ∧ Fr n0 locs' ∧ (own_heap Z h' n0 a1 ae ar av aq n ex ac (fun j => E j || (decide (j = i) && decide (ex.toInt ≤ own_h (R i)))) R (fun j => A j || (decide (j = i) && decide (ac.toInt ≤ own_h (R i))))) ∧ (∀ t, Steps p.tables e below (T'.setTop (mkF m 65 #[.val (.ref a1), .val (.int (Int32.ofNat i)), .val (.long (((0 : Int32) + (own_b (R i))).toInt64)), .second] [])) t → G t) := by
    by_cases hlt2 : ((((0 : Int32) + (own_b (R i))).toInt64)).toInt < ac.toInt
    · have go32 : ∀ t, Steps p.tables e below (T29.setTop (mkF m 65 #[.val (.ref a1), .val (.int (Int32.ofNat i)), .val (.long (((0 : Int32) + (own_b (R i))).toInt64)), .second] [])) t → G t := fun t k => go30 t (by
          show Steps p.tables e below (T29.setTop (mkF m 54 #[.val (.ref a1), .val (.int (Int32.ofNat i)), .val (.long (((0 : Int32) + (own_b (R i))).toInt64)), .second] [(.long ac), (.long (((0 : Int32) + (own_b (R i))).toInt64))])) _
          refine XS.lcmp X29.here hx rfl (hb hby d8_54) rfl ?_
          show Steps p.tables e below (T29.setTop (mkF m 55 #[.val (.ref a1), .val (.int (Int32.ofNat i)), .val (.long (((0 : Int32) + (own_b (R i))).toInt64)), .second] [(.int (lcmpW (((0 : Int32) + (own_b (R i))).toInt64) ac))])) _
          refine XS.ifYes X29.here hx rfl (pc0 := 55) (pc' := 65) rfl (hb hby d8_55) rfl ((if0 _ _).trans (tlt ((lw_lt _ _).mpr (Int64.lt_iff_toInt_lt.mpr hlt2))).1) (by decide) (by decide) ?_
          show Steps p.tables e below (T29.setTop (mkF m 65 #[.val (.ref a1), .val (.int (Int32.ofNat i)), .val (.long (((0 : Int32) + (own_b (R i))).toInt64)), .second] [])) _
          exact k)
      exact ⟨T29, h20, _, X29, e29, N20, own_heap_eq H1 (fun _ _ => rfl) (fun _ _ => rfl) (fun j _ => by rw [show decide (ac.toInt ≤ own_h (R i)) = false from decide_eq_false (by omega)]; simp), go32⟩
    · have go33 : ∀ t, Steps p.tables e below (T29.setTop (mkF m 59 #[.val (.ref a1), .val (.int (Int32.ofNat i)), .val (.long (((0 : Int32) + (own_b (R i))).toInt64)), .second] [(.ref a1)])) t → G t := fun t k => go30 t (by
          show Steps p.tables e below (T29.setTop (mkF m 54 #[.val (.ref a1), .val (.int (Int32.ofNat i)), .val (.long (((0 : Int32) + (own_b (R i))).toInt64)), .second] [(.long ac), (.long (((0 : Int32) + (own_b (R i))).toInt64))])) _
          refine XS.lcmp X29.here hx rfl (hb hby d8_54) rfl ?_
          show Steps p.tables e below (T29.setTop (mkF m 55 #[.val (.ref a1), .val (.int (Int32.ofNat i)), .val (.long (((0 : Int32) + (own_b (R i))).toInt64)), .second] [(.int (lcmpW (((0 : Int32) + (own_b (R i))).toInt64) ac))])) _
          refine XS.ifNo X29.here hx rfl (hb hby d8_55) rfl ((if0 _ _).trans (flt (fun z => hlt2 (Int64.lt_iff_toInt_lt.mp ((lw_lt _ _).mp z)))).1) ?_
          show Steps p.tables e below (T29.setTop (mkF m 58 #[.val (.ref a1), .val (.int (Int32.ofNat i)), .val (.long (((0 : Int32) + (own_b (R i))).toInt64)), .second] [])) _
          refine XS.aloadN X29.here hx rfl (hb hby d8_58) rfl rfl ?_
          show Steps p.tables e below (T29.setTop (mkF m 59 #[.val (.ref a1), .val (.int (Int32.ofNat i)), .val (.long (((0 : Int32) + (own_b (R i))).toInt64)), .second] [(.ref a1)])) _
          exact k)
      obtain ⟨T34, X34, e34, st34⟩ := getF X29 hx hZ hown (host := "") (Or.inl (hw _ (List.mem_of_getElem? (i := 47) rfl))) Via.refl e29 Ft' (g := (mkF m 59 #[.val (.ref a1), .val (.int (Int32.ofNat i)), .val (.long (((0 : Int32) + (own_b (R i))).toInt64)), .second] [(.ref a1)])) rfl rfl (hb hby d8_59)
      have go35 : ∀ t, Steps p.tables e below (T34.setTop (mkF m 62 #[.val (.ref a1), .val (.int (Int32.ofNat i)), .val (.long (((0 : Int32) + (own_b (R i))).toInt64)), .second] [(.ref av)])) t → G t := fun t k => go33 t (st34 _ k)
      have go36 : ∀ t, Steps p.tables e below (T34.setTop (mkF m 64 #[.val (.ref a1), .val (.int (Int32.ofNat i)), .val (.long (((0 : Int32) + (own_b (R i))).toInt64)), .second] [(.int (1 : Int32)), (.int (Int32.ofNat i)), (.ref av)])) t → G t := fun t k => go35 t (by
          show Steps p.tables e below (T34.setTop (mkF m 62 #[.val (.ref a1), .val (.int (Int32.ofNat i)), .val (.long (((0 : Int32) + (own_b (R i))).toInt64)), .second] [(.ref av)])) _
          refine XS.iloadN X34.here hx rfl (hb hby d8_62) rfl ?_
          show Steps p.tables e below (T34.setTop (mkF m 63 #[.val (.ref a1), .val (.int (Int32.ofNat i)), .val (.long (((0 : Int32) + (own_b (R i))).toInt64)), .second] [(.int (Int32.ofNat i)), (.ref av)])) _
          refine XS.iconst X34.here hx rfl (hb hby d8_63) ?_
          show Steps p.tables e below (T34.setTop (mkF m 64 #[.val (.ref a1), .val (.int (Int32.ofNat i)), .val (.long (((0 : Int32) + (own_b (R i))).toInt64)), .second] [(.int (1 : Int32)), (.int (Int32.ofNat i)), (.ref av)])) _
          exact k)
      obtain ⟨T37, h37, X37, e37, W37, st37⟩ := stZ X34 hx hZ e34 At' (j := (Int32.ofNat i)) (own_in St' hp0 hp1) (g := (mkF m 64 #[.val (.ref a1), .val (.int (Int32.ofNat i)), .val (.long (((0 : Int32) + (own_b (R i))).toInt64)), .second] [(.int (1 : Int32)), (.int (Int32.ofNat i)), (.ref av)])) rfl rfl (hb hby d8_64)
      have N37 := Fr.snoc X37 N20 (Nat.le_trans G1 (Nat.le_of_lt (Nat.lt_trans (Nat.lt_trans d1 d2) d3)))
      have go38 : ∀ t, Steps p.tables e below (T37.setTop (mkF m 65 #[.val (.ref a1), .val (.int (Int32.ofNat i)), .val (.long (((0 : Int32) + (own_b (R i))).toInt64)), .second] [])) t → G t := fun t k => go36 t (st37 _ k)
      exact ⟨T37, h37, _, X37, e37, N37, own_heap_eq ((own_wr H1 W37).2.2 rfl) (fun _ _ => rfl) (fun _ _ => rfl) (fun j _ => by rw [hic, show decide (ac.toInt ≤ own_h (R i)) = true from decide_eq_true (by omega), Bool.and_true]), go38⟩
  have go39 : ∀ t, Steps p.tables e below (T31.setTop (mkF m 68 #[.val (.ref a1), .val (.int ((Int32.ofNat i) + (1 : Int32))), .val (.long (((0 : Int32) + (own_b (R i))).toInt64)), .second] [])) t → G t := fun t k => go31 t (by
      show Steps p.tables e below (T31.setTop (mkF m 65 #[.val (.ref a1), .val (.int (Int32.ofNat i)), .val (.long (((0 : Int32) + (own_b (R i))).toInt64)), .second] [])) _
      refine XS.iinc X31.here hx rfl (hb hby d8_65) rfl (l' := #[.val (.ref a1), .val (.int ((Int32.ofNat i) + (1 : Int32))), .val (.long (((0 : Int32) + (own_b (R i))).toInt64)), .second]) rfl ?_
      show Steps p.tables e below (T31.setTop (mkF m 68 #[.val (.ref a1), .val (.int ((Int32.ofNat i) + (1 : Int32))), .val (.long (((0 : Int32) + (own_b (R i))).toInt64)), .second] [])) _
      exact k)
  rw [own_one] at go39
  have go40 : ∀ t, Steps p.tables e below (T31.setTop (mkF m 2 #[.val (.ref a1), .val (.int (Int32.ofNat (i + 1))), .val (.long (((0 : Int32) + (own_b (R i))).toInt64)), .second] [])) t → G t := fun t k => go39 t (by
      show Steps p.tables e below (T31.setTop (mkF m 68 #[.val (.ref a1), .val (.int (Int32.ofNat (i + 1))), .val (.long (((0 : Int32) + (own_b (R i))).toInt64)), .second] [])) _
      refine XS.goto X31.here hx rfl (pc0 := 68) (pc' := 2) rfl (hb hby d8_68) (by decide) (by decide) ?_
      show Steps p.tables e below (T31.setTop (mkF m 2 #[.val (.ref a1), .val (.int (Int32.ofNat (i + 1))), .val (.long (((0 : Int32) + (own_b (R i))).toInt64)), .second] [])) _
      exact k)
  exact ⟨T31, h31, _, X31, e31, N31, f31_0.2.2.2.2, f31_0, fun t k => fin t (go40 t k)⟩
theorem loop8 {p : Program} {l : Launch} {e : Env} {s : State} {m : MethodId} {args : Array Value} {below : List Frame} {meth : Method} {c : Code} {Z : State} {a0 : Array Value} {Ro : Room} {cells slots : Nat} (a1 ae ar av aq : Addr) (n : Nat) (ex ac : Int64) (E R A : Nat → Bool) (n0 : Nat) (hx : p.tables.exec = Jvm.exec) (hZ : Z.Warmed39 s.vm) (hw : ∀ d ∈ tables_1, d.before a0 Z = true) (hby : c.code = prog_38_method_5_code) (hml : c.maxLocals = 4) (hown : s.vm.findClass "com/example/halfmesh/halfmesh/CompleteRelay" = some m.cls) (hn5 : n ≤ 5) :
    ∀ (k i : Nat) (s2 s3 : Slot) (T0 : State) (h0 : Heap) (locs : List Loc), i + k = n → Stand p l e Ro s m args below meth c T0 locs cells slots → T0.heap = h0 → Fr n0 locs → n0 ≤ h0.size → own_heap Z h0 n0 a1 ae ar av aq n ex ac (fun j => E j || (decide (j < i) && decide (ex.toInt ≤ own_h (R j)))) R (fun j => A j || (decide (j < i) && decide (ac.toInt ≤ own_h (R j)))) → (∀ (x : Addr) (y : Int32) (z : Int64), storeLocals #[.val (.ref x), .val (.int y), s2, s3] 2 (.long z) = some #[.val (.ref x), .val (.int y), .val (.long z), .second]) →
      ∃ (T' : State) (h' : Heap) (locs' : List Loc) (s2' s3' : Slot), Stand p l e Ro s m args below meth c T' locs' cells slots ∧ T'.heap = h' ∧ Fr n0 locs' ∧ n0 ≤ h'.size ∧ own_heap Z h' n0 a1 ae ar av aq n ex ac (fun j => E j || (decide (j < n) && decide (ex.toInt ≤ own_h (R j)))) R (fun j => A j || (decide (j < n) && decide (ac.toInt ≤ own_h (R j)))) ∧
        ∀ t, Steps p.tables e below (T'.setTop (mkF m 2 #[.val (.ref a1), .val (.int (Int32.ofNat n)), s2', s3'] [])) t → Steps p.tables e below (T0.setTop (mkF m 2 #[.val (.ref a1), .val (.int (Int32.ofNat i)), s2, s3] [])) t := by
  intro k
  induction k with
  | zero =>
    intro i s2 s3 T0 h0 locs hi X0 e0 N0 Z0 H hs
    have hi' : i = n := by omega
    subst hi'
    exact ⟨T0, h0, locs, s2, s3, X0, e0, N0, Z0, H, fun t k => k⟩
  | succ k ih =>
    intro i s2 s3 T0 h0 locs hi X0 e0 N0 Z0 H hs
    obtain ⟨T1, h1, L1, X1, e1, N1, Z1, H1, st1⟩ := tn8 a1 ae ar av aq n ex ac _ R _ i s2 s3 n0 hx hZ hw hby hml hown T0 h0 locs X0 e0 N0 Z0 H (by omega) hn5 hs
    have key : ∀ (f : Nat → Bool) (P : Nat → Bool) (j : Nat), ((f j || (decide (j < i) && P j)) || (decide (j = i) && P i)) = (f j || (decide (j < i + 1) && P j)) := fun f P j => by
      by_cases u : j = i
      · subst u; simp
      · have : (j < i + 1) = (j < i) := by apply propext; omega
        simp only [this, decide_eq_false u, Bool.false_and, Bool.or_false]
    have H1' := own_heap_eq H1 (fun j _ => key E (fun j => decide (ex.toInt ≤ own_h (R j))) j) (fun _ _ => rfl) (fun j _ => key A (fun j => decide (ac.toInt ≤ own_h (R j))) j)
    obtain ⟨T2, h2, L2, t2, t3, X2, e2, N2, Z2, H2, st2⟩ := ih (i + 1) (.val (.long (((0 : Int32) + (own_b (R i))).toInt64))) .second T1 h1 L1 (by omega) X1 e1 N1 Z1 H1' (fun _ _ _ => rfl)
    exact ⟨T2, h2, L2, t2, t3, X2, e2, N2, Z2, H2, fun t k => st1 t (st2 t k)⟩
def Q8 (Z : State) (a1 : Addr) (ae : Addr) (ar : Addr) (av : Addr) (aq : Addr) (n : Nat) (ex : Int64) (ac : Int64) (E : Nat → Bool) (R : Nat → Bool) (A : Nat → Bool) (h0 : Heap) (n0 : Nat) (v : Option Value) (h : Heap) (L : List Loc) : Prop := v = none ∧ Fr n0 L ∧ own_heap Z h n0 a1 ae ar av aq n ex ac (fun j => E j || decide (ex.toInt ≤ own_h (R j))) R (fun j => A j || decide (ac.toInt ≤ own_h (R j)))
set_option maxRecDepth 65536 in
set_option maxHeartbeats 40000000 in
theorem rm8 (l : Launch) (Z : State) (a0 : Array Value) (hw : ∀ d ∈ tables_1, d.before a0 Z = true) (ws : List Jvm.Cond) (a1 : Addr) (ae : Addr) (ar : Addr) (av : Addr) (aq : Addr) (n : Nat) (ex : Int64) (ac : Int64) (E : Nat → Bool) (R : Nat → Bool) (A : Nat → Bool) (h0 : Heap) (n0 : Nat) (Z0 : n0 ≤ h0.size) (H : own_heap Z h0 n0 a1 ae ar av aq n ex ac E R A) (hn5 : n ≤ 5) :
    MetFree l (⟨"com/example/halfmesh/halfmesh/CompleteRelay", "endRelays", "()V"⟩ : MethodName) (head1 (Jvm.Cond.code (⟨"com/example/halfmesh/halfmesh/CompleteRelay", "endRelays", "()V"⟩ : MethodName) prog_38_method_5_code 4 none :: ws) ({ frames := 0, cells := 0, slots := 0, locals := 0 } : Room)) (fun a U => a = #[(.ref a1)] ∧ Z.Warmed39 U.vm ∧ U.heap = h0) (fun _ _ _ _ _ => True) (fun _ U o U' => ∃ v L, o = .returned v ∧ Q8 Z a1 ae ar av aq n ex ac E R A h0 n0 v U'.heap L ∧ FrameEnd U o U' L ({ frames := 0, cells := 0, slots := 0, locals := 0 } : Room).cells ({ frames := 0, cells := 0, slots := 0, locals := 0 } : Room).slots) := by
  refine MetFree.of_bodySF (plainFor_of_name pn_8) hisR ?_
  intro p e s m args below meth c s₁ Bd hml0 hP hK
  obtain ⟨rfl, hZ, hh⟩ := hP
  have hx := Bd.exec
  have hby := Bd.bytes
  have hml : c.maxLocals = 4 := hml0
  have hown : s.vm.findClass "com/example/halfmesh/halfmesh/CompleteRelay" = some m.cls := findClass_of_methodNamed Bd.named
  have hnm := (name_of_methodNamed Bd.named Bd.method).1
  have X0 : Stand p l e ({ frames := 0, cells := 0, slots := 0, locals := 0 } : Room) s m #[(.ref a1)] below meth c s₁ [] 0 0 := Stand.of_body Bd
  have e0 : s₁.heap = h0 := by rw [← hh, Bd.state]; rfl
  have N0 := Fr.nil n0
  have pre0 : ∀ t, Steps p.tables e below (s₁.setTop (mkF m 0 #[.val (.ref a1), .unset, .unset, .unset] [])) t → Steps p.tables e below (s₁.setTop (entryFrame m #[(.ref a1)] 4)) t := fun t k => castTop (ef_8 m a1) k
  obtain ⟨G, hG⟩ : ∃ G : State → Prop, G = fun t => Steps p.tables e below (s₁.setTop (entryFrame m #[(.ref a1)] 4)) t := ⟨_, rfl⟩
  have fin : ∀ t, G t → Steps p.tables e below (s₁.setTop (entryFrame m #[(.ref a1)] 4)) t := by rw [hG]; exact fun _ k => k
  have go0 : ∀ t, Steps p.tables e below (s₁.setTop (mkF m 0 #[.val (.ref a1), .unset, .unset, .unset] [])) t → G t := by rw [hG]; exact pre0
  have go1 : ∀ t, Steps p.tables e below (s₁.setTop (mkF m 2 #[.val (.ref a1), .val (.int (0 : Int32)), .unset, .unset] [])) t → G t := fun t k => go0 t (by
      show Steps p.tables e below (s₁.setTop (mkF m 0 #[.val (.ref a1), .unset, .unset, .unset] [])) _
      refine XS.iconst X0.here hx rfl (hb hby d8_0) ?_
      show Steps p.tables e below (s₁.setTop (mkF m 1 #[.val (.ref a1), .unset, .unset, .unset] [(.int (0 : Int32))])) _
      refine XS.istoreN X0.here hx rfl (hb hby d8_1) rfl (l' := #[.val (.ref a1), .val (.int (0 : Int32)), .unset, .unset]) rfl ?_
      show Steps p.tables e below (s₁.setTop (mkF m 2 #[.val (.ref a1), .val (.int (0 : Int32)), .unset, .unset] [])) _
      exact k)
  have H0 : own_heap Z h0 n0 a1 ae ar av aq n ex ac (fun j => E j || (decide (j < 0) && decide (ex.toInt ≤ own_h (R j)))) R (fun j => A j || (decide (j < 0) && decide (ac.toInt ≤ own_h (R j)))) := own_heap_eq H (fun j _ => by simp) (fun _ _ => rfl) (fun j _ => by simp)
  obtain ⟨TL, hL, locsL, t2, t3, XL, eL, NL, ZL, HL, stL⟩ := loop8 a1 ae ar av aq n ex ac E R A n0 hx hZ hw hby hml hown hn5 n 0 .unset .unset _ h0 _ (by omega) X0 e0 N0 Z0 H0 (fun _ _ _ => rfl)
  have go2 : ∀ t, Steps p.tables e below (TL.setTop (mkF m 2 #[.val (.ref a1), .val (.int (Int32.ofNat n)), t2, t3] [])) t → G t := fun t k => go1 t (stL _ k)
  have go3 : ∀ t, Steps p.tables e below (TL.setTop (mkF m 4 #[.val (.ref a1), .val (.int (Int32.ofNat n)), t2, t3] [(.ref a1), (.int (Int32.ofNat n))])) t → G t := fun t k => go2 t (by
      show Steps p.tables e below (TL.setTop (mkF m 2 #[.val (.ref a1), .val (.int (Int32.ofNat n)), t2, t3] [])) _
      refine XS.iloadN XL.here hx rfl (hb hby d8_2) rfl ?_
      show Steps p.tables e below (TL.setTop (mkF m 3 #[.val (.ref a1), .val (.int (Int32.ofNat n)), t2, t3] [(.int (Int32.ofNat n))])) _
      refine XS.aloadN XL.here hx rfl (hb hby d8_3) rfl rfl ?_
      show Steps p.tables e below (TL.setTop (mkF m 4 #[.val (.ref a1), .val (.int (Int32.ofNat n)), t2, t3] [(.ref a1), (.int (Int32.ofNat n))])) _
      exact k)
  obtain ⟨T4, X4, e4, st4⟩ := getF XL hx hZ hown (host := "") (Or.inl (hw _ (List.mem_of_getElem? (i := 35) rfl))) Via.refl eL HL.1.2.1 (g := (mkF m 4 #[.val (.ref a1), .val (.int (Int32.ofNat n)), t2, t3] [(.ref a1), (.int (Int32.ofNat n))])) rfl rfl (hb hby d8_4)
  have go5 : ∀ t, Steps p.tables e below (T4.setTop (mkF m 7 #[.val (.ref a1), .val (.int (Int32.ofNat n)), t2, t3] [(.int (Int32.ofNat n)), (.int (Int32.ofNat n))])) t → G t := fun t k => go3 t (st4 _ k)
  have go6 : ∀ t, Steps p.tables e below (T4.setTop (mkF m 71 #[.val (.ref a1), .val (.int (Int32.ofNat n)), t2, t3] [])) t → G t := fun t k => go5 t (by
      show Steps p.tables e below (T4.setTop (mkF m 7 #[.val (.ref a1), .val (.int (Int32.ofNat n)), t2, t3] [(.int (Int32.ofNat n)), (.int (Int32.ofNat n))])) _
      refine XS.icmpYes X4.here hx rfl (pc0 := 7) (pc' := 71) rfl (hb hby d8_7) rfl (flt Int32.lt_irrefl).2.1 (by decide) (by decide) ?_
      show Steps p.tables e below (T4.setTop (mkF m 71 #[.val (.ref a1), .val (.int (Int32.ofNat n)), t2, t3] [])) _
      exact k)
  obtain ⟨fs, hr, hrun, hended, hW, hsame⟩ := X4.leave (v := none) (fun _ => rfl)
  refine ⟨_, _, fin _ (go6 _ ?_), hrun, hended, _, _, rfl, ?_, ⟨_, rfl⟩, hW, hsame.mono (by decide) (by decide)⟩
  · exact X4.returnOut hx Bd.returns (hb hby d8_71) hr
  · show Q8 Z a1 ae ar av aq n ex ac E R A h0 n0 _ T4.heap _
    rw [e4]
    exact ⟨rfl, NL, own_heap_eq HL (fun j hj => by rw [decide_eq_true hj, Bool.true_and]) (fun _ _ => rfl) (fun j hj => by rw [decide_eq_true hj, Bool.true_and])⟩
theorem pn_0 : plainName "com/example/halfmesh/halfmesh/CompleteRelayRelaysPinLaw" = true := by first | (simp [plainName, overriddenIn]; done) | decide +kernel
theorem pd_c : parseMethodDescriptor "(II)V" = some ⟨[.int, .int], none⟩ := by decide +kernel
theorem pd_i : parseMethodDescriptor "(I)V" = some ⟨[.int], none⟩ := by decide +kernel
theorem pd_z : parseMethodDescriptor "(I)Z" = some ⟨[.int], some .boolean⟩ := by decide +kernel
theorem ef_0 (m : MethodId) (p1 : Int32) (p2 : Int32) (p3 : Int32) (p4 : Int32) : entryFrame m #[(.int p1), (.int p2), (.int p3), (.int p4)] maxLocals = mkF m 0 #[.val (.int p1), .val (.int p2), .val (.int p3), .val (.int p4), .unset, .unset, .unset, .unset, .unset, .unset, .unset, .unset, .unset, .unset, .unset, .unset, .unset, .unset, .unset, .unset, .unset, .unset, .unset, .unset, .unset] [] := by first | (simp [entryFrame, mkF, argsToLocals, Value.category, maxLocals]; done) | rfl
def Q0 (Z : State) (p1 : Int32) (p2 : Int32) (p3 : Int32) (p4 : Int32) (h0 : Heap) (n0 : Nat) (v : Option Value) (h : Heap) (L : List Loc) : Prop := v = some (.int (1 : Int32)) ∧ Fr n0 L
set_option maxRecDepth 65536 in
set_option maxHeartbeats 40000000 in
theorem rm0 (l : Launch) (Z : State) (a0 : Array Value) (hw : ∀ d ∈ tables_1, d.before a0 Z = true) (ws : List Jvm.Cond) (p1 : Int32) (p2 : Int32) (p3 : Int32) (p4 : Int32) (h0 : Heap) (n0 : Nat) (Z0 : n0 ≤ h0.size) :
    MetFree l x (head1 (Jvm.Cond.code x code maxLocals ret :: ws) room_1) (fun a U => a = #[(.int p1), (.int p2), (.int p3), (.int p4)] ∧ Z.Warmed39 U.vm ∧ U.heap = h0) (fun _ _ _ _ _ => True) (fun _ U o U' => ∃ v L, o = .returned v ∧ Q0 Z p1 p2 p3 p4 h0 n0 v U'.heap L ∧ FrameEnd U o U' L room_1.cells room_1.slots) := by
  refine MetFree.of_bodySF (plainFor_of_name pn_0) hisR ?_
  intro p e s m args below meth c s₁ Bd hml0 hP hK
  obtain ⟨rfl, hZ, hh⟩ := hP
  have hx := Bd.exec
  have hby := Bd.bytes
  have hml : c.maxLocals = 25 := hml0
  have hown : s.vm.findClass "com/example/halfmesh/halfmesh/CompleteRelayRelaysPinLaw" = some m.cls := findClass_of_methodNamed Bd.named
  have hnm := (name_of_methodNamed Bd.named Bd.method).1
  have X0 : Stand p l e room_1 s m #[(.int p1), (.int p2), (.int p3), (.int p4)] below meth c s₁ [] 0 0 := Stand.of_body Bd
  have e0 : s₁.heap = h0 := by rw [← hh, Bd.state]; rfl
  have N0 := Fr.nil n0
  have pre0 : ∀ t, Steps p.tables e below (s₁.setTop (mkF m 0 #[.val (.int p1), .val (.int p2), .val (.int p3), .val (.int p4), .unset, .unset, .unset, .unset, .unset, .unset, .unset, .unset, .unset, .unset, .unset, .unset, .unset, .unset, .unset, .unset, .unset, .unset, .unset, .unset, .unset] [])) t → Steps p.tables e below (s₁.setTop (entryFrame m #[(.int p1), (.int p2), (.int p3), (.int p4)] maxLocals)) t := fun t k => castTop (ef_0 m p1 p2 p3 p4) k
  obtain ⟨G, hG⟩ : ∃ G : State → Prop, G = fun t => Steps p.tables e below (s₁.setTop (entryFrame m #[(.int p1), (.int p2), (.int p3), (.int p4)] maxLocals)) t := ⟨_, rfl⟩
  have fin : ∀ t, G t → Steps p.tables e below (s₁.setTop (entryFrame m #[(.int p1), (.int p2), (.int p3), (.int p4)] maxLocals)) t := by rw [hG]; exact fun _ k => k
  have go0 : ∀ t, Steps p.tables e below (s₁.setTop (mkF m 0 #[.val (.int p1), .val (.int p2), .val (.int p3), .val (.int p4), .unset, .unset, .unset, .unset, .unset, .unset, .unset, .unset, .unset, .unset, .unset, .unset, .unset, .unset, .unset, .unset, .unset, .unset, .unset, .unset, .unset] [])) t → G t := by rw [hG]; exact pre0
  obtain ⟨N, hN2, hN5, hNe⟩ := own_n p1
  obtain ⟨n, hn⟩ : ∃ z : Int32, z = ((p1 &&& (3 : Int32)) + (2 : Int32)) := ⟨_, rfl⟩
  have hnN : n = Int32.ofNat N := hn.trans hNe
  have hnv : n.toInt = N := by rw [hnN]; exact own_ofNat (by omega)
  obtain ⟨nd, hnd⟩ : ∃ z : Int32, z = ((p3 &&& (2147483647 : Int32)) - ((p3 &&& (2147483647 : Int32)) / n) * n) := ⟨_, rfl⟩
  have bnd := own_mod p3 n (by omega)
  rw [← hnd] at bnd
  obtain ⟨ot, hot⟩ : ∃ z : Int32, z = ((nd + (1 : Int32)) - ((nd + (1 : Int32)) / n) * n) := ⟨_, rfl⟩
  have bot := own_next nd n bnd.1 bnd.2 (by omega) (by omega)
  rw [← hot] at bot
  have n1 : nd.toInt.toNat < N := by omega
  have n2 : ot.toInt.toNat < N := by omega
  have n3 : ¬ nd.toInt.toNat = ot.toInt.toNat := by omega
  obtain ⟨ex, hex⟩ : ∃ z : Int64, z = ((n.toInt64) - ((2 : Int64) * (p2.toInt64))) := ⟨_, rfl⟩
  obtain ⟨ac, hac⟩ : ∃ z : Int64, z = ((n.toInt64) - (p2.toInt64)) := ⟨_, rfl⟩
  obtain ⟨b1, hb1⟩ : ∃ z : Bool, z = !(decide ((p4 &&& (1 : Int32)).toInt = 0)) := ⟨_, rfl⟩
  obtain ⟨b2, hb2⟩ : ∃ z : Bool, z = !(decide ((p4 &&& (2 : Int32)).toInt = 0)) := ⟨_, rfl⟩
  obtain ⟨b3, hb3⟩ : ∃ z : Bool, z = !(decide ((p4 &&& (4 : Int32)).toInt = 0)) := ⟨_, rfl⟩
  obtain ⟨xe, hxe⟩ : ∃ z : Bool, z = decide (ex.toInt ≤ 0) := ⟨_, rfl⟩
  obtain ⟨xa, hxa⟩ : ∃ z : Bool, z = decide (ac.toInt ≤ 0) := ⟨_, rfl⟩
  obtain ⟨eN, heN⟩ : ∃ z : Bool, z = (b1 || (b2 && xe)) := ⟨_, rfl⟩
  obtain ⟨eO, heO⟩ : ∃ z : Bool, z = (b3 || (b2 && xe)) := ⟨_, rfl⟩
  obtain ⟨ea, hea⟩ : ∃ z : Bool, z = (b2 && xa) := ⟨_, rfl⟩
  obtain ⟨eA, heA⟩ : ∃ z : Bool, z = (ea || decide (ac.toInt ≤ own_h eN)) := ⟨_, rfl⟩
  obtain ⟨eT, heT⟩ : ∃ z : Bool, z = (!eN && xe) := ⟨_, rfl⟩
  have go1 : ∀ t, Steps p.tables e below (s₁.setTop (mkF m 25 #[.val (.int p1), .val (.int p2), .val (.int p3), .val (.int p4), .val (.int n), .val (.int nd), .val (.int ot), .unset, .unset, .unset, .unset, .unset, .unset, .unset, .unset, .unset, .unset, .unset, .unset, .unset, .unset, .unset, .unset, .unset, .unset] [])) t → G t := fun t k => go0 t (by
      show Steps p.tables e below (s₁.setTop (mkF m 0 #[.val (.int p1), .val (.int p2), .val (.int p3), .val (.int p4), .unset, .unset, .unset, .unset, .unset, .unset, .unset, .unset, .unset, .unset, .unset, .unset, .unset, .unset, .unset, .unset, .unset, .unset, .unset, .unset, .unset] [])) _
      refine XS.iloadN X0.here hx rfl (hb hby at_0) rfl ?_
      show Steps p.tables e below (s₁.setTop (mkF m 1 #[.val (.int p1), .val (.int p2), .val (.int p3), .val (.int p4), .unset, .unset, .unset, .unset, .unset, .unset, .unset, .unset, .unset, .unset, .unset, .unset, .unset, .unset, .unset, .unset, .unset, .unset, .unset, .unset, .unset] [(.int p1)])) _
      refine XS.iconst X0.here hx rfl (hb hby at_1) ?_
      show Steps p.tables e below (s₁.setTop (mkF m 2 #[.val (.int p1), .val (.int p2), .val (.int p3), .val (.int p4), .unset, .unset, .unset, .unset, .unset, .unset, .unset, .unset, .unset, .unset, .unset, .unset, .unset, .unset, .unset, .unset, .unset, .unset, .unset, .unset, .unset] [(.int (3 : Int32)), (.int p1)])) _
      refine XS.iand X0.here hx rfl (hb hby at_2) rfl ?_
      show Steps p.tables e below (s₁.setTop (mkF m 3 #[.val (.int p1), .val (.int p2), .val (.int p3), .val (.int p4), .unset, .unset, .unset, .unset, .unset, .unset, .unset, .unset, .unset, .unset, .unset, .unset, .unset, .unset, .unset, .unset, .unset, .unset, .unset, .unset, .unset] [(.int (p1 &&& (3 : Int32)))])) _
      refine XS.iconst X0.here hx rfl (hb hby at_3) ?_
      show Steps p.tables e below (s₁.setTop (mkF m 4 #[.val (.int p1), .val (.int p2), .val (.int p3), .val (.int p4), .unset, .unset, .unset, .unset, .unset, .unset, .unset, .unset, .unset, .unset, .unset, .unset, .unset, .unset, .unset, .unset, .unset, .unset, .unset, .unset, .unset] [(.int (2 : Int32)), (.int (p1 &&& (3 : Int32)))])) _
      refine XS.iadd X0.here hx rfl (hb hby at_4) rfl ?_
      show Steps p.tables e below (s₁.setTop (mkF m 5 #[.val (.int p1), .val (.int p2), .val (.int p3), .val (.int p4), .unset, .unset, .unset, .unset, .unset, .unset, .unset, .unset, .unset, .unset, .unset, .unset, .unset, .unset, .unset, .unset, .unset, .unset, .unset, .unset, .unset] [(.int ((p1 &&& (3 : Int32)) + (2 : Int32)))])) _
      rw [← hn]
      show Steps p.tables e below (s₁.setTop (mkF m 5 #[.val (.int p1), .val (.int p2), .val (.int p3), .val (.int p4), .unset, .unset, .unset, .unset, .unset, .unset, .unset, .unset, .unset, .unset, .unset, .unset, .unset, .unset, .unset, .unset, .unset, .unset, .unset, .unset, .unset] [(.int n)])) _
      refine XS.istore X0.here hx rfl (hb hby at_5) rfl (l' := #[.val (.int p1), .val (.int p2), .val (.int p3), .val (.int p4), .val (.int n), .unset, .unset, .unset, .unset, .unset, .unset, .unset, .unset, .unset, .unset, .unset, .unset, .unset, .unset, .unset, .unset, .unset, .unset, .unset, .unset]) rfl ?_
      show Steps p.tables e below (s₁.setTop (mkF m 7 #[.val (.int p1), .val (.int p2), .val (.int p3), .val (.int p4), .val (.int n), .unset, .unset, .unset, .unset, .unset, .unset, .unset, .unset, .unset, .unset, .unset, .unset, .unset, .unset, .unset, .unset, .unset, .unset, .unset, .unset] [])) _
      refine XS.iloadN X0.here hx rfl (hb hby at_7) rfl ?_
      show Steps p.tables e below (s₁.setTop (mkF m 8 #[.val (.int p1), .val (.int p2), .val (.int p3), .val (.int p4), .val (.int n), .unset, .unset, .unset, .unset, .unset, .unset, .unset, .unset, .unset, .unset, .unset, .unset, .unset, .unset, .unset, .unset, .unset, .unset, .unset, .unset] [(.int p3)])) _
      refine X0.ldcInt hx hown (mvT hZ (hw _ (List.mem_of_getElem? (i := 0) rfl))) (g := (mkF m 8 #[.val (.int p1), .val (.int p2), .val (.int p3), .val (.int p4), .val (.int n), .unset, .unset, .unset, .unset, .unset, .unset, .unset, .unset, .unset, .unset, .unset, .unset, .unset, .unset, .unset, .unset, .unset, .unset, .unset, .unset] [(.int p3)])) rfl (hb hby at_8) _ ?_
      show Steps p.tables e below (s₁.setTop (mkF m 10 #[.val (.int p1), .val (.int p2), .val (.int p3), .val (.int p4), .val (.int n), .unset, .unset, .unset, .unset, .unset, .unset, .unset, .unset, .unset, .unset, .unset, .unset, .unset, .unset, .unset, .unset, .unset, .unset, .unset, .unset] [(.int (2147483647 : Int32)), (.int p3)])) _
      refine XS.iand X0.here hx rfl (hb hby at_10) rfl ?_
      show Steps p.tables e below (s₁.setTop (mkF m 11 #[.val (.int p1), .val (.int p2), .val (.int p3), .val (.int p4), .val (.int n), .unset, .unset, .unset, .unset, .unset, .unset, .unset, .unset, .unset, .unset, .unset, .unset, .unset, .unset, .unset, .unset, .unset, .unset, .unset, .unset] [(.int (p3 &&& (2147483647 : Int32)))])) _
      refine XS.iload X0.here hx rfl (hb hby at_11) rfl ?_
      show Steps p.tables e below (s₁.setTop (mkF m 13 #[.val (.int p1), .val (.int p2), .val (.int p3), .val (.int p4), .val (.int n), .unset, .unset, .unset, .unset, .unset, .unset, .unset, .unset, .unset, .unset, .unset, .unset, .unset, .unset, .unset, .unset, .unset, .unset, .unset, .unset] [(.int n), (.int (p3 &&& (2147483647 : Int32)))])) _
      refine XS.irem X0.here hx rfl (hb hby at_13) rfl (own_nz (by omega)) ?_
      show Steps p.tables e below (s₁.setTop (mkF m 14 #[.val (.int p1), .val (.int p2), .val (.int p3), .val (.int p4), .val (.int n), .unset, .unset, .unset, .unset, .unset, .unset, .unset, .unset, .unset, .unset, .unset, .unset, .unset, .unset, .unset, .unset, .unset, .unset, .unset, .unset] [(.int ((p3 &&& (2147483647 : Int32)) - ((p3 &&& (2147483647 : Int32)) / n) * n))])) _
      rw [← hnd]
      show Steps p.tables e below (s₁.setTop (mkF m 14 #[.val (.int p1), .val (.int p2), .val (.int p3), .val (.int p4), .val (.int n), .unset, .unset, .unset, .unset, .unset, .unset, .unset, .unset, .unset, .unset, .unset, .unset, .unset, .unset, .unset, .unset, .unset, .unset, .unset, .unset] [(.int nd)])) _
      refine XS.istore X0.here hx rfl (hb hby at_14) rfl (l' := #[.val (.int p1), .val (.int p2), .val (.int p3), .val (.int p4), .val (.int n), .val (.int nd), .unset, .unset, .unset, .unset, .unset, .unset, .unset, .unset, .unset, .unset, .unset, .unset, .unset, .unset, .unset, .unset, .unset, .unset, .unset]) rfl ?_
      show Steps p.tables e below (s₁.setTop (mkF m 16 #[.val (.int p1), .val (.int p2), .val (.int p3), .val (.int p4), .val (.int n), .val (.int nd), .unset, .unset, .unset, .unset, .unset, .unset, .unset, .unset, .unset, .unset, .unset, .unset, .unset, .unset, .unset, .unset, .unset, .unset, .unset] [])) _
      refine XS.iload X0.here hx rfl (hb hby at_16) rfl ?_
      show Steps p.tables e below (s₁.setTop (mkF m 18 #[.val (.int p1), .val (.int p2), .val (.int p3), .val (.int p4), .val (.int n), .val (.int nd), .unset, .unset, .unset, .unset, .unset, .unset, .unset, .unset, .unset, .unset, .unset, .unset, .unset, .unset, .unset, .unset, .unset, .unset, .unset] [(.int nd)])) _
      refine XS.iconst X0.here hx rfl (hb hby at_18) ?_
      show Steps p.tables e below (s₁.setTop (mkF m 19 #[.val (.int p1), .val (.int p2), .val (.int p3), .val (.int p4), .val (.int n), .val (.int nd), .unset, .unset, .unset, .unset, .unset, .unset, .unset, .unset, .unset, .unset, .unset, .unset, .unset, .unset, .unset, .unset, .unset, .unset, .unset] [(.int (1 : Int32)), (.int nd)])) _
      refine XS.iadd X0.here hx rfl (hb hby at_19) rfl ?_
      show Steps p.tables e below (s₁.setTop (mkF m 20 #[.val (.int p1), .val (.int p2), .val (.int p3), .val (.int p4), .val (.int n), .val (.int nd), .unset, .unset, .unset, .unset, .unset, .unset, .unset, .unset, .unset, .unset, .unset, .unset, .unset, .unset, .unset, .unset, .unset, .unset, .unset] [(.int (nd + (1 : Int32)))])) _
      refine XS.iload X0.here hx rfl (hb hby at_20) rfl ?_
      show Steps p.tables e below (s₁.setTop (mkF m 22 #[.val (.int p1), .val (.int p2), .val (.int p3), .val (.int p4), .val (.int n), .val (.int nd), .unset, .unset, .unset, .unset, .unset, .unset, .unset, .unset, .unset, .unset, .unset, .unset, .unset, .unset, .unset, .unset, .unset, .unset, .unset] [(.int n), (.int (nd + (1 : Int32)))])) _
      refine XS.irem X0.here hx rfl (hb hby at_22) rfl (own_nz (by omega)) ?_
      show Steps p.tables e below (s₁.setTop (mkF m 23 #[.val (.int p1), .val (.int p2), .val (.int p3), .val (.int p4), .val (.int n), .val (.int nd), .unset, .unset, .unset, .unset, .unset, .unset, .unset, .unset, .unset, .unset, .unset, .unset, .unset, .unset, .unset, .unset, .unset, .unset, .unset] [(.int ((nd + (1 : Int32)) - ((nd + (1 : Int32)) / n) * n))])) _
      rw [← hot]
      show Steps p.tables e below (s₁.setTop (mkF m 23 #[.val (.int p1), .val (.int p2), .val (.int p3), .val (.int p4), .val (.int n), .val (.int nd), .unset, .unset, .unset, .unset, .unset, .unset, .unset, .unset, .unset, .unset, .unset, .unset, .unset, .unset, .unset, .unset, .unset, .unset, .unset] [(.int ot)])) _
      refine XS.istore X0.here hx rfl (hb hby at_23) rfl (l' := #[.val (.int p1), .val (.int p2), .val (.int p3), .val (.int p4), .val (.int n), .val (.int nd), .val (.int ot), .unset, .unset, .unset, .unset, .unset, .unset, .unset, .unset, .unset, .unset, .unset, .unset, .unset, .unset, .unset, .unset, .unset, .unset]) rfl ?_
      show Steps p.tables e below (s₁.setTop (mkF m 25 #[.val (.int p1), .val (.int p2), .val (.int p3), .val (.int p4), .val (.int n), .val (.int nd), .val (.int ot), .unset, .unset, .unset, .unset, .unset, .unset, .unset, .unset, .unset, .unset, .unset, .unset, .unset, .unset, .unset, .unset, .unset, .unset] [])) _
      exact k)
  have go2 : ∀ t, Steps p.tables e below (s₁.setTop (mkF m 38 #[.val (.int p1), .val (.int p2), .val (.int p3), .val (.int p4), .val (.int n), .val (.int nd), .val (.int ot), .val (.int (own_b b1)), .unset, .unset, .unset, .unset, .unset, .unset, .unset, .unset, .unset, .unset, .unset, .unset, .unset, .unset, .unset, .unset, .unset] [])) t → G t := fun t k => go1 t (by
      show Steps p.tables e below (s₁.setTop (mkF m 25 #[.val (.int p1), .val (.int p2), .val (.int p3), .val (.int p4), .val (.int n), .val (.int nd), .val (.int ot), .unset, .unset, .unset, .unset, .unset, .unset, .unset, .unset, .unset, .unset, .unset, .unset, .unset, .unset, .unset, .unset, .unset, .unset] [])) _
      refine XS.iloadN X0.here hx rfl (hb hby at_25) rfl ?_
      show Steps p.tables e below (s₁.setTop (mkF m 26 #[.val (.int p1), .val (.int p2), .val (.int p3), .val (.int p4), .val (.int n), .val (.int nd), .val (.int ot), .unset, .unset, .unset, .unset, .unset, .unset, .unset, .unset, .unset, .unset, .unset, .unset, .unset, .unset, .unset, .unset, .unset, .unset] [(.int p4)])) _
      refine XS.iconst X0.here hx rfl (hb hby at_26) ?_
      show Steps p.tables e below (s₁.setTop (mkF m 27 #[.val (.int p1), .val (.int p2), .val (.int p3), .val (.int p4), .val (.int n), .val (.int nd), .val (.int ot), .unset, .unset, .unset, .unset, .unset, .unset, .unset, .unset, .unset, .unset, .unset, .unset, .unset, .unset, .unset, .unset, .unset, .unset] [(.int (1 : Int32)), (.int p4)])) _
      refine XS.iand X0.here hx rfl (hb hby at_27) rfl ?_
      show Steps p.tables e below (s₁.setTop (mkF m 28 #[.val (.int p1), .val (.int p2), .val (.int p3), .val (.int p4), .val (.int n), .val (.int nd), .val (.int ot), .unset, .unset, .unset, .unset, .unset, .unset, .unset, .unset, .unset, .unset, .unset, .unset, .unset, .unset, .unset, .unset, .unset, .unset] [(.int (p4 &&& (1 : Int32)))])) _
      by_cases h28 : (p4 &&& (1 : Int32)).toInt = 0
      · refine XS.ifYes X0.here hx rfl (pc0 := 28) (pc' := 35) rfl (hb hby at_28) rfl ((if0 _ _).trans (teq (show (p4 &&& (1 : Int32)) = (0 : Int32) from Int32.toInt_inj.mp h28)).1) (by decide) (by decide) ?_
        show Steps p.tables e below (s₁.setTop (mkF m 35 #[.val (.int p1), .val (.int p2), .val (.int p3), .val (.int p4), .val (.int n), .val (.int nd), .val (.int ot), .unset, .unset, .unset, .unset, .unset, .unset, .unset, .unset, .unset, .unset, .unset, .unset, .unset, .unset, .unset, .unset, .unset, .unset] [])) _
        refine XS.iconst X0.here hx rfl (hb hby at_35) ?_
        show Steps p.tables e below (s₁.setTop (mkF m 36 #[.val (.int p1), .val (.int p2), .val (.int p3), .val (.int p4), .val (.int n), .val (.int nd), .val (.int ot), .unset, .unset, .unset, .unset, .unset, .unset, .unset, .unset, .unset, .unset, .unset, .unset, .unset, .unset, .unset, .unset, .unset, .unset] [(.int (0 : Int32))])) _
        refine XS.istore X0.here hx rfl (hb hby at_36) rfl (l' := #[.val (.int p1), .val (.int p2), .val (.int p3), .val (.int p4), .val (.int n), .val (.int nd), .val (.int ot), .val (.int (0 : Int32)), .unset, .unset, .unset, .unset, .unset, .unset, .unset, .unset, .unset, .unset, .unset, .unset, .unset, .unset, .unset, .unset, .unset]) rfl ?_
        show Steps p.tables e below (s₁.setTop (mkF m 38 #[.val (.int p1), .val (.int p2), .val (.int p3), .val (.int p4), .val (.int n), .val (.int nd), .val (.int ot), .val (.int (0 : Int32)), .unset, .unset, .unset, .unset, .unset, .unset, .unset, .unset, .unset, .unset, .unset, .unset, .unset, .unset, .unset, .unset, .unset] [])) _
        have hv : own_b b1 = (0 : Int32) := own_b0 (by rw [hb1, decide_eq_true h28]; rfl)
        rw [hv] at k
        exact k
      · refine XS.ifNo X0.here hx rfl (hb hby at_28) rfl ((if0 _ _).trans (feq (fun q : (p4 &&& (1 : Int32)) = (0 : Int32) => h28 (Int32.toInt_inj.mpr q))).1) ?_
        show Steps p.tables e below (s₁.setTop (mkF m 31 #[.val (.int p1), .val (.int p2), .val (.int p3), .val (.int p4), .val (.int n), .val (.int nd), .val (.int ot), .unset, .unset, .unset, .unset, .unset, .unset, .unset, .unset, .unset, .unset, .unset, .unset, .unset, .unset, .unset, .unset, .unset, .unset] [])) _
        refine XS.iconst X0.here hx rfl (hb hby at_31) ?_
        show Steps p.tables e below (s₁.setTop (mkF m 32 #[.val (.int p1), .val (.int p2), .val (.int p3), .val (.int p4), .val (.int n), .val (.int nd), .val (.int ot), .unset, .unset, .unset, .unset, .unset, .unset, .unset, .unset, .unset, .unset, .unset, .unset, .unset, .unset, .unset, .unset, .unset, .unset] [(.int (1 : Int32))])) _
        refine XS.goto X0.here hx rfl (pc0 := 32) (pc' := 36) rfl (hb hby at_32) (by decide) (by decide) ?_
        show Steps p.tables e below (s₁.setTop (mkF m 36 #[.val (.int p1), .val (.int p2), .val (.int p3), .val (.int p4), .val (.int n), .val (.int nd), .val (.int ot), .unset, .unset, .unset, .unset, .unset, .unset, .unset, .unset, .unset, .unset, .unset, .unset, .unset, .unset, .unset, .unset, .unset, .unset] [(.int (1 : Int32))])) _
        refine XS.istore X0.here hx rfl (hb hby at_36) rfl (l' := #[.val (.int p1), .val (.int p2), .val (.int p3), .val (.int p4), .val (.int n), .val (.int nd), .val (.int ot), .val (.int (1 : Int32)), .unset, .unset, .unset, .unset, .unset, .unset, .unset, .unset, .unset, .unset, .unset, .unset, .unset, .unset, .unset, .unset, .unset]) rfl ?_
        show Steps p.tables e below (s₁.setTop (mkF m 38 #[.val (.int p1), .val (.int p2), .val (.int p3), .val (.int p4), .val (.int n), .val (.int nd), .val (.int ot), .val (.int (1 : Int32)), .unset, .unset, .unset, .unset, .unset, .unset, .unset, .unset, .unset, .unset, .unset, .unset, .unset, .unset, .unset, .unset, .unset] [])) _
        have hv : own_b b1 = (1 : Int32) := own_b1 (by rw [hb1, decide_eq_false h28]; rfl)
        rw [hv] at k
        exact k)
  have go3 : ∀ t, Steps p.tables e below (s₁.setTop (mkF m 51 #[.val (.int p1), .val (.int p2), .val (.int p3), .val (.int p4), .val (.int n), .val (.int nd), .val (.int ot), .val (.int (own_b b1)), .val (.int (own_b b2)), .unset, .unset, .unset, .unset, .unset, .unset, .unset, .unset, .unset, .unset, .unset, .unset, .unset, .unset, .unset, .unset] [])) t → G t := fun t k => go2 t (by
      show Steps p.tables e below (s₁.setTop (mkF m 38 #[.val (.int p1), .val (.int p2), .val (.int p3), .val (.int p4), .val (.int n), .val (.int nd), .val (.int ot), .val (.int (own_b b1)), .unset, .unset, .unset, .unset, .unset, .unset, .unset, .unset, .unset, .unset, .unset, .unset, .unset, .unset, .unset, .unset, .unset] [])) _
      refine XS.iloadN X0.here hx rfl (hb hby at_38) rfl ?_
      show Steps p.tables e below (s₁.setTop (mkF m 39 #[.val (.int p1), .val (.int p2), .val (.int p3), .val (.int p4), .val (.int n), .val (.int nd), .val (.int ot), .val (.int (own_b b1)), .unset, .unset, .unset, .unset, .unset, .unset, .unset, .unset, .unset, .unset, .unset, .unset, .unset, .unset, .unset, .unset, .unset] [(.int p4)])) _
      refine XS.iconst X0.here hx rfl (hb hby at_39) ?_
      show Steps p.tables e below (s₁.setTop (mkF m 40 #[.val (.int p1), .val (.int p2), .val (.int p3), .val (.int p4), .val (.int n), .val (.int nd), .val (.int ot), .val (.int (own_b b1)), .unset, .unset, .unset, .unset, .unset, .unset, .unset, .unset, .unset, .unset, .unset, .unset, .unset, .unset, .unset, .unset, .unset] [(.int (2 : Int32)), (.int p4)])) _
      refine XS.iand X0.here hx rfl (hb hby at_40) rfl ?_
      show Steps p.tables e below (s₁.setTop (mkF m 41 #[.val (.int p1), .val (.int p2), .val (.int p3), .val (.int p4), .val (.int n), .val (.int nd), .val (.int ot), .val (.int (own_b b1)), .unset, .unset, .unset, .unset, .unset, .unset, .unset, .unset, .unset, .unset, .unset, .unset, .unset, .unset, .unset, .unset, .unset] [(.int (p4 &&& (2 : Int32)))])) _
      by_cases h41 : (p4 &&& (2 : Int32)).toInt = 0
      · refine XS.ifYes X0.here hx rfl (pc0 := 41) (pc' := 48) rfl (hb hby at_41) rfl ((if0 _ _).trans (teq (show (p4 &&& (2 : Int32)) = (0 : Int32) from Int32.toInt_inj.mp h41)).1) (by decide) (by decide) ?_
        show Steps p.tables e below (s₁.setTop (mkF m 48 #[.val (.int p1), .val (.int p2), .val (.int p3), .val (.int p4), .val (.int n), .val (.int nd), .val (.int ot), .val (.int (own_b b1)), .unset, .unset, .unset, .unset, .unset, .unset, .unset, .unset, .unset, .unset, .unset, .unset, .unset, .unset, .unset, .unset, .unset] [])) _
        refine XS.iconst X0.here hx rfl (hb hby at_48) ?_
        show Steps p.tables e below (s₁.setTop (mkF m 49 #[.val (.int p1), .val (.int p2), .val (.int p3), .val (.int p4), .val (.int n), .val (.int nd), .val (.int ot), .val (.int (own_b b1)), .unset, .unset, .unset, .unset, .unset, .unset, .unset, .unset, .unset, .unset, .unset, .unset, .unset, .unset, .unset, .unset, .unset] [(.int (0 : Int32))])) _
        refine XS.istore X0.here hx rfl (hb hby at_49) rfl (l' := #[.val (.int p1), .val (.int p2), .val (.int p3), .val (.int p4), .val (.int n), .val (.int nd), .val (.int ot), .val (.int (own_b b1)), .val (.int (0 : Int32)), .unset, .unset, .unset, .unset, .unset, .unset, .unset, .unset, .unset, .unset, .unset, .unset, .unset, .unset, .unset, .unset]) rfl ?_
        show Steps p.tables e below (s₁.setTop (mkF m 51 #[.val (.int p1), .val (.int p2), .val (.int p3), .val (.int p4), .val (.int n), .val (.int nd), .val (.int ot), .val (.int (own_b b1)), .val (.int (0 : Int32)), .unset, .unset, .unset, .unset, .unset, .unset, .unset, .unset, .unset, .unset, .unset, .unset, .unset, .unset, .unset, .unset] [])) _
        have hv : own_b b2 = (0 : Int32) := own_b0 (by rw [hb2, decide_eq_true h41]; rfl)
        rw [hv] at k
        exact k
      · refine XS.ifNo X0.here hx rfl (hb hby at_41) rfl ((if0 _ _).trans (feq (fun q : (p4 &&& (2 : Int32)) = (0 : Int32) => h41 (Int32.toInt_inj.mpr q))).1) ?_
        show Steps p.tables e below (s₁.setTop (mkF m 44 #[.val (.int p1), .val (.int p2), .val (.int p3), .val (.int p4), .val (.int n), .val (.int nd), .val (.int ot), .val (.int (own_b b1)), .unset, .unset, .unset, .unset, .unset, .unset, .unset, .unset, .unset, .unset, .unset, .unset, .unset, .unset, .unset, .unset, .unset] [])) _
        refine XS.iconst X0.here hx rfl (hb hby at_44) ?_
        show Steps p.tables e below (s₁.setTop (mkF m 45 #[.val (.int p1), .val (.int p2), .val (.int p3), .val (.int p4), .val (.int n), .val (.int nd), .val (.int ot), .val (.int (own_b b1)), .unset, .unset, .unset, .unset, .unset, .unset, .unset, .unset, .unset, .unset, .unset, .unset, .unset, .unset, .unset, .unset, .unset] [(.int (1 : Int32))])) _
        refine XS.goto X0.here hx rfl (pc0 := 45) (pc' := 49) rfl (hb hby at_45) (by decide) (by decide) ?_
        show Steps p.tables e below (s₁.setTop (mkF m 49 #[.val (.int p1), .val (.int p2), .val (.int p3), .val (.int p4), .val (.int n), .val (.int nd), .val (.int ot), .val (.int (own_b b1)), .unset, .unset, .unset, .unset, .unset, .unset, .unset, .unset, .unset, .unset, .unset, .unset, .unset, .unset, .unset, .unset, .unset] [(.int (1 : Int32))])) _
        refine XS.istore X0.here hx rfl (hb hby at_49) rfl (l' := #[.val (.int p1), .val (.int p2), .val (.int p3), .val (.int p4), .val (.int n), .val (.int nd), .val (.int ot), .val (.int (own_b b1)), .val (.int (1 : Int32)), .unset, .unset, .unset, .unset, .unset, .unset, .unset, .unset, .unset, .unset, .unset, .unset, .unset, .unset, .unset, .unset]) rfl ?_
        show Steps p.tables e below (s₁.setTop (mkF m 51 #[.val (.int p1), .val (.int p2), .val (.int p3), .val (.int p4), .val (.int n), .val (.int nd), .val (.int ot), .val (.int (own_b b1)), .val (.int (1 : Int32)), .unset, .unset, .unset, .unset, .unset, .unset, .unset, .unset, .unset, .unset, .unset, .unset, .unset, .unset, .unset, .unset] [])) _
        have hv : own_b b2 = (1 : Int32) := own_b1 (by rw [hb2, decide_eq_false h41]; rfl)
        rw [hv] at k
        exact k)
  have go4 : ∀ t, Steps p.tables e below (s₁.setTop (mkF m 64 #[.val (.int p1), .val (.int p2), .val (.int p3), .val (.int p4), .val (.int n), .val (.int nd), .val (.int ot), .val (.int (own_b b1)), .val (.int (own_b b2)), .val (.int (own_b b3)), .unset, .unset, .unset, .unset, .unset, .unset, .unset, .unset, .unset, .unset, .unset, .unset, .unset, .unset, .unset] [])) t → G t := fun t k => go3 t (by
      show Steps p.tables e below (s₁.setTop (mkF m 51 #[.val (.int p1), .val (.int p2), .val (.int p3), .val (.int p4), .val (.int n), .val (.int nd), .val (.int ot), .val (.int (own_b b1)), .val (.int (own_b b2)), .unset, .unset, .unset, .unset, .unset, .unset, .unset, .unset, .unset, .unset, .unset, .unset, .unset, .unset, .unset, .unset] [])) _
      refine XS.iloadN X0.here hx rfl (hb hby at_51) rfl ?_
      show Steps p.tables e below (s₁.setTop (mkF m 52 #[.val (.int p1), .val (.int p2), .val (.int p3), .val (.int p4), .val (.int n), .val (.int nd), .val (.int ot), .val (.int (own_b b1)), .val (.int (own_b b2)), .unset, .unset, .unset, .unset, .unset, .unset, .unset, .unset, .unset, .unset, .unset, .unset, .unset, .unset, .unset, .unset] [(.int p4)])) _
      refine XS.iconst X0.here hx rfl (hb hby at_52) ?_
      show Steps p.tables e below (s₁.setTop (mkF m 53 #[.val (.int p1), .val (.int p2), .val (.int p3), .val (.int p4), .val (.int n), .val (.int nd), .val (.int ot), .val (.int (own_b b1)), .val (.int (own_b b2)), .unset, .unset, .unset, .unset, .unset, .unset, .unset, .unset, .unset, .unset, .unset, .unset, .unset, .unset, .unset, .unset] [(.int (4 : Int32)), (.int p4)])) _
      refine XS.iand X0.here hx rfl (hb hby at_53) rfl ?_
      show Steps p.tables e below (s₁.setTop (mkF m 54 #[.val (.int p1), .val (.int p2), .val (.int p3), .val (.int p4), .val (.int n), .val (.int nd), .val (.int ot), .val (.int (own_b b1)), .val (.int (own_b b2)), .unset, .unset, .unset, .unset, .unset, .unset, .unset, .unset, .unset, .unset, .unset, .unset, .unset, .unset, .unset, .unset] [(.int (p4 &&& (4 : Int32)))])) _
      by_cases h54 : (p4 &&& (4 : Int32)).toInt = 0
      · refine XS.ifYes X0.here hx rfl (pc0 := 54) (pc' := 61) rfl (hb hby at_54) rfl ((if0 _ _).trans (teq (show (p4 &&& (4 : Int32)) = (0 : Int32) from Int32.toInt_inj.mp h54)).1) (by decide) (by decide) ?_
        show Steps p.tables e below (s₁.setTop (mkF m 61 #[.val (.int p1), .val (.int p2), .val (.int p3), .val (.int p4), .val (.int n), .val (.int nd), .val (.int ot), .val (.int (own_b b1)), .val (.int (own_b b2)), .unset, .unset, .unset, .unset, .unset, .unset, .unset, .unset, .unset, .unset, .unset, .unset, .unset, .unset, .unset, .unset] [])) _
        refine XS.iconst X0.here hx rfl (hb hby at_61) ?_
        show Steps p.tables e below (s₁.setTop (mkF m 62 #[.val (.int p1), .val (.int p2), .val (.int p3), .val (.int p4), .val (.int n), .val (.int nd), .val (.int ot), .val (.int (own_b b1)), .val (.int (own_b b2)), .unset, .unset, .unset, .unset, .unset, .unset, .unset, .unset, .unset, .unset, .unset, .unset, .unset, .unset, .unset, .unset] [(.int (0 : Int32))])) _
        refine XS.istore X0.here hx rfl (hb hby at_62) rfl (l' := #[.val (.int p1), .val (.int p2), .val (.int p3), .val (.int p4), .val (.int n), .val (.int nd), .val (.int ot), .val (.int (own_b b1)), .val (.int (own_b b2)), .val (.int (0 : Int32)), .unset, .unset, .unset, .unset, .unset, .unset, .unset, .unset, .unset, .unset, .unset, .unset, .unset, .unset, .unset]) rfl ?_
        show Steps p.tables e below (s₁.setTop (mkF m 64 #[.val (.int p1), .val (.int p2), .val (.int p3), .val (.int p4), .val (.int n), .val (.int nd), .val (.int ot), .val (.int (own_b b1)), .val (.int (own_b b2)), .val (.int (0 : Int32)), .unset, .unset, .unset, .unset, .unset, .unset, .unset, .unset, .unset, .unset, .unset, .unset, .unset, .unset, .unset] [])) _
        have hv : own_b b3 = (0 : Int32) := own_b0 (by rw [hb3, decide_eq_true h54]; rfl)
        rw [hv] at k
        exact k
      · refine XS.ifNo X0.here hx rfl (hb hby at_54) rfl ((if0 _ _).trans (feq (fun q : (p4 &&& (4 : Int32)) = (0 : Int32) => h54 (Int32.toInt_inj.mpr q))).1) ?_
        show Steps p.tables e below (s₁.setTop (mkF m 57 #[.val (.int p1), .val (.int p2), .val (.int p3), .val (.int p4), .val (.int n), .val (.int nd), .val (.int ot), .val (.int (own_b b1)), .val (.int (own_b b2)), .unset, .unset, .unset, .unset, .unset, .unset, .unset, .unset, .unset, .unset, .unset, .unset, .unset, .unset, .unset, .unset] [])) _
        refine XS.iconst X0.here hx rfl (hb hby at_57) ?_
        show Steps p.tables e below (s₁.setTop (mkF m 58 #[.val (.int p1), .val (.int p2), .val (.int p3), .val (.int p4), .val (.int n), .val (.int nd), .val (.int ot), .val (.int (own_b b1)), .val (.int (own_b b2)), .unset, .unset, .unset, .unset, .unset, .unset, .unset, .unset, .unset, .unset, .unset, .unset, .unset, .unset, .unset, .unset] [(.int (1 : Int32))])) _
        refine XS.goto X0.here hx rfl (pc0 := 58) (pc' := 62) rfl (hb hby at_58) (by decide) (by decide) ?_
        show Steps p.tables e below (s₁.setTop (mkF m 62 #[.val (.int p1), .val (.int p2), .val (.int p3), .val (.int p4), .val (.int n), .val (.int nd), .val (.int ot), .val (.int (own_b b1)), .val (.int (own_b b2)), .unset, .unset, .unset, .unset, .unset, .unset, .unset, .unset, .unset, .unset, .unset, .unset, .unset, .unset, .unset, .unset] [(.int (1 : Int32))])) _
        refine XS.istore X0.here hx rfl (hb hby at_62) rfl (l' := #[.val (.int p1), .val (.int p2), .val (.int p3), .val (.int p4), .val (.int n), .val (.int nd), .val (.int ot), .val (.int (own_b b1)), .val (.int (own_b b2)), .val (.int (1 : Int32)), .unset, .unset, .unset, .unset, .unset, .unset, .unset, .unset, .unset, .unset, .unset, .unset, .unset, .unset, .unset]) rfl ?_
        show Steps p.tables e below (s₁.setTop (mkF m 64 #[.val (.int p1), .val (.int p2), .val (.int p3), .val (.int p4), .val (.int n), .val (.int nd), .val (.int ot), .val (.int (own_b b1)), .val (.int (own_b b2)), .val (.int (1 : Int32)), .unset, .unset, .unset, .unset, .unset, .unset, .unset, .unset, .unset, .unset, .unset, .unset, .unset, .unset, .unset] [])) _
        have hv : own_b b3 = (1 : Int32) := own_b1 (by rw [hb3, decide_eq_false h54]; rfl)
        rw [hv] at k
        exact k)
  have go5 : ∀ t, Steps p.tables e below (s₁.setTop (mkF m 84 #[.val (.int p1), .val (.int p2), .val (.int p3), .val (.int p4), .val (.int n), .val (.int nd), .val (.int ot), .val (.int (own_b b1)), .val (.int (own_b b2)), .val (.int (own_b b3)), .val (.long ex), .second, .val (.long ac), .second, .unset, .unset, .unset, .unset, .unset, .unset, .unset, .unset, .unset, .unset, .unset] [])) t → G t := fun t k => go4 t (by
      show Steps p.tables e below (s₁.setTop (mkF m 64 #[.val (.int p1), .val (.int p2), .val (.int p3), .val (.int p4), .val (.int n), .val (.int nd), .val (.int ot), .val (.int (own_b b1)), .val (.int (own_b b2)), .val (.int (own_b b3)), .unset, .unset, .unset, .unset, .unset, .unset, .unset, .unset, .unset, .unset, .unset, .unset, .unset, .unset, .unset] [])) _
      refine XS.iload X0.here hx rfl (hb hby at_64) rfl ?_
      show Steps p.tables e below (s₁.setTop (mkF m 66 #[.val (.int p1), .val (.int p2), .val (.int p3), .val (.int p4), .val (.int n), .val (.int nd), .val (.int ot), .val (.int (own_b b1)), .val (.int (own_b b2)), .val (.int (own_b b3)), .unset, .unset, .unset, .unset, .unset, .unset, .unset, .unset, .unset, .unset, .unset, .unset, .unset, .unset, .unset] [(.int n)])) _
      refine XS.i2l X0.here hx rfl (hb hby at_66) rfl ?_
      show Steps p.tables e below (s₁.setTop (mkF m 67 #[.val (.int p1), .val (.int p2), .val (.int p3), .val (.int p4), .val (.int n), .val (.int nd), .val (.int ot), .val (.int (own_b b1)), .val (.int (own_b b2)), .val (.int (own_b b3)), .unset, .unset, .unset, .unset, .unset, .unset, .unset, .unset, .unset, .unset, .unset, .unset, .unset, .unset, .unset] [(.long (n.toInt64))])) _
      refine X0.ldc2Long hx hown (mvT hZ (hw _ (List.mem_of_getElem? (i := 1) rfl))) (g := (mkF m 67 #[.val (.int p1), .val (.int p2), .val (.int p3), .val (.int p4), .val (.int n), .val (.int nd), .val (.int ot), .val (.int (own_b b1)), .val (.int (own_b b2)), .val (.int (own_b b3)), .unset, .unset, .unset, .unset, .unset, .unset, .unset, .unset, .unset, .unset, .unset, .unset, .unset, .unset, .unset] [(.long (n.toInt64))])) rfl (hb hby at_67) _ ?_
      show Steps p.tables e below (s₁.setTop (mkF m 70 #[.val (.int p1), .val (.int p2), .val (.int p3), .val (.int p4), .val (.int n), .val (.int nd), .val (.int ot), .val (.int (own_b b1)), .val (.int (own_b b2)), .val (.int (own_b b3)), .unset, .unset, .unset, .unset, .unset, .unset, .unset, .unset, .unset, .unset, .unset, .unset, .unset, .unset, .unset] [(.long (2 : Int64)), (.long (n.toInt64))])) _
      refine XS.iloadN X0.here hx rfl (hb hby at_70) rfl ?_
      show Steps p.tables e below (s₁.setTop (mkF m 71 #[.val (.int p1), .val (.int p2), .val (.int p3), .val (.int p4), .val (.int n), .val (.int nd), .val (.int ot), .val (.int (own_b b1)), .val (.int (own_b b2)), .val (.int (own_b b3)), .unset, .unset, .unset, .unset, .unset, .unset, .unset, .unset, .unset, .unset, .unset, .unset, .unset, .unset, .unset] [(.int p2), (.long (2 : Int64)), (.long (n.toInt64))])) _
      refine XS.i2l X0.here hx rfl (hb hby at_71) rfl ?_
      show Steps p.tables e below (s₁.setTop (mkF m 72 #[.val (.int p1), .val (.int p2), .val (.int p3), .val (.int p4), .val (.int n), .val (.int nd), .val (.int ot), .val (.int (own_b b1)), .val (.int (own_b b2)), .val (.int (own_b b3)), .unset, .unset, .unset, .unset, .unset, .unset, .unset, .unset, .unset, .unset, .unset, .unset, .unset, .unset, .unset] [(.long (p2.toInt64)), (.long (2 : Int64)), (.long (n.toInt64))])) _
      refine XS.lmul X0.here hx rfl (hb hby at_72) rfl ?_
      show Steps p.tables e below (s₁.setTop (mkF m 73 #[.val (.int p1), .val (.int p2), .val (.int p3), .val (.int p4), .val (.int n), .val (.int nd), .val (.int ot), .val (.int (own_b b1)), .val (.int (own_b b2)), .val (.int (own_b b3)), .unset, .unset, .unset, .unset, .unset, .unset, .unset, .unset, .unset, .unset, .unset, .unset, .unset, .unset, .unset] [(.long ((2 : Int64) * (p2.toInt64))), (.long (n.toInt64))])) _
      refine XS.lsub X0.here hx rfl (hb hby at_73) rfl ?_
      show Steps p.tables e below (s₁.setTop (mkF m 74 #[.val (.int p1), .val (.int p2), .val (.int p3), .val (.int p4), .val (.int n), .val (.int nd), .val (.int ot), .val (.int (own_b b1)), .val (.int (own_b b2)), .val (.int (own_b b3)), .unset, .unset, .unset, .unset, .unset, .unset, .unset, .unset, .unset, .unset, .unset, .unset, .unset, .unset, .unset] [(.long ((n.toInt64) - ((2 : Int64) * (p2.toInt64))))])) _
      rw [← hex]
      show Steps p.tables e below (s₁.setTop (mkF m 74 #[.val (.int p1), .val (.int p2), .val (.int p3), .val (.int p4), .val (.int n), .val (.int nd), .val (.int ot), .val (.int (own_b b1)), .val (.int (own_b b2)), .val (.int (own_b b3)), .unset, .unset, .unset, .unset, .unset, .unset, .unset, .unset, .unset, .unset, .unset, .unset, .unset, .unset, .unset] [(.long ex)])) _
      refine XS.lstore X0.here hx rfl (hb hby at_74) rfl (l' := #[.val (.int p1), .val (.int p2), .val (.int p3), .val (.int p4), .val (.int n), .val (.int nd), .val (.int ot), .val (.int (own_b b1)), .val (.int (own_b b2)), .val (.int (own_b b3)), .val (.long ex), .second, .unset, .unset, .unset, .unset, .unset, .unset, .unset, .unset, .unset, .unset, .unset, .unset, .unset]) rfl ?_
      show Steps p.tables e below (s₁.setTop (mkF m 76 #[.val (.int p1), .val (.int p2), .val (.int p3), .val (.int p4), .val (.int n), .val (.int nd), .val (.int ot), .val (.int (own_b b1)), .val (.int (own_b b2)), .val (.int (own_b b3)), .val (.long ex), .second, .unset, .unset, .unset, .unset, .unset, .unset, .unset, .unset, .unset, .unset, .unset, .unset, .unset] [])) _
      refine XS.iload X0.here hx rfl (hb hby at_76) rfl ?_
      show Steps p.tables e below (s₁.setTop (mkF m 78 #[.val (.int p1), .val (.int p2), .val (.int p3), .val (.int p4), .val (.int n), .val (.int nd), .val (.int ot), .val (.int (own_b b1)), .val (.int (own_b b2)), .val (.int (own_b b3)), .val (.long ex), .second, .unset, .unset, .unset, .unset, .unset, .unset, .unset, .unset, .unset, .unset, .unset, .unset, .unset] [(.int n)])) _
      refine XS.i2l X0.here hx rfl (hb hby at_78) rfl ?_
      show Steps p.tables e below (s₁.setTop (mkF m 79 #[.val (.int p1), .val (.int p2), .val (.int p3), .val (.int p4), .val (.int n), .val (.int nd), .val (.int ot), .val (.int (own_b b1)), .val (.int (own_b b2)), .val (.int (own_b b3)), .val (.long ex), .second, .unset, .unset, .unset, .unset, .unset, .unset, .unset, .unset, .unset, .unset, .unset, .unset, .unset] [(.long (n.toInt64))])) _
      refine XS.iloadN X0.here hx rfl (hb hby at_79) rfl ?_
      show Steps p.tables e below (s₁.setTop (mkF m 80 #[.val (.int p1), .val (.int p2), .val (.int p3), .val (.int p4), .val (.int n), .val (.int nd), .val (.int ot), .val (.int (own_b b1)), .val (.int (own_b b2)), .val (.int (own_b b3)), .val (.long ex), .second, .unset, .unset, .unset, .unset, .unset, .unset, .unset, .unset, .unset, .unset, .unset, .unset, .unset] [(.int p2), (.long (n.toInt64))])) _
      refine XS.i2l X0.here hx rfl (hb hby at_80) rfl ?_
      show Steps p.tables e below (s₁.setTop (mkF m 81 #[.val (.int p1), .val (.int p2), .val (.int p3), .val (.int p4), .val (.int n), .val (.int nd), .val (.int ot), .val (.int (own_b b1)), .val (.int (own_b b2)), .val (.int (own_b b3)), .val (.long ex), .second, .unset, .unset, .unset, .unset, .unset, .unset, .unset, .unset, .unset, .unset, .unset, .unset, .unset] [(.long (p2.toInt64)), (.long (n.toInt64))])) _
      refine XS.lsub X0.here hx rfl (hb hby at_81) rfl ?_
      show Steps p.tables e below (s₁.setTop (mkF m 82 #[.val (.int p1), .val (.int p2), .val (.int p3), .val (.int p4), .val (.int n), .val (.int nd), .val (.int ot), .val (.int (own_b b1)), .val (.int (own_b b2)), .val (.int (own_b b3)), .val (.long ex), .second, .unset, .unset, .unset, .unset, .unset, .unset, .unset, .unset, .unset, .unset, .unset, .unset, .unset] [(.long ((n.toInt64) - (p2.toInt64)))])) _
      rw [← hac]
      show Steps p.tables e below (s₁.setTop (mkF m 82 #[.val (.int p1), .val (.int p2), .val (.int p3), .val (.int p4), .val (.int n), .val (.int nd), .val (.int ot), .val (.int (own_b b1)), .val (.int (own_b b2)), .val (.int (own_b b3)), .val (.long ex), .second, .unset, .unset, .unset, .unset, .unset, .unset, .unset, .unset, .unset, .unset, .unset, .unset, .unset] [(.long ac)])) _
      refine XS.lstore X0.here hx rfl (hb hby at_82) rfl (l' := #[.val (.int p1), .val (.int p2), .val (.int p3), .val (.int p4), .val (.int n), .val (.int nd), .val (.int ot), .val (.int (own_b b1)), .val (.int (own_b b2)), .val (.int (own_b b3)), .val (.long ex), .second, .val (.long ac), .second, .unset, .unset, .unset, .unset, .unset, .unset, .unset, .unset, .unset, .unset, .unset]) rfl ?_
      show Steps p.tables e below (s₁.setTop (mkF m 84 #[.val (.int p1), .val (.int p2), .val (.int p3), .val (.int p4), .val (.int n), .val (.int nd), .val (.int ot), .val (.int (own_b b1)), .val (.int (own_b b2)), .val (.int (own_b b3)), .val (.long ex), .second, .val (.long ac), .second, .unset, .unset, .unset, .unset, .unset, .unset, .unset, .unset, .unset, .unset, .unset] [])) _
      exact k)
  obtain ⟨T6, h6, X6, e6, E6, A6, D6, -, st6⟩ := newO X0 hx hZ hown (hw _ (List.mem_of_getElem? (i := 2) rfl)) (hw _ (List.mem_of_getElem? (i := 3) rfl)) (hw _ (List.mem_of_getElem? (i := 4) rfl)) e0 (g := (mkF m 84 #[.val (.int p1), .val (.int p2), .val (.int p3), .val (.int p4), .val (.int n), .val (.int nd), .val (.int ot), .val (.int (own_b b1)), .val (.int (own_b b2)), .val (.int (own_b b3)), .val (.long ex), .second, .val (.long ac), .second, .unset, .unset, .unset, .unset, .unset, .unset, .unset, .unset, .unset, .unset, .unset] [])) rfl (hb hby at_84) (by decide) (by decide)
  obtain ⟨b6, g6⟩ : ∃ z, z = h0.size := ⟨_, rfl⟩
  rw [← g6] at A6 D6 st6
  have F6_heard : Fld Z h6 b6 "com/example/halfmesh/halfmesh/CompleteRelay" "heard" "Ljava/util/BitSet;" .null := D6 (Or.inr (hw _ (List.mem_of_getElem? (i := 34) rfl))) (ty := (.object "java/util/BitSet")) (by decide)
  have F6_nodes : Fld Z h6 b6 "com/example/halfmesh/halfmesh/CompleteRelay" "nodes" "I" (.int (0 : Int32)) := D6 (Or.inr (hw _ (List.mem_of_getElem? (i := 36) rfl))) (ty := .int) (by decide)
  have F6_excite : Fld Z h6 b6 "com/example/halfmesh/halfmesh/CompleteRelay" "excite" "J" (.long (0 : Int64)) := D6 (Or.inr (hw _ (List.mem_of_getElem? (i := 39) rfl))) (ty := .long) (by decide)
  have F6_accept : Fld Z h6 b6 "com/example/halfmesh/halfmesh/CompleteRelay" "accept" "J" (.long (0 : Int64)) := D6 (Or.inr (hw _ (List.mem_of_getElem? (i := 41) rfl))) (ty := .long) (by decide)
  have F6_excited : Fld Z h6 b6 "com/example/halfmesh/halfmesh/CompleteRelay" "excited" "[Z" .null := D6 (Or.inr (hw _ (List.mem_of_getElem? (i := 44) rfl))) (ty := (.array .boolean)) (by decide)
  have F6_relayed : Fld Z h6 b6 "com/example/halfmesh/halfmesh/CompleteRelay" "relayed" "[Z" .null := D6 (Or.inr (hw _ (List.mem_of_getElem? (i := 46) rfl))) (ty := (.array .boolean)) (by decide)
  have F6_accepted : Fld Z h6 b6 "com/example/halfmesh/halfmesh/CompleteRelay" "accepted" "[Z" .null := D6 (Or.inr (hw _ (List.mem_of_getElem? (i := 48) rfl))) (ty := (.array .boolean)) (by decide)
  have F6_heardFrom : Fld Z h6 b6 "com/example/halfmesh/halfmesh/CompleteRelay" "heardFrom" "[I" .null := D6 (Or.inr (hw _ (List.mem_of_getElem? (i := 51) rfl))) (ty := (.array .int)) (by decide)
  have go7 : ∀ t, Steps p.tables e below (T6.setTop (mkF m 87 #[.val (.int p1), .val (.int p2), .val (.int p3), .val (.int p4), .val (.int n), .val (.int nd), .val (.int ot), .val (.int (own_b b1)), .val (.int (own_b b2)), .val (.int (own_b b3)), .val (.long ex), .second, .val (.long ac), .second, .unset, .unset, .unset, .unset, .unset, .unset, .unset, .unset, .unset, .unset, .unset] [(.ref b6)])) t → G t := fun t k => go5 t (st6 _ k)
  have gb : n0 ≤ b6 := Nat.le_trans Z0 (Nat.le_of_eq g6.symm)
  have Z1 : n0 ≤ h6.size := Nat.le_trans Z0 E6.1
  have go8 : ∀ t, Steps p.tables e below (T6.setTop (mkF m 91 #[.val (.int p1), .val (.int p2), .val (.int p3), .val (.int p4), .val (.int n), .val (.int nd), .val (.int ot), .val (.int (own_b b1)), .val (.int (own_b b2)), .val (.int (own_b b3)), .val (.long ex), .second, .val (.long ac), .second, .unset, .unset, .unset, .unset, .unset, .unset, .unset, .unset, .unset, .unset, .unset] [(.int p2), (.int n), (.ref b6), (.ref b6)])) t → G t := fun t k => go7 t (by
      show Steps p.tables e below (T6.setTop (mkF m 87 #[.val (.int p1), .val (.int p2), .val (.int p3), .val (.int p4), .val (.int n), .val (.int nd), .val (.int ot), .val (.int (own_b b1)), .val (.int (own_b b2)), .val (.int (own_b b3)), .val (.long ex), .second, .val (.long ac), .second, .unset, .unset, .unset, .unset, .unset, .unset, .unset, .unset, .unset, .unset, .unset] [(.ref b6)])) _
      refine XS.dup X6.here hx rfl (hb hby at_87) rfl rfl ?_
      show Steps p.tables e below (T6.setTop (mkF m 88 #[.val (.int p1), .val (.int p2), .val (.int p3), .val (.int p4), .val (.int n), .val (.int nd), .val (.int ot), .val (.int (own_b b1)), .val (.int (own_b b2)), .val (.int (own_b b3)), .val (.long ex), .second, .val (.long ac), .second, .unset, .unset, .unset, .unset, .unset, .unset, .unset, .unset, .unset, .unset, .unset] [(.ref b6), (.ref b6)])) _
      refine XS.iload X6.here hx rfl (hb hby at_88) rfl ?_
      show Steps p.tables e below (T6.setTop (mkF m 90 #[.val (.int p1), .val (.int p2), .val (.int p3), .val (.int p4), .val (.int n), .val (.int nd), .val (.int ot), .val (.int (own_b b1)), .val (.int (own_b b2)), .val (.int (own_b b3)), .val (.long ex), .second, .val (.long ac), .second, .unset, .unset, .unset, .unset, .unset, .unset, .unset, .unset, .unset, .unset, .unset] [(.int n), (.ref b6), (.ref b6)])) _
      refine XS.iloadN X6.here hx rfl (hb hby at_90) rfl ?_
      show Steps p.tables e below (T6.setTop (mkF m 91 #[.val (.int p1), .val (.int p2), .val (.int p3), .val (.int p4), .val (.int n), .val (.int nd), .val (.int ot), .val (.int (own_b b1)), .val (.int (own_b b2)), .val (.int (own_b b3)), .val (.long ex), .second, .val (.long ac), .second, .unset, .unset, .unset, .unset, .unset, .unset, .unset, .unset, .unset, .unset, .unset] [(.int p2), (.int n), (.ref b6), (.ref b6)])) _
      exact k)
  obtain ⟨_, _, ⟨T9, L9, k9, n9⟩, -, X9, ⟨Lc9, hQ9, l9, y9, z9⟩, st9⟩ := X6.specialBack hx (y := (⟨"com/example/halfmesh/halfmesh/CompleteRelay", "<init>", "(II)V"⟩ : MethodName)) rfl hown (mvT hZ (hw _ (List.mem_of_getElem? (i := 5) rfl))) (mvT hZ (hw _ (List.mem_of_getElem? (i := 6) rfl))) (mvT hZ (hw _ (List.mem_of_getElem? (i := 7) rfl))) (by decide) (backOf (W := 1) (rm1 l Z a0 hw [] b6 n p2 N h6 n0 Z1 A6 F6_heard F6_nodes F6_excite F6_accept F6_excited F6_relayed F6_accepted F6_heardFrom gb hnN hN5) hZ (hw _ (List.mem_of_getElem? (i := 7) rfl)) (hw _ (List.mem_of_getElem? (i := 4) rfl)) (by decide) (by decide)) (g := (mkF m 91 #[.val (.int p1), .val (.int p2), .val (.int p3), .val (.int p4), .val (.int n), .val (.int nd), .val (.int ot), .val (.int (own_b b1)), .val (.int (own_b b2)), .val (.int (own_b b3)), .val (.long ex), .second, .val (.long ac), .second, .unset, .unset, .unset, .unset, .unset, .unset, .unset, .unset, .unset, .unset, .unset] [(.int p2), (.int n), (.ref b6), (.ref b6)])) rfl (by rw [hml]; rfl) (Steps.refl _) (a := b6) (argsL := [(.int n), (.int p2)]) (rest := [(.ref b6)]) (lenOf pd_c rfl) rfl (by show 2 * 0 + _ ≤ _; exact Nat.le_of_eq rfl) (hb hby at_91) (fun _ _ => ⟨rfl, e6, (by decide : 1 + 6 ≤ _), (by decide : 8 + 24 ≤ _)⟩)
  dsimp only [Pt.U, Pt.locs, Pt.cells, Pt.slots] at X9 l9 y9 z9 st9 hQ9
  subst l9 y9 z9
  obtain ⟨rfl, N9q, ae, ar, av, aq, H0⟩ := hQ9
  have N9 := Fr.app N0 N9q
  have go10 : ∀ t, Steps p.tables e below (T9.setTop (mkF m 94 #[.val (.int p1), .val (.int p2), .val (.int p3), .val (.int p4), .val (.int n), .val (.int nd), .val (.int ot), .val (.int (own_b b1)), .val (.int (own_b b2)), .val (.int (own_b b3)), .val (.long ex), .second, .val (.long ac), .second, .unset, .unset, .unset, .unset, .unset, .unset, .unset, .unset, .unset, .unset, .unset] [(.ref b6)])) t → G t := fun t k => go8 t (st9.trans k)
  rw [← hex, ← hac] at H0
  have go11 : ∀ t, Steps p.tables e below (T9.setTop (mkF m 96 #[.val (.int p1), .val (.int p2), .val (.int p3), .val (.int p4), .val (.int n), .val (.int nd), .val (.int ot), .val (.int (own_b b1)), .val (.int (own_b b2)), .val (.int (own_b b3)), .val (.long ex), .second, .val (.long ac), .second, .val (.ref b6), .unset, .unset, .unset, .unset, .unset, .unset, .unset, .unset, .unset, .unset] [])) t → G t := fun t k => go10 t (by
      show Steps p.tables e below (T9.setTop (mkF m 94 #[.val (.int p1), .val (.int p2), .val (.int p3), .val (.int p4), .val (.int n), .val (.int nd), .val (.int ot), .val (.int (own_b b1)), .val (.int (own_b b2)), .val (.int (own_b b3)), .val (.long ex), .second, .val (.long ac), .second, .unset, .unset, .unset, .unset, .unset, .unset, .unset, .unset, .unset, .unset, .unset] [(.ref b6)])) _
      refine XS.astore X9.here hx rfl (hb hby at_94) rfl rfl (l' := #[.val (.int p1), .val (.int p2), .val (.int p3), .val (.int p4), .val (.int n), .val (.int nd), .val (.int ot), .val (.int (own_b b1)), .val (.int (own_b b2)), .val (.int (own_b b3)), .val (.long ex), .second, .val (.long ac), .second, .val (.ref b6), .unset, .unset, .unset, .unset, .unset, .unset, .unset, .unset, .unset, .unset]) rfl ?_
      show Steps p.tables e below (T9.setTop (mkF m 96 #[.val (.int p1), .val (.int p2), .val (.int p3), .val (.int p4), .val (.int n), .val (.int nd), .val (.int ot), .val (.int (own_b b1)), .val (.int (own_b b2)), .val (.int (own_b b3)), .val (.long ex), .second, .val (.long ac), .second, .val (.ref b6), .unset, .unset, .unset, .unset, .unset, .unset, .unset, .unset, .unset, .unset] [])) _
      exact k)
  obtain ⟨T12, h12, locs12, X12, e12, N12, f12_0, go12⟩ : ∃ (T' : State) (h' : Heap) (locs' : List Loc), Stand p l e room_1 s m #[(.int p1), (.int p2), (.int p3), (.int p4)] below meth c T' locs' 7 32 ∧ T'.heap = h' ∧ Fr n0 locs' ∧ (own_heap Z h' n0 b6 ae ar av aq N ex ac (fun j => b1 && decide (j = nd.toInt.toNat)) (fun _ => false) (fun _ => false)) ∧ (∀ t, Steps p.tables e below (T'.setTop (mkF m 108 #[.val (.int p1), .val (.int p2), .val (.int p3), .val (.int p4), .val (.int n), .val (.int nd), .val (.int ot), .val (.int (own_b b1)), .val (.int (own_b b2)), .val (.int (own_b b3)), .val (.long ex), .second, .val (.long ac), .second, .val (.ref b6), .unset, .unset, .unset, .unset, .unset, .unset, .unset, .unset, .unset, .unset] [])) t → G t) := by
    by_cases hm : b1 = false
    · have go13 : ∀ t, Steps p.tables e below (T9.setTop (mkF m 108 #[.val (.int p1), .val (.int p2), .val (.int p3), .val (.int p4), .val (.int n), .val (.int nd), .val (.int ot), .val (.int (own_b b1)), .val (.int (own_b b2)), .val (.int (own_b b3)), .val (.long ex), .second, .val (.long ac), .second, .val (.ref b6), .unset, .unset, .unset, .unset, .unset, .unset, .unset, .unset, .unset, .unset] [])) t → G t := fun t k => go11 t (by
          show Steps p.tables e below (T9.setTop (mkF m 96 #[.val (.int p1), .val (.int p2), .val (.int p3), .val (.int p4), .val (.int n), .val (.int nd), .val (.int ot), .val (.int (own_b b1)), .val (.int (own_b b2)), .val (.int (own_b b3)), .val (.long ex), .second, .val (.long ac), .second, .val (.ref b6), .unset, .unset, .unset, .unset, .unset, .unset, .unset, .unset, .unset, .unset] [])) _
          refine XS.iload X9.here hx rfl (hb hby at_96) rfl ?_
          show Steps p.tables e below (T9.setTop (mkF m 98 #[.val (.int p1), .val (.int p2), .val (.int p3), .val (.int p4), .val (.int n), .val (.int nd), .val (.int ot), .val (.int (own_b b1)), .val (.int (own_b b2)), .val (.int (own_b b3)), .val (.long ex), .second, .val (.long ac), .second, .val (.ref b6), .unset, .unset, .unset, .unset, .unset, .unset, .unset, .unset, .unset, .unset] [(.int (own_b b1))])) _
          refine XS.ifYes X9.here hx rfl (pc0 := 98) (pc' := 108) rfl (hb hby at_98) rfl ((if0 _ _).trans (teq (own_b0 hm)).1) (by decide) (by decide) ?_
          show Steps p.tables e below (T9.setTop (mkF m 108 #[.val (.int p1), .val (.int p2), .val (.int p3), .val (.int p4), .val (.int n), .val (.int nd), .val (.int ot), .val (.int (own_b b1)), .val (.int (own_b b2)), .val (.int (own_b b3)), .val (.long ex), .second, .val (.long ac), .second, .val (.ref b6), .unset, .unset, .unset, .unset, .unset, .unset, .unset, .unset, .unset, .unset] [])) _
          exact k)
      exact ⟨T9, T9.heap, _, X9, rfl, N9, own_heap_eq H0 (fun j _ => by rw [hm]; simp) (fun _ _ => rfl) (fun _ _ => rfl), go13⟩
    · have hm' : b1 = true := by simpa using hm
      have go14 : ∀ t, Steps p.tables e below (T9.setTop (mkF m 105 #[.val (.int p1), .val (.int p2), .val (.int p3), .val (.int p4), .val (.int n), .val (.int nd), .val (.int ot), .val (.int (own_b b1)), .val (.int (own_b b2)), .val (.int (own_b b3)), .val (.long ex), .second, .val (.long ac), .second, .val (.ref b6), .unset, .unset, .unset, .unset, .unset, .unset, .unset, .unset, .unset, .unset] [(.int nd), (.ref b6)])) t → G t := fun t k => go11 t (by
          show Steps p.tables e below (T9.setTop (mkF m 96 #[.val (.int p1), .val (.int p2), .val (.int p3), .val (.int p4), .val (.int n), .val (.int nd), .val (.int ot), .val (.int (own_b b1)), .val (.int (own_b b2)), .val (.int (own_b b3)), .val (.long ex), .second, .val (.long ac), .second, .val (.ref b6), .unset, .unset, .unset, .unset, .unset, .unset, .unset, .unset, .unset, .unset] [])) _
          refine XS.iload X9.here hx rfl (hb hby at_96) rfl ?_
          show Steps p.tables e below (T9.setTop (mkF m 98 #[.val (.int p1), .val (.int p2), .val (.int p3), .val (.int p4), .val (.int n), .val (.int nd), .val (.int ot), .val (.int (own_b b1)), .val (.int (own_b b2)), .val (.int (own_b b3)), .val (.long ex), .second, .val (.long ac), .second, .val (.ref b6), .unset, .unset, .unset, .unset, .unset, .unset, .unset, .unset, .unset, .unset] [(.int (own_b b1))])) _
          refine XS.ifNo X9.here hx rfl (hb hby at_98) rfl ((if0 _ _).trans (feq (own_bn hm)).1) ?_
          show Steps p.tables e below (T9.setTop (mkF m 101 #[.val (.int p1), .val (.int p2), .val (.int p3), .val (.int p4), .val (.int n), .val (.int nd), .val (.int ot), .val (.int (own_b b1)), .val (.int (own_b b2)), .val (.int (own_b b3)), .val (.long ex), .second, .val (.long ac), .second, .val (.ref b6), .unset, .unset, .unset, .unset, .unset, .unset, .unset, .unset, .unset, .unset] [])) _
          refine XS.aload X9.here hx rfl (hb hby at_101) rfl rfl ?_
          show Steps p.tables e below (T9.setTop (mkF m 103 #[.val (.int p1), .val (.int p2), .val (.int p3), .val (.int p4), .val (.int n), .val (.int nd), .val (.int ot), .val (.int (own_b b1)), .val (.int (own_b b2)), .val (.int (own_b b3)), .val (.long ex), .second, .val (.long ac), .second, .val (.ref b6), .unset, .unset, .unset, .unset, .unset, .unset, .unset, .unset, .unset, .unset] [(.ref b6)])) _
          refine XS.iload X9.here hx rfl (hb hby at_103) rfl ?_
          show Steps p.tables e below (T9.setTop (mkF m 105 #[.val (.int p1), .val (.int p2), .val (.int p3), .val (.int p4), .val (.int n), .val (.int nd), .val (.int ot), .val (.int (own_b b1)), .val (.int (own_b b2)), .val (.int (own_b b3)), .val (.long ex), .second, .val (.long ac), .second, .val (.ref b6), .unset, .unset, .unset, .unset, .unset, .unset, .unset, .unset, .unset, .unset] [(.int nd), (.ref b6)])) _
          exact k)
      obtain ⟨cq15, kq15, q15a, q15b, q15c⟩ := isOf hZ rfl H0.1.1
      obtain ⟨_, _, ⟨T15, L15, k15, n15⟩, -, X15, ⟨Lc15, hQ15, l15, y15, z15⟩, st15⟩ := X9.virtualBack hx (y := (⟨"com/example/halfmesh/halfmesh/CompleteRelay", "initiate", "(I)V"⟩ : MethodName)) (z := (⟨"com/example/halfmesh/halfmesh/CompleteRelay", "initiate", "(I)V"⟩ : MethodName)) hown (mvT hZ (hw _ (List.mem_of_getElem? (i := 52) rfl))) (mvT hZ (hw _ (List.mem_of_getElem? (i := 53) rfl))) (notFace_of_selects (args := #[]) (mvT hZ (hw _ (List.mem_of_getElem? (i := 55) rfl)))) (mvT hZ (hw _ (List.mem_of_getElem? (i := 55) rfl))) (mvT hZ (hw _ (List.mem_of_getElem? (i := 54) rfl))) (by decide) (backOf (W := 0) (rm6 l Z a0 hw [] b6 nd ae ar av aq N ex ac (fun _ => false) (fun _ => false) (fun _ => false) T9.heap n0 H0.2.2.2.2 H0 bnd.1 n1) hZ (hw _ (List.mem_of_getElem? (i := 56) rfl)) (hw _ (List.mem_of_getElem? (i := 4) rfl)) (by decide) (by decide)) q15a q15c (g := (mkF m 105 #[.val (.int p1), .val (.int p2), .val (.int p3), .val (.int p4), .val (.int n), .val (.int nd), .val (.int ot), .val (.int (own_b b1)), .val (.int (own_b b2)), .val (.int (own_b b3)), .val (.long ex), .second, .val (.long ac), .second, .val (.ref b6), .unset, .unset, .unset, .unset, .unset, .unset, .unset, .unset, .unset, .unset] [(.int nd), (.ref b6)])) rfl (by rw [hml]; rfl) (Steps.refl _) (argsL := [(.int nd)]) (rest := []) (lenOf pd_i rfl) rfl (by show 2 * 0 + _ ≤ _; exact Nat.le_of_eq rfl) (hb hby at_105) (fun _ _ => ⟨rfl, rfl, (by decide : 7 + 0 ≤ _), (by decide : 32 + 0 ≤ _)⟩)
      dsimp only [Pt.U, Pt.locs, Pt.cells, Pt.slots] at X15 l15 y15 z15 st15 hQ15
      subst l15 y15 z15
      obtain ⟨rfl, N15q, H'⟩ := hQ15
      have N15 := Fr.app N9 N15q
      have go16 : ∀ t, Steps p.tables e below (T15.setTop (mkF m 108 #[.val (.int p1), .val (.int p2), .val (.int p3), .val (.int p4), .val (.int n), .val (.int nd), .val (.int ot), .val (.int (own_b b1)), .val (.int (own_b b2)), .val (.int (own_b b3)), .val (.long ex), .second, .val (.long ac), .second, .val (.ref b6), .unset, .unset, .unset, .unset, .unset, .unset, .unset, .unset, .unset, .unset] [])) t → G t := fun t k => go14 t (st15.trans k)
      exact ⟨T15, T15.heap, _, X15, rfl, N15, own_heap_eq H' (fun j _ => by rw [hm']; simp) (fun _ _ => rfl) (fun _ _ => rfl), go16⟩
  obtain ⟨T17, h17, locs17, X17, e17, N17, f17_0, go17⟩ : ∃ (T' : State) (h' : Heap) (locs' : List Loc), Stand p l e room_1 s m #[(.int p1), (.int p2), (.int p3), (.int p4)] below meth c T' locs' 7 32 ∧ T'.heap = h' ∧ Fr n0 locs' ∧ (own_heap Z h' n0 b6 ae ar av aq N ex ac (fun j => (b1 && decide (j = nd.toInt.toNat)) || (b3 && decide (j = ot.toInt.toNat))) (fun _ => false) (fun _ => false)) ∧ (∀ t, Steps p.tables e below (T'.setTop (mkF m 120 #[.val (.int p1), .val (.int p2), .val (.int p3), .val (.int p4), .val (.int n), .val (.int nd), .val (.int ot), .val (.int (own_b b1)), .val (.int (own_b b2)), .val (.int (own_b b3)), .val (.long ex), .second, .val (.long ac), .second, .val (.ref b6), .unset, .unset, .unset, .unset, .unset, .unset, .unset, .unset, .unset, .unset] [])) t → G t) := by
    by_cases hm : b3 = false
    · have go18 : ∀ t, Steps p.tables e below (T12.setTop (mkF m 120 #[.val (.int p1), .val (.int p2), .val (.int p3), .val (.int p4), .val (.int n), .val (.int nd), .val (.int ot), .val (.int (own_b b1)), .val (.int (own_b b2)), .val (.int (own_b b3)), .val (.long ex), .second, .val (.long ac), .second, .val (.ref b6), .unset, .unset, .unset, .unset, .unset, .unset, .unset, .unset, .unset, .unset] [])) t → G t := fun t k => go12 t (by
          show Steps p.tables e below (T12.setTop (mkF m 108 #[.val (.int p1), .val (.int p2), .val (.int p3), .val (.int p4), .val (.int n), .val (.int nd), .val (.int ot), .val (.int (own_b b1)), .val (.int (own_b b2)), .val (.int (own_b b3)), .val (.long ex), .second, .val (.long ac), .second, .val (.ref b6), .unset, .unset, .unset, .unset, .unset, .unset, .unset, .unset, .unset, .unset] [])) _
          refine XS.iload X12.here hx rfl (hb hby at_108) rfl ?_
          show Steps p.tables e below (T12.setTop (mkF m 110 #[.val (.int p1), .val (.int p2), .val (.int p3), .val (.int p4), .val (.int n), .val (.int nd), .val (.int ot), .val (.int (own_b b1)), .val (.int (own_b b2)), .val (.int (own_b b3)), .val (.long ex), .second, .val (.long ac), .second, .val (.ref b6), .unset, .unset, .unset, .unset, .unset, .unset, .unset, .unset, .unset, .unset] [(.int (own_b b3))])) _
          refine XS.ifYes X12.here hx rfl (pc0 := 110) (pc' := 120) rfl (hb hby at_110) rfl ((if0 _ _).trans (teq (own_b0 hm)).1) (by decide) (by decide) ?_
          show Steps p.tables e below (T12.setTop (mkF m 120 #[.val (.int p1), .val (.int p2), .val (.int p3), .val (.int p4), .val (.int n), .val (.int nd), .val (.int ot), .val (.int (own_b b1)), .val (.int (own_b b2)), .val (.int (own_b b3)), .val (.long ex), .second, .val (.long ac), .second, .val (.ref b6), .unset, .unset, .unset, .unset, .unset, .unset, .unset, .unset, .unset, .unset] [])) _
          exact k)
      exact ⟨T12, h12, _, X12, e12, N12, own_heap_eq f12_0 (fun j _ => by rw [hm]; simp) (fun _ _ => rfl) (fun _ _ => rfl), go18⟩
    · have hm' : b3 = true := by simpa using hm
      have go19 : ∀ t, Steps p.tables e below (T12.setTop (mkF m 117 #[.val (.int p1), .val (.int p2), .val (.int p3), .val (.int p4), .val (.int n), .val (.int nd), .val (.int ot), .val (.int (own_b b1)), .val (.int (own_b b2)), .val (.int (own_b b3)), .val (.long ex), .second, .val (.long ac), .second, .val (.ref b6), .unset, .unset, .unset, .unset, .unset, .unset, .unset, .unset, .unset, .unset] [(.int ot), (.ref b6)])) t → G t := fun t k => go12 t (by
          show Steps p.tables e below (T12.setTop (mkF m 108 #[.val (.int p1), .val (.int p2), .val (.int p3), .val (.int p4), .val (.int n), .val (.int nd), .val (.int ot), .val (.int (own_b b1)), .val (.int (own_b b2)), .val (.int (own_b b3)), .val (.long ex), .second, .val (.long ac), .second, .val (.ref b6), .unset, .unset, .unset, .unset, .unset, .unset, .unset, .unset, .unset, .unset] [])) _
          refine XS.iload X12.here hx rfl (hb hby at_108) rfl ?_
          show Steps p.tables e below (T12.setTop (mkF m 110 #[.val (.int p1), .val (.int p2), .val (.int p3), .val (.int p4), .val (.int n), .val (.int nd), .val (.int ot), .val (.int (own_b b1)), .val (.int (own_b b2)), .val (.int (own_b b3)), .val (.long ex), .second, .val (.long ac), .second, .val (.ref b6), .unset, .unset, .unset, .unset, .unset, .unset, .unset, .unset, .unset, .unset] [(.int (own_b b3))])) _
          refine XS.ifNo X12.here hx rfl (hb hby at_110) rfl ((if0 _ _).trans (feq (own_bn hm)).1) ?_
          show Steps p.tables e below (T12.setTop (mkF m 113 #[.val (.int p1), .val (.int p2), .val (.int p3), .val (.int p4), .val (.int n), .val (.int nd), .val (.int ot), .val (.int (own_b b1)), .val (.int (own_b b2)), .val (.int (own_b b3)), .val (.long ex), .second, .val (.long ac), .second, .val (.ref b6), .unset, .unset, .unset, .unset, .unset, .unset, .unset, .unset, .unset, .unset] [])) _
          refine XS.aload X12.here hx rfl (hb hby at_113) rfl rfl ?_
          show Steps p.tables e below (T12.setTop (mkF m 115 #[.val (.int p1), .val (.int p2), .val (.int p3), .val (.int p4), .val (.int n), .val (.int nd), .val (.int ot), .val (.int (own_b b1)), .val (.int (own_b b2)), .val (.int (own_b b3)), .val (.long ex), .second, .val (.long ac), .second, .val (.ref b6), .unset, .unset, .unset, .unset, .unset, .unset, .unset, .unset, .unset, .unset] [(.ref b6)])) _
          refine XS.iload X12.here hx rfl (hb hby at_115) rfl ?_
          show Steps p.tables e below (T12.setTop (mkF m 117 #[.val (.int p1), .val (.int p2), .val (.int p3), .val (.int p4), .val (.int n), .val (.int nd), .val (.int ot), .val (.int (own_b b1)), .val (.int (own_b b2)), .val (.int (own_b b3)), .val (.long ex), .second, .val (.long ac), .second, .val (.ref b6), .unset, .unset, .unset, .unset, .unset, .unset, .unset, .unset, .unset, .unset] [(.int ot), (.ref b6)])) _
          exact k)
      obtain ⟨cq20, kq20, q20a, q20b, q20c⟩ := isOf hZ e12 f12_0.1.1
      obtain ⟨_, _, ⟨T20, L20, k20, n20⟩, -, X20, ⟨Lc20, hQ20, l20, y20, z20⟩, st20⟩ := X12.virtualBack hx (y := (⟨"com/example/halfmesh/halfmesh/CompleteRelay", "initiate", "(I)V"⟩ : MethodName)) (z := (⟨"com/example/halfmesh/halfmesh/CompleteRelay", "initiate", "(I)V"⟩ : MethodName)) hown (mvT hZ (hw _ (List.mem_of_getElem? (i := 52) rfl))) (mvT hZ (hw _ (List.mem_of_getElem? (i := 53) rfl))) (notFace_of_selects (args := #[]) (mvT hZ (hw _ (List.mem_of_getElem? (i := 55) rfl)))) (mvT hZ (hw _ (List.mem_of_getElem? (i := 55) rfl))) (mvT hZ (hw _ (List.mem_of_getElem? (i := 54) rfl))) (by decide) (backOf (W := 0) (rm6 l Z a0 hw [] b6 ot ae ar av aq N ex ac (fun j => b1 && decide (j = nd.toInt.toNat)) (fun _ => false) (fun _ => false) h12 n0 f12_0.2.2.2.2 f12_0 bot.1 n2) hZ (hw _ (List.mem_of_getElem? (i := 56) rfl)) (hw _ (List.mem_of_getElem? (i := 4) rfl)) (by decide) (by decide)) q20a q20c (g := (mkF m 117 #[.val (.int p1), .val (.int p2), .val (.int p3), .val (.int p4), .val (.int n), .val (.int nd), .val (.int ot), .val (.int (own_b b1)), .val (.int (own_b b2)), .val (.int (own_b b3)), .val (.long ex), .second, .val (.long ac), .second, .val (.ref b6), .unset, .unset, .unset, .unset, .unset, .unset, .unset, .unset, .unset, .unset] [(.int ot), (.ref b6)])) rfl (by rw [hml]; rfl) (Steps.refl _) (argsL := [(.int ot)]) (rest := []) (lenOf pd_i rfl) rfl (by show 2 * 0 + _ ≤ _; exact Nat.le_of_eq rfl) (hb hby at_117) (fun _ _ => ⟨rfl, e12, (by decide : 7 + 0 ≤ _), (by decide : 32 + 0 ≤ _)⟩)
      dsimp only [Pt.U, Pt.locs, Pt.cells, Pt.slots] at X20 l20 y20 z20 st20 hQ20
      subst l20 y20 z20
      obtain ⟨rfl, N20q, H'⟩ := hQ20
      have N20 := Fr.app N12 N20q
      have go21 : ∀ t, Steps p.tables e below (T20.setTop (mkF m 120 #[.val (.int p1), .val (.int p2), .val (.int p3), .val (.int p4), .val (.int n), .val (.int nd), .val (.int ot), .val (.int (own_b b1)), .val (.int (own_b b2)), .val (.int (own_b b3)), .val (.long ex), .second, .val (.long ac), .second, .val (.ref b6), .unset, .unset, .unset, .unset, .unset, .unset, .unset, .unset, .unset, .unset] [])) t → G t := fun t k => go19 t (st20.trans k)
      exact ⟨T20, T20.heap, _, X20, rfl, N20, own_heap_eq H' (fun j _ => by rw [hm']; simp) (fun _ _ => rfl) (fun _ _ => rfl), go21⟩
  obtain ⟨T22, h22, locs22, X22, e22, N22, f22_0, go22⟩ : ∃ (T' : State) (h' : Heap) (locs' : List Loc), Stand p l e room_1 s m #[(.int p1), (.int p2), (.int p3), (.int p4)] below meth c T' locs' 7 32 ∧ T'.heap = h' ∧ Fr n0 locs' ∧ (own_heap Z h' n0 b6 ae ar av aq N ex ac (fun j => ((b1 && decide (j = nd.toInt.toNat)) || (b3 && decide (j = ot.toInt.toNat))) || (b2 && xe)) (fun _ => false) (fun _ => ea)) ∧ (∀ t, Steps p.tables e below (T'.setTop (mkF m 130 #[.val (.int p1), .val (.int p2), .val (.int p3), .val (.int p4), .val (.int n), .val (.int nd), .val (.int ot), .val (.int (own_b b1)), .val (.int (own_b b2)), .val (.int (own_b b3)), .val (.long ex), .second, .val (.long ac), .second, .val (.ref b6), .unset, .unset, .unset, .unset, .unset, .unset, .unset, .unset, .unset, .unset] [])) t → G t) := by
    by_cases hm : b2 = false
    · have go23 : ∀ t, Steps p.tables e below (T17.setTop (mkF m 130 #[.val (.int p1), .val (.int p2), .val (.int p3), .val (.int p4), .val (.int n), .val (.int nd), .val (.int ot), .val (.int (own_b b1)), .val (.int (own_b b2)), .val (.int (own_b b3)), .val (.long ex), .second, .val (.long ac), .second, .val (.ref b6), .unset, .unset, .unset, .unset, .unset, .unset, .unset, .unset, .unset, .unset] [])) t → G t := fun t k => go17 t (by
          show Steps p.tables e below (T17.setTop (mkF m 120 #[.val (.int p1), .val (.int p2), .val (.int p3), .val (.int p4), .val (.int n), .val (.int nd), .val (.int ot), .val (.int (own_b b1)), .val (.int (own_b b2)), .val (.int (own_b b3)), .val (.long ex), .second, .val (.long ac), .second, .val (.ref b6), .unset, .unset, .unset, .unset, .unset, .unset, .unset, .unset, .unset, .unset] [])) _
          refine XS.iload X17.here hx rfl (hb hby at_120) rfl ?_
          show Steps p.tables e below (T17.setTop (mkF m 122 #[.val (.int p1), .val (.int p2), .val (.int p3), .val (.int p4), .val (.int n), .val (.int nd), .val (.int ot), .val (.int (own_b b1)), .val (.int (own_b b2)), .val (.int (own_b b3)), .val (.long ex), .second, .val (.long ac), .second, .val (.ref b6), .unset, .unset, .unset, .unset, .unset, .unset, .unset, .unset, .unset, .unset] [(.int (own_b b2))])) _
          refine XS.ifYes X17.here hx rfl (pc0 := 122) (pc' := 130) rfl (hb hby at_122) rfl ((if0 _ _).trans (teq (own_b0 hm)).1) (by decide) (by decide) ?_
          show Steps p.tables e below (T17.setTop (mkF m 130 #[.val (.int p1), .val (.int p2), .val (.int p3), .val (.int p4), .val (.int n), .val (.int nd), .val (.int ot), .val (.int (own_b b1)), .val (.int (own_b b2)), .val (.int (own_b b3)), .val (.long ex), .second, .val (.long ac), .second, .val (.ref b6), .unset, .unset, .unset, .unset, .unset, .unset, .unset, .unset, .unset, .unset] [])) _
          exact k)
      exact ⟨T17, h17, _, X17, e17, N17, own_heap_eq f17_0 (fun j _ => by rw [hm]; simp) (fun _ _ => rfl) (fun j _ => by rw [hea, hm]; rfl), go23⟩
    · have hm' : b2 = true := by simpa using hm
      have go24 : ∀ t, Steps p.tables e below (T17.setTop (mkF m 127 #[.val (.int p1), .val (.int p2), .val (.int p3), .val (.int p4), .val (.int n), .val (.int nd), .val (.int ot), .val (.int (own_b b1)), .val (.int (own_b b2)), .val (.int (own_b b3)), .val (.long ex), .second, .val (.long ac), .second, .val (.ref b6), .unset, .unset, .unset, .unset, .unset, .unset, .unset, .unset, .unset, .unset] [(.ref b6)])) t → G t := fun t k => go17 t (by
          show Steps p.tables e below (T17.setTop (mkF m 120 #[.val (.int p1), .val (.int p2), .val (.int p3), .val (.int p4), .val (.int n), .val (.int nd), .val (.int ot), .val (.int (own_b b1)), .val (.int (own_b b2)), .val (.int (own_b b3)), .val (.long ex), .second, .val (.long ac), .second, .val (.ref b6), .unset, .unset, .unset, .unset, .unset, .unset, .unset, .unset, .unset, .unset] [])) _
          refine XS.iload X17.here hx rfl (hb hby at_120) rfl ?_
          show Steps p.tables e below (T17.setTop (mkF m 122 #[.val (.int p1), .val (.int p2), .val (.int p3), .val (.int p4), .val (.int n), .val (.int nd), .val (.int ot), .val (.int (own_b b1)), .val (.int (own_b b2)), .val (.int (own_b b3)), .val (.long ex), .second, .val (.long ac), .second, .val (.ref b6), .unset, .unset, .unset, .unset, .unset, .unset, .unset, .unset, .unset, .unset] [(.int (own_b b2))])) _
          refine XS.ifNo X17.here hx rfl (hb hby at_122) rfl ((if0 _ _).trans (feq (own_bn hm)).1) ?_
          show Steps p.tables e below (T17.setTop (mkF m 125 #[.val (.int p1), .val (.int p2), .val (.int p3), .val (.int p4), .val (.int n), .val (.int nd), .val (.int ot), .val (.int (own_b b1)), .val (.int (own_b b2)), .val (.int (own_b b3)), .val (.long ex), .second, .val (.long ac), .second, .val (.ref b6), .unset, .unset, .unset, .unset, .unset, .unset, .unset, .unset, .unset, .unset] [])) _
          refine XS.aload X17.here hx rfl (hb hby at_125) rfl rfl ?_
          show Steps p.tables e below (T17.setTop (mkF m 127 #[.val (.int p1), .val (.int p2), .val (.int p3), .val (.int p4), .val (.int n), .val (.int nd), .val (.int ot), .val (.int (own_b b1)), .val (.int (own_b b2)), .val (.int (own_b b3)), .val (.long ex), .second, .val (.long ac), .second, .val (.ref b6), .unset, .unset, .unset, .unset, .unset, .unset, .unset, .unset, .unset, .unset] [(.ref b6)])) _
          exact k)
      obtain ⟨cq25, kq25, q25a, q25b, q25c⟩ := isOf hZ e17 f17_0.1.1
      obtain ⟨_, _, ⟨T25, L25, k25, n25⟩, -, X25, ⟨Lc25, hQ25, l25, y25, z25⟩, st25⟩ := X17.virtualBack hx (y := (⟨"com/example/halfmesh/halfmesh/CompleteRelay", "endRelays", "()V"⟩ : MethodName)) (z := (⟨"com/example/halfmesh/halfmesh/CompleteRelay", "endRelays", "()V"⟩ : MethodName)) hown (mvT hZ (hw _ (List.mem_of_getElem? (i := 62) rfl))) (mvT hZ (hw _ (List.mem_of_getElem? (i := 63) rfl))) (notFace_of_selects (args := #[]) (mvT hZ (hw _ (List.mem_of_getElem? (i := 65) rfl)))) (mvT hZ (hw _ (List.mem_of_getElem? (i := 65) rfl))) (mvT hZ (hw _ (List.mem_of_getElem? (i := 64) rfl))) (by decide) (backOf (W := 0) (rm8 l Z a0 hw [] b6 ae ar av aq N ex ac (fun j => (b1 && decide (j = nd.toInt.toNat)) || (b3 && decide (j = ot.toInt.toNat))) (fun _ => false) (fun _ => false) h17 n0 f17_0.2.2.2.2 f17_0 hN5) hZ (hw _ (List.mem_of_getElem? (i := 66) rfl)) (hw _ (List.mem_of_getElem? (i := 4) rfl)) (by decide) (by decide)) q25a q25c (g := (mkF m 127 #[.val (.int p1), .val (.int p2), .val (.int p3), .val (.int p4), .val (.int n), .val (.int nd), .val (.int ot), .val (.int (own_b b1)), .val (.int (own_b b2)), .val (.int (own_b b3)), .val (.long ex), .second, .val (.long ac), .second, .val (.ref b6), .unset, .unset, .unset, .unset, .unset, .unset, .unset, .unset, .unset, .unset] [(.ref b6)])) rfl (by rw [hml]; rfl) (Steps.refl _) (argsL := []) (rest := []) (lenOf pd_v rfl) rfl (by show 2 * 0 + _ ≤ _; exact Nat.le_of_eq rfl) (hb hby at_127) (fun _ _ => ⟨rfl, e17, (by decide : 7 + 0 ≤ _), (by decide : 32 + 0 ≤ _)⟩)
      dsimp only [Pt.U, Pt.locs, Pt.cells, Pt.slots] at X25 l25 y25 z25 st25 hQ25
      subst l25 y25 z25
      obtain ⟨rfl, N25q, H'⟩ := hQ25
      have N25 := Fr.app N17 N25q
      have go26 : ∀ t, Steps p.tables e below (T25.setTop (mkF m 130 #[.val (.int p1), .val (.int p2), .val (.int p3), .val (.int p4), .val (.int n), .val (.int nd), .val (.int ot), .val (.int (own_b b1)), .val (.int (own_b b2)), .val (.int (own_b b3)), .val (.long ex), .second, .val (.long ac), .second, .val (.ref b6), .unset, .unset, .unset, .unset, .unset, .unset, .unset, .unset, .unset, .unset] [])) t → G t := fun t k => go24 t (st25.trans k)
      exact ⟨T25, T25.heap, _, X25, rfl, N25, own_heap_eq H' (fun j _ => by rw [hm', hxe]; rfl) (fun _ _ => rfl) (fun j _ => by rw [hea, hm', hxa]; rfl), go26⟩
  have go27 : ∀ t, Steps p.tables e below (T22.setTop (mkF m 154 #[.val (.int p1), .val (.int p2), .val (.int p3), .val (.int p4), .val (.int n), .val (.int nd), .val (.int ot), .val (.int (own_b b1)), .val (.int (own_b b2)), .val (.int (own_b b3)), .val (.long ex), .second, .val (.long ac), .second, .val (.ref b6), .val (.int (own_b eN)), .unset, .unset, .unset, .unset, .unset, .unset, .unset, .unset, .unset] [])) t → G t := fun t k => go22 t (by
      show Steps p.tables e below (T22.setTop (mkF m 130 #[.val (.int p1), .val (.int p2), .val (.int p3), .val (.int p4), .val (.int n), .val (.int nd), .val (.int ot), .val (.int (own_b b1)), .val (.int (own_b b2)), .val (.int (own_b b3)), .val (.long ex), .second, .val (.long ac), .second, .val (.ref b6), .unset, .unset, .unset, .unset, .unset, .unset, .unset, .unset, .unset, .unset] [])) _
      refine XS.iload X22.here hx rfl (hb hby at_130) rfl ?_
      show Steps p.tables e below (T22.setTop (mkF m 132 #[.val (.int p1), .val (.int p2), .val (.int p3), .val (.int p4), .val (.int n), .val (.int nd), .val (.int ot), .val (.int (own_b b1)), .val (.int (own_b b2)), .val (.int (own_b b3)), .val (.long ex), .second, .val (.long ac), .second, .val (.ref b6), .unset, .unset, .unset, .unset, .unset, .unset, .unset, .unset, .unset, .unset] [(.int (own_b b1))])) _
      by_cases h132 : b1 = false
      · refine XS.ifNo X22.here hx rfl (hb hby at_132) rfl ((if0 _ _).trans (teq (own_b0 h132)).2) ?_
        show Steps p.tables e below (T22.setTop (mkF m 135 #[.val (.int p1), .val (.int p2), .val (.int p3), .val (.int p4), .val (.int n), .val (.int nd), .val (.int ot), .val (.int (own_b b1)), .val (.int (own_b b2)), .val (.int (own_b b3)), .val (.long ex), .second, .val (.long ac), .second, .val (.ref b6), .unset, .unset, .unset, .unset, .unset, .unset, .unset, .unset, .unset, .unset] [])) _
        refine XS.iload X22.here hx rfl (hb hby at_135) rfl ?_
        show Steps p.tables e below (T22.setTop (mkF m 137 #[.val (.int p1), .val (.int p2), .val (.int p3), .val (.int p4), .val (.int n), .val (.int nd), .val (.int ot), .val (.int (own_b b1)), .val (.int (own_b b2)), .val (.int (own_b b3)), .val (.long ex), .second, .val (.long ac), .second, .val (.ref b6), .unset, .unset, .unset, .unset, .unset, .unset, .unset, .unset, .unset, .unset] [(.int (own_b b2))])) _
        by_cases h137 : b2 = false
        · refine XS.ifYes X22.here hx rfl (pc0 := 137) (pc' := 151) rfl (hb hby at_137) rfl ((if0 _ _).trans (teq (own_b0 h137)).1) (by decide) (by decide) ?_
          show Steps p.tables e below (T22.setTop (mkF m 151 #[.val (.int p1), .val (.int p2), .val (.int p3), .val (.int p4), .val (.int n), .val (.int nd), .val (.int ot), .val (.int (own_b b1)), .val (.int (own_b b2)), .val (.int (own_b b3)), .val (.long ex), .second, .val (.long ac), .second, .val (.ref b6), .unset, .unset, .unset, .unset, .unset, .unset, .unset, .unset, .unset, .unset] [])) _
          refine XS.iconst X22.here hx rfl (hb hby at_151) ?_
          show Steps p.tables e below (T22.setTop (mkF m 152 #[.val (.int p1), .val (.int p2), .val (.int p3), .val (.int p4), .val (.int n), .val (.int nd), .val (.int ot), .val (.int (own_b b1)), .val (.int (own_b b2)), .val (.int (own_b b3)), .val (.long ex), .second, .val (.long ac), .second, .val (.ref b6), .unset, .unset, .unset, .unset, .unset, .unset, .unset, .unset, .unset, .unset] [(.int (0 : Int32))])) _
          refine XS.istore X22.here hx rfl (hb hby at_152) rfl (l' := #[.val (.int p1), .val (.int p2), .val (.int p3), .val (.int p4), .val (.int n), .val (.int nd), .val (.int ot), .val (.int (own_b b1)), .val (.int (own_b b2)), .val (.int (own_b b3)), .val (.long ex), .second, .val (.long ac), .second, .val (.ref b6), .val (.int (0 : Int32)), .unset, .unset, .unset, .unset, .unset, .unset, .unset, .unset, .unset]) rfl ?_
          show Steps p.tables e below (T22.setTop (mkF m 154 #[.val (.int p1), .val (.int p2), .val (.int p3), .val (.int p4), .val (.int n), .val (.int nd), .val (.int ot), .val (.int (own_b b1)), .val (.int (own_b b2)), .val (.int (own_b b3)), .val (.long ex), .second, .val (.long ac), .second, .val (.ref b6), .val (.int (0 : Int32)), .unset, .unset, .unset, .unset, .unset, .unset, .unset, .unset, .unset] [])) _
          have hv : own_b eN = (0 : Int32) := own_b0 (by rw [heN, hxe]; exact own_or2 h132 (own_and1 h137))
          rw [hv] at k
          exact k
        · refine XS.ifNo X22.here hx rfl (hb hby at_137) rfl ((if0 _ _).trans (feq (own_bn h137)).1) ?_
          show Steps p.tables e below (T22.setTop (mkF m 140 #[.val (.int p1), .val (.int p2), .val (.int p3), .val (.int p4), .val (.int n), .val (.int nd), .val (.int ot), .val (.int (own_b b1)), .val (.int (own_b b2)), .val (.int (own_b b3)), .val (.long ex), .second, .val (.long ac), .second, .val (.ref b6), .unset, .unset, .unset, .unset, .unset, .unset, .unset, .unset, .unset, .unset] [])) _
          refine XS.lload X22.here hx rfl (hb hby at_140) rfl ?_
          show Steps p.tables e below (T22.setTop (mkF m 142 #[.val (.int p1), .val (.int p2), .val (.int p3), .val (.int p4), .val (.int n), .val (.int nd), .val (.int ot), .val (.int (own_b b1)), .val (.int (own_b b2)), .val (.int (own_b b3)), .val (.long ex), .second, .val (.long ac), .second, .val (.ref b6), .unset, .unset, .unset, .unset, .unset, .unset, .unset, .unset, .unset, .unset] [(.long ex)])) _
          refine XS.lconst X22.here hx rfl (hb hby at_142) ?_
          show Steps p.tables e below (T22.setTop (mkF m 143 #[.val (.int p1), .val (.int p2), .val (.int p3), .val (.int p4), .val (.int n), .val (.int nd), .val (.int ot), .val (.int (own_b b1)), .val (.int (own_b b2)), .val (.int (own_b b3)), .val (.long ex), .second, .val (.long ac), .second, .val (.ref b6), .unset, .unset, .unset, .unset, .unset, .unset, .unset, .unset, .unset, .unset] [(.long (0 : Int64)), (.long ex)])) _
          refine XS.lcmp X22.here hx rfl (hb hby at_143) rfl ?_
          show Steps p.tables e below (T22.setTop (mkF m 144 #[.val (.int p1), .val (.int p2), .val (.int p3), .val (.int p4), .val (.int n), .val (.int nd), .val (.int ot), .val (.int (own_b b1)), .val (.int (own_b b2)), .val (.int (own_b b3)), .val (.long ex), .second, .val (.long ac), .second, .val (.ref b6), .unset, .unset, .unset, .unset, .unset, .unset, .unset, .unset, .unset, .unset] [(.int (lcmpW ex (0 : Int64)))])) _
          by_cases h144 : 0 < ex.toInt
          · refine XS.ifYes X22.here hx rfl (pc0 := 144) (pc' := 151) rfl (hb hby at_144) rfl ((if0 _ _).trans (tlt ((lw_gt ex (0 : Int64)).mpr (show (0 : Int64) < ex from Int64.lt_iff_toInt_lt.mpr h144))).2.2.1) (by decide) (by decide) ?_
            show Steps p.tables e below (T22.setTop (mkF m 151 #[.val (.int p1), .val (.int p2), .val (.int p3), .val (.int p4), .val (.int n), .val (.int nd), .val (.int ot), .val (.int (own_b b1)), .val (.int (own_b b2)), .val (.int (own_b b3)), .val (.long ex), .second, .val (.long ac), .second, .val (.ref b6), .unset, .unset, .unset, .unset, .unset, .unset, .unset, .unset, .unset, .unset] [])) _
            refine XS.iconst X22.here hx rfl (hb hby at_151) ?_
            show Steps p.tables e below (T22.setTop (mkF m 152 #[.val (.int p1), .val (.int p2), .val (.int p3), .val (.int p4), .val (.int n), .val (.int nd), .val (.int ot), .val (.int (own_b b1)), .val (.int (own_b b2)), .val (.int (own_b b3)), .val (.long ex), .second, .val (.long ac), .second, .val (.ref b6), .unset, .unset, .unset, .unset, .unset, .unset, .unset, .unset, .unset, .unset] [(.int (0 : Int32))])) _
            refine XS.istore X22.here hx rfl (hb hby at_152) rfl (l' := #[.val (.int p1), .val (.int p2), .val (.int p3), .val (.int p4), .val (.int n), .val (.int nd), .val (.int ot), .val (.int (own_b b1)), .val (.int (own_b b2)), .val (.int (own_b b3)), .val (.long ex), .second, .val (.long ac), .second, .val (.ref b6), .val (.int (0 : Int32)), .unset, .unset, .unset, .unset, .unset, .unset, .unset, .unset, .unset]) rfl ?_
            show Steps p.tables e below (T22.setTop (mkF m 154 #[.val (.int p1), .val (.int p2), .val (.int p3), .val (.int p4), .val (.int n), .val (.int nd), .val (.int ot), .val (.int (own_b b1)), .val (.int (own_b b2)), .val (.int (own_b b3)), .val (.long ex), .second, .val (.long ac), .second, .val (.ref b6), .val (.int (0 : Int32)), .unset, .unset, .unset, .unset, .unset, .unset, .unset, .unset, .unset] [])) _
            have hv : own_b eN = (0 : Int32) := own_b0 (by rw [heN, hxe]; exact own_or2 h132 (own_and2 h144))
            rw [hv] at k
            exact k
          · refine XS.ifNo X22.here hx rfl (hb hby at_144) rfl ((if0 _ _).trans (flt (fun q => h144 (Int64.lt_iff_toInt_lt.mp ((lw_gt ex (0 : Int64)).mp q)))).2.2.1) ?_
            show Steps p.tables e below (T22.setTop (mkF m 147 #[.val (.int p1), .val (.int p2), .val (.int p3), .val (.int p4), .val (.int n), .val (.int nd), .val (.int ot), .val (.int (own_b b1)), .val (.int (own_b b2)), .val (.int (own_b b3)), .val (.long ex), .second, .val (.long ac), .second, .val (.ref b6), .unset, .unset, .unset, .unset, .unset, .unset, .unset, .unset, .unset, .unset] [])) _
            refine XS.iconst X22.here hx rfl (hb hby at_147) ?_
            show Steps p.tables e below (T22.setTop (mkF m 148 #[.val (.int p1), .val (.int p2), .val (.int p3), .val (.int p4), .val (.int n), .val (.int nd), .val (.int ot), .val (.int (own_b b1)), .val (.int (own_b b2)), .val (.int (own_b b3)), .val (.long ex), .second, .val (.long ac), .second, .val (.ref b6), .unset, .unset, .unset, .unset, .unset, .unset, .unset, .unset, .unset, .unset] [(.int (1 : Int32))])) _
            refine XS.goto X22.here hx rfl (pc0 := 148) (pc' := 152) rfl (hb hby at_148) (by decide) (by decide) ?_
            show Steps p.tables e below (T22.setTop (mkF m 152 #[.val (.int p1), .val (.int p2), .val (.int p3), .val (.int p4), .val (.int n), .val (.int nd), .val (.int ot), .val (.int (own_b b1)), .val (.int (own_b b2)), .val (.int (own_b b3)), .val (.long ex), .second, .val (.long ac), .second, .val (.ref b6), .unset, .unset, .unset, .unset, .unset, .unset, .unset, .unset, .unset, .unset] [(.int (1 : Int32))])) _
            refine XS.istore X22.here hx rfl (hb hby at_152) rfl (l' := #[.val (.int p1), .val (.int p2), .val (.int p3), .val (.int p4), .val (.int n), .val (.int nd), .val (.int ot), .val (.int (own_b b1)), .val (.int (own_b b2)), .val (.int (own_b b3)), .val (.long ex), .second, .val (.long ac), .second, .val (.ref b6), .val (.int (1 : Int32)), .unset, .unset, .unset, .unset, .unset, .unset, .unset, .unset, .unset]) rfl ?_
            show Steps p.tables e below (T22.setTop (mkF m 154 #[.val (.int p1), .val (.int p2), .val (.int p3), .val (.int p4), .val (.int n), .val (.int nd), .val (.int ot), .val (.int (own_b b1)), .val (.int (own_b b2)), .val (.int (own_b b3)), .val (.long ex), .second, .val (.long ac), .second, .val (.ref b6), .val (.int (1 : Int32)), .unset, .unset, .unset, .unset, .unset, .unset, .unset, .unset, .unset] [])) _
            have hv : own_b eN = (1 : Int32) := own_b1 (by rw [heN, hxe]; exact own_or3 (own_and3 h137 h144))
            rw [hv] at k
            exact k
      · refine XS.ifYes X22.here hx rfl (pc0 := 132) (pc' := 147) rfl (hb hby at_132) rfl ((if0 _ _).trans (feq (own_bn h132)).2) (by decide) (by decide) ?_
        show Steps p.tables e below (T22.setTop (mkF m 147 #[.val (.int p1), .val (.int p2), .val (.int p3), .val (.int p4), .val (.int n), .val (.int nd), .val (.int ot), .val (.int (own_b b1)), .val (.int (own_b b2)), .val (.int (own_b b3)), .val (.long ex), .second, .val (.long ac), .second, .val (.ref b6), .unset, .unset, .unset, .unset, .unset, .unset, .unset, .unset, .unset, .unset] [])) _
        refine XS.iconst X22.here hx rfl (hb hby at_147) ?_
        show Steps p.tables e below (T22.setTop (mkF m 148 #[.val (.int p1), .val (.int p2), .val (.int p3), .val (.int p4), .val (.int n), .val (.int nd), .val (.int ot), .val (.int (own_b b1)), .val (.int (own_b b2)), .val (.int (own_b b3)), .val (.long ex), .second, .val (.long ac), .second, .val (.ref b6), .unset, .unset, .unset, .unset, .unset, .unset, .unset, .unset, .unset, .unset] [(.int (1 : Int32))])) _
        refine XS.goto X22.here hx rfl (pc0 := 148) (pc' := 152) rfl (hb hby at_148) (by decide) (by decide) ?_
        show Steps p.tables e below (T22.setTop (mkF m 152 #[.val (.int p1), .val (.int p2), .val (.int p3), .val (.int p4), .val (.int n), .val (.int nd), .val (.int ot), .val (.int (own_b b1)), .val (.int (own_b b2)), .val (.int (own_b b3)), .val (.long ex), .second, .val (.long ac), .second, .val (.ref b6), .unset, .unset, .unset, .unset, .unset, .unset, .unset, .unset, .unset, .unset] [(.int (1 : Int32))])) _
        refine XS.istore X22.here hx rfl (hb hby at_152) rfl (l' := #[.val (.int p1), .val (.int p2), .val (.int p3), .val (.int p4), .val (.int n), .val (.int nd), .val (.int ot), .val (.int (own_b b1)), .val (.int (own_b b2)), .val (.int (own_b b3)), .val (.long ex), .second, .val (.long ac), .second, .val (.ref b6), .val (.int (1 : Int32)), .unset, .unset, .unset, .unset, .unset, .unset, .unset, .unset, .unset]) rfl ?_
        show Steps p.tables e below (T22.setTop (mkF m 154 #[.val (.int p1), .val (.int p2), .val (.int p3), .val (.int p4), .val (.int n), .val (.int nd), .val (.int ot), .val (.int (own_b b1)), .val (.int (own_b b2)), .val (.int (own_b b3)), .val (.long ex), .second, .val (.long ac), .second, .val (.ref b6), .val (.int (1 : Int32)), .unset, .unset, .unset, .unset, .unset, .unset, .unset, .unset, .unset] [])) _
        have hv : own_b eN = (1 : Int32) := own_b1 (by rw [heN, hxe]; exact own_or1 h132)
        rw [hv] at k
        exact k)
  have go28 : ∀ t, Steps p.tables e below (T22.setTop (mkF m 178 #[.val (.int p1), .val (.int p2), .val (.int p3), .val (.int p4), .val (.int n), .val (.int nd), .val (.int ot), .val (.int (own_b b1)), .val (.int (own_b b2)), .val (.int (own_b b3)), .val (.long ex), .second, .val (.long ac), .second, .val (.ref b6), .val (.int (own_b eN)), .val (.int (own_b eO)), .unset, .unset, .unset, .unset, .unset, .unset, .unset, .unset] [])) t → G t := fun t k => go27 t (by
      show Steps p.tables e below (T22.setTop (mkF m 154 #[.val (.int p1), .val (.int p2), .val (.int p3), .val (.int p4), .val (.int n), .val (.int nd), .val (.int ot), .val (.int (own_b b1)), .val (.int (own_b b2)), .val (.int (own_b b3)), .val (.long ex), .second, .val (.long ac), .second, .val (.ref b6), .val (.int (own_b eN)), .unset, .unset, .unset, .unset, .unset, .unset, .unset, .unset, .unset] [])) _
      refine XS.iload X22.here hx rfl (hb hby at_154) rfl ?_
      show Steps p.tables e below (T22.setTop (mkF m 156 #[.val (.int p1), .val (.int p2), .val (.int p3), .val (.int p4), .val (.int n), .val (.int nd), .val (.int ot), .val (.int (own_b b1)), .val (.int (own_b b2)), .val (.int (own_b b3)), .val (.long ex), .second, .val (.long ac), .second, .val (.ref b6), .val (.int (own_b eN)), .unset, .unset, .unset, .unset, .unset, .unset, .unset, .unset, .unset] [(.int (own_b b3))])) _
      by_cases h156 : b3 = false
      · refine XS.ifNo X22.here hx rfl (hb hby at_156) rfl ((if0 _ _).trans (teq (own_b0 h156)).2) ?_
        show Steps p.tables e below (T22.setTop (mkF m 159 #[.val (.int p1), .val (.int p2), .val (.int p3), .val (.int p4), .val (.int n), .val (.int nd), .val (.int ot), .val (.int (own_b b1)), .val (.int (own_b b2)), .val (.int (own_b b3)), .val (.long ex), .second, .val (.long ac), .second, .val (.ref b6), .val (.int (own_b eN)), .unset, .unset, .unset, .unset, .unset, .unset, .unset, .unset, .unset] [])) _
        refine XS.iload X22.here hx rfl (hb hby at_159) rfl ?_
        show Steps p.tables e below (T22.setTop (mkF m 161 #[.val (.int p1), .val (.int p2), .val (.int p3), .val (.int p4), .val (.int n), .val (.int nd), .val (.int ot), .val (.int (own_b b1)), .val (.int (own_b b2)), .val (.int (own_b b3)), .val (.long ex), .second, .val (.long ac), .second, .val (.ref b6), .val (.int (own_b eN)), .unset, .unset, .unset, .unset, .unset, .unset, .unset, .unset, .unset] [(.int (own_b b2))])) _
        by_cases h161 : b2 = false
        · refine XS.ifYes X22.here hx rfl (pc0 := 161) (pc' := 175) rfl (hb hby at_161) rfl ((if0 _ _).trans (teq (own_b0 h161)).1) (by decide) (by decide) ?_
          show Steps p.tables e below (T22.setTop (mkF m 175 #[.val (.int p1), .val (.int p2), .val (.int p3), .val (.int p4), .val (.int n), .val (.int nd), .val (.int ot), .val (.int (own_b b1)), .val (.int (own_b b2)), .val (.int (own_b b3)), .val (.long ex), .second, .val (.long ac), .second, .val (.ref b6), .val (.int (own_b eN)), .unset, .unset, .unset, .unset, .unset, .unset, .unset, .unset, .unset] [])) _
          refine XS.iconst X22.here hx rfl (hb hby at_175) ?_
          show Steps p.tables e below (T22.setTop (mkF m 176 #[.val (.int p1), .val (.int p2), .val (.int p3), .val (.int p4), .val (.int n), .val (.int nd), .val (.int ot), .val (.int (own_b b1)), .val (.int (own_b b2)), .val (.int (own_b b3)), .val (.long ex), .second, .val (.long ac), .second, .val (.ref b6), .val (.int (own_b eN)), .unset, .unset, .unset, .unset, .unset, .unset, .unset, .unset, .unset] [(.int (0 : Int32))])) _
          refine XS.istore X22.here hx rfl (hb hby at_176) rfl (l' := #[.val (.int p1), .val (.int p2), .val (.int p3), .val (.int p4), .val (.int n), .val (.int nd), .val (.int ot), .val (.int (own_b b1)), .val (.int (own_b b2)), .val (.int (own_b b3)), .val (.long ex), .second, .val (.long ac), .second, .val (.ref b6), .val (.int (own_b eN)), .val (.int (0 : Int32)), .unset, .unset, .unset, .unset, .unset, .unset, .unset, .unset]) rfl ?_
          show Steps p.tables e below (T22.setTop (mkF m 178 #[.val (.int p1), .val (.int p2), .val (.int p3), .val (.int p4), .val (.int n), .val (.int nd), .val (.int ot), .val (.int (own_b b1)), .val (.int (own_b b2)), .val (.int (own_b b3)), .val (.long ex), .second, .val (.long ac), .second, .val (.ref b6), .val (.int (own_b eN)), .val (.int (0 : Int32)), .unset, .unset, .unset, .unset, .unset, .unset, .unset, .unset] [])) _
          have hv : own_b eO = (0 : Int32) := own_b0 (by rw [heO, hxe]; exact own_or2 h156 (own_and1 h161))
          rw [hv] at k
          exact k
        · refine XS.ifNo X22.here hx rfl (hb hby at_161) rfl ((if0 _ _).trans (feq (own_bn h161)).1) ?_
          show Steps p.tables e below (T22.setTop (mkF m 164 #[.val (.int p1), .val (.int p2), .val (.int p3), .val (.int p4), .val (.int n), .val (.int nd), .val (.int ot), .val (.int (own_b b1)), .val (.int (own_b b2)), .val (.int (own_b b3)), .val (.long ex), .second, .val (.long ac), .second, .val (.ref b6), .val (.int (own_b eN)), .unset, .unset, .unset, .unset, .unset, .unset, .unset, .unset, .unset] [])) _
          refine XS.lload X22.here hx rfl (hb hby at_164) rfl ?_
          show Steps p.tables e below (T22.setTop (mkF m 166 #[.val (.int p1), .val (.int p2), .val (.int p3), .val (.int p4), .val (.int n), .val (.int nd), .val (.int ot), .val (.int (own_b b1)), .val (.int (own_b b2)), .val (.int (own_b b3)), .val (.long ex), .second, .val (.long ac), .second, .val (.ref b6), .val (.int (own_b eN)), .unset, .unset, .unset, .unset, .unset, .unset, .unset, .unset, .unset] [(.long ex)])) _
          refine XS.lconst X22.here hx rfl (hb hby at_166) ?_
          show Steps p.tables e below (T22.setTop (mkF m 167 #[.val (.int p1), .val (.int p2), .val (.int p3), .val (.int p4), .val (.int n), .val (.int nd), .val (.int ot), .val (.int (own_b b1)), .val (.int (own_b b2)), .val (.int (own_b b3)), .val (.long ex), .second, .val (.long ac), .second, .val (.ref b6), .val (.int (own_b eN)), .unset, .unset, .unset, .unset, .unset, .unset, .unset, .unset, .unset] [(.long (0 : Int64)), (.long ex)])) _
          refine XS.lcmp X22.here hx rfl (hb hby at_167) rfl ?_
          show Steps p.tables e below (T22.setTop (mkF m 168 #[.val (.int p1), .val (.int p2), .val (.int p3), .val (.int p4), .val (.int n), .val (.int nd), .val (.int ot), .val (.int (own_b b1)), .val (.int (own_b b2)), .val (.int (own_b b3)), .val (.long ex), .second, .val (.long ac), .second, .val (.ref b6), .val (.int (own_b eN)), .unset, .unset, .unset, .unset, .unset, .unset, .unset, .unset, .unset] [(.int (lcmpW ex (0 : Int64)))])) _
          by_cases h168 : 0 < ex.toInt
          · refine XS.ifYes X22.here hx rfl (pc0 := 168) (pc' := 175) rfl (hb hby at_168) rfl ((if0 _ _).trans (tlt ((lw_gt ex (0 : Int64)).mpr (show (0 : Int64) < ex from Int64.lt_iff_toInt_lt.mpr h168))).2.2.1) (by decide) (by decide) ?_
            show Steps p.tables e below (T22.setTop (mkF m 175 #[.val (.int p1), .val (.int p2), .val (.int p3), .val (.int p4), .val (.int n), .val (.int nd), .val (.int ot), .val (.int (own_b b1)), .val (.int (own_b b2)), .val (.int (own_b b3)), .val (.long ex), .second, .val (.long ac), .second, .val (.ref b6), .val (.int (own_b eN)), .unset, .unset, .unset, .unset, .unset, .unset, .unset, .unset, .unset] [])) _
            refine XS.iconst X22.here hx rfl (hb hby at_175) ?_
            show Steps p.tables e below (T22.setTop (mkF m 176 #[.val (.int p1), .val (.int p2), .val (.int p3), .val (.int p4), .val (.int n), .val (.int nd), .val (.int ot), .val (.int (own_b b1)), .val (.int (own_b b2)), .val (.int (own_b b3)), .val (.long ex), .second, .val (.long ac), .second, .val (.ref b6), .val (.int (own_b eN)), .unset, .unset, .unset, .unset, .unset, .unset, .unset, .unset, .unset] [(.int (0 : Int32))])) _
            refine XS.istore X22.here hx rfl (hb hby at_176) rfl (l' := #[.val (.int p1), .val (.int p2), .val (.int p3), .val (.int p4), .val (.int n), .val (.int nd), .val (.int ot), .val (.int (own_b b1)), .val (.int (own_b b2)), .val (.int (own_b b3)), .val (.long ex), .second, .val (.long ac), .second, .val (.ref b6), .val (.int (own_b eN)), .val (.int (0 : Int32)), .unset, .unset, .unset, .unset, .unset, .unset, .unset, .unset]) rfl ?_
            show Steps p.tables e below (T22.setTop (mkF m 178 #[.val (.int p1), .val (.int p2), .val (.int p3), .val (.int p4), .val (.int n), .val (.int nd), .val (.int ot), .val (.int (own_b b1)), .val (.int (own_b b2)), .val (.int (own_b b3)), .val (.long ex), .second, .val (.long ac), .second, .val (.ref b6), .val (.int (own_b eN)), .val (.int (0 : Int32)), .unset, .unset, .unset, .unset, .unset, .unset, .unset, .unset] [])) _
            have hv : own_b eO = (0 : Int32) := own_b0 (by rw [heO, hxe]; exact own_or2 h156 (own_and2 h168))
            rw [hv] at k
            exact k
          · refine XS.ifNo X22.here hx rfl (hb hby at_168) rfl ((if0 _ _).trans (flt (fun q => h168 (Int64.lt_iff_toInt_lt.mp ((lw_gt ex (0 : Int64)).mp q)))).2.2.1) ?_
            show Steps p.tables e below (T22.setTop (mkF m 171 #[.val (.int p1), .val (.int p2), .val (.int p3), .val (.int p4), .val (.int n), .val (.int nd), .val (.int ot), .val (.int (own_b b1)), .val (.int (own_b b2)), .val (.int (own_b b3)), .val (.long ex), .second, .val (.long ac), .second, .val (.ref b6), .val (.int (own_b eN)), .unset, .unset, .unset, .unset, .unset, .unset, .unset, .unset, .unset] [])) _
            refine XS.iconst X22.here hx rfl (hb hby at_171) ?_
            show Steps p.tables e below (T22.setTop (mkF m 172 #[.val (.int p1), .val (.int p2), .val (.int p3), .val (.int p4), .val (.int n), .val (.int nd), .val (.int ot), .val (.int (own_b b1)), .val (.int (own_b b2)), .val (.int (own_b b3)), .val (.long ex), .second, .val (.long ac), .second, .val (.ref b6), .val (.int (own_b eN)), .unset, .unset, .unset, .unset, .unset, .unset, .unset, .unset, .unset] [(.int (1 : Int32))])) _
            refine XS.goto X22.here hx rfl (pc0 := 172) (pc' := 176) rfl (hb hby at_172) (by decide) (by decide) ?_
            show Steps p.tables e below (T22.setTop (mkF m 176 #[.val (.int p1), .val (.int p2), .val (.int p3), .val (.int p4), .val (.int n), .val (.int nd), .val (.int ot), .val (.int (own_b b1)), .val (.int (own_b b2)), .val (.int (own_b b3)), .val (.long ex), .second, .val (.long ac), .second, .val (.ref b6), .val (.int (own_b eN)), .unset, .unset, .unset, .unset, .unset, .unset, .unset, .unset, .unset] [(.int (1 : Int32))])) _
            refine XS.istore X22.here hx rfl (hb hby at_176) rfl (l' := #[.val (.int p1), .val (.int p2), .val (.int p3), .val (.int p4), .val (.int n), .val (.int nd), .val (.int ot), .val (.int (own_b b1)), .val (.int (own_b b2)), .val (.int (own_b b3)), .val (.long ex), .second, .val (.long ac), .second, .val (.ref b6), .val (.int (own_b eN)), .val (.int (1 : Int32)), .unset, .unset, .unset, .unset, .unset, .unset, .unset, .unset]) rfl ?_
            show Steps p.tables e below (T22.setTop (mkF m 178 #[.val (.int p1), .val (.int p2), .val (.int p3), .val (.int p4), .val (.int n), .val (.int nd), .val (.int ot), .val (.int (own_b b1)), .val (.int (own_b b2)), .val (.int (own_b b3)), .val (.long ex), .second, .val (.long ac), .second, .val (.ref b6), .val (.int (own_b eN)), .val (.int (1 : Int32)), .unset, .unset, .unset, .unset, .unset, .unset, .unset, .unset] [])) _
            have hv : own_b eO = (1 : Int32) := own_b1 (by rw [heO, hxe]; exact own_or3 (own_and3 h161 h168))
            rw [hv] at k
            exact k
      · refine XS.ifYes X22.here hx rfl (pc0 := 156) (pc' := 171) rfl (hb hby at_156) rfl ((if0 _ _).trans (feq (own_bn h156)).2) (by decide) (by decide) ?_
        show Steps p.tables e below (T22.setTop (mkF m 171 #[.val (.int p1), .val (.int p2), .val (.int p3), .val (.int p4), .val (.int n), .val (.int nd), .val (.int ot), .val (.int (own_b b1)), .val (.int (own_b b2)), .val (.int (own_b b3)), .val (.long ex), .second, .val (.long ac), .second, .val (.ref b6), .val (.int (own_b eN)), .unset, .unset, .unset, .unset, .unset, .unset, .unset, .unset, .unset] [])) _
        refine XS.iconst X22.here hx rfl (hb hby at_171) ?_
        show Steps p.tables e below (T22.setTop (mkF m 172 #[.val (.int p1), .val (.int p2), .val (.int p3), .val (.int p4), .val (.int n), .val (.int nd), .val (.int ot), .val (.int (own_b b1)), .val (.int (own_b b2)), .val (.int (own_b b3)), .val (.long ex), .second, .val (.long ac), .second, .val (.ref b6), .val (.int (own_b eN)), .unset, .unset, .unset, .unset, .unset, .unset, .unset, .unset, .unset] [(.int (1 : Int32))])) _
        refine XS.goto X22.here hx rfl (pc0 := 172) (pc' := 176) rfl (hb hby at_172) (by decide) (by decide) ?_
        show Steps p.tables e below (T22.setTop (mkF m 176 #[.val (.int p1), .val (.int p2), .val (.int p3), .val (.int p4), .val (.int n), .val (.int nd), .val (.int ot), .val (.int (own_b b1)), .val (.int (own_b b2)), .val (.int (own_b b3)), .val (.long ex), .second, .val (.long ac), .second, .val (.ref b6), .val (.int (own_b eN)), .unset, .unset, .unset, .unset, .unset, .unset, .unset, .unset, .unset] [(.int (1 : Int32))])) _
        refine XS.istore X22.here hx rfl (hb hby at_176) rfl (l' := #[.val (.int p1), .val (.int p2), .val (.int p3), .val (.int p4), .val (.int n), .val (.int nd), .val (.int ot), .val (.int (own_b b1)), .val (.int (own_b b2)), .val (.int (own_b b3)), .val (.long ex), .second, .val (.long ac), .second, .val (.ref b6), .val (.int (own_b eN)), .val (.int (1 : Int32)), .unset, .unset, .unset, .unset, .unset, .unset, .unset, .unset]) rfl ?_
        show Steps p.tables e below (T22.setTop (mkF m 178 #[.val (.int p1), .val (.int p2), .val (.int p3), .val (.int p4), .val (.int n), .val (.int nd), .val (.int ot), .val (.int (own_b b1)), .val (.int (own_b b2)), .val (.int (own_b b3)), .val (.long ex), .second, .val (.long ac), .second, .val (.ref b6), .val (.int (own_b eN)), .val (.int (1 : Int32)), .unset, .unset, .unset, .unset, .unset, .unset, .unset, .unset] [])) _
        have hv : own_b eO = (1 : Int32) := own_b1 (by rw [heO, hxe]; exact own_or1 h156)
        rw [hv] at k
        exact k)
  have go29 : ∀ t, Steps p.tables e below (T22.setTop (mkF m 197 #[.val (.int p1), .val (.int p2), .val (.int p3), .val (.int p4), .val (.int n), .val (.int nd), .val (.int ot), .val (.int (own_b b1)), .val (.int (own_b b2)), .val (.int (own_b b3)), .val (.long ex), .second, .val (.long ac), .second, .val (.ref b6), .val (.int (own_b eN)), .val (.int (own_b eO)), .val (.int (own_b ea)), .unset, .unset, .unset, .unset, .unset, .unset, .unset] [])) t → G t := fun t k => go28 t (by
      show Steps p.tables e below (T22.setTop (mkF m 178 #[.val (.int p1), .val (.int p2), .val (.int p3), .val (.int p4), .val (.int n), .val (.int nd), .val (.int ot), .val (.int (own_b b1)), .val (.int (own_b b2)), .val (.int (own_b b3)), .val (.long ex), .second, .val (.long ac), .second, .val (.ref b6), .val (.int (own_b eN)), .val (.int (own_b eO)), .unset, .unset, .unset, .unset, .unset, .unset, .unset, .unset] [])) _
      refine XS.iload X22.here hx rfl (hb hby at_178) rfl ?_
      show Steps p.tables e below (T22.setTop (mkF m 180 #[.val (.int p1), .val (.int p2), .val (.int p3), .val (.int p4), .val (.int n), .val (.int nd), .val (.int ot), .val (.int (own_b b1)), .val (.int (own_b b2)), .val (.int (own_b b3)), .val (.long ex), .second, .val (.long ac), .second, .val (.ref b6), .val (.int (own_b eN)), .val (.int (own_b eO)), .unset, .unset, .unset, .unset, .unset, .unset, .unset, .unset] [(.int (own_b b2))])) _
      by_cases h180 : b2 = false
      · refine XS.ifYes X22.here hx rfl (pc0 := 180) (pc' := 194) rfl (hb hby at_180) rfl ((if0 _ _).trans (teq (own_b0 h180)).1) (by decide) (by decide) ?_
        show Steps p.tables e below (T22.setTop (mkF m 194 #[.val (.int p1), .val (.int p2), .val (.int p3), .val (.int p4), .val (.int n), .val (.int nd), .val (.int ot), .val (.int (own_b b1)), .val (.int (own_b b2)), .val (.int (own_b b3)), .val (.long ex), .second, .val (.long ac), .second, .val (.ref b6), .val (.int (own_b eN)), .val (.int (own_b eO)), .unset, .unset, .unset, .unset, .unset, .unset, .unset, .unset] [])) _
        refine XS.iconst X22.here hx rfl (hb hby at_194) ?_
        show Steps p.tables e below (T22.setTop (mkF m 195 #[.val (.int p1), .val (.int p2), .val (.int p3), .val (.int p4), .val (.int n), .val (.int nd), .val (.int ot), .val (.int (own_b b1)), .val (.int (own_b b2)), .val (.int (own_b b3)), .val (.long ex), .second, .val (.long ac), .second, .val (.ref b6), .val (.int (own_b eN)), .val (.int (own_b eO)), .unset, .unset, .unset, .unset, .unset, .unset, .unset, .unset] [(.int (0 : Int32))])) _
        refine XS.istore X22.here hx rfl (hb hby at_195) rfl (l' := #[.val (.int p1), .val (.int p2), .val (.int p3), .val (.int p4), .val (.int n), .val (.int nd), .val (.int ot), .val (.int (own_b b1)), .val (.int (own_b b2)), .val (.int (own_b b3)), .val (.long ex), .second, .val (.long ac), .second, .val (.ref b6), .val (.int (own_b eN)), .val (.int (own_b eO)), .val (.int (0 : Int32)), .unset, .unset, .unset, .unset, .unset, .unset, .unset]) rfl ?_
        show Steps p.tables e below (T22.setTop (mkF m 197 #[.val (.int p1), .val (.int p2), .val (.int p3), .val (.int p4), .val (.int n), .val (.int nd), .val (.int ot), .val (.int (own_b b1)), .val (.int (own_b b2)), .val (.int (own_b b3)), .val (.long ex), .second, .val (.long ac), .second, .val (.ref b6), .val (.int (own_b eN)), .val (.int (own_b eO)), .val (.int (0 : Int32)), .unset, .unset, .unset, .unset, .unset, .unset, .unset] [])) _
        have hv : own_b ea = (0 : Int32) := own_b0 (by rw [hea, hxa]; exact (own_and1 h180))
        rw [hv] at k
        exact k
      · refine XS.ifNo X22.here hx rfl (hb hby at_180) rfl ((if0 _ _).trans (feq (own_bn h180)).1) ?_
        show Steps p.tables e below (T22.setTop (mkF m 183 #[.val (.int p1), .val (.int p2), .val (.int p3), .val (.int p4), .val (.int n), .val (.int nd), .val (.int ot), .val (.int (own_b b1)), .val (.int (own_b b2)), .val (.int (own_b b3)), .val (.long ex), .second, .val (.long ac), .second, .val (.ref b6), .val (.int (own_b eN)), .val (.int (own_b eO)), .unset, .unset, .unset, .unset, .unset, .unset, .unset, .unset] [])) _
        refine XS.lload X22.here hx rfl (hb hby at_183) rfl ?_
        show Steps p.tables e below (T22.setTop (mkF m 185 #[.val (.int p1), .val (.int p2), .val (.int p3), .val (.int p4), .val (.int n), .val (.int nd), .val (.int ot), .val (.int (own_b b1)), .val (.int (own_b b2)), .val (.int (own_b b3)), .val (.long ex), .second, .val (.long ac), .second, .val (.ref b6), .val (.int (own_b eN)), .val (.int (own_b eO)), .unset, .unset, .unset, .unset, .unset, .unset, .unset, .unset] [(.long ac)])) _
        refine XS.lconst X22.here hx rfl (hb hby at_185) ?_
        show Steps p.tables e below (T22.setTop (mkF m 186 #[.val (.int p1), .val (.int p2), .val (.int p3), .val (.int p4), .val (.int n), .val (.int nd), .val (.int ot), .val (.int (own_b b1)), .val (.int (own_b b2)), .val (.int (own_b b3)), .val (.long ex), .second, .val (.long ac), .second, .val (.ref b6), .val (.int (own_b eN)), .val (.int (own_b eO)), .unset, .unset, .unset, .unset, .unset, .unset, .unset, .unset] [(.long (0 : Int64)), (.long ac)])) _
        refine XS.lcmp X22.here hx rfl (hb hby at_186) rfl ?_
        show Steps p.tables e below (T22.setTop (mkF m 187 #[.val (.int p1), .val (.int p2), .val (.int p3), .val (.int p4), .val (.int n), .val (.int nd), .val (.int ot), .val (.int (own_b b1)), .val (.int (own_b b2)), .val (.int (own_b b3)), .val (.long ex), .second, .val (.long ac), .second, .val (.ref b6), .val (.int (own_b eN)), .val (.int (own_b eO)), .unset, .unset, .unset, .unset, .unset, .unset, .unset, .unset] [(.int (lcmpW ac (0 : Int64)))])) _
        by_cases h187 : 0 < ac.toInt
        · refine XS.ifYes X22.here hx rfl (pc0 := 187) (pc' := 194) rfl (hb hby at_187) rfl ((if0 _ _).trans (tlt ((lw_gt ac (0 : Int64)).mpr (show (0 : Int64) < ac from Int64.lt_iff_toInt_lt.mpr h187))).2.2.1) (by decide) (by decide) ?_
          show Steps p.tables e below (T22.setTop (mkF m 194 #[.val (.int p1), .val (.int p2), .val (.int p3), .val (.int p4), .val (.int n), .val (.int nd), .val (.int ot), .val (.int (own_b b1)), .val (.int (own_b b2)), .val (.int (own_b b3)), .val (.long ex), .second, .val (.long ac), .second, .val (.ref b6), .val (.int (own_b eN)), .val (.int (own_b eO)), .unset, .unset, .unset, .unset, .unset, .unset, .unset, .unset] [])) _
          refine XS.iconst X22.here hx rfl (hb hby at_194) ?_
          show Steps p.tables e below (T22.setTop (mkF m 195 #[.val (.int p1), .val (.int p2), .val (.int p3), .val (.int p4), .val (.int n), .val (.int nd), .val (.int ot), .val (.int (own_b b1)), .val (.int (own_b b2)), .val (.int (own_b b3)), .val (.long ex), .second, .val (.long ac), .second, .val (.ref b6), .val (.int (own_b eN)), .val (.int (own_b eO)), .unset, .unset, .unset, .unset, .unset, .unset, .unset, .unset] [(.int (0 : Int32))])) _
          refine XS.istore X22.here hx rfl (hb hby at_195) rfl (l' := #[.val (.int p1), .val (.int p2), .val (.int p3), .val (.int p4), .val (.int n), .val (.int nd), .val (.int ot), .val (.int (own_b b1)), .val (.int (own_b b2)), .val (.int (own_b b3)), .val (.long ex), .second, .val (.long ac), .second, .val (.ref b6), .val (.int (own_b eN)), .val (.int (own_b eO)), .val (.int (0 : Int32)), .unset, .unset, .unset, .unset, .unset, .unset, .unset]) rfl ?_
          show Steps p.tables e below (T22.setTop (mkF m 197 #[.val (.int p1), .val (.int p2), .val (.int p3), .val (.int p4), .val (.int n), .val (.int nd), .val (.int ot), .val (.int (own_b b1)), .val (.int (own_b b2)), .val (.int (own_b b3)), .val (.long ex), .second, .val (.long ac), .second, .val (.ref b6), .val (.int (own_b eN)), .val (.int (own_b eO)), .val (.int (0 : Int32)), .unset, .unset, .unset, .unset, .unset, .unset, .unset] [])) _
          have hv : own_b ea = (0 : Int32) := own_b0 (by rw [hea, hxa]; exact (own_and2 h187))
          rw [hv] at k
          exact k
        · refine XS.ifNo X22.here hx rfl (hb hby at_187) rfl ((if0 _ _).trans (flt (fun q => h187 (Int64.lt_iff_toInt_lt.mp ((lw_gt ac (0 : Int64)).mp q)))).2.2.1) ?_
          show Steps p.tables e below (T22.setTop (mkF m 190 #[.val (.int p1), .val (.int p2), .val (.int p3), .val (.int p4), .val (.int n), .val (.int nd), .val (.int ot), .val (.int (own_b b1)), .val (.int (own_b b2)), .val (.int (own_b b3)), .val (.long ex), .second, .val (.long ac), .second, .val (.ref b6), .val (.int (own_b eN)), .val (.int (own_b eO)), .unset, .unset, .unset, .unset, .unset, .unset, .unset, .unset] [])) _
          refine XS.iconst X22.here hx rfl (hb hby at_190) ?_
          show Steps p.tables e below (T22.setTop (mkF m 191 #[.val (.int p1), .val (.int p2), .val (.int p3), .val (.int p4), .val (.int n), .val (.int nd), .val (.int ot), .val (.int (own_b b1)), .val (.int (own_b b2)), .val (.int (own_b b3)), .val (.long ex), .second, .val (.long ac), .second, .val (.ref b6), .val (.int (own_b eN)), .val (.int (own_b eO)), .unset, .unset, .unset, .unset, .unset, .unset, .unset, .unset] [(.int (1 : Int32))])) _
          refine XS.goto X22.here hx rfl (pc0 := 191) (pc' := 195) rfl (hb hby at_191) (by decide) (by decide) ?_
          show Steps p.tables e below (T22.setTop (mkF m 195 #[.val (.int p1), .val (.int p2), .val (.int p3), .val (.int p4), .val (.int n), .val (.int nd), .val (.int ot), .val (.int (own_b b1)), .val (.int (own_b b2)), .val (.int (own_b b3)), .val (.long ex), .second, .val (.long ac), .second, .val (.ref b6), .val (.int (own_b eN)), .val (.int (own_b eO)), .unset, .unset, .unset, .unset, .unset, .unset, .unset, .unset] [(.int (1 : Int32))])) _
          refine XS.istore X22.here hx rfl (hb hby at_195) rfl (l' := #[.val (.int p1), .val (.int p2), .val (.int p3), .val (.int p4), .val (.int n), .val (.int nd), .val (.int ot), .val (.int (own_b b1)), .val (.int (own_b b2)), .val (.int (own_b b3)), .val (.long ex), .second, .val (.long ac), .second, .val (.ref b6), .val (.int (own_b eN)), .val (.int (own_b eO)), .val (.int (1 : Int32)), .unset, .unset, .unset, .unset, .unset, .unset, .unset]) rfl ?_
          show Steps p.tables e below (T22.setTop (mkF m 197 #[.val (.int p1), .val (.int p2), .val (.int p3), .val (.int p4), .val (.int n), .val (.int nd), .val (.int ot), .val (.int (own_b b1)), .val (.int (own_b b2)), .val (.int (own_b b3)), .val (.long ex), .second, .val (.long ac), .second, .val (.ref b6), .val (.int (own_b eN)), .val (.int (own_b eO)), .val (.int (1 : Int32)), .unset, .unset, .unset, .unset, .unset, .unset, .unset] [])) _
          have hv : own_b ea = (1 : Int32) := own_b1 (by rw [hea, hxa]; exact (own_and3 h180 h187))
          rw [hv] at k
          exact k)
  have n3' : ¬ ot.toInt.toNat = nd.toInt.toNat := fun z => n3 z.symm
  have go30 : ∀ t, Steps p.tables e below (T22.setTop (mkF m 201 #[.val (.int p1), .val (.int p2), .val (.int p3), .val (.int p4), .val (.int n), .val (.int nd), .val (.int ot), .val (.int (own_b b1)), .val (.int (own_b b2)), .val (.int (own_b b3)), .val (.long ex), .second, .val (.long ac), .second, .val (.ref b6), .val (.int (own_b eN)), .val (.int (own_b eO)), .val (.int (own_b ea)), .unset, .unset, .unset, .unset, .unset, .unset, .unset] [(.int nd), (.ref b6)])) t → G t := fun t k => go29 t (by
      show Steps p.tables e below (T22.setTop (mkF m 197 #[.val (.int p1), .val (.int p2), .val (.int p3), .val (.int p4), .val (.int n), .val (.int nd), .val (.int ot), .val (.int (own_b b1)), .val (.int (own_b b2)), .val (.int (own_b b3)), .val (.long ex), .second, .val (.long ac), .second, .val (.ref b6), .val (.int (own_b eN)), .val (.int (own_b eO)), .val (.int (own_b ea)), .unset, .unset, .unset, .unset, .unset, .unset, .unset] [])) _
      refine XS.aload X22.here hx rfl (hb hby at_197) rfl rfl ?_
      show Steps p.tables e below (T22.setTop (mkF m 199 #[.val (.int p1), .val (.int p2), .val (.int p3), .val (.int p4), .val (.int n), .val (.int nd), .val (.int ot), .val (.int (own_b b1)), .val (.int (own_b b2)), .val (.int (own_b b3)), .val (.long ex), .second, .val (.long ac), .second, .val (.ref b6), .val (.int (own_b eN)), .val (.int (own_b eO)), .val (.int (own_b ea)), .unset, .unset, .unset, .unset, .unset, .unset, .unset] [(.ref b6)])) _
      refine XS.iload X22.here hx rfl (hb hby at_199) rfl ?_
      show Steps p.tables e below (T22.setTop (mkF m 201 #[.val (.int p1), .val (.int p2), .val (.int p3), .val (.int p4), .val (.int n), .val (.int nd), .val (.int ot), .val (.int (own_b b1)), .val (.int (own_b b2)), .val (.int (own_b b3)), .val (.long ex), .second, .val (.long ac), .second, .val (.ref b6), .val (.int (own_b eN)), .val (.int (own_b eO)), .val (.int (own_b ea)), .unset, .unset, .unset, .unset, .unset, .unset, .unset] [(.int nd), (.ref b6)])) _
      exact k)
  have a4 : ((fun j => ((b1 && decide (j = nd.toInt.toNat)) || (b3 && decide (j = ot.toInt.toNat))) || (b2 && xe)) nd.toInt.toNat && !((fun _ => false) nd.toInt.toNat)) = eN := by rw [heN]; exact own_a4 b1 b2 b3 xe n3
  obtain ⟨cq31, kq31, q31a, q31b, q31c⟩ := isOf hZ e22 f22_0.1.1
  obtain ⟨_, _, ⟨T31, L31, k31, n31⟩, -, X31, ⟨Lc31, hQ31, l31, y31, z31⟩, st31⟩ := X22.virtualBack hx (y := (⟨"com/example/halfmesh/halfmesh/CompleteRelay", "relays", "(I)Z"⟩ : MethodName)) (z := (⟨"com/example/halfmesh/halfmesh/CompleteRelay", "relays", "(I)Z"⟩ : MethodName)) hown (mvT hZ (hw _ (List.mem_of_getElem? (i := 57) rfl))) (mvT hZ (hw _ (List.mem_of_getElem? (i := 58) rfl))) (notFace_of_selects (args := #[]) (mvT hZ (hw _ (List.mem_of_getElem? (i := 60) rfl)))) (mvT hZ (hw _ (List.mem_of_getElem? (i := 60) rfl))) (mvT hZ (hw _ (List.mem_of_getElem? (i := 59) rfl))) (by decide) (backOf (W := 0) (rm7 l Z a0 hw [] b6 nd ae ar av aq N ex ac (fun j => ((b1 && decide (j = nd.toInt.toNat)) || (b3 && decide (j = ot.toInt.toNat))) || (b2 && xe)) (fun _ => false) (fun _ => ea) h22 n0 f22_0.2.2.2.2 f22_0 bnd.1 n1) hZ (hw _ (List.mem_of_getElem? (i := 61) rfl)) (hw _ (List.mem_of_getElem? (i := 4) rfl)) (by decide) (by decide)) q31a q31c (g := (mkF m 201 #[.val (.int p1), .val (.int p2), .val (.int p3), .val (.int p4), .val (.int n), .val (.int nd), .val (.int ot), .val (.int (own_b b1)), .val (.int (own_b b2)), .val (.int (own_b b3)), .val (.long ex), .second, .val (.long ac), .second, .val (.ref b6), .val (.int (own_b eN)), .val (.int (own_b eO)), .val (.int (own_b ea)), .unset, .unset, .unset, .unset, .unset, .unset, .unset] [(.int nd), (.ref b6)])) rfl (by rw [hml]; rfl) (Steps.refl _) (argsL := [(.int nd)]) (rest := []) (lenOf pd_z rfl) rfl (by show 2 * 0 + _ ≤ _; exact Nat.le_of_eq rfl) (hb hby at_201) (fun _ _ => ⟨rfl, e22, (by decide : 7 + 0 ≤ _), (by decide : 32 + 0 ≤ _)⟩)
  dsimp only [Pt.U, Pt.locs, Pt.cells, Pt.slots] at X31 l31 y31 z31 st31 hQ31
  subst l31 y31 z31
  obtain ⟨rfl, N31q, H4⟩ := hQ31
  have N31 := Fr.app N22 N31q
  have go32 : ∀ t, Steps p.tables e below (T31.setTop (mkF m 204 #[.val (.int p1), .val (.int p2), .val (.int p3), .val (.int p4), .val (.int n), .val (.int nd), .val (.int ot), .val (.int (own_b b1)), .val (.int (own_b b2)), .val (.int (own_b b3)), .val (.long ex), .second, .val (.long ac), .second, .val (.ref b6), .val (.int (own_b eN)), .val (.int (own_b eO)), .val (.int (own_b ea)), .unset, .unset, .unset, .unset, .unset, .unset, .unset] [(.int (own_b ((fun j => ((b1 && decide (j = nd.toInt.toNat)) || (b3 && decide (j = ot.toInt.toNat))) || (b2 && xe)) nd.toInt.toNat && !((fun _ => false) nd.toInt.toNat))))])) t → G t := fun t k => go30 t (st31.trans k)
  rw [a4] at go32
  have H4' : own_heap Z T31.heap n0 b6 ae ar av aq N ex ac (fun j => ((b1 && decide (j = nd.toInt.toNat)) || (b3 && decide (j = ot.toInt.toNat))) || (b2 && xe)) (fun j => decide (j = nd.toInt.toNat) && eN) (fun _ => ea) := own_heap_eq H4 (fun _ _ => rfl) (fun j _ => by rw [heN]; exact own_r4 b1 b2 b3 xe n3 j) (fun _ _ => rfl)
  have go33 : ∀ t, Steps p.tables e below (T31.setTop (mkF m 210 #[.val (.int p1), .val (.int p2), .val (.int p3), .val (.int p4), .val (.int n), .val (.int nd), .val (.int ot), .val (.int (own_b b1)), .val (.int (own_b b2)), .val (.int (own_b b3)), .val (.long ex), .second, .val (.long ac), .second, .val (.ref b6), .val (.int (own_b eN)), .val (.int (own_b eO)), .val (.int (own_b ea)), .val (.int (own_b eN)), .unset, .unset, .unset, .unset, .unset, .unset] [(.int nd), (.ref b6)])) t → G t := fun t k => go32 t (by
      show Steps p.tables e below (T31.setTop (mkF m 204 #[.val (.int p1), .val (.int p2), .val (.int p3), .val (.int p4), .val (.int n), .val (.int nd), .val (.int ot), .val (.int (own_b b1)), .val (.int (own_b b2)), .val (.int (own_b b3)), .val (.long ex), .second, .val (.long ac), .second, .val (.ref b6), .val (.int (own_b eN)), .val (.int (own_b eO)), .val (.int (own_b ea)), .unset, .unset, .unset, .unset, .unset, .unset, .unset] [(.int (own_b eN))])) _
      refine XS.istore X31.here hx rfl (hb hby at_204) rfl (l' := #[.val (.int p1), .val (.int p2), .val (.int p3), .val (.int p4), .val (.int n), .val (.int nd), .val (.int ot), .val (.int (own_b b1)), .val (.int (own_b b2)), .val (.int (own_b b3)), .val (.long ex), .second, .val (.long ac), .second, .val (.ref b6), .val (.int (own_b eN)), .val (.int (own_b eO)), .val (.int (own_b ea)), .val (.int (own_b eN)), .unset, .unset, .unset, .unset, .unset, .unset]) rfl ?_
      show Steps p.tables e below (T31.setTop (mkF m 206 #[.val (.int p1), .val (.int p2), .val (.int p3), .val (.int p4), .val (.int n), .val (.int nd), .val (.int ot), .val (.int (own_b b1)), .val (.int (own_b b2)), .val (.int (own_b b3)), .val (.long ex), .second, .val (.long ac), .second, .val (.ref b6), .val (.int (own_b eN)), .val (.int (own_b eO)), .val (.int (own_b ea)), .val (.int (own_b eN)), .unset, .unset, .unset, .unset, .unset, .unset] [])) _
      refine XS.aload X31.here hx rfl (hb hby at_206) rfl rfl ?_
      show Steps p.tables e below (T31.setTop (mkF m 208 #[.val (.int p1), .val (.int p2), .val (.int p3), .val (.int p4), .val (.int n), .val (.int nd), .val (.int ot), .val (.int (own_b b1)), .val (.int (own_b b2)), .val (.int (own_b b3)), .val (.long ex), .second, .val (.long ac), .second, .val (.ref b6), .val (.int (own_b eN)), .val (.int (own_b eO)), .val (.int (own_b ea)), .val (.int (own_b eN)), .unset, .unset, .unset, .unset, .unset, .unset] [(.ref b6)])) _
      refine XS.iload X31.here hx rfl (hb hby at_208) rfl ?_
      show Steps p.tables e below (T31.setTop (mkF m 210 #[.val (.int p1), .val (.int p2), .val (.int p3), .val (.int p4), .val (.int n), .val (.int nd), .val (.int ot), .val (.int (own_b b1)), .val (.int (own_b b2)), .val (.int (own_b b3)), .val (.long ex), .second, .val (.long ac), .second, .val (.ref b6), .val (.int (own_b eN)), .val (.int (own_b eO)), .val (.int (own_b ea)), .val (.int (own_b eN)), .unset, .unset, .unset, .unset, .unset, .unset] [(.int nd), (.ref b6)])) _
      exact k)
  have a5 : ((fun j => ((b1 && decide (j = nd.toInt.toNat)) || (b3 && decide (j = ot.toInt.toNat))) || (b2 && xe)) nd.toInt.toNat && !((fun j => decide (j = nd.toInt.toNat) && eN) nd.toInt.toNat)) = false := by rw [heN]; exact own_a5 b1 b2 b3 xe n3
  obtain ⟨cq34, kq34, q34a, q34b, q34c⟩ := isOf hZ rfl H4'.1.1
  obtain ⟨_, _, ⟨T34, L34, k34, n34⟩, -, X34, ⟨Lc34, hQ34, l34, y34, z34⟩, st34⟩ := X31.virtualBack hx (y := (⟨"com/example/halfmesh/halfmesh/CompleteRelay", "relays", "(I)Z"⟩ : MethodName)) (z := (⟨"com/example/halfmesh/halfmesh/CompleteRelay", "relays", "(I)Z"⟩ : MethodName)) hown (mvT hZ (hw _ (List.mem_of_getElem? (i := 57) rfl))) (mvT hZ (hw _ (List.mem_of_getElem? (i := 58) rfl))) (notFace_of_selects (args := #[]) (mvT hZ (hw _ (List.mem_of_getElem? (i := 60) rfl)))) (mvT hZ (hw _ (List.mem_of_getElem? (i := 60) rfl))) (mvT hZ (hw _ (List.mem_of_getElem? (i := 59) rfl))) (by decide) (backOf (W := 0) (rm7 l Z a0 hw [] b6 nd ae ar av aq N ex ac (fun j => ((b1 && decide (j = nd.toInt.toNat)) || (b3 && decide (j = ot.toInt.toNat))) || (b2 && xe)) (fun j => decide (j = nd.toInt.toNat) && eN) (fun _ => ea) T31.heap n0 H4'.2.2.2.2 H4' bnd.1 n1) hZ (hw _ (List.mem_of_getElem? (i := 61) rfl)) (hw _ (List.mem_of_getElem? (i := 4) rfl)) (by decide) (by decide)) q34a q34c (g := (mkF m 210 #[.val (.int p1), .val (.int p2), .val (.int p3), .val (.int p4), .val (.int n), .val (.int nd), .val (.int ot), .val (.int (own_b b1)), .val (.int (own_b b2)), .val (.int (own_b b3)), .val (.long ex), .second, .val (.long ac), .second, .val (.ref b6), .val (.int (own_b eN)), .val (.int (own_b eO)), .val (.int (own_b ea)), .val (.int (own_b eN)), .unset, .unset, .unset, .unset, .unset, .unset] [(.int nd), (.ref b6)])) rfl (by rw [hml]; rfl) (Steps.refl _) (argsL := [(.int nd)]) (rest := []) (lenOf pd_z rfl) rfl (by show 2 * 0 + _ ≤ _; exact Nat.le_of_eq rfl) (hb hby at_210) (fun _ _ => ⟨rfl, rfl, (by decide : 7 + 0 ≤ _), (by decide : 32 + 0 ≤ _)⟩)
  dsimp only [Pt.U, Pt.locs, Pt.cells, Pt.slots] at X34 l34 y34 z34 st34 hQ34
  subst l34 y34 z34
  obtain ⟨rfl, N34q, H5⟩ := hQ34
  have N34 := Fr.app N31 N34q
  have go35 : ∀ t, Steps p.tables e below (T34.setTop (mkF m 213 #[.val (.int p1), .val (.int p2), .val (.int p3), .val (.int p4), .val (.int n), .val (.int nd), .val (.int ot), .val (.int (own_b b1)), .val (.int (own_b b2)), .val (.int (own_b b3)), .val (.long ex), .second, .val (.long ac), .second, .val (.ref b6), .val (.int (own_b eN)), .val (.int (own_b eO)), .val (.int (own_b ea)), .val (.int (own_b eN)), .unset, .unset, .unset, .unset, .unset, .unset] [(.int (own_b ((fun j => ((b1 && decide (j = nd.toInt.toNat)) || (b3 && decide (j = ot.toInt.toNat))) || (b2 && xe)) nd.toInt.toNat && !((fun j => decide (j = nd.toInt.toNat) && eN) nd.toInt.toNat))))])) t → G t := fun t k => go33 t (st34.trans k)
  rw [a5] at go35
  have H5' : own_heap Z T34.heap n0 b6 ae ar av aq N ex ac (fun j => ((b1 && decide (j = nd.toInt.toNat)) || (b3 && decide (j = ot.toInt.toNat))) || (b2 && xe)) (fun j => decide (j = nd.toInt.toNat) && eN) (fun _ => ea) := own_heap_eq H5 (fun _ _ => rfl) (fun j _ => by rw [heN]; exact own_r5 b1 b2 b3 xe n3 j) (fun _ _ => rfl)
  have go36 : ∀ t, Steps p.tables e below (T34.setTop (mkF m 219 #[.val (.int p1), .val (.int p2), .val (.int p3), .val (.int p4), .val (.int n), .val (.int nd), .val (.int ot), .val (.int (own_b b1)), .val (.int (own_b b2)), .val (.int (own_b b3)), .val (.long ex), .second, .val (.long ac), .second, .val (.ref b6), .val (.int (own_b eN)), .val (.int (own_b eO)), .val (.int (own_b ea)), .val (.int (own_b eN)), .val (.int (own_b false)), .unset, .unset, .unset, .unset, .unset] [(.int ot), (.ref b6)])) t → G t := fun t k => go35 t (by
      show Steps p.tables e below (T34.setTop (mkF m 213 #[.val (.int p1), .val (.int p2), .val (.int p3), .val (.int p4), .val (.int n), .val (.int nd), .val (.int ot), .val (.int (own_b b1)), .val (.int (own_b b2)), .val (.int (own_b b3)), .val (.long ex), .second, .val (.long ac), .second, .val (.ref b6), .val (.int (own_b eN)), .val (.int (own_b eO)), .val (.int (own_b ea)), .val (.int (own_b eN)), .unset, .unset, .unset, .unset, .unset, .unset] [(.int (own_b false))])) _
      refine XS.istore X34.here hx rfl (hb hby at_213) rfl (l' := #[.val (.int p1), .val (.int p2), .val (.int p3), .val (.int p4), .val (.int n), .val (.int nd), .val (.int ot), .val (.int (own_b b1)), .val (.int (own_b b2)), .val (.int (own_b b3)), .val (.long ex), .second, .val (.long ac), .second, .val (.ref b6), .val (.int (own_b eN)), .val (.int (own_b eO)), .val (.int (own_b ea)), .val (.int (own_b eN)), .val (.int (own_b false)), .unset, .unset, .unset, .unset, .unset]) rfl ?_
      show Steps p.tables e below (T34.setTop (mkF m 215 #[.val (.int p1), .val (.int p2), .val (.int p3), .val (.int p4), .val (.int n), .val (.int nd), .val (.int ot), .val (.int (own_b b1)), .val (.int (own_b b2)), .val (.int (own_b b3)), .val (.long ex), .second, .val (.long ac), .second, .val (.ref b6), .val (.int (own_b eN)), .val (.int (own_b eO)), .val (.int (own_b ea)), .val (.int (own_b eN)), .val (.int (own_b false)), .unset, .unset, .unset, .unset, .unset] [])) _
      refine XS.aload X34.here hx rfl (hb hby at_215) rfl rfl ?_
      show Steps p.tables e below (T34.setTop (mkF m 217 #[.val (.int p1), .val (.int p2), .val (.int p3), .val (.int p4), .val (.int n), .val (.int nd), .val (.int ot), .val (.int (own_b b1)), .val (.int (own_b b2)), .val (.int (own_b b3)), .val (.long ex), .second, .val (.long ac), .second, .val (.ref b6), .val (.int (own_b eN)), .val (.int (own_b eO)), .val (.int (own_b ea)), .val (.int (own_b eN)), .val (.int (own_b false)), .unset, .unset, .unset, .unset, .unset] [(.ref b6)])) _
      refine XS.iload X34.here hx rfl (hb hby at_217) rfl ?_
      show Steps p.tables e below (T34.setTop (mkF m 219 #[.val (.int p1), .val (.int p2), .val (.int p3), .val (.int p4), .val (.int n), .val (.int nd), .val (.int ot), .val (.int (own_b b1)), .val (.int (own_b b2)), .val (.int (own_b b3)), .val (.long ex), .second, .val (.long ac), .second, .val (.ref b6), .val (.int (own_b eN)), .val (.int (own_b eO)), .val (.int (own_b ea)), .val (.int (own_b eN)), .val (.int (own_b false)), .unset, .unset, .unset, .unset, .unset] [(.int ot), (.ref b6)])) _
      exact k)
  have a6 : ((fun j => ((b1 && decide (j = nd.toInt.toNat)) || (b3 && decide (j = ot.toInt.toNat))) || (b2 && xe)) ot.toInt.toNat && !((fun j => decide (j = nd.toInt.toNat) && eN) ot.toInt.toNat)) = eO := by rw [heO]; exact own_a6 b1 b2 b3 xe eN n3'
  obtain ⟨cq37, kq37, q37a, q37b, q37c⟩ := isOf hZ rfl H5'.1.1
  obtain ⟨_, _, ⟨T37, L37, k37, n37⟩, -, X37, ⟨Lc37, hQ37, l37, y37, z37⟩, st37⟩ := X34.virtualBack hx (y := (⟨"com/example/halfmesh/halfmesh/CompleteRelay", "relays", "(I)Z"⟩ : MethodName)) (z := (⟨"com/example/halfmesh/halfmesh/CompleteRelay", "relays", "(I)Z"⟩ : MethodName)) hown (mvT hZ (hw _ (List.mem_of_getElem? (i := 57) rfl))) (mvT hZ (hw _ (List.mem_of_getElem? (i := 58) rfl))) (notFace_of_selects (args := #[]) (mvT hZ (hw _ (List.mem_of_getElem? (i := 60) rfl)))) (mvT hZ (hw _ (List.mem_of_getElem? (i := 60) rfl))) (mvT hZ (hw _ (List.mem_of_getElem? (i := 59) rfl))) (by decide) (backOf (W := 0) (rm7 l Z a0 hw [] b6 ot ae ar av aq N ex ac (fun j => ((b1 && decide (j = nd.toInt.toNat)) || (b3 && decide (j = ot.toInt.toNat))) || (b2 && xe)) (fun j => decide (j = nd.toInt.toNat) && eN) (fun _ => ea) T34.heap n0 H5'.2.2.2.2 H5' bot.1 n2) hZ (hw _ (List.mem_of_getElem? (i := 61) rfl)) (hw _ (List.mem_of_getElem? (i := 4) rfl)) (by decide) (by decide)) q37a q37c (g := (mkF m 219 #[.val (.int p1), .val (.int p2), .val (.int p3), .val (.int p4), .val (.int n), .val (.int nd), .val (.int ot), .val (.int (own_b b1)), .val (.int (own_b b2)), .val (.int (own_b b3)), .val (.long ex), .second, .val (.long ac), .second, .val (.ref b6), .val (.int (own_b eN)), .val (.int (own_b eO)), .val (.int (own_b ea)), .val (.int (own_b eN)), .val (.int (own_b false)), .unset, .unset, .unset, .unset, .unset] [(.int ot), (.ref b6)])) rfl (by rw [hml]; rfl) (Steps.refl _) (argsL := [(.int ot)]) (rest := []) (lenOf pd_z rfl) rfl (by show 2 * 0 + _ ≤ _; exact Nat.le_of_eq rfl) (hb hby at_219) (fun _ _ => ⟨rfl, rfl, (by decide : 7 + 0 ≤ _), (by decide : 32 + 0 ≤ _)⟩)
  dsimp only [Pt.U, Pt.locs, Pt.cells, Pt.slots] at X37 l37 y37 z37 st37 hQ37
  subst l37 y37 z37
  obtain ⟨rfl, N37q, H6⟩ := hQ37
  have N37 := Fr.app N34 N37q
  have go38 : ∀ t, Steps p.tables e below (T37.setTop (mkF m 222 #[.val (.int p1), .val (.int p2), .val (.int p3), .val (.int p4), .val (.int n), .val (.int nd), .val (.int ot), .val (.int (own_b b1)), .val (.int (own_b b2)), .val (.int (own_b b3)), .val (.long ex), .second, .val (.long ac), .second, .val (.ref b6), .val (.int (own_b eN)), .val (.int (own_b eO)), .val (.int (own_b ea)), .val (.int (own_b eN)), .val (.int (own_b false)), .unset, .unset, .unset, .unset, .unset] [(.int (own_b ((fun j => ((b1 && decide (j = nd.toInt.toNat)) || (b3 && decide (j = ot.toInt.toNat))) || (b2 && xe)) ot.toInt.toNat && !((fun j => decide (j = nd.toInt.toNat) && eN) ot.toInt.toNat))))])) t → G t := fun t k => go36 t (st37.trans k)
  rw [a6] at go38
  have H6' : own_heap Z T37.heap n0 b6 ae ar av aq N ex ac (fun j => ((b1 && decide (j = nd.toInt.toNat)) || (b3 && decide (j = ot.toInt.toNat))) || (b2 && xe)) (fun j => (decide (j = nd.toInt.toNat) && eN) || (decide (j = ot.toInt.toNat) && eO)) (fun _ => ea) := own_heap_eq H6 (fun _ _ => rfl) (fun j _ => by rw [heO]; exact own_r6 b1 b2 b3 xe eN n3' j) (fun _ _ => rfl)
  have go39 : ∀ t, Steps p.tables e below (T37.setTop (mkF m 226 #[.val (.int p1), .val (.int p2), .val (.int p3), .val (.int p4), .val (.int n), .val (.int nd), .val (.int ot), .val (.int (own_b b1)), .val (.int (own_b b2)), .val (.int (own_b b3)), .val (.long ex), .second, .val (.long ac), .second, .val (.ref b6), .val (.int (own_b eN)), .val (.int (own_b eO)), .val (.int (own_b ea)), .val (.int (own_b eN)), .val (.int (own_b false)), .val (.int (own_b eO)), .unset, .unset, .unset, .unset] [(.ref b6)])) t → G t := fun t k => go38 t (by
      show Steps p.tables e below (T37.setTop (mkF m 222 #[.val (.int p1), .val (.int p2), .val (.int p3), .val (.int p4), .val (.int n), .val (.int nd), .val (.int ot), .val (.int (own_b b1)), .val (.int (own_b b2)), .val (.int (own_b b3)), .val (.long ex), .second, .val (.long ac), .second, .val (.ref b6), .val (.int (own_b eN)), .val (.int (own_b eO)), .val (.int (own_b ea)), .val (.int (own_b eN)), .val (.int (own_b false)), .unset, .unset, .unset, .unset, .unset] [(.int (own_b eO))])) _
      refine XS.istore X37.here hx rfl (hb hby at_222) rfl (l' := #[.val (.int p1), .val (.int p2), .val (.int p3), .val (.int p4), .val (.int n), .val (.int nd), .val (.int ot), .val (.int (own_b b1)), .val (.int (own_b b2)), .val (.int (own_b b3)), .val (.long ex), .second, .val (.long ac), .second, .val (.ref b6), .val (.int (own_b eN)), .val (.int (own_b eO)), .val (.int (own_b ea)), .val (.int (own_b eN)), .val (.int (own_b false)), .val (.int (own_b eO)), .unset, .unset, .unset, .unset]) rfl ?_
      show Steps p.tables e below (T37.setTop (mkF m 224 #[.val (.int p1), .val (.int p2), .val (.int p3), .val (.int p4), .val (.int n), .val (.int nd), .val (.int ot), .val (.int (own_b b1)), .val (.int (own_b b2)), .val (.int (own_b b3)), .val (.long ex), .second, .val (.long ac), .second, .val (.ref b6), .val (.int (own_b eN)), .val (.int (own_b eO)), .val (.int (own_b ea)), .val (.int (own_b eN)), .val (.int (own_b false)), .val (.int (own_b eO)), .unset, .unset, .unset, .unset] [])) _
      refine XS.aload X37.here hx rfl (hb hby at_224) rfl rfl ?_
      show Steps p.tables e below (T37.setTop (mkF m 226 #[.val (.int p1), .val (.int p2), .val (.int p3), .val (.int p4), .val (.int n), .val (.int nd), .val (.int ot), .val (.int (own_b b1)), .val (.int (own_b b2)), .val (.int (own_b b3)), .val (.long ex), .second, .val (.long ac), .second, .val (.ref b6), .val (.int (own_b eN)), .val (.int (own_b eO)), .val (.int (own_b ea)), .val (.int (own_b eN)), .val (.int (own_b false)), .val (.int (own_b eO)), .unset, .unset, .unset, .unset] [(.ref b6)])) _
      exact k)
  obtain ⟨cq40, kq40, q40a, q40b, q40c⟩ := isOf hZ rfl H6'.1.1
  obtain ⟨_, _, ⟨T40, L40, k40, n40⟩, -, X40, ⟨Lc40, hQ40, l40, y40, z40⟩, st40⟩ := X37.virtualBack hx (y := (⟨"com/example/halfmesh/halfmesh/CompleteRelay", "endRelays", "()V"⟩ : MethodName)) (z := (⟨"com/example/halfmesh/halfmesh/CompleteRelay", "endRelays", "()V"⟩ : MethodName)) hown (mvT hZ (hw _ (List.mem_of_getElem? (i := 62) rfl))) (mvT hZ (hw _ (List.mem_of_getElem? (i := 63) rfl))) (notFace_of_selects (args := #[]) (mvT hZ (hw _ (List.mem_of_getElem? (i := 65) rfl)))) (mvT hZ (hw _ (List.mem_of_getElem? (i := 65) rfl))) (mvT hZ (hw _ (List.mem_of_getElem? (i := 64) rfl))) (by decide) (backOf (W := 0) (rm8 l Z a0 hw [] b6 ae ar av aq N ex ac (fun j => ((b1 && decide (j = nd.toInt.toNat)) || (b3 && decide (j = ot.toInt.toNat))) || (b2 && xe)) (fun j => (decide (j = nd.toInt.toNat) && eN) || (decide (j = ot.toInt.toNat) && eO)) (fun _ => ea) T37.heap n0 H6'.2.2.2.2 H6' hN5) hZ (hw _ (List.mem_of_getElem? (i := 66) rfl)) (hw _ (List.mem_of_getElem? (i := 4) rfl)) (by decide) (by decide)) q40a q40c (g := (mkF m 226 #[.val (.int p1), .val (.int p2), .val (.int p3), .val (.int p4), .val (.int n), .val (.int nd), .val (.int ot), .val (.int (own_b b1)), .val (.int (own_b b2)), .val (.int (own_b b3)), .val (.long ex), .second, .val (.long ac), .second, .val (.ref b6), .val (.int (own_b eN)), .val (.int (own_b eO)), .val (.int (own_b ea)), .val (.int (own_b eN)), .val (.int (own_b false)), .val (.int (own_b eO)), .unset, .unset, .unset, .unset] [(.ref b6)])) rfl (by rw [hml]; rfl) (Steps.refl _) (argsL := []) (rest := []) (lenOf pd_v rfl) rfl (by show 2 * 0 + _ ≤ _; exact Nat.le_of_eq rfl) (hb hby at_226) (fun _ _ => ⟨rfl, rfl, (by decide : 7 + 0 ≤ _), (by decide : 32 + 0 ≤ _)⟩)
  dsimp only [Pt.U, Pt.locs, Pt.cells, Pt.slots] at X40 l40 y40 z40 st40 hQ40
  subst l40 y40 z40
  obtain ⟨rfl, N40q, H7⟩ := hQ40
  have N40 := Fr.app N37 N40q
  have go41 : ∀ t, Steps p.tables e below (T40.setTop (mkF m 229 #[.val (.int p1), .val (.int p2), .val (.int p3), .val (.int p4), .val (.int n), .val (.int nd), .val (.int ot), .val (.int (own_b b1)), .val (.int (own_b b2)), .val (.int (own_b b3)), .val (.long ex), .second, .val (.long ac), .second, .val (.ref b6), .val (.int (own_b eN)), .val (.int (own_b eO)), .val (.int (own_b ea)), .val (.int (own_b eN)), .val (.int (own_b false)), .val (.int (own_b eO)), .unset, .unset, .unset, .unset] [])) t → G t := fun t k => go39 t (st40.trans k)
  have go42 : ∀ t, Steps p.tables e below (T40.setTop (mkF m 233 #[.val (.int p1), .val (.int p2), .val (.int p3), .val (.int p4), .val (.int n), .val (.int nd), .val (.int ot), .val (.int (own_b b1)), .val (.int (own_b b2)), .val (.int (own_b b3)), .val (.long ex), .second, .val (.long ac), .second, .val (.ref b6), .val (.int (own_b eN)), .val (.int (own_b eO)), .val (.int (own_b ea)), .val (.int (own_b eN)), .val (.int (own_b false)), .val (.int (own_b eO)), .unset, .unset, .unset, .unset] [(.int nd), (.ref b6)])) t → G t := fun t k => go41 t (by
      show Steps p.tables e below (T40.setTop (mkF m 229 #[.val (.int p1), .val (.int p2), .val (.int p3), .val (.int p4), .val (.int n), .val (.int nd), .val (.int ot), .val (.int (own_b b1)), .val (.int (own_b b2)), .val (.int (own_b b3)), .val (.long ex), .second, .val (.long ac), .second, .val (.ref b6), .val (.int (own_b eN)), .val (.int (own_b eO)), .val (.int (own_b ea)), .val (.int (own_b eN)), .val (.int (own_b false)), .val (.int (own_b eO)), .unset, .unset, .unset, .unset] [])) _
      refine XS.aload X40.here hx rfl (hb hby at_229) rfl rfl ?_
      show Steps p.tables e below (T40.setTop (mkF m 231 #[.val (.int p1), .val (.int p2), .val (.int p3), .val (.int p4), .val (.int n), .val (.int nd), .val (.int ot), .val (.int (own_b b1)), .val (.int (own_b b2)), .val (.int (own_b b3)), .val (.long ex), .second, .val (.long ac), .second, .val (.ref b6), .val (.int (own_b eN)), .val (.int (own_b eO)), .val (.int (own_b ea)), .val (.int (own_b eN)), .val (.int (own_b false)), .val (.int (own_b eO)), .unset, .unset, .unset, .unset] [(.ref b6)])) _
      refine XS.iload X40.here hx rfl (hb hby at_231) rfl ?_
      show Steps p.tables e below (T40.setTop (mkF m 233 #[.val (.int p1), .val (.int p2), .val (.int p3), .val (.int p4), .val (.int n), .val (.int nd), .val (.int ot), .val (.int (own_b b1)), .val (.int (own_b b2)), .val (.int (own_b b3)), .val (.long ex), .second, .val (.long ac), .second, .val (.ref b6), .val (.int (own_b eN)), .val (.int (own_b eO)), .val (.int (own_b ea)), .val (.int (own_b eN)), .val (.int (own_b false)), .val (.int (own_b eO)), .unset, .unset, .unset, .unset] [(.int nd), (.ref b6)])) _
      exact k)
  have a8 : ((fun j => (fun j => ((b1 && decide (j = nd.toInt.toNat)) || (b3 && decide (j = ot.toInt.toNat))) || (b2 && xe)) j || decide (ex.toInt ≤ own_h ((fun j => (decide (j = nd.toInt.toNat) && eN) || (decide (j = ot.toInt.toNat) && eO)) j))) nd.toInt.toNat && !((fun j => (decide (j = nd.toInt.toNat) && eN) || (decide (j = ot.toInt.toNat) && eO)) nd.toInt.toNat)) = eT := by rw [heT]; exact own_a8 b1 b2 b3 xe eN eO ex.toInt n3 hxe heN
  obtain ⟨cq43, kq43, q43a, q43b, q43c⟩ := isOf hZ rfl H7.1.1
  obtain ⟨_, _, ⟨T43, L43, k43, n43⟩, -, X43, ⟨Lc43, hQ43, l43, y43, z43⟩, st43⟩ := X40.virtualBack hx (y := (⟨"com/example/halfmesh/halfmesh/CompleteRelay", "relays", "(I)Z"⟩ : MethodName)) (z := (⟨"com/example/halfmesh/halfmesh/CompleteRelay", "relays", "(I)Z"⟩ : MethodName)) hown (mvT hZ (hw _ (List.mem_of_getElem? (i := 57) rfl))) (mvT hZ (hw _ (List.mem_of_getElem? (i := 58) rfl))) (notFace_of_selects (args := #[]) (mvT hZ (hw _ (List.mem_of_getElem? (i := 60) rfl)))) (mvT hZ (hw _ (List.mem_of_getElem? (i := 60) rfl))) (mvT hZ (hw _ (List.mem_of_getElem? (i := 59) rfl))) (by decide) (backOf (W := 0) (rm7 l Z a0 hw [] b6 nd ae ar av aq N ex ac (fun j => (fun j => ((b1 && decide (j = nd.toInt.toNat)) || (b3 && decide (j = ot.toInt.toNat))) || (b2 && xe)) j || decide (ex.toInt ≤ own_h ((fun j => (decide (j = nd.toInt.toNat) && eN) || (decide (j = ot.toInt.toNat) && eO)) j))) (fun j => (decide (j = nd.toInt.toNat) && eN) || (decide (j = ot.toInt.toNat) && eO)) (fun j => (fun _ => ea) j || decide (ac.toInt ≤ own_h ((fun j => (decide (j = nd.toInt.toNat) && eN) || (decide (j = ot.toInt.toNat) && eO)) j))) T40.heap n0 H7.2.2.2.2 H7 bnd.1 n1) hZ (hw _ (List.mem_of_getElem? (i := 61) rfl)) (hw _ (List.mem_of_getElem? (i := 4) rfl)) (by decide) (by decide)) q43a q43c (g := (mkF m 233 #[.val (.int p1), .val (.int p2), .val (.int p3), .val (.int p4), .val (.int n), .val (.int nd), .val (.int ot), .val (.int (own_b b1)), .val (.int (own_b b2)), .val (.int (own_b b3)), .val (.long ex), .second, .val (.long ac), .second, .val (.ref b6), .val (.int (own_b eN)), .val (.int (own_b eO)), .val (.int (own_b ea)), .val (.int (own_b eN)), .val (.int (own_b false)), .val (.int (own_b eO)), .unset, .unset, .unset, .unset] [(.int nd), (.ref b6)])) rfl (by rw [hml]; rfl) (Steps.refl _) (argsL := [(.int nd)]) (rest := []) (lenOf pd_z rfl) rfl (by show 2 * 0 + _ ≤ _; exact Nat.le_of_eq rfl) (hb hby at_233) (fun _ _ => ⟨rfl, rfl, (by decide : 7 + 0 ≤ _), (by decide : 32 + 0 ≤ _)⟩)
  dsimp only [Pt.U, Pt.locs, Pt.cells, Pt.slots] at X43 l43 y43 z43 st43 hQ43
  subst l43 y43 z43
  obtain ⟨rfl, N43q, H8⟩ := hQ43
  have N43 := Fr.app N40 N43q
  have go44 : ∀ t, Steps p.tables e below (T43.setTop (mkF m 236 #[.val (.int p1), .val (.int p2), .val (.int p3), .val (.int p4), .val (.int n), .val (.int nd), .val (.int ot), .val (.int (own_b b1)), .val (.int (own_b b2)), .val (.int (own_b b3)), .val (.long ex), .second, .val (.long ac), .second, .val (.ref b6), .val (.int (own_b eN)), .val (.int (own_b eO)), .val (.int (own_b ea)), .val (.int (own_b eN)), .val (.int (own_b false)), .val (.int (own_b eO)), .unset, .unset, .unset, .unset] [(.int (own_b ((fun j => (fun j => ((b1 && decide (j = nd.toInt.toNat)) || (b3 && decide (j = ot.toInt.toNat))) || (b2 && xe)) j || decide (ex.toInt ≤ own_h ((fun j => (decide (j = nd.toInt.toNat) && eN) || (decide (j = ot.toInt.toNat) && eO)) j))) nd.toInt.toNat && !((fun j => (decide (j = nd.toInt.toNat) && eN) || (decide (j = ot.toInt.toNat) && eO)) nd.toInt.toNat))))])) t → G t := fun t k => go42 t (st43.trans k)
  rw [a8] at go44
  have go45 : ∀ t, Steps p.tables e below (T43.setTop (mkF m 242 #[.val (.int p1), .val (.int p2), .val (.int p3), .val (.int p4), .val (.int n), .val (.int nd), .val (.int ot), .val (.int (own_b b1)), .val (.int (own_b b2)), .val (.int (own_b b3)), .val (.long ex), .second, .val (.long ac), .second, .val (.ref b6), .val (.int (own_b eN)), .val (.int (own_b eO)), .val (.int (own_b ea)), .val (.int (own_b eN)), .val (.int (own_b false)), .val (.int (own_b eO)), .val (.int (own_b eT)), .unset, .unset, .unset] [(.int nd), (.ref b6)])) t → G t := fun t k => go44 t (by
      show Steps p.tables e below (T43.setTop (mkF m 236 #[.val (.int p1), .val (.int p2), .val (.int p3), .val (.int p4), .val (.int n), .val (.int nd), .val (.int ot), .val (.int (own_b b1)), .val (.int (own_b b2)), .val (.int (own_b b3)), .val (.long ex), .second, .val (.long ac), .second, .val (.ref b6), .val (.int (own_b eN)), .val (.int (own_b eO)), .val (.int (own_b ea)), .val (.int (own_b eN)), .val (.int (own_b false)), .val (.int (own_b eO)), .unset, .unset, .unset, .unset] [(.int (own_b eT))])) _
      refine XS.istore X43.here hx rfl (hb hby at_236) rfl (l' := #[.val (.int p1), .val (.int p2), .val (.int p3), .val (.int p4), .val (.int n), .val (.int nd), .val (.int ot), .val (.int (own_b b1)), .val (.int (own_b b2)), .val (.int (own_b b3)), .val (.long ex), .second, .val (.long ac), .second, .val (.ref b6), .val (.int (own_b eN)), .val (.int (own_b eO)), .val (.int (own_b ea)), .val (.int (own_b eN)), .val (.int (own_b false)), .val (.int (own_b eO)), .val (.int (own_b eT)), .unset, .unset, .unset]) rfl ?_
      show Steps p.tables e below (T43.setTop (mkF m 238 #[.val (.int p1), .val (.int p2), .val (.int p3), .val (.int p4), .val (.int n), .val (.int nd), .val (.int ot), .val (.int (own_b b1)), .val (.int (own_b b2)), .val (.int (own_b b3)), .val (.long ex), .second, .val (.long ac), .second, .val (.ref b6), .val (.int (own_b eN)), .val (.int (own_b eO)), .val (.int (own_b ea)), .val (.int (own_b eN)), .val (.int (own_b false)), .val (.int (own_b eO)), .val (.int (own_b eT)), .unset, .unset, .unset] [])) _
      refine XS.aload X43.here hx rfl (hb hby at_238) rfl rfl ?_
      show Steps p.tables e below (T43.setTop (mkF m 240 #[.val (.int p1), .val (.int p2), .val (.int p3), .val (.int p4), .val (.int n), .val (.int nd), .val (.int ot), .val (.int (own_b b1)), .val (.int (own_b b2)), .val (.int (own_b b3)), .val (.long ex), .second, .val (.long ac), .second, .val (.ref b6), .val (.int (own_b eN)), .val (.int (own_b eO)), .val (.int (own_b ea)), .val (.int (own_b eN)), .val (.int (own_b false)), .val (.int (own_b eO)), .val (.int (own_b eT)), .unset, .unset, .unset] [(.ref b6)])) _
      refine XS.iload X43.here hx rfl (hb hby at_240) rfl ?_
      show Steps p.tables e below (T43.setTop (mkF m 242 #[.val (.int p1), .val (.int p2), .val (.int p3), .val (.int p4), .val (.int n), .val (.int nd), .val (.int ot), .val (.int (own_b b1)), .val (.int (own_b b2)), .val (.int (own_b b3)), .val (.long ex), .second, .val (.long ac), .second, .val (.ref b6), .val (.int (own_b eN)), .val (.int (own_b eO)), .val (.int (own_b ea)), .val (.int (own_b eN)), .val (.int (own_b false)), .val (.int (own_b eO)), .val (.int (own_b eT)), .unset, .unset, .unset] [(.int nd), (.ref b6)])) _
      exact k)
  obtain ⟨cq46, kq46, q46a, q46b, q46c⟩ := isOf hZ rfl H8.1.1
  obtain ⟨_, _, ⟨T46, L46, k46, n46⟩, -, X46, ⟨Lc46, hQ46, l46, y46, z46⟩, st46⟩ := X43.virtualBack hx (y := (⟨"com/example/halfmesh/halfmesh/CompleteRelay", "accepted", "(I)Z"⟩ : MethodName)) (z := (⟨"com/example/halfmesh/halfmesh/CompleteRelay", "accepted", "(I)Z"⟩ : MethodName)) hown (mvT hZ (hw _ (List.mem_of_getElem? (i := 67) rfl))) (mvT hZ (hw _ (List.mem_of_getElem? (i := 68) rfl))) (notFace_of_selects (args := #[]) (mvT hZ (hw _ (List.mem_of_getElem? (i := 70) rfl)))) (mvT hZ (hw _ (List.mem_of_getElem? (i := 70) rfl))) (mvT hZ (hw _ (List.mem_of_getElem? (i := 69) rfl))) (by decide) (backOf (W := 0) (rm9 l Z a0 hw [] b6 nd ae ar av aq N ex ac (fun j => (fun j => ((b1 && decide (j = nd.toInt.toNat)) || (b3 && decide (j = ot.toInt.toNat))) || (b2 && xe)) j || decide (ex.toInt ≤ own_h ((fun j => (decide (j = nd.toInt.toNat) && eN) || (decide (j = ot.toInt.toNat) && eO)) j))) _ (fun j => (fun _ => ea) j || decide (ac.toInt ≤ own_h ((fun j => (decide (j = nd.toInt.toNat) && eN) || (decide (j = ot.toInt.toNat) && eO)) j))) T43.heap n0 H8.2.2.2.2 H8 bnd.1 n1) hZ (hw _ (List.mem_of_getElem? (i := 71) rfl)) (hw _ (List.mem_of_getElem? (i := 4) rfl)) (by decide) (by decide)) q46a q46c (g := (mkF m 242 #[.val (.int p1), .val (.int p2), .val (.int p3), .val (.int p4), .val (.int n), .val (.int nd), .val (.int ot), .val (.int (own_b b1)), .val (.int (own_b b2)), .val (.int (own_b b3)), .val (.long ex), .second, .val (.long ac), .second, .val (.ref b6), .val (.int (own_b eN)), .val (.int (own_b eO)), .val (.int (own_b ea)), .val (.int (own_b eN)), .val (.int (own_b false)), .val (.int (own_b eO)), .val (.int (own_b eT)), .unset, .unset, .unset] [(.int nd), (.ref b6)])) rfl (by rw [hml]; rfl) (Steps.refl _) (argsL := [(.int nd)]) (rest := []) (lenOf pd_z rfl) rfl (by show 2 * 0 + _ ≤ _; exact Nat.le_of_eq rfl) (hb hby at_242) (fun _ _ => ⟨rfl, rfl, (by decide : 7 + 0 ≤ _), (by decide : 32 + 0 ≤ _)⟩)
  dsimp only [Pt.U, Pt.locs, Pt.cells, Pt.slots] at X46 l46 y46 z46 st46 hQ46
  subst l46 y46 z46
  obtain ⟨rfl, N46q, q46⟩ := hQ46
  have N46 := Fr.app N43 N46q
  have go47 : ∀ t, Steps p.tables e below (T46.setTop (mkF m 245 #[.val (.int p1), .val (.int p2), .val (.int p3), .val (.int p4), .val (.int n), .val (.int nd), .val (.int ot), .val (.int (own_b b1)), .val (.int (own_b b2)), .val (.int (own_b b3)), .val (.long ex), .second, .val (.long ac), .second, .val (.ref b6), .val (.int (own_b eN)), .val (.int (own_b eO)), .val (.int (own_b ea)), .val (.int (own_b eN)), .val (.int (own_b false)), .val (.int (own_b eO)), .val (.int (own_b eT)), .unset, .unset, .unset] [(.int (own_b ((fun j => (fun _ => ea) j || decide (ac.toInt ≤ own_h ((fun j => (decide (j = nd.toInt.toNat) && eN) || (decide (j = ot.toInt.toNat) && eO)) j))) nd.toInt.toNat)))])) t → G t := fun t k => go45 t (st46.trans k)
  have a9 : (fun j => (fun _ => ea) j || decide (ac.toInt ≤ own_h ((fun j => (decide (j = nd.toInt.toNat) && eN) || (decide (j = ot.toInt.toNat) && eO)) j))) nd.toInt.toNat = eA := by rw [heA]; exact own_a9 ea eN eO ac.toInt n3
  rw [a9] at go47
  have go48 : ∀ t, Steps p.tables e below (T46.setTop (mkF m 247 #[.val (.int p1), .val (.int p2), .val (.int p3), .val (.int p4), .val (.int n), .val (.int nd), .val (.int ot), .val (.int (own_b b1)), .val (.int (own_b b2)), .val (.int (own_b b3)), .val (.long ex), .second, .val (.long ac), .second, .val (.ref b6), .val (.int (own_b eN)), .val (.int (own_b eO)), .val (.int (own_b ea)), .val (.int (own_b eN)), .val (.int (own_b false)), .val (.int (own_b eO)), .val (.int (own_b eT)), .val (.int (own_b eA)), .unset, .unset] [])) t → G t := fun t k => go47 t (by
      show Steps p.tables e below (T46.setTop (mkF m 245 #[.val (.int p1), .val (.int p2), .val (.int p3), .val (.int p4), .val (.int n), .val (.int nd), .val (.int ot), .val (.int (own_b b1)), .val (.int (own_b b2)), .val (.int (own_b b3)), .val (.long ex), .second, .val (.long ac), .second, .val (.ref b6), .val (.int (own_b eN)), .val (.int (own_b eO)), .val (.int (own_b ea)), .val (.int (own_b eN)), .val (.int (own_b false)), .val (.int (own_b eO)), .val (.int (own_b eT)), .unset, .unset, .unset] [(.int (own_b eA))])) _
      refine XS.istore X46.here hx rfl (hb hby at_245) rfl (l' := #[.val (.int p1), .val (.int p2), .val (.int p3), .val (.int p4), .val (.int n), .val (.int nd), .val (.int ot), .val (.int (own_b b1)), .val (.int (own_b b2)), .val (.int (own_b b3)), .val (.long ex), .second, .val (.long ac), .second, .val (.ref b6), .val (.int (own_b eN)), .val (.int (own_b eO)), .val (.int (own_b ea)), .val (.int (own_b eN)), .val (.int (own_b false)), .val (.int (own_b eO)), .val (.int (own_b eT)), .val (.int (own_b eA)), .unset, .unset]) rfl ?_
      show Steps p.tables e below (T46.setTop (mkF m 247 #[.val (.int p1), .val (.int p2), .val (.int p3), .val (.int p4), .val (.int n), .val (.int nd), .val (.int ot), .val (.int (own_b b1)), .val (.int (own_b b2)), .val (.int (own_b b3)), .val (.long ex), .second, .val (.long ac), .second, .val (.ref b6), .val (.int (own_b eN)), .val (.int (own_b eO)), .val (.int (own_b ea)), .val (.int (own_b eN)), .val (.int (own_b false)), .val (.int (own_b eO)), .val (.int (own_b eT)), .val (.int (own_b eA)), .unset, .unset] [])) _
      exact k)
  have go49 : ∀ t, Steps p.tables e below (T46.setTop (mkF m 275 #[.val (.int p1), .val (.int p2), .val (.int p3), .val (.int p4), .val (.int n), .val (.int nd), .val (.int ot), .val (.int (own_b b1)), .val (.int (own_b b2)), .val (.int (own_b b3)), .val (.long ex), .second, .val (.long ac), .second, .val (.ref b6), .val (.int (own_b eN)), .val (.int (own_b eO)), .val (.int (own_b ea)), .val (.int (own_b eN)), .val (.int (own_b false)), .val (.int (own_b eO)), .val (.int (own_b eT)), .val (.int (own_b eA)), .val (.int (own_b eA)), .unset] [])) t → G t := fun t k => go48 t (by
      show Steps p.tables e below (T46.setTop (mkF m 247 #[.val (.int p1), .val (.int p2), .val (.int p3), .val (.int p4), .val (.int n), .val (.int nd), .val (.int ot), .val (.int (own_b b1)), .val (.int (own_b b2)), .val (.int (own_b b3)), .val (.long ex), .second, .val (.long ac), .second, .val (.ref b6), .val (.int (own_b eN)), .val (.int (own_b eO)), .val (.int (own_b ea)), .val (.int (own_b eN)), .val (.int (own_b false)), .val (.int (own_b eO)), .val (.int (own_b eT)), .val (.int (own_b eA)), .unset, .unset] [])) _
      refine XS.iload X46.here hx rfl (hb hby at_247) rfl ?_
      show Steps p.tables e below (T46.setTop (mkF m 249 #[.val (.int p1), .val (.int p2), .val (.int p3), .val (.int p4), .val (.int n), .val (.int nd), .val (.int ot), .val (.int (own_b b1)), .val (.int (own_b b2)), .val (.int (own_b b3)), .val (.long ex), .second, .val (.long ac), .second, .val (.ref b6), .val (.int (own_b eN)), .val (.int (own_b eO)), .val (.int (own_b ea)), .val (.int (own_b eN)), .val (.int (own_b false)), .val (.int (own_b eO)), .val (.int (own_b eT)), .val (.int (own_b eA)), .unset, .unset] [(.int (own_b ea))])) _
      by_cases h249 : ea = false
      · refine XS.ifNo X46.here hx rfl (hb hby at_249) rfl ((if0 _ _).trans (teq (own_b0 h249)).2) ?_
        show Steps p.tables e below (T46.setTop (mkF m 252 #[.val (.int p1), .val (.int p2), .val (.int p3), .val (.int p4), .val (.int n), .val (.int nd), .val (.int ot), .val (.int (own_b b1)), .val (.int (own_b b2)), .val (.int (own_b b3)), .val (.long ex), .second, .val (.long ac), .second, .val (.ref b6), .val (.int (own_b eN)), .val (.int (own_b eO)), .val (.int (own_b ea)), .val (.int (own_b eN)), .val (.int (own_b false)), .val (.int (own_b eO)), .val (.int (own_b eT)), .val (.int (own_b eA)), .unset, .unset] [])) _
        refine XS.iload X46.here hx rfl (hb hby at_252) rfl ?_
        show Steps p.tables e below (T46.setTop (mkF m 254 #[.val (.int p1), .val (.int p2), .val (.int p3), .val (.int p4), .val (.int n), .val (.int nd), .val (.int ot), .val (.int (own_b b1)), .val (.int (own_b b2)), .val (.int (own_b b3)), .val (.long ex), .second, .val (.long ac), .second, .val (.ref b6), .val (.int (own_b eN)), .val (.int (own_b eO)), .val (.int (own_b ea)), .val (.int (own_b eN)), .val (.int (own_b false)), .val (.int (own_b eO)), .val (.int (own_b eT)), .val (.int (own_b eA)), .unset, .unset] [(.int (own_b eN))])) _
        by_cases h254 : eN = false
        · refine XS.ifYes X46.here hx rfl (pc0 := 254) (pc' := 261) rfl (hb hby at_254) rfl ((if0 _ _).trans (teq (own_b0 h254)).1) (by decide) (by decide) ?_
          show Steps p.tables e below (T46.setTop (mkF m 261 #[.val (.int p1), .val (.int p2), .val (.int p3), .val (.int p4), .val (.int n), .val (.int nd), .val (.int ot), .val (.int (own_b b1)), .val (.int (own_b b2)), .val (.int (own_b b3)), .val (.long ex), .second, .val (.long ac), .second, .val (.ref b6), .val (.int (own_b eN)), .val (.int (own_b eO)), .val (.int (own_b ea)), .val (.int (own_b eN)), .val (.int (own_b false)), .val (.int (own_b eO)), .val (.int (own_b eT)), .val (.int (own_b eA)), .unset, .unset] [])) _
          refine XS.lconst X46.here hx rfl (hb hby at_261) ?_
          show Steps p.tables e below (T46.setTop (mkF m 262 #[.val (.int p1), .val (.int p2), .val (.int p3), .val (.int p4), .val (.int n), .val (.int nd), .val (.int ot), .val (.int (own_b b1)), .val (.int (own_b b2)), .val (.int (own_b b3)), .val (.long ex), .second, .val (.long ac), .second, .val (.ref b6), .val (.int (own_b eN)), .val (.int (own_b eO)), .val (.int (own_b ea)), .val (.int (own_b eN)), .val (.int (own_b false)), .val (.int (own_b eO)), .val (.int (own_b eT)), .val (.int (own_b eA)), .unset, .unset] [(.long (0 : Int64))])) _
          refine XS.lload X46.here hx rfl (hb hby at_262) rfl ?_
          show Steps p.tables e below (T46.setTop (mkF m 264 #[.val (.int p1), .val (.int p2), .val (.int p3), .val (.int p4), .val (.int n), .val (.int nd), .val (.int ot), .val (.int (own_b b1)), .val (.int (own_b b2)), .val (.int (own_b b3)), .val (.long ex), .second, .val (.long ac), .second, .val (.ref b6), .val (.int (own_b eN)), .val (.int (own_b eO)), .val (.int (own_b ea)), .val (.int (own_b eN)), .val (.int (own_b false)), .val (.int (own_b eO)), .val (.int (own_b eT)), .val (.int (own_b eA)), .unset, .unset] [(.long ac), (.long (0 : Int64))])) _
          refine XS.lcmp X46.here hx rfl (hb hby at_264) rfl ?_
          show Steps p.tables e below (T46.setTop (mkF m 265 #[.val (.int p1), .val (.int p2), .val (.int p3), .val (.int p4), .val (.int n), .val (.int nd), .val (.int ot), .val (.int (own_b b1)), .val (.int (own_b b2)), .val (.int (own_b b3)), .val (.long ex), .second, .val (.long ac), .second, .val (.ref b6), .val (.int (own_b eN)), .val (.int (own_b eO)), .val (.int (own_b ea)), .val (.int (own_b eN)), .val (.int (own_b false)), .val (.int (own_b eO)), .val (.int (own_b eT)), .val (.int (own_b eA)), .unset, .unset] [(.int (lcmpW (0 : Int64) ac))])) _
          by_cases h265 : 0 < ac.toInt
          · refine XS.ifYes X46.here hx rfl (pc0 := 265) (pc' := 272) rfl (hb hby at_265) rfl ((if0 _ _).trans (tlt ((lw_lt (0 : Int64) ac).mpr (show (0 : Int64) < ac from Int64.lt_iff_toInt_lt.mpr h265))).1) (by decide) (by decide) ?_
            show Steps p.tables e below (T46.setTop (mkF m 272 #[.val (.int p1), .val (.int p2), .val (.int p3), .val (.int p4), .val (.int n), .val (.int nd), .val (.int ot), .val (.int (own_b b1)), .val (.int (own_b b2)), .val (.int (own_b b3)), .val (.long ex), .second, .val (.long ac), .second, .val (.ref b6), .val (.int (own_b eN)), .val (.int (own_b eO)), .val (.int (own_b ea)), .val (.int (own_b eN)), .val (.int (own_b false)), .val (.int (own_b eO)), .val (.int (own_b eT)), .val (.int (own_b eA)), .unset, .unset] [])) _
            refine XS.iconst X46.here hx rfl (hb hby at_272) ?_
            show Steps p.tables e below (T46.setTop (mkF m 273 #[.val (.int p1), .val (.int p2), .val (.int p3), .val (.int p4), .val (.int n), .val (.int nd), .val (.int ot), .val (.int (own_b b1)), .val (.int (own_b b2)), .val (.int (own_b b3)), .val (.long ex), .second, .val (.long ac), .second, .val (.ref b6), .val (.int (own_b eN)), .val (.int (own_b eO)), .val (.int (own_b ea)), .val (.int (own_b eN)), .val (.int (own_b false)), .val (.int (own_b eO)), .val (.int (own_b eT)), .val (.int (own_b eA)), .unset, .unset] [(.int (0 : Int32))])) _
            refine XS.istore X46.here hx rfl (hb hby at_273) rfl (l' := #[.val (.int p1), .val (.int p2), .val (.int p3), .val (.int p4), .val (.int n), .val (.int nd), .val (.int ot), .val (.int (own_b b1)), .val (.int (own_b b2)), .val (.int (own_b b3)), .val (.long ex), .second, .val (.long ac), .second, .val (.ref b6), .val (.int (own_b eN)), .val (.int (own_b eO)), .val (.int (own_b ea)), .val (.int (own_b eN)), .val (.int (own_b false)), .val (.int (own_b eO)), .val (.int (own_b eT)), .val (.int (own_b eA)), .val (.int (0 : Int32)), .unset]) rfl ?_
            show Steps p.tables e below (T46.setTop (mkF m 275 #[.val (.int p1), .val (.int p2), .val (.int p3), .val (.int p4), .val (.int n), .val (.int nd), .val (.int ot), .val (.int (own_b b1)), .val (.int (own_b b2)), .val (.int (own_b b3)), .val (.long ex), .second, .val (.long ac), .second, .val (.ref b6), .val (.int (own_b eN)), .val (.int (own_b eO)), .val (.int (own_b ea)), .val (.int (own_b eN)), .val (.int (own_b false)), .val (.int (own_b eO)), .val (.int (own_b eT)), .val (.int (own_b eA)), .val (.int (0 : Int32)), .unset] [])) _
            have hv : own_b eA = (0 : Int32) := own_b0 (by rw [heA]; exact own_or2 h249 (by first | exact own_acc.1 h254 h265 | exact own_acc.2.2.1 h254 h265))
            rw [hv] at k ⊢
            exact k
          · refine XS.ifNo X46.here hx rfl (hb hby at_265) rfl ((if0 _ _).trans (flt (fun q => h265 (Int64.lt_iff_toInt_lt.mp ((lw_lt (0 : Int64) ac).mp q)))).1) ?_
            show Steps p.tables e below (T46.setTop (mkF m 268 #[.val (.int p1), .val (.int p2), .val (.int p3), .val (.int p4), .val (.int n), .val (.int nd), .val (.int ot), .val (.int (own_b b1)), .val (.int (own_b b2)), .val (.int (own_b b3)), .val (.long ex), .second, .val (.long ac), .second, .val (.ref b6), .val (.int (own_b eN)), .val (.int (own_b eO)), .val (.int (own_b ea)), .val (.int (own_b eN)), .val (.int (own_b false)), .val (.int (own_b eO)), .val (.int (own_b eT)), .val (.int (own_b eA)), .unset, .unset] [])) _
            refine XS.iconst X46.here hx rfl (hb hby at_268) ?_
            show Steps p.tables e below (T46.setTop (mkF m 269 #[.val (.int p1), .val (.int p2), .val (.int p3), .val (.int p4), .val (.int n), .val (.int nd), .val (.int ot), .val (.int (own_b b1)), .val (.int (own_b b2)), .val (.int (own_b b3)), .val (.long ex), .second, .val (.long ac), .second, .val (.ref b6), .val (.int (own_b eN)), .val (.int (own_b eO)), .val (.int (own_b ea)), .val (.int (own_b eN)), .val (.int (own_b false)), .val (.int (own_b eO)), .val (.int (own_b eT)), .val (.int (own_b eA)), .unset, .unset] [(.int (1 : Int32))])) _
            refine XS.goto X46.here hx rfl (pc0 := 269) (pc' := 273) rfl (hb hby at_269) (by decide) (by decide) ?_
            show Steps p.tables e below (T46.setTop (mkF m 273 #[.val (.int p1), .val (.int p2), .val (.int p3), .val (.int p4), .val (.int n), .val (.int nd), .val (.int ot), .val (.int (own_b b1)), .val (.int (own_b b2)), .val (.int (own_b b3)), .val (.long ex), .second, .val (.long ac), .second, .val (.ref b6), .val (.int (own_b eN)), .val (.int (own_b eO)), .val (.int (own_b ea)), .val (.int (own_b eN)), .val (.int (own_b false)), .val (.int (own_b eO)), .val (.int (own_b eT)), .val (.int (own_b eA)), .unset, .unset] [(.int (1 : Int32))])) _
            refine XS.istore X46.here hx rfl (hb hby at_273) rfl (l' := #[.val (.int p1), .val (.int p2), .val (.int p3), .val (.int p4), .val (.int n), .val (.int nd), .val (.int ot), .val (.int (own_b b1)), .val (.int (own_b b2)), .val (.int (own_b b3)), .val (.long ex), .second, .val (.long ac), .second, .val (.ref b6), .val (.int (own_b eN)), .val (.int (own_b eO)), .val (.int (own_b ea)), .val (.int (own_b eN)), .val (.int (own_b false)), .val (.int (own_b eO)), .val (.int (own_b eT)), .val (.int (own_b eA)), .val (.int (1 : Int32)), .unset]) rfl ?_
            show Steps p.tables e below (T46.setTop (mkF m 275 #[.val (.int p1), .val (.int p2), .val (.int p3), .val (.int p4), .val (.int n), .val (.int nd), .val (.int ot), .val (.int (own_b b1)), .val (.int (own_b b2)), .val (.int (own_b b3)), .val (.long ex), .second, .val (.long ac), .second, .val (.ref b6), .val (.int (own_b eN)), .val (.int (own_b eO)), .val (.int (own_b ea)), .val (.int (own_b eN)), .val (.int (own_b false)), .val (.int (own_b eO)), .val (.int (own_b eT)), .val (.int (own_b eA)), .val (.int (1 : Int32)), .unset] [])) _
            have hv : own_b eA = (1 : Int32) := own_b1 (by rw [heA]; exact own_or3 (by first | exact own_acc.2.1 h254 h265 | exact own_acc.2.2.2 h254 h265))
            rw [hv] at k ⊢
            exact k
        · refine XS.ifNo X46.here hx rfl (hb hby at_254) rfl ((if0 _ _).trans (feq (own_bn h254)).1) ?_
          show Steps p.tables e below (T46.setTop (mkF m 257 #[.val (.int p1), .val (.int p2), .val (.int p3), .val (.int p4), .val (.int n), .val (.int nd), .val (.int ot), .val (.int (own_b b1)), .val (.int (own_b b2)), .val (.int (own_b b3)), .val (.long ex), .second, .val (.long ac), .second, .val (.ref b6), .val (.int (own_b eN)), .val (.int (own_b eO)), .val (.int (own_b ea)), .val (.int (own_b eN)), .val (.int (own_b false)), .val (.int (own_b eO)), .val (.int (own_b eT)), .val (.int (own_b eA)), .unset, .unset] [])) _
          refine XS.lconst X46.here hx rfl (hb hby at_257) ?_
          show Steps p.tables e below (T46.setTop (mkF m 258 #[.val (.int p1), .val (.int p2), .val (.int p3), .val (.int p4), .val (.int n), .val (.int nd), .val (.int ot), .val (.int (own_b b1)), .val (.int (own_b b2)), .val (.int (own_b b3)), .val (.long ex), .second, .val (.long ac), .second, .val (.ref b6), .val (.int (own_b eN)), .val (.int (own_b eO)), .val (.int (own_b ea)), .val (.int (own_b eN)), .val (.int (own_b false)), .val (.int (own_b eO)), .val (.int (own_b eT)), .val (.int (own_b eA)), .unset, .unset] [(.long (1 : Int64))])) _
          refine XS.goto X46.here hx rfl (pc0 := 258) (pc' := 262) rfl (hb hby at_258) (by decide) (by decide) ?_
          show Steps p.tables e below (T46.setTop (mkF m 262 #[.val (.int p1), .val (.int p2), .val (.int p3), .val (.int p4), .val (.int n), .val (.int nd), .val (.int ot), .val (.int (own_b b1)), .val (.int (own_b b2)), .val (.int (own_b b3)), .val (.long ex), .second, .val (.long ac), .second, .val (.ref b6), .val (.int (own_b eN)), .val (.int (own_b eO)), .val (.int (own_b ea)), .val (.int (own_b eN)), .val (.int (own_b false)), .val (.int (own_b eO)), .val (.int (own_b eT)), .val (.int (own_b eA)), .unset, .unset] [(.long (1 : Int64))])) _
          refine XS.lload X46.here hx rfl (hb hby at_262) rfl ?_
          show Steps p.tables e below (T46.setTop (mkF m 264 #[.val (.int p1), .val (.int p2), .val (.int p3), .val (.int p4), .val (.int n), .val (.int nd), .val (.int ot), .val (.int (own_b b1)), .val (.int (own_b b2)), .val (.int (own_b b3)), .val (.long ex), .second, .val (.long ac), .second, .val (.ref b6), .val (.int (own_b eN)), .val (.int (own_b eO)), .val (.int (own_b ea)), .val (.int (own_b eN)), .val (.int (own_b false)), .val (.int (own_b eO)), .val (.int (own_b eT)), .val (.int (own_b eA)), .unset, .unset] [(.long ac), (.long (1 : Int64))])) _
          refine XS.lcmp X46.here hx rfl (hb hby at_264) rfl ?_
          show Steps p.tables e below (T46.setTop (mkF m 265 #[.val (.int p1), .val (.int p2), .val (.int p3), .val (.int p4), .val (.int n), .val (.int nd), .val (.int ot), .val (.int (own_b b1)), .val (.int (own_b b2)), .val (.int (own_b b3)), .val (.long ex), .second, .val (.long ac), .second, .val (.ref b6), .val (.int (own_b eN)), .val (.int (own_b eO)), .val (.int (own_b ea)), .val (.int (own_b eN)), .val (.int (own_b false)), .val (.int (own_b eO)), .val (.int (own_b eT)), .val (.int (own_b eA)), .unset, .unset] [(.int (lcmpW (1 : Int64) ac))])) _
          by_cases h265 : 1 < ac.toInt
          · refine XS.ifYes X46.here hx rfl (pc0 := 265) (pc' := 272) rfl (hb hby at_265) rfl ((if0 _ _).trans (tlt ((lw_lt (1 : Int64) ac).mpr (show (1 : Int64) < ac from Int64.lt_iff_toInt_lt.mpr h265))).1) (by decide) (by decide) ?_
            show Steps p.tables e below (T46.setTop (mkF m 272 #[.val (.int p1), .val (.int p2), .val (.int p3), .val (.int p4), .val (.int n), .val (.int nd), .val (.int ot), .val (.int (own_b b1)), .val (.int (own_b b2)), .val (.int (own_b b3)), .val (.long ex), .second, .val (.long ac), .second, .val (.ref b6), .val (.int (own_b eN)), .val (.int (own_b eO)), .val (.int (own_b ea)), .val (.int (own_b eN)), .val (.int (own_b false)), .val (.int (own_b eO)), .val (.int (own_b eT)), .val (.int (own_b eA)), .unset, .unset] [])) _
            refine XS.iconst X46.here hx rfl (hb hby at_272) ?_
            show Steps p.tables e below (T46.setTop (mkF m 273 #[.val (.int p1), .val (.int p2), .val (.int p3), .val (.int p4), .val (.int n), .val (.int nd), .val (.int ot), .val (.int (own_b b1)), .val (.int (own_b b2)), .val (.int (own_b b3)), .val (.long ex), .second, .val (.long ac), .second, .val (.ref b6), .val (.int (own_b eN)), .val (.int (own_b eO)), .val (.int (own_b ea)), .val (.int (own_b eN)), .val (.int (own_b false)), .val (.int (own_b eO)), .val (.int (own_b eT)), .val (.int (own_b eA)), .unset, .unset] [(.int (0 : Int32))])) _
            refine XS.istore X46.here hx rfl (hb hby at_273) rfl (l' := #[.val (.int p1), .val (.int p2), .val (.int p3), .val (.int p4), .val (.int n), .val (.int nd), .val (.int ot), .val (.int (own_b b1)), .val (.int (own_b b2)), .val (.int (own_b b3)), .val (.long ex), .second, .val (.long ac), .second, .val (.ref b6), .val (.int (own_b eN)), .val (.int (own_b eO)), .val (.int (own_b ea)), .val (.int (own_b eN)), .val (.int (own_b false)), .val (.int (own_b eO)), .val (.int (own_b eT)), .val (.int (own_b eA)), .val (.int (0 : Int32)), .unset]) rfl ?_
            show Steps p.tables e below (T46.setTop (mkF m 275 #[.val (.int p1), .val (.int p2), .val (.int p3), .val (.int p4), .val (.int n), .val (.int nd), .val (.int ot), .val (.int (own_b b1)), .val (.int (own_b b2)), .val (.int (own_b b3)), .val (.long ex), .second, .val (.long ac), .second, .val (.ref b6), .val (.int (own_b eN)), .val (.int (own_b eO)), .val (.int (own_b ea)), .val (.int (own_b eN)), .val (.int (own_b false)), .val (.int (own_b eO)), .val (.int (own_b eT)), .val (.int (own_b eA)), .val (.int (0 : Int32)), .unset] [])) _
            have hv : own_b eA = (0 : Int32) := own_b0 (by rw [heA]; exact own_or2 h249 (by first | exact own_acc.1 h254 h265 | exact own_acc.2.2.1 h254 h265))
            rw [hv] at k ⊢
            exact k
          · refine XS.ifNo X46.here hx rfl (hb hby at_265) rfl ((if0 _ _).trans (flt (fun q => h265 (Int64.lt_iff_toInt_lt.mp ((lw_lt (1 : Int64) ac).mp q)))).1) ?_
            show Steps p.tables e below (T46.setTop (mkF m 268 #[.val (.int p1), .val (.int p2), .val (.int p3), .val (.int p4), .val (.int n), .val (.int nd), .val (.int ot), .val (.int (own_b b1)), .val (.int (own_b b2)), .val (.int (own_b b3)), .val (.long ex), .second, .val (.long ac), .second, .val (.ref b6), .val (.int (own_b eN)), .val (.int (own_b eO)), .val (.int (own_b ea)), .val (.int (own_b eN)), .val (.int (own_b false)), .val (.int (own_b eO)), .val (.int (own_b eT)), .val (.int (own_b eA)), .unset, .unset] [])) _
            refine XS.iconst X46.here hx rfl (hb hby at_268) ?_
            show Steps p.tables e below (T46.setTop (mkF m 269 #[.val (.int p1), .val (.int p2), .val (.int p3), .val (.int p4), .val (.int n), .val (.int nd), .val (.int ot), .val (.int (own_b b1)), .val (.int (own_b b2)), .val (.int (own_b b3)), .val (.long ex), .second, .val (.long ac), .second, .val (.ref b6), .val (.int (own_b eN)), .val (.int (own_b eO)), .val (.int (own_b ea)), .val (.int (own_b eN)), .val (.int (own_b false)), .val (.int (own_b eO)), .val (.int (own_b eT)), .val (.int (own_b eA)), .unset, .unset] [(.int (1 : Int32))])) _
            refine XS.goto X46.here hx rfl (pc0 := 269) (pc' := 273) rfl (hb hby at_269) (by decide) (by decide) ?_
            show Steps p.tables e below (T46.setTop (mkF m 273 #[.val (.int p1), .val (.int p2), .val (.int p3), .val (.int p4), .val (.int n), .val (.int nd), .val (.int ot), .val (.int (own_b b1)), .val (.int (own_b b2)), .val (.int (own_b b3)), .val (.long ex), .second, .val (.long ac), .second, .val (.ref b6), .val (.int (own_b eN)), .val (.int (own_b eO)), .val (.int (own_b ea)), .val (.int (own_b eN)), .val (.int (own_b false)), .val (.int (own_b eO)), .val (.int (own_b eT)), .val (.int (own_b eA)), .unset, .unset] [(.int (1 : Int32))])) _
            refine XS.istore X46.here hx rfl (hb hby at_273) rfl (l' := #[.val (.int p1), .val (.int p2), .val (.int p3), .val (.int p4), .val (.int n), .val (.int nd), .val (.int ot), .val (.int (own_b b1)), .val (.int (own_b b2)), .val (.int (own_b b3)), .val (.long ex), .second, .val (.long ac), .second, .val (.ref b6), .val (.int (own_b eN)), .val (.int (own_b eO)), .val (.int (own_b ea)), .val (.int (own_b eN)), .val (.int (own_b false)), .val (.int (own_b eO)), .val (.int (own_b eT)), .val (.int (own_b eA)), .val (.int (1 : Int32)), .unset]) rfl ?_
            show Steps p.tables e below (T46.setTop (mkF m 275 #[.val (.int p1), .val (.int p2), .val (.int p3), .val (.int p4), .val (.int n), .val (.int nd), .val (.int ot), .val (.int (own_b b1)), .val (.int (own_b b2)), .val (.int (own_b b3)), .val (.long ex), .second, .val (.long ac), .second, .val (.ref b6), .val (.int (own_b eN)), .val (.int (own_b eO)), .val (.int (own_b ea)), .val (.int (own_b eN)), .val (.int (own_b false)), .val (.int (own_b eO)), .val (.int (own_b eT)), .val (.int (own_b eA)), .val (.int (1 : Int32)), .unset] [])) _
            have hv : own_b eA = (1 : Int32) := own_b1 (by rw [heA]; exact own_or3 (by first | exact own_acc.2.1 h254 h265 | exact own_acc.2.2.2 h254 h265))
            rw [hv] at k ⊢
            exact k
      · refine XS.ifYes X46.here hx rfl (pc0 := 249) (pc' := 268) rfl (hb hby at_249) rfl ((if0 _ _).trans (feq (own_bn h249)).2) (by decide) (by decide) ?_
        show Steps p.tables e below (T46.setTop (mkF m 268 #[.val (.int p1), .val (.int p2), .val (.int p3), .val (.int p4), .val (.int n), .val (.int nd), .val (.int ot), .val (.int (own_b b1)), .val (.int (own_b b2)), .val (.int (own_b b3)), .val (.long ex), .second, .val (.long ac), .second, .val (.ref b6), .val (.int (own_b eN)), .val (.int (own_b eO)), .val (.int (own_b ea)), .val (.int (own_b eN)), .val (.int (own_b false)), .val (.int (own_b eO)), .val (.int (own_b eT)), .val (.int (own_b eA)), .unset, .unset] [])) _
        refine XS.iconst X46.here hx rfl (hb hby at_268) ?_
        show Steps p.tables e below (T46.setTop (mkF m 269 #[.val (.int p1), .val (.int p2), .val (.int p3), .val (.int p4), .val (.int n), .val (.int nd), .val (.int ot), .val (.int (own_b b1)), .val (.int (own_b b2)), .val (.int (own_b b3)), .val (.long ex), .second, .val (.long ac), .second, .val (.ref b6), .val (.int (own_b eN)), .val (.int (own_b eO)), .val (.int (own_b ea)), .val (.int (own_b eN)), .val (.int (own_b false)), .val (.int (own_b eO)), .val (.int (own_b eT)), .val (.int (own_b eA)), .unset, .unset] [(.int (1 : Int32))])) _
        refine XS.goto X46.here hx rfl (pc0 := 269) (pc' := 273) rfl (hb hby at_269) (by decide) (by decide) ?_
        show Steps p.tables e below (T46.setTop (mkF m 273 #[.val (.int p1), .val (.int p2), .val (.int p3), .val (.int p4), .val (.int n), .val (.int nd), .val (.int ot), .val (.int (own_b b1)), .val (.int (own_b b2)), .val (.int (own_b b3)), .val (.long ex), .second, .val (.long ac), .second, .val (.ref b6), .val (.int (own_b eN)), .val (.int (own_b eO)), .val (.int (own_b ea)), .val (.int (own_b eN)), .val (.int (own_b false)), .val (.int (own_b eO)), .val (.int (own_b eT)), .val (.int (own_b eA)), .unset, .unset] [(.int (1 : Int32))])) _
        refine XS.istore X46.here hx rfl (hb hby at_273) rfl (l' := #[.val (.int p1), .val (.int p2), .val (.int p3), .val (.int p4), .val (.int n), .val (.int nd), .val (.int ot), .val (.int (own_b b1)), .val (.int (own_b b2)), .val (.int (own_b b3)), .val (.long ex), .second, .val (.long ac), .second, .val (.ref b6), .val (.int (own_b eN)), .val (.int (own_b eO)), .val (.int (own_b ea)), .val (.int (own_b eN)), .val (.int (own_b false)), .val (.int (own_b eO)), .val (.int (own_b eT)), .val (.int (own_b eA)), .val (.int (1 : Int32)), .unset]) rfl ?_
        show Steps p.tables e below (T46.setTop (mkF m 275 #[.val (.int p1), .val (.int p2), .val (.int p3), .val (.int p4), .val (.int n), .val (.int nd), .val (.int ot), .val (.int (own_b b1)), .val (.int (own_b b2)), .val (.int (own_b b3)), .val (.long ex), .second, .val (.long ac), .second, .val (.ref b6), .val (.int (own_b eN)), .val (.int (own_b eO)), .val (.int (own_b ea)), .val (.int (own_b eN)), .val (.int (own_b false)), .val (.int (own_b eO)), .val (.int (own_b eT)), .val (.int (own_b eA)), .val (.int (1 : Int32)), .unset] [])) _
        have hv : own_b eA = (1 : Int32) := own_b1 (by rw [heA]; exact own_or1 h249)
        rw [hv] at k ⊢
        exact k)
  have go50 : ∀ t, Steps p.tables e below (T46.setTop (mkF m 294 #[.val (.int p1), .val (.int p2), .val (.int p3), .val (.int p4), .val (.int n), .val (.int nd), .val (.int ot), .val (.int (own_b b1)), .val (.int (own_b b2)), .val (.int (own_b b3)), .val (.long ex), .second, .val (.long ac), .second, .val (.ref b6), .val (.int (own_b eN)), .val (.int (own_b eO)), .val (.int (own_b ea)), .val (.int (own_b eN)), .val (.int (own_b false)), .val (.int (own_b eO)), .val (.int (own_b eT)), .val (.int (own_b eA)), .val (.int (own_b eA)), .val (.int (own_b eT))] [])) t → G t := fun t k => go49 t (by
      show Steps p.tables e below (T46.setTop (mkF m 275 #[.val (.int p1), .val (.int p2), .val (.int p3), .val (.int p4), .val (.int n), .val (.int nd), .val (.int ot), .val (.int (own_b b1)), .val (.int (own_b b2)), .val (.int (own_b b3)), .val (.long ex), .second, .val (.long ac), .second, .val (.ref b6), .val (.int (own_b eN)), .val (.int (own_b eO)), .val (.int (own_b ea)), .val (.int (own_b eN)), .val (.int (own_b false)), .val (.int (own_b eO)), .val (.int (own_b eT)), .val (.int (own_b eA)), .val (.int (own_b eA)), .unset] [])) _
      refine XS.iload X46.here hx rfl (hb hby at_275) rfl ?_
      show Steps p.tables e below (T46.setTop (mkF m 277 #[.val (.int p1), .val (.int p2), .val (.int p3), .val (.int p4), .val (.int n), .val (.int nd), .val (.int ot), .val (.int (own_b b1)), .val (.int (own_b b2)), .val (.int (own_b b3)), .val (.long ex), .second, .val (.long ac), .second, .val (.ref b6), .val (.int (own_b eN)), .val (.int (own_b eO)), .val (.int (own_b ea)), .val (.int (own_b eN)), .val (.int (own_b false)), .val (.int (own_b eO)), .val (.int (own_b eT)), .val (.int (own_b eA)), .val (.int (own_b eA)), .unset] [(.int (own_b eN))])) _
      by_cases h277 : eN = false
      · refine XS.ifNo X46.here hx rfl (hb hby at_277) rfl ((if0 _ _).trans (teq (own_b0 h277)).2) ?_
        show Steps p.tables e below (T46.setTop (mkF m 280 #[.val (.int p1), .val (.int p2), .val (.int p3), .val (.int p4), .val (.int n), .val (.int nd), .val (.int ot), .val (.int (own_b b1)), .val (.int (own_b b2)), .val (.int (own_b b3)), .val (.long ex), .second, .val (.long ac), .second, .val (.ref b6), .val (.int (own_b eN)), .val (.int (own_b eO)), .val (.int (own_b ea)), .val (.int (own_b eN)), .val (.int (own_b false)), .val (.int (own_b eO)), .val (.int (own_b eT)), .val (.int (own_b eA)), .val (.int (own_b eA)), .unset] [])) _
        refine XS.lload X46.here hx rfl (hb hby at_280) rfl ?_
        show Steps p.tables e below (T46.setTop (mkF m 282 #[.val (.int p1), .val (.int p2), .val (.int p3), .val (.int p4), .val (.int n), .val (.int nd), .val (.int ot), .val (.int (own_b b1)), .val (.int (own_b b2)), .val (.int (own_b b3)), .val (.long ex), .second, .val (.long ac), .second, .val (.ref b6), .val (.int (own_b eN)), .val (.int (own_b eO)), .val (.int (own_b ea)), .val (.int (own_b eN)), .val (.int (own_b false)), .val (.int (own_b eO)), .val (.int (own_b eT)), .val (.int (own_b eA)), .val (.int (own_b eA)), .unset] [(.long ex)])) _
        refine XS.lconst X46.here hx rfl (hb hby at_282) ?_
        show Steps p.tables e below (T46.setTop (mkF m 283 #[.val (.int p1), .val (.int p2), .val (.int p3), .val (.int p4), .val (.int n), .val (.int nd), .val (.int ot), .val (.int (own_b b1)), .val (.int (own_b b2)), .val (.int (own_b b3)), .val (.long ex), .second, .val (.long ac), .second, .val (.ref b6), .val (.int (own_b eN)), .val (.int (own_b eO)), .val (.int (own_b ea)), .val (.int (own_b eN)), .val (.int (own_b false)), .val (.int (own_b eO)), .val (.int (own_b eT)), .val (.int (own_b eA)), .val (.int (own_b eA)), .unset] [(.long (0 : Int64)), (.long ex)])) _
        refine XS.lcmp X46.here hx rfl (hb hby at_283) rfl ?_
        show Steps p.tables e below (T46.setTop (mkF m 284 #[.val (.int p1), .val (.int p2), .val (.int p3), .val (.int p4), .val (.int n), .val (.int nd), .val (.int ot), .val (.int (own_b b1)), .val (.int (own_b b2)), .val (.int (own_b b3)), .val (.long ex), .second, .val (.long ac), .second, .val (.ref b6), .val (.int (own_b eN)), .val (.int (own_b eO)), .val (.int (own_b ea)), .val (.int (own_b eN)), .val (.int (own_b false)), .val (.int (own_b eO)), .val (.int (own_b eT)), .val (.int (own_b eA)), .val (.int (own_b eA)), .unset] [(.int (lcmpW ex (0 : Int64)))])) _
        by_cases h284 : 0 < ex.toInt
        · refine XS.ifYes X46.here hx rfl (pc0 := 284) (pc' := 291) rfl (hb hby at_284) rfl ((if0 _ _).trans (tlt ((lw_gt ex (0 : Int64)).mpr (show (0 : Int64) < ex from Int64.lt_iff_toInt_lt.mpr h284))).2.2.1) (by decide) (by decide) ?_
          show Steps p.tables e below (T46.setTop (mkF m 291 #[.val (.int p1), .val (.int p2), .val (.int p3), .val (.int p4), .val (.int n), .val (.int nd), .val (.int ot), .val (.int (own_b b1)), .val (.int (own_b b2)), .val (.int (own_b b3)), .val (.long ex), .second, .val (.long ac), .second, .val (.ref b6), .val (.int (own_b eN)), .val (.int (own_b eO)), .val (.int (own_b ea)), .val (.int (own_b eN)), .val (.int (own_b false)), .val (.int (own_b eO)), .val (.int (own_b eT)), .val (.int (own_b eA)), .val (.int (own_b eA)), .unset] [])) _
          refine XS.iconst X46.here hx rfl (hb hby at_291) ?_
          show Steps p.tables e below (T46.setTop (mkF m 292 #[.val (.int p1), .val (.int p2), .val (.int p3), .val (.int p4), .val (.int n), .val (.int nd), .val (.int ot), .val (.int (own_b b1)), .val (.int (own_b b2)), .val (.int (own_b b3)), .val (.long ex), .second, .val (.long ac), .second, .val (.ref b6), .val (.int (own_b eN)), .val (.int (own_b eO)), .val (.int (own_b ea)), .val (.int (own_b eN)), .val (.int (own_b false)), .val (.int (own_b eO)), .val (.int (own_b eT)), .val (.int (own_b eA)), .val (.int (own_b eA)), .unset] [(.int (0 : Int32))])) _
          refine XS.istore X46.here hx rfl (hb hby at_292) rfl (l' := #[.val (.int p1), .val (.int p2), .val (.int p3), .val (.int p4), .val (.int n), .val (.int nd), .val (.int ot), .val (.int (own_b b1)), .val (.int (own_b b2)), .val (.int (own_b b3)), .val (.long ex), .second, .val (.long ac), .second, .val (.ref b6), .val (.int (own_b eN)), .val (.int (own_b eO)), .val (.int (own_b ea)), .val (.int (own_b eN)), .val (.int (own_b false)), .val (.int (own_b eO)), .val (.int (own_b eT)), .val (.int (own_b eA)), .val (.int (own_b eA)), .val (.int (0 : Int32))]) rfl ?_
          show Steps p.tables e below (T46.setTop (mkF m 294 #[.val (.int p1), .val (.int p2), .val (.int p3), .val (.int p4), .val (.int n), .val (.int nd), .val (.int ot), .val (.int (own_b b1)), .val (.int (own_b b2)), .val (.int (own_b b3)), .val (.long ex), .second, .val (.long ac), .second, .val (.ref b6), .val (.int (own_b eN)), .val (.int (own_b eO)), .val (.int (own_b ea)), .val (.int (own_b eN)), .val (.int (own_b false)), .val (.int (own_b eO)), .val (.int (own_b eT)), .val (.int (own_b eA)), .val (.int (own_b eA)), .val (.int (0 : Int32))] [])) _
          have hv : own_b eT = (0 : Int32) := own_b0 (by rw [heT, hxe]; exact own_and2 h284)
          rw [hv] at k ⊢
          exact k
        · refine XS.ifNo X46.here hx rfl (hb hby at_284) rfl ((if0 _ _).trans (flt (fun q => h284 (Int64.lt_iff_toInt_lt.mp ((lw_gt ex (0 : Int64)).mp q)))).2.2.1) ?_
          show Steps p.tables e below (T46.setTop (mkF m 287 #[.val (.int p1), .val (.int p2), .val (.int p3), .val (.int p4), .val (.int n), .val (.int nd), .val (.int ot), .val (.int (own_b b1)), .val (.int (own_b b2)), .val (.int (own_b b3)), .val (.long ex), .second, .val (.long ac), .second, .val (.ref b6), .val (.int (own_b eN)), .val (.int (own_b eO)), .val (.int (own_b ea)), .val (.int (own_b eN)), .val (.int (own_b false)), .val (.int (own_b eO)), .val (.int (own_b eT)), .val (.int (own_b eA)), .val (.int (own_b eA)), .unset] [])) _
          refine XS.iconst X46.here hx rfl (hb hby at_287) ?_
          show Steps p.tables e below (T46.setTop (mkF m 288 #[.val (.int p1), .val (.int p2), .val (.int p3), .val (.int p4), .val (.int n), .val (.int nd), .val (.int ot), .val (.int (own_b b1)), .val (.int (own_b b2)), .val (.int (own_b b3)), .val (.long ex), .second, .val (.long ac), .second, .val (.ref b6), .val (.int (own_b eN)), .val (.int (own_b eO)), .val (.int (own_b ea)), .val (.int (own_b eN)), .val (.int (own_b false)), .val (.int (own_b eO)), .val (.int (own_b eT)), .val (.int (own_b eA)), .val (.int (own_b eA)), .unset] [(.int (1 : Int32))])) _
          refine XS.goto X46.here hx rfl (pc0 := 288) (pc' := 292) rfl (hb hby at_288) (by decide) (by decide) ?_
          show Steps p.tables e below (T46.setTop (mkF m 292 #[.val (.int p1), .val (.int p2), .val (.int p3), .val (.int p4), .val (.int n), .val (.int nd), .val (.int ot), .val (.int (own_b b1)), .val (.int (own_b b2)), .val (.int (own_b b3)), .val (.long ex), .second, .val (.long ac), .second, .val (.ref b6), .val (.int (own_b eN)), .val (.int (own_b eO)), .val (.int (own_b ea)), .val (.int (own_b eN)), .val (.int (own_b false)), .val (.int (own_b eO)), .val (.int (own_b eT)), .val (.int (own_b eA)), .val (.int (own_b eA)), .unset] [(.int (1 : Int32))])) _
          refine XS.istore X46.here hx rfl (hb hby at_292) rfl (l' := #[.val (.int p1), .val (.int p2), .val (.int p3), .val (.int p4), .val (.int n), .val (.int nd), .val (.int ot), .val (.int (own_b b1)), .val (.int (own_b b2)), .val (.int (own_b b3)), .val (.long ex), .second, .val (.long ac), .second, .val (.ref b6), .val (.int (own_b eN)), .val (.int (own_b eO)), .val (.int (own_b ea)), .val (.int (own_b eN)), .val (.int (own_b false)), .val (.int (own_b eO)), .val (.int (own_b eT)), .val (.int (own_b eA)), .val (.int (own_b eA)), .val (.int (1 : Int32))]) rfl ?_
          show Steps p.tables e below (T46.setTop (mkF m 294 #[.val (.int p1), .val (.int p2), .val (.int p3), .val (.int p4), .val (.int n), .val (.int nd), .val (.int ot), .val (.int (own_b b1)), .val (.int (own_b b2)), .val (.int (own_b b3)), .val (.long ex), .second, .val (.long ac), .second, .val (.ref b6), .val (.int (own_b eN)), .val (.int (own_b eO)), .val (.int (own_b ea)), .val (.int (own_b eN)), .val (.int (own_b false)), .val (.int (own_b eO)), .val (.int (own_b eT)), .val (.int (own_b eA)), .val (.int (own_b eA)), .val (.int (1 : Int32))] [])) _
          have hv : own_b eT = (1 : Int32) := own_b1 (by rw [heT, hxe, h277]; exact own_and3 (b := !false) (by decide) h284)
          rw [hv] at k ⊢
          exact k
      · refine XS.ifYes X46.here hx rfl (pc0 := 277) (pc' := 291) rfl (hb hby at_277) rfl ((if0 _ _).trans (feq (own_bn h277)).2) (by decide) (by decide) ?_
        show Steps p.tables e below (T46.setTop (mkF m 291 #[.val (.int p1), .val (.int p2), .val (.int p3), .val (.int p4), .val (.int n), .val (.int nd), .val (.int ot), .val (.int (own_b b1)), .val (.int (own_b b2)), .val (.int (own_b b3)), .val (.long ex), .second, .val (.long ac), .second, .val (.ref b6), .val (.int (own_b eN)), .val (.int (own_b eO)), .val (.int (own_b ea)), .val (.int (own_b eN)), .val (.int (own_b false)), .val (.int (own_b eO)), .val (.int (own_b eT)), .val (.int (own_b eA)), .val (.int (own_b eA)), .unset] [])) _
        refine XS.iconst X46.here hx rfl (hb hby at_291) ?_
        show Steps p.tables e below (T46.setTop (mkF m 292 #[.val (.int p1), .val (.int p2), .val (.int p3), .val (.int p4), .val (.int n), .val (.int nd), .val (.int ot), .val (.int (own_b b1)), .val (.int (own_b b2)), .val (.int (own_b b3)), .val (.long ex), .second, .val (.long ac), .second, .val (.ref b6), .val (.int (own_b eN)), .val (.int (own_b eO)), .val (.int (own_b ea)), .val (.int (own_b eN)), .val (.int (own_b false)), .val (.int (own_b eO)), .val (.int (own_b eT)), .val (.int (own_b eA)), .val (.int (own_b eA)), .unset] [(.int (0 : Int32))])) _
        refine XS.istore X46.here hx rfl (hb hby at_292) rfl (l' := #[.val (.int p1), .val (.int p2), .val (.int p3), .val (.int p4), .val (.int n), .val (.int nd), .val (.int ot), .val (.int (own_b b1)), .val (.int (own_b b2)), .val (.int (own_b b3)), .val (.long ex), .second, .val (.long ac), .second, .val (.ref b6), .val (.int (own_b eN)), .val (.int (own_b eO)), .val (.int (own_b ea)), .val (.int (own_b eN)), .val (.int (own_b false)), .val (.int (own_b eO)), .val (.int (own_b eT)), .val (.int (own_b eA)), .val (.int (own_b eA)), .val (.int (0 : Int32))]) rfl ?_
        show Steps p.tables e below (T46.setTop (mkF m 294 #[.val (.int p1), .val (.int p2), .val (.int p3), .val (.int p4), .val (.int n), .val (.int nd), .val (.int ot), .val (.int (own_b b1)), .val (.int (own_b b2)), .val (.int (own_b b3)), .val (.long ex), .second, .val (.long ac), .second, .val (.ref b6), .val (.int (own_b eN)), .val (.int (own_b eO)), .val (.int (own_b ea)), .val (.int (own_b eN)), .val (.int (own_b false)), .val (.int (own_b eO)), .val (.int (own_b eT)), .val (.int (own_b eA)), .val (.int (own_b eA)), .val (.int (0 : Int32))] [])) _
        have hv : own_b eT = (0 : Int32) := own_b0 (by rw [heT, show eN = true by simpa using h277]; rfl)
        rw [hv] at k ⊢
        exact k)
  have go51 : ∀ t, Steps p.tables e below (T46.setTop (mkF m 332 #[.val (.int p1), .val (.int p2), .val (.int p3), .val (.int p4), .val (.int n), .val (.int nd), .val (.int ot), .val (.int (own_b b1)), .val (.int (own_b b2)), .val (.int (own_b b3)), .val (.long ex), .second, .val (.long ac), .second, .val (.ref b6), .val (.int (own_b eN)), .val (.int (own_b eO)), .val (.int (own_b ea)), .val (.int (own_b eN)), .val (.int (own_b false)), .val (.int (own_b eO)), .val (.int (own_b eT)), .val (.int (own_b eA)), .val (.int (own_b eA)), .val (.int (own_b eT))] [(.int (1 : Int32))])) t → G t := fun t k => go50 t (by
      show Steps p.tables e below (T46.setTop (mkF m 294 #[.val (.int p1), .val (.int p2), .val (.int p3), .val (.int p4), .val (.int n), .val (.int nd), .val (.int ot), .val (.int (own_b b1)), .val (.int (own_b b2)), .val (.int (own_b b3)), .val (.long ex), .second, .val (.long ac), .second, .val (.ref b6), .val (.int (own_b eN)), .val (.int (own_b eO)), .val (.int (own_b ea)), .val (.int (own_b eN)), .val (.int (own_b false)), .val (.int (own_b eO)), .val (.int (own_b eT)), .val (.int (own_b eA)), .val (.int (own_b eA)), .val (.int (own_b eT))] [])) _
      refine XS.iload X46.here hx rfl (hb hby at_294) rfl ?_
      show Steps p.tables e below (T46.setTop (mkF m 296 #[.val (.int p1), .val (.int p2), .val (.int p3), .val (.int p4), .val (.int n), .val (.int nd), .val (.int ot), .val (.int (own_b b1)), .val (.int (own_b b2)), .val (.int (own_b b3)), .val (.long ex), .second, .val (.long ac), .second, .val (.ref b6), .val (.int (own_b eN)), .val (.int (own_b eO)), .val (.int (own_b ea)), .val (.int (own_b eN)), .val (.int (own_b false)), .val (.int (own_b eO)), .val (.int (own_b eT)), .val (.int (own_b eA)), .val (.int (own_b eA)), .val (.int (own_b eT))] [(.int (own_b eN))])) _
      refine XS.iload X46.here hx rfl (hb hby at_296) rfl ?_
      show Steps p.tables e below (T46.setTop (mkF m 298 #[.val (.int p1), .val (.int p2), .val (.int p3), .val (.int p4), .val (.int n), .val (.int nd), .val (.int ot), .val (.int (own_b b1)), .val (.int (own_b b2)), .val (.int (own_b b3)), .val (.long ex), .second, .val (.long ac), .second, .val (.ref b6), .val (.int (own_b eN)), .val (.int (own_b eO)), .val (.int (own_b ea)), .val (.int (own_b eN)), .val (.int (own_b false)), .val (.int (own_b eO)), .val (.int (own_b eT)), .val (.int (own_b eA)), .val (.int (own_b eA)), .val (.int (own_b eT))] [(.int (own_b eN)), (.int (own_b eN))])) _
      refine XS.icmpNo X46.here hx rfl (hb hby at_298) rfl (teq rfl).2 ?_
      show Steps p.tables e below (T46.setTop (mkF m 301 #[.val (.int p1), .val (.int p2), .val (.int p3), .val (.int p4), .val (.int n), .val (.int nd), .val (.int ot), .val (.int (own_b b1)), .val (.int (own_b b2)), .val (.int (own_b b3)), .val (.long ex), .second, .val (.long ac), .second, .val (.ref b6), .val (.int (own_b eN)), .val (.int (own_b eO)), .val (.int (own_b ea)), .val (.int (own_b eN)), .val (.int (own_b false)), .val (.int (own_b eO)), .val (.int (own_b eT)), .val (.int (own_b eA)), .val (.int (own_b eA)), .val (.int (own_b eT))] [])) _
      refine XS.iload X46.here hx rfl (hb hby at_301) rfl ?_
      show Steps p.tables e below (T46.setTop (mkF m 303 #[.val (.int p1), .val (.int p2), .val (.int p3), .val (.int p4), .val (.int n), .val (.int nd), .val (.int ot), .val (.int (own_b b1)), .val (.int (own_b b2)), .val (.int (own_b b3)), .val (.long ex), .second, .val (.long ac), .second, .val (.ref b6), .val (.int (own_b eN)), .val (.int (own_b eO)), .val (.int (own_b ea)), .val (.int (own_b eN)), .val (.int (own_b false)), .val (.int (own_b eO)), .val (.int (own_b eT)), .val (.int (own_b eA)), .val (.int (own_b eA)), .val (.int (own_b eT))] [(.int (own_b false))])) _
      refine XS.ifNo X46.here hx rfl (hb hby at_303) rfl ((if0 _ _).trans (teq (own_b0 rfl)).2) ?_
      show Steps p.tables e below (T46.setTop (mkF m 306 #[.val (.int p1), .val (.int p2), .val (.int p3), .val (.int p4), .val (.int n), .val (.int nd), .val (.int ot), .val (.int (own_b b1)), .val (.int (own_b b2)), .val (.int (own_b b3)), .val (.long ex), .second, .val (.long ac), .second, .val (.ref b6), .val (.int (own_b eN)), .val (.int (own_b eO)), .val (.int (own_b ea)), .val (.int (own_b eN)), .val (.int (own_b false)), .val (.int (own_b eO)), .val (.int (own_b eT)), .val (.int (own_b eA)), .val (.int (own_b eA)), .val (.int (own_b eT))] [])) _
      refine XS.iload X46.here hx rfl (hb hby at_306) rfl ?_
      show Steps p.tables e below (T46.setTop (mkF m 308 #[.val (.int p1), .val (.int p2), .val (.int p3), .val (.int p4), .val (.int n), .val (.int nd), .val (.int ot), .val (.int (own_b b1)), .val (.int (own_b b2)), .val (.int (own_b b3)), .val (.long ex), .second, .val (.long ac), .second, .val (.ref b6), .val (.int (own_b eN)), .val (.int (own_b eO)), .val (.int (own_b ea)), .val (.int (own_b eN)), .val (.int (own_b false)), .val (.int (own_b eO)), .val (.int (own_b eT)), .val (.int (own_b eA)), .val (.int (own_b eA)), .val (.int (own_b eT))] [(.int (own_b eO))])) _
      refine XS.iload X46.here hx rfl (hb hby at_308) rfl ?_
      show Steps p.tables e below (T46.setTop (mkF m 310 #[.val (.int p1), .val (.int p2), .val (.int p3), .val (.int p4), .val (.int n), .val (.int nd), .val (.int ot), .val (.int (own_b b1)), .val (.int (own_b b2)), .val (.int (own_b b3)), .val (.long ex), .second, .val (.long ac), .second, .val (.ref b6), .val (.int (own_b eN)), .val (.int (own_b eO)), .val (.int (own_b ea)), .val (.int (own_b eN)), .val (.int (own_b false)), .val (.int (own_b eO)), .val (.int (own_b eT)), .val (.int (own_b eA)), .val (.int (own_b eA)), .val (.int (own_b eT))] [(.int (own_b eO)), (.int (own_b eO))])) _
      refine XS.icmpNo X46.here hx rfl (hb hby at_310) rfl (teq rfl).2 ?_
      show Steps p.tables e below (T46.setTop (mkF m 313 #[.val (.int p1), .val (.int p2), .val (.int p3), .val (.int p4), .val (.int n), .val (.int nd), .val (.int ot), .val (.int (own_b b1)), .val (.int (own_b b2)), .val (.int (own_b b3)), .val (.long ex), .second, .val (.long ac), .second, .val (.ref b6), .val (.int (own_b eN)), .val (.int (own_b eO)), .val (.int (own_b ea)), .val (.int (own_b eN)), .val (.int (own_b false)), .val (.int (own_b eO)), .val (.int (own_b eT)), .val (.int (own_b eA)), .val (.int (own_b eA)), .val (.int (own_b eT))] [])) _
      refine XS.iload X46.here hx rfl (hb hby at_313) rfl ?_
      show Steps p.tables e below (T46.setTop (mkF m 315 #[.val (.int p1), .val (.int p2), .val (.int p3), .val (.int p4), .val (.int n), .val (.int nd), .val (.int ot), .val (.int (own_b b1)), .val (.int (own_b b2)), .val (.int (own_b b3)), .val (.long ex), .second, .val (.long ac), .second, .val (.ref b6), .val (.int (own_b eN)), .val (.int (own_b eO)), .val (.int (own_b ea)), .val (.int (own_b eN)), .val (.int (own_b false)), .val (.int (own_b eO)), .val (.int (own_b eT)), .val (.int (own_b eA)), .val (.int (own_b eA)), .val (.int (own_b eT))] [(.int (own_b eT))])) _
      refine XS.iload X46.here hx rfl (hb hby at_315) rfl ?_
      show Steps p.tables e below (T46.setTop (mkF m 317 #[.val (.int p1), .val (.int p2), .val (.int p3), .val (.int p4), .val (.int n), .val (.int nd), .val (.int ot), .val (.int (own_b b1)), .val (.int (own_b b2)), .val (.int (own_b b3)), .val (.long ex), .second, .val (.long ac), .second, .val (.ref b6), .val (.int (own_b eN)), .val (.int (own_b eO)), .val (.int (own_b ea)), .val (.int (own_b eN)), .val (.int (own_b false)), .val (.int (own_b eO)), .val (.int (own_b eT)), .val (.int (own_b eA)), .val (.int (own_b eA)), .val (.int (own_b eT))] [(.int (own_b eT)), (.int (own_b eT))])) _
      refine XS.icmpNo X46.here hx rfl (hb hby at_317) rfl (teq rfl).2 ?_
      show Steps p.tables e below (T46.setTop (mkF m 320 #[.val (.int p1), .val (.int p2), .val (.int p3), .val (.int p4), .val (.int n), .val (.int nd), .val (.int ot), .val (.int (own_b b1)), .val (.int (own_b b2)), .val (.int (own_b b3)), .val (.long ex), .second, .val (.long ac), .second, .val (.ref b6), .val (.int (own_b eN)), .val (.int (own_b eO)), .val (.int (own_b ea)), .val (.int (own_b eN)), .val (.int (own_b false)), .val (.int (own_b eO)), .val (.int (own_b eT)), .val (.int (own_b eA)), .val (.int (own_b eA)), .val (.int (own_b eT))] [])) _
      refine XS.iload X46.here hx rfl (hb hby at_320) rfl ?_
      show Steps p.tables e below (T46.setTop (mkF m 322 #[.val (.int p1), .val (.int p2), .val (.int p3), .val (.int p4), .val (.int n), .val (.int nd), .val (.int ot), .val (.int (own_b b1)), .val (.int (own_b b2)), .val (.int (own_b b3)), .val (.long ex), .second, .val (.long ac), .second, .val (.ref b6), .val (.int (own_b eN)), .val (.int (own_b eO)), .val (.int (own_b ea)), .val (.int (own_b eN)), .val (.int (own_b false)), .val (.int (own_b eO)), .val (.int (own_b eT)), .val (.int (own_b eA)), .val (.int (own_b eA)), .val (.int (own_b eT))] [(.int (own_b eA))])) _
      refine XS.iload X46.here hx rfl (hb hby at_322) rfl ?_
      show Steps p.tables e below (T46.setTop (mkF m 324 #[.val (.int p1), .val (.int p2), .val (.int p3), .val (.int p4), .val (.int n), .val (.int nd), .val (.int ot), .val (.int (own_b b1)), .val (.int (own_b b2)), .val (.int (own_b b3)), .val (.long ex), .second, .val (.long ac), .second, .val (.ref b6), .val (.int (own_b eN)), .val (.int (own_b eO)), .val (.int (own_b ea)), .val (.int (own_b eN)), .val (.int (own_b false)), .val (.int (own_b eO)), .val (.int (own_b eT)), .val (.int (own_b eA)), .val (.int (own_b eA)), .val (.int (own_b eT))] [(.int (own_b eA)), (.int (own_b eA))])) _
      refine XS.icmpNo X46.here hx rfl (hb hby at_324) rfl (teq rfl).2 ?_
      show Steps p.tables e below (T46.setTop (mkF m 327 #[.val (.int p1), .val (.int p2), .val (.int p3), .val (.int p4), .val (.int n), .val (.int nd), .val (.int ot), .val (.int (own_b b1)), .val (.int (own_b b2)), .val (.int (own_b b3)), .val (.long ex), .second, .val (.long ac), .second, .val (.ref b6), .val (.int (own_b eN)), .val (.int (own_b eO)), .val (.int (own_b ea)), .val (.int (own_b eN)), .val (.int (own_b false)), .val (.int (own_b eO)), .val (.int (own_b eT)), .val (.int (own_b eA)), .val (.int (own_b eA)), .val (.int (own_b eT))] [])) _
      refine XS.iconst X46.here hx rfl (hb hby at_327) ?_
      show Steps p.tables e below (T46.setTop (mkF m 328 #[.val (.int p1), .val (.int p2), .val (.int p3), .val (.int p4), .val (.int n), .val (.int nd), .val (.int ot), .val (.int (own_b b1)), .val (.int (own_b b2)), .val (.int (own_b b3)), .val (.long ex), .second, .val (.long ac), .second, .val (.ref b6), .val (.int (own_b eN)), .val (.int (own_b eO)), .val (.int (own_b ea)), .val (.int (own_b eN)), .val (.int (own_b false)), .val (.int (own_b eO)), .val (.int (own_b eT)), .val (.int (own_b eA)), .val (.int (own_b eA)), .val (.int (own_b eT))] [(.int (1 : Int32))])) _
      refine XS.goto X46.here hx rfl (pc0 := 328) (pc' := 332) rfl (hb hby at_328) (by decide) (by decide) ?_
      show Steps p.tables e below (T46.setTop (mkF m 332 #[.val (.int p1), .val (.int p2), .val (.int p3), .val (.int p4), .val (.int n), .val (.int nd), .val (.int ot), .val (.int (own_b b1)), .val (.int (own_b b2)), .val (.int (own_b b3)), .val (.long ex), .second, .val (.long ac), .second, .val (.ref b6), .val (.int (own_b eN)), .val (.int (own_b eO)), .val (.int (own_b ea)), .val (.int (own_b eN)), .val (.int (own_b false)), .val (.int (own_b eO)), .val (.int (own_b eT)), .val (.int (own_b eA)), .val (.int (own_b eA)), .val (.int (own_b eT))] [(.int (1 : Int32))])) _
      exact k)
  obtain ⟨fs, hr, hrun, hended, hW, hsame⟩ := X46.leave (v := some (.int (1 : Int32))) (fun h => by rw [Bd.returns] at h; cases h)
  refine ⟨_, _, fin _ (go51 _ ?_), hrun, hended, _, _, rfl, ?_, ⟨_, rfl⟩, hW, hsame.mono (by decide) (by decide)⟩
  · exact retN X46 hx (t := .boolean) Bd.returns (by simp) (hb hby at_332) hr
  · show Q0 Z p1 p2 p3 p4 h0 n0 _ T46.heap _
    rw [q46]
    exact ⟨rfl, N46⟩
set_option maxRecDepth 65536 in
set_option maxHeartbeats 40000000 in
theorem comes_1 {Post : Tables → Env → Array Value → State → Outcome → State → Prop} (hpost : ∀ tb e args s v u, (limb_1_1.after args s (.returned v) u = true ∧ limb_1_2.after args s (.returned v) u = true ∧ True) → FrameEnd s (.returned v) u (Jvm.fieldLocs frame_1_writes args s ++ Jvm.arrayLocs frame_1_arrays args s ++ Jvm.staticLocs frame_1_statics s) 24 128 → Post tb e args s (.returned v) u) :
    ArmFor flags0 classFile x code maxLocals ret World_1 tables_1 room_1 Calls_1 rest_1 Pre_1 Post := by
  intro l hfl _ _ p e ha hc hk s m args below hf hA hF happ hP
  obtain ⟨hcalls, hrest, hpre⟩ := hP
  obtain ⟨-, -, -, hnamed, -, -, -, hat⟩ := (Spec.applies_iff hf).mp happ
  obtain ⟨hg, hn⟩ := and_e (Cond.before_iff.mp (show (Jvm.Cond.and given_1 narrow_1).before args s = true from hpre))
  obtain ⟨gc, gr0⟩ := and_e hg
  obtain ⟨ga0, gr1⟩ := and_e gr0
  obtain ⟨ga1, gr2⟩ := and_e gr1
  obtain ⟨ga2, gr3⟩ := and_e gr2
  obtain ⟨w0, w1, w2, w3, rfl⟩ : ∃ w0 w1 w2 w3 : Value, args = #[w0, w1, w2, w3] := by
    have hs : args.size = 4 := by simpa [Cond.value, given_1] using gc
    obtain ⟨L⟩ := args
    match L, hs with
    | [w0, w1, w2, w3], _ => exact ⟨w0, w1, w2, w3, rfl⟩
  have hw := fun d (hd : d ∈ tables_1) => atoms_spec (ws := Jvm.Cond.code x code maxLocals ret :: tables_1) hat d (List.mem_cons_of_mem _ hd)
  obtain ⟨i0, ei0⟩ := is_v ga0
  obtain rfl : w0 = (.int i0) := Option.some.inj ei0
  obtain ⟨i1, ei1⟩ := is_v ga1
  obtain rfl : w1 = (.int i1) := Option.some.inj ei1
  obtain ⟨i2, ei2⟩ := is_v ga2
  obtain rfl : w2 = (.int i2) := Option.some.inj ei2
  obtain ⟨i3, ei3⟩ := is_v gr3
  obtain rfl : w3 = (.int i3) := Option.some.inj ei3
  obtain ⟨n, o, h1, h2, h3, _, L, rfl, ⟨rfl, N⟩, hq⟩ := rm0 l s _ hw tables_1 i0 i1 i2 i3 s.heap s.heap.size (Nat.le_refl _) p e ha hc hk s m _ below hf ((Spec.applies_iff_loose hf).mp happ).1 ⟨rfl, State.Warmed39.refl s, rfl⟩ trivial
  refine ⟨n, _, h1, h2, h3, hpost _ _ _ _ _ _ ⟨Cond.after_iff.mpr rfl, Cond.after_iff.mpr (eq_i res_at (Term.int_eval (1)) rfl), trivial⟩ ⟨hq.1, hq.2.1, (hq.2.2.sift fun y hy => Or.inr (N y hy)).mono (by decide) (by decide)⟩⟩
theorem main_1_1 : Claimed_1_1 := comes_1 fun _ _ _ _ _ _ h hF => ⟨h.1, hF⟩
theorem main_1_2 : Claimed_1_2 := comes_1 fun _ _ _ _ _ _ h hF => ⟨h.2.1, hF⟩
end Jvm.Pilot.@@N@@
namespace Jvm.Pilot.@@N@@
open Jvm Jvm.ClassFile Sem Op Lib Jvm.Free Jvm.Stand Jvm.Pilot.@@N@@.Jvm.D
/-! MADE BY PROGRAM (witnessworld.py) out of the Statement's table words and the real class files: 14 classes; the members and pool entries that the words name. The judged class is class 1, her method 1. -/
namespace start1
open Jvm.ClassFile
def u (s : String) : CpInfo := .utf8 (stringToUtf16 s)
/-- a pool by its gaps: so many unusable entries, then the entry; so many at the end -/
def gap : Nat → List CpInfo → List CpInfo
  | 0, r => r
  | n + 1, r => .unusable :: gap n r
def poolList (es : List (Nat × CpInfo)) (last : Nat) : List CpInfo := es.foldr (fun e r => gap e.1 (e.2 :: r)) (gap last [])
def pool (es : List (Nat × CpInfo)) (last : Nat) : Array CpInfo := ⟨poolList es last⟩
def fileOf (pool : Array CpInfo) (this : Nat) (attrs : Array Attribute := #[]) (ms : Array MethodInfo := #[]) (fl : Nat := 33) (sup : Nat := 0) (ifs : Array Nat := #[]) (fds : Array FieldInfo := #[]) : ClassFile where
  minorVersion := 0
  majorVersion := 65
  constantPool := pool
  accessFlags := fl
  thisClass := this
  superClass := sup
  interfaces := ifs
  fields := fds
  methods := ms
  attributes := attrs
def plain (name : String) (sup : Option ClassId) : Class where
  name := name
  kind := .ordinary
  loader := none
  accessFlags := 33
  super := sup
  interfaces := #[]
  cf := none
  fields := #[]
  methods := #[]
  instanceTypes := #[]
  staticTypes := #[]
  resolved := #[]
  callSites := []
  init := .initialized
  statics := none
  mirror := none

def pool0 : Array CpInfo := pool [(5, u "<init>"), (0, u "()V"), (1, .class_ 10), (1, u "java/lang/Object")] 113

def k0c0 : Code := { maxStack := 0, maxLocals := 1, code := object_method_1_code, exceptionTable := #[], attributes := #[] }
def k0m0 : Method := { name := "<init>", desc := "()V", sig := { parameters := [], returnType := none }, accessFlags := 1, code := some k0c0 }
/-- java/lang/Object -/
def k0 : Class := { plain "java/lang/Object" none with
  accessFlags := 33
  interfaces := #[]
  cf := some (fileOf pool0 8 #[] #[{ accessFlags := 1, nameIndex := 5, descriptorIndex := 6, attributes := #[] }] 33 0 #[] #[])
  fields := #[]
  methods := #[k0m0]
  instanceTypes := #[]
  staticTypes := #[]
  resolved := Array.replicate 124 none
  statics := none }

def pool1 : Array CpInfo := pool [(2, .class_ 4), (1, u "java/lang/Object"), (0, u "<init>"), (0, u "()V"), (0, .integer 2147483647), (0, .long 2), (1, .class_ 11), (0, u "com/example/halfmesh/halfmesh/CompleteRelay"), (0, .methodref 10 13), (0, .nameAndType 5 14), (0, u "(II)V"), (0, .methodref 10 16), (0, .nameAndType 17 18), (0, u "initiate"), (0, u "(I)V"), (0, .methodref 10 20), (0, .nameAndType 21 6), (0, u "endRelays"), (0, .methodref 10 23), (0, .nameAndType 24 25), (0, u "relays"), (0, u "(I)Z"), (0, .methodref 10 27), (0, .nameAndType 28 25), (0, u "accepted"), (0, .class_ 30), (0, u "com/example/halfmesh/halfmesh/CompleteRelayRelaysPinLaw"), (2, u "law"), (0, u "(IIII)Z")] 3

def k1m0 : Method := { name := "<init>", desc := "()V", sig := { parameters := [], returnType := none }, accessFlags := 1, code := none }
def k1c1 : Code := { maxStack := 6, maxLocals := 25, code := code, exceptionTable := #[], attributes := #[] }
def k1m1 : Method := { name := "law", desc := "(IIII)Z", sig := { parameters := [.int, .int, .int, .int], returnType := some .boolean }, accessFlags := 9, code := some k1c1 }
/-- com/example/halfmesh/halfmesh/CompleteRelayRelaysPinLaw -/
def k1 : Class := { plain "com/example/halfmesh/halfmesh/CompleteRelayRelaysPinLaw" (some 0) with
  accessFlags := 49
  interfaces := #[]
  cf := some (fileOf pool1 29 #[] #[{ accessFlags := 1, nameIndex := 5, descriptorIndex := 6, attributes := #[] }, { accessFlags := 9, nameIndex := 33, descriptorIndex := 34, attributes := #[] }] 49 2 #[] #[])
  fields := #[]
  methods := #[k1m0, k1m1]
  instanceTypes := #[]
  staticTypes := #[]
  resolved := Array.replicate 38 none
  statics := none }

def pool2 : Array CpInfo := pool [(1, .methodref 2 3), (0, .class_ 4), (0, .nameAndType 5 6), (0, u "java/lang/Object"), (0, u "<init>"), (0, u "()V"), (0, .class_ 8), (0, u "java/util/BitSet"), (0, .methodref 7 3), (0, .fieldref 11 12), (0, .class_ 13), (0, .nameAndType 14 15), (0, u "com/example/halfmesh/halfmesh/CompleteRelay"), (0, u "heard"), (0, u "Ljava/util/BitSet;"), (0, .fieldref 11 17), (0, .nameAndType 18 19), (0, u "nodes"), (0, u "I"), (0, .long 2), (1, .fieldref 11 23), (0, .nameAndType 24 25), (0, u "excite"), (0, u "J"), (0, .fieldref 11 27), (0, .nameAndType 28 25), (0, u "accept"), (0, .fieldref 11 30), (0, .nameAndType 31 32), (0, u "excited"), (0, u "[Z"), (0, .fieldref 11 34), (0, .nameAndType 35 32), (0, u "relayed"), (0, .fieldref 11 37), (0, .nameAndType 38 32), (0, u "accepted"), (0, .fieldref 11 40), (0, .nameAndType 41 42), (0, u "heardFrom"), (0, u "[I"), (3, u "(I)Z"), (3, u "(I)V"), (0, u "(II)V"), (2, u "initiate"), (0, u "relays"), (2, u "endRelays")] 2

def k2c0 : Code := { maxStack := 7, maxLocals := 3, code := prog_38_method_1_code, exceptionTable := #[], attributes := #[] }
def k2m0 : Method := { name := "<init>", desc := "(II)V", sig := { parameters := [.int, .int], returnType := none }, accessFlags := 0, code := some k2c0 }
def k2c1 : Code := { maxStack := 3, maxLocals := 2, code := prog_38_method_2_code, exceptionTable := #[], attributes := #[] }
def k2m1 : Method := { name := "initiate", desc := "(I)V", sig := { parameters := [.int], returnType := none }, accessFlags := 0, code := some k2c1 }
def k2c2 : Code := { maxStack := 3, maxLocals := 2, code := prog_38_method_3_code, exceptionTable := #[], attributes := #[] }
def k2m2 : Method := { name := "relays", desc := "(I)Z", sig := { parameters := [.int], returnType := some .boolean }, accessFlags := 0, code := some k2c2 }
def k2c3 : Code := { maxStack := 4, maxLocals := 4, code := prog_38_method_5_code, exceptionTable := #[], attributes := #[] }
def k2m3 : Method := { name := "endRelays", desc := "()V", sig := { parameters := [], returnType := none }, accessFlags := 0, code := some k2c3 }
def k2c4 : Code := { maxStack := 2, maxLocals := 2, code := prog_38_method_6_code, exceptionTable := #[], attributes := #[] }
def k2m4 : Method := { name := "accepted", desc := "(I)Z", sig := { parameters := [.int], returnType := some .boolean }, accessFlags := 0, code := some k2c4 }
/-- com/example/halfmesh/halfmesh/CompleteRelay -/
def k2 : Class := { plain "com/example/halfmesh/halfmesh/CompleteRelay" (some 0) with
  accessFlags := 48
  interfaces := #[]
  cf := some (fileOf pool2 11 #[] #[{ accessFlags := 0, nameIndex := 5, descriptorIndex := 51, attributes := #[] }, { accessFlags := 0, nameIndex := 54, descriptorIndex := 50, attributes := #[] }, { accessFlags := 0, nameIndex := 55, descriptorIndex := 46, attributes := #[] }, { accessFlags := 0, nameIndex := 58, descriptorIndex := 6, attributes := #[] }, { accessFlags := 0, nameIndex := 38, descriptorIndex := 46, attributes := #[] }] 48 2 #[] #[{ accessFlags := 18, nameIndex := 18, descriptorIndex := 19, attributes := #[] }, { accessFlags := 18, nameIndex := 24, descriptorIndex := 25, attributes := #[] }, { accessFlags := 18, nameIndex := 28, descriptorIndex := 25, attributes := #[] }, { accessFlags := 18, nameIndex := 31, descriptorIndex := 32, attributes := #[] }, { accessFlags := 18, nameIndex := 35, descriptorIndex := 32, attributes := #[] }, { accessFlags := 18, nameIndex := 38, descriptorIndex := 32, attributes := #[] }, { accessFlags := 18, nameIndex := 41, descriptorIndex := 42, attributes := #[] }, { accessFlags := 18, nameIndex := 14, descriptorIndex := 15, attributes := #[] }])
  fields := #[{ name := "nodes", type := .int, accessFlags := 18, slot := 0, constantValue := 0 }, { name := "excite", type := .long, accessFlags := 18, slot := 1, constantValue := 0 }, { name := "accept", type := .long, accessFlags := 18, slot := 2, constantValue := 0 }, { name := "excited", type := (.array .boolean), accessFlags := 18, slot := 3, constantValue := 0 }, { name := "relayed", type := (.array .boolean), accessFlags := 18, slot := 4, constantValue := 0 }, { name := "accepted", type := (.array .boolean), accessFlags := 18, slot := 5, constantValue := 0 }, { name := "heardFrom", type := (.array .int), accessFlags := 18, slot := 6, constantValue := 0 }, { name := "heard", type := (.object "java/util/BitSet"), accessFlags := 18, slot := 7, constantValue := 0 }]
  methods := #[k2m0, k2m1, k2m2, k2m3, k2m4]
  instanceTypes := #[.int, .long, .long, (.array .boolean), (.array .boolean), (.array .boolean), (.array .int), (.object "java/util/BitSet")]
  staticTypes := #[]
  resolved := Array.replicate 61 none
  statics := none }

def pool3 : Array CpInfo := pool [(1, .class_ 2), (0, u "java/lang/Cloneable"), (0, .class_ 4), (0, u "java/lang/Object")] 2

/-- java/lang/Cloneable -/
def k3 : Class := { plain "java/lang/Cloneable" (some 0) with
  accessFlags := 1537
  interfaces := #[]
  cf := some (fileOf pool3 1 #[] #[] 1537 3 #[] #[])
  fields := #[]
  methods := #[]
  instanceTypes := #[]
  staticTypes := #[]
  resolved := Array.replicate 7 none
  statics := none }

def pool4 : Array CpInfo := pool [(1, .class_ 2), (0, u "java/io/Serializable"), (0, .class_ 4), (0, u "java/lang/Object")] 2

/-- java/io/Serializable -/
def k4 : Class := { plain "java/io/Serializable" (some 0) with
  accessFlags := 1537
  interfaces := #[]
  cf := some (fileOf pool4 1 #[] #[] 1537 3 #[] #[])
  fields := #[]
  methods := #[]
  instanceTypes := #[]
  staticTypes := #[]
  resolved := Array.replicate 7 none
  statics := none }

def pool5 : Array CpInfo := pool [(1, .class_ 2), (0, u "java/util/BitSet"), (2, u "$assertionsDisabled"), (0, u "Z"), (0, .fieldref 1 8), (0, .nameAndType 9 10), (0, u "wordsInUse"), (0, u "I"), (0, .fieldref 1 12), (0, .nameAndType 13 14), (0, u "words"), (0, u "[J"), (3, .nameAndType 19 20), (0, u "<init>"), (0, u "()V"), (0, .methodref 22 18), (0, .class_ 23), (0, u "java/lang/Object"), (0, .fieldref 1 25), (0, .nameAndType 26 6), (0, u "sizeIsSticky"), (0, .methodref 1 28), (0, .nameAndType 29 30), (0, u "initWords"), (0, u "(I)V"), (21, .methodref 1 53), (0, .nameAndType 54 55), (0, u "wordIndex"), (0, u "(I)I"), (213, .class_ 270), (0, u "java/util/BitSet$1BitSetSpliterator"), (22, u "serialPersistentFields"), (0, u "[Ljava/io/ObjectStreamField;"), (0, .class_ 296), (0, u "java/lang/Cloneable"), (0, .class_ 298), (0, u "java/io/Serializable"), (0, u "ADDRESS_BITS_PER_WORD"), (2, u "BITS_PER_WORD"), (1, u "BIT_INDEX_MASK"), (1, u "WORD_MASK"), (0, u "J"), (0, u "serialVersionUID")] 108

def k5c0 : Code := { maxStack := 2, maxLocals := 1, code := jdk_92_method_1_code, exceptionTable := #[], attributes := #[] }
def k5m0 : Method := { name := "wordIndex", desc := "(I)I", sig := { parameters := [.int], returnType := some .int }, accessFlags := 10, code := some k5c0 }
def k5c1 : Code := { maxStack := 2, maxLocals := 1, code := jdk_92_method_4_code, exceptionTable := #[], attributes := #[] }
def k5m1 : Method := { name := "<init>", desc := "()V", sig := { parameters := [], returnType := none }, accessFlags := 1, code := some k5c1 }
def k5c2 : Code := { maxStack := 3, maxLocals := 2, code := jdk_92_method_6_code, exceptionTable := #[], attributes := #[] }
def k5m2 : Method := { name := "initWords", desc := "(I)V", sig := { parameters := [.int], returnType := none }, accessFlags := 2, code := some k5c2 }
/-- java/util/BitSet -/
def k5 : Class := { plain "java/util/BitSet" (some 0) with
  accessFlags := 33
  interfaces := #[3, 4]
  cf := some (fileOf pool5 1 #[.nestMembers #[269]] #[{ accessFlags := 10, nameIndex := 54, descriptorIndex := 55, attributes := #[] }, { accessFlags := 1, nameIndex := 19, descriptorIndex := 20, attributes := #[] }, { accessFlags := 2, nameIndex := 29, descriptorIndex := 30, attributes := #[] }] 33 22 #[295, 297] #[{ accessFlags := 26, nameIndex := 299, descriptorIndex := 10, attributes := #[] }, { accessFlags := 26, nameIndex := 302, descriptorIndex := 10, attributes := #[] }, { accessFlags := 26, nameIndex := 304, descriptorIndex := 10, attributes := #[] }, { accessFlags := 26, nameIndex := 306, descriptorIndex := 307, attributes := #[] }, { accessFlags := 26, nameIndex := 293, descriptorIndex := 294, attributes := #[] }, { accessFlags := 2, nameIndex := 13, descriptorIndex := 14, attributes := #[] }, { accessFlags := 130, nameIndex := 9, descriptorIndex := 10, attributes := #[] }, { accessFlags := 130, nameIndex := 26, descriptorIndex := 6, attributes := #[] }, { accessFlags := 26, nameIndex := 308, descriptorIndex := 307, attributes := #[] }, { accessFlags := 4120, nameIndex := 5, descriptorIndex := 6, attributes := #[] }])
  fields := #[{ name := "ADDRESS_BITS_PER_WORD", type := .int, accessFlags := 26, slot := 0, constantValue := 0 }, { name := "BITS_PER_WORD", type := .int, accessFlags := 26, slot := 1, constantValue := 0 }, { name := "BIT_INDEX_MASK", type := .int, accessFlags := 26, slot := 2, constantValue := 0 }, { name := "WORD_MASK", type := .long, accessFlags := 26, slot := 3, constantValue := 0 }, { name := "serialPersistentFields", type := (.array (.object "java/io/ObjectStreamField")), accessFlags := 26, slot := 4, constantValue := 0 }, { name := "words", type := (.array .long), accessFlags := 2, slot := 0, constantValue := 0 }, { name := "wordsInUse", type := .int, accessFlags := 130, slot := 1, constantValue := 0 }, { name := "sizeIsSticky", type := .boolean, accessFlags := 130, slot := 2, constantValue := 0 }, { name := "serialVersionUID", type := .long, accessFlags := 26, slot := 5, constantValue := 0 }, { name := "$assertionsDisabled", type := .boolean, accessFlags := 4120, slot := 6, constantValue := 0 }]
  methods := #[k5m0, k5m1, k5m2]
  instanceTypes := #[(.array .long), .int, .boolean]
  staticTypes := #[.int, .int, .int, .long, (.array (.object "java/io/ObjectStreamField")), .long, .boolean]
  resolved := Array.replicate 417 none
  statics := none }

/-- the primitive boolean -/
def k6 : Class := { plain "boolean" none with kind := .primitive 'Z', accessFlags := 0x411 }
/-- [Z -/
def k7 : Class := { plain "[Z" (some 0) with kind := .array 6 .boolean, interfaces := #[3, 4], accessFlags := 1041 }

/-- the primitive byte -/
def k8 : Class := { plain "byte" none with kind := .primitive 'B', accessFlags := 0x411 }
/-- [B -/
def k9 : Class := { plain "[B" (some 0) with kind := .array 8 .byte, interfaces := #[3, 4], accessFlags := 1041 }

/-- the primitive int -/
def k10 : Class := { plain "int" none with kind := .primitive 'I', accessFlags := 0x411 }
/-- [I -/
def k11 : Class := { plain "[I" (some 0) with kind := .array 10 .int, interfaces := #[3, 4], accessFlags := 1041 }

/-- the primitive long -/
def k12 : Class := { plain "long" none with kind := .primitive 'J', accessFlags := 0x411 }
/-- [J -/
def k13 : Class := { plain "[J" (some 0) with kind := .array 12 .long, interfaces := #[3, 4], accessFlags := 1041 }

def heap : Heap := #[]
def classes : Array Class := #[k0, k1, k2, k3, k4, k5, k6, k7, k8, k9, k10, k11, k12, k13]
def interned : List (Array UInt16 × Addr) := []
def slotsUsed : Nat := 0
def theMethod : MethodId := ⟨1, 1⟩
def args0 : Array Value := #[.int 5, .int 1, .int 7, .int 3]
def aboutOver (below : List Frame) : State where
  vm := { classes := classes, interned := interned.toArray }
  heap := heap
  slotsUsed := slotsUsed
  threads := #[{ frames := .invoking theMethod args0 :: below }]
def below0 : List Frame := [.native { method := ⟨0, 0⟩, args := #[] }]
def about1 : State := aboutOver below0
def p0 : Program := .bare "" "" ""
def e0 : Env := launch0.env 0 0 0
theorem w_frames : about1.frames = Frame.invoking theMethod args0 :: below0 := rfl
set_option maxRecDepth 65536 in
theorem w_args : argsFit about1.vm theMethod args0 = true := by decide +kernel
set_option maxRecDepth 65536 in
theorem w_heap : heapFits about1 = true := by decide +kernel
set_option maxRecDepth 65536 in
theorem w_runnable : about1.curStatus? = some .runnable := by decide +kernel
set_option maxRecDepth 65536 in
theorem w_alone : about1.alone = true := by decide +kernel
set_option maxRecDepth 65536 in
theorem w_named : about1.methodNamed? x = some theMethod := by decide +kernel
set_option maxRecDepth 65536 in
theorem w_hears : about1.hears theMethod below0 = true := by decide +kernel
set_option maxRecDepth 65536 in
theorem w_ripe : about1.ripe theMethod args0 below0 = true := by decide +kernel
theorem w_running : about1.status = .running := rfl
set_option maxRecDepth 65536 in
theorem w_room : about1.hasRoom e0.platform room_1 = true :=
  launch0.hasRoom_least _ room_1 (by decide +kernel) (by decide +kernel) (by decide +kernel) (by decide +kernel) (by decide +kernel) (by decide +kernel)
theorem allAtoms_all (ts : List Jvm.Cond) (a : Array Jvm.Value) (st : Jvm.State) : (allAtoms ts).before a st = ts.all (fun c => c.before a st) := by
  induction ts with
  | nil => rfl
  | cons c t ih =>
    show (Jvm.Cond.and c (allAtoms t)).before a st = _
    rw [Jvm.Cond.before_and, ih, List.all_cons]
def words1 : List Jvm.Cond := Jvm.Cond.code x code maxLocals ret :: tables_1
/-- a 'code' word, met by the world's own term for the bytes: nothing is compared byte by byte -/
theorem code_word {y : MethodName} {bytes : ByteArray} {mx : Nat} {rt : Option FieldType} {a : Array Value} {s : State} {m : MethodId} {meth : Method} {c : Code} (h1 : s.methodNamed? y = some m) (h2 : s.vm.method? m = some meth) (h3 : meth.code = some c) (h4 : c.code = bytes)
    (h5 : (c.maxLocals == mx && c.exceptionTable.isEmpty && decide (c.maxStack ≤ mostOperands) && decide (meth.sig.returnType = rt) && !meth.locks && decide (parseMethodDescriptor y.desc = some meth.sig)) = true) : (Jvm.Cond.code y bytes mx rt).before a s = true := by
  simp only [Bool.and_eq_true, beq_iff_eq, Bool.not_eq_true', decide_eq_true_eq] at h5
  obtain ⟨⟨⟨⟨⟨g1, g2⟩, g3⟩, g4⟩, g5⟩, g6⟩ := h5
  simp [Cond.before, Cond.holds, Cond.value, h1, h2, h3, h4, g1, g2, g3, g4, g5, g6]
def isCode : Jvm.Cond → Bool
  | .code _ _ _ _ => true
  | _ => false
theorem all_split {L : List Jvm.Cond} {P : Jvm.Cond → Bool} (h1 : L.all (fun c => isCode c || P c) = true) (h2 : ∀ c ∈ L.filter isCode, P c = true) : L.all P = true := by
  refine List.all_eq_true.mpr fun c hc => ?_
  have h := List.all_eq_true.mp h1 c hc
  rcases Bool.eq_false_or_eq_true (isCode c) with hi | hi
  · exact h2 c (List.mem_filter.mpr ⟨hc, hi⟩)
  · simpa [hi] using h
set_option maxRecDepth 65536 in
theorem w_c0 : (Jvm.Cond.code x code maxLocals ret).before args0 about1 = true := code_word (m := ⟨1, 1⟩) (meth := k1m1) (c := k1c1) (by decide +kernel) rfl rfl rfl (by decide +kernel)
set_option maxRecDepth 65536 in
theorem w_c1 : (Jvm.Cond.code ({ cls := "com/example/halfmesh/halfmesh/CompleteRelay", name := "<init>", desc := "(II)V" } : Jvm.MethodName) prog_38_method_1_code (3 : Nat) (Option.none : Option Jvm.ClassFile.FieldType)).before args0 about1 = true := code_word (m := ⟨2, 0⟩) (meth := k2m0) (c := k2c0) (by decide +kernel) rfl rfl rfl (by decide +kernel)
set_option maxRecDepth 65536 in
theorem w_c2 : (Jvm.Cond.code ({ cls := "java/lang/Object", name := "<init>", desc := "()V" } : Jvm.MethodName) object_method_1_code (1 : Nat) (Option.none : Option Jvm.ClassFile.FieldType)).before args0 about1 = true := code_word (m := ⟨0, 0⟩) (meth := k0m0) (c := k0c0) (by decide +kernel) rfl rfl rfl (by decide +kernel)
set_option maxRecDepth 65536 in
theorem w_c3 : (Jvm.Cond.code ({ cls := "java/util/BitSet", name := "<init>", desc := "()V" } : Jvm.MethodName) jdk_92_method_4_code (1 : Nat) (Option.none : Option Jvm.ClassFile.FieldType)).before args0 about1 = true := code_word (m := ⟨5, 1⟩) (meth := k5m1) (c := k5c1) (by decide +kernel) rfl rfl rfl (by decide +kernel)
set_option maxRecDepth 65536 in
theorem w_c4 : (Jvm.Cond.code ({ cls := "java/util/BitSet", name := "initWords", desc := "(I)V" } : Jvm.MethodName) jdk_92_method_6_code (2 : Nat) (Option.none : Option Jvm.ClassFile.FieldType)).before args0 about1 = true := code_word (m := ⟨5, 2⟩) (meth := k5m2) (c := k5c2) (by decide +kernel) rfl rfl rfl (by decide +kernel)
set_option maxRecDepth 65536 in
theorem w_c5 : (Jvm.Cond.code ({ cls := "java/util/BitSet", name := "wordIndex", desc := "(I)I" } : Jvm.MethodName) jdk_92_method_1_code (1 : Nat) (Option.some Jvm.ClassFile.FieldType.int)).before args0 about1 = true := code_word (m := ⟨5, 0⟩) (meth := k5m0) (c := k5c0) (by decide +kernel) rfl rfl rfl (by decide +kernel)
set_option maxRecDepth 65536 in
theorem w_c6 : (Jvm.Cond.code ({ cls := "com/example/halfmesh/halfmesh/CompleteRelay", name := "initiate", desc := "(I)V" } : Jvm.MethodName) prog_38_method_2_code (2 : Nat) (Option.none : Option Jvm.ClassFile.FieldType)).before args0 about1 = true := code_word (m := ⟨2, 1⟩) (meth := k2m1) (c := k2c1) (by decide +kernel) rfl rfl rfl (by decide +kernel)
set_option maxRecDepth 65536 in
theorem w_c7 : (Jvm.Cond.code ({ cls := "com/example/halfmesh/halfmesh/CompleteRelay", name := "relays", desc := "(I)Z" } : Jvm.MethodName) prog_38_method_3_code (2 : Nat) (Option.some Jvm.ClassFile.FieldType.boolean)).before args0 about1 = true := code_word (m := ⟨2, 2⟩) (meth := k2m2) (c := k2c2) (by decide +kernel) rfl rfl rfl (by decide +kernel)
set_option maxRecDepth 65536 in
theorem w_c8 : (Jvm.Cond.code ({ cls := "com/example/halfmesh/halfmesh/CompleteRelay", name := "endRelays", desc := "()V" } : Jvm.MethodName) prog_38_method_5_code (4 : Nat) (Option.none : Option Jvm.ClassFile.FieldType)).before args0 about1 = true := code_word (m := ⟨2, 3⟩) (meth := k2m3) (c := k2c3) (by decide +kernel) rfl rfl rfl (by decide +kernel)
set_option maxRecDepth 65536 in
theorem w_c9 : (Jvm.Cond.code ({ cls := "com/example/halfmesh/halfmesh/CompleteRelay", name := "accepted", desc := "(I)Z" } : Jvm.MethodName) prog_38_method_6_code (2 : Nat) (Option.some Jvm.ClassFile.FieldType.boolean)).before args0 about1 = true := code_word (m := ⟨2, 4⟩) (meth := k2m4) (c := k2c4) (by decide +kernel) rfl rfl rfl (by decide +kernel)
def codes1 : List Jvm.Cond := [Jvm.Cond.code x code maxLocals ret, Jvm.Cond.code ({ cls := "com/example/halfmesh/halfmesh/CompleteRelay", name := "<init>", desc := "(II)V" } : Jvm.MethodName) prog_38_method_1_code (3 : Nat) (Option.none : Option Jvm.ClassFile.FieldType), Jvm.Cond.code ({ cls := "java/lang/Object", name := "<init>", desc := "()V" } : Jvm.MethodName) object_method_1_code (1 : Nat) (Option.none : Option Jvm.ClassFile.FieldType), Jvm.Cond.code ({ cls := "java/util/BitSet", name := "<init>", desc := "()V" } : Jvm.MethodName) jdk_92_method_4_code (1 : Nat) (Option.none : Option Jvm.ClassFile.FieldType), Jvm.Cond.code ({ cls := "java/util/BitSet", name := "initWords", desc := "(I)V" } : Jvm.MethodName) jdk_92_method_6_code (2 : Nat) (Option.none : Option Jvm.ClassFile.FieldType), Jvm.Cond.code ({ cls := "java/util/BitSet", name := "wordIndex", desc := "(I)I" } : Jvm.MethodName) jdk_92_method_1_code (1 : Nat) (Option.some Jvm.ClassFile.FieldType.int), Jvm.Cond.code ({ cls := "com/example/halfmesh/halfmesh/CompleteRelay", name := "initiate", desc := "(I)V" } : Jvm.MethodName) prog_38_method_2_code (2 : Nat) (Option.none : Option Jvm.ClassFile.FieldType), Jvm.Cond.code ({ cls := "com/example/halfmesh/halfmesh/CompleteRelay", name := "relays", desc := "(I)Z" } : Jvm.MethodName) prog_38_method_3_code (2 : Nat) (Option.some Jvm.ClassFile.FieldType.boolean), Jvm.Cond.code ({ cls := "com/example/halfmesh/halfmesh/CompleteRelay", name := "endRelays", desc := "()V" } : Jvm.MethodName) prog_38_method_5_code (4 : Nat) (Option.none : Option Jvm.ClassFile.FieldType), Jvm.Cond.code ({ cls := "com/example/halfmesh/halfmesh/CompleteRelay", name := "accepted", desc := "(I)Z" } : Jvm.MethodName) prog_38_method_6_code (2 : Nat) (Option.some Jvm.ClassFile.FieldType.boolean)]
set_option maxRecDepth 65536 in
theorem codes_eq : words1.filter isCode = codes1 := rfl
theorem w_codes : ∀ c ∈ words1.filter isCode, c.before args0 about1 = true := by
  rw [codes_eq]
  intro c hc
  simp only [codes1, List.mem_cons, List.not_mem_nil, or_false] at hc
  rcases hc with rfl | rfl | rfl | rfl | rfl | rfl | rfl | rfl | rfl | rfl
  · exact w_c0
  · exact w_c1
  · exact w_c2
  · exact w_c3
  · exact w_c4
  · exact w_c5
  · exact w_c6
  · exact w_c7
  · exact w_c8
  · exact w_c9
set_option maxRecDepth 65536 in
theorem w_t1 : (words1.take 24).all (fun c => isCode c || c.before args0 about1) = true := by decide +kernel
set_option maxRecDepth 65536 in
theorem w_t2 : ((words1.drop 24).take 24).all (fun c => isCode c || c.before args0 about1) = true := by decide +kernel
set_option maxRecDepth 65536 in
theorem w_t3 : (((words1.drop 24).drop 24).take 24).all (fun c => isCode c || c.before args0 about1) = true := by decide +kernel
set_option maxRecDepth 65536 in
theorem w_t4 : (((words1.drop 24).drop 24).drop 24).all (fun c => isCode c || c.before args0 about1) = true := by decide +kernel
theorem w_tables : (allAtoms (Jvm.Cond.code x code maxLocals ret :: tables_1)).before args0 about1 = true := by
  rw [allAtoms_all]
  show words1.all (fun c => c.before args0 about1) = true
  refine all_split ?_ w_codes
  rw [← List.take_append_drop 24 words1, List.all_append, w_t1, ← List.take_append_drop 24 (words1.drop 24), List.all_append, w_t2, ← List.take_append_drop 24 ((words1.drop 24).drop 24), List.all_append, w_t3, w_t4]
  rfl
set_option maxRecDepth 65536 in
theorem w_case : (Jvm.Cond.and given_1 narrow_1).before args0 about1 = true := by decide +kernel
theorem w_applies : (headSpec (Jvm.Cond.code x code maxLocals ret :: tables_1) room_1).applies x e0.platform about1 = true :=
  (Spec.applies_iff w_frames).mpr ⟨w_running, w_runnable, w_alone, w_named, w_hears, w_ripe, w_room, w_tables⟩
theorem atStart : AtStart classFile x code maxLocals ret World_1 tables_1 room_1 Calls_1 rest_1 Pre_1 launch0 p0 e0 about1 theMethod args0 below0 :=
  ⟨lists_1, trivial, launch0.admits_env _ _ _, launch0.least_env, fairChoices_fair.cas, fairChoices_fair.clock, w_frames, w_args, w_heap, w_applies, trivial, trivial, w_case⟩
end start1
theorem witness_1 : WitnessClaimed_1 := ⟨start1.p0, start1.e0, start1.about1, start1.theMethod, start1.args0, start1.below0, start1.atStart⟩
end Jvm.Pilot.@@N@@
