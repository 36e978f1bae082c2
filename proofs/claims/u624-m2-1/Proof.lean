import JvmDerived
import JvmDerived.Pilot.@@N@@Statement
import JvmDerived.Pilot.@@N@@Code
set_option linter.unusedVariables false
set_option linter.unusedSimpArgs false
namespace Jvm.RoadKit
open Sem ClassFile Op Lib Jvm.Stand Jvm.Free Jvm.LawKit
section New
variable {p : Program} {l : Launch} {e : Env} {R : Room} {s : State} {m : MethodId} {args : Array Value} {below : List Frame} {meth : Method} {c : Code} {T : State} {locs : List Loc} {cells slots : Nat}
theorem retI (X : Stand p l e R s m args below meth c T locs cells slots) (hx : p.tables.exec = Jvm.exec) {pc : Nat} {Ls : Array Slot} {z : Int32} {rest : List Value} (hret : meth.sig.returnType = some .int) (hd : decode c.code pc = .ok (.ireturn, 1)) {fs : List Frame}
    (hl : ∀ (f : JFrame) (acts : List Action), f.method = m → f.locked = none → f.entered = [] → (doReturn e (T.setTop f) acts (some (.int z))).1 = T.setFrames fs) : Steps p.tables e below (T.setTop (mkF m pc Ls (.int z :: rest))) (T.setFrames fs) := by
  have hm' : T.vm.method? m = some meth := X.method'
  have hn : narrow .int (.int z) = .int z := rfl
  show Steps p.tables e below (T.setTop { method := m, pc := pc, locals := Ls, stack := _ :: rest, locked := none }) _
  jvm_step X.here [X.here.top, hx, hd, hm', hret, hn]
  first | (intro acts; rw [hl _ acts rfl rfl rfl]) | rw [hl _ _ rfl rfl rfl]
  exact Steps.refl _
end New
end Jvm.RoadKit
namespace Jvm.Pilot.@@N@@
open Jvm Jvm.ClassFile Sem Op Lib Jvm.Free Jvm.Stand Jvm.LawKit Jvm.RoadKit Bundle Jvm.Pilot.@@N@@.Jvm.D
def own_arr (Z : State) (h : Heap) (a : Addr) (ty : FieldType) (n : Nat) (f : Nat → Value) : Prop := ∃ c : Cell, Arr Z h a c ty ∧ c.slots.size = n ∧ ∀ j, j < n → c.slots[j]? = some (f j)
theorem own_arr_lt {Z : State} {h : Heap} {a : Addr} {ty : FieldType} {n : Nat} {f : Nat → Value} (F : own_arr Z h a ty n f) : a < h.size := by
  obtain ⟨c, A, -⟩ := F; exact A.lt
theorem own_arr_ext {Z : State} {h h' : Heap} {a : Addr} {ty : FieldType} {n : Nat} {f : Nat → Value} (F : own_arr Z h a ty n f) (E : Ext h h') : own_arr Z h' a ty n f := by
  obtain ⟨c, A, r⟩ := F; exact ⟨c, A.ext E, r⟩
theorem own_arr_other {Z : State} {h h' : Heap} {a b : Addr} {sl : Nat} {v : Value} {ty : FieldType} {n : Nat} {f : Nat → Value} (F : own_arr Z h a ty n f) (W : Wr h h' b sl v) (q : a ≠ b) : own_arr Z h' a ty n f := by
  obtain ⟨c, A, r⟩ := F; exact ⟨c, A.other W q, r⟩
theorem own_arr_keep {Z : State} {h h' : Heap} {a : Addr} {ws : List Addr} {ty : FieldType} {n : Nat} {f : Nat → Value} (F : own_arr Z h a ty n f) (K : Keep h h' ws) (q : a ∉ ws) : own_arr Z h' a ty n f := by
  obtain ⟨c, A, r⟩ := F; exact ⟨c, ⟨K.2.1 a c A.1 q, A.2⟩, r⟩
theorem own_arr_set {Z : State} {h h' : Heap} {a : Addr} {j : Nat} {v : Value} {ty : FieldType} {n : Nat} {f : Nat → Value} (F : own_arr Z h a ty n f) (W : Wr h h' a j v) : own_arr Z h' a ty n (fun i => if i = j then v else f i) := by
  obtain ⟨c, A, S, H⟩ := F
  refine ⟨c.setSlot j v, A.same W, by rw [sz_set]; exact S, fun i hi => ?_⟩
  by_cases u : i = j
  · subst u
    simp [Cell.setSlot, S, hi]
  · have := H i hi
    simp only [Cell.setSlot, if_neg u]
    rw [Array.getElem?_setIfInBounds_ne (Ne.symm u)]; exact this
theorem own_arr_eq {Z : State} {h : Heap} {a : Addr} {ty : FieldType} {n : Nat} {f g : Nat → Value} (F : own_arr Z h a ty n f) (q : ∀ j, j < n → f j = g j) : own_arr Z h a ty n g := by
  obtain ⟨c, A, S, H⟩ := F
  exact ⟨c, A, S, fun j hj => by rw [← q j hj]; exact H j hj⟩
theorem own_arr_new {Z : State} {h : Heap} {a : Addr} {k : ClassId} {ty : FieldType} {z : Int32} (A : Arr Z h a (newA k ty z) ty) {n : Nat} (hn : z.toNatClampNeg = n) : own_arr Z h a ty n (fun _ => defaultValue ty) := by
  refine ⟨_, A, (sz_new _ _ _).trans hn, fun j hj => ?_⟩
  rw [← hn] at hj
  simp [newA, hj]
theorem own_in {c : Cell} {n : Nat} {j : Int32} (S : c.slots.size = n) (h0 : 0 ≤ j.toInt) (h1 : j.toInt.toNat < n) : ¬ (j < 0 ∨ c.slots.size ≤ j.toNatClampNeg) := by
  have e : (0 : Int32).toInt = 0 := rfl
  have e2 : j.toNatClampNeg = j.toInt.toNat := rfl
  rw [S, Int32.lt_iff_toInt_lt, e, e2]
  omega
theorem own_ofNat {n : Nat} (h : n < 2147483648) : (Int32.ofNat n).toInt = n := Int32.toInt_ofNat_of_lt h
theorem own_one (i : Nat) : Int32.ofNat i + (1 : Int32) = Int32.ofNat (i + 1) := (Int32.ofNat_add i 1).symm
abbrev own_bt (x : Int32) : Int64 := (1 : Int64) <<< (x &&& 0x3f).toInt64
abbrev own_ix (x : Int32) : Int32 := (x.toUInt32 >>> ((6 : Int32) &&& 31).toUInt32).toInt32
theorem own_toNat (x : Int32) (h : 0 ≤ x.toInt) : x.toBitVec.toNat = x.toInt.toNat := by
  have e : x.toInt = x.toBitVec.toInt := rfl
  have l := x.toBitVec.isLt
  rw [e] at h ⊢
  rw [BitVec.toInt_eq_toNat_cond] at h ⊢
  split at h <;> split <;> omega
theorem own_bit (x : Int32) (h : 0 ≤ x.toInt) (b : Nat) (hb : b < 64) : (own_bt x).toBitVec.getLsbD b = decide (b = x.toInt.toNat % 64) := by
  have h1 := sm64 x (x.toInt.toNat % 64) (by rw [own_toNat x h])
  have key : ∀ k b : Fin 64, ((1 : BitVec 64) <<< k.val).getLsbD b.val = decide (b.val = k.val) := by decide +kernel
  show ((1 : Int64).toBitVec <<< ((x &&& 0x3f).toInt64.toBitVec.smod 64)).getLsbD b = _
  rw [BitVec.shiftLeft_eq', h1.1, smod64 _ h1.2]
  exact key ⟨_, h1.2⟩ ⟨b, hb⟩
theorem own_ixv (x : Int32) (h : 0 ≤ x.toInt) : (own_ix x).toInt = x.toInt / 64 := by
  have := c_iushr x (6 : Int32) 6 (by decide) (by decide)
  have l := x.toInt_lt
  rw [show ((2 ^ 6 : Nat) : Int) = 64 from rfl, Int.emod_eq_of_lt h (by omega)] at this
  exact this
theorem own_and_bit (v w : Int64) (b : Nat) : (v &&& w).toBitVec.getLsbD b = (v.toBitVec.getLsbD b && w.toBitVec.getLsbD b) := by
  show (v.toBitVec &&& w.toBitVec).getLsbD b = _
  exact BitVec.getLsbD_and
theorem own_or_bit (v w : Int64) (b : Nat) : (v ||| w).toBitVec.getLsbD b = (v.toBitVec.getLsbD b || w.toBitVec.getLsbD b) := by
  show (v.toBitVec ||| w.toBitVec).getLsbD b = _
  exact BitVec.getLsbD_or
theorem own_not_bit (w : Int64) (b : Nat) (hb : b < 64) : (w ^^^ (-1 : Int64)).toBitVec.getLsbD b = !(w.toBitVec.getLsbD b) := by
  have key : ∀ b : Fin 64, (-1 : Int64).toBitVec.getLsbD b.val = true := by decide +kernel
  show (w.toBitVec ^^^ (-1 : Int64).toBitVec).getLsbD b = _
  rw [BitVec.getLsbD_xor, key ⟨b, hb⟩]
  cases w.toBitVec.getLsbD b <;> rfl
theorem own_zero_bits (v : Int64) : v = 0 ↔ ∀ b, b < 64 → v.toBitVec.getLsbD b = false := by
  constructor
  · intro h b hb
    rw [h]
    have key : ∀ b : Fin 64, (0 : Int64).toBitVec.getLsbD b.val = false := by decide +kernel
    exact key ⟨b, hb⟩
  · intro h
    apply Int64.toBitVec_inj.mp
    apply BitVec.eq_of_getLsbD_eq
    intro i hi
    have key : ∀ b : Fin 64, (0 : Int64).toBitVec.getLsbD b.val = false := by decide +kernel
    rw [h i hi]; exact (key ⟨i, hi⟩).symm
theorem own_test (v : Int64) (x : Int32) (h : 0 ≤ x.toInt) : (v &&& own_bt x) = 0 ↔ v.toBitVec.getLsbD (x.toInt.toNat % 64) = false := by
  rw [own_zero_bits]
  have l : x.toInt.toNat % 64 < 64 := Nat.mod_lt _ (by decide)
  constructor
  · intro q
    have := q _ l
    rw [own_and_bit, own_bit x h _ l] at this
    simpa using this
  · intro q b hb
    rw [own_and_bit, own_bit x h b hb]
    by_cases u : b = x.toInt.toNat % 64
    · rw [u, q]; rfl
    · rw [decide_eq_false u, Bool.and_false]
/-- the list's ints are xs; each has its place among the words; the words' bits are xs -/
def own_rel (nw : Nat) (xs : List Int32) (g : Nat → Int32) (F : Nat → Int64) : Prop := (∀ j, j < xs.length → xs[j]? = some (g j)) ∧ (∀ x ∈ xs, 0 ≤ x.toInt ∧ x.toInt.toNat < 64 * nw) ∧ ∀ w b, w < nw → b < 64 → ((F w).toBitVec.getLsbD b = true ↔ ∃ x ∈ xs, x.toInt.toNat = 64 * w + b)
theorem own_inj {x y : Int32} (hx : 0 ≤ x.toInt) (hy : 0 ≤ y.toInt) (h : x.toInt.toNat = y.toInt.toNat) : x = y := by
  apply Int32.toInt_inj.mp; omega
theorem own_has {nw : Nat} {xs : List Int32} {g : Nat → Int32} {F : Nat → Int64} (r : own_rel nw xs g F) {x : Int32} (h0 : 0 ≤ x.toInt) (h1 : x.toInt.toNat < 64 * nw) : (F (x.toInt.toNat / 64) &&& own_bt x) = 0 ↔ ¬ x ∈ xs := by
  rw [own_test _ x h0]
  have l : x.toInt.toNat % 64 < 64 := Nat.mod_lt _ (by decide)
  have q := r.2.2 (x.toInt.toNat / 64) (x.toInt.toNat % 64) (by omega) l
  rw [Bool.eq_false_iff, Ne, q]
  constructor
  · intro u v; exact u ⟨x, v, by omega⟩
  · intro u v
    obtain ⟨y, hy, e⟩ := v
    have := own_inj (r.2.1 y hy).1 h0 (by omega)
    exact u (this ▸ hy)
def own_add (xs : List Int32) (x : Int32) : List Int32 := if x ∈ xs then xs else xs ++ [x]
def own_res (xs : List Int32) (x : Int32) : Int32 := if x ∈ xs then 0 else 1
theorem own_add_in {xs : List Int32} {x : Int32} (h : x ∈ xs) : own_add xs x = xs := if_pos h
theorem own_add_out {xs : List Int32} {x : Int32} (h : ¬ x ∈ xs) : own_add xs x = xs ++ [x] := if_neg h
theorem own_res_in {xs : List Int32} {x : Int32} (h : x ∈ xs) : own_res xs x = (0 : Int32) := if_pos h
theorem own_res_out {xs : List Int32} {x : Int32} (h : ¬ x ∈ xs) : own_res xs x = (1 : Int32) := if_neg h
theorem own_rel_add {nw : Nat} {xs : List Int32} {g : Nat → Int32} {F : Nat → Int64} (r : own_rel nw xs g F) {x : Int32} (h0 : 0 ≤ x.toInt) (h1 : x.toInt.toNat < 64 * nw) :
    own_rel nw (xs ++ [x]) (fun j => if j = xs.length then x else g j) (fun w => if w = x.toInt.toNat / 64 then F (x.toInt.toNat / 64) ||| own_bt x else F w) := by
  obtain ⟨r1, r2, r3⟩ := r
  refine ⟨fun j hj => ?_, fun y hy => ?_, fun w b hw hb => ?_⟩
  · by_cases u : j = xs.length
    · subst u; simp
    · have : j < xs.length := by rw [List.length_append] at hj; simp at hj; omega
      dsimp only
      rw [List.getElem?_append_left this, r1 j this, if_neg u]
  · rcases List.mem_append.mp hy with q | q
    · exact r2 y q
    · rw [List.mem_singleton.mp q]; exact ⟨h0, h1⟩
  · by_cases u : w = x.toInt.toNat / 64
    · subst u
      dsimp only
      rw [if_pos rfl, own_or_bit, own_bit x h0 b hb, Bool.or_eq_true, r3 _ b hw hb, decide_eq_true_eq]
      constructor
      · rintro (⟨y, hy, e⟩ | e)
        · exact ⟨y, List.mem_append_left _ hy, e⟩
        · exact ⟨x, List.mem_append_right _ (List.mem_singleton.mpr rfl), by omega⟩
      · rintro ⟨y, hy, e⟩
        rcases List.mem_append.mp hy with q | q
        · exact Or.inl ⟨y, q, e⟩
        · rw [List.mem_singleton.mp q] at e; exact Or.inr (by omega)
    · dsimp only
      rw [if_neg u, r3 w b hw hb]
      constructor
      · rintro ⟨y, hy, e⟩; exact ⟨y, List.mem_append_left _ hy, e⟩
      · rintro ⟨y, hy, e⟩
        rcases List.mem_append.mp hy with q | q
        · exact ⟨y, q, e⟩
        · rw [List.mem_singleton.mp q] at e; exact absurd (show w = x.toInt.toNat / 64 by omega) u
/-- one turn of the clearing: the bits that are left belong to the ints from i + 1 on -/
def own_left (nw : Nat) (xs : List Int32) (i : Nat) (F : Nat → Int64) : Prop := ∀ w b, w < nw → b < 64 → (F w).toBitVec.getLsbD b = true → ∃ j x, i ≤ j ∧ xs[j]? = some x ∧ x.toInt.toNat = 64 * w + b
theorem own_left_turn {nw : Nat} {xs : List Int32} {i : Nat} {F : Nat → Int64} (r : own_left nw xs i F) {x : Int32} (hx : xs[i]? = some x) (h0 : 0 ≤ x.toInt) :
    own_left nw xs (i + 1) (fun w => if w = x.toInt.toNat / 64 then F (x.toInt.toNat / 64) &&& (own_bt x ^^^ (-1 : Int64)) else F w) := by
  intro w b hw hb q
  by_cases u : w = x.toInt.toNat / 64
  · subst u
    simp only [if_pos] at q
    rw [own_and_bit, own_not_bit _ b hb, own_bit x h0 b hb, Bool.and_eq_true] at q
    obtain ⟨j, y, hj, hy, e⟩ := r _ b hw hb q.1
    have q2 : ¬ b = x.toInt.toNat % 64 := by simpa using q.2
    refine ⟨j, y, ?_, hy, e⟩
    by_cases z : j = i
    · subst z
      cases Option.some.inj (hx.symm.trans hy)
      exact absurd (show b = x.toInt.toNat % 64 by omega) q2
    · omega
  · simp only [if_neg u] at q
    obtain ⟨j, y, hj, hy, e⟩ := r w b hw hb q
    refine ⟨j, y, ?_, hy, e⟩
    by_cases z : j = i
    · subst z
      cases Option.some.inj (hx.symm.trans hy)
      exact absurd (show w = x.toInt.toNat / 64 by omega) u
    · omega
theorem own_left_start {nw : Nat} {xs : List Int32} {g : Nat → Int32} {F : Nat → Int64} (r : own_rel nw xs g F) : own_left nw xs 0 F := by
  intro w b hw hb q
  obtain ⟨x, hx, e⟩ := (r.2.2 w b hw hb).mp q
  obtain ⟨j, hj⟩ := List.getElem?_of_mem hx
  exact ⟨j, x, Nat.zero_le _, hj, e⟩
theorem own_left_end {nw : Nat} {xs : List Int32} {g : Nat → Int32} {F : Nat → Int64} (r : own_left nw xs xs.length F) : own_rel nw [] g F := by
  refine ⟨fun j hj => absurd hj (Nat.not_lt_zero _), fun x hx => (by cases hx), fun w b hw hb => ?_⟩
  constructor
  · intro q
    obtain ⟨j, x, hj, hx, -⟩ := r w b hw hb q
    rw [List.getElem?_eq_none hj] at hx; cases hx
  · rintro ⟨x, hx, -⟩; cases hx
theorem own_rel_new (nw : Nat) (g : Nat → Int32) : own_rel nw [] g (fun _ => 0) := by
  refine ⟨fun j hj => absurd hj (Nat.not_lt_zero _), fun x hx => (by cases hx), fun w b hw hb => ?_⟩
  have := (own_zero_bits 0).mp rfl b hb
  rw [this]
  constructor
  · intro q; cases q
  · rintro ⟨x, hx, -⟩; cases hx
/-- numbers of the law -/
theorem own_n (z : Int32) : 1 ≤ ((1 : Int32) + (z &&& (255 : Int32))).toInt ∧ ((1 : Int32) + (z &&& (255 : Int32))).toInt ≤ 256 := by
  have e1 : (255 : Int32).toInt = 255 := rfl
  have e2 : (1 : Int32).toInt = 1 := rfl
  have h1 := c_and z (255 : Int32) (by decide)
  have h2 := c_iadd (1 : Int32) (z &&& (255 : Int32))
  have h3 := rng32 ((1 : Int32) + (z &&& (255 : Int32)))
  omega
theorem own_nz {r : Int32} (h : 0 < r.toInt) : r ≠ 0 := by
  intro q
  have e : (0 : Int32).toInt = 0 := rfl
  rw [q, e] at h; omega
theorem own_mod (b r : Int32) (h : 0 < r.toInt) : 0 ≤ ((b &&& (2147483647 : Int32)) - ((b &&& (2147483647 : Int32)) / r) * r).toInt ∧ ((b &&& (2147483647 : Int32)) - ((b &&& (2147483647 : Int32)) / r) * r).toInt < r.toInt := by
  rw [irem_eq_mod]
  have h1 := c_and b (2147483647 : Int32) (by decide)
  have h2 := (c_iremV (b &&& (2147483647 : Int32)) r).1 h1.1 h
  exact ⟨h2.1, h2.2.1⟩
abbrev own_nw (n : Int32) : Int32 := ((((n.toInt64) + (63 : Int64)).toUInt64 >>> ((6 : Int32) &&& 0x3f).toInt64.toUInt64).toInt64).toInt32
theorem own_nwv (n : Int32) (h1 : 1 ≤ n.toInt) (h2 : n.toInt ≤ 256) : (own_nw n).toInt = (n.toInt + 63) / 64 := by
  have e63 : (63 : Int64).toInt = 63 := rfl
  have a1 := c_i2l n
  have a2 := c_ladd n.toInt64 (63 : Int64)
  have a3 := rng64 (n.toInt64 + (63 : Int64))
  have a4 := c_lushr (n.toInt64 + (63 : Int64)) (6 : Int32) 6 (by decide) (by decide)
  have a5 := c_l2i ((n.toInt64 + (63 : Int64)).toUInt64 >>> ((6 : Int32) &&& 0x3f).toInt64.toUInt64).toInt64
  have a6 := rng32 (own_nw n)
  rw [show ((2 ^ 6 : Nat) : Int) = 64 from rfl] at a4
  have b1 : (n.toInt64 + (63 : Int64)).toInt = n.toInt + 63 := by omega
  rw [b1] at a4
  change ((own_nw n).toInt - _) % 4294967296 = 0 at a5
  omega
theorem own_len3 {xs : List Int32} {x : Int32} {k : Nat} (h : xs.length ≤ k) : (own_add xs x).length ≤ k + 1 := by
  by_cases q : x ∈ xs
  · rw [own_add_in q]; omega
  · rw [own_add_out q, List.length_append]; simp; omega
/-- the second round of the law, from the empty store -/
def own_ne (b a : Int32) : Int32 := if b.toInt = a.toInt then 0 else 1
def own_nc (a b c : Int32) : Int32 := if c.toInt = a.toInt ∨ c.toInt = b.toInt then 0 else 1
theorem own_ne_eq {b a : Int32} (h : b.toInt = a.toInt) : own_ne b a = (0 : Int32) := if_pos h
theorem own_ne_ne {b a : Int32} (h : ¬ b.toInt = a.toInt) : own_ne b a = (1 : Int32) := if_neg h
theorem own_nc_eq {a b c : Int32} (h : c.toInt = a.toInt ∨ c.toInt = b.toInt) : own_nc a b c = (0 : Int32) := if_pos h
theorem own_nc_ne {a b c : Int32} (h : ¬ (c.toInt = a.toInt ∨ c.toInt = b.toInt)) : own_nc a b c = (1 : Int32) := if_neg h
theorem own_round (a b c : Int32) : own_res [] a = (1 : Int32) ∧ own_res (own_add [] a) b = own_ne b a ∧ own_res (own_add (own_add [] a) b) c = own_nc a b c ∧
    Int32.ofNat (own_add (own_add (own_add [] a) b) c).length = ((1 : Int32) + own_ne b a) + own_nc a b c := by
  have e1 : own_add [] a = [a] := own_add_out (by simp)
  rw [e1]
  refine ⟨own_res_out (by simp), ?_⟩
  by_cases h1 : b = a
  · subst h1
    have e2 : own_add [b] b = [b] := own_add_in (by simp)
    rw [e2, own_ne_eq rfl]
    refine ⟨own_res_in (by simp), ?_⟩
    by_cases h2 : c = b
    · subst h2
      rw [own_add_in (show c ∈ [c] by simp), own_nc_eq (Or.inl rfl)]
      exact ⟨own_res_in (by simp), rfl⟩
    · have h3 : ¬ c.toInt = b.toInt := fun q => h2 (Int32.toInt_inj.mp q)
      rw [own_add_out (show ¬ c ∈ [b] by simp [h2]), own_nc_ne (by simp [h3])]
      exact ⟨own_res_out (by simp [h2]), rfl⟩
  · have h1' : ¬ b.toInt = a.toInt := fun q => h1 (Int32.toInt_inj.mp q)
    have e2 : own_add [a] b = [a, b] := own_add_out (by simp [h1])
    rw [e2, own_ne_ne h1']
    refine ⟨own_res_out (by simp [h1]), ?_⟩
    by_cases h2 : c = a
    · subst h2
      rw [own_add_in (show c ∈ [c, b] by simp), own_nc_eq (Or.inl rfl)]
      exact ⟨own_res_in (by simp), rfl⟩
    · by_cases h3 : c = b
      · subst h3
        rw [own_add_in (show c ∈ [a, c] by simp), own_nc_eq (Or.inr rfl)]
        exact ⟨own_res_in (by simp), rfl⟩
      · have h2' : ¬ c.toInt = a.toInt := fun q => h2 (Int32.toInt_inj.mp q)
        have h3' : ¬ c.toInt = b.toInt := fun q => h3 (Int32.toInt_inj.mp q)
        rw [own_add_out (show ¬ c ∈ [a, b] by simp [h2, h3]), own_nc_ne (by simp [h2', h3'])]
        exact ⟨own_res_out (by simp [h2, h3]), rfl⟩
/-- the object, its list and its words in the heap -/
def own_heap (Z : State) (h : Heap) (n0 : Nat) (a li fo : Addr) (nw cnt : Nat) (g : Nat → Int32) (F : Nat → Int64) : Prop :=
  (Exa Z h a "com/example/setwright/setwright/analysis/FragmentAutomaton$Hits" ∧ Fld Z h a "com/example/setwright/setwright/analysis/FragmentAutomaton$Hits" "list" "[I" (.ref li) ∧ Fld Z h a "com/example/setwright/setwright/analysis/FragmentAutomaton$Hits" "found" "[J" (.ref fo) ∧ Fld Z h a "com/example/setwright/setwright/analysis/FragmentAutomaton$Hits" "count" "I" (.int (Int32.ofNat cnt))) ∧ (own_arr Z h li .int 16 (fun j => .int (g j)) ∧ own_arr Z h fo .long nw (fun w => .long (F w))) ∧ (a ≠ li ∧ a ≠ fo ∧ li ≠ fo) ∧ (n0 ≤ a ∧ n0 ≤ li ∧ n0 ≤ fo) ∧ n0 ≤ h.size
theorem d1_0 : decode prog_41_method_1_code 0 = .ok (.aload_n 0, 1) := by decide +kernel
theorem d1_1 : decode prog_41_method_1_code 1 = .ok (.invokespecial 1, 3) := by decide +kernel
theorem d1_4 : decode prog_41_method_1_code 4 = .ok (.aload_n 0, 1) := by decide +kernel
theorem d1_5 : decode prog_41_method_1_code 5 = .ok (.bipush 16, 2) := by decide +kernel
theorem d1_7 : decode prog_41_method_1_code 7 = .ok (.newarray .int, 2) := by decide +kernel
theorem d1_9 : decode prog_41_method_1_code 9 = .ok (.putfield 7, 3) := by decide +kernel
theorem d1_12 : decode prog_41_method_1_code 12 = .ok (.aload_n 0, 1) := by decide +kernel
theorem d1_13 : decode prog_41_method_1_code 13 = .ok (.iload_n 1, 1) := by decide +kernel
theorem d1_14 : decode prog_41_method_1_code 14 = .ok (.i2l, 1) := by decide +kernel
theorem d1_15 : decode prog_41_method_1_code 15 = .ok (.ldc2_w 13, 3) := by decide +kernel
theorem d1_18 : decode prog_41_method_1_code 18 = .ok (.ladd, 1) := by decide +kernel
theorem d1_19 : decode prog_41_method_1_code 19 = .ok (.bipush 6, 2) := by decide +kernel
theorem d1_21 : decode prog_41_method_1_code 21 = .ok (.lushr, 1) := by decide +kernel
theorem d1_22 : decode prog_41_method_1_code 22 = .ok (.l2i, 1) := by decide +kernel
theorem d1_23 : decode prog_41_method_1_code 23 = .ok (.newarray .long, 2) := by decide +kernel
theorem d1_25 : decode prog_41_method_1_code 25 = .ok (.putfield 15, 3) := by decide +kernel
theorem d1_28 : decode prog_41_method_1_code 28 = .ok (.return_, 1) := by decide +kernel
theorem pn_1 : plainName "com/example/setwright/setwright/analysis/FragmentAutomaton$Hits" = true := by first | (simp [plainName, overriddenIn]; done) | decide +kernel
theorem ef_1 (m : MethodId) (a1 : Addr) (p2 : Int32) : entryFrame m #[(.ref a1), (.int p2)] 2 = mkF m 0 #[.val (.ref a1), .val (.int p2)] [] := by first | (simp [entryFrame, mkF, argsToLocals, Value.category]; done) | rfl
def Q1 (Z : State) (a1 : Addr) (p2 : Int32) (h0 : Heap) (n0 : Nat) (v : Option Value) (h : Heap) (L : List Loc) : Prop := v = none ∧ Fr n0 L ∧ ∃ (li fo : Addr), own_heap Z h n0 a1 li fo (own_nw p2).toInt.toNat 0 (fun _ => 0) (fun _ => 0)
set_option maxRecDepth 65536 in
set_option maxHeartbeats 40000000 in
theorem rm1 (l : Launch) (Z : State) (a0 : Array Value) (hw : ∀ d ∈ tables_1, d.before a0 Z = true) (ws : List Jvm.Cond) (a1 : Addr) (p2 : Int32) (h0 : Heap) (n0 : Nat) (Z0 : n0 ≤ h0.size) (E_a1 : Exa Z h0 a1 "com/example/setwright/setwright/analysis/FragmentAutomaton$Hits") (F_l : Fld Z h0 a1 "com/example/setwright/setwright/analysis/FragmentAutomaton$Hits" "list" "[I" .null) (F_f : Fld Z h0 a1 "com/example/setwright/setwright/analysis/FragmentAutomaton$Hits" "found" "[J" .null) (F_c : Fld Z h0 a1 "com/example/setwright/setwright/analysis/FragmentAutomaton$Hits" "count" "I" (.int (0 : Int32))) (g_a1 : n0 ≤ a1) (hp1 : 1 ≤ p2.toInt) (hp2 : p2.toInt ≤ 256) :
    MetFree l (⟨"com/example/setwright/setwright/analysis/FragmentAutomaton$Hits", "<init>", "(I)V"⟩ : MethodName) (head1 (Jvm.Cond.code (⟨"com/example/setwright/setwright/analysis/FragmentAutomaton$Hits", "<init>", "(I)V"⟩ : MethodName) prog_41_method_1_code 2 none :: ws) ({ frames := 1, cells := 2, slots := 20, locals := 12 } : Room)) (fun a U => a = #[(.ref a1), (.int p2)] ∧ Z.Warmed39 U.vm ∧ U.heap = h0) (fun _ _ _ _ _ => True) (fun _ U o U' => ∃ v L, o = .returned v ∧ Q1 Z a1 p2 h0 n0 v U'.heap L ∧ FrameEnd U o U' L ({ frames := 1, cells := 2, slots := 20, locals := 12 } : Room).cells ({ frames := 1, cells := 2, slots := 20, locals := 12 } : Room).slots) := by
  refine MetFree.of_bodySF (plainFor_of_name pn_1) hisR ?_
  intro p e s m args below meth c s₁ Bd hml0 hP hK
  obtain ⟨rfl, hZ, hh⟩ := hP
  have hx := Bd.exec
  have hby := Bd.bytes
  have hml : c.maxLocals = 2 := hml0
  have hown : s.vm.findClass "com/example/setwright/setwright/analysis/FragmentAutomaton$Hits" = some m.cls := findClass_of_methodNamed Bd.named
  have hnm := (name_of_methodNamed Bd.named Bd.method).1
  have X0 : Stand p l e ({ frames := 1, cells := 2, slots := 20, locals := 12 } : Room) s m #[(.ref a1), (.int p2)] below meth c s₁ [] 0 0 := Stand.of_body Bd
  have e0 : s₁.heap = h0 := by rw [← hh, Bd.state]; rfl
  have N0 := Fr.nil n0
  have pre0 : ∀ t, Steps p.tables e below (s₁.setTop (mkF m 0 #[.val (.ref a1), .val (.int p2)] [])) t → Steps p.tables e below (s₁.setTop (entryFrame m #[(.ref a1), (.int p2)] 2)) t := fun t k => castTop (ef_1 m a1 p2) k
  obtain ⟨G, hG⟩ : ∃ G : State → Prop, G = fun t => Steps p.tables e below (s₁.setTop (entryFrame m #[(.ref a1), (.int p2)] 2)) t := ⟨_, rfl⟩
  have fin : ∀ t, G t → Steps p.tables e below (s₁.setTop (entryFrame m #[(.ref a1), (.int p2)] 2)) t := by rw [hG]; exact fun _ k => k
  have go0 : ∀ t, Steps p.tables e below (s₁.setTop (mkF m 0 #[.val (.ref a1), .val (.int p2)] [])) t → G t := by rw [hG]; exact pre0
  have hnw := own_nwv p2 hp1 hp2
  have go1 : ∀ t, Steps p.tables e below (s₁.setTop (mkF m 1 #[.val (.ref a1), .val (.int p2)] [(.ref a1)])) t → G t := fun t k => go0 t (by
      show Steps p.tables e below (s₁.setTop (mkF m 0 #[.val (.ref a1), .val (.int p2)] [])) _
      refine XS.aloadN X0.here hx rfl (hb hby d1_0) rfl rfl ?_
      show Steps p.tables e below (s₁.setTop (mkF m 1 #[.val (.ref a1), .val (.int p2)] [(.ref a1)])) _
      exact k)
  obtain ⟨T2, X2, e2, st2⟩ := initO X0 hx hZ hown (hw _ (List.mem_of_getElem? (i := 7) rfl)) (hw _ (List.mem_of_getElem? (i := 8) rfl)) (hw _ (List.mem_of_getElem? (i := 9) rfl)) e0 (g := (mkF m 1 #[.val (.ref a1), .val (.int p2)] [(.ref a1)])) rfl (by rw [hml]; rfl) rfl (hb hby d1_1) (by decide) (W := 0) (by show 2 * 0 + _ ≤ _; exact Nat.le_of_eq rfl) (by decide)
  have go3 : ∀ t, Steps p.tables e below (T2.setTop (mkF m 4 #[.val (.ref a1), .val (.int p2)] [])) t → G t := fun t k => go1 t (st2 _ k)
  have go4 : ∀ t, Steps p.tables e below (T2.setTop (mkF m 7 #[.val (.ref a1), .val (.int p2)] [(.int (16 : Int32)), (.ref a1)])) t → G t := fun t k => go3 t (by
      show Steps p.tables e below (T2.setTop (mkF m 4 #[.val (.ref a1), .val (.int p2)] [])) _
      refine XS.aloadN X2.here hx rfl (hb hby d1_4) rfl rfl ?_
      show Steps p.tables e below (T2.setTop (mkF m 5 #[.val (.ref a1), .val (.int p2)] [(.ref a1)])) _
      refine XS.bipush X2.here hx rfl (hb hby d1_5) ?_
      show Steps p.tables e below (T2.setTop (mkF m 7 #[.val (.ref a1), .val (.int p2)] [(.int (16 : Int32)), (.ref a1)])) _
      exact k)
  obtain ⟨T5, h5, c5, X5, e5, E5, A5, st5⟩ := newP X2 hx hZ (hw _ (List.mem_of_getElem? (i := 10) rfl)) e2 (g := (mkF m 7 #[.val (.ref a1), .val (.int p2)] [(.int (16 : Int32)), (.ref a1)])) rfl (hb hby d1_7) rfl (by decide) (cap := 16) (by decide) (by decide) (by decide) (by decide)
  obtain ⟨b5, g5⟩ : ∃ z, z = h0.size := ⟨_, rfl⟩
  rw [← g5] at A5 st5
  have go6 : ∀ t, Steps p.tables e below (T5.setTop (mkF m 9 #[.val (.ref a1), .val (.int p2)] [(.ref b5), (.ref a1)])) t → G t := fun t k => go4 t (st5 _ k)
  have gl : a1 < b5 := Nat.lt_of_lt_of_le E_a1.lt (Nat.le_of_eq g5.symm)
  obtain ⟨T7, h7, X7, e7, W7, st7⟩ := putF X5 hx hZ hown (host := "") (Or.inl (hw _ (List.mem_of_getElem? (i := 11) rfl))) Via.refl e5 (F_l.ext E5) (E_a1.ext E5) (Or.inl (hw _ (List.mem_of_getElem? (i := 12) rfl))) (hw _ (List.mem_of_getElem? (i := 2) rfl)) (ty := (.array .int)) (by decide) rfl rfl (g := (mkF m 9 #[.val (.ref a1), .val (.int p2)] [(.ref b5), (.ref a1)])) rfl rfl (hb hby d1_9)
  have N7 := Fr.snoc X7 N0 g_a1
  have go8 : ∀ t, Steps p.tables e below (T7.setTop (mkF m 12 #[.val (.ref a1), .val (.int p2)] [])) t → G t := fun t k => go6 t (st7 _ k)
  have Al : own_arr Z h7 b5 .int 16 (fun _ => .int 0) := own_arr_other (own_arr_new A5 rfl) W7 (Nat.ne_of_gt gl)
  have go9 : ∀ t, Steps p.tables e below (T7.setTop (mkF m 23 #[.val (.ref a1), .val (.int p2)] [(.int (((((p2.toInt64) + (63 : Int64)).toUInt64 >>> ((6 : Int32) &&& 0x3f).toInt64.toUInt64).toInt64).toInt32)), (.ref a1)])) t → G t := fun t k => go8 t (by
      show Steps p.tables e below (T7.setTop (mkF m 12 #[.val (.ref a1), .val (.int p2)] [])) _
      refine XS.aloadN X7.here hx rfl (hb hby d1_12) rfl rfl ?_
      show Steps p.tables e below (T7.setTop (mkF m 13 #[.val (.ref a1), .val (.int p2)] [(.ref a1)])) _
      refine XS.iloadN X7.here hx rfl (hb hby d1_13) rfl ?_
      show Steps p.tables e below (T7.setTop (mkF m 14 #[.val (.ref a1), .val (.int p2)] [(.int p2), (.ref a1)])) _
      refine XS.i2l X7.here hx rfl (hb hby d1_14) rfl ?_
      show Steps p.tables e below (T7.setTop (mkF m 15 #[.val (.ref a1), .val (.int p2)] [(.long (p2.toInt64)), (.ref a1)])) _
      refine X7.ldc2Long hx hown (mvT hZ (hw _ (List.mem_of_getElem? (i := 13) rfl))) (g := (mkF m 15 #[.val (.ref a1), .val (.int p2)] [(.long (p2.toInt64)), (.ref a1)])) rfl (hb hby d1_15) _ ?_
      show Steps p.tables e below (T7.setTop (mkF m 18 #[.val (.ref a1), .val (.int p2)] [(.long (63 : Int64)), (.long (p2.toInt64)), (.ref a1)])) _
      refine XS.ladd X7.here hx rfl (hb hby d1_18) rfl ?_
      show Steps p.tables e below (T7.setTop (mkF m 19 #[.val (.ref a1), .val (.int p2)] [(.long ((p2.toInt64) + (63 : Int64))), (.ref a1)])) _
      refine XS.bipush X7.here hx rfl (hb hby d1_19) ?_
      show Steps p.tables e below (T7.setTop (mkF m 21 #[.val (.ref a1), .val (.int p2)] [(.int (6 : Int32)), (.long ((p2.toInt64) + (63 : Int64))), (.ref a1)])) _
      refine XS.lushr X7.here hx rfl (hb hby d1_21) rfl ?_
      show Steps p.tables e below (T7.setTop (mkF m 22 #[.val (.ref a1), .val (.int p2)] [(.long ((((p2.toInt64) + (63 : Int64)).toUInt64 >>> ((6 : Int32) &&& 0x3f).toInt64.toUInt64).toInt64)), (.ref a1)])) _
      refine XS.l2i X7.here hx rfl (hb hby d1_22) rfl ?_
      show Steps p.tables e below (T7.setTop (mkF m 23 #[.val (.ref a1), .val (.int p2)] [(.int (((((p2.toInt64) + (63 : Int64)).toUInt64 >>> ((6 : Int32) &&& 0x3f).toInt64.toUInt64).toInt64).toInt32)), (.ref a1)])) _
      exact k)
  have hnn : ¬ own_nw p2 < 0 := by rw [Int32.lt_iff_toInt_lt, hnw, show (0 : Int32).toInt = 0 from rfl]; omega
  have hcp : (own_nw p2).toNatClampNeg ≤ 4 := by show (own_nw p2).toInt.toNat ≤ 4; omega
  obtain ⟨T10, h10, c10, X10, e10, E10, A10, st10⟩ := newP X7 hx hZ (hw _ (List.mem_of_getElem? (i := 14) rfl)) e7 (g := (mkF m 23 #[.val (.ref a1), .val (.int p2)] [(.int (((((p2.toInt64) + (63 : Int64)).toUInt64 >>> ((6 : Int32) &&& 0x3f).toInt64.toUInt64).toInt64).toInt32)), (.ref a1)])) rfl (hb hby d1_23) rfl hnn (cap := 4) hcp (by decide) (by decide) (by decide)
  obtain ⟨b10, g10⟩ : ∃ z, z = h7.size := ⟨_, rfl⟩
  rw [← g10] at A10 st10
  have go11 : ∀ t, Steps p.tables e below (T10.setTop (mkF m 25 #[.val (.ref a1), .val (.int p2)] [(.ref b10), (.ref a1)])) t → G t := fun t k => go9 t (st10 _ k)
  have gf : b5 < b10 := Nat.lt_of_lt_of_le (own_arr_lt Al) (Nat.le_of_eq g10.symm)
  obtain ⟨T12, h12, X12, e12, W12, st12⟩ := putF X10 hx hZ hown (host := "") (Or.inl (hw _ (List.mem_of_getElem? (i := 15) rfl))) Via.refl e10 (((F_f.ext E5).other W7 (Or.inr (slot_ne (Or.inr (hw _ (List.mem_of_getElem? (i := 16) rfl))) (Or.inl (hw _ (List.mem_of_getElem? (i := 12) rfl))) (by decide) (t := (.array .long)) (t' := (.array .int)) (by decide) (by decide)))).ext E10) (((E_a1.ext E5).wr W7).ext E10) (Or.inr ⟨(hw _ (List.mem_of_getElem? (i := 16) rfl)), rfl, hnm⟩) (hw _ (List.mem_of_getElem? (i := 2) rfl)) (ty := (.array .long)) (by decide) rfl rfl (g := (mkF m 25 #[.val (.ref a1), .val (.int p2)] [(.ref b10), (.ref a1)])) rfl rfl (hb hby d1_25)
  have N12 := Fr.snoc X12 N7 g_a1
  have go13 : ∀ t, Steps p.tables e below (T12.setTop (mkF m 28 #[.val (.ref a1), .val (.int p2)] [])) t → G t := fun t k => go11 t (st12 _ k)
  have Af : own_arr Z h12 b10 .long (own_nw p2).toInt.toNat (fun _ => .long 0) := own_arr_other (own_arr_new A10 rfl) W12 (Nat.ne_of_gt (Nat.lt_trans gl gf))
  have Al2 : own_arr Z h12 b5 .int 16 (fun _ => .int 0) := own_arr_other (own_arr_ext Al E10) W12 (Nat.ne_of_gt gl)
  have E2 : Exa Z h12 a1 "com/example/setwright/setwright/analysis/FragmentAutomaton$Hits" := (((E_a1.ext E5).wr W7).ext E10).wr W12
  have Fl2 : Fld Z h12 a1 "com/example/setwright/setwright/analysis/FragmentAutomaton$Hits" "list" "[I" (.ref b5) := (((F_l.ext E5).same W7).ext E10).other W12 (Or.inr (slot_ne (Or.inl (hw _ (List.mem_of_getElem? (i := 12) rfl))) (Or.inr (hw _ (List.mem_of_getElem? (i := 16) rfl))) (by decide) (t := (.array .int)) (t' := (.array .long)) (by decide) (by decide)))
  have Ff2 : Fld Z h12 a1 "com/example/setwright/setwright/analysis/FragmentAutomaton$Hits" "found" "[J" (.ref b10) := (((F_f.ext E5).other W7 (Or.inr (slot_ne (Or.inr (hw _ (List.mem_of_getElem? (i := 16) rfl))) (Or.inl (hw _ (List.mem_of_getElem? (i := 12) rfl))) (by decide) (t := (.array .long)) (t' := (.array .int)) (by decide) (by decide)))).ext E10).same W12
  have Fc2 : Fld Z h12 a1 "com/example/setwright/setwright/analysis/FragmentAutomaton$Hits" "count" "I" (.int (0 : Int32)) := (((F_c.ext E5).other W7 (Or.inr (slot_ne (Or.inl (hw _ (List.mem_of_getElem? (i := 23) rfl))) (Or.inl (hw _ (List.mem_of_getElem? (i := 12) rfl))) (by decide) (t := .int) (t' := (.array .int)) (by decide) (by decide)))).ext E10).other W12 (Or.inr (slot_ne (Or.inl (hw _ (List.mem_of_getElem? (i := 23) rfl))) (Or.inr (hw _ (List.mem_of_getElem? (i := 16) rfl))) (by decide) (t := .int) (t' := (.array .long)) (by decide) (by decide)))
  obtain ⟨fs, hr, hrun, hended, hW, hsame⟩ := X12.leave (v := none) (fun _ => rfl)
  refine ⟨_, _, fin _ (go13 _ ?_), hrun, hended, _, _, rfl, ?_, ⟨_, rfl⟩, hW, hsame.mono (by decide) (by decide)⟩
  · exact X12.returnOut hx Bd.returns (hb hby d1_28) hr
  · show Q1 Z a1 p2 h0 n0 _ T12.heap _
    rw [e12]
    exact ⟨rfl, N12, b5, b10, ⟨E2, Fl2, Ff2, Fc2⟩, ⟨Al2, Af⟩, ⟨Nat.ne_of_lt gl, Nat.ne_of_lt (Nat.lt_trans gl gf), Nat.ne_of_lt gf⟩, ⟨g_a1, Nat.le_trans g_a1 (Nat.le_of_lt gl), Nat.le_trans g_a1 (Nat.le_of_lt (Nat.lt_trans gl gf))⟩, Nat.le_trans g_a1 (Nat.le_of_lt E2.lt)⟩
theorem d4_0 : decode prog_41_method_3_code 0 = .ok (.aload_n 0, 1) := by decide +kernel
theorem d4_1 : decode prog_41_method_3_code 1 = .ok (.getfield 19, 3) := by decide +kernel
theorem d4_4 : decode prog_41_method_3_code 4 = .ok (.ireturn, 1) := by decide +kernel
theorem pn_4 : plainName "com/example/setwright/setwright/analysis/FragmentAutomaton$Hits" = true := by first | (simp [plainName, overriddenIn]; done) | decide +kernel
theorem ef_4 (m : MethodId) (a1 : Addr) : entryFrame m #[(.ref a1)] 1 = mkF m 0 #[.val (.ref a1)] [] := by first | (simp [entryFrame, mkF, argsToLocals, Value.category]; done) | rfl
def Q4 (Z : State) (a1 : Addr) (cnt : Nat) (h0 : Heap) (n0 : Nat) (v : Option Value) (h : Heap) (L : List Loc) : Prop := v = some (.int (Int32.ofNat cnt)) ∧ Fr n0 L ∧ h = h0
set_option maxRecDepth 65536 in
set_option maxHeartbeats 40000000 in
theorem rm4 (l : Launch) (Z : State) (a0 : Array Value) (hw : ∀ d ∈ tables_1, d.before a0 Z = true) (ws : List Jvm.Cond) (a1 : Addr) (cnt : Nat) (h0 : Heap) (n0 : Nat) (Z0 : n0 ≤ h0.size) (F_c : Fld Z h0 a1 "com/example/setwright/setwright/analysis/FragmentAutomaton$Hits" "count" "I" (.int (Int32.ofNat cnt))) :
    MetFree l (⟨"com/example/setwright/setwright/analysis/FragmentAutomaton$Hits", "count", "()I"⟩ : MethodName) (head1 (Jvm.Cond.code (⟨"com/example/setwright/setwright/analysis/FragmentAutomaton$Hits", "count", "()I"⟩ : MethodName) prog_41_method_3_code 1 (some .int) :: ws) ({ frames := 0, cells := 0, slots := 0, locals := 0 } : Room)) (fun a U => a = #[(.ref a1)] ∧ Z.Warmed39 U.vm ∧ U.heap = h0) (fun _ _ _ _ _ => True) (fun _ U o U' => ∃ v L, o = .returned v ∧ Q4 Z a1 cnt h0 n0 v U'.heap L ∧ FrameEnd U o U' L ({ frames := 0, cells := 0, slots := 0, locals := 0 } : Room).cells ({ frames := 0, cells := 0, slots := 0, locals := 0 } : Room).slots) := by
  refine MetFree.of_bodySF (plainFor_of_name pn_4) hisR ?_
  intro p e s m args below meth c s₁ Bd hml0 hP hK
  obtain ⟨rfl, hZ, hh⟩ := hP
  have hx := Bd.exec
  have hby := Bd.bytes
  have hml : c.maxLocals = 1 := hml0
  have hown : s.vm.findClass "com/example/setwright/setwright/analysis/FragmentAutomaton$Hits" = some m.cls := findClass_of_methodNamed Bd.named
  have hnm := (name_of_methodNamed Bd.named Bd.method).1
  have X0 : Stand p l e ({ frames := 0, cells := 0, slots := 0, locals := 0 } : Room) s m #[(.ref a1)] below meth c s₁ [] 0 0 := Stand.of_body Bd
  have e0 : s₁.heap = h0 := by rw [← hh, Bd.state]; rfl
  have N0 := Fr.nil n0
  have pre0 : ∀ t, Steps p.tables e below (s₁.setTop (mkF m 0 #[.val (.ref a1)] [])) t → Steps p.tables e below (s₁.setTop (entryFrame m #[(.ref a1)] 1)) t := fun t k => castTop (ef_4 m a1) k
  obtain ⟨G, hG⟩ : ∃ G : State → Prop, G = fun t => Steps p.tables e below (s₁.setTop (entryFrame m #[(.ref a1)] 1)) t := ⟨_, rfl⟩
  have fin : ∀ t, G t → Steps p.tables e below (s₁.setTop (entryFrame m #[(.ref a1)] 1)) t := by rw [hG]; exact fun _ k => k
  have go0 : ∀ t, Steps p.tables e below (s₁.setTop (mkF m 0 #[.val (.ref a1)] [])) t → G t := by rw [hG]; exact pre0
  have go1 : ∀ t, Steps p.tables e below (s₁.setTop (mkF m 1 #[.val (.ref a1)] [(.ref a1)])) t → G t := fun t k => go0 t (by
      show Steps p.tables e below (s₁.setTop (mkF m 0 #[.val (.ref a1)] [])) _
      refine XS.aloadN X0.here hx rfl (hb hby d4_0) rfl rfl ?_
      show Steps p.tables e below (s₁.setTop (mkF m 1 #[.val (.ref a1)] [(.ref a1)])) _
      exact k)
  obtain ⟨T2, X2, e2, st2⟩ := getF X0 hx hZ hown (host := "") (Or.inl (hw _ (List.mem_of_getElem? (i := 22) rfl))) Via.refl e0 F_c (g := (mkF m 1 #[.val (.ref a1)] [(.ref a1)])) rfl rfl (hb hby d4_1)
  have go3 : ∀ t, Steps p.tables e below (T2.setTop (mkF m 4 #[.val (.ref a1)] [(.int (Int32.ofNat cnt))])) t → G t := fun t k => go1 t (st2 _ k)
  obtain ⟨fs, hr, hrun, hended, hW, hsame⟩ := X2.leave (v := some (.int (Int32.ofNat cnt))) (fun h => by rw [Bd.returns] at h; cases h)
  refine ⟨_, _, fin _ (go3 _ ?_), hrun, hended, _, _, rfl, ?_, ⟨_, rfl⟩, hW, hsame.mono (by decide) (by decide)⟩
  · exact retI X2 hx Bd.returns (hb hby d4_4) hr
  · show Q4 Z a1 cnt h0 n0 _ T2.heap _
    rw [e2]
    exact ⟨rfl, N0, rfl⟩
theorem d5_0 : decode prog_41_method_2_code 0 = .ok (.lconst 1, 1) := by decide +kernel
theorem d5_1 : decode prog_41_method_2_code 1 = .ok (.iload_n 1, 1) := by decide +kernel
theorem d5_2 : decode prog_41_method_2_code 2 = .ok (.lshl, 1) := by decide +kernel
theorem d5_3 : decode prog_41_method_2_code 3 = .ok (.lstore_n 2, 1) := by decide +kernel
theorem d5_4 : decode prog_41_method_2_code 4 = .ok (.aload_n 0, 1) := by decide +kernel
theorem d5_5 : decode prog_41_method_2_code 5 = .ok (.getfield 15, 3) := by decide +kernel
theorem d5_8 : decode prog_41_method_2_code 8 = .ok (.iload_n 1, 1) := by decide +kernel
theorem d5_9 : decode prog_41_method_2_code 9 = .ok (.bipush 6, 2) := by decide +kernel
theorem d5_11 : decode prog_41_method_2_code 11 = .ok (.iushr, 1) := by decide +kernel
theorem d5_12 : decode prog_41_method_2_code 12 = .ok (.laload, 1) := by decide +kernel
theorem d5_13 : decode prog_41_method_2_code 13 = .ok (.lload_n 2, 1) := by decide +kernel
theorem d5_14 : decode prog_41_method_2_code 14 = .ok (.land, 1) := by decide +kernel
theorem d5_15 : decode prog_41_method_2_code 15 = .ok (.lconst 0, 1) := by decide +kernel
theorem d5_16 : decode prog_41_method_2_code 16 = .ok (.lcmp, 1) := by decide +kernel
theorem d5_17 : decode prog_41_method_2_code 17 = .ok (.ifCond .eq 5, 3) := by decide +kernel
theorem d5_20 : decode prog_41_method_2_code 20 = .ok (.iconst 0, 1) := by decide +kernel
theorem d5_21 : decode prog_41_method_2_code 21 = .ok (.ireturn, 1) := by decide +kernel
theorem d5_22 : decode prog_41_method_2_code 22 = .ok (.aload_n 0, 1) := by decide +kernel
theorem d5_23 : decode prog_41_method_2_code 23 = .ok (.getfield 15, 3) := by decide +kernel
theorem d5_26 : decode prog_41_method_2_code 26 = .ok (.iload_n 1, 1) := by decide +kernel
theorem d5_27 : decode prog_41_method_2_code 27 = .ok (.bipush 6, 2) := by decide +kernel
theorem d5_29 : decode prog_41_method_2_code 29 = .ok (.iushr, 1) := by decide +kernel
theorem d5_30 : decode prog_41_method_2_code 30 = .ok (.dup2, 1) := by decide +kernel
theorem d5_31 : decode prog_41_method_2_code 31 = .ok (.laload, 1) := by decide +kernel
theorem d5_32 : decode prog_41_method_2_code 32 = .ok (.lload_n 2, 1) := by decide +kernel
theorem d5_33 : decode prog_41_method_2_code 33 = .ok (.lor, 1) := by decide +kernel
theorem d5_34 : decode prog_41_method_2_code 34 = .ok (.lastore, 1) := by decide +kernel
theorem d5_35 : decode prog_41_method_2_code 35 = .ok (.aload_n 0, 1) := by decide +kernel
theorem d5_36 : decode prog_41_method_2_code 36 = .ok (.getfield 19, 3) := by decide +kernel
theorem d5_39 : decode prog_41_method_2_code 39 = .ok (.aload_n 0, 1) := by decide +kernel
theorem d5_40 : decode prog_41_method_2_code 40 = .ok (.getfield 7, 3) := by decide +kernel
theorem d5_43 : decode prog_41_method_2_code 43 = .ok (.arraylength, 1) := by decide +kernel
theorem d5_44 : decode prog_41_method_2_code 44 = .ok (.if_icmp .ne 20, 3) := by decide +kernel
theorem d5_64 : decode prog_41_method_2_code 64 = .ok (.aload_n 0, 1) := by decide +kernel
theorem d5_65 : decode prog_41_method_2_code 65 = .ok (.getfield 7, 3) := by decide +kernel
theorem d5_68 : decode prog_41_method_2_code 68 = .ok (.aload_n 0, 1) := by decide +kernel
theorem d5_69 : decode prog_41_method_2_code 69 = .ok (.dup, 1) := by decide +kernel
theorem d5_70 : decode prog_41_method_2_code 70 = .ok (.getfield 19, 3) := by decide +kernel
theorem d5_73 : decode prog_41_method_2_code 73 = .ok (.dup_x1, 1) := by decide +kernel
theorem d5_74 : decode prog_41_method_2_code 74 = .ok (.iconst 1, 1) := by decide +kernel
theorem d5_75 : decode prog_41_method_2_code 75 = .ok (.iadd, 1) := by decide +kernel
theorem d5_76 : decode prog_41_method_2_code 76 = .ok (.putfield 19, 3) := by decide +kernel
theorem d5_79 : decode prog_41_method_2_code 79 = .ok (.iload_n 1, 1) := by decide +kernel
theorem d5_80 : decode prog_41_method_2_code 80 = .ok (.iastore, 1) := by decide +kernel
theorem d5_81 : decode prog_41_method_2_code 81 = .ok (.iconst 1, 1) := by decide +kernel
theorem d5_82 : decode prog_41_method_2_code 82 = .ok (.ireturn, 1) := by decide +kernel
theorem pn_5 : plainName "com/example/setwright/setwright/analysis/FragmentAutomaton$Hits" = true := by first | (simp [plainName, overriddenIn]; done) | decide +kernel
theorem ef_5 (m : MethodId) (a1 : Addr) (p2 : Int32) : entryFrame m #[(.ref a1), (.int p2)] 4 = mkF m 0 #[.val (.ref a1), .val (.int p2), .unset, .unset] [] := by first | (simp [entryFrame, mkF, argsToLocals, Value.category]; done) | rfl
def Q5 (Z : State) (a1 : Addr) (p2 : Int32) (li : Addr) (fo : Addr) (nw : Nat) (xs : List Int32) (g : Nat → Int32) (F : Nat → Int64) (h0 : Heap) (n0 : Nat) (v : Option Value) (h : Heap) (L : List Loc) : Prop := v = some (.int (own_res xs p2)) ∧ Fr n0 L ∧ ∃ (g' : Nat → Int32) (F' : Nat → Int64), own_heap Z h n0 a1 li fo nw (own_add xs p2).length g' F' ∧ own_rel nw (own_add xs p2) g' F'
set_option maxRecDepth 65536 in
set_option maxHeartbeats 40000000 in
theorem rm5 (l : Launch) (Z : State) (a0 : Array Value) (hw : ∀ d ∈ tables_1, d.before a0 Z = true) (ws : List Jvm.Cond) (a1 : Addr) (p2 : Int32) (li : Addr) (fo : Addr) (nw : Nat) (xs : List Int32) (g : Nat → Int32) (F : Nat → Int64) (h0 : Heap) (n0 : Nat) (Z0 : n0 ≤ h0.size) (H : own_heap Z h0 n0 a1 li fo nw xs.length g F) (hrel : own_rel nw xs g F) (hl : xs.length < 16) (hp0 : 0 ≤ p2.toInt) (hp1 : p2.toInt.toNat < 64 * nw) :
    MetFree l (⟨"com/example/setwright/setwright/analysis/FragmentAutomaton$Hits", "add", "(I)Z"⟩ : MethodName) (head1 (Jvm.Cond.code (⟨"com/example/setwright/setwright/analysis/FragmentAutomaton$Hits", "add", "(I)Z"⟩ : MethodName) prog_41_method_2_code 4 (some .boolean) :: ws) ({ frames := 0, cells := 0, slots := 0, locals := 0 } : Room)) (fun a U => a = #[(.ref a1), (.int p2)] ∧ Z.Warmed39 U.vm ∧ U.heap = h0) (fun _ _ _ _ _ => True) (fun _ U o U' => ∃ v L, o = .returned v ∧ Q5 Z a1 p2 li fo nw xs g F h0 n0 v U'.heap L ∧ FrameEnd U o U' L ({ frames := 0, cells := 0, slots := 0, locals := 0 } : Room).cells ({ frames := 0, cells := 0, slots := 0, locals := 0 } : Room).slots) := by
  refine MetFree.of_bodySF (plainFor_of_name pn_5) hisR ?_
  intro p e s m args below meth c s₁ Bd hml0 hP hK
  obtain ⟨rfl, hZ, hh⟩ := hP
  have hx := Bd.exec
  have hby := Bd.bytes
  have hml : c.maxLocals = 4 := hml0
  have hown : s.vm.findClass "com/example/setwright/setwright/analysis/FragmentAutomaton$Hits" = some m.cls := findClass_of_methodNamed Bd.named
  have hnm := (name_of_methodNamed Bd.named Bd.method).1
  have X0 : Stand p l e ({ frames := 0, cells := 0, slots := 0, locals := 0 } : Room) s m #[(.ref a1), (.int p2)] below meth c s₁ [] 0 0 := Stand.of_body Bd
  have e0 : s₁.heap = h0 := by rw [← hh, Bd.state]; rfl
  have N0 := Fr.nil n0
  have pre0 : ∀ t, Steps p.tables e below (s₁.setTop (mkF m 0 #[.val (.ref a1), .val (.int p2), .unset, .unset] [])) t → Steps p.tables e below (s₁.setTop (entryFrame m #[(.ref a1), (.int p2)] 4)) t := fun t k => castTop (ef_5 m a1 p2) k
  obtain ⟨G, hG⟩ : ∃ G : State → Prop, G = fun t => Steps p.tables e below (s₁.setTop (entryFrame m #[(.ref a1), (.int p2)] 4)) t := ⟨_, rfl⟩
  have fin : ∀ t, G t → Steps p.tables e below (s₁.setTop (entryFrame m #[(.ref a1), (.int p2)] 4)) t := by rw [hG]; exact fun _ k => k
  have go0 : ∀ t, Steps p.tables e below (s₁.setTop (mkF m 0 #[.val (.ref a1), .val (.int p2), .unset, .unset] [])) t → G t := by rw [hG]; exact pre0
  obtain ⟨⟨E1, Fl, Ff, Fc⟩, ⟨⟨cl, Al, Sl, Hl⟩, ⟨cf, Af, Sf, Hf⟩⟩, ⟨d1, d2, d3⟩, ⟨g1, g2, g3⟩, Zh⟩ := id H
  obtain ⟨bt, hbt⟩ : ∃ z : Int64, z = ((1 : Int64) <<< (p2 &&& 0x3f).toInt64) := ⟨_, rfl⟩
  obtain ⟨ix, hix⟩ : ∃ z : Int32, z = ((p2.toUInt32 >>> ((6 : Int32) &&& 31).toUInt32).toInt32) := ⟨_, rfl⟩
  have hixv := own_ixv p2 hp0
  have hixv2 : ix.toInt = p2.toInt / 64 := by rw [hix]; exact hixv
  have hixn : ix.toInt.toNat = p2.toInt.toNat / 64 := by omega
  have hin : ¬ (ix < 0 ∨ cf.slots.size ≤ ix.toNatClampNeg) := own_in Sf (by omega) (by omega)
  have hat : cf.slots[ix.toNatClampNeg]? = some (.long (F (p2.toInt.toNat / 64))) := by have := Hf (p2.toInt.toNat / 64) (by omega); rw [← hixn] at this ⊢; exact this
  have htest := own_has hrel hp0 hp1
  rw [show own_bt p2 = bt from hbt.symm] at htest
  have go1 : ∀ t, Steps p.tables e below (s₁.setTop (mkF m 5 #[.val (.ref a1), .val (.int p2), .val (.long bt), .second] [(.ref a1)])) t → G t := fun t k => go0 t (by
      show Steps p.tables e below (s₁.setTop (mkF m 0 #[.val (.ref a1), .val (.int p2), .unset, .unset] [])) _
      refine XS.lconst X0.here hx rfl (hb hby d5_0) ?_
      show Steps p.tables e below (s₁.setTop (mkF m 1 #[.val (.ref a1), .val (.int p2), .unset, .unset] [(.long (1 : Int64))])) _
      refine XS.iloadN X0.here hx rfl (hb hby d5_1) rfl ?_
      show Steps p.tables e below (s₁.setTop (mkF m 2 #[.val (.ref a1), .val (.int p2), .unset, .unset] [(.int p2), (.long (1 : Int64))])) _
      refine XS.lshl X0.here hx rfl (hb hby d5_2) rfl ?_
      show Steps p.tables e below (s₁.setTop (mkF m 3 #[.val (.ref a1), .val (.int p2), .unset, .unset] [(.long ((1 : Int64) <<< (p2 &&& 0x3f).toInt64))])) _
      rw [← hbt]
      show Steps p.tables e below (s₁.setTop (mkF m 3 #[.val (.ref a1), .val (.int p2), .unset, .unset] [(.long bt)])) _
      refine XS.lstoreN X0.here hx rfl (hb hby d5_3) rfl (l' := #[.val (.ref a1), .val (.int p2), .val (.long bt), .second]) rfl ?_
      show Steps p.tables e below (s₁.setTop (mkF m 4 #[.val (.ref a1), .val (.int p2), .val (.long bt), .second] [])) _
      refine XS.aloadN X0.here hx rfl (hb hby d5_4) rfl rfl ?_
      show Steps p.tables e below (s₁.setTop (mkF m 5 #[.val (.ref a1), .val (.int p2), .val (.long bt), .second] [(.ref a1)])) _
      exact k)
  obtain ⟨T2, X2, e2, st2⟩ := getF X0 hx hZ hown (host := "") (Or.inl (hw _ (List.mem_of_getElem? (i := 15) rfl))) Via.refl e0 Ff (g := (mkF m 5 #[.val (.ref a1), .val (.int p2), .val (.long bt), .second] [(.ref a1)])) rfl rfl (hb hby d5_5)
  have go3 : ∀ t, Steps p.tables e below (T2.setTop (mkF m 8 #[.val (.ref a1), .val (.int p2), .val (.long bt), .second] [(.ref fo)])) t → G t := fun t k => go1 t (st2 _ k)
  have go4 : ∀ t, Steps p.tables e below (T2.setTop (mkF m 12 #[.val (.ref a1), .val (.int p2), .val (.long bt), .second] [(.int ix), (.ref fo)])) t → G t := fun t k => go3 t (by
      show Steps p.tables e below (T2.setTop (mkF m 8 #[.val (.ref a1), .val (.int p2), .val (.long bt), .second] [(.ref fo)])) _
      refine XS.iloadN X2.here hx rfl (hb hby d5_8) rfl ?_
      show Steps p.tables e below (T2.setTop (mkF m 9 #[.val (.ref a1), .val (.int p2), .val (.long bt), .second] [(.int p2), (.ref fo)])) _
      refine XS.bipush X2.here hx rfl (hb hby d5_9) ?_
      show Steps p.tables e below (T2.setTop (mkF m 11 #[.val (.ref a1), .val (.int p2), .val (.long bt), .second] [(.int (6 : Int32)), (.int p2), (.ref fo)])) _
      refine XS.iushr X2.here hx rfl (hb hby d5_11) rfl ?_
      show Steps p.tables e below (T2.setTop (mkF m 12 #[.val (.ref a1), .val (.int p2), .val (.long bt), .second] [(.int ((p2.toUInt32 >>> ((6 : Int32) &&& 31).toUInt32).toInt32)), (.ref fo)])) _
      rw [← hix]
      show Steps p.tables e below (T2.setTop (mkF m 12 #[.val (.ref a1), .val (.int p2), .val (.long bt), .second] [(.int ix), (.ref fo)])) _
      exact k)
  have st5 := X2.laload hx (j := ix) (v := (.long (F (p2.toInt.toNat / 64)))) (by rw [e2]; exact Af.1) (State.isArrayOf_alike hZ.alike Af.2.1) Af.2.2 hin hat (g := (mkF m 12 #[.val (.ref a1), .val (.int p2), .val (.long bt), .second] [(.int ix), (.ref fo)])) rfl rfl (hb hby d5_12)
  have go6 : ∀ t, Steps p.tables e below (T2.setTop (mkF m 13 #[.val (.ref a1), .val (.int p2), .val (.long bt), .second] [(.long (F (p2.toInt.toNat / 64)))])) t → G t := fun t k => go4 t (st5 _ k)
  by_cases hm : p2 ∈ xs
  · have hnz : ¬ (F (p2.toInt.toNat / 64) &&& bt) = 0 := fun z => htest.mp z hm
    have go7 : ∀ t, Steps p.tables e below (T2.setTop (mkF m 21 #[.val (.ref a1), .val (.int p2), .val (.long bt), .second] [(.int (0 : Int32))])) t → G t := fun t k => go6 t (by
        show Steps p.tables e below (T2.setTop (mkF m 13 #[.val (.ref a1), .val (.int p2), .val (.long bt), .second] [(.long (F (p2.toInt.toNat / 64)))])) _
        refine XS.lloadN X2.here hx rfl (hb hby d5_13) rfl ?_
        show Steps p.tables e below (T2.setTop (mkF m 14 #[.val (.ref a1), .val (.int p2), .val (.long bt), .second] [(.long bt), (.long (F (p2.toInt.toNat / 64)))])) _
        refine XS.land X2.here hx rfl (hb hby d5_14) rfl ?_
        show Steps p.tables e below (T2.setTop (mkF m 15 #[.val (.ref a1), .val (.int p2), .val (.long bt), .second] [(.long ((F (p2.toInt.toNat / 64)) &&& bt))])) _
        refine XS.lconst X2.here hx rfl (hb hby d5_15) ?_
        show Steps p.tables e below (T2.setTop (mkF m 16 #[.val (.ref a1), .val (.int p2), .val (.long bt), .second] [(.long (0 : Int64)), (.long ((F (p2.toInt.toNat / 64)) &&& bt))])) _
        refine XS.lcmp X2.here hx rfl (hb hby d5_16) rfl ?_
        show Steps p.tables e below (T2.setTop (mkF m 17 #[.val (.ref a1), .val (.int p2), .val (.long bt), .second] [(.int (lcmpW ((F (p2.toInt.toNat / 64)) &&& bt) (0 : Int64)))])) _
        refine XS.ifNo X2.here hx rfl (hb hby d5_17) rfl ((if0 _ _).trans (feq (fun z => hnz ((lw_eq _ _).mp z))).1) ?_
        show Steps p.tables e below (T2.setTop (mkF m 20 #[.val (.ref a1), .val (.int p2), .val (.long bt), .second] [])) _
        refine XS.iconst X2.here hx rfl (hb hby d5_20) ?_
        show Steps p.tables e below (T2.setTop (mkF m 21 #[.val (.ref a1), .val (.int p2), .val (.long bt), .second] [(.int (0 : Int32))])) _
        exact k)
    obtain ⟨fs, hr, hrun, hended, hW, hsame⟩ := X2.leave (v := some (.int (0 : Int32))) (fun h => by rw [Bd.returns] at h; cases h)
    refine ⟨_, _, fin _ (go7 _ ?_), hrun, hended, _, _, rfl, ?_, ⟨_, rfl⟩, hW, hsame.mono (by decide) (by decide)⟩
    · exact retN X2 hx (t := .boolean) Bd.returns (by simp) (hb hby d5_21) hr
    · show Q5 Z a1 p2 li fo nw xs g F h0 n0 _ T2.heap _
      rw [e2]
      exact ⟨by rw [own_res_in hm], N0, g, F, by rw [own_add_in hm]; exact H, by rw [own_add_in hm]; exact hrel⟩
  · have hz : (F (p2.toInt.toNat / 64) &&& bt) = 0 := htest.mpr hm
    have go8 : ∀ t, Steps p.tables e below (T2.setTop (mkF m 23 #[.val (.ref a1), .val (.int p2), .val (.long bt), .second] [(.ref a1)])) t → G t := fun t k => go6 t (by
        show Steps p.tables e below (T2.setTop (mkF m 13 #[.val (.ref a1), .val (.int p2), .val (.long bt), .second] [(.long (F (p2.toInt.toNat / 64)))])) _
        refine XS.lloadN X2.here hx rfl (hb hby d5_13) rfl ?_
        show Steps p.tables e below (T2.setTop (mkF m 14 #[.val (.ref a1), .val (.int p2), .val (.long bt), .second] [(.long bt), (.long (F (p2.toInt.toNat / 64)))])) _
        refine XS.land X2.here hx rfl (hb hby d5_14) rfl ?_
        show Steps p.tables e below (T2.setTop (mkF m 15 #[.val (.ref a1), .val (.int p2), .val (.long bt), .second] [(.long ((F (p2.toInt.toNat / 64)) &&& bt))])) _
        refine XS.lconst X2.here hx rfl (hb hby d5_15) ?_
        show Steps p.tables e below (T2.setTop (mkF m 16 #[.val (.ref a1), .val (.int p2), .val (.long bt), .second] [(.long (0 : Int64)), (.long ((F (p2.toInt.toNat / 64)) &&& bt))])) _
        refine XS.lcmp X2.here hx rfl (hb hby d5_16) rfl ?_
        show Steps p.tables e below (T2.setTop (mkF m 17 #[.val (.ref a1), .val (.int p2), .val (.long bt), .second] [(.int (lcmpW ((F (p2.toInt.toNat / 64)) &&& bt) (0 : Int64)))])) _
        refine XS.ifYes X2.here hx rfl (pc0 := 17) (pc' := 22) rfl (hb hby d5_17) rfl ((if0 _ _).trans (teq ((lw_eq _ _).mpr hz)).1) (by decide) (by decide) ?_
        show Steps p.tables e below (T2.setTop (mkF m 22 #[.val (.ref a1), .val (.int p2), .val (.long bt), .second] [])) _
        refine XS.aloadN X2.here hx rfl (hb hby d5_22) rfl rfl ?_
        show Steps p.tables e below (T2.setTop (mkF m 23 #[.val (.ref a1), .val (.int p2), .val (.long bt), .second] [(.ref a1)])) _
        exact k)
    obtain ⟨T9, X9, e9, st9⟩ := getF X2 hx hZ hown (host := "") (Or.inl (hw _ (List.mem_of_getElem? (i := 15) rfl))) Via.refl e2 Ff (g := (mkF m 23 #[.val (.ref a1), .val (.int p2), .val (.long bt), .second] [(.ref a1)])) rfl rfl (hb hby d5_23)
    have go10 : ∀ t, Steps p.tables e below (T9.setTop (mkF m 26 #[.val (.ref a1), .val (.int p2), .val (.long bt), .second] [(.ref fo)])) t → G t := fun t k => go8 t (st9 _ k)
    have go11 : ∀ t, Steps p.tables e below (T9.setTop (mkF m 31 #[.val (.ref a1), .val (.int p2), .val (.long bt), .second] [(.int ix), (.ref fo), (.int ix), (.ref fo)])) t → G t := fun t k => go10 t (by
        show Steps p.tables e below (T9.setTop (mkF m 26 #[.val (.ref a1), .val (.int p2), .val (.long bt), .second] [(.ref fo)])) _
        refine XS.iloadN X9.here hx rfl (hb hby d5_26) rfl ?_
        show Steps p.tables e below (T9.setTop (mkF m 27 #[.val (.ref a1), .val (.int p2), .val (.long bt), .second] [(.int p2), (.ref fo)])) _
        refine XS.bipush X9.here hx rfl (hb hby d5_27) ?_
        show Steps p.tables e below (T9.setTop (mkF m 29 #[.val (.ref a1), .val (.int p2), .val (.long bt), .second] [(.int (6 : Int32)), (.int p2), (.ref fo)])) _
        refine XS.iushr X9.here hx rfl (hb hby d5_29) rfl ?_
        show Steps p.tables e below (T9.setTop (mkF m 30 #[.val (.ref a1), .val (.int p2), .val (.long bt), .second] [(.int ((p2.toUInt32 >>> ((6 : Int32) &&& 31).toUInt32).toInt32)), (.ref fo)])) _
        rw [← hix]
        show Steps p.tables e below (T9.setTop (mkF m 30 #[.val (.ref a1), .val (.int p2), .val (.long bt), .second] [(.int ix), (.ref fo)])) _
        refine XT.dup2 X9.here hx rfl (hb hby d5_30) rfl rfl rfl ?_
        show Steps p.tables e below (T9.setTop (mkF m 31 #[.val (.ref a1), .val (.int p2), .val (.long bt), .second] [(.int ix), (.ref fo), (.int ix), (.ref fo)])) _
        exact k)
    have st12 := X9.laload hx (j := ix) (v := (.long (F (p2.toInt.toNat / 64)))) (by rw [e9]; exact Af.1) (State.isArrayOf_alike hZ.alike Af.2.1) Af.2.2 hin hat (g := (mkF m 31 #[.val (.ref a1), .val (.int p2), .val (.long bt), .second] [(.int ix), (.ref fo), (.int ix), (.ref fo)])) rfl rfl (hb hby d5_31)
    have go13 : ∀ t, Steps p.tables e below (T9.setTop (mkF m 32 #[.val (.ref a1), .val (.int p2), .val (.long bt), .second] [(.long (F (p2.toInt.toNat / 64))), (.int ix), (.ref fo)])) t → G t := fun t k => go11 t (st12 _ k)
    have go14 : ∀ t, Steps p.tables e below (T9.setTop (mkF m 34 #[.val (.ref a1), .val (.int p2), .val (.long bt), .second] [(.long ((F (p2.toInt.toNat / 64)) ||| bt)), (.int ix), (.ref fo)])) t → G t := fun t k => go13 t (by
        show Steps p.tables e below (T9.setTop (mkF m 32 #[.val (.ref a1), .val (.int p2), .val (.long bt), .second] [(.long (F (p2.toInt.toNat / 64))), (.int ix), (.ref fo)])) _
        refine XS.lloadN X9.here hx rfl (hb hby d5_32) rfl ?_
        show Steps p.tables e below (T9.setTop (mkF m 33 #[.val (.ref a1), .val (.int p2), .val (.long bt), .second] [(.long bt), (.long (F (p2.toInt.toNat / 64))), (.int ix), (.ref fo)])) _
        refine XS.lor X9.here hx rfl (hb hby d5_33) rfl ?_
        show Steps p.tables e below (T9.setTop (mkF m 34 #[.val (.ref a1), .val (.int p2), .val (.long bt), .second] [(.long ((F (p2.toInt.toNat / 64)) ||| bt)), (.int ix), (.ref fo)])) _
        exact k)
    obtain ⟨T15, h15, X15, e15, W15, st15⟩ := stJ X9 hx hZ e9 Af (j := ix) hin (g := (mkF m 34 #[.val (.ref a1), .val (.int p2), .val (.long bt), .second] [(.long ((F (p2.toInt.toNat / 64)) ||| bt)), (.int ix), (.ref fo)])) rfl rfl (hb hby d5_34)
    have N15 := Fr.snoc X15 N0 g3
    have go16 : ∀ t, Steps p.tables e below (T15.setTop (mkF m 35 #[.val (.ref a1), .val (.int p2), .val (.long bt), .second] [])) t → G t := fun t k => go14 t (st15 _ k)
    have Fl1 := Fl.other W15 (Or.inl d2)
    have Ff1 := Ff.other W15 (Or.inl d2)
    have Fc1 := Fc.other W15 (Or.inl d2)
    have Al1 := Al.other W15 d3
    have Bf1 := own_arr_set (f := fun w => .long (F w)) ⟨cf, Af, Sf, Hf⟩ W15
    have hne : ¬ Int32.ofNat xs.length = (16 : Int32) := fun z => by have := congrArg Int32.toInt z; rw [own_ofNat (by omega), show (16 : Int32).toInt = 16 from rfl] at this; omega
    have go17 : ∀ t, Steps p.tables e below (T15.setTop (mkF m 36 #[.val (.ref a1), .val (.int p2), .val (.long bt), .second] [(.ref a1)])) t → G t := fun t k => go16 t (by
        show Steps p.tables e below (T15.setTop (mkF m 35 #[.val (.ref a1), .val (.int p2), .val (.long bt), .second] [])) _
        refine XS.aloadN X15.here hx rfl (hb hby d5_35) rfl rfl ?_
        show Steps p.tables e below (T15.setTop (mkF m 36 #[.val (.ref a1), .val (.int p2), .val (.long bt), .second] [(.ref a1)])) _
        exact k)
    obtain ⟨T18, X18, e18, st18⟩ := getF X15 hx hZ hown (host := "") (Or.inl (hw _ (List.mem_of_getElem? (i := 22) rfl))) Via.refl e15 Fc1 (g := (mkF m 36 #[.val (.ref a1), .val (.int p2), .val (.long bt), .second] [(.ref a1)])) rfl rfl (hb hby d5_36)
    have go19 : ∀ t, Steps p.tables e below (T18.setTop (mkF m 39 #[.val (.ref a1), .val (.int p2), .val (.long bt), .second] [(.int (Int32.ofNat xs.length))])) t → G t := fun t k => go17 t (st18 _ k)
    have go20 : ∀ t, Steps p.tables e below (T18.setTop (mkF m 40 #[.val (.ref a1), .val (.int p2), .val (.long bt), .second] [(.ref a1), (.int (Int32.ofNat xs.length))])) t → G t := fun t k => go19 t (by
        show Steps p.tables e below (T18.setTop (mkF m 39 #[.val (.ref a1), .val (.int p2), .val (.long bt), .second] [(.int (Int32.ofNat xs.length))])) _
        refine XS.aloadN X18.here hx rfl (hb hby d5_39) rfl rfl ?_
        show Steps p.tables e below (T18.setTop (mkF m 40 #[.val (.ref a1), .val (.int p2), .val (.long bt), .second] [(.ref a1), (.int (Int32.ofNat xs.length))])) _
        exact k)
    obtain ⟨T21, X21, e21, st21⟩ := getF X18 hx hZ hown (host := "") (Or.inl (hw _ (List.mem_of_getElem? (i := 11) rfl))) Via.refl e18 Fl1 (g := (mkF m 40 #[.val (.ref a1), .val (.int p2), .val (.long bt), .second] [(.ref a1), (.int (Int32.ofNat xs.length))])) rfl rfl (hb hby d5_40)
    have go22 : ∀ t, Steps p.tables e below (T21.setTop (mkF m 43 #[.val (.ref a1), .val (.int p2), .val (.long bt), .second] [(.ref li), (.int (Int32.ofNat xs.length))])) t → G t := fun t k => go20 t (st21 _ k)
    have Sl' : cl.slots.size = (16 : Int32).toNatClampNeg := Sl
    have st23 := X21.arraylength hx (by rw [e21]; exact Al1.1) (State.isArrayOf_alike hZ.alike Al1.2.1) (g := (mkF m 43 #[.val (.ref a1), .val (.int p2), .val (.long bt), .second] [(.ref li), (.int (Int32.ofNat xs.length))])) rfl rfl (hb hby d5_43)
    rw [len_of Sl' (by decide)] at st23
    have go24 : ∀ t, Steps p.tables e below (T21.setTop (mkF m 44 #[.val (.ref a1), .val (.int p2), .val (.long bt), .second] [(.int (16 : Int32)), (.int (Int32.ofNat xs.length))])) t → G t := fun t k => go22 t (st23 _ k)
    have go25 : ∀ t, Steps p.tables e below (T21.setTop (mkF m 65 #[.val (.ref a1), .val (.int p2), .val (.long bt), .second] [(.ref a1)])) t → G t := fun t k => go24 t (by
        show Steps p.tables e below (T21.setTop (mkF m 44 #[.val (.ref a1), .val (.int p2), .val (.long bt), .second] [(.int (16 : Int32)), (.int (Int32.ofNat xs.length))])) _
        refine XS.icmpYes X21.here hx rfl (pc0 := 44) (pc' := 64) rfl (hb hby d5_44) rfl (feq hne).2 (by decide) (by decide) ?_
        show Steps p.tables e below (T21.setTop (mkF m 64 #[.val (.ref a1), .val (.int p2), .val (.long bt), .second] [])) _
        refine XS.aloadN X21.here hx rfl (hb hby d5_64) rfl rfl ?_
        show Steps p.tables e below (T21.setTop (mkF m 65 #[.val (.ref a1), .val (.int p2), .val (.long bt), .second] [(.ref a1)])) _
        exact k)
    obtain ⟨T26, X26, e26, st26⟩ := getF X21 hx hZ hown (host := "") (Or.inl (hw _ (List.mem_of_getElem? (i := 11) rfl))) Via.refl e21 Fl1 (g := (mkF m 65 #[.val (.ref a1), .val (.int p2), .val (.long bt), .second] [(.ref a1)])) rfl rfl (hb hby d5_65)
    have go27 : ∀ t, Steps p.tables e below (T26.setTop (mkF m 68 #[.val (.ref a1), .val (.int p2), .val (.long bt), .second] [(.ref li)])) t → G t := fun t k => go25 t (st26 _ k)
    have go28 : ∀ t, Steps p.tables e below (T26.setTop (mkF m 70 #[.val (.ref a1), .val (.int p2), .val (.long bt), .second] [(.ref a1), (.ref a1), (.ref li)])) t → G t := fun t k => go27 t (by
        show Steps p.tables e below (T26.setTop (mkF m 68 #[.val (.ref a1), .val (.int p2), .val (.long bt), .second] [(.ref li)])) _
        refine XS.aloadN X26.here hx rfl (hb hby d5_68) rfl rfl ?_
        show Steps p.tables e below (T26.setTop (mkF m 69 #[.val (.ref a1), .val (.int p2), .val (.long bt), .second] [(.ref a1), (.ref li)])) _
        refine XS.dup X26.here hx rfl (hb hby d5_69) rfl rfl ?_
        show Steps p.tables e below (T26.setTop (mkF m 70 #[.val (.ref a1), .val (.int p2), .val (.long bt), .second] [(.ref a1), (.ref a1), (.ref li)])) _
        exact k)
    obtain ⟨T29, X29, e29, st29⟩ := getF X26 hx hZ hown (host := "") (Or.inl (hw _ (List.mem_of_getElem? (i := 22) rfl))) Via.refl e26 Fc1 (g := (mkF m 70 #[.val (.ref a1), .val (.int p2), .val (.long bt), .second] [(.ref a1), (.ref a1), (.ref li)])) rfl rfl (hb hby d5_70)
    have go30 : ∀ t, Steps p.tables e below (T29.setTop (mkF m 73 #[.val (.ref a1), .val (.int p2), .val (.long bt), .second] [(.int (Int32.ofNat xs.length)), (.ref a1), (.ref li)])) t → G t := fun t k => go28 t (st29 _ k)
    have go31 : ∀ t, Steps p.tables e below (T29.setTop (mkF m 76 #[.val (.ref a1), .val (.int p2), .val (.long bt), .second] [(.int ((Int32.ofNat xs.length) + (1 : Int32))), (.ref a1), (.int (Int32.ofNat xs.length)), (.ref li)])) t → G t := fun t k => go30 t (by
        show Steps p.tables e below (T29.setTop (mkF m 73 #[.val (.ref a1), .val (.int p2), .val (.long bt), .second] [(.int (Int32.ofNat xs.length)), (.ref a1), (.ref li)])) _
        refine XS.dupX1 X29.here hx rfl (hb hby d5_73) rfl rfl rfl ?_
        show Steps p.tables e below (T29.setTop (mkF m 74 #[.val (.ref a1), .val (.int p2), .val (.long bt), .second] [(.int (Int32.ofNat xs.length)), (.ref a1), (.int (Int32.ofNat xs.length)), (.ref li)])) _
        refine XS.iconst X29.here hx rfl (hb hby d5_74) ?_
        show Steps p.tables e below (T29.setTop (mkF m 75 #[.val (.ref a1), .val (.int p2), .val (.long bt), .second] [(.int (1 : Int32)), (.int (Int32.ofNat xs.length)), (.ref a1), (.int (Int32.ofNat xs.length)), (.ref li)])) _
        refine XS.iadd X29.here hx rfl (hb hby d5_75) rfl ?_
        show Steps p.tables e below (T29.setTop (mkF m 76 #[.val (.ref a1), .val (.int p2), .val (.long bt), .second] [(.int ((Int32.ofNat xs.length) + (1 : Int32))), (.ref a1), (.int (Int32.ofNat xs.length)), (.ref li)])) _
        exact k)
    obtain ⟨T32, h32, X32, e32, W32, st32⟩ := putF X29 hx hZ hown (host := "") (Or.inl (hw _ (List.mem_of_getElem? (i := 22) rfl))) Via.refl e29 Fc1 (E1.wr W15) (Or.inl (hw _ (List.mem_of_getElem? (i := 23) rfl))) (hw _ (List.mem_of_getElem? (i := 2) rfl)) (ty := .int) (by decide) rfl rfl (g := (mkF m 76 #[.val (.ref a1), .val (.int p2), .val (.long bt), .second] [(.int ((Int32.ofNat xs.length) + (1 : Int32))), (.ref a1), (.int (Int32.ofNat xs.length)), (.ref li)])) rfl rfl (hb hby d5_76)
    have N32 := Fr.snoc X32 N15 g1
    have go33 : ∀ t, Steps p.tables e below (T32.setTop (mkF m 79 #[.val (.ref a1), .val (.int p2), .val (.long bt), .second] [(.int (Int32.ofNat xs.length)), (.ref li)])) t → G t := fun t k => go31 t (st32 _ k)
    have go34 : ∀ t, Steps p.tables e below (T32.setTop (mkF m 80 #[.val (.ref a1), .val (.int p2), .val (.long bt), .second] [(.int p2), (.int (Int32.ofNat xs.length)), (.ref li)])) t → G t := fun t k => go33 t (by
        show Steps p.tables e below (T32.setTop (mkF m 79 #[.val (.ref a1), .val (.int p2), .val (.long bt), .second] [(.int (Int32.ofNat xs.length)), (.ref li)])) _
        refine XS.iloadN X32.here hx rfl (hb hby d5_79) rfl ?_
        show Steps p.tables e below (T32.setTop (mkF m 80 #[.val (.ref a1), .val (.int p2), .val (.long bt), .second] [(.int p2), (.int (Int32.ofNat xs.length)), (.ref li)])) _
        exact k)
    have hlen : (Int32.ofNat xs.length).toInt = xs.length := own_ofNat (by omega)
    have hin2 : ¬ (Int32.ofNat xs.length < 0 ∨ cl.slots.size ≤ (Int32.ofNat xs.length).toNatClampNeg) := own_in Sl (by omega) (by omega)
    have Al2 := Al1.other W32 (Ne.symm d1)
    obtain ⟨T35, h35, X35, e35, W35, st35⟩ := stI X32 hx hZ e32 Al2 (j := (Int32.ofNat xs.length)) hin2 (g := (mkF m 80 #[.val (.ref a1), .val (.int p2), .val (.long bt), .second] [(.int p2), (.int (Int32.ofNat xs.length)), (.ref li)])) rfl rfl (hb hby d5_80)
    have N35 := Fr.snoc X35 N32 g2
    have go36 : ∀ t, Steps p.tables e below (T35.setTop (mkF m 81 #[.val (.ref a1), .val (.int p2), .val (.long bt), .second] [])) t → G t := fun t k => go34 t (st35 _ k)
    have go37 : ∀ t, Steps p.tables e below (T35.setTop (mkF m 82 #[.val (.ref a1), .val (.int p2), .val (.long bt), .second] [(.int (1 : Int32))])) t → G t := fun t k => go36 t (by
        show Steps p.tables e below (T35.setTop (mkF m 81 #[.val (.ref a1), .val (.int p2), .val (.long bt), .second] [])) _
        refine XS.iconst X35.here hx rfl (hb hby d5_81) ?_
        show Steps p.tables e below (T35.setTop (mkF m 82 #[.val (.ref a1), .val (.int p2), .val (.long bt), .second] [(.int (1 : Int32))])) _
        exact k)
    have hcn : (Int32.ofNat xs.length).toNatClampNeg = xs.length := by show (Int32.ofNat xs.length).toInt.toNat = _; omega
    have Bl3 := own_arr_set (f := fun j => .int (g j)) ⟨cl, Al2, Sl, Hl⟩ W35
    have Bf3 := own_arr_other (own_arr_other Bf1 W32 (Ne.symm d2)) W35 (Ne.symm d3)
    have Fl3 := (Fl1.other W32 (Or.inr (slot_ne (Or.inl (hw _ (List.mem_of_getElem? (i := 12) rfl))) (Or.inl (hw _ (List.mem_of_getElem? (i := 23) rfl))) (by decide) (t := (.array .int)) (t' := .int) (by decide) (by decide)))).other W35 (Or.inl d1)
    have Ff3 := (Ff1.other W32 (Or.inr (slot_ne (Or.inr (hw _ (List.mem_of_getElem? (i := 16) rfl))) (Or.inl (hw _ (List.mem_of_getElem? (i := 23) rfl))) (by decide) (t := (.array .long)) (t' := .int) (by decide) (by decide)))).other W35 (Or.inl d1)
    have Fc3 := (Fc1.same W32).other W35 (Or.inl d1)
    have E3 := ((E1.wr W15).wr W32).wr W35
    have hl1 : (own_add xs p2).length = xs.length + 1 := by rw [own_add_out hm, List.length_append]; rfl
    have Bl4 : own_arr Z h35 li .int 16 (fun j => .int ((fun j => if j = xs.length then p2 else g j) j)) := own_arr_eq Bl3 (fun j _ => by rw [hcn]; dsimp only; split <;> rfl)
    have hixc : ix.toNatClampNeg = p2.toInt.toNat / 64 := hixn
    have Bf4 : own_arr Z h35 fo .long nw (fun w => .long ((fun w => if w = p2.toInt.toNat / 64 then F (p2.toInt.toNat / 64) ||| own_bt p2 else F w) w)) := own_arr_eq Bf3 (fun j _ => by rw [hixc, hbt]; dsimp only; split <;> rfl)
    obtain ⟨fs, hr, hrun, hended, hW, hsame⟩ := X35.leave (v := some (.int (1 : Int32))) (fun h => by rw [Bd.returns] at h; cases h)
    refine ⟨_, _, fin _ (go37 _ ?_), hrun, hended, _, _, rfl, ?_, ⟨_, rfl⟩, hW, hsame.mono (by decide) (by decide)⟩
    · exact retN X35 hx (t := .boolean) Bd.returns (by simp) (hb hby d5_82) hr
    · show Q5 Z a1 p2 li fo nw xs g F h0 n0 _ T35.heap _
      rw [e35]
      exact ⟨by rw [own_res_out hm], N35, _, _, ⟨⟨E3, Fl3, Ff3, by rw [hl1, ← own_one]; exact Fc3⟩, ⟨Bl4, Bf4⟩, ⟨d1, d2, d3⟩, ⟨g1, g2, g3⟩, Nat.le_trans g1 (Nat.le_of_lt E3.lt)⟩, by rw [own_add_out hm]; exact own_rel_add hrel hp0 hp1⟩
theorem d3_0 : decode prog_41_method_6_code 0 = .ok (.iconst 0, 1) := by decide +kernel
theorem d3_1 : decode prog_41_method_6_code 1 = .ok (.istore_n 1, 1) := by decide +kernel
theorem d3_2 : decode prog_41_method_6_code 2 = .ok (.iload_n 1, 1) := by decide +kernel
theorem d3_3 : decode prog_41_method_6_code 3 = .ok (.aload_n 0, 1) := by decide +kernel
theorem d3_4 : decode prog_41_method_6_code 4 = .ok (.getfield 19, 3) := by decide +kernel
theorem d3_7 : decode prog_41_method_6_code 7 = .ok (.if_icmp .ge 38, 3) := by decide +kernel
theorem d3_10 : decode prog_41_method_6_code 10 = .ok (.aload_n 0, 1) := by decide +kernel
theorem d3_11 : decode prog_41_method_6_code 11 = .ok (.getfield 15, 3) := by decide +kernel
theorem d3_14 : decode prog_41_method_6_code 14 = .ok (.aload_n 0, 1) := by decide +kernel
theorem d3_15 : decode prog_41_method_6_code 15 = .ok (.getfield 7, 3) := by decide +kernel
theorem d3_18 : decode prog_41_method_6_code 18 = .ok (.iload_n 1, 1) := by decide +kernel
theorem d3_19 : decode prog_41_method_6_code 19 = .ok (.iaload, 1) := by decide +kernel
theorem d3_20 : decode prog_41_method_6_code 20 = .ok (.bipush 6, 2) := by decide +kernel
theorem d3_22 : decode prog_41_method_6_code 22 = .ok (.iushr, 1) := by decide +kernel
theorem d3_23 : decode prog_41_method_6_code 23 = .ok (.dup2, 1) := by decide +kernel
theorem d3_24 : decode prog_41_method_6_code 24 = .ok (.laload, 1) := by decide +kernel
theorem d3_25 : decode prog_41_method_6_code 25 = .ok (.lconst 1, 1) := by decide +kernel
theorem d3_26 : decode prog_41_method_6_code 26 = .ok (.aload_n 0, 1) := by decide +kernel
theorem d3_27 : decode prog_41_method_6_code 27 = .ok (.getfield 7, 3) := by decide +kernel
theorem d3_30 : decode prog_41_method_6_code 30 = .ok (.iload_n 1, 1) := by decide +kernel
theorem d3_31 : decode prog_41_method_6_code 31 = .ok (.iaload, 1) := by decide +kernel
theorem d3_32 : decode prog_41_method_6_code 32 = .ok (.lshl, 1) := by decide +kernel
theorem d3_33 : decode prog_41_method_6_code 33 = .ok (.ldc2_w 33, 3) := by decide +kernel
theorem d3_36 : decode prog_41_method_6_code 36 = .ok (.lxor, 1) := by decide +kernel
theorem d3_37 : decode prog_41_method_6_code 37 = .ok (.land, 1) := by decide +kernel
theorem d3_38 : decode prog_41_method_6_code 38 = .ok (.lastore, 1) := by decide +kernel
theorem d3_39 : decode prog_41_method_6_code 39 = .ok (.iinc 1 1, 3) := by decide +kernel
theorem d3_42 : decode prog_41_method_6_code 42 = .ok (.goto (-40), 3) := by decide +kernel
theorem d3_45 : decode prog_41_method_6_code 45 = .ok (.aload_n 0, 1) := by decide +kernel
theorem d3_46 : decode prog_41_method_6_code 46 = .ok (.iconst 0, 1) := by decide +kernel
theorem d3_47 : decode prog_41_method_6_code 47 = .ok (.putfield 19, 3) := by decide +kernel
theorem d3_50 : decode prog_41_method_6_code 50 = .ok (.return_, 1) := by decide +kernel
theorem pn_3 : plainName "com/example/setwright/setwright/analysis/FragmentAutomaton$Hits" = true := by first | (simp [plainName, overriddenIn]; done) | decide +kernel
theorem ef_3 (m : MethodId) (a1 : Addr) : entryFrame m #[(.ref a1)] 2 = mkF m 0 #[.val (.ref a1), .unset] [] := by first | (simp [entryFrame, mkF, argsToLocals, Value.category]; done) | rfl
set_option maxRecDepth 65536 in
set_option maxHeartbeats 40000000 in
theorem tn3 {p : Program} {l : Launch} {e : Env} {s : State} {m : MethodId} {args : Array Value} {below : List Frame} {meth : Method} {c : Code} {Z : State} {a0 : Array Value} {R : Room} {cells slots : Nat} (a1 : Addr) (li : Addr) (fo : Addr) (nw : Nat) (cnt : Nat) (g : Nat → Int32) (i : Nat) (n0 : Nat) (hx : p.tables.exec = Jvm.exec) (hZ : Z.Warmed39 s.vm) (hw : ∀ d ∈ tables_1, d.before a0 Z = true) (hby : c.code = prog_41_method_6_code) (hml : c.maxLocals = 2) (hown : s.vm.findClass "com/example/setwright/setwright/analysis/FragmentAutomaton$Hits" = some m.cls)
    (T0 : State) (h0 : Heap) (locs : List Loc) (X0 : Stand p l e R s m args below meth c T0 locs cells slots) (e0 : T0.heap = h0) (N0 : Fr n0 locs) (Z0 : n0 ≤ h0.size) (F : Nat → Int64) (H : own_heap Z h0 n0 a1 li fo nw cnt g F) (hi : i < cnt) (hcnt : cnt < 16) (hp0 : 0 ≤ (g i).toInt) (hp1 : (g i).toInt.toNat < 64 * nw) :
    ∃ (T' : State) (h' : Heap) (locs' : List Loc), Stand p l e R s m args below meth c T' locs' cells slots ∧ T'.heap = h' ∧ Fr n0 locs' ∧ n0 ≤ h'.size ∧ (own_heap Z h' n0 a1 li fo nw cnt g (fun w => if w = (g i).toInt.toNat / 64 then F ((g i).toInt.toNat / 64) &&& (own_bt (g i) ^^^ (-1 : Int64)) else F w)) ∧
      ∀ t, Steps p.tables e below (T'.setTop (mkF m 2 #[.val (.ref a1), .val (.int (Int32.ofNat (i + 1)))] [])) t → Steps p.tables e below (T0.setTop (mkF m 2 #[.val (.ref a1), .val (.int (Int32.ofNat i))] [])) t := by
  obtain ⟨G, hG⟩ : ∃ G : State → Prop, G = fun t => Steps p.tables e below (T0.setTop (mkF m 2 #[.val (.ref a1), .val (.int (Int32.ofNat i))] [])) t := ⟨_, rfl⟩
  have fin : ∀ t, G t → Steps p.tables e below (T0.setTop (mkF m 2 #[.val (.ref a1), .val (.int (Int32.ofNat i))] [])) t := by rw [hG]; exact fun _ k => k
  have go0 : ∀ t, Steps p.tables e below (T0.setTop (mkF m 2 #[.val (.ref a1), .val (.int (Int32.ofNat i))] [])) t → G t := by rw [hG]; exact fun _ k => k
  obtain ⟨⟨E1, Fl, Ff, Fc⟩, ⟨⟨cl, Al, Sl, Hl⟩, ⟨cf, Af, Sf, Hf⟩⟩, ⟨d1, d2, d3⟩, ⟨g1, g2, g3⟩, Zh⟩ := id H
  obtain ⟨y, hy⟩ : ∃ z : Int32, z = g i := ⟨_, rfl⟩
  rw [← hy] at hp0 hp1
  obtain ⟨bt, hbt⟩ : ∃ z : Int64, z = ((1 : Int64) <<< (y &&& 0x3f).toInt64) := ⟨_, rfl⟩
  obtain ⟨ix, hix⟩ : ∃ z : Int32, z = ((y.toUInt32 >>> ((6 : Int32) &&& 31).toUInt32).toInt32) := ⟨_, rfl⟩
  have hixv := own_ixv y hp0
  have hixv2 : ix.toInt = y.toInt / 64 := by rw [hix]; exact hixv
  have hixn : ix.toInt.toNat = y.toInt.toNat / 64 := by omega
  have hin : ¬ (ix < 0 ∨ cf.slots.size ≤ ix.toNatClampNeg) := own_in Sf (by omega) (by omega)
  have hat : cf.slots[ix.toNatClampNeg]? = some (.long (F (y.toInt.toNat / 64))) := by have := Hf (y.toInt.toNat / 64) (by omega); rw [← hixn] at this ⊢; exact this
  have hiv : (Int32.ofNat i).toInt = i := own_ofNat (by omega)
  have hcv : (Int32.ofNat cnt).toInt = cnt := own_ofNat (by omega)
  have hinl : ¬ (Int32.ofNat i < 0 ∨ cl.slots.size ≤ (Int32.ofNat i).toNatClampNeg) := own_in Sl (by omega) (by omega)
  have hic : (Int32.ofNat i).toNatClampNeg = i := by show (Int32.ofNat i).toInt.toNat = _; omega
  have hatl : cl.slots[(Int32.ofNat i).toNatClampNeg]? = some (.int y) := by rw [hic, hy]; exact Hl i (by omega)
  have go1 : ∀ t, Steps p.tables e below (T0.setTop (mkF m 4 #[.val (.ref a1), .val (.int (Int32.ofNat i))] [(.ref a1), (.int (Int32.ofNat i))])) t → G t := fun t k => go0 t (by
      show Steps p.tables e below (T0.setTop (mkF m 2 #[.val (.ref a1), .val (.int (Int32.ofNat i))] [])) _
      refine XS.iloadN X0.here hx rfl (hb hby d3_2) rfl ?_
      show Steps p.tables e below (T0.setTop (mkF m 3 #[.val (.ref a1), .val (.int (Int32.ofNat i))] [(.int (Int32.ofNat i))])) _
      refine XS.aloadN X0.here hx rfl (hb hby d3_3) rfl rfl ?_
      show Steps p.tables e below (T0.setTop (mkF m 4 #[.val (.ref a1), .val (.int (Int32.ofNat i))] [(.ref a1), (.int (Int32.ofNat i))])) _
      exact k)
  obtain ⟨T2, X2, e2, st2⟩ := getF X0 hx hZ hown (host := "") (Or.inl (hw _ (List.mem_of_getElem? (i := 22) rfl))) Via.refl e0 Fc (g := (mkF m 4 #[.val (.ref a1), .val (.int (Int32.ofNat i))] [(.ref a1), (.int (Int32.ofNat i))])) rfl rfl (hb hby d3_4)
  have go3 : ∀ t, Steps p.tables e below (T2.setTop (mkF m 7 #[.val (.ref a1), .val (.int (Int32.ofNat i))] [(.int (Int32.ofNat cnt)), (.int (Int32.ofNat i))])) t → G t := fun t k => go1 t (st2 _ k)
  have go4 : ∀ t, Steps p.tables e below (T2.setTop (mkF m 11 #[.val (.ref a1), .val (.int (Int32.ofNat i))] [(.ref a1)])) t → G t := fun t k => go3 t (by
      show Steps p.tables e below (T2.setTop (mkF m 7 #[.val (.ref a1), .val (.int (Int32.ofNat i))] [(.int (Int32.ofNat cnt)), (.int (Int32.ofNat i))])) _
      refine XS.icmpNo X2.here hx rfl (hb hby d3_7) rfl (tlt (Int32.lt_iff_toInt_lt.mpr (by omega))).2.1 ?_
      show Steps p.tables e below (T2.setTop (mkF m 10 #[.val (.ref a1), .val (.int (Int32.ofNat i))] [])) _
      refine XS.aloadN X2.here hx rfl (hb hby d3_10) rfl rfl ?_
      show Steps p.tables e below (T2.setTop (mkF m 11 #[.val (.ref a1), .val (.int (Int32.ofNat i))] [(.ref a1)])) _
      exact k)
  obtain ⟨T5, X5, e5, st5⟩ := getF X2 hx hZ hown (host := "") (Or.inl (hw _ (List.mem_of_getElem? (i := 15) rfl))) Via.refl e2 Ff (g := (mkF m 11 #[.val (.ref a1), .val (.int (Int32.ofNat i))] [(.ref a1)])) rfl rfl (hb hby d3_11)
  have go6 : ∀ t, Steps p.tables e below (T5.setTop (mkF m 14 #[.val (.ref a1), .val (.int (Int32.ofNat i))] [(.ref fo)])) t → G t := fun t k => go4 t (st5 _ k)
  have go7 : ∀ t, Steps p.tables e below (T5.setTop (mkF m 15 #[.val (.ref a1), .val (.int (Int32.ofNat i))] [(.ref a1), (.ref fo)])) t → G t := fun t k => go6 t (by
      show Steps p.tables e below (T5.setTop (mkF m 14 #[.val (.ref a1), .val (.int (Int32.ofNat i))] [(.ref fo)])) _
      refine XS.aloadN X5.here hx rfl (hb hby d3_14) rfl rfl ?_
      show Steps p.tables e below (T5.setTop (mkF m 15 #[.val (.ref a1), .val (.int (Int32.ofNat i))] [(.ref a1), (.ref fo)])) _
      exact k)
  obtain ⟨T8, X8, e8, st8⟩ := getF X5 hx hZ hown (host := "") (Or.inl (hw _ (List.mem_of_getElem? (i := 11) rfl))) Via.refl e5 Fl (g := (mkF m 15 #[.val (.ref a1), .val (.int (Int32.ofNat i))] [(.ref a1), (.ref fo)])) rfl rfl (hb hby d3_15)
  have go9 : ∀ t, Steps p.tables e below (T8.setTop (mkF m 18 #[.val (.ref a1), .val (.int (Int32.ofNat i))] [(.ref li), (.ref fo)])) t → G t := fun t k => go7 t (st8 _ k)
  have go10 : ∀ t, Steps p.tables e below (T8.setTop (mkF m 19 #[.val (.ref a1), .val (.int (Int32.ofNat i))] [(.int (Int32.ofNat i)), (.ref li), (.ref fo)])) t → G t := fun t k => go9 t (by
      show Steps p.tables e below (T8.setTop (mkF m 18 #[.val (.ref a1), .val (.int (Int32.ofNat i))] [(.ref li), (.ref fo)])) _
      refine XS.iloadN X8.here hx rfl (hb hby d3_18) rfl ?_
      show Steps p.tables e below (T8.setTop (mkF m 19 #[.val (.ref a1), .val (.int (Int32.ofNat i))] [(.int (Int32.ofNat i)), (.ref li), (.ref fo)])) _
      exact k)
  have st11 := X8.iaload hx (j := (Int32.ofNat i)) (v := (.int y)) (by rw [e8]; exact Al.1) (State.isArrayOf_alike hZ.alike Al.2.1) Al.2.2 hinl hatl (g := (mkF m 19 #[.val (.ref a1), .val (.int (Int32.ofNat i))] [(.int (Int32.ofNat i)), (.ref li), (.ref fo)])) rfl rfl (hb hby d3_19)
  have go12 : ∀ t, Steps p.tables e below (T8.setTop (mkF m 20 #[.val (.ref a1), .val (.int (Int32.ofNat i))] [(.int y), (.ref fo)])) t → G t := fun t k => go10 t (st11 _ k)
  have go13 : ∀ t, Steps p.tables e below (T8.setTop (mkF m 24 #[.val (.ref a1), .val (.int (Int32.ofNat i))] [(.int ix), (.ref fo), (.int ix), (.ref fo)])) t → G t := fun t k => go12 t (by
      show Steps p.tables e below (T8.setTop (mkF m 20 #[.val (.ref a1), .val (.int (Int32.ofNat i))] [(.int y), (.ref fo)])) _
      refine XS.bipush X8.here hx rfl (hb hby d3_20) ?_
      show Steps p.tables e below (T8.setTop (mkF m 22 #[.val (.ref a1), .val (.int (Int32.ofNat i))] [(.int (6 : Int32)), (.int y), (.ref fo)])) _
      refine XS.iushr X8.here hx rfl (hb hby d3_22) rfl ?_
      show Steps p.tables e below (T8.setTop (mkF m 23 #[.val (.ref a1), .val (.int (Int32.ofNat i))] [(.int ((y.toUInt32 >>> ((6 : Int32) &&& 31).toUInt32).toInt32)), (.ref fo)])) _
      rw [← hix]
      show Steps p.tables e below (T8.setTop (mkF m 23 #[.val (.ref a1), .val (.int (Int32.ofNat i))] [(.int ix), (.ref fo)])) _
      refine XT.dup2 X8.here hx rfl (hb hby d3_23) rfl rfl rfl ?_
      show Steps p.tables e below (T8.setTop (mkF m 24 #[.val (.ref a1), .val (.int (Int32.ofNat i))] [(.int ix), (.ref fo), (.int ix), (.ref fo)])) _
      exact k)
  have st14 := X8.laload hx (j := ix) (v := (.long (F (y.toInt.toNat / 64)))) (by rw [e8]; exact Af.1) (State.isArrayOf_alike hZ.alike Af.2.1) Af.2.2 hin hat (g := (mkF m 24 #[.val (.ref a1), .val (.int (Int32.ofNat i))] [(.int ix), (.ref fo), (.int ix), (.ref fo)])) rfl rfl (hb hby d3_24)
  have go15 : ∀ t, Steps p.tables e below (T8.setTop (mkF m 25 #[.val (.ref a1), .val (.int (Int32.ofNat i))] [(.long (F (y.toInt.toNat / 64))), (.int ix), (.ref fo)])) t → G t := fun t k => go13 t (st14 _ k)
  have go16 : ∀ t, Steps p.tables e below (T8.setTop (mkF m 27 #[.val (.ref a1), .val (.int (Int32.ofNat i))] [(.ref a1), (.long (1 : Int64)), (.long (F (y.toInt.toNat / 64))), (.int ix), (.ref fo)])) t → G t := fun t k => go15 t (by
      show Steps p.tables e below (T8.setTop (mkF m 25 #[.val (.ref a1), .val (.int (Int32.ofNat i))] [(.long (F (y.toInt.toNat / 64))), (.int ix), (.ref fo)])) _
      refine XS.lconst X8.here hx rfl (hb hby d3_25) ?_
      show Steps p.tables e below (T8.setTop (mkF m 26 #[.val (.ref a1), .val (.int (Int32.ofNat i))] [(.long (1 : Int64)), (.long (F (y.toInt.toNat / 64))), (.int ix), (.ref fo)])) _
      refine XS.aloadN X8.here hx rfl (hb hby d3_26) rfl rfl ?_
      show Steps p.tables e below (T8.setTop (mkF m 27 #[.val (.ref a1), .val (.int (Int32.ofNat i))] [(.ref a1), (.long (1 : Int64)), (.long (F (y.toInt.toNat / 64))), (.int ix), (.ref fo)])) _
      exact k)
  obtain ⟨T17, X17, e17, st17⟩ := getF X8 hx hZ hown (host := "") (Or.inl (hw _ (List.mem_of_getElem? (i := 11) rfl))) Via.refl e8 Fl (g := (mkF m 27 #[.val (.ref a1), .val (.int (Int32.ofNat i))] [(.ref a1), (.long (1 : Int64)), (.long (F (y.toInt.toNat / 64))), (.int ix), (.ref fo)])) rfl rfl (hb hby d3_27)
  have go18 : ∀ t, Steps p.tables e below (T17.setTop (mkF m 30 #[.val (.ref a1), .val (.int (Int32.ofNat i))] [(.ref li), (.long (1 : Int64)), (.long (F (y.toInt.toNat / 64))), (.int ix), (.ref fo)])) t → G t := fun t k => go16 t (st17 _ k)
  have go19 : ∀ t, Steps p.tables e below (T17.setTop (mkF m 31 #[.val (.ref a1), .val (.int (Int32.ofNat i))] [(.int (Int32.ofNat i)), (.ref li), (.long (1 : Int64)), (.long (F (y.toInt.toNat / 64))), (.int ix), (.ref fo)])) t → G t := fun t k => go18 t (by
      show Steps p.tables e below (T17.setTop (mkF m 30 #[.val (.ref a1), .val (.int (Int32.ofNat i))] [(.ref li), (.long (1 : Int64)), (.long (F (y.toInt.toNat / 64))), (.int ix), (.ref fo)])) _
      refine XS.iloadN X17.here hx rfl (hb hby d3_30) rfl ?_
      show Steps p.tables e below (T17.setTop (mkF m 31 #[.val (.ref a1), .val (.int (Int32.ofNat i))] [(.int (Int32.ofNat i)), (.ref li), (.long (1 : Int64)), (.long (F (y.toInt.toNat / 64))), (.int ix), (.ref fo)])) _
      exact k)
  have st20 := X17.iaload hx (j := (Int32.ofNat i)) (v := (.int y)) (by rw [e17]; exact Al.1) (State.isArrayOf_alike hZ.alike Al.2.1) Al.2.2 hinl hatl (g := (mkF m 31 #[.val (.ref a1), .val (.int (Int32.ofNat i))] [(.int (Int32.ofNat i)), (.ref li), (.long (1 : Int64)), (.long (F (y.toInt.toNat / 64))), (.int ix), (.ref fo)])) rfl rfl (hb hby d3_31)
  have go21 : ∀ t, Steps p.tables e below (T17.setTop (mkF m 32 #[.val (.ref a1), .val (.int (Int32.ofNat i))] [(.int y), (.long (1 : Int64)), (.long (F (y.toInt.toNat / 64))), (.int ix), (.ref fo)])) t → G t := fun t k => go19 t (st20 _ k)
  have go22 : ∀ t, Steps p.tables e below (T17.setTop (mkF m 38 #[.val (.ref a1), .val (.int (Int32.ofNat i))] [(.long ((F (y.toInt.toNat / 64)) &&& (bt ^^^ (-1 : Int64)))), (.int ix), (.ref fo)])) t → G t := fun t k => go21 t (by
      show Steps p.tables e below (T17.setTop (mkF m 32 #[.val (.ref a1), .val (.int (Int32.ofNat i))] [(.int y), (.long (1 : Int64)), (.long (F (y.toInt.toNat / 64))), (.int ix), (.ref fo)])) _
      refine XS.lshl X17.here hx rfl (hb hby d3_32) rfl ?_
      show Steps p.tables e below (T17.setTop (mkF m 33 #[.val (.ref a1), .val (.int (Int32.ofNat i))] [(.long ((1 : Int64) <<< (y &&& 0x3f).toInt64)), (.long (F (y.toInt.toNat / 64))), (.int ix), (.ref fo)])) _
      rw [← hbt]
      show Steps p.tables e below (T17.setTop (mkF m 33 #[.val (.ref a1), .val (.int (Int32.ofNat i))] [(.long bt), (.long (F (y.toInt.toNat / 64))), (.int ix), (.ref fo)])) _
      refine X17.ldc2Long hx hown (mvT hZ (hw _ (List.mem_of_getElem? (i := 34) rfl))) (g := (mkF m 33 #[.val (.ref a1), .val (.int (Int32.ofNat i))] [(.long bt), (.long (F (y.toInt.toNat / 64))), (.int ix), (.ref fo)])) rfl (hb hby d3_33) _ ?_
      show Steps p.tables e below (T17.setTop (mkF m 36 #[.val (.ref a1), .val (.int (Int32.ofNat i))] [(.long (-1 : Int64)), (.long bt), (.long (F (y.toInt.toNat / 64))), (.int ix), (.ref fo)])) _
      refine XS.lxor X17.here hx rfl (hb hby d3_36) rfl ?_
      show Steps p.tables e below (T17.setTop (mkF m 37 #[.val (.ref a1), .val (.int (Int32.ofNat i))] [(.long (bt ^^^ (-1 : Int64))), (.long (F (y.toInt.toNat / 64))), (.int ix), (.ref fo)])) _
      refine XS.land X17.here hx rfl (hb hby d3_37) rfl ?_
      show Steps p.tables e below (T17.setTop (mkF m 38 #[.val (.ref a1), .val (.int (Int32.ofNat i))] [(.long ((F (y.toInt.toNat / 64)) &&& (bt ^^^ (-1 : Int64)))), (.int ix), (.ref fo)])) _
      exact k)
  obtain ⟨T23, h23, X23, e23, W23, st23⟩ := stJ X17 hx hZ e17 Af (j := ix) hin (g := (mkF m 38 #[.val (.ref a1), .val (.int (Int32.ofNat i))] [(.long ((F (y.toInt.toNat / 64)) &&& (bt ^^^ (-1 : Int64)))), (.int ix), (.ref fo)])) rfl rfl (hb hby d3_38)
  have N23 := Fr.snoc X23 N0 g3
  have go24 : ∀ t, Steps p.tables e below (T23.setTop (mkF m 39 #[.val (.ref a1), .val (.int (Int32.ofNat i))] [])) t → G t := fun t k => go22 t (st23 _ k)
  have go25 : ∀ t, Steps p.tables e below (T23.setTop (mkF m 42 #[.val (.ref a1), .val (.int ((Int32.ofNat i) + (1 : Int32)))] [])) t → G t := fun t k => go24 t (by
      show Steps p.tables e below (T23.setTop (mkF m 39 #[.val (.ref a1), .val (.int (Int32.ofNat i))] [])) _
      refine XS.iinc X23.here hx rfl (hb hby d3_39) rfl (l' := #[.val (.ref a1), .val (.int ((Int32.ofNat i) + (1 : Int32)))]) rfl ?_
      show Steps p.tables e below (T23.setTop (mkF m 42 #[.val (.ref a1), .val (.int ((Int32.ofNat i) + (1 : Int32)))] [])) _
      exact k)
  rw [own_one] at go25
  have go26 : ∀ t, Steps p.tables e below (T23.setTop (mkF m 2 #[.val (.ref a1), .val (.int (Int32.ofNat (i + 1)))] [])) t → G t := fun t k => go25 t (by
      show Steps p.tables e below (T23.setTop (mkF m 42 #[.val (.ref a1), .val (.int (Int32.ofNat (i + 1)))] [])) _
      refine XS.goto X23.here hx rfl (pc0 := 42) (pc' := 2) rfl (hb hby d3_42) (by decide) (by decide) ?_
      show Steps p.tables e below (T23.setTop (mkF m 2 #[.val (.ref a1), .val (.int (Int32.ofNat (i + 1)))] [])) _
      exact k)
  have Bf1 := own_arr_set (f := fun w => .long (F w)) ⟨cf, Af, Sf, Hf⟩ W23
  have hixc : ix.toNatClampNeg = y.toInt.toNat / 64 := hixn
  have Bf2 : own_arr Z h23 fo .long nw (fun w => .long ((fun w => if w = (g i).toInt.toNat / 64 then F ((g i).toInt.toNat / 64) &&& (own_bt (g i) ^^^ (-1 : Int64)) else F w) w)) := own_arr_eq Bf1 (fun j _ => by rw [hixc, hbt]; dsimp only; rw [← hy]; split <;> rfl)
  exact ⟨T23, h23, _, X23, e23, N23, (Nat.le_trans Z0 (Keep.of_wr W23).1), ⟨⟨E1.wr W23, Fl.other W23 (Or.inl d2), Ff.other W23 (Or.inl d2), Fc.other W23 (Or.inl d2)⟩, ⟨⟨cl, Al.other W23 d3, Sl, Hl⟩, Bf2⟩, ⟨d1, d2, d3⟩, ⟨g1, g2, g3⟩, Nat.le_trans g1 (Nat.le_of_lt (E1.wr W23).lt)⟩, fun t k => fin t (go26 t k)⟩
theorem loop3 {p : Program} {l : Launch} {e : Env} {s : State} {m : MethodId} {args : Array Value} {below : List Frame} {meth : Method} {c : Code} {Z : State} {a0 : Array Value} {R : Room} {cells slots : Nat} (a1 li fo : Addr) (nw : Nat) (xs : List Int32) (g : Nat → Int32) (n0 : Nat) (hx : p.tables.exec = Jvm.exec) (hZ : Z.Warmed39 s.vm) (hw : ∀ d ∈ tables_1, d.before a0 Z = true) (hby : c.code = prog_41_method_6_code) (hml : c.maxLocals = 2) (hown : s.vm.findClass "com/example/setwright/setwright/analysis/FragmentAutomaton$Hits" = some m.cls)
    (hl : xs.length < 16) (hg : ∀ j, j < xs.length → xs[j]? = some (g j)) (hb : ∀ x ∈ xs, 0 ≤ x.toInt ∧ x.toInt.toNat < 64 * nw) :
    ∀ (k i : Nat) (F : Nat → Int64) (T0 : State) (h0 : Heap) (locs : List Loc), i + k = xs.length → Stand p l e R s m args below meth c T0 locs cells slots → T0.heap = h0 → Fr n0 locs → n0 ≤ h0.size → own_heap Z h0 n0 a1 li fo nw xs.length g F → own_left nw xs i F →
      ∃ (T' : State) (h' : Heap) (locs' : List Loc) (F' : Nat → Int64), Stand p l e R s m args below meth c T' locs' cells slots ∧ T'.heap = h' ∧ Fr n0 locs' ∧ n0 ≤ h'.size ∧ own_heap Z h' n0 a1 li fo nw xs.length g F' ∧ own_left nw xs xs.length F' ∧
        ∀ t, Steps p.tables e below (T'.setTop (mkF m 2 #[.val (.ref a1), .val (.int (Int32.ofNat xs.length))] [])) t → Steps p.tables e below (T0.setTop (mkF m 2 #[.val (.ref a1), .val (.int (Int32.ofNat i))] [])) t := by
  intro k
  induction k with
  | zero =>
    intro i F T0 h0 locs hi X0 e0 N0 Z0 H r
    have hi' : i = xs.length := by omega
    subst hi'
    exact ⟨T0, h0, locs, F, X0, e0, N0, Z0, H, r, fun t k => k⟩
  | succ k ih =>
    intro i F T0 h0 locs hi X0 e0 N0 Z0 H r
    have hgi := hg i (by omega)
    have hbi := hb (g i) (List.mem_of_getElem? hgi)
    obtain ⟨T1, h1, L1, X1, e1, N1, Z1, H1, st1⟩ := tn3 a1 li fo nw xs.length g i n0 hx hZ hw hby hml hown T0 h0 locs X0 e0 N0 Z0 F H (by omega) hl hbi.1 hbi.2
    obtain ⟨T2, h2, L2, F2, X2, e2, N2, Z2, H2, r2, st2⟩ := ih (i + 1) _ T1 h1 L1 (by omega) X1 e1 N1 Z1 H1 (own_left_turn r hgi hbi.1)
    exact ⟨T2, h2, L2, F2, X2, e2, N2, Z2, H2, r2, fun t k => st1 t (st2 t k)⟩
def Q3 (Z : State) (a1 : Addr) (li : Addr) (fo : Addr) (nw : Nat) (xs : List Int32) (g : Nat → Int32) (F : Nat → Int64) (h0 : Heap) (n0 : Nat) (v : Option Value) (h : Heap) (L : List Loc) : Prop := v = none ∧ Fr n0 L ∧ ∃ (F' : Nat → Int64), own_heap Z h n0 a1 li fo nw 0 g F' ∧ own_rel nw [] g F'
set_option maxRecDepth 65536 in
set_option maxHeartbeats 40000000 in
theorem rm3 (l : Launch) (Z : State) (a0 : Array Value) (hw : ∀ d ∈ tables_1, d.before a0 Z = true) (ws : List Jvm.Cond) (a1 : Addr) (li : Addr) (fo : Addr) (nw : Nat) (xs : List Int32) (g : Nat → Int32) (F : Nat → Int64) (h0 : Heap) (n0 : Nat) (Z0 : n0 ≤ h0.size) (H : own_heap Z h0 n0 a1 li fo nw xs.length g F) (hrel : own_rel nw xs g F) (hl : xs.length < 16) :
    MetFree l (⟨"com/example/setwright/setwright/analysis/FragmentAutomaton$Hits", "clear", "()V"⟩ : MethodName) (head1 (Jvm.Cond.code (⟨"com/example/setwright/setwright/analysis/FragmentAutomaton$Hits", "clear", "()V"⟩ : MethodName) prog_41_method_6_code 2 none :: ws) ({ frames := 0, cells := 0, slots := 0, locals := 0 } : Room)) (fun a U => a = #[(.ref a1)] ∧ Z.Warmed39 U.vm ∧ U.heap = h0) (fun _ _ _ _ _ => True) (fun _ U o U' => ∃ v L, o = .returned v ∧ Q3 Z a1 li fo nw xs g F h0 n0 v U'.heap L ∧ FrameEnd U o U' L ({ frames := 0, cells := 0, slots := 0, locals := 0 } : Room).cells ({ frames := 0, cells := 0, slots := 0, locals := 0 } : Room).slots) := by
  refine MetFree.of_bodySF (plainFor_of_name pn_3) hisR ?_
  intro p e s m args below meth c s₁ Bd hml0 hP hK
  obtain ⟨rfl, hZ, hh⟩ := hP
  have hx := Bd.exec
  have hby := Bd.bytes
  have hml : c.maxLocals = 2 := hml0
  have hown : s.vm.findClass "com/example/setwright/setwright/analysis/FragmentAutomaton$Hits" = some m.cls := findClass_of_methodNamed Bd.named
  have hnm := (name_of_methodNamed Bd.named Bd.method).1
  have X0 : Stand p l e ({ frames := 0, cells := 0, slots := 0, locals := 0 } : Room) s m #[(.ref a1)] below meth c s₁ [] 0 0 := Stand.of_body Bd
  have e0 : s₁.heap = h0 := by rw [← hh, Bd.state]; rfl
  have N0 := Fr.nil n0
  have pre0 : ∀ t, Steps p.tables e below (s₁.setTop (mkF m 0 #[.val (.ref a1), .unset] [])) t → Steps p.tables e below (s₁.setTop (entryFrame m #[(.ref a1)] 2)) t := fun t k => castTop (ef_3 m a1) k
  obtain ⟨G, hG⟩ : ∃ G : State → Prop, G = fun t => Steps p.tables e below (s₁.setTop (entryFrame m #[(.ref a1)] 2)) t := ⟨_, rfl⟩
  have fin : ∀ t, G t → Steps p.tables e below (s₁.setTop (entryFrame m #[(.ref a1)] 2)) t := by rw [hG]; exact fun _ k => k
  have go0 : ∀ t, Steps p.tables e below (s₁.setTop (mkF m 0 #[.val (.ref a1), .unset] [])) t → G t := by rw [hG]; exact pre0
  have go1 : ∀ t, Steps p.tables e below (s₁.setTop (mkF m 2 #[.val (.ref a1), .val (.int (0 : Int32))] [])) t → G t := fun t k => go0 t (by
      show Steps p.tables e below (s₁.setTop (mkF m 0 #[.val (.ref a1), .unset] [])) _
      refine XS.iconst X0.here hx rfl (hb hby d3_0) ?_
      show Steps p.tables e below (s₁.setTop (mkF m 1 #[.val (.ref a1), .unset] [(.int (0 : Int32))])) _
      refine XS.istoreN X0.here hx rfl (hb hby d3_1) rfl (l' := #[.val (.ref a1), .val (.int (0 : Int32))]) rfl ?_
      show Steps p.tables e below (s₁.setTop (mkF m 2 #[.val (.ref a1), .val (.int (0 : Int32))] [])) _
      exact k)
  obtain ⟨TL, hL, locsL, FL, XL, eL, NL, ZL, HL, rL, stL⟩ := loop3 a1 li fo nw xs g n0 hx hZ hw hby hml hown hl hrel.1 hrel.2.1 xs.length 0 F _ h0 _ (by omega) X0 e0 N0 Z0 H (own_left_start hrel)
  have go2 : ∀ t, Steps p.tables e below (TL.setTop (mkF m 2 #[.val (.ref a1), .val (.int (Int32.ofNat xs.length))] [])) t → G t := fun t k => go1 t (stL _ k)
  obtain ⟨⟨E1, Fl, Ff, Fc⟩, ⟨Bl, Bf⟩, ⟨d1, d2, d3⟩, ⟨g1, g2, g3⟩, Zh⟩ := id HL
  have go3 : ∀ t, Steps p.tables e below (TL.setTop (mkF m 4 #[.val (.ref a1), .val (.int (Int32.ofNat xs.length))] [(.ref a1), (.int (Int32.ofNat xs.length))])) t → G t := fun t k => go2 t (by
      show Steps p.tables e below (TL.setTop (mkF m 2 #[.val (.ref a1), .val (.int (Int32.ofNat xs.length))] [])) _
      refine XS.iloadN XL.here hx rfl (hb hby d3_2) rfl ?_
      show Steps p.tables e below (TL.setTop (mkF m 3 #[.val (.ref a1), .val (.int (Int32.ofNat xs.length))] [(.int (Int32.ofNat xs.length))])) _
      refine XS.aloadN XL.here hx rfl (hb hby d3_3) rfl rfl ?_
      show Steps p.tables e below (TL.setTop (mkF m 4 #[.val (.ref a1), .val (.int (Int32.ofNat xs.length))] [(.ref a1), (.int (Int32.ofNat xs.length))])) _
      exact k)
  obtain ⟨T4, X4, e4, st4⟩ := getF XL hx hZ hown (host := "") (Or.inl (hw _ (List.mem_of_getElem? (i := 22) rfl))) Via.refl eL Fc (g := (mkF m 4 #[.val (.ref a1), .val (.int (Int32.ofNat xs.length))] [(.ref a1), (.int (Int32.ofNat xs.length))])) rfl rfl (hb hby d3_4)
  have go5 : ∀ t, Steps p.tables e below (T4.setTop (mkF m 7 #[.val (.ref a1), .val (.int (Int32.ofNat xs.length))] [(.int (Int32.ofNat xs.length)), (.int (Int32.ofNat xs.length))])) t → G t := fun t k => go3 t (st4 _ k)
  have go6 : ∀ t, Steps p.tables e below (T4.setTop (mkF m 47 #[.val (.ref a1), .val (.int (Int32.ofNat xs.length))] [(.int (0 : Int32)), (.ref a1)])) t → G t := fun t k => go5 t (by
      show Steps p.tables e below (T4.setTop (mkF m 7 #[.val (.ref a1), .val (.int (Int32.ofNat xs.length))] [(.int (Int32.ofNat xs.length)), (.int (Int32.ofNat xs.length))])) _
      refine XS.icmpYes X4.here hx rfl (pc0 := 7) (pc' := 45) rfl (hb hby d3_7) rfl (flt Int32.lt_irrefl).2.1 (by decide) (by decide) ?_
      show Steps p.tables e below (T4.setTop (mkF m 45 #[.val (.ref a1), .val (.int (Int32.ofNat xs.length))] [])) _
      refine XS.aloadN X4.here hx rfl (hb hby d3_45) rfl rfl ?_
      show Steps p.tables e below (T4.setTop (mkF m 46 #[.val (.ref a1), .val (.int (Int32.ofNat xs.length))] [(.ref a1)])) _
      refine XS.iconst X4.here hx rfl (hb hby d3_46) ?_
      show Steps p.tables e below (T4.setTop (mkF m 47 #[.val (.ref a1), .val (.int (Int32.ofNat xs.length))] [(.int (0 : Int32)), (.ref a1)])) _
      exact k)
  obtain ⟨T7, h7, X7, e7, W7, st7⟩ := putF X4 hx hZ hown (host := "") (Or.inl (hw _ (List.mem_of_getElem? (i := 22) rfl))) Via.refl e4 Fc E1 (Or.inl (hw _ (List.mem_of_getElem? (i := 23) rfl))) (hw _ (List.mem_of_getElem? (i := 2) rfl)) (ty := .int) (by decide) rfl rfl (g := (mkF m 47 #[.val (.ref a1), .val (.int (Int32.ofNat xs.length))] [(.int (0 : Int32)), (.ref a1)])) rfl rfl (hb hby d3_47)
  have N7 := Fr.snoc X7 NL g1
  have go8 : ∀ t, Steps p.tables e below (T7.setTop (mkF m 50 #[.val (.ref a1), .val (.int (Int32.ofNat xs.length))] [])) t → G t := fun t k => go6 t (st7 _ k)
  obtain ⟨fs, hr, hrun, hended, hW, hsame⟩ := X7.leave (v := none) (fun _ => rfl)
  refine ⟨_, _, fin _ (go8 _ ?_), hrun, hended, _, _, rfl, ?_, ⟨_, rfl⟩, hW, hsame.mono (by decide) (by decide)⟩
  · exact X7.returnOut hx Bd.returns (hb hby d3_50) hr
  · show Q3 Z a1 li fo nw xs g F h0 n0 _ T7.heap _
    rw [e7]
    exact ⟨rfl, N7, FL, ⟨⟨E1.wr W7, Fl.other W7 (Or.inr (slot_ne (Or.inl (hw _ (List.mem_of_getElem? (i := 12) rfl))) (Or.inl (hw _ (List.mem_of_getElem? (i := 23) rfl))) (by decide) (t := (.array .int)) (t' := .int) (by decide) (by decide))), Ff.other W7 (Or.inr (slot_ne (Or.inr (hw _ (List.mem_of_getElem? (i := 16) rfl))) (Or.inl (hw _ (List.mem_of_getElem? (i := 23) rfl))) (by decide) (t := (.array .long)) (t' := .int) (by decide) (by decide))), Fc.same W7⟩, ⟨own_arr_other Bl W7 (Ne.symm d1), own_arr_other Bf W7 (Ne.symm d2)⟩, ⟨d1, d2, d3⟩, ⟨g1, g2, g3⟩, Nat.le_trans g1 (Nat.le_of_lt (E1.wr W7).lt)⟩, own_left_end rL⟩
theorem pn_0 : plainName "com/example/setwright/setwright/analysis/HitsClearPinLaw" = true := by first | (simp [plainName, overriddenIn]; done) | decide +kernel
theorem pd_i : parseMethodDescriptor "(I)V" = some ⟨[.int], none⟩ := by decide +kernel
theorem pd_a : parseMethodDescriptor "(I)Z" = some ⟨[.int], some .boolean⟩ := by decide +kernel
theorem pd_v : parseMethodDescriptor "()V" = some ⟨[], none⟩ := by decide +kernel
theorem pd_n : parseMethodDescriptor "()I" = some ⟨[], some .int⟩ := by decide +kernel
theorem ef_0 (m : MethodId) (p1 : Int32) (p2 : Int32) (p3 : Int32) (p4 : Int32) (p5 : Int32) : entryFrame m #[(.int p1), (.int p2), (.int p3), (.int p4), (.int p5)] maxLocals = mkF m 0 #[.val (.int p1), .val (.int p2), .val (.int p3), .val (.int p4), .val (.int p5), .unset, .unset, .unset, .unset, .unset, .unset, .unset, .unset, .unset, .unset, .unset, .unset, .unset] [] := by first | (simp [entryFrame, mkF, argsToLocals, Value.category, maxLocals]; done) | rfl
def Q0 (Z : State) (p1 : Int32) (p2 : Int32) (p3 : Int32) (p4 : Int32) (p5 : Int32) (h0 : Heap) (n0 : Nat) (v : Option Value) (h : Heap) (L : List Loc) : Prop := v = some (.int (1 : Int32)) ∧ Fr n0 L
set_option maxRecDepth 65536 in
set_option maxHeartbeats 40000000 in
theorem rm0 (l : Launch) (Z : State) (a0 : Array Value) (hw : ∀ d ∈ tables_1, d.before a0 Z = true) (ws : List Jvm.Cond) (p1 : Int32) (p2 : Int32) (p3 : Int32) (p4 : Int32) (p5 : Int32) (h0 : Heap) (n0 : Nat) (Z0 : n0 ≤ h0.size) :
    MetFree l x (head1 (Jvm.Cond.code x code maxLocals ret :: ws) room_1) (fun a U => a = #[(.int p1), (.int p2), (.int p3), (.int p4), (.int p5)] ∧ Z.Warmed39 U.vm ∧ U.heap = h0) (fun _ _ _ _ _ => True) (fun _ U o U' => ∃ v L, o = .returned v ∧ Q0 Z p1 p2 p3 p4 p5 h0 n0 v U'.heap L ∧ FrameEnd U o U' L room_1.cells room_1.slots) := by
  refine MetFree.of_bodySF (plainFor_of_name pn_0) hisR ?_
  intro p e s m args below meth c s₁ Bd hml0 hP hK
  obtain ⟨rfl, hZ, hh⟩ := hP
  have hx := Bd.exec
  have hby := Bd.bytes
  have hml : c.maxLocals = 18 := hml0
  have hown : s.vm.findClass "com/example/setwright/setwright/analysis/HitsClearPinLaw" = some m.cls := findClass_of_methodNamed Bd.named
  have hnm := (name_of_methodNamed Bd.named Bd.method).1
  have X0 : Stand p l e room_1 s m #[(.int p1), (.int p2), (.int p3), (.int p4), (.int p5)] below meth c s₁ [] 0 0 := Stand.of_body Bd
  have e0 : s₁.heap = h0 := by rw [← hh, Bd.state]; rfl
  have N0 := Fr.nil n0
  have pre0 : ∀ t, Steps p.tables e below (s₁.setTop (mkF m 0 #[.val (.int p1), .val (.int p2), .val (.int p3), .val (.int p4), .val (.int p5), .unset, .unset, .unset, .unset, .unset, .unset, .unset, .unset, .unset, .unset, .unset, .unset, .unset] [])) t → Steps p.tables e below (s₁.setTop (entryFrame m #[(.int p1), (.int p2), (.int p3), (.int p4), (.int p5)] maxLocals)) t := fun t k => castTop (ef_0 m p1 p2 p3 p4 p5) k
  obtain ⟨G, hG⟩ : ∃ G : State → Prop, G = fun t => Steps p.tables e below (s₁.setTop (entryFrame m #[(.int p1), (.int p2), (.int p3), (.int p4), (.int p5)] maxLocals)) t := ⟨_, rfl⟩
  have fin : ∀ t, G t → Steps p.tables e below (s₁.setTop (entryFrame m #[(.int p1), (.int p2), (.int p3), (.int p4), (.int p5)] maxLocals)) t := by rw [hG]; exact fun _ k => k
  have go0 : ∀ t, Steps p.tables e below (s₁.setTop (mkF m 0 #[.val (.int p1), .val (.int p2), .val (.int p3), .val (.int p4), .val (.int p5), .unset, .unset, .unset, .unset, .unset, .unset, .unset, .unset, .unset, .unset, .unset, .unset, .unset] [])) t → G t := by rw [hG]; exact pre0
  obtain ⟨n, hn⟩ : ∃ z : Int32, z = ((1 : Int32) + (p1 &&& (255 : Int32))) := ⟨_, rfl⟩
  have hnb := own_n p1
  rw [← hn] at hnb
  have hnn : 0 < n.toInt := by omega
  have hnw := own_nwv n hnb.1 hnb.2
  obtain ⟨xa, hxa⟩ : ∃ z : Int32, z = ((p2 &&& (2147483647 : Int32)) - ((p2 &&& (2147483647 : Int32)) / n) * n) := ⟨_, rfl⟩
  have bxa := own_mod p2 n hnn
  rw [← hxa] at bxa
  obtain ⟨xb, hxb⟩ : ∃ z : Int32, z = ((p3 &&& (2147483647 : Int32)) - ((p3 &&& (2147483647 : Int32)) / n) * n) := ⟨_, rfl⟩
  have bxb := own_mod p3 n hnn
  rw [← hxb] at bxb
  obtain ⟨xc, hxc⟩ : ∃ z : Int32, z = ((p4 &&& (2147483647 : Int32)) - ((p4 &&& (2147483647 : Int32)) / n) * n) := ⟨_, rfl⟩
  have bxc := own_mod p4 n hnn
  rw [← hxc] at bxc
  obtain ⟨nw, hnw2⟩ : ∃ z : Nat, z = (own_nw n).toInt.toNat := ⟨_, rfl⟩
  have w64 : ∀ x : Int32, 0 ≤ x.toInt → x.toInt < n.toInt → x.toInt.toNat < 64 * nw := fun x q1 q2 => by omega
  obtain ⟨kf, hk⟩ : ∃ z : Int32, z = (p5 &&& (3 : Int32)) := ⟨_, rfl⟩
  have go1 : ∀ t, Steps p.tables e below (s₁.setTop (mkF m 42 #[.val (.int p1), .val (.int p2), .val (.int p3), .val (.int p4), .val (.int p5), .val (.int n), .val (.int xa), .val (.int xb), .val (.int xc), .val (.int kf), .unset, .unset, .unset, .unset, .unset, .unset, .unset, .unset] [])) t → G t := fun t k => go0 t (by
      show Steps p.tables e below (s₁.setTop (mkF m 0 #[.val (.int p1), .val (.int p2), .val (.int p3), .val (.int p4), .val (.int p5), .unset, .unset, .unset, .unset, .unset, .unset, .unset, .unset, .unset, .unset, .unset, .unset, .unset] [])) _
      refine XS.iconst X0.here hx rfl (hb hby at_0) ?_
      show Steps p.tables e below (s₁.setTop (mkF m 1 #[.val (.int p1), .val (.int p2), .val (.int p3), .val (.int p4), .val (.int p5), .unset, .unset, .unset, .unset, .unset, .unset, .unset, .unset, .unset, .unset, .unset, .unset, .unset] [(.int (1 : Int32))])) _
      refine XS.iloadN X0.here hx rfl (hb hby at_1) rfl ?_
      show Steps p.tables e below (s₁.setTop (mkF m 2 #[.val (.int p1), .val (.int p2), .val (.int p3), .val (.int p4), .val (.int p5), .unset, .unset, .unset, .unset, .unset, .unset, .unset, .unset, .unset, .unset, .unset, .unset, .unset] [(.int p1), (.int (1 : Int32))])) _
      refine XS.sipush X0.here hx rfl (hb hby at_2) ?_
      show Steps p.tables e below (s₁.setTop (mkF m 5 #[.val (.int p1), .val (.int p2), .val (.int p3), .val (.int p4), .val (.int p5), .unset, .unset, .unset, .unset, .unset, .unset, .unset, .unset, .unset, .unset, .unset, .unset, .unset] [(.int (255 : Int32)), (.int p1), (.int (1 : Int32))])) _
      refine XS.iand X0.here hx rfl (hb hby at_5) rfl ?_
      show Steps p.tables e below (s₁.setTop (mkF m 6 #[.val (.int p1), .val (.int p2), .val (.int p3), .val (.int p4), .val (.int p5), .unset, .unset, .unset, .unset, .unset, .unset, .unset, .unset, .unset, .unset, .unset, .unset, .unset] [(.int (p1 &&& (255 : Int32))), (.int (1 : Int32))])) _
      refine XS.iadd X0.here hx rfl (hb hby at_6) rfl ?_
      show Steps p.tables e below (s₁.setTop (mkF m 7 #[.val (.int p1), .val (.int p2), .val (.int p3), .val (.int p4), .val (.int p5), .unset, .unset, .unset, .unset, .unset, .unset, .unset, .unset, .unset, .unset, .unset, .unset, .unset] [(.int ((1 : Int32) + (p1 &&& (255 : Int32))))])) _
      rw [← hn]
      show Steps p.tables e below (s₁.setTop (mkF m 7 #[.val (.int p1), .val (.int p2), .val (.int p3), .val (.int p4), .val (.int p5), .unset, .unset, .unset, .unset, .unset, .unset, .unset, .unset, .unset, .unset, .unset, .unset, .unset] [(.int n)])) _
      refine XS.istore X0.here hx rfl (hb hby at_7) rfl (l' := #[.val (.int p1), .val (.int p2), .val (.int p3), .val (.int p4), .val (.int p5), .val (.int n), .unset, .unset, .unset, .unset, .unset, .unset, .unset, .unset, .unset, .unset, .unset, .unset]) rfl ?_
      show Steps p.tables e below (s₁.setTop (mkF m 9 #[.val (.int p1), .val (.int p2), .val (.int p3), .val (.int p4), .val (.int p5), .val (.int n), .unset, .unset, .unset, .unset, .unset, .unset, .unset, .unset, .unset, .unset, .unset, .unset] [])) _
      refine XS.iloadN X0.here hx rfl (hb hby at_9) rfl ?_
      show Steps p.tables e below (s₁.setTop (mkF m 10 #[.val (.int p1), .val (.int p2), .val (.int p3), .val (.int p4), .val (.int p5), .val (.int n), .unset, .unset, .unset, .unset, .unset, .unset, .unset, .unset, .unset, .unset, .unset, .unset] [(.int p2)])) _
      refine X0.ldcInt hx hown (mvT hZ (hw _ (List.mem_of_getElem? (i := 0) rfl))) (g := (mkF m 10 #[.val (.int p1), .val (.int p2), .val (.int p3), .val (.int p4), .val (.int p5), .val (.int n), .unset, .unset, .unset, .unset, .unset, .unset, .unset, .unset, .unset, .unset, .unset, .unset] [(.int p2)])) rfl (hb hby at_10) _ ?_
      show Steps p.tables e below (s₁.setTop (mkF m 12 #[.val (.int p1), .val (.int p2), .val (.int p3), .val (.int p4), .val (.int p5), .val (.int n), .unset, .unset, .unset, .unset, .unset, .unset, .unset, .unset, .unset, .unset, .unset, .unset] [(.int (2147483647 : Int32)), (.int p2)])) _
      refine XS.iand X0.here hx rfl (hb hby at_12) rfl ?_
      show Steps p.tables e below (s₁.setTop (mkF m 13 #[.val (.int p1), .val (.int p2), .val (.int p3), .val (.int p4), .val (.int p5), .val (.int n), .unset, .unset, .unset, .unset, .unset, .unset, .unset, .unset, .unset, .unset, .unset, .unset] [(.int (p2 &&& (2147483647 : Int32)))])) _
      refine XS.iload X0.here hx rfl (hb hby at_13) rfl ?_
      show Steps p.tables e below (s₁.setTop (mkF m 15 #[.val (.int p1), .val (.int p2), .val (.int p3), .val (.int p4), .val (.int p5), .val (.int n), .unset, .unset, .unset, .unset, .unset, .unset, .unset, .unset, .unset, .unset, .unset, .unset] [(.int n), (.int (p2 &&& (2147483647 : Int32)))])) _
      refine XS.irem X0.here hx rfl (hb hby at_15) rfl (own_nz hnn) ?_
      show Steps p.tables e below (s₁.setTop (mkF m 16 #[.val (.int p1), .val (.int p2), .val (.int p3), .val (.int p4), .val (.int p5), .val (.int n), .unset, .unset, .unset, .unset, .unset, .unset, .unset, .unset, .unset, .unset, .unset, .unset] [(.int ((p2 &&& (2147483647 : Int32)) - ((p2 &&& (2147483647 : Int32)) / n) * n))])) _
      rw [← hxa]
      show Steps p.tables e below (s₁.setTop (mkF m 16 #[.val (.int p1), .val (.int p2), .val (.int p3), .val (.int p4), .val (.int p5), .val (.int n), .unset, .unset, .unset, .unset, .unset, .unset, .unset, .unset, .unset, .unset, .unset, .unset] [(.int xa)])) _
      refine XS.istore X0.here hx rfl (hb hby at_16) rfl (l' := #[.val (.int p1), .val (.int p2), .val (.int p3), .val (.int p4), .val (.int p5), .val (.int n), .val (.int xa), .unset, .unset, .unset, .unset, .unset, .unset, .unset, .unset, .unset, .unset, .unset]) rfl ?_
      show Steps p.tables e below (s₁.setTop (mkF m 18 #[.val (.int p1), .val (.int p2), .val (.int p3), .val (.int p4), .val (.int p5), .val (.int n), .val (.int xa), .unset, .unset, .unset, .unset, .unset, .unset, .unset, .unset, .unset, .unset, .unset] [])) _
      refine XS.iloadN X0.here hx rfl (hb hby at_18) rfl ?_
      show Steps p.tables e below (s₁.setTop (mkF m 19 #[.val (.int p1), .val (.int p2), .val (.int p3), .val (.int p4), .val (.int p5), .val (.int n), .val (.int xa), .unset, .unset, .unset, .unset, .unset, .unset, .unset, .unset, .unset, .unset, .unset] [(.int p3)])) _
      refine X0.ldcInt hx hown (mvT hZ (hw _ (List.mem_of_getElem? (i := 0) rfl))) (g := (mkF m 19 #[.val (.int p1), .val (.int p2), .val (.int p3), .val (.int p4), .val (.int p5), .val (.int n), .val (.int xa), .unset, .unset, .unset, .unset, .unset, .unset, .unset, .unset, .unset, .unset, .unset] [(.int p3)])) rfl (hb hby at_19) _ ?_
      show Steps p.tables e below (s₁.setTop (mkF m 21 #[.val (.int p1), .val (.int p2), .val (.int p3), .val (.int p4), .val (.int p5), .val (.int n), .val (.int xa), .unset, .unset, .unset, .unset, .unset, .unset, .unset, .unset, .unset, .unset, .unset] [(.int (2147483647 : Int32)), (.int p3)])) _
      refine XS.iand X0.here hx rfl (hb hby at_21) rfl ?_
      show Steps p.tables e below (s₁.setTop (mkF m 22 #[.val (.int p1), .val (.int p2), .val (.int p3), .val (.int p4), .val (.int p5), .val (.int n), .val (.int xa), .unset, .unset, .unset, .unset, .unset, .unset, .unset, .unset, .unset, .unset, .unset] [(.int (p3 &&& (2147483647 : Int32)))])) _
      refine XS.iload X0.here hx rfl (hb hby at_22) rfl ?_
      show Steps p.tables e below (s₁.setTop (mkF m 24 #[.val (.int p1), .val (.int p2), .val (.int p3), .val (.int p4), .val (.int p5), .val (.int n), .val (.int xa), .unset, .unset, .unset, .unset, .unset, .unset, .unset, .unset, .unset, .unset, .unset] [(.int n), (.int (p3 &&& (2147483647 : Int32)))])) _
      refine XS.irem X0.here hx rfl (hb hby at_24) rfl (own_nz hnn) ?_
      show Steps p.tables e below (s₁.setTop (mkF m 25 #[.val (.int p1), .val (.int p2), .val (.int p3), .val (.int p4), .val (.int p5), .val (.int n), .val (.int xa), .unset, .unset, .unset, .unset, .unset, .unset, .unset, .unset, .unset, .unset, .unset] [(.int ((p3 &&& (2147483647 : Int32)) - ((p3 &&& (2147483647 : Int32)) / n) * n))])) _
      rw [← hxb]
      show Steps p.tables e below (s₁.setTop (mkF m 25 #[.val (.int p1), .val (.int p2), .val (.int p3), .val (.int p4), .val (.int p5), .val (.int n), .val (.int xa), .unset, .unset, .unset, .unset, .unset, .unset, .unset, .unset, .unset, .unset, .unset] [(.int xb)])) _
      refine XS.istore X0.here hx rfl (hb hby at_25) rfl (l' := #[.val (.int p1), .val (.int p2), .val (.int p3), .val (.int p4), .val (.int p5), .val (.int n), .val (.int xa), .val (.int xb), .unset, .unset, .unset, .unset, .unset, .unset, .unset, .unset, .unset, .unset]) rfl ?_
      show Steps p.tables e below (s₁.setTop (mkF m 27 #[.val (.int p1), .val (.int p2), .val (.int p3), .val (.int p4), .val (.int p5), .val (.int n), .val (.int xa), .val (.int xb), .unset, .unset, .unset, .unset, .unset, .unset, .unset, .unset, .unset, .unset] [])) _
      refine XS.iloadN X0.here hx rfl (hb hby at_27) rfl ?_
      show Steps p.tables e below (s₁.setTop (mkF m 28 #[.val (.int p1), .val (.int p2), .val (.int p3), .val (.int p4), .val (.int p5), .val (.int n), .val (.int xa), .val (.int xb), .unset, .unset, .unset, .unset, .unset, .unset, .unset, .unset, .unset, .unset] [(.int p4)])) _
      refine X0.ldcInt hx hown (mvT hZ (hw _ (List.mem_of_getElem? (i := 0) rfl))) (g := (mkF m 28 #[.val (.int p1), .val (.int p2), .val (.int p3), .val (.int p4), .val (.int p5), .val (.int n), .val (.int xa), .val (.int xb), .unset, .unset, .unset, .unset, .unset, .unset, .unset, .unset, .unset, .unset] [(.int p4)])) rfl (hb hby at_28) _ ?_
      show Steps p.tables e below (s₁.setTop (mkF m 30 #[.val (.int p1), .val (.int p2), .val (.int p3), .val (.int p4), .val (.int p5), .val (.int n), .val (.int xa), .val (.int xb), .unset, .unset, .unset, .unset, .unset, .unset, .unset, .unset, .unset, .unset] [(.int (2147483647 : Int32)), (.int p4)])) _
      refine XS.iand X0.here hx rfl (hb hby at_30) rfl ?_
      show Steps p.tables e below (s₁.setTop (mkF m 31 #[.val (.int p1), .val (.int p2), .val (.int p3), .val (.int p4), .val (.int p5), .val (.int n), .val (.int xa), .val (.int xb), .unset, .unset, .unset, .unset, .unset, .unset, .unset, .unset, .unset, .unset] [(.int (p4 &&& (2147483647 : Int32)))])) _
      refine XS.iload X0.here hx rfl (hb hby at_31) rfl ?_
      show Steps p.tables e below (s₁.setTop (mkF m 33 #[.val (.int p1), .val (.int p2), .val (.int p3), .val (.int p4), .val (.int p5), .val (.int n), .val (.int xa), .val (.int xb), .unset, .unset, .unset, .unset, .unset, .unset, .unset, .unset, .unset, .unset] [(.int n), (.int (p4 &&& (2147483647 : Int32)))])) _
      refine XS.irem X0.here hx rfl (hb hby at_33) rfl (own_nz hnn) ?_
      show Steps p.tables e below (s₁.setTop (mkF m 34 #[.val (.int p1), .val (.int p2), .val (.int p3), .val (.int p4), .val (.int p5), .val (.int n), .val (.int xa), .val (.int xb), .unset, .unset, .unset, .unset, .unset, .unset, .unset, .unset, .unset, .unset] [(.int ((p4 &&& (2147483647 : Int32)) - ((p4 &&& (2147483647 : Int32)) / n) * n))])) _
      rw [← hxc]
      show Steps p.tables e below (s₁.setTop (mkF m 34 #[.val (.int p1), .val (.int p2), .val (.int p3), .val (.int p4), .val (.int p5), .val (.int n), .val (.int xa), .val (.int xb), .unset, .unset, .unset, .unset, .unset, .unset, .unset, .unset, .unset, .unset] [(.int xc)])) _
      refine XS.istore X0.here hx rfl (hb hby at_34) rfl (l' := #[.val (.int p1), .val (.int p2), .val (.int p3), .val (.int p4), .val (.int p5), .val (.int n), .val (.int xa), .val (.int xb), .val (.int xc), .unset, .unset, .unset, .unset, .unset, .unset, .unset, .unset, .unset]) rfl ?_
      show Steps p.tables e below (s₁.setTop (mkF m 36 #[.val (.int p1), .val (.int p2), .val (.int p3), .val (.int p4), .val (.int p5), .val (.int n), .val (.int xa), .val (.int xb), .val (.int xc), .unset, .unset, .unset, .unset, .unset, .unset, .unset, .unset, .unset] [])) _
      refine XS.iload X0.here hx rfl (hb hby at_36) rfl ?_
      show Steps p.tables e below (s₁.setTop (mkF m 38 #[.val (.int p1), .val (.int p2), .val (.int p3), .val (.int p4), .val (.int p5), .val (.int n), .val (.int xa), .val (.int xb), .val (.int xc), .unset, .unset, .unset, .unset, .unset, .unset, .unset, .unset, .unset] [(.int p5)])) _
      refine XS.iconst X0.here hx rfl (hb hby at_38) ?_
      show Steps p.tables e below (s₁.setTop (mkF m 39 #[.val (.int p1), .val (.int p2), .val (.int p3), .val (.int p4), .val (.int p5), .val (.int n), .val (.int xa), .val (.int xb), .val (.int xc), .unset, .unset, .unset, .unset, .unset, .unset, .unset, .unset, .unset] [(.int (3 : Int32)), (.int p5)])) _
      refine XS.iand X0.here hx rfl (hb hby at_39) rfl ?_
      show Steps p.tables e below (s₁.setTop (mkF m 40 #[.val (.int p1), .val (.int p2), .val (.int p3), .val (.int p4), .val (.int p5), .val (.int n), .val (.int xa), .val (.int xb), .val (.int xc), .unset, .unset, .unset, .unset, .unset, .unset, .unset, .unset, .unset] [(.int (p5 &&& (3 : Int32)))])) _
      rw [← hk]
      show Steps p.tables e below (s₁.setTop (mkF m 40 #[.val (.int p1), .val (.int p2), .val (.int p3), .val (.int p4), .val (.int p5), .val (.int n), .val (.int xa), .val (.int xb), .val (.int xc), .unset, .unset, .unset, .unset, .unset, .unset, .unset, .unset, .unset] [(.int kf)])) _
      refine XS.istore X0.here hx rfl (hb hby at_40) rfl (l' := #[.val (.int p1), .val (.int p2), .val (.int p3), .val (.int p4), .val (.int p5), .val (.int n), .val (.int xa), .val (.int xb), .val (.int xc), .val (.int kf), .unset, .unset, .unset, .unset, .unset, .unset, .unset, .unset]) rfl ?_
      show Steps p.tables e below (s₁.setTop (mkF m 42 #[.val (.int p1), .val (.int p2), .val (.int p3), .val (.int p4), .val (.int p5), .val (.int n), .val (.int xa), .val (.int xb), .val (.int xc), .val (.int kf), .unset, .unset, .unset, .unset, .unset, .unset, .unset, .unset] [])) _
      exact k)
  obtain ⟨T2, h2, X2, e2, E2, A2, D2, -, st2⟩ := newO X0 hx hZ hown (hw _ (List.mem_of_getElem? (i := 1) rfl)) (hw _ (List.mem_of_getElem? (i := 2) rfl)) (hw _ (List.mem_of_getElem? (i := 3) rfl)) e0 (g := (mkF m 42 #[.val (.int p1), .val (.int p2), .val (.int p3), .val (.int p4), .val (.int p5), .val (.int n), .val (.int xa), .val (.int xb), .val (.int xc), .val (.int kf), .unset, .unset, .unset, .unset, .unset, .unset, .unset, .unset] [])) rfl (hb hby at_42) (by decide) (by decide)
  obtain ⟨b2, g2⟩ : ∃ z, z = h0.size := ⟨_, rfl⟩
  rw [← g2] at A2 D2 st2
  have F2_list : Fld Z h2 b2 "com/example/setwright/setwright/analysis/FragmentAutomaton$Hits" "list" "[I" .null := D2 (Or.inl (hw _ (List.mem_of_getElem? (i := 12) rfl))) (ty := (.array .int)) (by decide)
  have F2_found : Fld Z h2 b2 "com/example/setwright/setwright/analysis/FragmentAutomaton$Hits" "found" "[J" .null := D2 (Or.inr (hw _ (List.mem_of_getElem? (i := 16) rfl))) (ty := (.array .long)) (by decide)
  have F2_count : Fld Z h2 b2 "com/example/setwright/setwright/analysis/FragmentAutomaton$Hits" "count" "I" (.int (0 : Int32)) := D2 (Or.inl (hw _ (List.mem_of_getElem? (i := 23) rfl))) (ty := .int) (by decide)
  have go3 : ∀ t, Steps p.tables e below (T2.setTop (mkF m 45 #[.val (.int p1), .val (.int p2), .val (.int p3), .val (.int p4), .val (.int p5), .val (.int n), .val (.int xa), .val (.int xb), .val (.int xc), .val (.int kf), .unset, .unset, .unset, .unset, .unset, .unset, .unset, .unset] [(.ref b2)])) t → G t := fun t k => go1 t (st2 _ k)
  have gb : n0 ≤ b2 := Nat.le_trans Z0 (Nat.le_of_eq g2.symm)
  have Z1 : n0 ≤ h2.size := Nat.le_trans Z0 E2.1
  have go4 : ∀ t, Steps p.tables e below (T2.setTop (mkF m 48 #[.val (.int p1), .val (.int p2), .val (.int p3), .val (.int p4), .val (.int p5), .val (.int n), .val (.int xa), .val (.int xb), .val (.int xc), .val (.int kf), .unset, .unset, .unset, .unset, .unset, .unset, .unset, .unset] [(.int n), (.ref b2), (.ref b2)])) t → G t := fun t k => go3 t (by
      show Steps p.tables e below (T2.setTop (mkF m 45 #[.val (.int p1), .val (.int p2), .val (.int p3), .val (.int p4), .val (.int p5), .val (.int n), .val (.int xa), .val (.int xb), .val (.int xc), .val (.int kf), .unset, .unset, .unset, .unset, .unset, .unset, .unset, .unset] [(.ref b2)])) _
      refine XS.dup X2.here hx rfl (hb hby at_45) rfl rfl ?_
      show Steps p.tables e below (T2.setTop (mkF m 46 #[.val (.int p1), .val (.int p2), .val (.int p3), .val (.int p4), .val (.int p5), .val (.int n), .val (.int xa), .val (.int xb), .val (.int xc), .val (.int kf), .unset, .unset, .unset, .unset, .unset, .unset, .unset, .unset] [(.ref b2), (.ref b2)])) _
      refine XS.iload X2.here hx rfl (hb hby at_46) rfl ?_
      show Steps p.tables e below (T2.setTop (mkF m 48 #[.val (.int p1), .val (.int p2), .val (.int p3), .val (.int p4), .val (.int p5), .val (.int n), .val (.int xa), .val (.int xb), .val (.int xc), .val (.int kf), .unset, .unset, .unset, .unset, .unset, .unset, .unset, .unset] [(.int n), (.ref b2), (.ref b2)])) _
      exact k)
  obtain ⟨_, _, ⟨T5, L5, k5, n5⟩, -, X5, ⟨Lc5, hQ5, l5, y5, z5⟩, st5⟩ := X2.specialBack hx (y := (⟨"com/example/setwright/setwright/analysis/FragmentAutomaton$Hits", "<init>", "(I)V"⟩ : MethodName)) rfl hown (mvT hZ (hw _ (List.mem_of_getElem? (i := 4) rfl))) (mvT hZ (hw _ (List.mem_of_getElem? (i := 5) rfl))) (mvT hZ (hw _ (List.mem_of_getElem? (i := 6) rfl))) (by decide) (backOf (W := 1) (rm1 l Z a0 hw [] b2 n h2 n0 Z1 A2 F2_list F2_found F2_count gb hnb.1 hnb.2) hZ (hw _ (List.mem_of_getElem? (i := 6) rfl)) (hw _ (List.mem_of_getElem? (i := 3) rfl)) (by decide) (by decide)) (g := (mkF m 48 #[.val (.int p1), .val (.int p2), .val (.int p3), .val (.int p4), .val (.int p5), .val (.int n), .val (.int xa), .val (.int xb), .val (.int xc), .val (.int kf), .unset, .unset, .unset, .unset, .unset, .unset, .unset, .unset] [(.int n), (.ref b2), (.ref b2)])) rfl (by rw [hml]; rfl) (Steps.refl _) (a := b2) (argsL := [(.int n)]) (rest := [(.ref b2)]) (lenOf pd_i rfl) rfl (by show 2 * 0 + _ ≤ _; exact Nat.le_of_eq rfl) (hb hby at_48) (fun _ _ => ⟨rfl, e2, (by decide : 1 + 2 ≤ _), (by decide : 3 + 20 ≤ _)⟩)
  dsimp only [Pt.U, Pt.locs, Pt.cells, Pt.slots] at X5 l5 y5 z5 st5 hQ5
  subst l5 y5 z5
  obtain ⟨rfl, N5q, li, fo, H0⟩ := hQ5
  have N5 := Fr.app N0 N5q
  have go6 : ∀ t, Steps p.tables e below (T5.setTop (mkF m 51 #[.val (.int p1), .val (.int p2), .val (.int p3), .val (.int p4), .val (.int p5), .val (.int n), .val (.int xa), .val (.int xb), .val (.int xc), .val (.int kf), .unset, .unset, .unset, .unset, .unset, .unset, .unset, .unset] [(.ref b2)])) t → G t := fun t k => go4 t (st5.trans k)
  rw [← hnw2] at H0
  have go7 : ∀ t, Steps p.tables e below (T5.setTop (mkF m 53 #[.val (.int p1), .val (.int p2), .val (.int p3), .val (.int p4), .val (.int p5), .val (.int n), .val (.int xa), .val (.int xb), .val (.int xc), .val (.int kf), .val (.ref b2), .unset, .unset, .unset, .unset, .unset, .unset, .unset] [])) t → G t := fun t k => go6 t (by
      show Steps p.tables e below (T5.setTop (mkF m 51 #[.val (.int p1), .val (.int p2), .val (.int p3), .val (.int p4), .val (.int p5), .val (.int n), .val (.int xa), .val (.int xb), .val (.int xc), .val (.int kf), .unset, .unset, .unset, .unset, .unset, .unset, .unset, .unset] [(.ref b2)])) _
      refine XS.astore X5.here hx rfl (hb hby at_51) rfl rfl (l' := #[.val (.int p1), .val (.int p2), .val (.int p3), .val (.int p4), .val (.int p5), .val (.int n), .val (.int xa), .val (.int xb), .val (.int xc), .val (.int kf), .val (.ref b2), .unset, .unset, .unset, .unset, .unset, .unset, .unset]) rfl ?_
      show Steps p.tables e below (T5.setTop (mkF m 53 #[.val (.int p1), .val (.int p2), .val (.int p3), .val (.int p4), .val (.int p5), .val (.int n), .val (.int xa), .val (.int xb), .val (.int xc), .val (.int kf), .val (.ref b2), .unset, .unset, .unset, .unset, .unset, .unset, .unset] [])) _
      exact k)
  have C0 : ∃ (xs : List Int32) (g : Nat → Int32) (F : Nat → Int64), own_heap Z T5.heap n0 b2 li fo nw xs.length g F ∧ own_rel nw xs g F ∧ xs.length ≤ 0 := ⟨[], _, _, H0, own_rel_new nw _, Nat.le_refl _⟩
  obtain ⟨T8, h8, locs8, X8, e8, N8, f8_0, go8⟩ : ∃ (T' : State) (h' : Heap) (locs' : List Loc), Stand p l e room_1 s m #[(.int p1), (.int p2), (.int p3), (.int p4), (.int p5)] below meth c T' locs' 3 23 ∧ T'.heap = h' ∧ Fr n0 locs' ∧ (∃ (xs : List Int32) (g : Nat → Int32) (F : Nat → Int64), own_heap Z h' n0 b2 li fo nw xs.length g F ∧ own_rel nw xs g F ∧ xs.length ≤ 1) ∧ (∀ t, Steps p.tables e below (T'.setTop (mkF m 67 #[.val (.int p1), .val (.int p2), .val (.int p3), .val (.int p4), .val (.int p5), .val (.int n), .val (.int xa), .val (.int xb), .val (.int xc), .val (.int kf), .val (.ref b2), .unset, .unset, .unset, .unset, .unset, .unset, .unset] [])) t → G t) := by
    by_cases hk1 : kf < (1 : Int32)
    · obtain ⟨xs, g, F, H, R, hlen⟩ := id C0
      have go9 : ∀ t, Steps p.tables e below (T5.setTop (mkF m 67 #[.val (.int p1), .val (.int p2), .val (.int p3), .val (.int p4), .val (.int p5), .val (.int n), .val (.int xa), .val (.int xb), .val (.int xc), .val (.int kf), .val (.ref b2), .unset, .unset, .unset, .unset, .unset, .unset, .unset] [])) t → G t := fun t k => go7 t (by
          show Steps p.tables e below (T5.setTop (mkF m 53 #[.val (.int p1), .val (.int p2), .val (.int p3), .val (.int p4), .val (.int p5), .val (.int n), .val (.int xa), .val (.int xb), .val (.int xc), .val (.int kf), .val (.ref b2), .unset, .unset, .unset, .unset, .unset, .unset, .unset] [])) _
          refine XS.iload X5.here hx rfl (hb hby at_53) rfl ?_
          show Steps p.tables e below (T5.setTop (mkF m 55 #[.val (.int p1), .val (.int p2), .val (.int p3), .val (.int p4), .val (.int p5), .val (.int n), .val (.int xa), .val (.int xb), .val (.int xc), .val (.int kf), .val (.ref b2), .unset, .unset, .unset, .unset, .unset, .unset, .unset] [(.int kf)])) _
          refine XS.iconst X5.here hx rfl (hb hby at_55) ?_
          show Steps p.tables e below (T5.setTop (mkF m 56 #[.val (.int p1), .val (.int p2), .val (.int p3), .val (.int p4), .val (.int p5), .val (.int n), .val (.int xa), .val (.int xb), .val (.int xc), .val (.int kf), .val (.ref b2), .unset, .unset, .unset, .unset, .unset, .unset, .unset] [(.int (1 : Int32)), (.int kf)])) _
          refine XS.icmpYes X5.here hx rfl (pc0 := 56) (pc' := 67) rfl (hb hby at_56) rfl (tlt hk1).1 (by decide) (by decide) ?_
          show Steps p.tables e below (T5.setTop (mkF m 67 #[.val (.int p1), .val (.int p2), .val (.int p3), .val (.int p4), .val (.int p5), .val (.int n), .val (.int xa), .val (.int xb), .val (.int xc), .val (.int kf), .val (.ref b2), .unset, .unset, .unset, .unset, .unset, .unset, .unset] [])) _
          exact k)
      exact ⟨T5, T5.heap, _, X5, rfl, N5, ⟨xs, g, F, H, R, by omega⟩, go9⟩
    · obtain ⟨xs, g, F, H, R, hlen⟩ := id C0
      have go10 : ∀ t, Steps p.tables e below (T5.setTop (mkF m 63 #[.val (.int p1), .val (.int p2), .val (.int p3), .val (.int p4), .val (.int p5), .val (.int n), .val (.int xa), .val (.int xb), .val (.int xc), .val (.int kf), .val (.ref b2), .unset, .unset, .unset, .unset, .unset, .unset, .unset] [(.int xa), (.ref b2)])) t → G t := fun t k => go7 t (by
          show Steps p.tables e below (T5.setTop (mkF m 53 #[.val (.int p1), .val (.int p2), .val (.int p3), .val (.int p4), .val (.int p5), .val (.int n), .val (.int xa), .val (.int xb), .val (.int xc), .val (.int kf), .val (.ref b2), .unset, .unset, .unset, .unset, .unset, .unset, .unset] [])) _
          refine XS.iload X5.here hx rfl (hb hby at_53) rfl ?_
          show Steps p.tables e below (T5.setTop (mkF m 55 #[.val (.int p1), .val (.int p2), .val (.int p3), .val (.int p4), .val (.int p5), .val (.int n), .val (.int xa), .val (.int xb), .val (.int xc), .val (.int kf), .val (.ref b2), .unset, .unset, .unset, .unset, .unset, .unset, .unset] [(.int kf)])) _
          refine XS.iconst X5.here hx rfl (hb hby at_55) ?_
          show Steps p.tables e below (T5.setTop (mkF m 56 #[.val (.int p1), .val (.int p2), .val (.int p3), .val (.int p4), .val (.int p5), .val (.int n), .val (.int xa), .val (.int xb), .val (.int xc), .val (.int kf), .val (.ref b2), .unset, .unset, .unset, .unset, .unset, .unset, .unset] [(.int (1 : Int32)), (.int kf)])) _
          refine XS.icmpNo X5.here hx rfl (hb hby at_56) rfl (flt hk1).1 ?_
          show Steps p.tables e below (T5.setTop (mkF m 59 #[.val (.int p1), .val (.int p2), .val (.int p3), .val (.int p4), .val (.int p5), .val (.int n), .val (.int xa), .val (.int xb), .val (.int xc), .val (.int kf), .val (.ref b2), .unset, .unset, .unset, .unset, .unset, .unset, .unset] [])) _
          refine XS.aload X5.here hx rfl (hb hby at_59) rfl rfl ?_
          show Steps p.tables e below (T5.setTop (mkF m 61 #[.val (.int p1), .val (.int p2), .val (.int p3), .val (.int p4), .val (.int p5), .val (.int n), .val (.int xa), .val (.int xb), .val (.int xc), .val (.int kf), .val (.ref b2), .unset, .unset, .unset, .unset, .unset, .unset, .unset] [(.ref b2)])) _
          refine XS.iload X5.here hx rfl (hb hby at_61) rfl ?_
          show Steps p.tables e below (T5.setTop (mkF m 63 #[.val (.int p1), .val (.int p2), .val (.int p3), .val (.int p4), .val (.int p5), .val (.int n), .val (.int xa), .val (.int xb), .val (.int xc), .val (.int kf), .val (.ref b2), .unset, .unset, .unset, .unset, .unset, .unset, .unset] [(.int xa), (.ref b2)])) _
          exact k)
      obtain ⟨cq11, kq11, q11a, q11b, q11c⟩ := isOf hZ rfl H.1.1
      obtain ⟨_, _, ⟨T11, L11, k11, n11⟩, -, X11, ⟨Lc11, hQ11, l11, y11, z11⟩, st11⟩ := X5.virtualBack hx (y := (⟨"com/example/setwright/setwright/analysis/FragmentAutomaton$Hits", "add", "(I)Z"⟩ : MethodName)) (z := (⟨"com/example/setwright/setwright/analysis/FragmentAutomaton$Hits", "add", "(I)Z"⟩ : MethodName)) hown (mvT hZ (hw _ (List.mem_of_getElem? (i := 29) rfl))) (mvT hZ (hw _ (List.mem_of_getElem? (i := 30) rfl))) (notFace_of_selects (args := #[]) (mvT hZ (hw _ (List.mem_of_getElem? (i := 32) rfl)))) (mvT hZ (hw _ (List.mem_of_getElem? (i := 32) rfl))) (mvT hZ (hw _ (List.mem_of_getElem? (i := 31) rfl))) (by decide) (backOf (W := 0) (rm5 l Z a0 hw [] b2 xa li fo nw xs g F T5.heap n0 H.2.2.2.2 H R (by omega) bxa.1 (w64 _ bxa.1 bxa.2)) hZ (hw _ (List.mem_of_getElem? (i := 33) rfl)) (hw _ (List.mem_of_getElem? (i := 3) rfl)) (by decide) (by decide)) q11a q11c (g := (mkF m 63 #[.val (.int p1), .val (.int p2), .val (.int p3), .val (.int p4), .val (.int p5), .val (.int n), .val (.int xa), .val (.int xb), .val (.int xc), .val (.int kf), .val (.ref b2), .unset, .unset, .unset, .unset, .unset, .unset, .unset] [(.int xa), (.ref b2)])) rfl (by rw [hml]; rfl) (Steps.refl _) (argsL := [(.int xa)]) (rest := []) (lenOf pd_a rfl) rfl (by show 2 * 0 + _ ≤ _; exact Nat.le_of_eq rfl) (hb hby at_63) (fun _ _ => ⟨rfl, rfl, (by decide : 3 + 0 ≤ _), (by decide : 23 + 0 ≤ _)⟩)
      dsimp only [Pt.U, Pt.locs, Pt.cells, Pt.slots] at X11 l11 y11 z11 st11 hQ11
      subst l11 y11 z11
      obtain ⟨rfl, N11q, g', F', H', R'⟩ := hQ11
      have N11 := Fr.app N5 N11q
      have go12 : ∀ t, Steps p.tables e below (T11.setTop (mkF m 66 #[.val (.int p1), .val (.int p2), .val (.int p3), .val (.int p4), .val (.int p5), .val (.int n), .val (.int xa), .val (.int xb), .val (.int xc), .val (.int kf), .val (.ref b2), .unset, .unset, .unset, .unset, .unset, .unset, .unset] [(.int (own_res xs xa))])) t → G t := fun t k => go10 t (st11.trans k)
      have go13 : ∀ t, Steps p.tables e below (T11.setTop (mkF m 67 #[.val (.int p1), .val (.int p2), .val (.int p3), .val (.int p4), .val (.int p5), .val (.int n), .val (.int xa), .val (.int xb), .val (.int xc), .val (.int kf), .val (.ref b2), .unset, .unset, .unset, .unset, .unset, .unset, .unset] [])) t → G t := fun t k => go12 t (by
          show Steps p.tables e below (T11.setTop (mkF m 66 #[.val (.int p1), .val (.int p2), .val (.int p3), .val (.int p4), .val (.int p5), .val (.int n), .val (.int xa), .val (.int xb), .val (.int xc), .val (.int kf), .val (.ref b2), .unset, .unset, .unset, .unset, .unset, .unset, .unset] [(.int (own_res xs xa))])) _
          refine XS.pop X11.here hx rfl (hb hby at_66) rfl rfl ?_
          show Steps p.tables e below (T11.setTop (mkF m 67 #[.val (.int p1), .val (.int p2), .val (.int p3), .val (.int p4), .val (.int p5), .val (.int n), .val (.int xa), .val (.int xb), .val (.int xc), .val (.int kf), .val (.ref b2), .unset, .unset, .unset, .unset, .unset, .unset, .unset] [])) _
          exact k)
      exact ⟨T11, T11.heap, _, X11, rfl, N11, ⟨_, g', F', H', R', own_len3 (by omega)⟩, go13⟩
  obtain ⟨T14, h14, locs14, X14, e14, N14, f14_0, go14⟩ : ∃ (T' : State) (h' : Heap) (locs' : List Loc), Stand p l e room_1 s m #[(.int p1), (.int p2), (.int p3), (.int p4), (.int p5)] below meth c T' locs' 3 23 ∧ T'.heap = h' ∧ Fr n0 locs' ∧ (∃ (xs : List Int32) (g : Nat → Int32) (F : Nat → Int64), own_heap Z h' n0 b2 li fo nw xs.length g F ∧ own_rel nw xs g F ∧ xs.length ≤ 2) ∧ (∀ t, Steps p.tables e below (T'.setTop (mkF m 81 #[.val (.int p1), .val (.int p2), .val (.int p3), .val (.int p4), .val (.int p5), .val (.int n), .val (.int xa), .val (.int xb), .val (.int xc), .val (.int kf), .val (.ref b2), .unset, .unset, .unset, .unset, .unset, .unset, .unset] [])) t → G t) := by
    by_cases hk2 : kf < (2 : Int32)
    · obtain ⟨xs, g, F, H, R, hlen⟩ := id f8_0
      have go15 : ∀ t, Steps p.tables e below (T8.setTop (mkF m 81 #[.val (.int p1), .val (.int p2), .val (.int p3), .val (.int p4), .val (.int p5), .val (.int n), .val (.int xa), .val (.int xb), .val (.int xc), .val (.int kf), .val (.ref b2), .unset, .unset, .unset, .unset, .unset, .unset, .unset] [])) t → G t := fun t k => go8 t (by
          show Steps p.tables e below (T8.setTop (mkF m 67 #[.val (.int p1), .val (.int p2), .val (.int p3), .val (.int p4), .val (.int p5), .val (.int n), .val (.int xa), .val (.int xb), .val (.int xc), .val (.int kf), .val (.ref b2), .unset, .unset, .unset, .unset, .unset, .unset, .unset] [])) _
          refine XS.iload X8.here hx rfl (hb hby at_67) rfl ?_
          show Steps p.tables e below (T8.setTop (mkF m 69 #[.val (.int p1), .val (.int p2), .val (.int p3), .val (.int p4), .val (.int p5), .val (.int n), .val (.int xa), .val (.int xb), .val (.int xc), .val (.int kf), .val (.ref b2), .unset, .unset, .unset, .unset, .unset, .unset, .unset] [(.int kf)])) _
          refine XS.iconst X8.here hx rfl (hb hby at_69) ?_
          show Steps p.tables e below (T8.setTop (mkF m 70 #[.val (.int p1), .val (.int p2), .val (.int p3), .val (.int p4), .val (.int p5), .val (.int n), .val (.int xa), .val (.int xb), .val (.int xc), .val (.int kf), .val (.ref b2), .unset, .unset, .unset, .unset, .unset, .unset, .unset] [(.int (2 : Int32)), (.int kf)])) _
          refine XS.icmpYes X8.here hx rfl (pc0 := 70) (pc' := 81) rfl (hb hby at_70) rfl (tlt hk2).1 (by decide) (by decide) ?_
          show Steps p.tables e below (T8.setTop (mkF m 81 #[.val (.int p1), .val (.int p2), .val (.int p3), .val (.int p4), .val (.int p5), .val (.int n), .val (.int xa), .val (.int xb), .val (.int xc), .val (.int kf), .val (.ref b2), .unset, .unset, .unset, .unset, .unset, .unset, .unset] [])) _
          exact k)
      exact ⟨T8, h8, _, X8, e8, N8, ⟨xs, g, F, H, R, by omega⟩, go15⟩
    · obtain ⟨xs, g, F, H, R, hlen⟩ := id f8_0
      have go16 : ∀ t, Steps p.tables e below (T8.setTop (mkF m 77 #[.val (.int p1), .val (.int p2), .val (.int p3), .val (.int p4), .val (.int p5), .val (.int n), .val (.int xa), .val (.int xb), .val (.int xc), .val (.int kf), .val (.ref b2), .unset, .unset, .unset, .unset, .unset, .unset, .unset] [(.int xb), (.ref b2)])) t → G t := fun t k => go8 t (by
          show Steps p.tables e below (T8.setTop (mkF m 67 #[.val (.int p1), .val (.int p2), .val (.int p3), .val (.int p4), .val (.int p5), .val (.int n), .val (.int xa), .val (.int xb), .val (.int xc), .val (.int kf), .val (.ref b2), .unset, .unset, .unset, .unset, .unset, .unset, .unset] [])) _
          refine XS.iload X8.here hx rfl (hb hby at_67) rfl ?_
          show Steps p.tables e below (T8.setTop (mkF m 69 #[.val (.int p1), .val (.int p2), .val (.int p3), .val (.int p4), .val (.int p5), .val (.int n), .val (.int xa), .val (.int xb), .val (.int xc), .val (.int kf), .val (.ref b2), .unset, .unset, .unset, .unset, .unset, .unset, .unset] [(.int kf)])) _
          refine XS.iconst X8.here hx rfl (hb hby at_69) ?_
          show Steps p.tables e below (T8.setTop (mkF m 70 #[.val (.int p1), .val (.int p2), .val (.int p3), .val (.int p4), .val (.int p5), .val (.int n), .val (.int xa), .val (.int xb), .val (.int xc), .val (.int kf), .val (.ref b2), .unset, .unset, .unset, .unset, .unset, .unset, .unset] [(.int (2 : Int32)), (.int kf)])) _
          refine XS.icmpNo X8.here hx rfl (hb hby at_70) rfl (flt hk2).1 ?_
          show Steps p.tables e below (T8.setTop (mkF m 73 #[.val (.int p1), .val (.int p2), .val (.int p3), .val (.int p4), .val (.int p5), .val (.int n), .val (.int xa), .val (.int xb), .val (.int xc), .val (.int kf), .val (.ref b2), .unset, .unset, .unset, .unset, .unset, .unset, .unset] [])) _
          refine XS.aload X8.here hx rfl (hb hby at_73) rfl rfl ?_
          show Steps p.tables e below (T8.setTop (mkF m 75 #[.val (.int p1), .val (.int p2), .val (.int p3), .val (.int p4), .val (.int p5), .val (.int n), .val (.int xa), .val (.int xb), .val (.int xc), .val (.int kf), .val (.ref b2), .unset, .unset, .unset, .unset, .unset, .unset, .unset] [(.ref b2)])) _
          refine XS.iload X8.here hx rfl (hb hby at_75) rfl ?_
          show Steps p.tables e below (T8.setTop (mkF m 77 #[.val (.int p1), .val (.int p2), .val (.int p3), .val (.int p4), .val (.int p5), .val (.int n), .val (.int xa), .val (.int xb), .val (.int xc), .val (.int kf), .val (.ref b2), .unset, .unset, .unset, .unset, .unset, .unset, .unset] [(.int xb), (.ref b2)])) _
          exact k)
      obtain ⟨cq17, kq17, q17a, q17b, q17c⟩ := isOf hZ e8 H.1.1
      obtain ⟨_, _, ⟨T17, L17, k17, n17⟩, -, X17, ⟨Lc17, hQ17, l17, y17, z17⟩, st17⟩ := X8.virtualBack hx (y := (⟨"com/example/setwright/setwright/analysis/FragmentAutomaton$Hits", "add", "(I)Z"⟩ : MethodName)) (z := (⟨"com/example/setwright/setwright/analysis/FragmentAutomaton$Hits", "add", "(I)Z"⟩ : MethodName)) hown (mvT hZ (hw _ (List.mem_of_getElem? (i := 29) rfl))) (mvT hZ (hw _ (List.mem_of_getElem? (i := 30) rfl))) (notFace_of_selects (args := #[]) (mvT hZ (hw _ (List.mem_of_getElem? (i := 32) rfl)))) (mvT hZ (hw _ (List.mem_of_getElem? (i := 32) rfl))) (mvT hZ (hw _ (List.mem_of_getElem? (i := 31) rfl))) (by decide) (backOf (W := 0) (rm5 l Z a0 hw [] b2 xb li fo nw xs g F h8 n0 H.2.2.2.2 H R (by omega) bxb.1 (w64 _ bxb.1 bxb.2)) hZ (hw _ (List.mem_of_getElem? (i := 33) rfl)) (hw _ (List.mem_of_getElem? (i := 3) rfl)) (by decide) (by decide)) q17a q17c (g := (mkF m 77 #[.val (.int p1), .val (.int p2), .val (.int p3), .val (.int p4), .val (.int p5), .val (.int n), .val (.int xa), .val (.int xb), .val (.int xc), .val (.int kf), .val (.ref b2), .unset, .unset, .unset, .unset, .unset, .unset, .unset] [(.int xb), (.ref b2)])) rfl (by rw [hml]; rfl) (Steps.refl _) (argsL := [(.int xb)]) (rest := []) (lenOf pd_a rfl) rfl (by show 2 * 0 + _ ≤ _; exact Nat.le_of_eq rfl) (hb hby at_77) (fun _ _ => ⟨rfl, e8, (by decide : 3 + 0 ≤ _), (by decide : 23 + 0 ≤ _)⟩)
      dsimp only [Pt.U, Pt.locs, Pt.cells, Pt.slots] at X17 l17 y17 z17 st17 hQ17
      subst l17 y17 z17
      obtain ⟨rfl, N17q, g', F', H', R'⟩ := hQ17
      have N17 := Fr.app N8 N17q
      have go18 : ∀ t, Steps p.tables e below (T17.setTop (mkF m 80 #[.val (.int p1), .val (.int p2), .val (.int p3), .val (.int p4), .val (.int p5), .val (.int n), .val (.int xa), .val (.int xb), .val (.int xc), .val (.int kf), .val (.ref b2), .unset, .unset, .unset, .unset, .unset, .unset, .unset] [(.int (own_res xs xb))])) t → G t := fun t k => go16 t (st17.trans k)
      have go19 : ∀ t, Steps p.tables e below (T17.setTop (mkF m 81 #[.val (.int p1), .val (.int p2), .val (.int p3), .val (.int p4), .val (.int p5), .val (.int n), .val (.int xa), .val (.int xb), .val (.int xc), .val (.int kf), .val (.ref b2), .unset, .unset, .unset, .unset, .unset, .unset, .unset] [])) t → G t := fun t k => go18 t (by
          show Steps p.tables e below (T17.setTop (mkF m 80 #[.val (.int p1), .val (.int p2), .val (.int p3), .val (.int p4), .val (.int p5), .val (.int n), .val (.int xa), .val (.int xb), .val (.int xc), .val (.int kf), .val (.ref b2), .unset, .unset, .unset, .unset, .unset, .unset, .unset] [(.int (own_res xs xb))])) _
          refine XS.pop X17.here hx rfl (hb hby at_80) rfl rfl ?_
          show Steps p.tables e below (T17.setTop (mkF m 81 #[.val (.int p1), .val (.int p2), .val (.int p3), .val (.int p4), .val (.int p5), .val (.int n), .val (.int xa), .val (.int xb), .val (.int xc), .val (.int kf), .val (.ref b2), .unset, .unset, .unset, .unset, .unset, .unset, .unset] [])) _
          exact k)
      exact ⟨T17, T17.heap, _, X17, rfl, N17, ⟨_, g', F', H', R', own_len3 (by omega)⟩, go19⟩
  obtain ⟨T20, h20, locs20, X20, e20, N20, f20_0, go20⟩ : ∃ (T' : State) (h' : Heap) (locs' : List Loc), Stand p l e room_1 s m #[(.int p1), (.int p2), (.int p3), (.int p4), (.int p5)] below meth c T' locs' 3 23 ∧ T'.heap = h' ∧ Fr n0 locs' ∧ (∃ (xs : List Int32) (g : Nat → Int32) (F : Nat → Int64), own_heap Z h' n0 b2 li fo nw xs.length g F ∧ own_rel nw xs g F ∧ xs.length ≤ 3) ∧ (∀ t, Steps p.tables e below (T'.setTop (mkF m 95 #[.val (.int p1), .val (.int p2), .val (.int p3), .val (.int p4), .val (.int p5), .val (.int n), .val (.int xa), .val (.int xb), .val (.int xc), .val (.int kf), .val (.ref b2), .unset, .unset, .unset, .unset, .unset, .unset, .unset] [])) t → G t) := by
    by_cases hk3 : kf < (3 : Int32)
    · obtain ⟨xs, g, F, H, R, hlen⟩ := id f14_0
      have go21 : ∀ t, Steps p.tables e below (T14.setTop (mkF m 95 #[.val (.int p1), .val (.int p2), .val (.int p3), .val (.int p4), .val (.int p5), .val (.int n), .val (.int xa), .val (.int xb), .val (.int xc), .val (.int kf), .val (.ref b2), .unset, .unset, .unset, .unset, .unset, .unset, .unset] [])) t → G t := fun t k => go14 t (by
          show Steps p.tables e below (T14.setTop (mkF m 81 #[.val (.int p1), .val (.int p2), .val (.int p3), .val (.int p4), .val (.int p5), .val (.int n), .val (.int xa), .val (.int xb), .val (.int xc), .val (.int kf), .val (.ref b2), .unset, .unset, .unset, .unset, .unset, .unset, .unset] [])) _
          refine XS.iload X14.here hx rfl (hb hby at_81) rfl ?_
          show Steps p.tables e below (T14.setTop (mkF m 83 #[.val (.int p1), .val (.int p2), .val (.int p3), .val (.int p4), .val (.int p5), .val (.int n), .val (.int xa), .val (.int xb), .val (.int xc), .val (.int kf), .val (.ref b2), .unset, .unset, .unset, .unset, .unset, .unset, .unset] [(.int kf)])) _
          refine XS.iconst X14.here hx rfl (hb hby at_83) ?_
          show Steps p.tables e below (T14.setTop (mkF m 84 #[.val (.int p1), .val (.int p2), .val (.int p3), .val (.int p4), .val (.int p5), .val (.int n), .val (.int xa), .val (.int xb), .val (.int xc), .val (.int kf), .val (.ref b2), .unset, .unset, .unset, .unset, .unset, .unset, .unset] [(.int (3 : Int32)), (.int kf)])) _
          refine XS.icmpYes X14.here hx rfl (pc0 := 84) (pc' := 95) rfl (hb hby at_84) rfl (tlt hk3).1 (by decide) (by decide) ?_
          show Steps p.tables e below (T14.setTop (mkF m 95 #[.val (.int p1), .val (.int p2), .val (.int p3), .val (.int p4), .val (.int p5), .val (.int n), .val (.int xa), .val (.int xb), .val (.int xc), .val (.int kf), .val (.ref b2), .unset, .unset, .unset, .unset, .unset, .unset, .unset] [])) _
          exact k)
      exact ⟨T14, h14, _, X14, e14, N14, ⟨xs, g, F, H, R, by omega⟩, go21⟩
    · obtain ⟨xs, g, F, H, R, hlen⟩ := id f14_0
      have go22 : ∀ t, Steps p.tables e below (T14.setTop (mkF m 91 #[.val (.int p1), .val (.int p2), .val (.int p3), .val (.int p4), .val (.int p5), .val (.int n), .val (.int xa), .val (.int xb), .val (.int xc), .val (.int kf), .val (.ref b2), .unset, .unset, .unset, .unset, .unset, .unset, .unset] [(.int xc), (.ref b2)])) t → G t := fun t k => go14 t (by
          show Steps p.tables e below (T14.setTop (mkF m 81 #[.val (.int p1), .val (.int p2), .val (.int p3), .val (.int p4), .val (.int p5), .val (.int n), .val (.int xa), .val (.int xb), .val (.int xc), .val (.int kf), .val (.ref b2), .unset, .unset, .unset, .unset, .unset, .unset, .unset] [])) _
          refine XS.iload X14.here hx rfl (hb hby at_81) rfl ?_
          show Steps p.tables e below (T14.setTop (mkF m 83 #[.val (.int p1), .val (.int p2), .val (.int p3), .val (.int p4), .val (.int p5), .val (.int n), .val (.int xa), .val (.int xb), .val (.int xc), .val (.int kf), .val (.ref b2), .unset, .unset, .unset, .unset, .unset, .unset, .unset] [(.int kf)])) _
          refine XS.iconst X14.here hx rfl (hb hby at_83) ?_
          show Steps p.tables e below (T14.setTop (mkF m 84 #[.val (.int p1), .val (.int p2), .val (.int p3), .val (.int p4), .val (.int p5), .val (.int n), .val (.int xa), .val (.int xb), .val (.int xc), .val (.int kf), .val (.ref b2), .unset, .unset, .unset, .unset, .unset, .unset, .unset] [(.int (3 : Int32)), (.int kf)])) _
          refine XS.icmpNo X14.here hx rfl (hb hby at_84) rfl (flt hk3).1 ?_
          show Steps p.tables e below (T14.setTop (mkF m 87 #[.val (.int p1), .val (.int p2), .val (.int p3), .val (.int p4), .val (.int p5), .val (.int n), .val (.int xa), .val (.int xb), .val (.int xc), .val (.int kf), .val (.ref b2), .unset, .unset, .unset, .unset, .unset, .unset, .unset] [])) _
          refine XS.aload X14.here hx rfl (hb hby at_87) rfl rfl ?_
          show Steps p.tables e below (T14.setTop (mkF m 89 #[.val (.int p1), .val (.int p2), .val (.int p3), .val (.int p4), .val (.int p5), .val (.int n), .val (.int xa), .val (.int xb), .val (.int xc), .val (.int kf), .val (.ref b2), .unset, .unset, .unset, .unset, .unset, .unset, .unset] [(.ref b2)])) _
          refine XS.iload X14.here hx rfl (hb hby at_89) rfl ?_
          show Steps p.tables e below (T14.setTop (mkF m 91 #[.val (.int p1), .val (.int p2), .val (.int p3), .val (.int p4), .val (.int p5), .val (.int n), .val (.int xa), .val (.int xb), .val (.int xc), .val (.int kf), .val (.ref b2), .unset, .unset, .unset, .unset, .unset, .unset, .unset] [(.int xc), (.ref b2)])) _
          exact k)
      obtain ⟨cq23, kq23, q23a, q23b, q23c⟩ := isOf hZ e14 H.1.1
      obtain ⟨_, _, ⟨T23, L23, k23, n23⟩, -, X23, ⟨Lc23, hQ23, l23, y23, z23⟩, st23⟩ := X14.virtualBack hx (y := (⟨"com/example/setwright/setwright/analysis/FragmentAutomaton$Hits", "add", "(I)Z"⟩ : MethodName)) (z := (⟨"com/example/setwright/setwright/analysis/FragmentAutomaton$Hits", "add", "(I)Z"⟩ : MethodName)) hown (mvT hZ (hw _ (List.mem_of_getElem? (i := 29) rfl))) (mvT hZ (hw _ (List.mem_of_getElem? (i := 30) rfl))) (notFace_of_selects (args := #[]) (mvT hZ (hw _ (List.mem_of_getElem? (i := 32) rfl)))) (mvT hZ (hw _ (List.mem_of_getElem? (i := 32) rfl))) (mvT hZ (hw _ (List.mem_of_getElem? (i := 31) rfl))) (by decide) (backOf (W := 0) (rm5 l Z a0 hw [] b2 xc li fo nw xs g F h14 n0 H.2.2.2.2 H R (by omega) bxc.1 (w64 _ bxc.1 bxc.2)) hZ (hw _ (List.mem_of_getElem? (i := 33) rfl)) (hw _ (List.mem_of_getElem? (i := 3) rfl)) (by decide) (by decide)) q23a q23c (g := (mkF m 91 #[.val (.int p1), .val (.int p2), .val (.int p3), .val (.int p4), .val (.int p5), .val (.int n), .val (.int xa), .val (.int xb), .val (.int xc), .val (.int kf), .val (.ref b2), .unset, .unset, .unset, .unset, .unset, .unset, .unset] [(.int xc), (.ref b2)])) rfl (by rw [hml]; rfl) (Steps.refl _) (argsL := [(.int xc)]) (rest := []) (lenOf pd_a rfl) rfl (by show 2 * 0 + _ ≤ _; exact Nat.le_of_eq rfl) (hb hby at_91) (fun _ _ => ⟨rfl, e14, (by decide : 3 + 0 ≤ _), (by decide : 23 + 0 ≤ _)⟩)
      dsimp only [Pt.U, Pt.locs, Pt.cells, Pt.slots] at X23 l23 y23 z23 st23 hQ23
      subst l23 y23 z23
      obtain ⟨rfl, N23q, g', F', H', R'⟩ := hQ23
      have N23 := Fr.app N14 N23q
      have go24 : ∀ t, Steps p.tables e below (T23.setTop (mkF m 94 #[.val (.int p1), .val (.int p2), .val (.int p3), .val (.int p4), .val (.int p5), .val (.int n), .val (.int xa), .val (.int xb), .val (.int xc), .val (.int kf), .val (.ref b2), .unset, .unset, .unset, .unset, .unset, .unset, .unset] [(.int (own_res xs xc))])) t → G t := fun t k => go22 t (st23.trans k)
      have go25 : ∀ t, Steps p.tables e below (T23.setTop (mkF m 95 #[.val (.int p1), .val (.int p2), .val (.int p3), .val (.int p4), .val (.int p5), .val (.int n), .val (.int xa), .val (.int xb), .val (.int xc), .val (.int kf), .val (.ref b2), .unset, .unset, .unset, .unset, .unset, .unset, .unset] [])) t → G t := fun t k => go24 t (by
          show Steps p.tables e below (T23.setTop (mkF m 94 #[.val (.int p1), .val (.int p2), .val (.int p3), .val (.int p4), .val (.int p5), .val (.int n), .val (.int xa), .val (.int xb), .val (.int xc), .val (.int kf), .val (.ref b2), .unset, .unset, .unset, .unset, .unset, .unset, .unset] [(.int (own_res xs xc))])) _
          refine XS.pop X23.here hx rfl (hb hby at_94) rfl rfl ?_
          show Steps p.tables e below (T23.setTop (mkF m 95 #[.val (.int p1), .val (.int p2), .val (.int p3), .val (.int p4), .val (.int p5), .val (.int n), .val (.int xa), .val (.int xb), .val (.int xc), .val (.int kf), .val (.ref b2), .unset, .unset, .unset, .unset, .unset, .unset, .unset] [])) _
          exact k)
      exact ⟨T23, T23.heap, _, X23, rfl, N23, ⟨_, g', F', H', R', own_len3 (by omega)⟩, go25⟩
  obtain ⟨xs, g, F, H, R, hlen⟩ := f20_0
  have go26 : ∀ t, Steps p.tables e below (T20.setTop (mkF m 97 #[.val (.int p1), .val (.int p2), .val (.int p3), .val (.int p4), .val (.int p5), .val (.int n), .val (.int xa), .val (.int xb), .val (.int xc), .val (.int kf), .val (.ref b2), .unset, .unset, .unset, .unset, .unset, .unset, .unset] [(.ref b2)])) t → G t := fun t k => go20 t (by
      show Steps p.tables e below (T20.setTop (mkF m 95 #[.val (.int p1), .val (.int p2), .val (.int p3), .val (.int p4), .val (.int p5), .val (.int n), .val (.int xa), .val (.int xb), .val (.int xc), .val (.int kf), .val (.ref b2), .unset, .unset, .unset, .unset, .unset, .unset, .unset] [])) _
      refine XS.aload X20.here hx rfl (hb hby at_95) rfl rfl ?_
      show Steps p.tables e below (T20.setTop (mkF m 97 #[.val (.int p1), .val (.int p2), .val (.int p3), .val (.int p4), .val (.int p5), .val (.int n), .val (.int xa), .val (.int xb), .val (.int xc), .val (.int kf), .val (.ref b2), .unset, .unset, .unset, .unset, .unset, .unset, .unset] [(.ref b2)])) _
      exact k)
  obtain ⟨cq27, kq27, q27a, q27b, q27c⟩ := isOf hZ e20 H.1.1
  obtain ⟨_, _, ⟨T27, L27, k27, n27⟩, -, X27, ⟨Lc27, hQ27, l27, y27, z27⟩, st27⟩ := X20.virtualBack hx (y := (⟨"com/example/setwright/setwright/analysis/FragmentAutomaton$Hits", "clear", "()V"⟩ : MethodName)) (z := (⟨"com/example/setwright/setwright/analysis/FragmentAutomaton$Hits", "clear", "()V"⟩ : MethodName)) hown (mvT hZ (hw _ (List.mem_of_getElem? (i := 17) rfl))) (mvT hZ (hw _ (List.mem_of_getElem? (i := 18) rfl))) (notFace_of_selects (args := #[]) (mvT hZ (hw _ (List.mem_of_getElem? (i := 20) rfl)))) (mvT hZ (hw _ (List.mem_of_getElem? (i := 20) rfl))) (mvT hZ (hw _ (List.mem_of_getElem? (i := 19) rfl))) (by decide) (backOf (W := 0) (rm3 l Z a0 hw [] b2 li fo nw xs g F h20 n0 H.2.2.2.2 H R (by omega)) hZ (hw _ (List.mem_of_getElem? (i := 21) rfl)) (hw _ (List.mem_of_getElem? (i := 3) rfl)) (by decide) (by decide)) q27a q27c (g := (mkF m 97 #[.val (.int p1), .val (.int p2), .val (.int p3), .val (.int p4), .val (.int p5), .val (.int n), .val (.int xa), .val (.int xb), .val (.int xc), .val (.int kf), .val (.ref b2), .unset, .unset, .unset, .unset, .unset, .unset, .unset] [(.ref b2)])) rfl (by rw [hml]; rfl) (Steps.refl _) (argsL := []) (rest := []) (lenOf pd_v rfl) rfl (by show 2 * 0 + _ ≤ _; exact Nat.le_of_eq rfl) (hb hby at_97) (fun _ _ => ⟨rfl, e20, (by decide : 3 + 0 ≤ _), (by decide : 23 + 0 ≤ _)⟩)
  dsimp only [Pt.U, Pt.locs, Pt.cells, Pt.slots] at X27 l27 y27 z27 st27 hQ27
  subst l27 y27 z27
  obtain ⟨rfl, N27q, F1, H1, R1⟩ := hQ27
  have N27 := Fr.app N20 N27q
  have go28 : ∀ t, Steps p.tables e below (T27.setTop (mkF m 100 #[.val (.int p1), .val (.int p2), .val (.int p3), .val (.int p4), .val (.int p5), .val (.int n), .val (.int xa), .val (.int xb), .val (.int xc), .val (.int kf), .val (.ref b2), .unset, .unset, .unset, .unset, .unset, .unset, .unset] [])) t → G t := fun t k => go26 t (st27.trans k)
  have go29 : ∀ t, Steps p.tables e below (T27.setTop (mkF m 102 #[.val (.int p1), .val (.int p2), .val (.int p3), .val (.int p4), .val (.int p5), .val (.int n), .val (.int xa), .val (.int xb), .val (.int xc), .val (.int kf), .val (.ref b2), .unset, .unset, .unset, .unset, .unset, .unset, .unset] [(.ref b2)])) t → G t := fun t k => go28 t (by
      show Steps p.tables e below (T27.setTop (mkF m 100 #[.val (.int p1), .val (.int p2), .val (.int p3), .val (.int p4), .val (.int p5), .val (.int n), .val (.int xa), .val (.int xb), .val (.int xc), .val (.int kf), .val (.ref b2), .unset, .unset, .unset, .unset, .unset, .unset, .unset] [])) _
      refine XS.aload X27.here hx rfl (hb hby at_100) rfl rfl ?_
      show Steps p.tables e below (T27.setTop (mkF m 102 #[.val (.int p1), .val (.int p2), .val (.int p3), .val (.int p4), .val (.int p5), .val (.int n), .val (.int xa), .val (.int xb), .val (.int xc), .val (.int kf), .val (.ref b2), .unset, .unset, .unset, .unset, .unset, .unset, .unset] [(.ref b2)])) _
      exact k)
  obtain ⟨cq30, kq30, q30a, q30b, q30c⟩ := isOf hZ rfl H1.1.1
  obtain ⟨_, _, ⟨T30, L30, k30, n30⟩, -, X30, ⟨Lc30, hQ30, l30, y30, z30⟩, st30⟩ := X27.virtualBack hx (y := (⟨"com/example/setwright/setwright/analysis/FragmentAutomaton$Hits", "count", "()I"⟩ : MethodName)) (z := (⟨"com/example/setwright/setwright/analysis/FragmentAutomaton$Hits", "count", "()I"⟩ : MethodName)) hown (mvT hZ (hw _ (List.mem_of_getElem? (i := 24) rfl))) (mvT hZ (hw _ (List.mem_of_getElem? (i := 25) rfl))) (notFace_of_selects (args := #[]) (mvT hZ (hw _ (List.mem_of_getElem? (i := 27) rfl)))) (mvT hZ (hw _ (List.mem_of_getElem? (i := 27) rfl))) (mvT hZ (hw _ (List.mem_of_getElem? (i := 26) rfl))) (by decide) (backOf (W := 0) (rm4 l Z a0 hw [] b2 0 T27.heap n0 H1.2.2.2.2 H1.1.2.2.2) hZ (hw _ (List.mem_of_getElem? (i := 28) rfl)) (hw _ (List.mem_of_getElem? (i := 3) rfl)) (by decide) (by decide)) q30a q30c (g := (mkF m 102 #[.val (.int p1), .val (.int p2), .val (.int p3), .val (.int p4), .val (.int p5), .val (.int n), .val (.int xa), .val (.int xb), .val (.int xc), .val (.int kf), .val (.ref b2), .unset, .unset, .unset, .unset, .unset, .unset, .unset] [(.ref b2)])) rfl (by rw [hml]; rfl) (Steps.refl _) (argsL := []) (rest := []) (lenOf pd_n rfl) rfl (by show 2 * 0 + _ ≤ _; exact Nat.le_of_eq rfl) (hb hby at_102) (fun _ _ => ⟨rfl, rfl, (by decide : 3 + 0 ≤ _), (by decide : 23 + 0 ≤ _)⟩)
  dsimp only [Pt.U, Pt.locs, Pt.cells, Pt.slots] at X30 l30 y30 z30 st30 hQ30
  subst l30 y30 z30
  obtain ⟨rfl, N30q, q30⟩ := hQ30
  have N30 := Fr.app N27 N30q
  have go31 : ∀ t, Steps p.tables e below (T30.setTop (mkF m 105 #[.val (.int p1), .val (.int p2), .val (.int p3), .val (.int p4), .val (.int p5), .val (.int n), .val (.int xa), .val (.int xb), .val (.int xc), .val (.int kf), .val (.ref b2), .unset, .unset, .unset, .unset, .unset, .unset, .unset] [(.int (Int32.ofNat 0))])) t → G t := fun t k => go29 t (st30.trans k)
  have go32 : ∀ t, Steps p.tables e below (T30.setTop (mkF m 119 #[.val (.int p1), .val (.int p2), .val (.int p3), .val (.int p4), .val (.int p5), .val (.int n), .val (.int xa), .val (.int xb), .val (.int xc), .val (.int kf), .val (.ref b2), .val (.int (1 : Int32)), .unset, .unset, .unset, .unset, .unset, .unset] [(.int xa), (.ref b2)])) t → G t := fun t k => go31 t (by
      show Steps p.tables e below (T30.setTop (mkF m 105 #[.val (.int p1), .val (.int p2), .val (.int p3), .val (.int p4), .val (.int p5), .val (.int n), .val (.int xa), .val (.int xb), .val (.int xc), .val (.int kf), .val (.ref b2), .unset, .unset, .unset, .unset, .unset, .unset, .unset] [(.int (Int32.ofNat 0))])) _
      refine XS.ifNo X30.here hx rfl (hb hby at_105) rfl ((if0 _ _).trans (teq rfl).2) ?_
      show Steps p.tables e below (T30.setTop (mkF m 108 #[.val (.int p1), .val (.int p2), .val (.int p3), .val (.int p4), .val (.int p5), .val (.int n), .val (.int xa), .val (.int xb), .val (.int xc), .val (.int kf), .val (.ref b2), .unset, .unset, .unset, .unset, .unset, .unset, .unset] [])) _
      refine XS.iconst X30.here hx rfl (hb hby at_108) ?_
      show Steps p.tables e below (T30.setTop (mkF m 109 #[.val (.int p1), .val (.int p2), .val (.int p3), .val (.int p4), .val (.int p5), .val (.int n), .val (.int xa), .val (.int xb), .val (.int xc), .val (.int kf), .val (.ref b2), .unset, .unset, .unset, .unset, .unset, .unset, .unset] [(.int (1 : Int32))])) _
      refine XS.goto X30.here hx rfl (pc0 := 109) (pc' := 113) rfl (hb hby at_109) (by decide) (by decide) ?_
      show Steps p.tables e below (T30.setTop (mkF m 113 #[.val (.int p1), .val (.int p2), .val (.int p3), .val (.int p4), .val (.int p5), .val (.int n), .val (.int xa), .val (.int xb), .val (.int xc), .val (.int kf), .val (.ref b2), .unset, .unset, .unset, .unset, .unset, .unset, .unset] [(.int (1 : Int32))])) _
      refine XS.istore X30.here hx rfl (hb hby at_113) rfl (l' := #[.val (.int p1), .val (.int p2), .val (.int p3), .val (.int p4), .val (.int p5), .val (.int n), .val (.int xa), .val (.int xb), .val (.int xc), .val (.int kf), .val (.ref b2), .val (.int (1 : Int32)), .unset, .unset, .unset, .unset, .unset, .unset]) rfl ?_
      show Steps p.tables e below (T30.setTop (mkF m 115 #[.val (.int p1), .val (.int p2), .val (.int p3), .val (.int p4), .val (.int p5), .val (.int n), .val (.int xa), .val (.int xb), .val (.int xc), .val (.int kf), .val (.ref b2), .val (.int (1 : Int32)), .unset, .unset, .unset, .unset, .unset, .unset] [])) _
      refine XS.aload X30.here hx rfl (hb hby at_115) rfl rfl ?_
      show Steps p.tables e below (T30.setTop (mkF m 117 #[.val (.int p1), .val (.int p2), .val (.int p3), .val (.int p4), .val (.int p5), .val (.int n), .val (.int xa), .val (.int xb), .val (.int xc), .val (.int kf), .val (.ref b2), .val (.int (1 : Int32)), .unset, .unset, .unset, .unset, .unset, .unset] [(.ref b2)])) _
      refine XS.iload X30.here hx rfl (hb hby at_117) rfl ?_
      show Steps p.tables e below (T30.setTop (mkF m 119 #[.val (.int p1), .val (.int p2), .val (.int p3), .val (.int p4), .val (.int p5), .val (.int n), .val (.int xa), .val (.int xb), .val (.int xc), .val (.int kf), .val (.ref b2), .val (.int (1 : Int32)), .unset, .unset, .unset, .unset, .unset, .unset] [(.int xa), (.ref b2)])) _
      exact k)
  have l1 : (own_add [] xa).length ≤ 1 := own_len3 (Nat.le_refl 0)
  have l2 : (own_add (own_add [] xa) xb).length ≤ 2 := own_len3 l1
  obtain ⟨cq33, kq33, q33a, q33b, q33c⟩ := isOf hZ q30 H1.1.1
  obtain ⟨_, _, ⟨T33, L33, k33, n33⟩, -, X33, ⟨Lc33, hQ33, l33, y33, z33⟩, st33⟩ := X30.virtualBack hx (y := (⟨"com/example/setwright/setwright/analysis/FragmentAutomaton$Hits", "add", "(I)Z"⟩ : MethodName)) (z := (⟨"com/example/setwright/setwright/analysis/FragmentAutomaton$Hits", "add", "(I)Z"⟩ : MethodName)) hown (mvT hZ (hw _ (List.mem_of_getElem? (i := 29) rfl))) (mvT hZ (hw _ (List.mem_of_getElem? (i := 30) rfl))) (notFace_of_selects (args := #[]) (mvT hZ (hw _ (List.mem_of_getElem? (i := 32) rfl)))) (mvT hZ (hw _ (List.mem_of_getElem? (i := 32) rfl))) (mvT hZ (hw _ (List.mem_of_getElem? (i := 31) rfl))) (by decide) (backOf (W := 0) (rm5 l Z a0 hw [] b2 xa li fo nw [] _ _ T27.heap n0 H1.2.2.2.2 H1 R1 (by decide) bxa.1 (w64 _ bxa.1 bxa.2)) hZ (hw _ (List.mem_of_getElem? (i := 33) rfl)) (hw _ (List.mem_of_getElem? (i := 3) rfl)) (by decide) (by decide)) q33a q33c (g := (mkF m 119 #[.val (.int p1), .val (.int p2), .val (.int p3), .val (.int p4), .val (.int p5), .val (.int n), .val (.int xa), .val (.int xb), .val (.int xc), .val (.int kf), .val (.ref b2), .val (.int (1 : Int32)), .unset, .unset, .unset, .unset, .unset, .unset] [(.int xa), (.ref b2)])) rfl (by rw [hml]; rfl) (Steps.refl _) (argsL := [(.int xa)]) (rest := []) (lenOf pd_a rfl) rfl (by show 2 * 0 + _ ≤ _; exact Nat.le_of_eq rfl) (hb hby at_119) (fun _ _ => ⟨rfl, q30, (by decide : 3 + 0 ≤ _), (by decide : 23 + 0 ≤ _)⟩)
  dsimp only [Pt.U, Pt.locs, Pt.cells, Pt.slots] at X33 l33 y33 z33 st33 hQ33
  subst l33 y33 z33
  obtain ⟨rfl, N33q, g2, F2, H2, R2⟩ := hQ33
  have N33 := Fr.app N30 N33q
  have go34 : ∀ t, Steps p.tables e below (T33.setTop (mkF m 122 #[.val (.int p1), .val (.int p2), .val (.int p3), .val (.int p4), .val (.int p5), .val (.int n), .val (.int xa), .val (.int xb), .val (.int xc), .val (.int kf), .val (.ref b2), .val (.int (1 : Int32)), .unset, .unset, .unset, .unset, .unset, .unset] [(.int (own_res [] xa))])) t → G t := fun t k => go32 t (st33.trans k)
  have go35 : ∀ t, Steps p.tables e below (T33.setTop (mkF m 128 #[.val (.int p1), .val (.int p2), .val (.int p3), .val (.int p4), .val (.int p5), .val (.int n), .val (.int xa), .val (.int xb), .val (.int xc), .val (.int kf), .val (.ref b2), .val (.int (1 : Int32)), .val (.int (own_res [] xa)), .unset, .unset, .unset, .unset, .unset] [(.int xb), (.ref b2)])) t → G t := fun t k => go34 t (by
      show Steps p.tables e below (T33.setTop (mkF m 122 #[.val (.int p1), .val (.int p2), .val (.int p3), .val (.int p4), .val (.int p5), .val (.int n), .val (.int xa), .val (.int xb), .val (.int xc), .val (.int kf), .val (.ref b2), .val (.int (1 : Int32)), .unset, .unset, .unset, .unset, .unset, .unset] [(.int (own_res [] xa))])) _
      refine XS.istore X33.here hx rfl (hb hby at_122) rfl (l' := #[.val (.int p1), .val (.int p2), .val (.int p3), .val (.int p4), .val (.int p5), .val (.int n), .val (.int xa), .val (.int xb), .val (.int xc), .val (.int kf), .val (.ref b2), .val (.int (1 : Int32)), .val (.int (own_res [] xa)), .unset, .unset, .unset, .unset, .unset]) rfl ?_
      show Steps p.tables e below (T33.setTop (mkF m 124 #[.val (.int p1), .val (.int p2), .val (.int p3), .val (.int p4), .val (.int p5), .val (.int n), .val (.int xa), .val (.int xb), .val (.int xc), .val (.int kf), .val (.ref b2), .val (.int (1 : Int32)), .val (.int (own_res [] xa)), .unset, .unset, .unset, .unset, .unset] [])) _
      refine XS.aload X33.here hx rfl (hb hby at_124) rfl rfl ?_
      show Steps p.tables e below (T33.setTop (mkF m 126 #[.val (.int p1), .val (.int p2), .val (.int p3), .val (.int p4), .val (.int p5), .val (.int n), .val (.int xa), .val (.int xb), .val (.int xc), .val (.int kf), .val (.ref b2), .val (.int (1 : Int32)), .val (.int (own_res [] xa)), .unset, .unset, .unset, .unset, .unset] [(.ref b2)])) _
      refine XS.iload X33.here hx rfl (hb hby at_126) rfl ?_
      show Steps p.tables e below (T33.setTop (mkF m 128 #[.val (.int p1), .val (.int p2), .val (.int p3), .val (.int p4), .val (.int p5), .val (.int n), .val (.int xa), .val (.int xb), .val (.int xc), .val (.int kf), .val (.ref b2), .val (.int (1 : Int32)), .val (.int (own_res [] xa)), .unset, .unset, .unset, .unset, .unset] [(.int xb), (.ref b2)])) _
      exact k)
  obtain ⟨cq36, kq36, q36a, q36b, q36c⟩ := isOf hZ rfl H2.1.1
  obtain ⟨_, _, ⟨T36, L36, k36, n36⟩, -, X36, ⟨Lc36, hQ36, l36, y36, z36⟩, st36⟩ := X33.virtualBack hx (y := (⟨"com/example/setwright/setwright/analysis/FragmentAutomaton$Hits", "add", "(I)Z"⟩ : MethodName)) (z := (⟨"com/example/setwright/setwright/analysis/FragmentAutomaton$Hits", "add", "(I)Z"⟩ : MethodName)) hown (mvT hZ (hw _ (List.mem_of_getElem? (i := 29) rfl))) (mvT hZ (hw _ (List.mem_of_getElem? (i := 30) rfl))) (notFace_of_selects (args := #[]) (mvT hZ (hw _ (List.mem_of_getElem? (i := 32) rfl)))) (mvT hZ (hw _ (List.mem_of_getElem? (i := 32) rfl))) (mvT hZ (hw _ (List.mem_of_getElem? (i := 31) rfl))) (by decide) (backOf (W := 0) (rm5 l Z a0 hw [] b2 xb li fo nw (own_add [] xa) _ _ T33.heap n0 H2.2.2.2.2 H2 R2 (by omega) bxb.1 (w64 _ bxb.1 bxb.2)) hZ (hw _ (List.mem_of_getElem? (i := 33) rfl)) (hw _ (List.mem_of_getElem? (i := 3) rfl)) (by decide) (by decide)) q36a q36c (g := (mkF m 128 #[.val (.int p1), .val (.int p2), .val (.int p3), .val (.int p4), .val (.int p5), .val (.int n), .val (.int xa), .val (.int xb), .val (.int xc), .val (.int kf), .val (.ref b2), .val (.int (1 : Int32)), .val (.int (own_res [] xa)), .unset, .unset, .unset, .unset, .unset] [(.int xb), (.ref b2)])) rfl (by rw [hml]; rfl) (Steps.refl _) (argsL := [(.int xb)]) (rest := []) (lenOf pd_a rfl) rfl (by show 2 * 0 + _ ≤ _; exact Nat.le_of_eq rfl) (hb hby at_128) (fun _ _ => ⟨rfl, rfl, (by decide : 3 + 0 ≤ _), (by decide : 23 + 0 ≤ _)⟩)
  dsimp only [Pt.U, Pt.locs, Pt.cells, Pt.slots] at X36 l36 y36 z36 st36 hQ36
  subst l36 y36 z36
  obtain ⟨rfl, N36q, g3, F3, H3, R3⟩ := hQ36
  have N36 := Fr.app N33 N36q
  have go37 : ∀ t, Steps p.tables e below (T36.setTop (mkF m 131 #[.val (.int p1), .val (.int p2), .val (.int p3), .val (.int p4), .val (.int p5), .val (.int n), .val (.int xa), .val (.int xb), .val (.int xc), .val (.int kf), .val (.ref b2), .val (.int (1 : Int32)), .val (.int (own_res [] xa)), .unset, .unset, .unset, .unset, .unset] [(.int (own_res (own_add [] xa) xb))])) t → G t := fun t k => go35 t (st36.trans k)
  have go38 : ∀ t, Steps p.tables e below (T36.setTop (mkF m 137 #[.val (.int p1), .val (.int p2), .val (.int p3), .val (.int p4), .val (.int p5), .val (.int n), .val (.int xa), .val (.int xb), .val (.int xc), .val (.int kf), .val (.ref b2), .val (.int (1 : Int32)), .val (.int (own_res [] xa)), .val (.int (own_res (own_add [] xa) xb)), .unset, .unset, .unset, .unset] [(.int xc), (.ref b2)])) t → G t := fun t k => go37 t (by
      show Steps p.tables e below (T36.setTop (mkF m 131 #[.val (.int p1), .val (.int p2), .val (.int p3), .val (.int p4), .val (.int p5), .val (.int n), .val (.int xa), .val (.int xb), .val (.int xc), .val (.int kf), .val (.ref b2), .val (.int (1 : Int32)), .val (.int (own_res [] xa)), .unset, .unset, .unset, .unset, .unset] [(.int (own_res (own_add [] xa) xb))])) _
      refine XS.istore X36.here hx rfl (hb hby at_131) rfl (l' := #[.val (.int p1), .val (.int p2), .val (.int p3), .val (.int p4), .val (.int p5), .val (.int n), .val (.int xa), .val (.int xb), .val (.int xc), .val (.int kf), .val (.ref b2), .val (.int (1 : Int32)), .val (.int (own_res [] xa)), .val (.int (own_res (own_add [] xa) xb)), .unset, .unset, .unset, .unset]) rfl ?_
      show Steps p.tables e below (T36.setTop (mkF m 133 #[.val (.int p1), .val (.int p2), .val (.int p3), .val (.int p4), .val (.int p5), .val (.int n), .val (.int xa), .val (.int xb), .val (.int xc), .val (.int kf), .val (.ref b2), .val (.int (1 : Int32)), .val (.int (own_res [] xa)), .val (.int (own_res (own_add [] xa) xb)), .unset, .unset, .unset, .unset] [])) _
      refine XS.aload X36.here hx rfl (hb hby at_133) rfl rfl ?_
      show Steps p.tables e below (T36.setTop (mkF m 135 #[.val (.int p1), .val (.int p2), .val (.int p3), .val (.int p4), .val (.int p5), .val (.int n), .val (.int xa), .val (.int xb), .val (.int xc), .val (.int kf), .val (.ref b2), .val (.int (1 : Int32)), .val (.int (own_res [] xa)), .val (.int (own_res (own_add [] xa) xb)), .unset, .unset, .unset, .unset] [(.ref b2)])) _
      refine XS.iload X36.here hx rfl (hb hby at_135) rfl ?_
      show Steps p.tables e below (T36.setTop (mkF m 137 #[.val (.int p1), .val (.int p2), .val (.int p3), .val (.int p4), .val (.int p5), .val (.int n), .val (.int xa), .val (.int xb), .val (.int xc), .val (.int kf), .val (.ref b2), .val (.int (1 : Int32)), .val (.int (own_res [] xa)), .val (.int (own_res (own_add [] xa) xb)), .unset, .unset, .unset, .unset] [(.int xc), (.ref b2)])) _
      exact k)
  obtain ⟨cq39, kq39, q39a, q39b, q39c⟩ := isOf hZ rfl H3.1.1
  obtain ⟨_, _, ⟨T39, L39, k39, n39⟩, -, X39, ⟨Lc39, hQ39, l39, y39, z39⟩, st39⟩ := X36.virtualBack hx (y := (⟨"com/example/setwright/setwright/analysis/FragmentAutomaton$Hits", "add", "(I)Z"⟩ : MethodName)) (z := (⟨"com/example/setwright/setwright/analysis/FragmentAutomaton$Hits", "add", "(I)Z"⟩ : MethodName)) hown (mvT hZ (hw _ (List.mem_of_getElem? (i := 29) rfl))) (mvT hZ (hw _ (List.mem_of_getElem? (i := 30) rfl))) (notFace_of_selects (args := #[]) (mvT hZ (hw _ (List.mem_of_getElem? (i := 32) rfl)))) (mvT hZ (hw _ (List.mem_of_getElem? (i := 32) rfl))) (mvT hZ (hw _ (List.mem_of_getElem? (i := 31) rfl))) (by decide) (backOf (W := 0) (rm5 l Z a0 hw [] b2 xc li fo nw (own_add (own_add [] xa) xb) _ _ T36.heap n0 H3.2.2.2.2 H3 R3 (by omega) bxc.1 (w64 _ bxc.1 bxc.2)) hZ (hw _ (List.mem_of_getElem? (i := 33) rfl)) (hw _ (List.mem_of_getElem? (i := 3) rfl)) (by decide) (by decide)) q39a q39c (g := (mkF m 137 #[.val (.int p1), .val (.int p2), .val (.int p3), .val (.int p4), .val (.int p5), .val (.int n), .val (.int xa), .val (.int xb), .val (.int xc), .val (.int kf), .val (.ref b2), .val (.int (1 : Int32)), .val (.int (own_res [] xa)), .val (.int (own_res (own_add [] xa) xb)), .unset, .unset, .unset, .unset] [(.int xc), (.ref b2)])) rfl (by rw [hml]; rfl) (Steps.refl _) (argsL := [(.int xc)]) (rest := []) (lenOf pd_a rfl) rfl (by show 2 * 0 + _ ≤ _; exact Nat.le_of_eq rfl) (hb hby at_137) (fun _ _ => ⟨rfl, rfl, (by decide : 3 + 0 ≤ _), (by decide : 23 + 0 ≤ _)⟩)
  dsimp only [Pt.U, Pt.locs, Pt.cells, Pt.slots] at X39 l39 y39 z39 st39 hQ39
  subst l39 y39 z39
  obtain ⟨rfl, N39q, g4, F4, H4, R4⟩ := hQ39
  have N39 := Fr.app N36 N39q
  have go40 : ∀ t, Steps p.tables e below (T39.setTop (mkF m 140 #[.val (.int p1), .val (.int p2), .val (.int p3), .val (.int p4), .val (.int p5), .val (.int n), .val (.int xa), .val (.int xb), .val (.int xc), .val (.int kf), .val (.ref b2), .val (.int (1 : Int32)), .val (.int (own_res [] xa)), .val (.int (own_res (own_add [] xa) xb)), .unset, .unset, .unset, .unset] [(.int (own_res (own_add (own_add [] xa) xb) xc))])) t → G t := fun t k => go38 t (st39.trans k)
  have go41 : ∀ t, Steps p.tables e below (T39.setTop (mkF m 142 #[.val (.int p1), .val (.int p2), .val (.int p3), .val (.int p4), .val (.int p5), .val (.int n), .val (.int xa), .val (.int xb), .val (.int xc), .val (.int kf), .val (.ref b2), .val (.int (1 : Int32)), .val (.int (own_res [] xa)), .val (.int (own_res (own_add [] xa) xb)), .val (.int (own_res (own_add (own_add [] xa) xb) xc)), .unset, .unset, .unset] [])) t → G t := fun t k => go40 t (by
      show Steps p.tables e below (T39.setTop (mkF m 140 #[.val (.int p1), .val (.int p2), .val (.int p3), .val (.int p4), .val (.int p5), .val (.int n), .val (.int xa), .val (.int xb), .val (.int xc), .val (.int kf), .val (.ref b2), .val (.int (1 : Int32)), .val (.int (own_res [] xa)), .val (.int (own_res (own_add [] xa) xb)), .unset, .unset, .unset, .unset] [(.int (own_res (own_add (own_add [] xa) xb) xc))])) _
      refine XS.istore X39.here hx rfl (hb hby at_140) rfl (l' := #[.val (.int p1), .val (.int p2), .val (.int p3), .val (.int p4), .val (.int p5), .val (.int n), .val (.int xa), .val (.int xb), .val (.int xc), .val (.int kf), .val (.ref b2), .val (.int (1 : Int32)), .val (.int (own_res [] xa)), .val (.int (own_res (own_add [] xa) xb)), .val (.int (own_res (own_add (own_add [] xa) xb) xc)), .unset, .unset, .unset]) rfl ?_
      show Steps p.tables e below (T39.setTop (mkF m 142 #[.val (.int p1), .val (.int p2), .val (.int p3), .val (.int p4), .val (.int p5), .val (.int n), .val (.int xa), .val (.int xb), .val (.int xc), .val (.int kf), .val (.ref b2), .val (.int (1 : Int32)), .val (.int (own_res [] xa)), .val (.int (own_res (own_add [] xa) xb)), .val (.int (own_res (own_add (own_add [] xa) xb) xc)), .unset, .unset, .unset] [])) _
      exact k)
  have ro := own_round xa xb xc
  have go42 : ∀ t, Steps p.tables e below (T39.setTop (mkF m 156 #[.val (.int p1), .val (.int p2), .val (.int p3), .val (.int p4), .val (.int p5), .val (.int n), .val (.int xa), .val (.int xb), .val (.int xc), .val (.int kf), .val (.ref b2), .val (.int (1 : Int32)), .val (.int (own_res [] xa)), .val (.int (own_res (own_add [] xa) xb)), .val (.int (own_res (own_add (own_add [] xa) xb) xc)), .val (.int (own_ne xb xa)), .unset, .unset] [])) t → G t := fun t k => go41 t (by
      show Steps p.tables e below (T39.setTop (mkF m 142 #[.val (.int p1), .val (.int p2), .val (.int p3), .val (.int p4), .val (.int p5), .val (.int n), .val (.int xa), .val (.int xb), .val (.int xc), .val (.int kf), .val (.ref b2), .val (.int (1 : Int32)), .val (.int (own_res [] xa)), .val (.int (own_res (own_add [] xa) xb)), .val (.int (own_res (own_add (own_add [] xa) xb) xc)), .unset, .unset, .unset] [])) _
      refine XS.iload X39.here hx rfl (hb hby at_142) rfl ?_
      show Steps p.tables e below (T39.setTop (mkF m 144 #[.val (.int p1), .val (.int p2), .val (.int p3), .val (.int p4), .val (.int p5), .val (.int n), .val (.int xa), .val (.int xb), .val (.int xc), .val (.int kf), .val (.ref b2), .val (.int (1 : Int32)), .val (.int (own_res [] xa)), .val (.int (own_res (own_add [] xa) xb)), .val (.int (own_res (own_add (own_add [] xa) xb) xc)), .unset, .unset, .unset] [(.int xb)])) _
      refine XS.iload X39.here hx rfl (hb hby at_144) rfl ?_
      show Steps p.tables e below (T39.setTop (mkF m 146 #[.val (.int p1), .val (.int p2), .val (.int p3), .val (.int p4), .val (.int p5), .val (.int n), .val (.int xa), .val (.int xb), .val (.int xc), .val (.int kf), .val (.ref b2), .val (.int (1 : Int32)), .val (.int (own_res [] xa)), .val (.int (own_res (own_add [] xa) xb)), .val (.int (own_res (own_add (own_add [] xa) xb) xc)), .unset, .unset, .unset] [(.int xa), (.int xb)])) _
      by_cases h146 : xb.toInt = xa.toInt
      · refine XS.icmpYes X39.here hx rfl (pc0 := 146) (pc' := 153) rfl (hb hby at_146) rfl (teq (show xb = xa from Int32.toInt_inj.mp h146)).1 (by decide) (by decide) ?_
        show Steps p.tables e below (T39.setTop (mkF m 153 #[.val (.int p1), .val (.int p2), .val (.int p3), .val (.int p4), .val (.int p5), .val (.int n), .val (.int xa), .val (.int xb), .val (.int xc), .val (.int kf), .val (.ref b2), .val (.int (1 : Int32)), .val (.int (own_res [] xa)), .val (.int (own_res (own_add [] xa) xb)), .val (.int (own_res (own_add (own_add [] xa) xb) xc)), .unset, .unset, .unset] [])) _
        refine XS.iconst X39.here hx rfl (hb hby at_153) ?_
        show Steps p.tables e below (T39.setTop (mkF m 154 #[.val (.int p1), .val (.int p2), .val (.int p3), .val (.int p4), .val (.int p5), .val (.int n), .val (.int xa), .val (.int xb), .val (.int xc), .val (.int kf), .val (.ref b2), .val (.int (1 : Int32)), .val (.int (own_res [] xa)), .val (.int (own_res (own_add [] xa) xb)), .val (.int (own_res (own_add (own_add [] xa) xb) xc)), .unset, .unset, .unset] [(.int (0 : Int32))])) _
        refine XS.istore X39.here hx rfl (hb hby at_154) rfl (l' := #[.val (.int p1), .val (.int p2), .val (.int p3), .val (.int p4), .val (.int p5), .val (.int n), .val (.int xa), .val (.int xb), .val (.int xc), .val (.int kf), .val (.ref b2), .val (.int (1 : Int32)), .val (.int (own_res [] xa)), .val (.int (own_res (own_add [] xa) xb)), .val (.int (own_res (own_add (own_add [] xa) xb) xc)), .val (.int (0 : Int32)), .unset, .unset]) rfl ?_
        show Steps p.tables e below (T39.setTop (mkF m 156 #[.val (.int p1), .val (.int p2), .val (.int p3), .val (.int p4), .val (.int p5), .val (.int n), .val (.int xa), .val (.int xb), .val (.int xc), .val (.int kf), .val (.ref b2), .val (.int (1 : Int32)), .val (.int (own_res [] xa)), .val (.int (own_res (own_add [] xa) xb)), .val (.int (own_res (own_add (own_add [] xa) xb) xc)), .val (.int (0 : Int32)), .unset, .unset] [])) _
        have hv : own_ne xb xa = (0 : Int32) := own_ne_eq h146
        rw [hv] at k
        exact k
      · refine XS.icmpNo X39.here hx rfl (hb hby at_146) rfl (feq (fun q : xb = xa => h146 (Int32.toInt_inj.mpr q))).1 ?_
        show Steps p.tables e below (T39.setTop (mkF m 149 #[.val (.int p1), .val (.int p2), .val (.int p3), .val (.int p4), .val (.int p5), .val (.int n), .val (.int xa), .val (.int xb), .val (.int xc), .val (.int kf), .val (.ref b2), .val (.int (1 : Int32)), .val (.int (own_res [] xa)), .val (.int (own_res (own_add [] xa) xb)), .val (.int (own_res (own_add (own_add [] xa) xb) xc)), .unset, .unset, .unset] [])) _
        refine XS.iconst X39.here hx rfl (hb hby at_149) ?_
        show Steps p.tables e below (T39.setTop (mkF m 150 #[.val (.int p1), .val (.int p2), .val (.int p3), .val (.int p4), .val (.int p5), .val (.int n), .val (.int xa), .val (.int xb), .val (.int xc), .val (.int kf), .val (.ref b2), .val (.int (1 : Int32)), .val (.int (own_res [] xa)), .val (.int (own_res (own_add [] xa) xb)), .val (.int (own_res (own_add (own_add [] xa) xb) xc)), .unset, .unset, .unset] [(.int (1 : Int32))])) _
        refine XS.goto X39.here hx rfl (pc0 := 150) (pc' := 154) rfl (hb hby at_150) (by decide) (by decide) ?_
        show Steps p.tables e below (T39.setTop (mkF m 154 #[.val (.int p1), .val (.int p2), .val (.int p3), .val (.int p4), .val (.int p5), .val (.int n), .val (.int xa), .val (.int xb), .val (.int xc), .val (.int kf), .val (.ref b2), .val (.int (1 : Int32)), .val (.int (own_res [] xa)), .val (.int (own_res (own_add [] xa) xb)), .val (.int (own_res (own_add (own_add [] xa) xb) xc)), .unset, .unset, .unset] [(.int (1 : Int32))])) _
        refine XS.istore X39.here hx rfl (hb hby at_154) rfl (l' := #[.val (.int p1), .val (.int p2), .val (.int p3), .val (.int p4), .val (.int p5), .val (.int n), .val (.int xa), .val (.int xb), .val (.int xc), .val (.int kf), .val (.ref b2), .val (.int (1 : Int32)), .val (.int (own_res [] xa)), .val (.int (own_res (own_add [] xa) xb)), .val (.int (own_res (own_add (own_add [] xa) xb) xc)), .val (.int (1 : Int32)), .unset, .unset]) rfl ?_
        show Steps p.tables e below (T39.setTop (mkF m 156 #[.val (.int p1), .val (.int p2), .val (.int p3), .val (.int p4), .val (.int p5), .val (.int n), .val (.int xa), .val (.int xb), .val (.int xc), .val (.int kf), .val (.ref b2), .val (.int (1 : Int32)), .val (.int (own_res [] xa)), .val (.int (own_res (own_add [] xa) xb)), .val (.int (own_res (own_add (own_add [] xa) xb) xc)), .val (.int (1 : Int32)), .unset, .unset] [])) _
        have hv : own_ne xb xa = (1 : Int32) := own_ne_ne h146
        rw [hv] at k
        exact k)
  have go43 : ∀ t, Steps p.tables e below (T39.setTop (mkF m 177 #[.val (.int p1), .val (.int p2), .val (.int p3), .val (.int p4), .val (.int p5), .val (.int n), .val (.int xa), .val (.int xb), .val (.int xc), .val (.int kf), .val (.ref b2), .val (.int (1 : Int32)), .val (.int (own_res [] xa)), .val (.int (own_res (own_add [] xa) xb)), .val (.int (own_res (own_add (own_add [] xa) xb) xc)), .val (.int (own_ne xb xa)), .val (.int (own_nc xa xb xc)), .unset] [])) t → G t := fun t k => go42 t (by
      show Steps p.tables e below (T39.setTop (mkF m 156 #[.val (.int p1), .val (.int p2), .val (.int p3), .val (.int p4), .val (.int p5), .val (.int n), .val (.int xa), .val (.int xb), .val (.int xc), .val (.int kf), .val (.ref b2), .val (.int (1 : Int32)), .val (.int (own_res [] xa)), .val (.int (own_res (own_add [] xa) xb)), .val (.int (own_res (own_add (own_add [] xa) xb) xc)), .val (.int (own_ne xb xa)), .unset, .unset] [])) _
      refine XS.iload X39.here hx rfl (hb hby at_156) rfl ?_
      show Steps p.tables e below (T39.setTop (mkF m 158 #[.val (.int p1), .val (.int p2), .val (.int p3), .val (.int p4), .val (.int p5), .val (.int n), .val (.int xa), .val (.int xb), .val (.int xc), .val (.int kf), .val (.ref b2), .val (.int (1 : Int32)), .val (.int (own_res [] xa)), .val (.int (own_res (own_add [] xa) xb)), .val (.int (own_res (own_add (own_add [] xa) xb) xc)), .val (.int (own_ne xb xa)), .unset, .unset] [(.int xc)])) _
      refine XS.iload X39.here hx rfl (hb hby at_158) rfl ?_
      show Steps p.tables e below (T39.setTop (mkF m 160 #[.val (.int p1), .val (.int p2), .val (.int p3), .val (.int p4), .val (.int p5), .val (.int n), .val (.int xa), .val (.int xb), .val (.int xc), .val (.int kf), .val (.ref b2), .val (.int (1 : Int32)), .val (.int (own_res [] xa)), .val (.int (own_res (own_add [] xa) xb)), .val (.int (own_res (own_add (own_add [] xa) xb) xc)), .val (.int (own_ne xb xa)), .unset, .unset] [(.int xa), (.int xc)])) _
      by_cases h160 : xc.toInt = xa.toInt
      · refine XS.icmpYes X39.here hx rfl (pc0 := 160) (pc' := 174) rfl (hb hby at_160) rfl (teq (show xc = xa from Int32.toInt_inj.mp h160)).1 (by decide) (by decide) ?_
        show Steps p.tables e below (T39.setTop (mkF m 174 #[.val (.int p1), .val (.int p2), .val (.int p3), .val (.int p4), .val (.int p5), .val (.int n), .val (.int xa), .val (.int xb), .val (.int xc), .val (.int kf), .val (.ref b2), .val (.int (1 : Int32)), .val (.int (own_res [] xa)), .val (.int (own_res (own_add [] xa) xb)), .val (.int (own_res (own_add (own_add [] xa) xb) xc)), .val (.int (own_ne xb xa)), .unset, .unset] [])) _
        refine XS.iconst X39.here hx rfl (hb hby at_174) ?_
        show Steps p.tables e below (T39.setTop (mkF m 175 #[.val (.int p1), .val (.int p2), .val (.int p3), .val (.int p4), .val (.int p5), .val (.int n), .val (.int xa), .val (.int xb), .val (.int xc), .val (.int kf), .val (.ref b2), .val (.int (1 : Int32)), .val (.int (own_res [] xa)), .val (.int (own_res (own_add [] xa) xb)), .val (.int (own_res (own_add (own_add [] xa) xb) xc)), .val (.int (own_ne xb xa)), .unset, .unset] [(.int (0 : Int32))])) _
        refine XS.istore X39.here hx rfl (hb hby at_175) rfl (l' := #[.val (.int p1), .val (.int p2), .val (.int p3), .val (.int p4), .val (.int p5), .val (.int n), .val (.int xa), .val (.int xb), .val (.int xc), .val (.int kf), .val (.ref b2), .val (.int (1 : Int32)), .val (.int (own_res [] xa)), .val (.int (own_res (own_add [] xa) xb)), .val (.int (own_res (own_add (own_add [] xa) xb) xc)), .val (.int (own_ne xb xa)), .val (.int (0 : Int32)), .unset]) rfl ?_
        show Steps p.tables e below (T39.setTop (mkF m 177 #[.val (.int p1), .val (.int p2), .val (.int p3), .val (.int p4), .val (.int p5), .val (.int n), .val (.int xa), .val (.int xb), .val (.int xc), .val (.int kf), .val (.ref b2), .val (.int (1 : Int32)), .val (.int (own_res [] xa)), .val (.int (own_res (own_add [] xa) xb)), .val (.int (own_res (own_add (own_add [] xa) xb) xc)), .val (.int (own_ne xb xa)), .val (.int (0 : Int32)), .unset] [])) _
        have hv : own_nc xa xb xc = (0 : Int32) := own_nc_eq (Or.inl h160)
        rw [hv] at k
        exact k
      · refine XS.icmpNo X39.here hx rfl (hb hby at_160) rfl (feq (fun q : xc = xa => h160 (Int32.toInt_inj.mpr q))).1 ?_
        show Steps p.tables e below (T39.setTop (mkF m 163 #[.val (.int p1), .val (.int p2), .val (.int p3), .val (.int p4), .val (.int p5), .val (.int n), .val (.int xa), .val (.int xb), .val (.int xc), .val (.int kf), .val (.ref b2), .val (.int (1 : Int32)), .val (.int (own_res [] xa)), .val (.int (own_res (own_add [] xa) xb)), .val (.int (own_res (own_add (own_add [] xa) xb) xc)), .val (.int (own_ne xb xa)), .unset, .unset] [])) _
        refine XS.iload X39.here hx rfl (hb hby at_163) rfl ?_
        show Steps p.tables e below (T39.setTop (mkF m 165 #[.val (.int p1), .val (.int p2), .val (.int p3), .val (.int p4), .val (.int p5), .val (.int n), .val (.int xa), .val (.int xb), .val (.int xc), .val (.int kf), .val (.ref b2), .val (.int (1 : Int32)), .val (.int (own_res [] xa)), .val (.int (own_res (own_add [] xa) xb)), .val (.int (own_res (own_add (own_add [] xa) xb) xc)), .val (.int (own_ne xb xa)), .unset, .unset] [(.int xc)])) _
        refine XS.iload X39.here hx rfl (hb hby at_165) rfl ?_
        show Steps p.tables e below (T39.setTop (mkF m 167 #[.val (.int p1), .val (.int p2), .val (.int p3), .val (.int p4), .val (.int p5), .val (.int n), .val (.int xa), .val (.int xb), .val (.int xc), .val (.int kf), .val (.ref b2), .val (.int (1 : Int32)), .val (.int (own_res [] xa)), .val (.int (own_res (own_add [] xa) xb)), .val (.int (own_res (own_add (own_add [] xa) xb) xc)), .val (.int (own_ne xb xa)), .unset, .unset] [(.int xb), (.int xc)])) _
        by_cases h167 : xc.toInt = xb.toInt
        · refine XS.icmpYes X39.here hx rfl (pc0 := 167) (pc' := 174) rfl (hb hby at_167) rfl (teq (show xc = xb from Int32.toInt_inj.mp h167)).1 (by decide) (by decide) ?_
          show Steps p.tables e below (T39.setTop (mkF m 174 #[.val (.int p1), .val (.int p2), .val (.int p3), .val (.int p4), .val (.int p5), .val (.int n), .val (.int xa), .val (.int xb), .val (.int xc), .val (.int kf), .val (.ref b2), .val (.int (1 : Int32)), .val (.int (own_res [] xa)), .val (.int (own_res (own_add [] xa) xb)), .val (.int (own_res (own_add (own_add [] xa) xb) xc)), .val (.int (own_ne xb xa)), .unset, .unset] [])) _
          refine XS.iconst X39.here hx rfl (hb hby at_174) ?_
          show Steps p.tables e below (T39.setTop (mkF m 175 #[.val (.int p1), .val (.int p2), .val (.int p3), .val (.int p4), .val (.int p5), .val (.int n), .val (.int xa), .val (.int xb), .val (.int xc), .val (.int kf), .val (.ref b2), .val (.int (1 : Int32)), .val (.int (own_res [] xa)), .val (.int (own_res (own_add [] xa) xb)), .val (.int (own_res (own_add (own_add [] xa) xb) xc)), .val (.int (own_ne xb xa)), .unset, .unset] [(.int (0 : Int32))])) _
          refine XS.istore X39.here hx rfl (hb hby at_175) rfl (l' := #[.val (.int p1), .val (.int p2), .val (.int p3), .val (.int p4), .val (.int p5), .val (.int n), .val (.int xa), .val (.int xb), .val (.int xc), .val (.int kf), .val (.ref b2), .val (.int (1 : Int32)), .val (.int (own_res [] xa)), .val (.int (own_res (own_add [] xa) xb)), .val (.int (own_res (own_add (own_add [] xa) xb) xc)), .val (.int (own_ne xb xa)), .val (.int (0 : Int32)), .unset]) rfl ?_
          show Steps p.tables e below (T39.setTop (mkF m 177 #[.val (.int p1), .val (.int p2), .val (.int p3), .val (.int p4), .val (.int p5), .val (.int n), .val (.int xa), .val (.int xb), .val (.int xc), .val (.int kf), .val (.ref b2), .val (.int (1 : Int32)), .val (.int (own_res [] xa)), .val (.int (own_res (own_add [] xa) xb)), .val (.int (own_res (own_add (own_add [] xa) xb) xc)), .val (.int (own_ne xb xa)), .val (.int (0 : Int32)), .unset] [])) _
          have hv : own_nc xa xb xc = (0 : Int32) := own_nc_eq (Or.inr h167)
          rw [hv] at k
          exact k
        · refine XS.icmpNo X39.here hx rfl (hb hby at_167) rfl (feq (fun q : xc = xb => h167 (Int32.toInt_inj.mpr q))).1 ?_
          show Steps p.tables e below (T39.setTop (mkF m 170 #[.val (.int p1), .val (.int p2), .val (.int p3), .val (.int p4), .val (.int p5), .val (.int n), .val (.int xa), .val (.int xb), .val (.int xc), .val (.int kf), .val (.ref b2), .val (.int (1 : Int32)), .val (.int (own_res [] xa)), .val (.int (own_res (own_add [] xa) xb)), .val (.int (own_res (own_add (own_add [] xa) xb) xc)), .val (.int (own_ne xb xa)), .unset, .unset] [])) _
          refine XS.iconst X39.here hx rfl (hb hby at_170) ?_
          show Steps p.tables e below (T39.setTop (mkF m 171 #[.val (.int p1), .val (.int p2), .val (.int p3), .val (.int p4), .val (.int p5), .val (.int n), .val (.int xa), .val (.int xb), .val (.int xc), .val (.int kf), .val (.ref b2), .val (.int (1 : Int32)), .val (.int (own_res [] xa)), .val (.int (own_res (own_add [] xa) xb)), .val (.int (own_res (own_add (own_add [] xa) xb) xc)), .val (.int (own_ne xb xa)), .unset, .unset] [(.int (1 : Int32))])) _
          refine XS.goto X39.here hx rfl (pc0 := 171) (pc' := 175) rfl (hb hby at_171) (by decide) (by decide) ?_
          show Steps p.tables e below (T39.setTop (mkF m 175 #[.val (.int p1), .val (.int p2), .val (.int p3), .val (.int p4), .val (.int p5), .val (.int n), .val (.int xa), .val (.int xb), .val (.int xc), .val (.int kf), .val (.ref b2), .val (.int (1 : Int32)), .val (.int (own_res [] xa)), .val (.int (own_res (own_add [] xa) xb)), .val (.int (own_res (own_add (own_add [] xa) xb) xc)), .val (.int (own_ne xb xa)), .unset, .unset] [(.int (1 : Int32))])) _
          refine XS.istore X39.here hx rfl (hb hby at_175) rfl (l' := #[.val (.int p1), .val (.int p2), .val (.int p3), .val (.int p4), .val (.int p5), .val (.int n), .val (.int xa), .val (.int xb), .val (.int xc), .val (.int kf), .val (.ref b2), .val (.int (1 : Int32)), .val (.int (own_res [] xa)), .val (.int (own_res (own_add [] xa) xb)), .val (.int (own_res (own_add (own_add [] xa) xb) xc)), .val (.int (own_ne xb xa)), .val (.int (1 : Int32)), .unset]) rfl ?_
          show Steps p.tables e below (T39.setTop (mkF m 177 #[.val (.int p1), .val (.int p2), .val (.int p3), .val (.int p4), .val (.int p5), .val (.int n), .val (.int xa), .val (.int xb), .val (.int xc), .val (.int kf), .val (.ref b2), .val (.int (1 : Int32)), .val (.int (own_res [] xa)), .val (.int (own_res (own_add [] xa) xb)), .val (.int (own_res (own_add (own_add [] xa) xb) xc)), .val (.int (own_ne xb xa)), .val (.int (1 : Int32)), .unset] [])) _
          have hv : own_nc xa xb xc = (1 : Int32) := own_nc_ne (fun z => z.elim h160 h167)
          rw [hv] at k
          exact k)
  have zne : own_ne xb xa = 0 ∨ own_ne xb xa = 1 := by by_cases q : xb.toInt = xa.toInt; exact Or.inl (own_ne_eq q); exact Or.inr (own_ne_ne q)
  have znc : own_nc xa xb xc = 0 ∨ own_nc xa xb xc = 1 := by by_cases q : xc.toInt = xa.toInt ∨ xc.toInt = xb.toInt; exact Or.inl (own_nc_eq q); exact Or.inr (own_nc_ne q)
  have go44 : ∀ t, Steps p.tables e below (T39.setTop (mkF m 188 #[.val (.int p1), .val (.int p2), .val (.int p3), .val (.int p4), .val (.int p5), .val (.int n), .val (.int xa), .val (.int xb), .val (.int xc), .val (.int kf), .val (.ref b2), .val (.int (1 : Int32)), .val (.int (own_res [] xa)), .val (.int (own_res (own_add [] xa) xb)), .val (.int (own_res (own_add (own_add [] xa) xb) xc)), .val (.int (own_ne xb xa)), .val (.int (own_nc xa xb xc)), .unset] [(.int (own_ne xb xa)), (.int (1 : Int32))])) t → G t := fun t k => go43 t (by
      show Steps p.tables e below (T39.setTop (mkF m 177 #[.val (.int p1), .val (.int p2), .val (.int p3), .val (.int p4), .val (.int p5), .val (.int n), .val (.int xa), .val (.int xb), .val (.int xc), .val (.int kf), .val (.ref b2), .val (.int (1 : Int32)), .val (.int (own_res [] xa)), .val (.int (own_res (own_add [] xa) xb)), .val (.int (own_res (own_add (own_add [] xa) xb) xc)), .val (.int (own_ne xb xa)), .val (.int (own_nc xa xb xc)), .unset] [])) _
      refine XS.iconst X39.here hx rfl (hb hby at_177) ?_
      show Steps p.tables e below (T39.setTop (mkF m 178 #[.val (.int p1), .val (.int p2), .val (.int p3), .val (.int p4), .val (.int p5), .val (.int n), .val (.int xa), .val (.int xb), .val (.int xc), .val (.int kf), .val (.ref b2), .val (.int (1 : Int32)), .val (.int (own_res [] xa)), .val (.int (own_res (own_add [] xa) xb)), .val (.int (own_res (own_add (own_add [] xa) xb) xc)), .val (.int (own_ne xb xa)), .val (.int (own_nc xa xb xc)), .unset] [(.int (1 : Int32))])) _
      refine XS.iload X39.here hx rfl (hb hby at_178) rfl ?_
      show Steps p.tables e below (T39.setTop (mkF m 180 #[.val (.int p1), .val (.int p2), .val (.int p3), .val (.int p4), .val (.int p5), .val (.int n), .val (.int xa), .val (.int xb), .val (.int xc), .val (.int kf), .val (.ref b2), .val (.int (1 : Int32)), .val (.int (own_res [] xa)), .val (.int (own_res (own_add [] xa) xb)), .val (.int (own_res (own_add (own_add [] xa) xb) xc)), .val (.int (own_ne xb xa)), .val (.int (own_nc xa xb xc)), .unset] [(.int (own_ne xb xa)), (.int (1 : Int32))])) _
      by_cases h180 : (own_ne xb xa) = 0
      · refine XS.ifYes X39.here hx rfl (pc0 := 180) (pc' := 187) rfl (hb hby at_180) rfl ((if0 _ _).trans (teq h180).1) (by decide) (by decide) ?_
        show Steps p.tables e below (T39.setTop (mkF m 187 #[.val (.int p1), .val (.int p2), .val (.int p3), .val (.int p4), .val (.int p5), .val (.int n), .val (.int xa), .val (.int xb), .val (.int xc), .val (.int kf), .val (.ref b2), .val (.int (1 : Int32)), .val (.int (own_res [] xa)), .val (.int (own_res (own_add [] xa) xb)), .val (.int (own_res (own_add (own_add [] xa) xb) xc)), .val (.int (own_ne xb xa)), .val (.int (own_nc xa xb xc)), .unset] [(.int (1 : Int32))])) _
        refine XS.iconst X39.here hx rfl (hb hby at_187) ?_
        show Steps p.tables e below (T39.setTop (mkF m 188 #[.val (.int p1), .val (.int p2), .val (.int p3), .val (.int p4), .val (.int p5), .val (.int n), .val (.int xa), .val (.int xb), .val (.int xc), .val (.int kf), .val (.ref b2), .val (.int (1 : Int32)), .val (.int (own_res [] xa)), .val (.int (own_res (own_add [] xa) xb)), .val (.int (own_res (own_add (own_add [] xa) xb) xc)), .val (.int (own_ne xb xa)), .val (.int (own_nc xa xb xc)), .unset] [(.int (0 : Int32)), (.int (1 : Int32))])) _
        rw [h180] at k ⊢
        exact k
      · refine XS.ifNo X39.here hx rfl (hb hby at_180) rfl ((if0 _ _).trans (feq h180).1) ?_
        show Steps p.tables e below (T39.setTop (mkF m 183 #[.val (.int p1), .val (.int p2), .val (.int p3), .val (.int p4), .val (.int p5), .val (.int n), .val (.int xa), .val (.int xb), .val (.int xc), .val (.int kf), .val (.ref b2), .val (.int (1 : Int32)), .val (.int (own_res [] xa)), .val (.int (own_res (own_add [] xa) xb)), .val (.int (own_res (own_add (own_add [] xa) xb) xc)), .val (.int (own_ne xb xa)), .val (.int (own_nc xa xb xc)), .unset] [(.int (1 : Int32))])) _
        refine XS.iconst X39.here hx rfl (hb hby at_183) ?_
        show Steps p.tables e below (T39.setTop (mkF m 184 #[.val (.int p1), .val (.int p2), .val (.int p3), .val (.int p4), .val (.int p5), .val (.int n), .val (.int xa), .val (.int xb), .val (.int xc), .val (.int kf), .val (.ref b2), .val (.int (1 : Int32)), .val (.int (own_res [] xa)), .val (.int (own_res (own_add [] xa) xb)), .val (.int (own_res (own_add (own_add [] xa) xb) xc)), .val (.int (own_ne xb xa)), .val (.int (own_nc xa xb xc)), .unset] [(.int (1 : Int32)), (.int (1 : Int32))])) _
        refine XS.goto X39.here hx rfl (pc0 := 184) (pc' := 188) rfl (hb hby at_184) (by decide) (by decide) ?_
        show Steps p.tables e below (T39.setTop (mkF m 188 #[.val (.int p1), .val (.int p2), .val (.int p3), .val (.int p4), .val (.int p5), .val (.int n), .val (.int xa), .val (.int xb), .val (.int xc), .val (.int kf), .val (.ref b2), .val (.int (1 : Int32)), .val (.int (own_res [] xa)), .val (.int (own_res (own_add [] xa) xb)), .val (.int (own_res (own_add (own_add [] xa) xb) xc)), .val (.int (own_ne xb xa)), .val (.int (own_nc xa xb xc)), .unset] [(.int (1 : Int32)), (.int (1 : Int32))])) _
        have hv : (own_ne xb xa) = (1 : Int32) := zne.resolve_left h180
        rw [hv] at k ⊢
        exact k)
  have go45 : ∀ t, Steps p.tables e below (T39.setTop (mkF m 199 #[.val (.int p1), .val (.int p2), .val (.int p3), .val (.int p4), .val (.int p5), .val (.int n), .val (.int xa), .val (.int xb), .val (.int xc), .val (.int kf), .val (.ref b2), .val (.int (1 : Int32)), .val (.int (own_res [] xa)), .val (.int (own_res (own_add [] xa) xb)), .val (.int (own_res (own_add (own_add [] xa) xb) xc)), .val (.int (own_ne xb xa)), .val (.int (own_nc xa xb xc)), .unset] [(.int (own_nc xa xb xc)), (.int ((1 : Int32) + (own_ne xb xa)))])) t → G t := fun t k => go44 t (by
      show Steps p.tables e below (T39.setTop (mkF m 188 #[.val (.int p1), .val (.int p2), .val (.int p3), .val (.int p4), .val (.int p5), .val (.int n), .val (.int xa), .val (.int xb), .val (.int xc), .val (.int kf), .val (.ref b2), .val (.int (1 : Int32)), .val (.int (own_res [] xa)), .val (.int (own_res (own_add [] xa) xb)), .val (.int (own_res (own_add (own_add [] xa) xb) xc)), .val (.int (own_ne xb xa)), .val (.int (own_nc xa xb xc)), .unset] [(.int (own_ne xb xa)), (.int (1 : Int32))])) _
      refine XS.iadd X39.here hx rfl (hb hby at_188) rfl ?_
      show Steps p.tables e below (T39.setTop (mkF m 189 #[.val (.int p1), .val (.int p2), .val (.int p3), .val (.int p4), .val (.int p5), .val (.int n), .val (.int xa), .val (.int xb), .val (.int xc), .val (.int kf), .val (.ref b2), .val (.int (1 : Int32)), .val (.int (own_res [] xa)), .val (.int (own_res (own_add [] xa) xb)), .val (.int (own_res (own_add (own_add [] xa) xb) xc)), .val (.int (own_ne xb xa)), .val (.int (own_nc xa xb xc)), .unset] [(.int ((1 : Int32) + (own_ne xb xa)))])) _
      refine XS.iload X39.here hx rfl (hb hby at_189) rfl ?_
      show Steps p.tables e below (T39.setTop (mkF m 191 #[.val (.int p1), .val (.int p2), .val (.int p3), .val (.int p4), .val (.int p5), .val (.int n), .val (.int xa), .val (.int xb), .val (.int xc), .val (.int kf), .val (.ref b2), .val (.int (1 : Int32)), .val (.int (own_res [] xa)), .val (.int (own_res (own_add [] xa) xb)), .val (.int (own_res (own_add (own_add [] xa) xb) xc)), .val (.int (own_ne xb xa)), .val (.int (own_nc xa xb xc)), .unset] [(.int (own_nc xa xb xc)), (.int ((1 : Int32) + (own_ne xb xa)))])) _
      by_cases h191 : (own_nc xa xb xc) = 0
      · refine XS.ifYes X39.here hx rfl (pc0 := 191) (pc' := 198) rfl (hb hby at_191) rfl ((if0 _ _).trans (teq h191).1) (by decide) (by decide) ?_
        show Steps p.tables e below (T39.setTop (mkF m 198 #[.val (.int p1), .val (.int p2), .val (.int p3), .val (.int p4), .val (.int p5), .val (.int n), .val (.int xa), .val (.int xb), .val (.int xc), .val (.int kf), .val (.ref b2), .val (.int (1 : Int32)), .val (.int (own_res [] xa)), .val (.int (own_res (own_add [] xa) xb)), .val (.int (own_res (own_add (own_add [] xa) xb) xc)), .val (.int (own_ne xb xa)), .val (.int (own_nc xa xb xc)), .unset] [(.int ((1 : Int32) + (own_ne xb xa)))])) _
        refine XS.iconst X39.here hx rfl (hb hby at_198) ?_
        show Steps p.tables e below (T39.setTop (mkF m 199 #[.val (.int p1), .val (.int p2), .val (.int p3), .val (.int p4), .val (.int p5), .val (.int n), .val (.int xa), .val (.int xb), .val (.int xc), .val (.int kf), .val (.ref b2), .val (.int (1 : Int32)), .val (.int (own_res [] xa)), .val (.int (own_res (own_add [] xa) xb)), .val (.int (own_res (own_add (own_add [] xa) xb) xc)), .val (.int (own_ne xb xa)), .val (.int (own_nc xa xb xc)), .unset] [(.int (0 : Int32)), (.int ((1 : Int32) + (own_ne xb xa)))])) _
        rw [h191] at k ⊢
        exact k
      · refine XS.ifNo X39.here hx rfl (hb hby at_191) rfl ((if0 _ _).trans (feq h191).1) ?_
        show Steps p.tables e below (T39.setTop (mkF m 194 #[.val (.int p1), .val (.int p2), .val (.int p3), .val (.int p4), .val (.int p5), .val (.int n), .val (.int xa), .val (.int xb), .val (.int xc), .val (.int kf), .val (.ref b2), .val (.int (1 : Int32)), .val (.int (own_res [] xa)), .val (.int (own_res (own_add [] xa) xb)), .val (.int (own_res (own_add (own_add [] xa) xb) xc)), .val (.int (own_ne xb xa)), .val (.int (own_nc xa xb xc)), .unset] [(.int ((1 : Int32) + (own_ne xb xa)))])) _
        refine XS.iconst X39.here hx rfl (hb hby at_194) ?_
        show Steps p.tables e below (T39.setTop (mkF m 195 #[.val (.int p1), .val (.int p2), .val (.int p3), .val (.int p4), .val (.int p5), .val (.int n), .val (.int xa), .val (.int xb), .val (.int xc), .val (.int kf), .val (.ref b2), .val (.int (1 : Int32)), .val (.int (own_res [] xa)), .val (.int (own_res (own_add [] xa) xb)), .val (.int (own_res (own_add (own_add [] xa) xb) xc)), .val (.int (own_ne xb xa)), .val (.int (own_nc xa xb xc)), .unset] [(.int (1 : Int32)), (.int ((1 : Int32) + (own_ne xb xa)))])) _
        refine XS.goto X39.here hx rfl (pc0 := 195) (pc' := 199) rfl (hb hby at_195) (by decide) (by decide) ?_
        show Steps p.tables e below (T39.setTop (mkF m 199 #[.val (.int p1), .val (.int p2), .val (.int p3), .val (.int p4), .val (.int p5), .val (.int n), .val (.int xa), .val (.int xb), .val (.int xc), .val (.int kf), .val (.ref b2), .val (.int (1 : Int32)), .val (.int (own_res [] xa)), .val (.int (own_res (own_add [] xa) xb)), .val (.int (own_res (own_add (own_add [] xa) xb) xc)), .val (.int (own_ne xb xa)), .val (.int (own_nc xa xb xc)), .unset] [(.int (1 : Int32)), (.int ((1 : Int32) + (own_ne xb xa)))])) _
        have hv : (own_nc xa xb xc) = (1 : Int32) := znc.resolve_left h191
        rw [hv] at k ⊢
        exact k)
  have go46 : ∀ t, Steps p.tables e below (T39.setTop (mkF m 228 #[.val (.int p1), .val (.int p2), .val (.int p3), .val (.int p4), .val (.int p5), .val (.int n), .val (.int xa), .val (.int xb), .val (.int xc), .val (.int kf), .val (.ref b2), .val (.int (1 : Int32)), .val (.int (own_res [] xa)), .val (.int (own_res (own_add [] xa) xb)), .val (.int (own_res (own_add (own_add [] xa) xb) xc)), .val (.int (own_ne xb xa)), .val (.int (own_nc xa xb xc)), .val (.int (((1 : Int32) + (own_ne xb xa)) + (own_nc xa xb xc)))] [(.ref b2)])) t → G t := fun t k => go45 t (by
      show Steps p.tables e below (T39.setTop (mkF m 199 #[.val (.int p1), .val (.int p2), .val (.int p3), .val (.int p4), .val (.int p5), .val (.int n), .val (.int xa), .val (.int xb), .val (.int xc), .val (.int kf), .val (.ref b2), .val (.int (1 : Int32)), .val (.int (own_res [] xa)), .val (.int (own_res (own_add [] xa) xb)), .val (.int (own_res (own_add (own_add [] xa) xb) xc)), .val (.int (own_ne xb xa)), .val (.int (own_nc xa xb xc)), .unset] [(.int (own_nc xa xb xc)), (.int ((1 : Int32) + (own_ne xb xa)))])) _
      refine XS.iadd X39.here hx rfl (hb hby at_199) rfl ?_
      show Steps p.tables e below (T39.setTop (mkF m 200 #[.val (.int p1), .val (.int p2), .val (.int p3), .val (.int p4), .val (.int p5), .val (.int n), .val (.int xa), .val (.int xb), .val (.int xc), .val (.int kf), .val (.ref b2), .val (.int (1 : Int32)), .val (.int (own_res [] xa)), .val (.int (own_res (own_add [] xa) xb)), .val (.int (own_res (own_add (own_add [] xa) xb) xc)), .val (.int (own_ne xb xa)), .val (.int (own_nc xa xb xc)), .unset] [(.int (((1 : Int32) + (own_ne xb xa)) + (own_nc xa xb xc)))])) _
      refine XS.istore X39.here hx rfl (hb hby at_200) rfl (l' := #[.val (.int p1), .val (.int p2), .val (.int p3), .val (.int p4), .val (.int p5), .val (.int n), .val (.int xa), .val (.int xb), .val (.int xc), .val (.int kf), .val (.ref b2), .val (.int (1 : Int32)), .val (.int (own_res [] xa)), .val (.int (own_res (own_add [] xa) xb)), .val (.int (own_res (own_add (own_add [] xa) xb) xc)), .val (.int (own_ne xb xa)), .val (.int (own_nc xa xb xc)), .val (.int (((1 : Int32) + (own_ne xb xa)) + (own_nc xa xb xc)))]) rfl ?_
      show Steps p.tables e below (T39.setTop (mkF m 202 #[.val (.int p1), .val (.int p2), .val (.int p3), .val (.int p4), .val (.int p5), .val (.int n), .val (.int xa), .val (.int xb), .val (.int xc), .val (.int kf), .val (.ref b2), .val (.int (1 : Int32)), .val (.int (own_res [] xa)), .val (.int (own_res (own_add [] xa) xb)), .val (.int (own_res (own_add (own_add [] xa) xb) xc)), .val (.int (own_ne xb xa)), .val (.int (own_nc xa xb xc)), .val (.int (((1 : Int32) + (own_ne xb xa)) + (own_nc xa xb xc)))] [])) _
      refine XS.iload X39.here hx rfl (hb hby at_202) rfl ?_
      show Steps p.tables e below (T39.setTop (mkF m 204 #[.val (.int p1), .val (.int p2), .val (.int p3), .val (.int p4), .val (.int p5), .val (.int n), .val (.int xa), .val (.int xb), .val (.int xc), .val (.int kf), .val (.ref b2), .val (.int (1 : Int32)), .val (.int (own_res [] xa)), .val (.int (own_res (own_add [] xa) xb)), .val (.int (own_res (own_add (own_add [] xa) xb) xc)), .val (.int (own_ne xb xa)), .val (.int (own_nc xa xb xc)), .val (.int (((1 : Int32) + (own_ne xb xa)) + (own_nc xa xb xc)))] [(.int (1 : Int32))])) _
      refine XS.ifNo X39.here hx rfl (hb hby at_204) rfl ((if0 _ _).trans (feq (by decide)).1) ?_
      show Steps p.tables e below (T39.setTop (mkF m 207 #[.val (.int p1), .val (.int p2), .val (.int p3), .val (.int p4), .val (.int p5), .val (.int n), .val (.int xa), .val (.int xb), .val (.int xc), .val (.int kf), .val (.ref b2), .val (.int (1 : Int32)), .val (.int (own_res [] xa)), .val (.int (own_res (own_add [] xa) xb)), .val (.int (own_res (own_add (own_add [] xa) xb) xc)), .val (.int (own_ne xb xa)), .val (.int (own_nc xa xb xc)), .val (.int (((1 : Int32) + (own_ne xb xa)) + (own_nc xa xb xc)))] [])) _
      refine XS.iload X39.here hx rfl (hb hby at_207) rfl ?_
      show Steps p.tables e below (T39.setTop (mkF m 209 #[.val (.int p1), .val (.int p2), .val (.int p3), .val (.int p4), .val (.int p5), .val (.int n), .val (.int xa), .val (.int xb), .val (.int xc), .val (.int kf), .val (.ref b2), .val (.int (1 : Int32)), .val (.int (own_res [] xa)), .val (.int (own_res (own_add [] xa) xb)), .val (.int (own_res (own_add (own_add [] xa) xb) xc)), .val (.int (own_ne xb xa)), .val (.int (own_nc xa xb xc)), .val (.int (((1 : Int32) + (own_ne xb xa)) + (own_nc xa xb xc)))] [(.int (own_res [] xa))])) _
      refine XS.ifNo X39.here hx rfl (hb hby at_209) rfl ((if0 _ _).trans (feq (by rw [ro.1]; decide)).1) ?_
      show Steps p.tables e below (T39.setTop (mkF m 212 #[.val (.int p1), .val (.int p2), .val (.int p3), .val (.int p4), .val (.int p5), .val (.int n), .val (.int xa), .val (.int xb), .val (.int xc), .val (.int kf), .val (.ref b2), .val (.int (1 : Int32)), .val (.int (own_res [] xa)), .val (.int (own_res (own_add [] xa) xb)), .val (.int (own_res (own_add (own_add [] xa) xb) xc)), .val (.int (own_ne xb xa)), .val (.int (own_nc xa xb xc)), .val (.int (((1 : Int32) + (own_ne xb xa)) + (own_nc xa xb xc)))] [])) _
      refine XS.iload X39.here hx rfl (hb hby at_212) rfl ?_
      show Steps p.tables e below (T39.setTop (mkF m 214 #[.val (.int p1), .val (.int p2), .val (.int p3), .val (.int p4), .val (.int p5), .val (.int n), .val (.int xa), .val (.int xb), .val (.int xc), .val (.int kf), .val (.ref b2), .val (.int (1 : Int32)), .val (.int (own_res [] xa)), .val (.int (own_res (own_add [] xa) xb)), .val (.int (own_res (own_add (own_add [] xa) xb) xc)), .val (.int (own_ne xb xa)), .val (.int (own_nc xa xb xc)), .val (.int (((1 : Int32) + (own_ne xb xa)) + (own_nc xa xb xc)))] [(.int (own_res (own_add [] xa) xb))])) _
      refine XS.iload X39.here hx rfl (hb hby at_214) rfl ?_
      show Steps p.tables e below (T39.setTop (mkF m 216 #[.val (.int p1), .val (.int p2), .val (.int p3), .val (.int p4), .val (.int p5), .val (.int n), .val (.int xa), .val (.int xb), .val (.int xc), .val (.int kf), .val (.ref b2), .val (.int (1 : Int32)), .val (.int (own_res [] xa)), .val (.int (own_res (own_add [] xa) xb)), .val (.int (own_res (own_add (own_add [] xa) xb) xc)), .val (.int (own_ne xb xa)), .val (.int (own_nc xa xb xc)), .val (.int (((1 : Int32) + (own_ne xb xa)) + (own_nc xa xb xc)))] [(.int (own_ne xb xa)), (.int (own_res (own_add [] xa) xb))])) _
      refine XS.icmpNo X39.here hx rfl (hb hby at_216) rfl (teq ro.2.1).2 ?_
      show Steps p.tables e below (T39.setTop (mkF m 219 #[.val (.int p1), .val (.int p2), .val (.int p3), .val (.int p4), .val (.int p5), .val (.int n), .val (.int xa), .val (.int xb), .val (.int xc), .val (.int kf), .val (.ref b2), .val (.int (1 : Int32)), .val (.int (own_res [] xa)), .val (.int (own_res (own_add [] xa) xb)), .val (.int (own_res (own_add (own_add [] xa) xb) xc)), .val (.int (own_ne xb xa)), .val (.int (own_nc xa xb xc)), .val (.int (((1 : Int32) + (own_ne xb xa)) + (own_nc xa xb xc)))] [])) _
      refine XS.iload X39.here hx rfl (hb hby at_219) rfl ?_
      show Steps p.tables e below (T39.setTop (mkF m 221 #[.val (.int p1), .val (.int p2), .val (.int p3), .val (.int p4), .val (.int p5), .val (.int n), .val (.int xa), .val (.int xb), .val (.int xc), .val (.int kf), .val (.ref b2), .val (.int (1 : Int32)), .val (.int (own_res [] xa)), .val (.int (own_res (own_add [] xa) xb)), .val (.int (own_res (own_add (own_add [] xa) xb) xc)), .val (.int (own_ne xb xa)), .val (.int (own_nc xa xb xc)), .val (.int (((1 : Int32) + (own_ne xb xa)) + (own_nc xa xb xc)))] [(.int (own_res (own_add (own_add [] xa) xb) xc))])) _
      refine XS.iload X39.here hx rfl (hb hby at_221) rfl ?_
      show Steps p.tables e below (T39.setTop (mkF m 223 #[.val (.int p1), .val (.int p2), .val (.int p3), .val (.int p4), .val (.int p5), .val (.int n), .val (.int xa), .val (.int xb), .val (.int xc), .val (.int kf), .val (.ref b2), .val (.int (1 : Int32)), .val (.int (own_res [] xa)), .val (.int (own_res (own_add [] xa) xb)), .val (.int (own_res (own_add (own_add [] xa) xb) xc)), .val (.int (own_ne xb xa)), .val (.int (own_nc xa xb xc)), .val (.int (((1 : Int32) + (own_ne xb xa)) + (own_nc xa xb xc)))] [(.int (own_nc xa xb xc)), (.int (own_res (own_add (own_add [] xa) xb) xc))])) _
      refine XS.icmpNo X39.here hx rfl (hb hby at_223) rfl (teq ro.2.2.1).2 ?_
      show Steps p.tables e below (T39.setTop (mkF m 226 #[.val (.int p1), .val (.int p2), .val (.int p3), .val (.int p4), .val (.int p5), .val (.int n), .val (.int xa), .val (.int xb), .val (.int xc), .val (.int kf), .val (.ref b2), .val (.int (1 : Int32)), .val (.int (own_res [] xa)), .val (.int (own_res (own_add [] xa) xb)), .val (.int (own_res (own_add (own_add [] xa) xb) xc)), .val (.int (own_ne xb xa)), .val (.int (own_nc xa xb xc)), .val (.int (((1 : Int32) + (own_ne xb xa)) + (own_nc xa xb xc)))] [])) _
      refine XS.aload X39.here hx rfl (hb hby at_226) rfl rfl ?_
      show Steps p.tables e below (T39.setTop (mkF m 228 #[.val (.int p1), .val (.int p2), .val (.int p3), .val (.int p4), .val (.int p5), .val (.int n), .val (.int xa), .val (.int xb), .val (.int xc), .val (.int kf), .val (.ref b2), .val (.int (1 : Int32)), .val (.int (own_res [] xa)), .val (.int (own_res (own_add [] xa) xb)), .val (.int (own_res (own_add (own_add [] xa) xb) xc)), .val (.int (own_ne xb xa)), .val (.int (own_nc xa xb xc)), .val (.int (((1 : Int32) + (own_ne xb xa)) + (own_nc xa xb xc)))] [(.ref b2)])) _
      exact k)
  obtain ⟨cq47, kq47, q47a, q47b, q47c⟩ := isOf hZ rfl H4.1.1
  obtain ⟨_, _, ⟨T47, L47, k47, n47⟩, -, X47, ⟨Lc47, hQ47, l47, y47, z47⟩, st47⟩ := X39.virtualBack hx (y := (⟨"com/example/setwright/setwright/analysis/FragmentAutomaton$Hits", "count", "()I"⟩ : MethodName)) (z := (⟨"com/example/setwright/setwright/analysis/FragmentAutomaton$Hits", "count", "()I"⟩ : MethodName)) hown (mvT hZ (hw _ (List.mem_of_getElem? (i := 24) rfl))) (mvT hZ (hw _ (List.mem_of_getElem? (i := 25) rfl))) (notFace_of_selects (args := #[]) (mvT hZ (hw _ (List.mem_of_getElem? (i := 27) rfl)))) (mvT hZ (hw _ (List.mem_of_getElem? (i := 27) rfl))) (mvT hZ (hw _ (List.mem_of_getElem? (i := 26) rfl))) (by decide) (backOf (W := 0) (rm4 l Z a0 hw [] b2 (own_add (own_add (own_add [] xa) xb) xc).length T39.heap n0 H4.2.2.2.2 H4.1.2.2.2) hZ (hw _ (List.mem_of_getElem? (i := 28) rfl)) (hw _ (List.mem_of_getElem? (i := 3) rfl)) (by decide) (by decide)) q47a q47c (g := (mkF m 228 #[.val (.int p1), .val (.int p2), .val (.int p3), .val (.int p4), .val (.int p5), .val (.int n), .val (.int xa), .val (.int xb), .val (.int xc), .val (.int kf), .val (.ref b2), .val (.int (1 : Int32)), .val (.int (own_res [] xa)), .val (.int (own_res (own_add [] xa) xb)), .val (.int (own_res (own_add (own_add [] xa) xb) xc)), .val (.int (own_ne xb xa)), .val (.int (own_nc xa xb xc)), .val (.int (((1 : Int32) + (own_ne xb xa)) + (own_nc xa xb xc)))] [(.ref b2)])) rfl (by rw [hml]; rfl) (Steps.refl _) (argsL := []) (rest := []) (lenOf pd_n rfl) rfl (by show 2 * 0 + _ ≤ _; exact Nat.le_of_eq rfl) (hb hby at_228) (fun _ _ => ⟨rfl, rfl, (by decide : 3 + 0 ≤ _), (by decide : 23 + 0 ≤ _)⟩)
  dsimp only [Pt.U, Pt.locs, Pt.cells, Pt.slots] at X47 l47 y47 z47 st47 hQ47
  subst l47 y47 z47
  obtain ⟨rfl, N47q, q47⟩ := hQ47
  have N47 := Fr.app N39 N47q
  have go48 : ∀ t, Steps p.tables e below (T47.setTop (mkF m 231 #[.val (.int p1), .val (.int p2), .val (.int p3), .val (.int p4), .val (.int p5), .val (.int n), .val (.int xa), .val (.int xb), .val (.int xc), .val (.int kf), .val (.ref b2), .val (.int (1 : Int32)), .val (.int (own_res [] xa)), .val (.int (own_res (own_add [] xa) xb)), .val (.int (own_res (own_add (own_add [] xa) xb) xc)), .val (.int (own_ne xb xa)), .val (.int (own_nc xa xb xc)), .val (.int (((1 : Int32) + (own_ne xb xa)) + (own_nc xa xb xc)))] [(.int (Int32.ofNat (own_add (own_add (own_add [] xa) xb) xc).length))])) t → G t := fun t k => go46 t (st47.trans k)
  have go49 : ∀ t, Steps p.tables e below (T47.setTop (mkF m 241 #[.val (.int p1), .val (.int p2), .val (.int p3), .val (.int p4), .val (.int p5), .val (.int n), .val (.int xa), .val (.int xb), .val (.int xc), .val (.int kf), .val (.ref b2), .val (.int (1 : Int32)), .val (.int (own_res [] xa)), .val (.int (own_res (own_add [] xa) xb)), .val (.int (own_res (own_add (own_add [] xa) xb) xc)), .val (.int (own_ne xb xa)), .val (.int (own_nc xa xb xc)), .val (.int (((1 : Int32) + (own_ne xb xa)) + (own_nc xa xb xc)))] [(.int (1 : Int32))])) t → G t := fun t k => go48 t (by
      show Steps p.tables e below (T47.setTop (mkF m 231 #[.val (.int p1), .val (.int p2), .val (.int p3), .val (.int p4), .val (.int p5), .val (.int n), .val (.int xa), .val (.int xb), .val (.int xc), .val (.int kf), .val (.ref b2), .val (.int (1 : Int32)), .val (.int (own_res [] xa)), .val (.int (own_res (own_add [] xa) xb)), .val (.int (own_res (own_add (own_add [] xa) xb) xc)), .val (.int (own_ne xb xa)), .val (.int (own_nc xa xb xc)), .val (.int (((1 : Int32) + (own_ne xb xa)) + (own_nc xa xb xc)))] [(.int (Int32.ofNat (own_add (own_add (own_add [] xa) xb) xc).length))])) _
      refine XS.iload X47.here hx rfl (hb hby at_231) rfl ?_
      show Steps p.tables e below (T47.setTop (mkF m 233 #[.val (.int p1), .val (.int p2), .val (.int p3), .val (.int p4), .val (.int p5), .val (.int n), .val (.int xa), .val (.int xb), .val (.int xc), .val (.int kf), .val (.ref b2), .val (.int (1 : Int32)), .val (.int (own_res [] xa)), .val (.int (own_res (own_add [] xa) xb)), .val (.int (own_res (own_add (own_add [] xa) xb) xc)), .val (.int (own_ne xb xa)), .val (.int (own_nc xa xb xc)), .val (.int (((1 : Int32) + (own_ne xb xa)) + (own_nc xa xb xc)))] [(.int (((1 : Int32) + (own_ne xb xa)) + (own_nc xa xb xc))), (.int (Int32.ofNat (own_add (own_add (own_add [] xa) xb) xc).length))])) _
      refine XS.icmpNo X47.here hx rfl (hb hby at_233) rfl (teq ro.2.2.2).2 ?_
      show Steps p.tables e below (T47.setTop (mkF m 236 #[.val (.int p1), .val (.int p2), .val (.int p3), .val (.int p4), .val (.int p5), .val (.int n), .val (.int xa), .val (.int xb), .val (.int xc), .val (.int kf), .val (.ref b2), .val (.int (1 : Int32)), .val (.int (own_res [] xa)), .val (.int (own_res (own_add [] xa) xb)), .val (.int (own_res (own_add (own_add [] xa) xb) xc)), .val (.int (own_ne xb xa)), .val (.int (own_nc xa xb xc)), .val (.int (((1 : Int32) + (own_ne xb xa)) + (own_nc xa xb xc)))] [])) _
      refine XS.iconst X47.here hx rfl (hb hby at_236) ?_
      show Steps p.tables e below (T47.setTop (mkF m 237 #[.val (.int p1), .val (.int p2), .val (.int p3), .val (.int p4), .val (.int p5), .val (.int n), .val (.int xa), .val (.int xb), .val (.int xc), .val (.int kf), .val (.ref b2), .val (.int (1 : Int32)), .val (.int (own_res [] xa)), .val (.int (own_res (own_add [] xa) xb)), .val (.int (own_res (own_add (own_add [] xa) xb) xc)), .val (.int (own_ne xb xa)), .val (.int (own_nc xa xb xc)), .val (.int (((1 : Int32) + (own_ne xb xa)) + (own_nc xa xb xc)))] [(.int (1 : Int32))])) _
      refine XS.goto X47.here hx rfl (pc0 := 237) (pc' := 241) rfl (hb hby at_237) (by decide) (by decide) ?_
      show Steps p.tables e below (T47.setTop (mkF m 241 #[.val (.int p1), .val (.int p2), .val (.int p3), .val (.int p4), .val (.int p5), .val (.int n), .val (.int xa), .val (.int xb), .val (.int xc), .val (.int kf), .val (.ref b2), .val (.int (1 : Int32)), .val (.int (own_res [] xa)), .val (.int (own_res (own_add [] xa) xb)), .val (.int (own_res (own_add (own_add [] xa) xb) xc)), .val (.int (own_ne xb xa)), .val (.int (own_nc xa xb xc)), .val (.int (((1 : Int32) + (own_ne xb xa)) + (own_nc xa xb xc)))] [(.int (1 : Int32))])) _
      exact k)
  obtain ⟨fs, hr, hrun, hended, hW, hsame⟩ := X47.leave (v := some (.int (1 : Int32))) (fun h => by rw [Bd.returns] at h; cases h)
  refine ⟨_, _, fin _ (go49 _ ?_), hrun, hended, _, _, rfl, ?_, ⟨_, rfl⟩, hW, hsame.mono (by decide) (by decide)⟩
  · exact retN X47 hx (t := .boolean) Bd.returns (by simp) (hb hby at_241) hr
  · show Q0 Z p1 p2 p3 p4 p5 h0 n0 _ T47.heap _
    rw [q47]
    exact ⟨rfl, N47⟩
set_option maxRecDepth 65536 in
set_option maxHeartbeats 40000000 in
theorem comes_1 {Post : Tables → Env → Array Value → State → Outcome → State → Prop} (hpost : ∀ tb e args s v u, (limb_1_1.after args s (.returned v) u = true ∧ limb_1_2.after args s (.returned v) u = true ∧ True) → FrameEnd s (.returned v) u (Jvm.fieldLocs frame_1_writes args s ++ Jvm.arrayLocs frame_1_arrays args s ++ Jvm.staticLocs frame_1_statics s) 16 128 → Post tb e args s (.returned v) u) :
    ArmFor flags0 classFile x code maxLocals ret World_1 tables_1 room_1 Calls_1 rest_1 Pre_1 Post := by
  intro l hfl _ _ p e ha hc hk s m args below hf hA hF happ hP
  obtain ⟨hcalls, hrest, hpre⟩ := hP
  obtain ⟨-, -, -, hnamed, -, -, -, hat⟩ := (Spec.applies_iff hf).mp happ
  obtain ⟨hg, hn⟩ := and_e (Cond.before_iff.mp (show (Jvm.Cond.and given_1 narrow_1).before args s = true from hpre))
  obtain ⟨gc, gr0⟩ := and_e hg
  obtain ⟨ga0, gr1⟩ := and_e gr0
  obtain ⟨ga1, gr2⟩ := and_e gr1
  obtain ⟨ga2, gr3⟩ := and_e gr2
  obtain ⟨ga3, gr4⟩ := and_e gr3
  obtain ⟨w0, w1, w2, w3, w4, rfl⟩ : ∃ w0 w1 w2 w3 w4 : Value, args = #[w0, w1, w2, w3, w4] := by
    have hs : args.size = 5 := by simpa [Cond.value, given_1] using gc
    obtain ⟨L⟩ := args
    match L, hs with
    | [w0, w1, w2, w3, w4], _ => exact ⟨w0, w1, w2, w3, w4, rfl⟩
  have hw := fun d (hd : d ∈ tables_1) => atoms_spec (ws := Jvm.Cond.code x code maxLocals ret :: tables_1) hat d (List.mem_cons_of_mem _ hd)
  obtain ⟨i0, ei0⟩ := is_v ga0
  obtain rfl : w0 = (.int i0) := Option.some.inj ei0
  obtain ⟨i1, ei1⟩ := is_v ga1
  obtain rfl : w1 = (.int i1) := Option.some.inj ei1
  obtain ⟨i2, ei2⟩ := is_v ga2
  obtain rfl : w2 = (.int i2) := Option.some.inj ei2
  obtain ⟨i3, ei3⟩ := is_v ga3
  obtain rfl : w3 = (.int i3) := Option.some.inj ei3
  obtain ⟨i4, ei4⟩ := is_v gr4
  obtain rfl : w4 = (.int i4) := Option.some.inj ei4
  obtain ⟨n, o, h1, h2, h3, _, L, rfl, ⟨rfl, N⟩, hq⟩ := rm0 l s _ hw tables_1 i0 i1 i2 i3 i4 s.heap s.heap.size (Nat.le_refl _) p e ha hc hk s m _ below hf ((Spec.applies_iff_loose hf).mp happ).1 ⟨rfl, State.Warmed39.refl s, rfl⟩ trivial
  refine ⟨n, _, h1, h2, h3, hpost _ _ _ _ _ _ ⟨Cond.after_iff.mpr rfl, Cond.after_iff.mpr (eq_i res_at (Term.int_eval (1)) rfl), trivial⟩ ⟨hq.1, hq.2.1, (hq.2.2.sift fun y hy => Or.inr (N y hy)).mono (by decide) (by decide)⟩⟩
theorem main_1_1 : Claimed_1_1 := comes_1 fun _ _ _ _ _ _ h hF => ⟨h.1, hF⟩
theorem main_1_2 : Claimed_1_2 := comes_1 fun _ _ _ _ _ _ h hF => ⟨h.2.1, hF⟩
end Jvm.Pilot.@@N@@
namespace Jvm.Pilot.@@N@@
open Jvm Jvm.ClassFile Sem Op Lib Jvm.Free Jvm.Stand Jvm.Pilot.@@N@@.Jvm.D
/-! MADE BY PROGRAM (witnessworld.py) out of the Statement's table words and the real class files: 11 classes; the members and pool entries that the words name. The judged class is class 1, her method 1. -/
namespace start1
open Jvm.ClassFile
def u (s : String) : CpInfo := .utf8 (stringToUtf16 s)
/-- a pool by its gaps: so many unusable entries, then the entry; so many at the end -/
def gap : Nat → List CpInfo → List CpInfo
  | 0, r => r
  | n + 1, r => .unusable :: gap n r
def poolList (es : List (Nat × CpInfo)) (last : Nat) : List CpInfo := es.foldr (fun e r => gap e.1 (e.2 :: r)) (gap last [])
def pool (es : List (Nat × CpInfo)) (last : Nat) : Array CpInfo := ⟨poolList es last⟩
def fileOf (pool : Array CpInfo) (this : Nat) (attrs : Array Attribute := #[]) (ms : Array MethodInfo := #[]) (fl : Nat := 33) (sup : Nat := 0) (ifs : Array Nat := #[]) (fds : Array FieldInfo := #[]) : ClassFile where
  minorVersion := 0
  majorVersion := 65
  constantPool := pool
  accessFlags := fl
  thisClass := this
  superClass := sup
  interfaces := ifs
  fields := fds
  methods := ms
  attributes := attrs
def plain (name : String) (sup : Option ClassId) : Class where
  name := name
  kind := .ordinary
  loader := none
  accessFlags := 33
  super := sup
  interfaces := #[]
  cf := none
  fields := #[]
  methods := #[]
  instanceTypes := #[]
  staticTypes := #[]
  resolved := #[]
  callSites := []
  init := .initialized
  statics := none
  mirror := none

def pool0 : Array CpInfo := pool [(5, u "<init>"), (0, u "()V"), (1, .class_ 10), (1, u "java/lang/Object")] 113

def k0c0 : Code := { maxStack := 0, maxLocals := 1, code := object_method_1_code, exceptionTable := #[], attributes := #[] }
def k0m0 : Method := { name := "<init>", desc := "()V", sig := { parameters := [], returnType := none }, accessFlags := 1, code := some k0c0 }
/-- java/lang/Object -/
def k0 : Class := { plain "java/lang/Object" none with
  accessFlags := 33
  interfaces := #[]
  cf := some (fileOf pool0 8 #[] #[{ accessFlags := 1, nameIndex := 5, descriptorIndex := 6, attributes := #[] }] 33 0 #[] #[])
  fields := #[]
  methods := #[k0m0]
  instanceTypes := #[]
  staticTypes := #[]
  resolved := Array.replicate 124 none
  statics := none }

def pool1 : Array CpInfo := pool [(2, .class_ 4), (1, u "java/lang/Object"), (0, u "<init>"), (0, u "()V"), (0, .integer 2147483647), (0, .class_ 9), (0, u "com/example/setwright/setwright/analysis/FragmentAutomaton$Hits"), (0, .methodref 8 11), (0, .nameAndType 5 12), (0, u "(I)V"), (0, .methodref 8 14), (0, .nameAndType 15 16), (0, u "add"), (0, u "(I)Z"), (0, .methodref 8 18), (0, .nameAndType 19 6), (0, u "clear"), (0, .methodref 8 21), (0, .nameAndType 22 23), (0, u "count"), (0, u "()I"), (0, .class_ 25), (0, u "com/example/setwright/setwright/analysis/HitsClearPinLaw"), (2, u "law"), (0, u "(IIIII)Z")] 7

def k1m0 : Method := { name := "<init>", desc := "()V", sig := { parameters := [], returnType := none }, accessFlags := 2, code := none }
def k1c1 : Code := { maxStack := 3, maxLocals := 18, code := code, exceptionTable := #[], attributes := #[] }
def k1m1 : Method := { name := "law", desc := "(IIIII)Z", sig := { parameters := [.int, .int, .int, .int, .int], returnType := some .boolean }, accessFlags := 9, code := some k1c1 }
/-- com/example/setwright/setwright/analysis/HitsClearPinLaw -/
def k1 : Class := { plain "com/example/setwright/setwright/analysis/HitsClearPinLaw" (some 0) with
  accessFlags := 49
  interfaces := #[]
  cf := some (fileOf pool1 24 #[] #[{ accessFlags := 2, nameIndex := 5, descriptorIndex := 6, attributes := #[] }, { accessFlags := 9, nameIndex := 28, descriptorIndex := 29, attributes := #[] }] 49 2 #[] #[])
  fields := #[]
  methods := #[k1m0, k1m1]
  instanceTypes := #[]
  staticTypes := #[]
  resolved := Array.replicate 37 none
  statics := none }

def pool2 : Array CpInfo := pool [(1, .methodref 2 3), (0, .class_ 4), (0, .nameAndType 5 6), (0, u "java/lang/Object"), (0, u "<init>"), (0, u "()V"), (0, .fieldref 8 9), (0, .class_ 10), (0, .nameAndType 11 12), (0, u "com/example/setwright/setwright/analysis/FragmentAutomaton$Hits"), (0, u "list"), (0, u "[I"), (0, .long 63), (1, .fieldref 8 16), (0, .nameAndType 17 18), (0, u "found"), (0, u "[J"), (0, .fieldref 8 20), (0, .nameAndType 21 22), (0, u "count"), (0, u "I"), (10, .long 18446744073709551615), (1, u "(I)V"), (2, u "add"), (0, u "(I)Z"), (1, u "()I"), (2, u "clear"), (3, .class_ 49), (0, u "com/example/setwright/setwright/analysis/FragmentAutomaton")] 2

def k2c0 : Code := { maxStack := 5, maxLocals := 2, code := prog_41_method_1_code, exceptionTable := #[], attributes := #[] }
def k2m0 : Method := { name := "<init>", desc := "(I)V", sig := { parameters := [.int], returnType := none }, accessFlags := 0, code := some k2c0 }
def k2c1 : Code := { maxStack := 6, maxLocals := 4, code := prog_41_method_2_code, exceptionTable := #[], attributes := #[] }
def k2m1 : Method := { name := "add", desc := "(I)Z", sig := { parameters := [.int], returnType := some .boolean }, accessFlags := 0, code := some k2c1 }
def k2c2 : Code := { maxStack := 1, maxLocals := 1, code := prog_41_method_3_code, exceptionTable := #[], attributes := #[] }
def k2m2 : Method := { name := "count", desc := "()I", sig := { parameters := [], returnType := some .int }, accessFlags := 0, code := some k2c2 }
def k2c3 : Code := { maxStack := 8, maxLocals := 2, code := prog_41_method_6_code, exceptionTable := #[], attributes := #[] }
def k2m3 : Method := { name := "clear", desc := "()V", sig := { parameters := [], returnType := none }, accessFlags := 0, code := some k2c3 }
/-- com/example/setwright/setwright/analysis/FragmentAutomaton$Hits -/
def k2 : Class := { plain "com/example/setwright/setwright/analysis/FragmentAutomaton$Hits" (some 0) with
  accessFlags := 48
  interfaces := #[]
  cf := some (fileOf pool2 8 #[.nestHost 48] #[{ accessFlags := 0, nameIndex := 5, descriptorIndex := 35, attributes := #[] }, { accessFlags := 0, nameIndex := 38, descriptorIndex := 39, attributes := #[] }, { accessFlags := 0, nameIndex := 21, descriptorIndex := 41, attributes := #[] }, { accessFlags := 0, nameIndex := 44, descriptorIndex := 6, attributes := #[] }] 48 2 #[] #[{ accessFlags := 18, nameIndex := 17, descriptorIndex := 18, attributes := #[] }, { accessFlags := 2, nameIndex := 11, descriptorIndex := 12, attributes := #[] }, { accessFlags := 2, nameIndex := 21, descriptorIndex := 22, attributes := #[] }])
  fields := #[{ name := "found", type := (.array .long), accessFlags := 18, slot := 0, constantValue := 0 }, { name := "list", type := (.array .int), accessFlags := 2, slot := 1, constantValue := 0 }, { name := "count", type := .int, accessFlags := 2, slot := 2, constantValue := 0 }]
  methods := #[k2m0, k2m1, k2m2, k2m3]
  instanceTypes := #[(.array .long), (.array .int), .int]
  staticTypes := #[]
  resolved := Array.replicate 52 none
  statics := none }

def pool3 : Array CpInfo := pool [(1, u "java/lang/Cloneable"), (0, .class_ 1), (0, u "java/lang/Object"), (0, .class_ 3)] 3

/-- java/lang/Cloneable -/
def k3 : Class := { plain "java/lang/Cloneable" (some 0) with
  accessFlags := 1537
  interfaces := #[]
  cf := some (fileOf pool3 2 #[] #[] 1537 4 #[] #[])
  fields := #[]
  methods := #[]
  instanceTypes := #[]
  staticTypes := #[]
  resolved := Array.replicate 8 none
  statics := none }

def pool4 : Array CpInfo := pool [(1, u "java/io/Serializable"), (0, .class_ 1), (0, u "java/lang/Object"), (0, .class_ 3)] 3

/-- java/io/Serializable -/
def k4 : Class := { plain "java/io/Serializable" (some 0) with
  accessFlags := 1537
  interfaces := #[]
  cf := some (fileOf pool4 2 #[] #[] 1537 4 #[] #[])
  fields := #[]
  methods := #[]
  instanceTypes := #[]
  staticTypes := #[]
  resolved := Array.replicate 8 none
  statics := none }

/-- the primitive byte -/
def k5 : Class := { plain "byte" none with kind := .primitive 'B', accessFlags := 0x411 }
/-- [B -/
def k6 : Class := { plain "[B" (some 0) with kind := .array 5 .byte, interfaces := #[3, 4], accessFlags := 1041 }

/-- the primitive int -/
def k7 : Class := { plain "int" none with kind := .primitive 'I', accessFlags := 0x411 }
/-- [I -/
def k8 : Class := { plain "[I" (some 0) with kind := .array 7 .int, interfaces := #[3, 4], accessFlags := 1041 }

/-- the primitive long -/
def k9 : Class := { plain "long" none with kind := .primitive 'J', accessFlags := 0x411 }
/-- [J -/
def k10 : Class := { plain "[J" (some 0) with kind := .array 9 .long, interfaces := #[3, 4], accessFlags := 1041 }

def heap : Heap := #[]
def classes : Array Class := #[k0, k1, k2, k3, k4, k5, k6, k7, k8, k9, k10]
def interned : List (Array UInt16 × Addr) := []
def slotsUsed : Nat := 0
def theMethod : MethodId := ⟨1, 1⟩
def args0 : Array Value := #[.int 5, .int 300, .int 7, .int 9, .int 3]
def aboutOver (below : List Frame) : State where
  vm := { classes := classes, interned := interned.toArray }
  heap := heap
  slotsUsed := slotsUsed
  threads := #[{ frames := .invoking theMethod args0 :: below }]
def below0 : List Frame := [.native { method := ⟨0, 0⟩, args := #[] }]
def about1 : State := aboutOver below0
def p0 : Program := .bare "" "" ""
def e0 : Env := launch0.env 0 0 0
theorem w_frames : about1.frames = Frame.invoking theMethod args0 :: below0 := rfl
set_option maxRecDepth 65536 in
theorem w_args : argsFit about1.vm theMethod args0 = true := by decide +kernel
set_option maxRecDepth 65536 in
theorem w_heap : heapFits about1 = true := by decide +kernel
set_option maxRecDepth 65536 in
theorem w_runnable : about1.curStatus? = some .runnable := by decide +kernel
set_option maxRecDepth 65536 in
theorem w_alone : about1.alone = true := by decide +kernel
set_option maxRecDepth 65536 in
theorem w_named : about1.methodNamed? x = some theMethod := by decide +kernel
set_option maxRecDepth 65536 in
theorem w_hears : about1.hears theMethod below0 = true := by decide +kernel
set_option maxRecDepth 65536 in
theorem w_ripe : about1.ripe theMethod args0 below0 = true := by decide +kernel
theorem w_running : about1.status = .running := rfl
set_option maxRecDepth 65536 in
theorem w_room : about1.hasRoom e0.platform room_1 = true :=
  launch0.hasRoom_least _ room_1 (by decide +kernel) (by decide +kernel) (by decide +kernel) (by decide +kernel) (by decide +kernel) (by decide +kernel)
theorem allAtoms_all (ts : List Jvm.Cond) (a : Array Jvm.Value) (st : Jvm.State) : (allAtoms ts).before a st = ts.all (fun c => c.before a st) := by
  induction ts with
  | nil => rfl
  | cons c t ih =>
    show (Jvm.Cond.and c (allAtoms t)).before a st = _
    rw [Jvm.Cond.before_and, ih, List.all_cons]
def words1 : List Jvm.Cond := Jvm.Cond.code x code maxLocals ret :: tables_1
/-- a 'code' word, met by the world's own term for the bytes: nothing is compared byte by byte -/
theorem code_word {y : MethodName} {bytes : ByteArray} {mx : Nat} {rt : Option FieldType} {a : Array Value} {s : State} {m : MethodId} {meth : Method} {c : Code} (h1 : s.methodNamed? y = some m) (h2 : s.vm.method? m = some meth) (h3 : meth.code = some c) (h4 : c.code = bytes)
    (h5 : (c.maxLocals == mx && c.exceptionTable.isEmpty && decide (c.maxStack ≤ mostOperands) && decide (meth.sig.returnType = rt) && !meth.locks && decide (parseMethodDescriptor y.desc = some meth.sig)) = true) : (Jvm.Cond.code y bytes mx rt).before a s = true := by
  simp only [Bool.and_eq_true, beq_iff_eq, Bool.not_eq_true', decide_eq_true_eq] at h5
  obtain ⟨⟨⟨⟨⟨g1, g2⟩, g3⟩, g4⟩, g5⟩, g6⟩ := h5
  simp [Cond.before, Cond.holds, Cond.value, h1, h2, h3, h4, g1, g2, g3, g4, g5, g6]
def isCode : Jvm.Cond → Bool
  | .code _ _ _ _ => true
  | _ => false
theorem all_split {L : List Jvm.Cond} {P : Jvm.Cond → Bool} (h1 : L.all (fun c => isCode c || P c) = true) (h2 : ∀ c ∈ L.filter isCode, P c = true) : L.all P = true := by
  refine List.all_eq_true.mpr fun c hc => ?_
  have h := List.all_eq_true.mp h1 c hc
  rcases Bool.eq_false_or_eq_true (isCode c) with hi | hi
  · exact h2 c (List.mem_filter.mpr ⟨hc, hi⟩)
  · simpa [hi] using h
set_option maxRecDepth 65536 in
theorem w_c0 : (Jvm.Cond.code x code maxLocals ret).before args0 about1 = true := code_word (m := ⟨1, 1⟩) (meth := k1m1) (c := k1c1) (by decide +kernel) rfl rfl rfl (by decide +kernel)
set_option maxRecDepth 65536 in
theorem w_c1 : (Jvm.Cond.code ({ cls := "com/example/setwright/setwright/analysis/FragmentAutomaton$Hits", name := "<init>", desc := "(I)V" } : Jvm.MethodName) prog_41_method_1_code (2 : Nat) (Option.none : Option Jvm.ClassFile.FieldType)).before args0 about1 = true := code_word (m := ⟨2, 0⟩) (meth := k2m0) (c := k2c0) (by decide +kernel) rfl rfl rfl (by decide +kernel)
set_option maxRecDepth 65536 in
theorem w_c2 : (Jvm.Cond.code ({ cls := "java/lang/Object", name := "<init>", desc := "()V" } : Jvm.MethodName) object_method_1_code (1 : Nat) (Option.none : Option Jvm.ClassFile.FieldType)).before args0 about1 = true := code_word (m := ⟨0, 0⟩) (meth := k0m0) (c := k0c0) (by decide +kernel) rfl rfl rfl (by decide +kernel)
set_option maxRecDepth 65536 in
theorem w_c3 : (Jvm.Cond.code ({ cls := "com/example/setwright/setwright/analysis/FragmentAutomaton$Hits", name := "clear", desc := "()V" } : Jvm.MethodName) prog_41_method_6_code (2 : Nat) (Option.none : Option Jvm.ClassFile.FieldType)).before args0 about1 = true := code_word (m := ⟨2, 3⟩) (meth := k2m3) (c := k2c3) (by decide +kernel) rfl rfl rfl (by decide +kernel)
set_option maxRecDepth 65536 in
theorem w_c4 : (Jvm.Cond.code ({ cls := "com/example/setwright/setwright/analysis/FragmentAutomaton$Hits", name := "count", desc := "()I" } : Jvm.MethodName) prog_41_method_3_code (1 : Nat) (Option.some Jvm.ClassFile.FieldType.int)).before args0 about1 = true := code_word (m := ⟨2, 2⟩) (meth := k2m2) (c := k2c2) (by decide +kernel) rfl rfl rfl (by decide +kernel)
set_option maxRecDepth 65536 in
theorem w_c5 : (Jvm.Cond.code ({ cls := "com/example/setwright/setwright/analysis/FragmentAutomaton$Hits", name := "add", desc := "(I)Z" } : Jvm.MethodName) prog_41_method_2_code (4 : Nat) (Option.some Jvm.ClassFile.FieldType.boolean)).before args0 about1 = true := code_word (m := ⟨2, 1⟩) (meth := k2m1) (c := k2c1) (by decide +kernel) rfl rfl rfl (by decide +kernel)
def codes1 : List Jvm.Cond := [Jvm.Cond.code x code maxLocals ret, Jvm.Cond.code ({ cls := "com/example/setwright/setwright/analysis/FragmentAutomaton$Hits", name := "<init>", desc := "(I)V" } : Jvm.MethodName) prog_41_method_1_code (2 : Nat) (Option.none : Option Jvm.ClassFile.FieldType), Jvm.Cond.code ({ cls := "java/lang/Object", name := "<init>", desc := "()V" } : Jvm.MethodName) object_method_1_code (1 : Nat) (Option.none : Option Jvm.ClassFile.FieldType), Jvm.Cond.code ({ cls := "com/example/setwright/setwright/analysis/FragmentAutomaton$Hits", name := "clear", desc := "()V" } : Jvm.MethodName) prog_41_method_6_code (2 : Nat) (Option.none : Option Jvm.ClassFile.FieldType), Jvm.Cond.code ({ cls := "com/example/setwright/setwright/analysis/FragmentAutomaton$Hits", name := "count", desc := "()I" } : Jvm.MethodName) prog_41_method_3_code (1 : Nat) (Option.some Jvm.ClassFile.FieldType.int), Jvm.Cond.code ({ cls := "com/example/setwright/setwright/analysis/FragmentAutomaton$Hits", name := "add", desc := "(I)Z" } : Jvm.MethodName) prog_41_method_2_code (4 : Nat) (Option.some Jvm.ClassFile.FieldType.boolean)]
set_option maxRecDepth 65536 in
theorem codes_eq : words1.filter isCode = codes1 := rfl
theorem w_codes : ∀ c ∈ words1.filter isCode, c.before args0 about1 = true := by
  rw [codes_eq]
  intro c hc
  simp only [codes1, List.mem_cons, List.not_mem_nil, or_false] at hc
  rcases hc with rfl | rfl | rfl | rfl | rfl | rfl
  · exact w_c0
  · exact w_c1
  · exact w_c2
  · exact w_c3
  · exact w_c4
  · exact w_c5
set_option maxRecDepth 65536 in
theorem w_t1 : (words1.take 24).all (fun c => isCode c || c.before args0 about1) = true := by decide +kernel
set_option maxRecDepth 65536 in
theorem w_t2 : (words1.drop 24).all (fun c => isCode c || c.before args0 about1) = true := by decide +kernel
theorem w_tables : (allAtoms (Jvm.Cond.code x code maxLocals ret :: tables_1)).before args0 about1 = true := by
  rw [allAtoms_all]
  show words1.all (fun c => c.before args0 about1) = true
  refine all_split ?_ w_codes
  rw [← List.take_append_drop 24 words1, List.all_append, w_t1, w_t2]
  rfl
set_option maxRecDepth 65536 in
theorem w_case : (Jvm.Cond.and given_1 narrow_1).before args0 about1 = true := by decide +kernel
theorem w_applies : (headSpec (Jvm.Cond.code x code maxLocals ret :: tables_1) room_1).applies x e0.platform about1 = true :=
  (Spec.applies_iff w_frames).mpr ⟨w_running, w_runnable, w_alone, w_named, w_hears, w_ripe, w_room, w_tables⟩
theorem atStart : AtStart classFile x code maxLocals ret World_1 tables_1 room_1 Calls_1 rest_1 Pre_1 launch0 p0 e0 about1 theMethod args0 below0 :=
  ⟨lists_1, trivial, launch0.admits_env _ _ _, launch0.least_env, fairChoices_fair.cas, fairChoices_fair.clock, w_frames, w_args, w_heap, w_applies, trivial, trivial, w_case⟩
end start1
theorem witness_1 : WitnessClaimed_1 := ⟨start1.p0, start1.e0, start1.about1, start1.theMethod, start1.args0, start1.below0, start1.atStart⟩
end Jvm.Pilot.@@N@@
