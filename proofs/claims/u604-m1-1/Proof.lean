import JvmDerived
import JvmDerived.Pilot.@@N@@Statement
import JvmDerived.Pilot.@@N@@Code
set_option linter.unusedVariables false
set_option linter.unusedSimpArgs false
namespace Jvm.Pilot.@@N@@
open Jvm Jvm.ClassFile Sem Op Lib Jvm.Free Jvm.Stand Jvm.LawKit Jvm.RoadKit Bundle Jvm.Pilot.@@N@@.Jvm.D
def own_nm (c : Int32) : Int32 := if (97 ≤ c.toInt ∧ c.toInt ≤ 122) ∨ (65 ≤ c.toInt ∧ c.toInt ≤ 90) ∨ c.toInt = 95 ∨ c.toInt = 36 then 1 else 0
theorem own_yes {c : Int32} (h : (97 ≤ c.toInt ∧ c.toInt ≤ 122) ∨ (65 ≤ c.toInt ∧ c.toInt ≤ 90) ∨ c.toInt = 95 ∨ c.toInt = 36) : own_nm c = (1 : Int32) := if_pos h
theorem own_no {c : Int32} (h : ¬ ((97 ≤ c.toInt ∧ c.toInt ≤ 122) ∨ (65 ≤ c.toInt ∧ c.toInt ≤ 90) ∨ c.toInt = 95 ∨ c.toInt = 36)) : own_nm c = (0 : Int32) := if_neg h
def own_let (f : Int32) : Int32 := if 97 ≤ f.toInt ∧ f.toInt ≤ 122 then 1 else 0
def own_st (f c : Int32) : Int32 := if (97 ≤ f.toInt ∧ f.toInt ≤ 122) ∨ c.toInt = 95 ∨ c.toInt = 36 then 1 else 0
theorem own_let1 {f : Int32} (h : 97 ≤ f.toInt ∧ f.toInt ≤ 122) : own_let f = (1 : Int32) := if_pos h
theorem own_let0 {f : Int32} (h : ¬ (97 ≤ f.toInt ∧ f.toInt ≤ 122)) : own_let f = (0 : Int32) := if_neg h
theorem own_st1 {f c : Int32} (h : (97 ≤ f.toInt ∧ f.toInt ≤ 122) ∨ c.toInt = 95 ∨ c.toInt = 36) : own_st f c = (1 : Int32) := if_pos h
theorem own_st0 {f c : Int32} (h : ¬ ((97 ≤ f.toInt ∧ f.toInt ≤ 122) ∨ c.toInt = 95 ∨ c.toInt = 36)) : own_st f c = (0 : Int32) := if_neg h
theorem own_fold (k : Int32) (h0 : 0 ≤ k.toInt) (h1 : k.toInt < 65536) : (97 ≤ (k ||| (32 : Int32)).toInt ∧ (k ||| (32 : Int32)).toInt ≤ 122) ↔ ((97 ≤ k.toInt ∧ k.toInt ≤ 122) ∨ (65 ≤ k.toInt ∧ k.toInt ≤ 90)) := by
  by_cases hs : k.toInt < 128
  · have hk : k = Int32.ofNat k.toInt.toNat := by
      apply Int32.toInt_inj.mp
      rw [Int32.toInt_ofNat_of_lt (by omega)]; omega
    have key : ∀ n : Fin 128, (97 ≤ (Int32.ofNat n.val ||| (32 : Int32)).toInt ∧ (Int32.ofNat n.val ||| (32 : Int32)).toInt ≤ 122) ↔ ((97 ≤ (Int32.ofNat n.val).toInt ∧ (Int32.ofNat n.val).toInt ≤ 122) ∨ (65 ≤ (Int32.ofNat n.val).toInt ∧ (Int32.ofNat n.val).toInt ≤ 90)) := by decide +kernel
    have := key ⟨k.toInt.toNat, by omega⟩
    rw [hk]; exact this
  · have e1 : (k ||| (32 : Int32)).toBitVec.toNat = k.toBitVec.toNat ||| 32 := by
      show (k.toBitVec ||| (32 : Int32).toBitVec).toNat = _
      rw [BitVec.toNat_or]; rfl
    have e2 : k.toBitVec.toNat ≤ k.toBitVec.toNat ||| 32 := Nat.left_le_or
    have e3 : k.toBitVec.toNat ||| 32 < 2 ^ 16 := Nat.or_lt_two_pow (by
      have : k.toInt = k.toBitVec.toInt := rfl
      rw [this, BitVec.toInt_eq_toNat_cond] at h0 h1
      split at h1 <;> omega) (by decide)
    have e4 : (k ||| (32 : Int32)).toInt = ((k ||| (32 : Int32)).toBitVec.toNat : Int) := by
      show (k ||| (32 : Int32)).toBitVec.toInt = _
      rw [BitVec.toInt_eq_toNat_cond, if_pos (by rw [e1]; omega)]
    have e5 : k.toInt = (k.toBitVec.toNat : Int) := by
      have hh : k.toInt = k.toBitVec.toInt := rfl
      rw [hh] at h0 ⊢
      rw [BitVec.toInt_eq_toNat_cond] at h0 ⊢
      split <;> omega
    rw [e1] at e4
    constructor <;> intro h <;> omega
theorem own_code (x : Int32) : 0 ≤ (x &&& (65535 : Int32)).toInt ∧ (x &&& (65535 : Int32)).toInt < 65536 := by
  have h := c_and x (65535 : Int32) (by decide)
  have e : (65535 : Int32).toInt = 65535 := rfl
  omega
theorem own_char (k : Int32) (h0 : 0 ≤ k.toInt) (h1 : k.toInt < 65536) : k.toUInt32.toUInt16.toUInt32.toInt32 = k := by
  have h := c_i2c k
  apply Int32.toInt_inj.mp; omega
theorem own_same (k : Int32) (h0 : 0 ≤ k.toInt) (h1 : k.toInt < 65536) : own_nm k = own_st (k ||| (32 : Int32)) k := by
  have h := own_fold k h0 h1
  by_cases q : (97 ≤ k.toInt ∧ k.toInt ≤ 122) ∨ (65 ≤ k.toInt ∧ k.toInt ≤ 90)
  · rw [own_yes (by rcases q with q | q <;> simp [q]), own_st1 (Or.inl (h.mpr q))]
  · have q2 : ¬ (97 ≤ (k ||| (32 : Int32)).toInt ∧ (k ||| (32 : Int32)).toInt ≤ 122) := fun z => q (h.mp z)
    by_cases r : k.toInt = 95 ∨ k.toInt = 36
    · rw [own_yes (Or.inr (Or.inr r)), own_st1 (Or.inr r)]
    · rw [own_no (fun z => by rcases z with z | z | z; exact q (Or.inl z); exact q (Or.inr z); exact r z), own_st0 (fun z => z.elim q2 r)]
theorem d1_0 : decode prog_20_method_3_code 0 = .ok (.bipush 97, 2) := by decide +kernel
theorem d1_2 : decode prog_20_method_3_code 2 = .ok (.iload_n 0, 1) := by decide +kernel
theorem d1_3 : decode prog_20_method_3_code 3 = .ok (.if_icmp .gt 9, 3) := by decide +kernel
theorem d1_6 : decode prog_20_method_3_code 6 = .ok (.iload_n 0, 1) := by decide +kernel
theorem d1_7 : decode prog_20_method_3_code 7 = .ok (.bipush 122, 2) := by decide +kernel
theorem d1_9 : decode prog_20_method_3_code 9 = .ok (.if_icmp .le 27, 3) := by decide +kernel
theorem d1_12 : decode prog_20_method_3_code 12 = .ok (.bipush 65, 2) := by decide +kernel
theorem d1_14 : decode prog_20_method_3_code 14 = .ok (.iload_n 0, 1) := by decide +kernel
theorem d1_15 : decode prog_20_method_3_code 15 = .ok (.if_icmp .gt 9, 3) := by decide +kernel
theorem d1_18 : decode prog_20_method_3_code 18 = .ok (.iload_n 0, 1) := by decide +kernel
theorem d1_19 : decode prog_20_method_3_code 19 = .ok (.bipush 90, 2) := by decide +kernel
theorem d1_21 : decode prog_20_method_3_code 21 = .ok (.if_icmp .le 15, 3) := by decide +kernel
theorem d1_24 : decode prog_20_method_3_code 24 = .ok (.iload_n 0, 1) := by decide +kernel
theorem d1_25 : decode prog_20_method_3_code 25 = .ok (.bipush 95, 2) := by decide +kernel
theorem d1_27 : decode prog_20_method_3_code 27 = .ok (.if_icmp .eq 9, 3) := by decide +kernel
theorem d1_30 : decode prog_20_method_3_code 30 = .ok (.iload_n 0, 1) := by decide +kernel
theorem d1_31 : decode prog_20_method_3_code 31 = .ok (.bipush 36, 2) := by decide +kernel
theorem d1_33 : decode prog_20_method_3_code 33 = .ok (.if_icmp .ne 7, 3) := by decide +kernel
theorem d1_36 : decode prog_20_method_3_code 36 = .ok (.iconst 1, 1) := by decide +kernel
theorem d1_37 : decode prog_20_method_3_code 37 = .ok (.goto 4, 3) := by decide +kernel
theorem d1_40 : decode prog_20_method_3_code 40 = .ok (.iconst 0, 1) := by decide +kernel
theorem d1_41 : decode prog_20_method_3_code 41 = .ok (.ireturn, 1) := by decide +kernel
theorem pn_1 : plainName "com/example/hidex/hidex/lang/Names" = true := by first | (simp [plainName, overriddenIn]; done) | decide +kernel
theorem ef_1 (m : MethodId) (c1 : Int32) : entryFrame m #[(.int c1)] 1 = mkF m 0 #[.val (.int c1)] [] := by first | (simp [entryFrame, mkF, argsToLocals, Value.category]; done) | rfl
def Q1 (Z : State) (c1 : Int32) (h0 : Heap) (n0 : Nat) (v : Option Value) (h : Heap) (L : List Loc) : Prop := v = some (.int (own_nm c1)) ∧ Fr n0 L ∧ h = h0
set_option maxRecDepth 65536 in
set_option maxHeartbeats 40000000 in
theorem rm1 (l : Launch) (Z : State) (a0 : Array Value) (hw : ∀ d ∈ tables_1, d.before a0 Z = true) (ws : List Jvm.Cond) (c1 : Int32) (h0 : Heap) (n0 : Nat) (Z0 : n0 ≤ h0.size) :
    MetFree l (⟨"com/example/hidex/hidex/lang/Names", "isNameStart", "(C)Z"⟩ : MethodName) (head1 (Jvm.Cond.code (⟨"com/example/hidex/hidex/lang/Names", "isNameStart", "(C)Z"⟩ : MethodName) prog_20_method_3_code 1 (some .boolean) :: ws) ({ frames := 0, cells := 0, slots := 0, locals := 0 } : Room)) (fun a U => a = #[(.int c1)] ∧ Z.Warmed39 U.vm ∧ U.heap = h0) (fun _ _ _ _ _ => True) (fun _ U o U' => ∃ v L, o = .returned v ∧ Q1 Z c1 h0 n0 v U'.heap L ∧ FrameEnd U o U' L ({ frames := 0, cells := 0, slots := 0, locals := 0 } : Room).cells ({ frames := 0, cells := 0, slots := 0, locals := 0 } : Room).slots) := by
  refine MetFree.of_bodySF (plainFor_of_name pn_1) hisR ?_
  intro p e s m args below meth c s₁ Bd hml0 hP hK
  obtain ⟨rfl, hZ, hh⟩ := hP
  have hx := Bd.exec
  have hby := Bd.bytes
  have hml : c.maxLocals = 1 := hml0
  have hown : s.vm.findClass "com/example/hidex/hidex/lang/Names" = some m.cls := findClass_of_methodNamed Bd.named
  have hnm := (name_of_methodNamed Bd.named Bd.method).1
  have X0 : Stand p l e ({ frames := 0, cells := 0, slots := 0, locals := 0 } : Room) s m #[(.int c1)] below meth c s₁ [] 0 0 := Stand.of_body Bd
  have e0 : s₁.heap = h0 := by rw [← hh, Bd.state]; rfl
  have N0 := Fr.nil n0
  have pre0 : ∀ t, Steps p.tables e below (s₁.setTop (mkF m 0 #[.val (.int c1)] [])) t → Steps p.tables e below (s₁.setTop (entryFrame m #[(.int c1)] 1)) t := fun t k => castTop (ef_1 m c1) k
  obtain ⟨fs, hr, hrun, hended, hW, hsame⟩ := X0.leave (v := some (.int (own_nm c1))) (fun h => by rw [Bd.returns] at h; cases h)
  refine ⟨_, _, pre0 _ ?_, hrun, hended, _, _, rfl, ?_, ⟨_, rfl⟩, hW, hsame.mono (by decide) (by decide)⟩
  · show Steps p.tables e below (s₁.setTop (mkF m 0 #[.val (.int c1)] [])) _
    refine XS.bipush X0.here hx rfl (hb hby d1_0) ?_
    show Steps p.tables e below (s₁.setTop (mkF m 2 #[.val (.int c1)] [(.int (97 : Int32))])) _
    refine XS.iloadN X0.here hx rfl (hb hby d1_2) rfl ?_
    show Steps p.tables e below (s₁.setTop (mkF m 3 #[.val (.int c1)] [(.int c1), (.int (97 : Int32))])) _
    by_cases h3 : c1.toInt < 97
    · refine XS.icmpYes X0.here hx rfl (pc0 := 3) (pc' := 12) rfl (hb hby d1_3) rfl (tlt (show c1 < (97 : Int32) from Int32.lt_iff_toInt_lt.mpr h3)).2.2.1 (by decide) (by decide) ?_
      show Steps p.tables e below (s₁.setTop (mkF m 12 #[.val (.int c1)] [])) _
      refine XS.bipush X0.here hx rfl (hb hby d1_12) ?_
      show Steps p.tables e below (s₁.setTop (mkF m 14 #[.val (.int c1)] [(.int (65 : Int32))])) _
      refine XS.iloadN X0.here hx rfl (hb hby d1_14) rfl ?_
      show Steps p.tables e below (s₁.setTop (mkF m 15 #[.val (.int c1)] [(.int c1), (.int (65 : Int32))])) _
      by_cases h15 : c1.toInt < 65
      · refine XS.icmpYes X0.here hx rfl (pc0 := 15) (pc' := 24) rfl (hb hby d1_15) rfl (tlt (show c1 < (65 : Int32) from Int32.lt_iff_toInt_lt.mpr h15)).2.2.1 (by decide) (by decide) ?_
        show Steps p.tables e below (s₁.setTop (mkF m 24 #[.val (.int c1)] [])) _
        refine XS.iloadN X0.here hx rfl (hb hby d1_24) rfl ?_
        show Steps p.tables e below (s₁.setTop (mkF m 25 #[.val (.int c1)] [(.int c1)])) _
        refine XS.bipush X0.here hx rfl (hb hby d1_25) ?_
        show Steps p.tables e below (s₁.setTop (mkF m 27 #[.val (.int c1)] [(.int (95 : Int32)), (.int c1)])) _
        by_cases h27 : c1.toInt = 95
        · refine XS.icmpYes X0.here hx rfl (pc0 := 27) (pc' := 36) rfl (hb hby d1_27) rfl (teq (show c1 = (95 : Int32) from Int32.toInt_inj.mp h27)).1 (by decide) (by decide) ?_
          show Steps p.tables e below (s₁.setTop (mkF m 36 #[.val (.int c1)] [])) _
          refine XS.iconst X0.here hx rfl (hb hby d1_36) ?_
          show Steps p.tables e below (s₁.setTop (mkF m 37 #[.val (.int c1)] [(.int (1 : Int32))])) _
          refine XS.goto X0.here hx rfl (pc0 := 37) (pc' := 41) rfl (hb hby d1_37) (by decide) (by decide) ?_
          show Steps p.tables e below (s₁.setTop (mkF m 41 #[.val (.int c1)] [(.int (1 : Int32))])) _
          have hv : own_nm c1 = (1 : Int32) := own_yes (by omega)
          rw [hv] at hr
          exact retN X0 hx (t := .boolean) Bd.returns (by simp) (hb hby d1_41) hr
        · refine XS.icmpNo X0.here hx rfl (hb hby d1_27) rfl (feq (fun q : c1 = (95 : Int32) => h27 (Int32.toInt_inj.mpr q))).1 ?_
          show Steps p.tables e below (s₁.setTop (mkF m 30 #[.val (.int c1)] [])) _
          refine XS.iloadN X0.here hx rfl (hb hby d1_30) rfl ?_
          show Steps p.tables e below (s₁.setTop (mkF m 31 #[.val (.int c1)] [(.int c1)])) _
          refine XS.bipush X0.here hx rfl (hb hby d1_31) ?_
          show Steps p.tables e below (s₁.setTop (mkF m 33 #[.val (.int c1)] [(.int (36 : Int32)), (.int c1)])) _
          by_cases h33 : c1.toInt = 36
          · refine XS.icmpNo X0.here hx rfl (hb hby d1_33) rfl (teq (show c1 = (36 : Int32) from Int32.toInt_inj.mp h33)).2 ?_
            show Steps p.tables e below (s₁.setTop (mkF m 36 #[.val (.int c1)] [])) _
            refine XS.iconst X0.here hx rfl (hb hby d1_36) ?_
            show Steps p.tables e below (s₁.setTop (mkF m 37 #[.val (.int c1)] [(.int (1 : Int32))])) _
            refine XS.goto X0.here hx rfl (pc0 := 37) (pc' := 41) rfl (hb hby d1_37) (by decide) (by decide) ?_
            show Steps p.tables e below (s₁.setTop (mkF m 41 #[.val (.int c1)] [(.int (1 : Int32))])) _
            have hv : own_nm c1 = (1 : Int32) := own_yes (by omega)
            rw [hv] at hr
            exact retN X0 hx (t := .boolean) Bd.returns (by simp) (hb hby d1_41) hr
          · refine XS.icmpYes X0.here hx rfl (pc0 := 33) (pc' := 40) rfl (hb hby d1_33) rfl (feq (fun q : c1 = (36 : Int32) => h33 (Int32.toInt_inj.mpr q))).2 (by decide) (by decide) ?_
            show Steps p.tables e below (s₁.setTop (mkF m 40 #[.val (.int c1)] [])) _
            refine XS.iconst X0.here hx rfl (hb hby d1_40) ?_
            show Steps p.tables e below (s₁.setTop (mkF m 41 #[.val (.int c1)] [(.int (0 : Int32))])) _
            have hv : own_nm c1 = (0 : Int32) := own_no (by omega)
            rw [hv] at hr
            exact retN X0 hx (t := .boolean) Bd.returns (by simp) (hb hby d1_41) hr
      · refine XS.icmpNo X0.here hx rfl (hb hby d1_15) rfl (flt (fun q : c1 < (65 : Int32) => h15 (Int32.lt_iff_toInt_lt.mp q))).2.2.1 ?_
        show Steps p.tables e below (s₁.setTop (mkF m 18 #[.val (.int c1)] [])) _
        refine XS.iloadN X0.here hx rfl (hb hby d1_18) rfl ?_
        show Steps p.tables e below (s₁.setTop (mkF m 19 #[.val (.int c1)] [(.int c1)])) _
        refine XS.bipush X0.here hx rfl (hb hby d1_19) ?_
        show Steps p.tables e below (s₁.setTop (mkF m 21 #[.val (.int c1)] [(.int (90 : Int32)), (.int c1)])) _
        by_cases h21 : 90 < c1.toInt
        · refine XS.icmpNo X0.here hx rfl (hb hby d1_21) rfl (tlt (show (90 : Int32) < c1 from Int32.lt_iff_toInt_lt.mpr h21)).2.2.2 ?_
          show Steps p.tables e below (s₁.setTop (mkF m 24 #[.val (.int c1)] [])) _
          refine XS.iloadN X0.here hx rfl (hb hby d1_24) rfl ?_
          show Steps p.tables e below (s₁.setTop (mkF m 25 #[.val (.int c1)] [(.int c1)])) _
          refine XS.bipush X0.here hx rfl (hb hby d1_25) ?_
          show Steps p.tables e below (s₁.setTop (mkF m 27 #[.val (.int c1)] [(.int (95 : Int32)), (.int c1)])) _
          by_cases h27 : c1.toInt = 95
          · refine XS.icmpYes X0.here hx rfl (pc0 := 27) (pc' := 36) rfl (hb hby d1_27) rfl (teq (show c1 = (95 : Int32) from Int32.toInt_inj.mp h27)).1 (by decide) (by decide) ?_
            show Steps p.tables e below (s₁.setTop (mkF m 36 #[.val (.int c1)] [])) _
            refine XS.iconst X0.here hx rfl (hb hby d1_36) ?_
            show Steps p.tables e below (s₁.setTop (mkF m 37 #[.val (.int c1)] [(.int (1 : Int32))])) _
            refine XS.goto X0.here hx rfl (pc0 := 37) (pc' := 41) rfl (hb hby d1_37) (by decide) (by decide) ?_
            show Steps p.tables e below (s₁.setTop (mkF m 41 #[.val (.int c1)] [(.int (1 : Int32))])) _
            have hv : own_nm c1 = (1 : Int32) := own_yes (by omega)
            rw [hv] at hr
            exact retN X0 hx (t := .boolean) Bd.returns (by simp) (hb hby d1_41) hr
          · refine XS.icmpNo X0.here hx rfl (hb hby d1_27) rfl (feq (fun q : c1 = (95 : Int32) => h27 (Int32.toInt_inj.mpr q))).1 ?_
            show Steps p.tables e below (s₁.setTop (mkF m 30 #[.val (.int c1)] [])) _
            refine XS.iloadN X0.here hx rfl (hb hby d1_30) rfl ?_
            show Steps p.tables e below (s₁.setTop (mkF m 31 #[.val (.int c1)] [(.int c1)])) _
            refine XS.bipush X0.here hx rfl (hb hby d1_31) ?_
            show Steps p.tables e below (s₁.setTop (mkF m 33 #[.val (.int c1)] [(.int (36 : Int32)), (.int c1)])) _
            by_cases h33 : c1.toInt = 36
            · refine XS.icmpNo X0.here hx rfl (hb hby d1_33) rfl (teq (show c1 = (36 : Int32) from Int32.toInt_inj.mp h33)).2 ?_
              show Steps p.tables e below (s₁.setTop (mkF m 36 #[.val (.int c1)] [])) _
              refine XS.iconst X0.here hx rfl (hb hby d1_36) ?_
              show Steps p.tables e below (s₁.setTop (mkF m 37 #[.val (.int c1)] [(.int (1 : Int32))])) _
              refine XS.goto X0.here hx rfl (pc0 := 37) (pc' := 41) rfl (hb hby d1_37) (by decide) (by decide) ?_
              show Steps p.tables e below (s₁.setTop (mkF m 41 #[.val (.int c1)] [(.int (1 : Int32))])) _
              have hv : own_nm c1 = (1 : Int32) := own_yes (by omega)
              rw [hv] at hr
              exact retN X0 hx (t := .boolean) Bd.returns (by simp) (hb hby d1_41) hr
            · refine XS.icmpYes X0.here hx rfl (pc0 := 33) (pc' := 40) rfl (hb hby d1_33) rfl (feq (fun q : c1 = (36 : Int32) => h33 (Int32.toInt_inj.mpr q))).2 (by decide) (by decide) ?_
              show Steps p.tables e below (s₁.setTop (mkF m 40 #[.val (.int c1)] [])) _
              refine XS.iconst X0.here hx rfl (hb hby d1_40) ?_
              show Steps p.tables e below (s₁.setTop (mkF m 41 #[.val (.int c1)] [(.int (0 : Int32))])) _
              have hv : own_nm c1 = (0 : Int32) := own_no (by omega)
              rw [hv] at hr
              exact retN X0 hx (t := .boolean) Bd.returns (by simp) (hb hby d1_41) hr
        · refine XS.icmpYes X0.here hx rfl (pc0 := 21) (pc' := 36) rfl (hb hby d1_21) rfl (flt (fun q : (90 : Int32) < c1 => h21 (Int32.lt_iff_toInt_lt.mp q))).2.2.2 (by decide) (by decide) ?_
          show Steps p.tables e below (s₁.setTop (mkF m 36 #[.val (.int c1)] [])) _
          refine XS.iconst X0.here hx rfl (hb hby d1_36) ?_
          show Steps p.tables e below (s₁.setTop (mkF m 37 #[.val (.int c1)] [(.int (1 : Int32))])) _
          refine XS.goto X0.here hx rfl (pc0 := 37) (pc' := 41) rfl (hb hby d1_37) (by decide) (by decide) ?_
          show Steps p.tables e below (s₁.setTop (mkF m 41 #[.val (.int c1)] [(.int (1 : Int32))])) _
          have hv : own_nm c1 = (1 : Int32) := own_yes (by omega)
          rw [hv] at hr
          exact retN X0 hx (t := .boolean) Bd.returns (by simp) (hb hby d1_41) hr
    · refine XS.icmpNo X0.here hx rfl (hb hby d1_3) rfl (flt (fun q : c1 < (97 : Int32) => h3 (Int32.lt_iff_toInt_lt.mp q))).2.2.1 ?_
      show Steps p.tables e below (s₁.setTop (mkF m 6 #[.val (.int c1)] [])) _
      refine XS.iloadN X0.here hx rfl (hb hby d1_6) rfl ?_
      show Steps p.tables e below (s₁.setTop (mkF m 7 #[.val (.int c1)] [(.int c1)])) _
      refine XS.bipush X0.here hx rfl (hb hby d1_7) ?_
      show Steps p.tables e below (s₁.setTop (mkF m 9 #[.val (.int c1)] [(.int (122 : Int32)), (.int c1)])) _
      by_cases h9 : 122 < c1.toInt
      · refine XS.icmpNo X0.here hx rfl (hb hby d1_9) rfl (tlt (show (122 : Int32) < c1 from Int32.lt_iff_toInt_lt.mpr h9)).2.2.2 ?_
        show Steps p.tables e below (s₁.setTop (mkF m 12 #[.val (.int c1)] [])) _
        refine XS.bipush X0.here hx rfl (hb hby d1_12) ?_
        show Steps p.tables e below (s₁.setTop (mkF m 14 #[.val (.int c1)] [(.int (65 : Int32))])) _
        refine XS.iloadN X0.here hx rfl (hb hby d1_14) rfl ?_
        show Steps p.tables e below (s₁.setTop (mkF m 15 #[.val (.int c1)] [(.int c1), (.int (65 : Int32))])) _
        by_cases h15 : c1.toInt < 65
        · refine XS.icmpYes X0.here hx rfl (pc0 := 15) (pc' := 24) rfl (hb hby d1_15) rfl (tlt (show c1 < (65 : Int32) from Int32.lt_iff_toInt_lt.mpr h15)).2.2.1 (by decide) (by decide) ?_
          show Steps p.tables e below (s₁.setTop (mkF m 24 #[.val (.int c1)] [])) _
          refine XS.iloadN X0.here hx rfl (hb hby d1_24) rfl ?_
          show Steps p.tables e below (s₁.setTop (mkF m 25 #[.val (.int c1)] [(.int c1)])) _
          refine XS.bipush X0.here hx rfl (hb hby d1_25) ?_
          show Steps p.tables e below (s₁.setTop (mkF m 27 #[.val (.int c1)] [(.int (95 : Int32)), (.int c1)])) _
          by_cases h27 : c1.toInt = 95
          · refine XS.icmpYes X0.here hx rfl (pc0 := 27) (pc' := 36) rfl (hb hby d1_27) rfl (teq (show c1 = (95 : Int32) from Int32.toInt_inj.mp h27)).1 (by decide) (by decide) ?_
            show Steps p.tables e below (s₁.setTop (mkF m 36 #[.val (.int c1)] [])) _
            refine XS.iconst X0.here hx rfl (hb hby d1_36) ?_
            show Steps p.tables e below (s₁.setTop (mkF m 37 #[.val (.int c1)] [(.int (1 : Int32))])) _
            refine XS.goto X0.here hx rfl (pc0 := 37) (pc' := 41) rfl (hb hby d1_37) (by decide) (by decide) ?_
            show Steps p.tables e below (s₁.setTop (mkF m 41 #[.val (.int c1)] [(.int (1 : Int32))])) _
            have hv : own_nm c1 = (1 : Int32) := own_yes (by omega)
            rw [hv] at hr
            exact retN X0 hx (t := .boolean) Bd.returns (by simp) (hb hby d1_41) hr
          · refine XS.icmpNo X0.here hx rfl (hb hby d1_27) rfl (feq (fun q : c1 = (95 : Int32) => h27 (Int32.toInt_inj.mpr q))).1 ?_
            show Steps p.tables e below (s₁.setTop (mkF m 30 #[.val (.int c1)] [])) _
            refine XS.iloadN X0.here hx rfl (hb hby d1_30) rfl ?_
            show Steps p.tables e below (s₁.setTop (mkF m 31 #[.val (.int c1)] [(.int c1)])) _
            refine XS.bipush X0.here hx rfl (hb hby d1_31) ?_
            show Steps p.tables e below (s₁.setTop (mkF m 33 #[.val (.int c1)] [(.int (36 : Int32)), (.int c1)])) _
            by_cases h33 : c1.toInt = 36
            · refine XS.icmpNo X0.here hx rfl (hb hby d1_33) rfl (teq (show c1 = (36 : Int32) from Int32.toInt_inj.mp h33)).2 ?_
              show Steps p.tables e below (s₁.setTop (mkF m 36 #[.val (.int c1)] [])) _
              refine XS.iconst X0.here hx rfl (hb hby d1_36) ?_
              show Steps p.tables e below (s₁.setTop (mkF m 37 #[.val (.int c1)] [(.int (1 : Int32))])) _
              refine XS.goto X0.here hx rfl (pc0 := 37) (pc' := 41) rfl (hb hby d1_37) (by decide) (by decide) ?_
              show Steps p.tables e below (s₁.setTop (mkF m 41 #[.val (.int c1)] [(.int (1 : Int32))])) _
              have hv : own_nm c1 = (1 : Int32) := own_yes (by omega)
              rw [hv] at hr
              exact retN X0 hx (t := .boolean) Bd.returns (by simp) (hb hby d1_41) hr
            · refine XS.icmpYes X0.here hx rfl (pc0 := 33) (pc' := 40) rfl (hb hby d1_33) rfl (feq (fun q : c1 = (36 : Int32) => h33 (Int32.toInt_inj.mpr q))).2 (by decide) (by decide) ?_
              show Steps p.tables e below (s₁.setTop (mkF m 40 #[.val (.int c1)] [])) _
              refine XS.iconst X0.here hx rfl (hb hby d1_40) ?_
              show Steps p.tables e below (s₁.setTop (mkF m 41 #[.val (.int c1)] [(.int (0 : Int32))])) _
              have hv : own_nm c1 = (0 : Int32) := own_no (by omega)
              rw [hv] at hr
              exact retN X0 hx (t := .boolean) Bd.returns (by simp) (hb hby d1_41) hr
        · refine XS.icmpNo X0.here hx rfl (hb hby d1_15) rfl (flt (fun q : c1 < (65 : Int32) => h15 (Int32.lt_iff_toInt_lt.mp q))).2.2.1 ?_
          show Steps p.tables e below (s₁.setTop (mkF m 18 #[.val (.int c1)] [])) _
          refine XS.iloadN X0.here hx rfl (hb hby d1_18) rfl ?_
          show Steps p.tables e below (s₁.setTop (mkF m 19 #[.val (.int c1)] [(.int c1)])) _
          refine XS.bipush X0.here hx rfl (hb hby d1_19) ?_
          show Steps p.tables e below (s₁.setTop (mkF m 21 #[.val (.int c1)] [(.int (90 : Int32)), (.int c1)])) _
          by_cases h21 : 90 < c1.toInt
          · refine XS.icmpNo X0.here hx rfl (hb hby d1_21) rfl (tlt (show (90 : Int32) < c1 from Int32.lt_iff_toInt_lt.mpr h21)).2.2.2 ?_
            show Steps p.tables e below (s₁.setTop (mkF m 24 #[.val (.int c1)] [])) _
            refine XS.iloadN X0.here hx rfl (hb hby d1_24) rfl ?_
            show Steps p.tables e below (s₁.setTop (mkF m 25 #[.val (.int c1)] [(.int c1)])) _
            refine XS.bipush X0.here hx rfl (hb hby d1_25) ?_
            show Steps p.tables e below (s₁.setTop (mkF m 27 #[.val (.int c1)] [(.int (95 : Int32)), (.int c1)])) _
            by_cases h27 : c1.toInt = 95
            · refine XS.icmpYes X0.here hx rfl (pc0 := 27) (pc' := 36) rfl (hb hby d1_27) rfl (teq (show c1 = (95 : Int32) from Int32.toInt_inj.mp h27)).1 (by decide) (by decide) ?_
              show Steps p.tables e below (s₁.setTop (mkF m 36 #[.val (.int c1)] [])) _
              refine XS.iconst X0.here hx rfl (hb hby d1_36) ?_
              show Steps p.tables e below (s₁.setTop (mkF m 37 #[.val (.int c1)] [(.int (1 : Int32))])) _
              refine XS.goto X0.here hx rfl (pc0 := 37) (pc' := 41) rfl (hb hby d1_37) (by decide) (by decide) ?_
              show Steps p.tables e below (s₁.setTop (mkF m 41 #[.val (.int c1)] [(.int (1 : Int32))])) _
              have hv : own_nm c1 = (1 : Int32) := own_yes (by omega)
              rw [hv] at hr
              exact retN X0 hx (t := .boolean) Bd.returns (by simp) (hb hby d1_41) hr
            · refine XS.icmpNo X0.here hx rfl (hb hby d1_27) rfl (feq (fun q : c1 = (95 : Int32) => h27 (Int32.toInt_inj.mpr q))).1 ?_
              show Steps p.tables e below (s₁.setTop (mkF m 30 #[.val (.int c1)] [])) _
              refine XS.iloadN X0.here hx rfl (hb hby d1_30) rfl ?_
              show Steps p.tables e below (s₁.setTop (mkF m 31 #[.val (.int c1)] [(.int c1)])) _
              refine XS.bipush X0.here hx rfl (hb hby d1_31) ?_
              show Steps p.tables e below (s₁.setTop (mkF m 33 #[.val (.int c1)] [(.int (36 : Int32)), (.int c1)])) _
              by_cases h33 : c1.toInt = 36
              · refine XS.icmpNo X0.here hx rfl (hb hby d1_33) rfl (teq (show c1 = (36 : Int32) from Int32.toInt_inj.mp h33)).2 ?_
                show Steps p.tables e below (s₁.setTop (mkF m 36 #[.val (.int c1)] [])) _
                refine XS.iconst X0.here hx rfl (hb hby d1_36) ?_
                show Steps p.tables e below (s₁.setTop (mkF m 37 #[.val (.int c1)] [(.int (1 : Int32))])) _
                refine XS.goto X0.here hx rfl (pc0 := 37) (pc' := 41) rfl (hb hby d1_37) (by decide) (by decide) ?_
                show Steps p.tables e below (s₁.setTop (mkF m 41 #[.val (.int c1)] [(.int (1 : Int32))])) _
                have hv : own_nm c1 = (1 : Int32) := own_yes (by omega)
                rw [hv] at hr
                exact retN X0 hx (t := .boolean) Bd.returns (by simp) (hb hby d1_41) hr
              · refine XS.icmpYes X0.here hx rfl (pc0 := 33) (pc' := 40) rfl (hb hby d1_33) rfl (feq (fun q : c1 = (36 : Int32) => h33 (Int32.toInt_inj.mpr q))).2 (by decide) (by decide) ?_
                show Steps p.tables e below (s₁.setTop (mkF m 40 #[.val (.int c1)] [])) _
                refine XS.iconst X0.here hx rfl (hb hby d1_40) ?_
                show Steps p.tables e below (s₁.setTop (mkF m 41 #[.val (.int c1)] [(.int (0 : Int32))])) _
                have hv : own_nm c1 = (0 : Int32) := own_no (by omega)
                rw [hv] at hr
                exact retN X0 hx (t := .boolean) Bd.returns (by simp) (hb hby d1_41) hr
          · refine XS.icmpYes X0.here hx rfl (pc0 := 21) (pc' := 36) rfl (hb hby d1_21) rfl (flt (fun q : (90 : Int32) < c1 => h21 (Int32.lt_iff_toInt_lt.mp q))).2.2.2 (by decide) (by decide) ?_
            show Steps p.tables e below (s₁.setTop (mkF m 36 #[.val (.int c1)] [])) _
            refine XS.iconst X0.here hx rfl (hb hby d1_36) ?_
            show Steps p.tables e below (s₁.setTop (mkF m 37 #[.val (.int c1)] [(.int (1 : Int32))])) _
            refine XS.goto X0.here hx rfl (pc0 := 37) (pc' := 41) rfl (hb hby d1_37) (by decide) (by decide) ?_
            show Steps p.tables e below (s₁.setTop (mkF m 41 #[.val (.int c1)] [(.int (1 : Int32))])) _
            have hv : own_nm c1 = (1 : Int32) := own_yes (by omega)
            rw [hv] at hr
            exact retN X0 hx (t := .boolean) Bd.returns (by simp) (hb hby d1_41) hr
      · refine XS.icmpYes X0.here hx rfl (pc0 := 9) (pc' := 36) rfl (hb hby d1_9) rfl (flt (fun q : (122 : Int32) < c1 => h9 (Int32.lt_iff_toInt_lt.mp q))).2.2.2 (by decide) (by decide) ?_
        show Steps p.tables e below (s₁.setTop (mkF m 36 #[.val (.int c1)] [])) _
        refine XS.iconst X0.here hx rfl (hb hby d1_36) ?_
        show Steps p.tables e below (s₁.setTop (mkF m 37 #[.val (.int c1)] [(.int (1 : Int32))])) _
        refine XS.goto X0.here hx rfl (pc0 := 37) (pc' := 41) rfl (hb hby d1_37) (by decide) (by decide) ?_
        show Steps p.tables e below (s₁.setTop (mkF m 41 #[.val (.int c1)] [(.int (1 : Int32))])) _
        have hv : own_nm c1 = (1 : Int32) := own_yes (by omega)
        rw [hv] at hr
        exact retN X0 hx (t := .boolean) Bd.returns (by simp) (hb hby d1_41) hr
  · show Q1 Z c1 h0 n0 _ s₁.heap _
    rw [e0]
    exact ⟨rfl, N0, rfl⟩
theorem pn_0 : plainName "com/example/hidex/hidex/lang/NamesIsNameStartPinLaw" = true := by first | (simp [plainName, overriddenIn]; done) | decide +kernel
theorem pd_0 : parseMethodDescriptor "(C)Z" = some ⟨[.char], some .boolean⟩ := by decide +kernel
theorem ef_0 (m : MethodId) (p1 : Int32) : entryFrame m #[(.int p1)] maxLocals = mkF m 0 #[.val (.int p1), .unset, .unset, .unset, .unset, .unset] [] := by first | (simp [entryFrame, mkF, argsToLocals, Value.category, maxLocals]; done) | rfl
def Q0 (Z : State) (p1 : Int32) (h0 : Heap) (n0 : Nat) (v : Option Value) (h : Heap) (L : List Loc) : Prop := v = some (.int (1 : Int32)) ∧ Fr n0 L
set_option maxRecDepth 65536 in
set_option maxHeartbeats 40000000 in
theorem rm0 (l : Launch) (Z : State) (a0 : Array Value) (hw : ∀ d ∈ tables_1, d.before a0 Z = true) (ws : List Jvm.Cond) (p1 : Int32) (h0 : Heap) (n0 : Nat) (Z0 : n0 ≤ h0.size) :
    MetFree l x (head1 (Jvm.Cond.code x code maxLocals ret :: ws) room_1) (fun a U => a = #[(.int p1)] ∧ Z.Warmed39 U.vm ∧ U.heap = h0) (fun _ _ _ _ _ => True) (fun _ U o U' => ∃ v L, o = .returned v ∧ Q0 Z p1 h0 n0 v U'.heap L ∧ FrameEnd U o U' L room_1.cells room_1.slots) := by
  refine MetFree.of_bodySF (plainFor_of_name pn_0) hisR ?_
  intro p e s m args below meth c s₁ Bd hml0 hP hK
  obtain ⟨rfl, hZ, hh⟩ := hP
  have hx := Bd.exec
  have hby := Bd.bytes
  have hml : c.maxLocals = 6 := hml0
  have hown : s.vm.findClass "com/example/hidex/hidex/lang/NamesIsNameStartPinLaw" = some m.cls := findClass_of_methodNamed Bd.named
  have hnm := (name_of_methodNamed Bd.named Bd.method).1
  have X0 : Stand p l e room_1 s m #[(.int p1)] below meth c s₁ [] 0 0 := Stand.of_body Bd
  have e0 : s₁.heap = h0 := by rw [← hh, Bd.state]; rfl
  have N0 := Fr.nil n0
  have pre0 : ∀ t, Steps p.tables e below (s₁.setTop (mkF m 0 #[.val (.int p1), .unset, .unset, .unset, .unset, .unset] [])) t → Steps p.tables e below (s₁.setTop (entryFrame m #[(.int p1)] maxLocals)) t := fun t k => castTop (ef_0 m p1) k
  obtain ⟨k, hk⟩ : ∃ k : Int32, k = (p1 &&& (65535 : Int32)) := ⟨_, rfl⟩
  have hkb := own_code p1
  rw [← hk] at hkb
  have hch := own_char k hkb.1 hkb.2
  have hsm := own_same k hkb.1 hkb.2
  obtain ⟨_, _, ⟨T2, L2, k2, n2⟩, -, X2, ⟨Lc2, hQ2, l2, y2, z2⟩, st2⟩ := Jvm.LawKit.callS X0 hx (y := (⟨"com/example/hidex/hidex/lang/Names", "isNameStart", "(C)Z"⟩ : MethodName)) hown (mvT hZ (hw _ (List.mem_of_getElem? (i := 1) rfl))) (mvT hZ (hw _ (List.mem_of_getElem? (i := 2) rfl))) (mvT hZ (hw _ (List.mem_of_getElem? (i := 3) rfl))) (mvT hZ (hw _ (List.mem_of_getElem? (i := 4) rfl))) (by decide) (backOf (W := 0) (rm1 l Z a0 hw [] k h0 n0 Z0) hZ (hw _ (List.mem_of_getElem? (i := 4) rfl)) (hw _ (List.mem_of_getElem? (i := 3) rfl)) (by decide) (by decide)) (g := (mkF m 57 #[.val (.int p1), .val (.int k), .val (.int k), .val (.int (k ||| (32 : Int32))), .val (.int (own_let (k ||| (32 : Int32)))), .val (.int (own_st (k ||| (32 : Int32)) k))] [(.int k)])) rfl (by rw [hml]; rfl) (argsL := [(.int k)]) (rest := []) (lenOf pd_0 rfl) rfl (by show 2 * 0 + _ ≤ _; exact Nat.le_of_eq rfl) (hb hby at_57) (fun _ _ => ⟨rfl, e0, (by decide : 0 + 0 ≤ _), (by decide : 0 + 0 ≤ _)⟩)
  dsimp only [Pt.U, Pt.locs, Pt.cells, Pt.slots] at X2 l2 y2 z2 st2 hQ2
  subst l2 y2 z2
  obtain ⟨rfl, N2q, q2⟩ := hQ2
  have N2 := Fr.app N0 N2q
  have hj : Steps p.tables e below (s₁.setTop (mkF m 0 #[.val (.int p1), .unset, .unset, .unset, .unset, .unset] [])) (s₁.setTop (mkF m 57 #[.val (.int p1), .val (.int k), .val (.int k), .val (.int (k ||| (32 : Int32))), .val (.int (own_let (k ||| (32 : Int32)))), .val (.int (own_st (k ||| (32 : Int32)) k))] [(.int k)])) := by
    show Steps p.tables e below (s₁.setTop (mkF m 0 #[.val (.int p1), .unset, .unset, .unset, .unset, .unset] [])) _
    refine XS.iloadN X0.here hx rfl (hb hby at_0) rfl ?_
    show Steps p.tables e below (s₁.setTop (mkF m 1 #[.val (.int p1), .unset, .unset, .unset, .unset, .unset] [(.int p1)])) _
    refine X0.ldcInt hx hown (mvT hZ (hw _ (List.mem_of_getElem? (i := 0) rfl))) (g := (mkF m 1 #[.val (.int p1), .unset, .unset, .unset, .unset, .unset] [(.int p1)])) rfl (hb hby at_1) _ ?_
    show Steps p.tables e below (s₁.setTop (mkF m 3 #[.val (.int p1), .unset, .unset, .unset, .unset, .unset] [(.int (65535 : Int32)), (.int p1)])) _
    refine XS.iand X0.here hx rfl (hb hby at_3) rfl ?_
    show Steps p.tables e below (s₁.setTop (mkF m 4 #[.val (.int p1), .unset, .unset, .unset, .unset, .unset] [(.int (p1 &&& (65535 : Int32)))])) _
    rw [← hk]
    show Steps p.tables e below (s₁.setTop (mkF m 4 #[.val (.int p1), .unset, .unset, .unset, .unset, .unset] [(.int k)])) _
    refine XS.istoreN X0.here hx rfl (hb hby at_4) rfl (l' := #[.val (.int p1), .val (.int k), .unset, .unset, .unset, .unset]) rfl ?_
    show Steps p.tables e below (s₁.setTop (mkF m 5 #[.val (.int p1), .val (.int k), .unset, .unset, .unset, .unset] [])) _
    refine XS.iloadN X0.here hx rfl (hb hby at_5) rfl ?_
    show Steps p.tables e below (s₁.setTop (mkF m 6 #[.val (.int p1), .val (.int k), .unset, .unset, .unset, .unset] [(.int k)])) _
    refine XS.i2c X0.here hx rfl (hb hby at_6) rfl ?_
    show Steps p.tables e below (s₁.setTop (mkF m 7 #[.val (.int p1), .val (.int k), .unset, .unset, .unset, .unset] [(.int (k.toUInt32.toUInt16.toUInt32.toInt32))])) _
    rw [hch]
    show Steps p.tables e below (s₁.setTop (mkF m 7 #[.val (.int p1), .val (.int k), .unset, .unset, .unset, .unset] [(.int k)])) _
    refine XS.istoreN X0.here hx rfl (hb hby at_7) rfl (l' := #[.val (.int p1), .val (.int k), .val (.int k), .unset, .unset, .unset]) rfl ?_
    show Steps p.tables e below (s₁.setTop (mkF m 8 #[.val (.int p1), .val (.int k), .val (.int k), .unset, .unset, .unset] [])) _
    refine XS.iloadN X0.here hx rfl (hb hby at_8) rfl ?_
    show Steps p.tables e below (s₁.setTop (mkF m 9 #[.val (.int p1), .val (.int k), .val (.int k), .unset, .unset, .unset] [(.int k)])) _
    refine XS.bipush X0.here hx rfl (hb hby at_9) ?_
    show Steps p.tables e below (s₁.setTop (mkF m 11 #[.val (.int p1), .val (.int k), .val (.int k), .unset, .unset, .unset] [(.int (32 : Int32)), (.int k)])) _
    refine XS.ior X0.here hx rfl (hb hby at_11) rfl ?_
    show Steps p.tables e below (s₁.setTop (mkF m 12 #[.val (.int p1), .val (.int k), .val (.int k), .unset, .unset, .unset] [(.int (k ||| (32 : Int32)))])) _
    refine XS.istoreN X0.here hx rfl (hb hby at_12) rfl (l' := #[.val (.int p1), .val (.int k), .val (.int k), .val (.int (k ||| (32 : Int32))), .unset, .unset]) rfl ?_
    show Steps p.tables e below (s₁.setTop (mkF m 13 #[.val (.int p1), .val (.int k), .val (.int k), .val (.int (k ||| (32 : Int32))), .unset, .unset] [])) _
    refine XS.iloadN X0.here hx rfl (hb hby at_13) rfl ?_
    show Steps p.tables e below (s₁.setTop (mkF m 14 #[.val (.int p1), .val (.int k), .val (.int k), .val (.int (k ||| (32 : Int32))), .unset, .unset] [(.int (k ||| (32 : Int32)))])) _
    refine XS.bipush X0.here hx rfl (hb hby at_14) ?_
    show Steps p.tables e below (s₁.setTop (mkF m 16 #[.val (.int p1), .val (.int k), .val (.int k), .val (.int (k ||| (32 : Int32))), .unset, .unset] [(.int (97 : Int32)), (.int (k ||| (32 : Int32)))])) _
    by_cases h16 : (k ||| (32 : Int32)).toInt < 97
    · refine XS.icmpYes X0.here hx rfl (pc0 := 16) (pc' := 29) rfl (hb hby at_16) rfl (tlt (show (k ||| (32 : Int32)) < (97 : Int32) from Int32.lt_iff_toInt_lt.mpr h16)).1 (by decide) (by decide) ?_
      show Steps p.tables e below (s₁.setTop (mkF m 29 #[.val (.int p1), .val (.int k), .val (.int k), .val (.int (k ||| (32 : Int32))), .unset, .unset] [])) _
      refine XS.iconst X0.here hx rfl (hb hby at_29) ?_
      show Steps p.tables e below (s₁.setTop (mkF m 30 #[.val (.int p1), .val (.int k), .val (.int k), .val (.int (k ||| (32 : Int32))), .unset, .unset] [(.int (0 : Int32))])) _
      refine XS.istore X0.here hx rfl (hb hby at_30) rfl (l' := #[.val (.int p1), .val (.int k), .val (.int k), .val (.int (k ||| (32 : Int32))), .val (.int (0 : Int32)), .unset]) rfl ?_
      show Steps p.tables e below (s₁.setTop (mkF m 32 #[.val (.int p1), .val (.int k), .val (.int k), .val (.int (k ||| (32 : Int32))), .val (.int (0 : Int32)), .unset] [])) _
      refine XS.iload X0.here hx rfl (hb hby at_32) rfl ?_
      show Steps p.tables e below (s₁.setTop (mkF m 34 #[.val (.int p1), .val (.int k), .val (.int k), .val (.int (k ||| (32 : Int32))), .val (.int (0 : Int32)), .unset] [(.int (0 : Int32))])) _
      refine XS.ifNo X0.here hx rfl (hb hby at_34) rfl ((if0 _ _).trans (teq (by decide)).2) ?_
      show Steps p.tables e below (s₁.setTop (mkF m 37 #[.val (.int p1), .val (.int k), .val (.int k), .val (.int (k ||| (32 : Int32))), .val (.int (0 : Int32)), .unset] [])) _
      refine XS.iloadN X0.here hx rfl (hb hby at_37) rfl ?_
      show Steps p.tables e below (s₁.setTop (mkF m 38 #[.val (.int p1), .val (.int k), .val (.int k), .val (.int (k ||| (32 : Int32))), .val (.int (0 : Int32)), .unset] [(.int k)])) _
      refine XS.bipush X0.here hx rfl (hb hby at_38) ?_
      show Steps p.tables e below (s₁.setTop (mkF m 40 #[.val (.int p1), .val (.int k), .val (.int k), .val (.int (k ||| (32 : Int32))), .val (.int (0 : Int32)), .unset] [(.int (95 : Int32)), (.int k)])) _
      by_cases h40 : k.toInt = 95
      · refine XS.icmpYes X0.here hx rfl (pc0 := 40) (pc' := 49) rfl (hb hby at_40) rfl (teq (show k = (95 : Int32) from Int32.toInt_inj.mp h40)).1 (by decide) (by decide) ?_
        show Steps p.tables e below (s₁.setTop (mkF m 49 #[.val (.int p1), .val (.int k), .val (.int k), .val (.int (k ||| (32 : Int32))), .val (.int (0 : Int32)), .unset] [])) _
        refine XS.iconst X0.here hx rfl (hb hby at_49) ?_
        show Steps p.tables e below (s₁.setTop (mkF m 50 #[.val (.int p1), .val (.int k), .val (.int k), .val (.int (k ||| (32 : Int32))), .val (.int (0 : Int32)), .unset] [(.int (1 : Int32))])) _
        refine XS.goto X0.here hx rfl (pc0 := 50) (pc' := 54) rfl (hb hby at_50) (by decide) (by decide) ?_
        show Steps p.tables e below (s₁.setTop (mkF m 54 #[.val (.int p1), .val (.int k), .val (.int k), .val (.int (k ||| (32 : Int32))), .val (.int (0 : Int32)), .unset] [(.int (1 : Int32))])) _
        refine XS.istore X0.here hx rfl (hb hby at_54) rfl (l' := #[.val (.int p1), .val (.int k), .val (.int k), .val (.int (k ||| (32 : Int32))), .val (.int (0 : Int32)), .val (.int (1 : Int32))]) rfl ?_
        show Steps p.tables e below (s₁.setTop (mkF m 56 #[.val (.int p1), .val (.int k), .val (.int k), .val (.int (k ||| (32 : Int32))), .val (.int (0 : Int32)), .val (.int (1 : Int32))] [])) _
        refine XS.iloadN X0.here hx rfl (hb hby at_56) rfl ?_
        show Steps p.tables e below (s₁.setTop (mkF m 57 #[.val (.int p1), .val (.int k), .val (.int k), .val (.int (k ||| (32 : Int32))), .val (.int (0 : Int32)), .val (.int (1 : Int32))] [(.int k)])) _
        have g4 : own_let (k ||| (32 : Int32)) = (0 : Int32) := own_let0 (by omega)
        have g5 : own_st (k ||| (32 : Int32)) k = (1 : Int32) := own_st1 (by omega)
        rw [g4, g5]
        exact Steps.refl _
      · refine XS.icmpNo X0.here hx rfl (hb hby at_40) rfl (feq (fun q : k = (95 : Int32) => h40 (Int32.toInt_inj.mpr q))).1 ?_
        show Steps p.tables e below (s₁.setTop (mkF m 43 #[.val (.int p1), .val (.int k), .val (.int k), .val (.int (k ||| (32 : Int32))), .val (.int (0 : Int32)), .unset] [])) _
        refine XS.iloadN X0.here hx rfl (hb hby at_43) rfl ?_
        show Steps p.tables e below (s₁.setTop (mkF m 44 #[.val (.int p1), .val (.int k), .val (.int k), .val (.int (k ||| (32 : Int32))), .val (.int (0 : Int32)), .unset] [(.int k)])) _
        refine XS.bipush X0.here hx rfl (hb hby at_44) ?_
        show Steps p.tables e below (s₁.setTop (mkF m 46 #[.val (.int p1), .val (.int k), .val (.int k), .val (.int (k ||| (32 : Int32))), .val (.int (0 : Int32)), .unset] [(.int (36 : Int32)), (.int k)])) _
        by_cases h46 : k.toInt = 36
        · refine XS.icmpNo X0.here hx rfl (hb hby at_46) rfl (teq (show k = (36 : Int32) from Int32.toInt_inj.mp h46)).2 ?_
          show Steps p.tables e below (s₁.setTop (mkF m 49 #[.val (.int p1), .val (.int k), .val (.int k), .val (.int (k ||| (32 : Int32))), .val (.int (0 : Int32)), .unset] [])) _
          refine XS.iconst X0.here hx rfl (hb hby at_49) ?_
          show Steps p.tables e below (s₁.setTop (mkF m 50 #[.val (.int p1), .val (.int k), .val (.int k), .val (.int (k ||| (32 : Int32))), .val (.int (0 : Int32)), .unset] [(.int (1 : Int32))])) _
          refine XS.goto X0.here hx rfl (pc0 := 50) (pc' := 54) rfl (hb hby at_50) (by decide) (by decide) ?_
          show Steps p.tables e below (s₁.setTop (mkF m 54 #[.val (.int p1), .val (.int k), .val (.int k), .val (.int (k ||| (32 : Int32))), .val (.int (0 : Int32)), .unset] [(.int (1 : Int32))])) _
          refine XS.istore X0.here hx rfl (hb hby at_54) rfl (l' := #[.val (.int p1), .val (.int k), .val (.int k), .val (.int (k ||| (32 : Int32))), .val (.int (0 : Int32)), .val (.int (1 : Int32))]) rfl ?_
          show Steps p.tables e below (s₁.setTop (mkF m 56 #[.val (.int p1), .val (.int k), .val (.int k), .val (.int (k ||| (32 : Int32))), .val (.int (0 : Int32)), .val (.int (1 : Int32))] [])) _
          refine XS.iloadN X0.here hx rfl (hb hby at_56) rfl ?_
          show Steps p.tables e below (s₁.setTop (mkF m 57 #[.val (.int p1), .val (.int k), .val (.int k), .val (.int (k ||| (32 : Int32))), .val (.int (0 : Int32)), .val (.int (1 : Int32))] [(.int k)])) _
          have g4 : own_let (k ||| (32 : Int32)) = (0 : Int32) := own_let0 (by omega)
          have g5 : own_st (k ||| (32 : Int32)) k = (1 : Int32) := own_st1 (by omega)
          rw [g4, g5]
          exact Steps.refl _
        · refine XS.icmpYes X0.here hx rfl (pc0 := 46) (pc' := 53) rfl (hb hby at_46) rfl (feq (fun q : k = (36 : Int32) => h46 (Int32.toInt_inj.mpr q))).2 (by decide) (by decide) ?_
          show Steps p.tables e below (s₁.setTop (mkF m 53 #[.val (.int p1), .val (.int k), .val (.int k), .val (.int (k ||| (32 : Int32))), .val (.int (0 : Int32)), .unset] [])) _
          refine XS.iconst X0.here hx rfl (hb hby at_53) ?_
          show Steps p.tables e below (s₁.setTop (mkF m 54 #[.val (.int p1), .val (.int k), .val (.int k), .val (.int (k ||| (32 : Int32))), .val (.int (0 : Int32)), .unset] [(.int (0 : Int32))])) _
          refine XS.istore X0.here hx rfl (hb hby at_54) rfl (l' := #[.val (.int p1), .val (.int k), .val (.int k), .val (.int (k ||| (32 : Int32))), .val (.int (0 : Int32)), .val (.int (0 : Int32))]) rfl ?_
          show Steps p.tables e below (s₁.setTop (mkF m 56 #[.val (.int p1), .val (.int k), .val (.int k), .val (.int (k ||| (32 : Int32))), .val (.int (0 : Int32)), .val (.int (0 : Int32))] [])) _
          refine XS.iloadN X0.here hx rfl (hb hby at_56) rfl ?_
          show Steps p.tables e below (s₁.setTop (mkF m 57 #[.val (.int p1), .val (.int k), .val (.int k), .val (.int (k ||| (32 : Int32))), .val (.int (0 : Int32)), .val (.int (0 : Int32))] [(.int k)])) _
          have g4 : own_let (k ||| (32 : Int32)) = (0 : Int32) := own_let0 (by omega)
          have g5 : own_st (k ||| (32 : Int32)) k = (0 : Int32) := own_st0 (by omega)
          rw [g4, g5]
          exact Steps.refl _
    · refine XS.icmpNo X0.here hx rfl (hb hby at_16) rfl (flt (fun q : (k ||| (32 : Int32)) < (97 : Int32) => h16 (Int32.lt_iff_toInt_lt.mp q))).1 ?_
      show Steps p.tables e below (s₁.setTop (mkF m 19 #[.val (.int p1), .val (.int k), .val (.int k), .val (.int (k ||| (32 : Int32))), .unset, .unset] [])) _
      refine XS.iloadN X0.here hx rfl (hb hby at_19) rfl ?_
      show Steps p.tables e below (s₁.setTop (mkF m 20 #[.val (.int p1), .val (.int k), .val (.int k), .val (.int (k ||| (32 : Int32))), .unset, .unset] [(.int (k ||| (32 : Int32)))])) _
      refine XS.bipush X0.here hx rfl (hb hby at_20) ?_
      show Steps p.tables e below (s₁.setTop (mkF m 22 #[.val (.int p1), .val (.int k), .val (.int k), .val (.int (k ||| (32 : Int32))), .unset, .unset] [(.int (122 : Int32)), (.int (k ||| (32 : Int32)))])) _
      by_cases h22 : 122 < (k ||| (32 : Int32)).toInt
      · refine XS.icmpYes X0.here hx rfl (pc0 := 22) (pc' := 29) rfl (hb hby at_22) rfl (tlt (show (122 : Int32) < (k ||| (32 : Int32)) from Int32.lt_iff_toInt_lt.mpr h22)).2.2.1 (by decide) (by decide) ?_
        show Steps p.tables e below (s₁.setTop (mkF m 29 #[.val (.int p1), .val (.int k), .val (.int k), .val (.int (k ||| (32 : Int32))), .unset, .unset] [])) _
        refine XS.iconst X0.here hx rfl (hb hby at_29) ?_
        show Steps p.tables e below (s₁.setTop (mkF m 30 #[.val (.int p1), .val (.int k), .val (.int k), .val (.int (k ||| (32 : Int32))), .unset, .unset] [(.int (0 : Int32))])) _
        refine XS.istore X0.here hx rfl (hb hby at_30) rfl (l' := #[.val (.int p1), .val (.int k), .val (.int k), .val (.int (k ||| (32 : Int32))), .val (.int (0 : Int32)), .unset]) rfl ?_
        show Steps p.tables e below (s₁.setTop (mkF m 32 #[.val (.int p1), .val (.int k), .val (.int k), .val (.int (k ||| (32 : Int32))), .val (.int (0 : Int32)), .unset] [])) _
        refine XS.iload X0.here hx rfl (hb hby at_32) rfl ?_
        show Steps p.tables e below (s₁.setTop (mkF m 34 #[.val (.int p1), .val (.int k), .val (.int k), .val (.int (k ||| (32 : Int32))), .val (.int (0 : Int32)), .unset] [(.int (0 : Int32))])) _
        refine XS.ifNo X0.here hx rfl (hb hby at_34) rfl ((if0 _ _).trans (teq (by decide)).2) ?_
        show Steps p.tables e below (s₁.setTop (mkF m 37 #[.val (.int p1), .val (.int k), .val (.int k), .val (.int (k ||| (32 : Int32))), .val (.int (0 : Int32)), .unset] [])) _
        refine XS.iloadN X0.here hx rfl (hb hby at_37) rfl ?_
        show Steps p.tables e below (s₁.setTop (mkF m 38 #[.val (.int p1), .val (.int k), .val (.int k), .val (.int (k ||| (32 : Int32))), .val (.int (0 : Int32)), .unset] [(.int k)])) _
        refine XS.bipush X0.here hx rfl (hb hby at_38) ?_
        show Steps p.tables e below (s₁.setTop (mkF m 40 #[.val (.int p1), .val (.int k), .val (.int k), .val (.int (k ||| (32 : Int32))), .val (.int (0 : Int32)), .unset] [(.int (95 : Int32)), (.int k)])) _
        by_cases h40 : k.toInt = 95
        · refine XS.icmpYes X0.here hx rfl (pc0 := 40) (pc' := 49) rfl (hb hby at_40) rfl (teq (show k = (95 : Int32) from Int32.toInt_inj.mp h40)).1 (by decide) (by decide) ?_
          show Steps p.tables e below (s₁.setTop (mkF m 49 #[.val (.int p1), .val (.int k), .val (.int k), .val (.int (k ||| (32 : Int32))), .val (.int (0 : Int32)), .unset] [])) _
          refine XS.iconst X0.here hx rfl (hb hby at_49) ?_
          show Steps p.tables e below (s₁.setTop (mkF m 50 #[.val (.int p1), .val (.int k), .val (.int k), .val (.int (k ||| (32 : Int32))), .val (.int (0 : Int32)), .unset] [(.int (1 : Int32))])) _
          refine XS.goto X0.here hx rfl (pc0 := 50) (pc' := 54) rfl (hb hby at_50) (by decide) (by decide) ?_
          show Steps p.tables e below (s₁.setTop (mkF m 54 #[.val (.int p1), .val (.int k), .val (.int k), .val (.int (k ||| (32 : Int32))), .val (.int (0 : Int32)), .unset] [(.int (1 : Int32))])) _
          refine XS.istore X0.here hx rfl (hb hby at_54) rfl (l' := #[.val (.int p1), .val (.int k), .val (.int k), .val (.int (k ||| (32 : Int32))), .val (.int (0 : Int32)), .val (.int (1 : Int32))]) rfl ?_
          show Steps p.tables e below (s₁.setTop (mkF m 56 #[.val (.int p1), .val (.int k), .val (.int k), .val (.int (k ||| (32 : Int32))), .val (.int (0 : Int32)), .val (.int (1 : Int32))] [])) _
          refine XS.iloadN X0.here hx rfl (hb hby at_56) rfl ?_
          show Steps p.tables e below (s₁.setTop (mkF m 57 #[.val (.int p1), .val (.int k), .val (.int k), .val (.int (k ||| (32 : Int32))), .val (.int (0 : Int32)), .val (.int (1 : Int32))] [(.int k)])) _
          have g4 : own_let (k ||| (32 : Int32)) = (0 : Int32) := own_let0 (by omega)
          have g5 : own_st (k ||| (32 : Int32)) k = (1 : Int32) := own_st1 (by omega)
          rw [g4, g5]
          exact Steps.refl _
        · refine XS.icmpNo X0.here hx rfl (hb hby at_40) rfl (feq (fun q : k = (95 : Int32) => h40 (Int32.toInt_inj.mpr q))).1 ?_
          show Steps p.tables e below (s₁.setTop (mkF m 43 #[.val (.int p1), .val (.int k), .val (.int k), .val (.int (k ||| (32 : Int32))), .val (.int (0 : Int32)), .unset] [])) _
          refine XS.iloadN X0.here hx rfl (hb hby at_43) rfl ?_
          show Steps p.tables e below (s₁.setTop (mkF m 44 #[.val (.int p1), .val (.int k), .val (.int k), .val (.int (k ||| (32 : Int32))), .val (.int (0 : Int32)), .unset] [(.int k)])) _
          refine XS.bipush X0.here hx rfl (hb hby at_44) ?_
          show Steps p.tables e below (s₁.setTop (mkF m 46 #[.val (.int p1), .val (.int k), .val (.int k), .val (.int (k ||| (32 : Int32))), .val (.int (0 : Int32)), .unset] [(.int (36 : Int32)), (.int k)])) _
          by_cases h46 : k.toInt = 36
          · refine XS.icmpNo X0.here hx rfl (hb hby at_46) rfl (teq (show k = (36 : Int32) from Int32.toInt_inj.mp h46)).2 ?_
            show Steps p.tables e below (s₁.setTop (mkF m 49 #[.val (.int p1), .val (.int k), .val (.int k), .val (.int (k ||| (32 : Int32))), .val (.int (0 : Int32)), .unset] [])) _
            refine XS.iconst X0.here hx rfl (hb hby at_49) ?_
            show Steps p.tables e below (s₁.setTop (mkF m 50 #[.val (.int p1), .val (.int k), .val (.int k), .val (.int (k ||| (32 : Int32))), .val (.int (0 : Int32)), .unset] [(.int (1 : Int32))])) _
            refine XS.goto X0.here hx rfl (pc0 := 50) (pc' := 54) rfl (hb hby at_50) (by decide) (by decide) ?_
            show Steps p.tables e below (s₁.setTop (mkF m 54 #[.val (.int p1), .val (.int k), .val (.int k), .val (.int (k ||| (32 : Int32))), .val (.int (0 : Int32)), .unset] [(.int (1 : Int32))])) _
            refine XS.istore X0.here hx rfl (hb hby at_54) rfl (l' := #[.val (.int p1), .val (.int k), .val (.int k), .val (.int (k ||| (32 : Int32))), .val (.int (0 : Int32)), .val (.int (1 : Int32))]) rfl ?_
            show Steps p.tables e below (s₁.setTop (mkF m 56 #[.val (.int p1), .val (.int k), .val (.int k), .val (.int (k ||| (32 : Int32))), .val (.int (0 : Int32)), .val (.int (1 : Int32))] [])) _
            refine XS.iloadN X0.here hx rfl (hb hby at_56) rfl ?_
            show Steps p.tables e below (s₁.setTop (mkF m 57 #[.val (.int p1), .val (.int k), .val (.int k), .val (.int (k ||| (32 : Int32))), .val (.int (0 : Int32)), .val (.int (1 : Int32))] [(.int k)])) _
            have g4 : own_let (k ||| (32 : Int32)) = (0 : Int32) := own_let0 (by omega)
            have g5 : own_st (k ||| (32 : Int32)) k = (1 : Int32) := own_st1 (by omega)
            rw [g4, g5]
            exact Steps.refl _
          · refine XS.icmpYes X0.here hx rfl (pc0 := 46) (pc' := 53) rfl (hb hby at_46) rfl (feq (fun q : k = (36 : Int32) => h46 (Int32.toInt_inj.mpr q))).2 (by decide) (by decide) ?_
            show Steps p.tables e below (s₁.setTop (mkF m 53 #[.val (.int p1), .val (.int k), .val (.int k), .val (.int (k ||| (32 : Int32))), .val (.int (0 : Int32)), .unset] [])) _
            refine XS.iconst X0.here hx rfl (hb hby at_53) ?_
            show Steps p.tables e below (s₁.setTop (mkF m 54 #[.val (.int p1), .val (.int k), .val (.int k), .val (.int (k ||| (32 : Int32))), .val (.int (0 : Int32)), .unset] [(.int (0 : Int32))])) _
            refine XS.istore X0.here hx rfl (hb hby at_54) rfl (l' := #[.val (.int p1), .val (.int k), .val (.int k), .val (.int (k ||| (32 : Int32))), .val (.int (0 : Int32)), .val (.int (0 : Int32))]) rfl ?_
            show Steps p.tables e below (s₁.setTop (mkF m 56 #[.val (.int p1), .val (.int k), .val (.int k), .val (.int (k ||| (32 : Int32))), .val (.int (0 : Int32)), .val (.int (0 : Int32))] [])) _
            refine XS.iloadN X0.here hx rfl (hb hby at_56) rfl ?_
            show Steps p.tables e below (s₁.setTop (mkF m 57 #[.val (.int p1), .val (.int k), .val (.int k), .val (.int (k ||| (32 : Int32))), .val (.int (0 : Int32)), .val (.int (0 : Int32))] [(.int k)])) _
            have g4 : own_let (k ||| (32 : Int32)) = (0 : Int32) := own_let0 (by omega)
            have g5 : own_st (k ||| (32 : Int32)) k = (0 : Int32) := own_st0 (by omega)
            rw [g4, g5]
            exact Steps.refl _
      · refine XS.icmpNo X0.here hx rfl (hb hby at_22) rfl (flt (fun q : (122 : Int32) < (k ||| (32 : Int32)) => h22 (Int32.lt_iff_toInt_lt.mp q))).2.2.1 ?_
        show Steps p.tables e below (s₁.setTop (mkF m 25 #[.val (.int p1), .val (.int k), .val (.int k), .val (.int (k ||| (32 : Int32))), .unset, .unset] [])) _
        refine XS.iconst X0.here hx rfl (hb hby at_25) ?_
        show Steps p.tables e below (s₁.setTop (mkF m 26 #[.val (.int p1), .val (.int k), .val (.int k), .val (.int (k ||| (32 : Int32))), .unset, .unset] [(.int (1 : Int32))])) _
        refine XS.goto X0.here hx rfl (pc0 := 26) (pc' := 30) rfl (hb hby at_26) (by decide) (by decide) ?_
        show Steps p.tables e below (s₁.setTop (mkF m 30 #[.val (.int p1), .val (.int k), .val (.int k), .val (.int (k ||| (32 : Int32))), .unset, .unset] [(.int (1 : Int32))])) _
        refine XS.istore X0.here hx rfl (hb hby at_30) rfl (l' := #[.val (.int p1), .val (.int k), .val (.int k), .val (.int (k ||| (32 : Int32))), .val (.int (1 : Int32)), .unset]) rfl ?_
        show Steps p.tables e below (s₁.setTop (mkF m 32 #[.val (.int p1), .val (.int k), .val (.int k), .val (.int (k ||| (32 : Int32))), .val (.int (1 : Int32)), .unset] [])) _
        refine XS.iload X0.here hx rfl (hb hby at_32) rfl ?_
        show Steps p.tables e below (s₁.setTop (mkF m 34 #[.val (.int p1), .val (.int k), .val (.int k), .val (.int (k ||| (32 : Int32))), .val (.int (1 : Int32)), .unset] [(.int (1 : Int32))])) _
        refine XS.ifYes X0.here hx rfl (pc0 := 34) (pc' := 49) rfl (hb hby at_34) rfl ((if0 _ _).trans (feq (by decide)).2) (by decide) (by decide) ?_
        show Steps p.tables e below (s₁.setTop (mkF m 49 #[.val (.int p1), .val (.int k), .val (.int k), .val (.int (k ||| (32 : Int32))), .val (.int (1 : Int32)), .unset] [])) _
        refine XS.iconst X0.here hx rfl (hb hby at_49) ?_
        show Steps p.tables e below (s₁.setTop (mkF m 50 #[.val (.int p1), .val (.int k), .val (.int k), .val (.int (k ||| (32 : Int32))), .val (.int (1 : Int32)), .unset] [(.int (1 : Int32))])) _
        refine XS.goto X0.here hx rfl (pc0 := 50) (pc' := 54) rfl (hb hby at_50) (by decide) (by decide) ?_
        show Steps p.tables e below (s₁.setTop (mkF m 54 #[.val (.int p1), .val (.int k), .val (.int k), .val (.int (k ||| (32 : Int32))), .val (.int (1 : Int32)), .unset] [(.int (1 : Int32))])) _
        refine XS.istore X0.here hx rfl (hb hby at_54) rfl (l' := #[.val (.int p1), .val (.int k), .val (.int k), .val (.int (k ||| (32 : Int32))), .val (.int (1 : Int32)), .val (.int (1 : Int32))]) rfl ?_
        show Steps p.tables e below (s₁.setTop (mkF m 56 #[.val (.int p1), .val (.int k), .val (.int k), .val (.int (k ||| (32 : Int32))), .val (.int (1 : Int32)), .val (.int (1 : Int32))] [])) _
        refine XS.iloadN X0.here hx rfl (hb hby at_56) rfl ?_
        show Steps p.tables e below (s₁.setTop (mkF m 57 #[.val (.int p1), .val (.int k), .val (.int k), .val (.int (k ||| (32 : Int32))), .val (.int (1 : Int32)), .val (.int (1 : Int32))] [(.int k)])) _
        have g4 : own_let (k ||| (32 : Int32)) = (1 : Int32) := own_let1 (by omega)
        have g5 : own_st (k ||| (32 : Int32)) k = (1 : Int32) := own_st1 (by omega)
        rw [g4, g5]
        exact Steps.refl _
  obtain ⟨fs, hr, hrun, hended, hW, hsame⟩ := X2.leave (v := some (.int (1 : Int32))) (fun h => by rw [Bd.returns] at h; cases h)
  refine ⟨_, _, pre0 _ ?_, hrun, hended, _, _, rfl, ?_, ⟨_, rfl⟩, hW, hsame.mono (by decide) (by decide)⟩
  · refine hj.trans ?_
    show Steps p.tables e below (s₁.setTop (mkF m 57 #[.val (.int p1), .val (.int k), .val (.int k), .val (.int (k ||| (32 : Int32))), .val (.int (own_let (k ||| (32 : Int32)))), .val (.int (own_st (k ||| (32 : Int32)) k))] [(.int k)])) _
    refine st2 _ ?_
    show Steps p.tables e below (T2.setTop (mkF m 60 #[.val (.int p1), .val (.int k), .val (.int k), .val (.int (k ||| (32 : Int32))), .val (.int (own_let (k ||| (32 : Int32)))), .val (.int (own_st (k ||| (32 : Int32)) k))] [(.int (own_nm k))])) _
    refine XS.iload X2.here hx rfl (hb hby at_60) rfl ?_
    show Steps p.tables e below (T2.setTop (mkF m 62 #[.val (.int p1), .val (.int k), .val (.int k), .val (.int (k ||| (32 : Int32))), .val (.int (own_let (k ||| (32 : Int32)))), .val (.int (own_st (k ||| (32 : Int32)) k))] [(.int (own_st (k ||| (32 : Int32)) k)), (.int (own_nm k))])) _
    refine XS.icmpNo X2.here hx rfl (hb hby at_62) rfl (teq hsm).2 ?_
    show Steps p.tables e below (T2.setTop (mkF m 65 #[.val (.int p1), .val (.int k), .val (.int k), .val (.int (k ||| (32 : Int32))), .val (.int (own_let (k ||| (32 : Int32)))), .val (.int (own_st (k ||| (32 : Int32)) k))] [])) _
    refine XS.iconst X2.here hx rfl (hb hby at_65) ?_
    show Steps p.tables e below (T2.setTop (mkF m 66 #[.val (.int p1), .val (.int k), .val (.int k), .val (.int (k ||| (32 : Int32))), .val (.int (own_let (k ||| (32 : Int32)))), .val (.int (own_st (k ||| (32 : Int32)) k))] [(.int (1 : Int32))])) _
    refine XS.goto X2.here hx rfl (pc0 := 66) (pc' := 70) rfl (hb hby at_66) (by decide) (by decide) ?_
    show Steps p.tables e below (T2.setTop (mkF m 70 #[.val (.int p1), .val (.int k), .val (.int k), .val (.int (k ||| (32 : Int32))), .val (.int (own_let (k ||| (32 : Int32)))), .val (.int (own_st (k ||| (32 : Int32)) k))] [(.int (1 : Int32))])) _
    exact retN X2 hx (t := .boolean) Bd.returns (by simp) (hb hby at_70) hr
  · show Q0 Z p1 h0 n0 _ T2.heap _
    exact ⟨rfl, N2⟩
set_option maxRecDepth 65536 in
set_option maxHeartbeats 40000000 in
theorem comes_1 {Post : Tables → Env → Array Value → State → Outcome → State → Prop} (hpost : ∀ tb e args s v u, (limb_1_1.after args s (.returned v) u = true ∧ limb_1_2.after args s (.returned v) u = true ∧ True) → FrameEnd s (.returned v) u (Jvm.fieldLocs frame_1_writes args s ++ Jvm.arrayLocs frame_1_arrays args s ++ Jvm.staticLocs frame_1_statics s) 0 0 → Post tb e args s (.returned v) u) :
    ArmFor flags0 classFile x code maxLocals ret World_1 tables_1 room_1 Calls_1 rest_1 Pre_1 Post := by
  intro l hfl _ _ p e ha hc hk s m args below hf hA hF happ hP
  obtain ⟨hcalls, hrest, hpre⟩ := hP
  obtain ⟨-, -, -, hnamed, -, -, -, hat⟩ := (Spec.applies_iff hf).mp happ
  obtain ⟨hg, hn⟩ := and_e (Cond.before_iff.mp (show (Jvm.Cond.and given_1 narrow_1).before args s = true from hpre))
  obtain ⟨gc, gr0⟩ := and_e hg
  obtain ⟨w0, rfl⟩ : ∃ w0 : Value, args = #[w0] := by
    have hs : args.size = 1 := by simpa [Cond.value, given_1] using gc
    obtain ⟨L⟩ := args
    match L, hs with
    | [w0], _ => exact ⟨w0, rfl⟩
  have hw := fun d (hd : d ∈ tables_1) => atoms_spec (ws := Jvm.Cond.code x code maxLocals ret :: tables_1) hat d (List.mem_cons_of_mem _ hd)
  obtain ⟨i0, ei0⟩ := is_v gr0
  obtain rfl : w0 = (.int i0) := Option.some.inj ei0
  obtain ⟨n, o, h1, h2, h3, _, L, rfl, ⟨rfl, N⟩, hq⟩ := rm0 l s _ hw tables_1 i0 s.heap s.heap.size (Nat.le_refl _) p e ha hc hk s m _ below hf ((Spec.applies_iff_loose hf).mp happ).1 ⟨rfl, State.Warmed39.refl s, rfl⟩ trivial
  refine ⟨n, _, h1, h2, h3, hpost _ _ _ _ _ _ ⟨Cond.after_iff.mpr rfl, Cond.after_iff.mpr (eq_i res_at (Term.int_eval (1)) rfl), trivial⟩ ⟨hq.1, hq.2.1, (hq.2.2.sift fun y hy => Or.inr (N y hy)).mono (by decide) (by decide)⟩⟩
theorem main_1_1 : Claimed_1_1 := comes_1 fun _ _ _ _ _ _ h hF => ⟨h.1, hF⟩
theorem main_1_2 : Claimed_1_2 := comes_1 fun _ _ _ _ _ _ h hF => ⟨h.2.1, hF⟩
end Jvm.Pilot.@@N@@
namespace Jvm.Pilot.@@N@@
open Jvm Jvm.ClassFile Sem Op Lib Jvm.Free Jvm.Stand Jvm.Pilot.@@N@@.Jvm.D
/-! MADE BY PROGRAM (witnessworld.py) out of the Statement's table words and the real class files: 9 classes; the members and pool entries that the words name. The judged class is class 1, her method 1. -/
namespace start1
open Jvm.ClassFile
def u (s : String) : CpInfo := .utf8 (stringToUtf16 s)
/-- a pool by its gaps: so many unusable entries, then the entry; so many at the end -/
def gap : Nat → List CpInfo → List CpInfo
  | 0, r => r
  | n + 1, r => .unusable :: gap n r
def poolList (es : List (Nat × CpInfo)) (last : Nat) : List CpInfo := es.foldr (fun e r => gap e.1 (e.2 :: r)) (gap last [])
def pool (es : List (Nat × CpInfo)) (last : Nat) : Array CpInfo := ⟨poolList es last⟩
def fileOf (pool : Array CpInfo) (this : Nat) (attrs : Array Attribute := #[]) (ms : Array MethodInfo := #[]) (fl : Nat := 33) (sup : Nat := 0) (ifs : Array Nat := #[]) (fds : Array FieldInfo := #[]) : ClassFile where
  minorVersion := 0
  majorVersion := 65
  constantPool := pool
  accessFlags := fl
  thisClass := this
  superClass := sup
  interfaces := ifs
  fields := fds
  methods := ms
  attributes := attrs
def plain (name : String) (sup : Option ClassId) : Class where
  name := name
  kind := .ordinary
  loader := none
  accessFlags := 33
  super := sup
  interfaces := #[]
  cf := none
  fields := #[]
  methods := #[]
  instanceTypes := #[]
  staticTypes := #[]
  resolved := #[]
  callSites := []
  init := .initialized
  statics := none
  mirror := none

def pool0 : Array CpInfo := pool [(5, u "<init>"), (0, u "()V"), (1, .class_ 10), (1, u "java/lang/Object")] 113

def k0m0 : Method := { name := "<init>", desc := "()V", sig := { parameters := [], returnType := none }, accessFlags := 1, code := none }
/-- java/lang/Object -/
def k0 : Class := { plain "java/lang/Object" none with
  accessFlags := 33
  interfaces := #[]
  cf := some (fileOf pool0 8 #[] #[{ accessFlags := 1, nameIndex := 5, descriptorIndex := 6, attributes := #[] }] 33 0 #[] #[])
  fields := #[]
  methods := #[k0m0]
  instanceTypes := #[]
  staticTypes := #[]
  resolved := Array.replicate 124 none
  statics := none }

def pool1 : Array CpInfo := pool [(2, .class_ 4), (1, u "java/lang/Object"), (0, u "<init>"), (0, u "()V"), (0, .integer 65535), (0, .methodref 9 10), (0, .class_ 11), (0, .nameAndType 12 13), (0, u "com/example/hidex/hidex/lang/Names"), (0, u "isNameStart"), (0, u "(C)Z"), (0, .class_ 15), (0, u "com/example/hidex/hidex/lang/NamesIsNameStartPinLaw"), (2, u "law"), (0, u "(I)Z")] 3

def k1m0 : Method := { name := "<init>", desc := "()V", sig := { parameters := [], returnType := none }, accessFlags := 2, code := none }
def k1c1 : Code := { maxStack := 2, maxLocals := 6, code := code, exceptionTable := #[], attributes := #[] }
def k1m1 : Method := { name := "law", desc := "(I)Z", sig := { parameters := [.int], returnType := some .boolean }, accessFlags := 9, code := some k1c1 }
/-- com/example/hidex/hidex/lang/NamesIsNameStartPinLaw -/
def k1 : Class := { plain "com/example/hidex/hidex/lang/NamesIsNameStartPinLaw" (some 0) with
  accessFlags := 49
  interfaces := #[]
  cf := some (fileOf pool1 14 #[] #[{ accessFlags := 2, nameIndex := 5, descriptorIndex := 6, attributes := #[] }, { accessFlags := 9, nameIndex := 18, descriptorIndex := 19, attributes := #[] }] 49 2 #[] #[])
  fields := #[]
  methods := #[k1m0, k1m1]
  instanceTypes := #[]
  staticTypes := #[]
  resolved := Array.replicate 23 none
  statics := none }

def pool2 : Array CpInfo := pool [(2, .class_ 4), (1, u "java/lang/Object"), (0, u "<init>"), (0, u "()V"), (11, .class_ 20), (1, u "com/example/hidex/hidex/lang/Names"), (0, u "isNameStart"), (0, u "(C)Z")] 44

def k2m0 : Method := { name := "<init>", desc := "()V", sig := { parameters := [], returnType := none }, accessFlags := 2, code := none }
def k2c1 : Code := { maxStack := 2, maxLocals := 1, code := prog_20_method_3_code, exceptionTable := #[], attributes := #[] }
def k2m1 : Method := { name := "isNameStart", desc := "(C)Z", sig := { parameters := [.char], returnType := some .boolean }, accessFlags := 9, code := some k2c1 }
/-- com/example/hidex/hidex/lang/Names -/
def k2 : Class := { plain "com/example/hidex/hidex/lang/Names" (some 0) with
  accessFlags := 33
  interfaces := #[]
  cf := some (fileOf pool2 18 #[] #[{ accessFlags := 2, nameIndex := 5, descriptorIndex := 6, attributes := #[] }, { accessFlags := 9, nameIndex := 21, descriptorIndex := 22, attributes := #[] }] 33 2 #[] #[])
  fields := #[]
  methods := #[k2m0, k2m1]
  instanceTypes := #[]
  staticTypes := #[]
  resolved := Array.replicate 67 none
  statics := none }

def pool3 : Array CpInfo := pool [(1, u "java/lang/Cloneable"), (0, .class_ 1), (0, u "java/lang/Object"), (0, .class_ 3)] 3

/-- java/lang/Cloneable -/
def k3 : Class := { plain "java/lang/Cloneable" (some 0) with
  accessFlags := 1537
  interfaces := #[]
  cf := some (fileOf pool3 2 #[] #[] 1537 4 #[] #[])
  fields := #[]
  methods := #[]
  instanceTypes := #[]
  staticTypes := #[]
  resolved := Array.replicate 8 none
  statics := none }

def pool4 : Array CpInfo := pool [(1, u "java/io/Serializable"), (0, .class_ 1), (0, u "java/lang/Object"), (0, .class_ 3)] 3

/-- java/io/Serializable -/
def k4 : Class := { plain "java/io/Serializable" (some 0) with
  accessFlags := 1537
  interfaces := #[]
  cf := some (fileOf pool4 2 #[] #[] 1537 4 #[] #[])
  fields := #[]
  methods := #[]
  instanceTypes := #[]
  staticTypes := #[]
  resolved := Array.replicate 8 none
  statics := none }

/-- the primitive byte -/
def k5 : Class := { plain "byte" none with kind := .primitive 'B', accessFlags := 0x411 }
/-- [B -/
def k6 : Class := { plain "[B" (some 0) with kind := .array 5 .byte, interfaces := #[3, 4], accessFlags := 1041 }

/-- the primitive int -/
def k7 : Class := { plain "int" none with kind := .primitive 'I', accessFlags := 0x411 }
/-- [I -/
def k8 : Class := { plain "[I" (some 0) with kind := .array 7 .int, interfaces := #[3, 4], accessFlags := 1041 }

def heap : Heap := #[]
def classes : Array Class := #[k0, k1, k2, k3, k4, k5, k6, k7, k8]
def interned : List (Array UInt16 × Addr) := []
def slotsUsed : Nat := 0
def theMethod : MethodId := ⟨1, 1⟩
def args0 : Array Value := #[.int 5]
def aboutOver (below : List Frame) : State where
  vm := { classes := classes, interned := interned.toArray }
  heap := heap
  slotsUsed := slotsUsed
  threads := #[{ frames := .invoking theMethod args0 :: below }]
def below0 : List Frame := [.native { method := ⟨0, 0⟩, args := #[] }]
def about1 : State := aboutOver below0
def p0 : Program := .bare "" "" ""
def e0 : Env := launch0.env 0 0 0
theorem w_frames : about1.frames = Frame.invoking theMethod args0 :: below0 := rfl
set_option maxRecDepth 65536 in
theorem w_args : argsFit about1.vm theMethod args0 = true := by decide +kernel
set_option maxRecDepth 65536 in
theorem w_heap : heapFits about1 = true := by decide +kernel
set_option maxRecDepth 65536 in
theorem w_runnable : about1.curStatus? = some .runnable := by decide +kernel
set_option maxRecDepth 65536 in
theorem w_alone : about1.alone = true := by decide +kernel
set_option maxRecDepth 65536 in
theorem w_named : about1.methodNamed? x = some theMethod := by decide +kernel
set_option maxRecDepth 65536 in
theorem w_hears : about1.hears theMethod below0 = true := by decide +kernel
set_option maxRecDepth 65536 in
theorem w_ripe : about1.ripe theMethod args0 below0 = true := by decide +kernel
theorem w_running : about1.status = .running := rfl
set_option maxRecDepth 65536 in
theorem w_room : about1.hasRoom e0.platform room_1 = true :=
  launch0.hasRoom_least _ room_1 (by decide +kernel) (by decide +kernel) (by decide +kernel) (by decide +kernel) (by decide +kernel) (by decide +kernel)
theorem allAtoms_all (ts : List Jvm.Cond) (a : Array Jvm.Value) (st : Jvm.State) : (allAtoms ts).before a st = ts.all (fun c => c.before a st) := by
  induction ts with
  | nil => rfl
  | cons c t ih =>
    show (Jvm.Cond.and c (allAtoms t)).before a st = _
    rw [Jvm.Cond.before_and, ih, List.all_cons]
def words1 : List Jvm.Cond := Jvm.Cond.code x code maxLocals ret :: tables_1
/-- a 'code' word, met by the world's own term for the bytes: nothing is compared byte by byte -/
theorem code_word {y : MethodName} {bytes : ByteArray} {mx : Nat} {rt : Option FieldType} {a : Array Value} {s : State} {m : MethodId} {meth : Method} {c : Code} (h1 : s.methodNamed? y = some m) (h2 : s.vm.method? m = some meth) (h3 : meth.code = some c) (h4 : c.code = bytes)
    (h5 : (c.maxLocals == mx && c.exceptionTable.isEmpty && decide (c.maxStack ≤ mostOperands) && decide (meth.sig.returnType = rt) && !meth.locks && decide (parseMethodDescriptor y.desc = some meth.sig)) = true) : (Jvm.Cond.code y bytes mx rt).before a s = true := by
  simp only [Bool.and_eq_true, beq_iff_eq, Bool.not_eq_true', decide_eq_true_eq] at h5
  obtain ⟨⟨⟨⟨⟨g1, g2⟩, g3⟩, g4⟩, g5⟩, g6⟩ := h5
  simp [Cond.before, Cond.holds, Cond.value, h1, h2, h3, h4, g1, g2, g3, g4, g5, g6]
def isCode : Jvm.Cond → Bool
  | .code _ _ _ _ => true
  | _ => false
theorem all_split {L : List Jvm.Cond} {P : Jvm.Cond → Bool} (h1 : L.all (fun c => isCode c || P c) = true) (h2 : ∀ c ∈ L.filter isCode, P c = true) : L.all P = true := by
  refine List.all_eq_true.mpr fun c hc => ?_
  have h := List.all_eq_true.mp h1 c hc
  rcases Bool.eq_false_or_eq_true (isCode c) with hi | hi
  · exact h2 c (List.mem_filter.mpr ⟨hc, hi⟩)
  · simpa [hi] using h
set_option maxRecDepth 65536 in
theorem w_c0 : (Jvm.Cond.code x code maxLocals ret).before args0 about1 = true := code_word (m := ⟨1, 1⟩) (meth := k1m1) (c := k1c1) (by decide +kernel) rfl rfl rfl (by decide +kernel)
set_option maxRecDepth 65536 in
theorem w_c1 : (Jvm.Cond.code ({ cls := "com/example/hidex/hidex/lang/Names", name := "isNameStart", desc := "(C)Z" } : Jvm.MethodName) prog_20_method_3_code (1 : Nat) (Option.some Jvm.ClassFile.FieldType.boolean)).before args0 about1 = true := code_word (m := ⟨2, 1⟩) (meth := k2m1) (c := k2c1) (by decide +kernel) rfl rfl rfl (by decide +kernel)
def codes1 : List Jvm.Cond := [Jvm.Cond.code x code maxLocals ret, Jvm.Cond.code ({ cls := "com/example/hidex/hidex/lang/Names", name := "isNameStart", desc := "(C)Z" } : Jvm.MethodName) prog_20_method_3_code (1 : Nat) (Option.some Jvm.ClassFile.FieldType.boolean)]
set_option maxRecDepth 65536 in
theorem codes_eq : words1.filter isCode = codes1 := rfl
theorem w_codes : ∀ c ∈ words1.filter isCode, c.before args0 about1 = true := by
  rw [codes_eq]
  intro c hc
  simp only [codes1, List.mem_cons, List.not_mem_nil, or_false] at hc
  rcases hc with rfl | rfl
  · exact w_c0
  · exact w_c1
set_option maxRecDepth 65536 in
theorem w_t1 : words1.all (fun c => isCode c || c.before args0 about1) = true := by decide +kernel
theorem w_tables : (allAtoms (Jvm.Cond.code x code maxLocals ret :: tables_1)).before args0 about1 = true := by
  rw [allAtoms_all]
  show words1.all (fun c => c.before args0 about1) = true
  refine all_split ?_ w_codes
  rw [w_t1]
set_option maxRecDepth 65536 in
theorem w_case : (Jvm.Cond.and given_1 narrow_1).before args0 about1 = true := by decide +kernel
theorem w_applies : (headSpec (Jvm.Cond.code x code maxLocals ret :: tables_1) room_1).applies x e0.platform about1 = true :=
  (Spec.applies_iff w_frames).mpr ⟨w_running, w_runnable, w_alone, w_named, w_hears, w_ripe, w_room, w_tables⟩
theorem atStart : AtStart classFile x code maxLocals ret World_1 tables_1 room_1 Calls_1 rest_1 Pre_1 launch0 p0 e0 about1 theMethod args0 below0 :=
  ⟨lists_1, trivial, launch0.admits_env _ _ _, launch0.least_env, fairChoices_fair.cas, fairChoices_fair.clock, w_frames, w_args, w_heap, w_applies, trivial, trivial, w_case⟩
end start1
theorem witness_1 : WitnessClaimed_1 := ⟨start1.p0, start1.e0, start1.about1, start1.theMethod, start1.args0, start1.below0, start1.atStart⟩
end Jvm.Pilot.@@N@@
