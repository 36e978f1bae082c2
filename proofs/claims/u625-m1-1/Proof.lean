import JvmDerived
import JvmDerived.Pilot.@@N@@Statement
import JvmDerived.Pilot.@@N@@Code
set_option linter.unusedVariables false
set_option linter.unusedSimpArgs false
namespace Jvm.Pilot.@@N@@
open Jvm Jvm.ClassFile Sem Op Lib Jvm.Free Jvm.Stand Jvm.LawKit Jvm.RoadKit Bundle Jvm.Pilot.@@N@@.Jvm.D
def own_un (c : Int32) : Int32 := if (97 ≤ c.toInt ∧ c.toInt ≤ 122) ∨ (65 ≤ c.toInt ∧ c.toInt ≤ 90) ∨ (48 ≤ c.toInt ∧ c.toInt ≤ 57) ∨ c.toInt = 45 ∨ c.toInt = 46 ∨ c.toInt = 95 ∨ c.toInt = 126 then 1 else 0
theorem own_yes {c : Int32} (h : (97 ≤ c.toInt ∧ c.toInt ≤ 122) ∨ (65 ≤ c.toInt ∧ c.toInt ≤ 90) ∨ (48 ≤ c.toInt ∧ c.toInt ≤ 57) ∨ c.toInt = 45 ∨ c.toInt = 46 ∨ c.toInt = 95 ∨ c.toInt = 126) : own_un c = (1 : Int32) := if_pos h
theorem own_no {c : Int32} (h : ¬ ((97 ≤ c.toInt ∧ c.toInt ≤ 122) ∨ (65 ≤ c.toInt ∧ c.toInt ≤ 90) ∨ (48 ≤ c.toInt ∧ c.toInt ≤ 57) ∨ c.toInt = 45 ∨ c.toInt = 46 ∨ c.toInt = 95 ∨ c.toInt = 126)) : own_un c = (0 : Int32) := if_neg h
theorem own_nat (k : Int32) (h0 : 0 ≤ k.toInt) : k = Int32.ofNat k.toInt.toNat := by
  apply Int32.toInt_inj.mp
  have := k.toInt_lt
  rw [Int32.toInt_ofNat_of_lt (by omega)]; omega
theorem own_lo (k : Int32) (h0 : 0 ≤ k.toInt) (h1 : k.toInt < 64) : own_un k = if ((((288054454291267584 : Int64).toUInt64 >>> (k &&& 0x3f).toInt64.toUInt64).toInt64) &&& (1 : Int64)).toInt = 0 then 0 else 1 := by
  have key : ∀ n : Fin 64, own_un (Int32.ofNat n.val) = if ((((288054454291267584 : Int64).toUInt64 >>> (Int32.ofNat n.val &&& 0x3f).toInt64.toUInt64).toInt64) &&& (1 : Int64)).toInt = 0 then 0 else 1 := by decide +kernel
  have := key ⟨k.toInt.toNat, by omega⟩
  rw [own_nat k h0]; exact this
theorem own_hi (k : Int32) (h0 : 64 ≤ k.toInt) (h1 : k.toInt < 128) : own_un k = if ((((5188146764422578174 : Int64).toUInt64 >>> ((k - (64 : Int32)) &&& 0x3f).toInt64.toUInt64).toInt64) &&& (1 : Int64)).toInt = 0 then 0 else 1 := by
  have key : ∀ n : Fin 64, own_un (Int32.ofNat (n.val + 64)) = if ((((5188146764422578174 : Int64).toUInt64 >>> ((Int32.ofNat (n.val + 64) - (64 : Int32)) &&& 0x3f).toInt64.toUInt64).toInt64) &&& (1 : Int64)).toInt = 0 then 0 else 1 := by decide +kernel
  have := key ⟨k.toInt.toNat - 64, by omega⟩
  have e : k.toInt.toNat - 64 + 64 = k.toInt.toNat := by omega
  simp only [e] at this
  rw [own_nat k (by omega)]; exact this
theorem own_code (x : Int32) : 0 ≤ (x &&& (65535 : Int32)).toInt ∧ (x &&& (65535 : Int32)).toInt < 65536 := by
  have h := c_and x (65535 : Int32) (by decide)
  have e : (65535 : Int32).toInt = 65535 := rfl
  omega
theorem own_char (k : Int32) (h0 : 0 ≤ k.toInt) (h1 : k.toInt < 65536) : k.toUInt32.toUInt16.toUInt32.toInt32 = k := by
  have h := c_i2c k
  apply Int32.toInt_inj.mp; omega
theorem d1_0 : decode prog_30_method_5_code 0 = .ok (.iload_n 0, 1) := by decide +kernel
theorem d1_1 : decode prog_30_method_5_code 1 = .ok (.bipush 97, 2) := by decide +kernel
theorem d1_3 : decode prog_30_method_5_code 3 = .ok (.if_icmp .lt 9, 3) := by decide +kernel
theorem d1_6 : decode prog_30_method_5_code 6 = .ok (.iload_n 0, 1) := by decide +kernel
theorem d1_7 : decode prog_30_method_5_code 7 = .ok (.bipush 122, 2) := by decide +kernel
theorem d1_9 : decode prog_30_method_5_code 9 = .ok (.if_icmp .le 51, 3) := by decide +kernel
theorem d1_12 : decode prog_30_method_5_code 12 = .ok (.iload_n 0, 1) := by decide +kernel
theorem d1_13 : decode prog_30_method_5_code 13 = .ok (.bipush 65, 2) := by decide +kernel
theorem d1_15 : decode prog_30_method_5_code 15 = .ok (.if_icmp .lt 9, 3) := by decide +kernel
theorem d1_18 : decode prog_30_method_5_code 18 = .ok (.iload_n 0, 1) := by decide +kernel
theorem d1_19 : decode prog_30_method_5_code 19 = .ok (.bipush 90, 2) := by decide +kernel
theorem d1_21 : decode prog_30_method_5_code 21 = .ok (.if_icmp .le 39, 3) := by decide +kernel
theorem d1_24 : decode prog_30_method_5_code 24 = .ok (.iload_n 0, 1) := by decide +kernel
theorem d1_25 : decode prog_30_method_5_code 25 = .ok (.bipush 48, 2) := by decide +kernel
theorem d1_27 : decode prog_30_method_5_code 27 = .ok (.if_icmp .lt 9, 3) := by decide +kernel
theorem d1_30 : decode prog_30_method_5_code 30 = .ok (.iload_n 0, 1) := by decide +kernel
theorem d1_31 : decode prog_30_method_5_code 31 = .ok (.bipush 57, 2) := by decide +kernel
theorem d1_33 : decode prog_30_method_5_code 33 = .ok (.if_icmp .le 27, 3) := by decide +kernel
theorem d1_36 : decode prog_30_method_5_code 36 = .ok (.iload_n 0, 1) := by decide +kernel
theorem d1_37 : decode prog_30_method_5_code 37 = .ok (.bipush 45, 2) := by decide +kernel
theorem d1_39 : decode prog_30_method_5_code 39 = .ok (.if_icmp .eq 21, 3) := by decide +kernel
theorem d1_42 : decode prog_30_method_5_code 42 = .ok (.iload_n 0, 1) := by decide +kernel
theorem d1_43 : decode prog_30_method_5_code 43 = .ok (.bipush 46, 2) := by decide +kernel
theorem d1_45 : decode prog_30_method_5_code 45 = .ok (.if_icmp .eq 15, 3) := by decide +kernel
theorem d1_48 : decode prog_30_method_5_code 48 = .ok (.iload_n 0, 1) := by decide +kernel
theorem d1_49 : decode prog_30_method_5_code 49 = .ok (.bipush 95, 2) := by decide +kernel
theorem d1_51 : decode prog_30_method_5_code 51 = .ok (.if_icmp .eq 9, 3) := by decide +kernel
theorem d1_54 : decode prog_30_method_5_code 54 = .ok (.iload_n 0, 1) := by decide +kernel
theorem d1_55 : decode prog_30_method_5_code 55 = .ok (.bipush 126, 2) := by decide +kernel
theorem d1_57 : decode prog_30_method_5_code 57 = .ok (.if_icmp .ne 7, 3) := by decide +kernel
theorem d1_60 : decode prog_30_method_5_code 60 = .ok (.iconst 1, 1) := by decide +kernel
theorem d1_61 : decode prog_30_method_5_code 61 = .ok (.goto 4, 3) := by decide +kernel
theorem d1_64 : decode prog_30_method_5_code 64 = .ok (.iconst 0, 1) := by decide +kernel
theorem d1_65 : decode prog_30_method_5_code 65 = .ok (.ireturn, 1) := by decide +kernel
theorem pn_1 : plainName "com/example/request_to_resource/requesttoresource/core/uri/UriComponent" = true := by first | (simp [plainName, overriddenIn]; done) | decide +kernel
theorem ef_1 (m : MethodId) (c1 : Int32) : entryFrame m #[(.int c1)] 1 = mkF m 0 #[.val (.int c1)] [] := by first | (simp [entryFrame, mkF, argsToLocals, Value.category]; done) | rfl
def Q1 (Z : State) (c1 : Int32) (h0 : Heap) (n0 : Nat) (v : Option Value) (h : Heap) (L : List Loc) : Prop := v = some (.int (own_un c1)) ∧ Fr n0 L ∧ h = h0
set_option maxRecDepth 65536 in
set_option maxHeartbeats 40000000 in
theorem rm1 (l : Launch) (Z : State) (a0 : Array Value) (hw : ∀ d ∈ tables_1, d.before a0 Z = true) (ws : List Jvm.Cond) (c1 : Int32) (h0 : Heap) (n0 : Nat) (Z0 : n0 ≤ h0.size) :
    MetFree l (⟨"com/example/request_to_resource/requesttoresource/core/uri/UriComponent", "isUnreserved", "(C)Z"⟩ : MethodName) (head1 (Jvm.Cond.code (⟨"com/example/request_to_resource/requesttoresource/core/uri/UriComponent", "isUnreserved", "(C)Z"⟩ : MethodName) prog_30_method_5_code 1 (some .boolean) :: ws) ({ frames := 0, cells := 0, slots := 0, locals := 0 } : Room)) (fun a U => a = #[(.int c1)] ∧ Z.Warmed39 U.vm ∧ U.heap = h0) (fun _ _ _ _ _ => True) (fun _ U o U' => ∃ v L, o = .returned v ∧ Q1 Z c1 h0 n0 v U'.heap L ∧ FrameEnd U o U' L ({ frames := 0, cells := 0, slots := 0, locals := 0 } : Room).cells ({ frames := 0, cells := 0, slots := 0, locals := 0 } : Room).slots) := by
  refine MetFree.of_bodySF (plainFor_of_name pn_1) hisR ?_
  intro p e s m args below meth c s₁ Bd hml0 hP hK
  obtain ⟨rfl, hZ, hh⟩ := hP
  have hx := Bd.exec
  have hby := Bd.bytes
  have hml : c.maxLocals = 1 := hml0
  have hown : s.vm.findClass "com/example/request_to_resource/requesttoresource/core/uri/UriComponent" = some m.cls := findClass_of_methodNamed Bd.named
  have hnm := (name_of_methodNamed Bd.named Bd.method).1
  have X0 : Stand p l e ({ frames := 0, cells := 0, slots := 0, locals := 0 } : Room) s m #[(.int c1)] below meth c s₁ [] 0 0 := Stand.of_body Bd
  have e0 : s₁.heap = h0 := by rw [← hh, Bd.state]; rfl
  have N0 := Fr.nil n0
  have pre0 : ∀ t, Steps p.tables e below (s₁.setTop (mkF m 0 #[.val (.int c1)] [])) t → Steps p.tables e below (s₁.setTop (entryFrame m #[(.int c1)] 1)) t := fun t k => castTop (ef_1 m c1) k
  obtain ⟨fs, hr, hrun, hended, hW, hsame⟩ := X0.leave (v := some (.int (own_un c1))) (fun h => by rw [Bd.returns] at h; cases h)
  refine ⟨_, _, pre0 _ ?_, hrun, hended, _, _, rfl, ?_, ⟨_, rfl⟩, hW, hsame.mono (by decide) (by decide)⟩
  · show Steps p.tables e below (s₁.setTop (mkF m 0 #[.val (.int c1)] [])) _
    refine XS.iloadN X0.here hx rfl (hb hby d1_0) rfl ?_
    show Steps p.tables e below (s₁.setTop (mkF m 1 #[.val (.int c1)] [(.int c1)])) _
    refine XS.bipush X0.here hx rfl (hb hby d1_1) ?_
    show Steps p.tables e below (s₁.setTop (mkF m 3 #[.val (.int c1)] [(.int (97 : Int32)), (.int c1)])) _
    by_cases h3 : c1.toInt < 97
    · refine XS.icmpYes X0.here hx rfl (pc0 := 3) (pc' := 12) rfl (hb hby d1_3) rfl (tlt (show c1 < (97 : Int32) from Int32.lt_iff_toInt_lt.mpr h3)).1 (by decide) (by decide) ?_
      show Steps p.tables e below (s₁.setTop (mkF m 12 #[.val (.int c1)] [])) _
      refine XS.iloadN X0.here hx rfl (hb hby d1_12) rfl ?_
      show Steps p.tables e below (s₁.setTop (mkF m 13 #[.val (.int c1)] [(.int c1)])) _
      refine XS.bipush X0.here hx rfl (hb hby d1_13) ?_
      show Steps p.tables e below (s₁.setTop (mkF m 15 #[.val (.int c1)] [(.int (65 : Int32)), (.int c1)])) _
      by_cases h15 : c1.toInt < 65
      · refine XS.icmpYes X0.here hx rfl (pc0 := 15) (pc' := 24) rfl (hb hby d1_15) rfl (tlt (show c1 < (65 : Int32) from Int32.lt_iff_toInt_lt.mpr h15)).1 (by decide) (by decide) ?_
        show Steps p.tables e below (s₁.setTop (mkF m 24 #[.val (.int c1)] [])) _
        refine XS.iloadN X0.here hx rfl (hb hby d1_24) rfl ?_
        show Steps p.tables e below (s₁.setTop (mkF m 25 #[.val (.int c1)] [(.int c1)])) _
        refine XS.bipush X0.here hx rfl (hb hby d1_25) ?_
        show Steps p.tables e below (s₁.setTop (mkF m 27 #[.val (.int c1)] [(.int (48 : Int32)), (.int c1)])) _
        by_cases h27 : c1.toInt < 48
        · refine XS.icmpYes X0.here hx rfl (pc0 := 27) (pc' := 36) rfl (hb hby d1_27) rfl (tlt (show c1 < (48 : Int32) from Int32.lt_iff_toInt_lt.mpr h27)).1 (by decide) (by decide) ?_
          show Steps p.tables e below (s₁.setTop (mkF m 36 #[.val (.int c1)] [])) _
          refine XS.iloadN X0.here hx rfl (hb hby d1_36) rfl ?_
          show Steps p.tables e below (s₁.setTop (mkF m 37 #[.val (.int c1)] [(.int c1)])) _
          refine XS.bipush X0.here hx rfl (hb hby d1_37) ?_
          show Steps p.tables e below (s₁.setTop (mkF m 39 #[.val (.int c1)] [(.int (45 : Int32)), (.int c1)])) _
          by_cases h39 : c1.toInt = 45
          · refine XS.icmpYes X0.here hx rfl (pc0 := 39) (pc' := 60) rfl (hb hby d1_39) rfl (teq (show c1 = (45 : Int32) from Int32.toInt_inj.mp h39)).1 (by decide) (by decide) ?_
            show Steps p.tables e below (s₁.setTop (mkF m 60 #[.val (.int c1)] [])) _
            refine XS.iconst X0.here hx rfl (hb hby d1_60) ?_
            show Steps p.tables e below (s₁.setTop (mkF m 61 #[.val (.int c1)] [(.int (1 : Int32))])) _
            refine XS.goto X0.here hx rfl (pc0 := 61) (pc' := 65) rfl (hb hby d1_61) (by decide) (by decide) ?_
            show Steps p.tables e below (s₁.setTop (mkF m 65 #[.val (.int c1)] [(.int (1 : Int32))])) _
            have hv : own_un c1 = (1 : Int32) := own_yes (by omega)
            rw [hv] at hr
            exact retN X0 hx (t := .boolean) Bd.returns (by simp) (hb hby d1_65) hr
          · refine XS.icmpNo X0.here hx rfl (hb hby d1_39) rfl (feq (fun q : c1 = (45 : Int32) => h39 (Int32.toInt_inj.mpr q))).1 ?_
            show Steps p.tables e below (s₁.setTop (mkF m 42 #[.val (.int c1)] [])) _
            refine XS.iloadN X0.here hx rfl (hb hby d1_42) rfl ?_
            show Steps p.tables e below (s₁.setTop (mkF m 43 #[.val (.int c1)] [(.int c1)])) _
            refine XS.bipush X0.here hx rfl (hb hby d1_43) ?_
            show Steps p.tables e below (s₁.setTop (mkF m 45 #[.val (.int c1)] [(.int (46 : Int32)), (.int c1)])) _
            by_cases h45 : c1.toInt = 46
            · refine XS.icmpYes X0.here hx rfl (pc0 := 45) (pc' := 60) rfl (hb hby d1_45) rfl (teq (show c1 = (46 : Int32) from Int32.toInt_inj.mp h45)).1 (by decide) (by decide) ?_
              show Steps p.tables e below (s₁.setTop (mkF m 60 #[.val (.int c1)] [])) _
              refine XS.iconst X0.here hx rfl (hb hby d1_60) ?_
              show Steps p.tables e below (s₁.setTop (mkF m 61 #[.val (.int c1)] [(.int (1 : Int32))])) _
              refine XS.goto X0.here hx rfl (pc0 := 61) (pc' := 65) rfl (hb hby d1_61) (by decide) (by decide) ?_
              show Steps p.tables e below (s₁.setTop (mkF m 65 #[.val (.int c1)] [(.int (1 : Int32))])) _
              have hv : own_un c1 = (1 : Int32) := own_yes (by omega)
              rw [hv] at hr
              exact retN X0 hx (t := .boolean) Bd.returns (by simp) (hb hby d1_65) hr
            · refine XS.icmpNo X0.here hx rfl (hb hby d1_45) rfl (feq (fun q : c1 = (46 : Int32) => h45 (Int32.toInt_inj.mpr q))).1 ?_
              show Steps p.tables e below (s₁.setTop (mkF m 48 #[.val (.int c1)] [])) _
              refine XS.iloadN X0.here hx rfl (hb hby d1_48) rfl ?_
              show Steps p.tables e below (s₁.setTop (mkF m 49 #[.val (.int c1)] [(.int c1)])) _
              refine XS.bipush X0.here hx rfl (hb hby d1_49) ?_
              show Steps p.tables e below (s₁.setTop (mkF m 51 #[.val (.int c1)] [(.int (95 : Int32)), (.int c1)])) _
              by_cases h51 : c1.toInt = 95
              · refine XS.icmpYes X0.here hx rfl (pc0 := 51) (pc' := 60) rfl (hb hby d1_51) rfl (teq (show c1 = (95 : Int32) from Int32.toInt_inj.mp h51)).1 (by decide) (by decide) ?_
                show Steps p.tables e below (s₁.setTop (mkF m 60 #[.val (.int c1)] [])) _
                refine XS.iconst X0.here hx rfl (hb hby d1_60) ?_
                show Steps p.tables e below (s₁.setTop (mkF m 61 #[.val (.int c1)] [(.int (1 : Int32))])) _
                refine XS.goto X0.here hx rfl (pc0 := 61) (pc' := 65) rfl (hb hby d1_61) (by decide) (by decide) ?_
                show Steps p.tables e below (s₁.setTop (mkF m 65 #[.val (.int c1)] [(.int (1 : Int32))])) _
                have hv : own_un c1 = (1 : Int32) := own_yes (by omega)
                rw [hv] at hr
                exact retN X0 hx (t := .boolean) Bd.returns (by simp) (hb hby d1_65) hr
              · refine XS.icmpNo X0.here hx rfl (hb hby d1_51) rfl (feq (fun q : c1 = (95 : Int32) => h51 (Int32.toInt_inj.mpr q))).1 ?_
                show Steps p.tables e below (s₁.setTop (mkF m 54 #[.val (.int c1)] [])) _
                refine XS.iloadN X0.here hx rfl (hb hby d1_54) rfl ?_
                show Steps p.tables e below (s₁.setTop (mkF m 55 #[.val (.int c1)] [(.int c1)])) _
                refine XS.bipush X0.here hx rfl (hb hby d1_55) ?_
                show Steps p.tables e below (s₁.setTop (mkF m 57 #[.val (.int c1)] [(.int (126 : Int32)), (.int c1)])) _
                by_cases h57 : c1.toInt = 126
                · refine XS.icmpNo X0.here hx rfl (hb hby d1_57) rfl (teq (show c1 = (126 : Int32) from Int32.toInt_inj.mp h57)).2 ?_
                  show Steps p.tables e below (s₁.setTop (mkF m 60 #[.val (.int c1)] [])) _
                  refine XS.iconst X0.here hx rfl (hb hby d1_60) ?_
                  show Steps p.tables e below (s₁.setTop (mkF m 61 #[.val (.int c1)] [(.int (1 : Int32))])) _
                  refine XS.goto X0.here hx rfl (pc0 := 61) (pc' := 65) rfl (hb hby d1_61) (by decide) (by decide) ?_
                  show Steps p.tables e below (s₁.setTop (mkF m 65 #[.val (.int c1)] [(.int (1 : Int32))])) _
                  have hv : own_un c1 = (1 : Int32) := own_yes (by omega)
                  rw [hv] at hr
                  exact retN X0 hx (t := .boolean) Bd.returns (by simp) (hb hby d1_65) hr
                · refine XS.icmpYes X0.here hx rfl (pc0 := 57) (pc' := 64) rfl (hb hby d1_57) rfl (feq (fun q : c1 = (126 : Int32) => h57 (Int32.toInt_inj.mpr q))).2 (by decide) (by decide) ?_
                  show Steps p.tables e below (s₁.setTop (mkF m 64 #[.val (.int c1)] [])) _
                  refine XS.iconst X0.here hx rfl (hb hby d1_64) ?_
                  show Steps p.tables e below (s₁.setTop (mkF m 65 #[.val (.int c1)] [(.int (0 : Int32))])) _
                  have hv : own_un c1 = (0 : Int32) := own_no (by omega)
                  rw [hv] at hr
                  exact retN X0 hx (t := .boolean) Bd.returns (by simp) (hb hby d1_65) hr
        · refine XS.icmpNo X0.here hx rfl (hb hby d1_27) rfl (flt (fun q : c1 < (48 : Int32) => h27 (Int32.lt_iff_toInt_lt.mp q))).1 ?_
          show Steps p.tables e below (s₁.setTop (mkF m 30 #[.val (.int c1)] [])) _
          refine XS.iloadN X0.here hx rfl (hb hby d1_30) rfl ?_
          show Steps p.tables e below (s₁.setTop (mkF m 31 #[.val (.int c1)] [(.int c1)])) _
          refine XS.bipush X0.here hx rfl (hb hby d1_31) ?_
          show Steps p.tables e below (s₁.setTop (mkF m 33 #[.val (.int c1)] [(.int (57 : Int32)), (.int c1)])) _
          by_cases h33 : 57 < c1.toInt
          · refine XS.icmpNo X0.here hx rfl (hb hby d1_33) rfl (tlt (show (57 : Int32) < c1 from Int32.lt_iff_toInt_lt.mpr h33)).2.2.2 ?_
            show Steps p.tables e below (s₁.setTop (mkF m 36 #[.val (.int c1)] [])) _
            refine XS.iloadN X0.here hx rfl (hb hby d1_36) rfl ?_
            show Steps p.tables e below (s₁.setTop (mkF m 37 #[.val (.int c1)] [(.int c1)])) _
            refine XS.bipush X0.here hx rfl (hb hby d1_37) ?_
            show Steps p.tables e below (s₁.setTop (mkF m 39 #[.val (.int c1)] [(.int (45 : Int32)), (.int c1)])) _
            by_cases h39 : c1.toInt = 45
            · refine XS.icmpYes X0.here hx rfl (pc0 := 39) (pc' := 60) rfl (hb hby d1_39) rfl (teq (show c1 = (45 : Int32) from Int32.toInt_inj.mp h39)).1 (by decide) (by decide) ?_
              show Steps p.tables e below (s₁.setTop (mkF m 60 #[.val (.int c1)] [])) _
              refine XS.iconst X0.here hx rfl (hb hby d1_60) ?_
              show Steps p.tables e below (s₁.setTop (mkF m 61 #[.val (.int c1)] [(.int (1 : Int32))])) _
              refine XS.goto X0.here hx rfl (pc0 := 61) (pc' := 65) rfl (hb hby d1_61) (by decide) (by decide) ?_
              show Steps p.tables e below (s₁.setTop (mkF m 65 #[.val (.int c1)] [(.int (1 : Int32))])) _
              have hv : own_un c1 = (1 : Int32) := own_yes (by omega)
              rw [hv] at hr
              exact retN X0 hx (t := .boolean) Bd.returns (by simp) (hb hby d1_65) hr
            · refine XS.icmpNo X0.here hx rfl (hb hby d1_39) rfl (feq (fun q : c1 = (45 : Int32) => h39 (Int32.toInt_inj.mpr q))).1 ?_
              show Steps p.tables e below (s₁.setTop (mkF m 42 #[.val (.int c1)] [])) _
              refine XS.iloadN X0.here hx rfl (hb hby d1_42) rfl ?_
              show Steps p.tables e below (s₁.setTop (mkF m 43 #[.val (.int c1)] [(.int c1)])) _
              refine XS.bipush X0.here hx rfl (hb hby d1_43) ?_
              show Steps p.tables e below (s₁.setTop (mkF m 45 #[.val (.int c1)] [(.int (46 : Int32)), (.int c1)])) _
              by_cases h45 : c1.toInt = 46
              · refine XS.icmpYes X0.here hx rfl (pc0 := 45) (pc' := 60) rfl (hb hby d1_45) rfl (teq (show c1 = (46 : Int32) from Int32.toInt_inj.mp h45)).1 (by decide) (by decide) ?_
                show Steps p.tables e below (s₁.setTop (mkF m 60 #[.val (.int c1)] [])) _
                refine XS.iconst X0.here hx rfl (hb hby d1_60) ?_
                show Steps p.tables e below (s₁.setTop (mkF m 61 #[.val (.int c1)] [(.int (1 : Int32))])) _
                refine XS.goto X0.here hx rfl (pc0 := 61) (pc' := 65) rfl (hb hby d1_61) (by decide) (by decide) ?_
                show Steps p.tables e below (s₁.setTop (mkF m 65 #[.val (.int c1)] [(.int (1 : Int32))])) _
                have hv : own_un c1 = (1 : Int32) := own_yes (by omega)
                rw [hv] at hr
                exact retN X0 hx (t := .boolean) Bd.returns (by simp) (hb hby d1_65) hr
              · refine XS.icmpNo X0.here hx rfl (hb hby d1_45) rfl (feq (fun q : c1 = (46 : Int32) => h45 (Int32.toInt_inj.mpr q))).1 ?_
                show Steps p.tables e below (s₁.setTop (mkF m 48 #[.val (.int c1)] [])) _
                refine XS.iloadN X0.here hx rfl (hb hby d1_48) rfl ?_
                show Steps p.tables e below (s₁.setTop (mkF m 49 #[.val (.int c1)] [(.int c1)])) _
                refine XS.bipush X0.here hx rfl (hb hby d1_49) ?_
                show Steps p.tables e below (s₁.setTop (mkF m 51 #[.val (.int c1)] [(.int (95 : Int32)), (.int c1)])) _
                by_cases h51 : c1.toInt = 95
                · refine XS.icmpYes X0.here hx rfl (pc0 := 51) (pc' := 60) rfl (hb hby d1_51) rfl (teq (show c1 = (95 : Int32) from Int32.toInt_inj.mp h51)).1 (by decide) (by decide) ?_
                  show Steps p.tables e below (s₁.setTop (mkF m 60 #[.val (.int c1)] [])) _
                  refine XS.iconst X0.here hx rfl (hb hby d1_60) ?_
                  show Steps p.tables e below (s₁.setTop (mkF m 61 #[.val (.int c1)] [(.int (1 : Int32))])) _
                  refine XS.goto X0.here hx rfl (pc0 := 61) (pc' := 65) rfl (hb hby d1_61) (by decide) (by decide) ?_
                  show Steps p.tables e below (s₁.setTop (mkF m 65 #[.val (.int c1)] [(.int (1 : Int32))])) _
                  have hv : own_un c1 = (1 : Int32) := own_yes (by omega)
                  rw [hv] at hr
                  exact retN X0 hx (t := .boolean) Bd.returns (by simp) (hb hby d1_65) hr
                · refine XS.icmpNo X0.here hx rfl (hb hby d1_51) rfl (feq (fun q : c1 = (95 : Int32) => h51 (Int32.toInt_inj.mpr q))).1 ?_
                  show Steps p.tables e below (s₁.setTop (mkF m 54 #[.val (.int c1)] [])) _
                  refine XS.iloadN X0.here hx rfl (hb hby d1_54) rfl ?_
                  show Steps p.tables e below (s₁.setTop (mkF m 55 #[.val (.int c1)] [(.int c1)])) _
                  refine XS.bipush X0.here hx rfl (hb hby d1_55) ?_
                  show Steps p.tables e below (s₁.setTop (mkF m 57 #[.val (.int c1)] [(.int (126 : Int32)), (.int c1)])) _
                  by_cases h57 : c1.toInt = 126
                  · refine XS.icmpNo X0.here hx rfl (hb hby d1_57) rfl (teq (show c1 = (126 : Int32) from Int32.toInt_inj.mp h57)).2 ?_
                    show Steps p.tables e below (s₁.setTop (mkF m 60 #[.val (.int c1)] [])) _
                    refine XS.iconst X0.here hx rfl (hb hby d1_60) ?_
                    show Steps p.tables e below (s₁.setTop (mkF m 61 #[.val (.int c1)] [(.int (1 : Int32))])) _
                    refine XS.goto X0.here hx rfl (pc0 := 61) (pc' := 65) rfl (hb hby d1_61) (by decide) (by decide) ?_
                    show Steps p.tables e below (s₁.setTop (mkF m 65 #[.val (.int c1)] [(.int (1 : Int32))])) _
                    have hv : own_un c1 = (1 : Int32) := own_yes (by omega)
                    rw [hv] at hr
                    exact retN X0 hx (t := .boolean) Bd.returns (by simp) (hb hby d1_65) hr
                  · refine XS.icmpYes X0.here hx rfl (pc0 := 57) (pc' := 64) rfl (hb hby d1_57) rfl (feq (fun q : c1 = (126 : Int32) => h57 (Int32.toInt_inj.mpr q))).2 (by decide) (by decide) ?_
                    show Steps p.tables e below (s₁.setTop (mkF m 64 #[.val (.int c1)] [])) _
                    refine XS.iconst X0.here hx rfl (hb hby d1_64) ?_
                    show Steps p.tables e below (s₁.setTop (mkF m 65 #[.val (.int c1)] [(.int (0 : Int32))])) _
                    have hv : own_un c1 = (0 : Int32) := own_no (by omega)
                    rw [hv] at hr
                    exact retN X0 hx (t := .boolean) Bd.returns (by simp) (hb hby d1_65) hr
          · refine XS.icmpYes X0.here hx rfl (pc0 := 33) (pc' := 60) rfl (hb hby d1_33) rfl (flt (fun q : (57 : Int32) < c1 => h33 (Int32.lt_iff_toInt_lt.mp q))).2.2.2 (by decide) (by decide) ?_
            show Steps p.tables e below (s₁.setTop (mkF m 60 #[.val (.int c1)] [])) _
            refine XS.iconst X0.here hx rfl (hb hby d1_60) ?_
            show Steps p.tables e below (s₁.setTop (mkF m 61 #[.val (.int c1)] [(.int (1 : Int32))])) _
            refine XS.goto X0.here hx rfl (pc0 := 61) (pc' := 65) rfl (hb hby d1_61) (by decide) (by decide) ?_
            show Steps p.tables e below (s₁.setTop (mkF m 65 #[.val (.int c1)] [(.int (1 : Int32))])) _
            have hv : own_un c1 = (1 : Int32) := own_yes (by omega)
            rw [hv] at hr
            exact retN X0 hx (t := .boolean) Bd.returns (by simp) (hb hby d1_65) hr
      · refine XS.icmpNo X0.here hx rfl (hb hby d1_15) rfl (flt (fun q : c1 < (65 : Int32) => h15 (Int32.lt_iff_toInt_lt.mp q))).1 ?_
        show Steps p.tables e below (s₁.setTop (mkF m 18 #[.val (.int c1)] [])) _
        refine XS.iloadN X0.here hx rfl (hb hby d1_18) rfl ?_
        show Steps p.tables e below (s₁.setTop (mkF m 19 #[.val (.int c1)] [(.int c1)])) _
        refine XS.bipush X0.here hx rfl (hb hby d1_19) ?_
        show Steps p.tables e below (s₁.setTop (mkF m 21 #[.val (.int c1)] [(.int (90 : Int32)), (.int c1)])) _
        by_cases h21 : 90 < c1.toInt
        · refine XS.icmpNo X0.here hx rfl (hb hby d1_21) rfl (tlt (show (90 : Int32) < c1 from Int32.lt_iff_toInt_lt.mpr h21)).2.2.2 ?_
          show Steps p.tables e below (s₁.setTop (mkF m 24 #[.val (.int c1)] [])) _
          refine XS.iloadN X0.here hx rfl (hb hby d1_24) rfl ?_
          show Steps p.tables e below (s₁.setTop (mkF m 25 #[.val (.int c1)] [(.int c1)])) _
          refine XS.bipush X0.here hx rfl (hb hby d1_25) ?_
          show Steps p.tables e below (s₁.setTop (mkF m 27 #[.val (.int c1)] [(.int (48 : Int32)), (.int c1)])) _
          by_cases h27 : c1.toInt < 48
          · refine XS.icmpYes X0.here hx rfl (pc0 := 27) (pc' := 36) rfl (hb hby d1_27) rfl (tlt (show c1 < (48 : Int32) from Int32.lt_iff_toInt_lt.mpr h27)).1 (by decide) (by decide) ?_
            show Steps p.tables e below (s₁.setTop (mkF m 36 #[.val (.int c1)] [])) _
            refine XS.iloadN X0.here hx rfl (hb hby d1_36) rfl ?_
            show Steps p.tables e below (s₁.setTop (mkF m 37 #[.val (.int c1)] [(.int c1)])) _
            refine XS.bipush X0.here hx rfl (hb hby d1_37) ?_
            show Steps p.tables e below (s₁.setTop (mkF m 39 #[.val (.int c1)] [(.int (45 : Int32)), (.int c1)])) _
            by_cases h39 : c1.toInt = 45
            · refine XS.icmpYes X0.here hx rfl (pc0 := 39) (pc' := 60) rfl (hb hby d1_39) rfl (teq (show c1 = (45 : Int32) from Int32.toInt_inj.mp h39)).1 (by decide) (by decide) ?_
              show Steps p.tables e below (s₁.setTop (mkF m 60 #[.val (.int c1)] [])) _
              refine XS.iconst X0.here hx rfl (hb hby d1_60) ?_
              show Steps p.tables e below (s₁.setTop (mkF m 61 #[.val (.int c1)] [(.int (1 : Int32))])) _
              refine XS.goto X0.here hx rfl (pc0 := 61) (pc' := 65) rfl (hb hby d1_61) (by decide) (by decide) ?_
              show Steps p.tables e below (s₁.setTop (mkF m 65 #[.val (.int c1)] [(.int (1 : Int32))])) _
              have hv : own_un c1 = (1 : Int32) := own_yes (by omega)
              rw [hv] at hr
              exact retN X0 hx (t := .boolean) Bd.returns (by simp) (hb hby d1_65) hr
            · refine XS.icmpNo X0.here hx rfl (hb hby d1_39) rfl (feq (fun q : c1 = (45 : Int32) => h39 (Int32.toInt_inj.mpr q))).1 ?_
              show Steps p.tables e below (s₁.setTop (mkF m 42 #[.val (.int c1)] [])) _
              refine XS.iloadN X0.here hx rfl (hb hby d1_42) rfl ?_
              show Steps p.tables e below (s₁.setTop (mkF m 43 #[.val (.int c1)] [(.int c1)])) _
              refine XS.bipush X0.here hx rfl (hb hby d1_43) ?_
              show Steps p.tables e below (s₁.setTop (mkF m 45 #[.val (.int c1)] [(.int (46 : Int32)), (.int c1)])) _
              by_cases h45 : c1.toInt = 46
              · refine XS.icmpYes X0.here hx rfl (pc0 := 45) (pc' := 60) rfl (hb hby d1_45) rfl (teq (show c1 = (46 : Int32) from Int32.toInt_inj.mp h45)).1 (by decide) (by decide) ?_
                show Steps p.tables e below (s₁.setTop (mkF m 60 #[.val (.int c1)] [])) _
                refine XS.iconst X0.here hx rfl (hb hby d1_60) ?_
                show Steps p.tables e below (s₁.setTop (mkF m 61 #[.val (.int c1)] [(.int (1 : Int32))])) _
                refine XS.goto X0.here hx rfl (pc0 := 61) (pc' := 65) rfl (hb hby d1_61) (by decide) (by decide) ?_
                show Steps p.tables e below (s₁.setTop (mkF m 65 #[.val (.int c1)] [(.int (1 : Int32))])) _
                have hv : own_un c1 = (1 : Int32) := own_yes (by omega)
                rw [hv] at hr
                exact retN X0 hx (t := .boolean) Bd.returns (by simp) (hb hby d1_65) hr
              · refine XS.icmpNo X0.here hx rfl (hb hby d1_45) rfl (feq (fun q : c1 = (46 : Int32) => h45 (Int32.toInt_inj.mpr q))).1 ?_
                show Steps p.tables e below (s₁.setTop (mkF m 48 #[.val (.int c1)] [])) _
                refine XS.iloadN X0.here hx rfl (hb hby d1_48) rfl ?_
                show Steps p.tables e below (s₁.setTop (mkF m 49 #[.val (.int c1)] [(.int c1)])) _
                refine XS.bipush X0.here hx rfl (hb hby d1_49) ?_
                show Steps p.tables e below (s₁.setTop (mkF m 51 #[.val (.int c1)] [(.int (95 : Int32)), (.int c1)])) _
                by_cases h51 : c1.toInt = 95
                · refine XS.icmpYes X0.here hx rfl (pc0 := 51) (pc' := 60) rfl (hb hby d1_51) rfl (teq (show c1 = (95 : Int32) from Int32.toInt_inj.mp h51)).1 (by decide) (by decide) ?_
                  show Steps p.tables e below (s₁.setTop (mkF m 60 #[.val (.int c1)] [])) _
                  refine XS.iconst X0.here hx rfl (hb hby d1_60) ?_
                  show Steps p.tables e below (s₁.setTop (mkF m 61 #[.val (.int c1)] [(.int (1 : Int32))])) _
                  refine XS.goto X0.here hx rfl (pc0 := 61) (pc' := 65) rfl (hb hby d1_61) (by decide) (by decide) ?_
                  show Steps p.tables e below (s₁.setTop (mkF m 65 #[.val (.int c1)] [(.int (1 : Int32))])) _
                  have hv : own_un c1 = (1 : Int32) := own_yes (by omega)
                  rw [hv] at hr
                  exact retN X0 hx (t := .boolean) Bd.returns (by simp) (hb hby d1_65) hr
                · refine XS.icmpNo X0.here hx rfl (hb hby d1_51) rfl (feq (fun q : c1 = (95 : Int32) => h51 (Int32.toInt_inj.mpr q))).1 ?_
                  show Steps p.tables e below (s₁.setTop (mkF m 54 #[.val (.int c1)] [])) _
                  refine XS.iloadN X0.here hx rfl (hb hby d1_54) rfl ?_
                  show Steps p.tables e below (s₁.setTop (mkF m 55 #[.val (.int c1)] [(.int c1)])) _
                  refine XS.bipush X0.here hx rfl (hb hby d1_55) ?_
                  show Steps p.tables e below (s₁.setTop (mkF m 57 #[.val (.int c1)] [(.int (126 : Int32)), (.int c1)])) _
                  by_cases h57 : c1.toInt = 126
                  · refine XS.icmpNo X0.here hx rfl (hb hby d1_57) rfl (teq (show c1 = (126 : Int32) from Int32.toInt_inj.mp h57)).2 ?_
                    show Steps p.tables e below (s₁.setTop (mkF m 60 #[.val (.int c1)] [])) _
                    refine XS.iconst X0.here hx rfl (hb hby d1_60) ?_
                    show Steps p.tables e below (s₁.setTop (mkF m 61 #[.val (.int c1)] [(.int (1 : Int32))])) _
                    refine XS.goto X0.here hx rfl (pc0 := 61) (pc' := 65) rfl (hb hby d1_61) (by decide) (by decide) ?_
                    show Steps p.tables e below (s₁.setTop (mkF m 65 #[.val (.int c1)] [(.int (1 : Int32))])) _
                    have hv : own_un c1 = (1 : Int32) := own_yes (by omega)
                    rw [hv] at hr
                    exact retN X0 hx (t := .boolean) Bd.returns (by simp) (hb hby d1_65) hr
                  · refine XS.icmpYes X0.here hx rfl (pc0 := 57) (pc' := 64) rfl (hb hby d1_57) rfl (feq (fun q : c1 = (126 : Int32) => h57 (Int32.toInt_inj.mpr q))).2 (by decide) (by decide) ?_
                    show Steps p.tables e below (s₁.setTop (mkF m 64 #[.val (.int c1)] [])) _
                    refine XS.iconst X0.here hx rfl (hb hby d1_64) ?_
                    show Steps p.tables e below (s₁.setTop (mkF m 65 #[.val (.int c1)] [(.int (0 : Int32))])) _
                    have hv : own_un c1 = (0 : Int32) := own_no (by omega)
                    rw [hv] at hr
                    exact retN X0 hx (t := .boolean) Bd.returns (by simp) (hb hby d1_65) hr
          · refine XS.icmpNo X0.here hx rfl (hb hby d1_27) rfl (flt (fun q : c1 < (48 : Int32) => h27 (Int32.lt_iff_toInt_lt.mp q))).1 ?_
            show Steps p.tables e below (s₁.setTop (mkF m 30 #[.val (.int c1)] [])) _
            refine XS.iloadN X0.here hx rfl (hb hby d1_30) rfl ?_
            show Steps p.tables e below (s₁.setTop (mkF m 31 #[.val (.int c1)] [(.int c1)])) _
            refine XS.bipush X0.here hx rfl (hb hby d1_31) ?_
            show Steps p.tables e below (s₁.setTop (mkF m 33 #[.val (.int c1)] [(.int (57 : Int32)), (.int c1)])) _
            by_cases h33 : 57 < c1.toInt
            · refine XS.icmpNo X0.here hx rfl (hb hby d1_33) rfl (tlt (show (57 : Int32) < c1 from Int32.lt_iff_toInt_lt.mpr h33)).2.2.2 ?_
              show Steps p.tables e below (s₁.setTop (mkF m 36 #[.val (.int c1)] [])) _
              refine XS.iloadN X0.here hx rfl (hb hby d1_36) rfl ?_
              show Steps p.tables e below (s₁.setTop (mkF m 37 #[.val (.int c1)] [(.int c1)])) _
              refine XS.bipush X0.here hx rfl (hb hby d1_37) ?_
              show Steps p.tables e below (s₁.setTop (mkF m 39 #[.val (.int c1)] [(.int (45 : Int32)), (.int c1)])) _
              by_cases h39 : c1.toInt = 45
              · refine XS.icmpYes X0.here hx rfl (pc0 := 39) (pc' := 60) rfl (hb hby d1_39) rfl (teq (show c1 = (45 : Int32) from Int32.toInt_inj.mp h39)).1 (by decide) (by decide) ?_
                show Steps p.tables e below (s₁.setTop (mkF m 60 #[.val (.int c1)] [])) _
                refine XS.iconst X0.here hx rfl (hb hby d1_60) ?_
                show Steps p.tables e below (s₁.setTop (mkF m 61 #[.val (.int c1)] [(.int (1 : Int32))])) _
                refine XS.goto X0.here hx rfl (pc0 := 61) (pc' := 65) rfl (hb hby d1_61) (by decide) (by decide) ?_
                show Steps p.tables e below (s₁.setTop (mkF m 65 #[.val (.int c1)] [(.int (1 : Int32))])) _
                have hv : own_un c1 = (1 : Int32) := own_yes (by omega)
                rw [hv] at hr
                exact retN X0 hx (t := .boolean) Bd.returns (by simp) (hb hby d1_65) hr
              · refine XS.icmpNo X0.here hx rfl (hb hby d1_39) rfl (feq (fun q : c1 = (45 : Int32) => h39 (Int32.toInt_inj.mpr q))).1 ?_
                show Steps p.tables e below (s₁.setTop (mkF m 42 #[.val (.int c1)] [])) _
                refine XS.iloadN X0.here hx rfl (hb hby d1_42) rfl ?_
                show Steps p.tables e below (s₁.setTop (mkF m 43 #[.val (.int c1)] [(.int c1)])) _
                refine XS.bipush X0.here hx rfl (hb hby d1_43) ?_
                show Steps p.tables e below (s₁.setTop (mkF m 45 #[.val (.int c1)] [(.int (46 : Int32)), (.int c1)])) _
                by_cases h45 : c1.toInt = 46
                · refine XS.icmpYes X0.here hx rfl (pc0 := 45) (pc' := 60) rfl (hb hby d1_45) rfl (teq (show c1 = (46 : Int32) from Int32.toInt_inj.mp h45)).1 (by decide) (by decide) ?_
                  show Steps p.tables e below (s₁.setTop (mkF m 60 #[.val (.int c1)] [])) _
                  refine XS.iconst X0.here hx rfl (hb hby d1_60) ?_
                  show Steps p.tables e below (s₁.setTop (mkF m 61 #[.val (.int c1)] [(.int (1 : Int32))])) _
                  refine XS.goto X0.here hx rfl (pc0 := 61) (pc' := 65) rfl (hb hby d1_61) (by decide) (by decide) ?_
                  show Steps p.tables e below (s₁.setTop (mkF m 65 #[.val (.int c1)] [(.int (1 : Int32))])) _
                  have hv : own_un c1 = (1 : Int32) := own_yes (by omega)
                  rw [hv] at hr
                  exact retN X0 hx (t := .boolean) Bd.returns (by simp) (hb hby d1_65) hr
                · refine XS.icmpNo X0.here hx rfl (hb hby d1_45) rfl (feq (fun q : c1 = (46 : Int32) => h45 (Int32.toInt_inj.mpr q))).1 ?_
                  show Steps p.tables e below (s₁.setTop (mkF m 48 #[.val (.int c1)] [])) _
                  refine XS.iloadN X0.here hx rfl (hb hby d1_48) rfl ?_
                  show Steps p.tables e below (s₁.setTop (mkF m 49 #[.val (.int c1)] [(.int c1)])) _
                  refine XS.bipush X0.here hx rfl (hb hby d1_49) ?_
                  show Steps p.tables e below (s₁.setTop (mkF m 51 #[.val (.int c1)] [(.int (95 : Int32)), (.int c1)])) _
                  by_cases h51 : c1.toInt = 95
                  · refine XS.icmpYes X0.here hx rfl (pc0 := 51) (pc' := 60) rfl (hb hby d1_51) rfl (teq (show c1 = (95 : Int32) from Int32.toInt_inj.mp h51)).1 (by decide) (by decide) ?_
                    show Steps p.tables e below (s₁.setTop (mkF m 60 #[.val (.int c1)] [])) _
                    refine XS.iconst X0.here hx rfl (hb hby d1_60) ?_
                    show Steps p.tables e below (s₁.setTop (mkF m 61 #[.val (.int c1)] [(.int (1 : Int32))])) _
                    refine XS.goto X0.here hx rfl (pc0 := 61) (pc' := 65) rfl (hb hby d1_61) (by decide) (by decide) ?_
                    show Steps p.tables e below (s₁.setTop (mkF m 65 #[.val (.int c1)] [(.int (1 : Int32))])) _
                    have hv : own_un c1 = (1 : Int32) := own_yes (by omega)
                    rw [hv] at hr
                    exact retN X0 hx (t := .boolean) Bd.returns (by simp) (hb hby d1_65) hr
                  · refine XS.icmpNo X0.here hx rfl (hb hby d1_51) rfl (feq (fun q : c1 = (95 : Int32) => h51 (Int32.toInt_inj.mpr q))).1 ?_
                    show Steps p.tables e below (s₁.setTop (mkF m 54 #[.val (.int c1)] [])) _
                    refine XS.iloadN X0.here hx rfl (hb hby d1_54) rfl ?_
                    show Steps p.tables e below (s₁.setTop (mkF m 55 #[.val (.int c1)] [(.int c1)])) _
                    refine XS.bipush X0.here hx rfl (hb hby d1_55) ?_
                    show Steps p.tables e below (s₁.setTop (mkF m 57 #[.val (.int c1)] [(.int (126 : Int32)), (.int c1)])) _
                    by_cases h57 : c1.toInt = 126
                    · refine XS.icmpNo X0.here hx rfl (hb hby d1_57) rfl (teq (show c1 = (126 : Int32) from Int32.toInt_inj.mp h57)).2 ?_
                      show Steps p.tables e below (s₁.setTop (mkF m 60 #[.val (.int c1)] [])) _
                      refine XS.iconst X0.here hx rfl (hb hby d1_60) ?_
                      show Steps p.tables e below (s₁.setTop (mkF m 61 #[.val (.int c1)] [(.int (1 : Int32))])) _
                      refine XS.goto X0.here hx rfl (pc0 := 61) (pc' := 65) rfl (hb hby d1_61) (by decide) (by decide) ?_
                      show Steps p.tables e below (s₁.setTop (mkF m 65 #[.val (.int c1)] [(.int (1 : Int32))])) _
                      have hv : own_un c1 = (1 : Int32) := own_yes (by omega)
                      rw [hv] at hr
                      exact retN X0 hx (t := .boolean) Bd.returns (by simp) (hb hby d1_65) hr
                    · refine XS.icmpYes X0.here hx rfl (pc0 := 57) (pc' := 64) rfl (hb hby d1_57) rfl (feq (fun q : c1 = (126 : Int32) => h57 (Int32.toInt_inj.mpr q))).2 (by decide) (by decide) ?_
                      show Steps p.tables e below (s₁.setTop (mkF m 64 #[.val (.int c1)] [])) _
                      refine XS.iconst X0.here hx rfl (hb hby d1_64) ?_
                      show Steps p.tables e below (s₁.setTop (mkF m 65 #[.val (.int c1)] [(.int (0 : Int32))])) _
                      have hv : own_un c1 = (0 : Int32) := own_no (by omega)
                      rw [hv] at hr
                      exact retN X0 hx (t := .boolean) Bd.returns (by simp) (hb hby d1_65) hr
            · refine XS.icmpYes X0.here hx rfl (pc0 := 33) (pc' := 60) rfl (hb hby d1_33) rfl (flt (fun q : (57 : Int32) < c1 => h33 (Int32.lt_iff_toInt_lt.mp q))).2.2.2 (by decide) (by decide) ?_
              show Steps p.tables e below (s₁.setTop (mkF m 60 #[.val (.int c1)] [])) _
              refine XS.iconst X0.here hx rfl (hb hby d1_60) ?_
              show Steps p.tables e below (s₁.setTop (mkF m 61 #[.val (.int c1)] [(.int (1 : Int32))])) _
              refine XS.goto X0.here hx rfl (pc0 := 61) (pc' := 65) rfl (hb hby d1_61) (by decide) (by decide) ?_
              show Steps p.tables e below (s₁.setTop (mkF m 65 #[.val (.int c1)] [(.int (1 : Int32))])) _
              have hv : own_un c1 = (1 : Int32) := own_yes (by omega)
              rw [hv] at hr
              exact retN X0 hx (t := .boolean) Bd.returns (by simp) (hb hby d1_65) hr
        · refine XS.icmpYes X0.here hx rfl (pc0 := 21) (pc' := 60) rfl (hb hby d1_21) rfl (flt (fun q : (90 : Int32) < c1 => h21 (Int32.lt_iff_toInt_lt.mp q))).2.2.2 (by decide) (by decide) ?_
          show Steps p.tables e below (s₁.setTop (mkF m 60 #[.val (.int c1)] [])) _
          refine XS.iconst X0.here hx rfl (hb hby d1_60) ?_
          show Steps p.tables e below (s₁.setTop (mkF m 61 #[.val (.int c1)] [(.int (1 : Int32))])) _
          refine XS.goto X0.here hx rfl (pc0 := 61) (pc' := 65) rfl (hb hby d1_61) (by decide) (by decide) ?_
          show Steps p.tables e below (s₁.setTop (mkF m 65 #[.val (.int c1)] [(.int (1 : Int32))])) _
          have hv : own_un c1 = (1 : Int32) := own_yes (by omega)
          rw [hv] at hr
          exact retN X0 hx (t := .boolean) Bd.returns (by simp) (hb hby d1_65) hr
    · refine XS.icmpNo X0.here hx rfl (hb hby d1_3) rfl (flt (fun q : c1 < (97 : Int32) => h3 (Int32.lt_iff_toInt_lt.mp q))).1 ?_
      show Steps p.tables e below (s₁.setTop (mkF m 6 #[.val (.int c1)] [])) _
      refine XS.iloadN X0.here hx rfl (hb hby d1_6) rfl ?_
      show Steps p.tables e below (s₁.setTop (mkF m 7 #[.val (.int c1)] [(.int c1)])) _
      refine XS.bipush X0.here hx rfl (hb hby d1_7) ?_
      show Steps p.tables e below (s₁.setTop (mkF m 9 #[.val (.int c1)] [(.int (122 : Int32)), (.int c1)])) _
      by_cases h9 : 122 < c1.toInt
      · refine XS.icmpNo X0.here hx rfl (hb hby d1_9) rfl (tlt (show (122 : Int32) < c1 from Int32.lt_iff_toInt_lt.mpr h9)).2.2.2 ?_
        show Steps p.tables e below (s₁.setTop (mkF m 12 #[.val (.int c1)] [])) _
        refine XS.iloadN X0.here hx rfl (hb hby d1_12) rfl ?_
        show Steps p.tables e below (s₁.setTop (mkF m 13 #[.val (.int c1)] [(.int c1)])) _
        refine XS.bipush X0.here hx rfl (hb hby d1_13) ?_
        show Steps p.tables e below (s₁.setTop (mkF m 15 #[.val (.int c1)] [(.int (65 : Int32)), (.int c1)])) _
        by_cases h15 : c1.toInt < 65
        · refine XS.icmpYes X0.here hx rfl (pc0 := 15) (pc' := 24) rfl (hb hby d1_15) rfl (tlt (show c1 < (65 : Int32) from Int32.lt_iff_toInt_lt.mpr h15)).1 (by decide) (by decide) ?_
          show Steps p.tables e below (s₁.setTop (mkF m 24 #[.val (.int c1)] [])) _
          refine XS.iloadN X0.here hx rfl (hb hby d1_24) rfl ?_
          show Steps p.tables e below (s₁.setTop (mkF m 25 #[.val (.int c1)] [(.int c1)])) _
          refine XS.bipush X0.here hx rfl (hb hby d1_25) ?_
          show Steps p.tables e below (s₁.setTop (mkF m 27 #[.val (.int c1)] [(.int (48 : Int32)), (.int c1)])) _
          by_cases h27 : c1.toInt < 48
          · refine XS.icmpYes X0.here hx rfl (pc0 := 27) (pc' := 36) rfl (hb hby d1_27) rfl (tlt (show c1 < (48 : Int32) from Int32.lt_iff_toInt_lt.mpr h27)).1 (by decide) (by decide) ?_
            show Steps p.tables e below (s₁.setTop (mkF m 36 #[.val (.int c1)] [])) _
            refine XS.iloadN X0.here hx rfl (hb hby d1_36) rfl ?_
            show Steps p.tables e below (s₁.setTop (mkF m 37 #[.val (.int c1)] [(.int c1)])) _
            refine XS.bipush X0.here hx rfl (hb hby d1_37) ?_
            show Steps p.tables e below (s₁.setTop (mkF m 39 #[.val (.int c1)] [(.int (45 : Int32)), (.int c1)])) _
            by_cases h39 : c1.toInt = 45
            · refine XS.icmpYes X0.here hx rfl (pc0 := 39) (pc' := 60) rfl (hb hby d1_39) rfl (teq (show c1 = (45 : Int32) from Int32.toInt_inj.mp h39)).1 (by decide) (by decide) ?_
              show Steps p.tables e below (s₁.setTop (mkF m 60 #[.val (.int c1)] [])) _
              refine XS.iconst X0.here hx rfl (hb hby d1_60) ?_
              show Steps p.tables e below (s₁.setTop (mkF m 61 #[.val (.int c1)] [(.int (1 : Int32))])) _
              refine XS.goto X0.here hx rfl (pc0 := 61) (pc' := 65) rfl (hb hby d1_61) (by decide) (by decide) ?_
              show Steps p.tables e below (s₁.setTop (mkF m 65 #[.val (.int c1)] [(.int (1 : Int32))])) _
              have hv : own_un c1 = (1 : Int32) := own_yes (by omega)
              rw [hv] at hr
              exact retN X0 hx (t := .boolean) Bd.returns (by simp) (hb hby d1_65) hr
            · refine XS.icmpNo X0.here hx rfl (hb hby d1_39) rfl (feq (fun q : c1 = (45 : Int32) => h39 (Int32.toInt_inj.mpr q))).1 ?_
              show Steps p.tables e below (s₁.setTop (mkF m 42 #[.val (.int c1)] [])) _
              refine XS.iloadN X0.here hx rfl (hb hby d1_42) rfl ?_
              show Steps p.tables e below (s₁.setTop (mkF m 43 #[.val (.int c1)] [(.int c1)])) _
              refine XS.bipush X0.here hx rfl (hb hby d1_43) ?_
              show Steps p.tables e below (s₁.setTop (mkF m 45 #[.val (.int c1)] [(.int (46 : Int32)), (.int c1)])) _
              by_cases h45 : c1.toInt = 46
              · refine XS.icmpYes X0.here hx rfl (pc0 := 45) (pc' := 60) rfl (hb hby d1_45) rfl (teq (show c1 = (46 : Int32) from Int32.toInt_inj.mp h45)).1 (by decide) (by decide) ?_
                show Steps p.tables e below (s₁.setTop (mkF m 60 #[.val (.int c1)] [])) _
                refine XS.iconst X0.here hx rfl (hb hby d1_60) ?_
                show Steps p.tables e below (s₁.setTop (mkF m 61 #[.val (.int c1)] [(.int (1 : Int32))])) _
                refine XS.goto X0.here hx rfl (pc0 := 61) (pc' := 65) rfl (hb hby d1_61) (by decide) (by decide) ?_
                show Steps p.tables e below (s₁.setTop (mkF m 65 #[.val (.int c1)] [(.int (1 : Int32))])) _
                have hv : own_un c1 = (1 : Int32) := own_yes (by omega)
                rw [hv] at hr
                exact retN X0 hx (t := .boolean) Bd.returns (by simp) (hb hby d1_65) hr
              · refine XS.icmpNo X0.here hx rfl (hb hby d1_45) rfl (feq (fun q : c1 = (46 : Int32) => h45 (Int32.toInt_inj.mpr q))).1 ?_
                show Steps p.tables e below (s₁.setTop (mkF m 48 #[.val (.int c1)] [])) _
                refine XS.iloadN X0.here hx rfl (hb hby d1_48) rfl ?_
                show Steps p.tables e below (s₁.setTop (mkF m 49 #[.val (.int c1)] [(.int c1)])) _
                refine XS.bipush X0.here hx rfl (hb hby d1_49) ?_
                show Steps p.tables e below (s₁.setTop (mkF m 51 #[.val (.int c1)] [(.int (95 : Int32)), (.int c1)])) _
                by_cases h51 : c1.toInt = 95
                · refine XS.icmpYes X0.here hx rfl (pc0 := 51) (pc' := 60) rfl (hb hby d1_51) rfl (teq (show c1 = (95 : Int32) from Int32.toInt_inj.mp h51)).1 (by decide) (by decide) ?_
                  show Steps p.tables e below (s₁.setTop (mkF m 60 #[.val (.int c1)] [])) _
                  refine XS.iconst X0.here hx rfl (hb hby d1_60) ?_
                  show Steps p.tables e below (s₁.setTop (mkF m 61 #[.val (.int c1)] [(.int (1 : Int32))])) _
                  refine XS.goto X0.here hx rfl (pc0 := 61) (pc' := 65) rfl (hb hby d1_61) (by decide) (by decide) ?_
                  show Steps p.tables e below (s₁.setTop (mkF m 65 #[.val (.int c1)] [(.int (1 : Int32))])) _
                  have hv : own_un c1 = (1 : Int32) := own_yes (by omega)
                  rw [hv] at hr
                  exact retN X0 hx (t := .boolean) Bd.returns (by simp) (hb hby d1_65) hr
                · refine XS.icmpNo X0.here hx rfl (hb hby d1_51) rfl (feq (fun q : c1 = (95 : Int32) => h51 (Int32.toInt_inj.mpr q))).1 ?_
                  show Steps p.tables e below (s₁.setTop (mkF m 54 #[.val (.int c1)] [])) _
                  refine XS.iloadN X0.here hx rfl (hb hby d1_54) rfl ?_
                  show Steps p.tables e below (s₁.setTop (mkF m 55 #[.val (.int c1)] [(.int c1)])) _
                  refine XS.bipush X0.here hx rfl (hb hby d1_55) ?_
                  show Steps p.tables e below (s₁.setTop (mkF m 57 #[.val (.int c1)] [(.int (126 : Int32)), (.int c1)])) _
                  by_cases h57 : c1.toInt = 126
                  · refine XS.icmpNo X0.here hx rfl (hb hby d1_57) rfl (teq (show c1 = (126 : Int32) from Int32.toInt_inj.mp h57)).2 ?_
                    show Steps p.tables e below (s₁.setTop (mkF m 60 #[.val (.int c1)] [])) _
                    refine XS.iconst X0.here hx rfl (hb hby d1_60) ?_
                    show Steps p.tables e below (s₁.setTop (mkF m 61 #[.val (.int c1)] [(.int (1 : Int32))])) _
                    refine XS.goto X0.here hx rfl (pc0 := 61) (pc' := 65) rfl (hb hby d1_61) (by decide) (by decide) ?_
                    show Steps p.tables e below (s₁.setTop (mkF m 65 #[.val (.int c1)] [(.int (1 : Int32))])) _
                    have hv : own_un c1 = (1 : Int32) := own_yes (by omega)
                    rw [hv] at hr
                    exact retN X0 hx (t := .boolean) Bd.returns (by simp) (hb hby d1_65) hr
                  · refine XS.icmpYes X0.here hx rfl (pc0 := 57) (pc' := 64) rfl (hb hby d1_57) rfl (feq (fun q : c1 = (126 : Int32) => h57 (Int32.toInt_inj.mpr q))).2 (by decide) (by decide) ?_
                    show Steps p.tables e below (s₁.setTop (mkF m 64 #[.val (.int c1)] [])) _
                    refine XS.iconst X0.here hx rfl (hb hby d1_64) ?_
                    show Steps p.tables e below (s₁.setTop (mkF m 65 #[.val (.int c1)] [(.int (0 : Int32))])) _
                    have hv : own_un c1 = (0 : Int32) := own_no (by omega)
                    rw [hv] at hr
                    exact retN X0 hx (t := .boolean) Bd.returns (by simp) (hb hby d1_65) hr
          · refine XS.icmpNo X0.here hx rfl (hb hby d1_27) rfl (flt (fun q : c1 < (48 : Int32) => h27 (Int32.lt_iff_toInt_lt.mp q))).1 ?_
            show Steps p.tables e below (s₁.setTop (mkF m 30 #[.val (.int c1)] [])) _
            refine XS.iloadN X0.here hx rfl (hb hby d1_30) rfl ?_
            show Steps p.tables e below (s₁.setTop (mkF m 31 #[.val (.int c1)] [(.int c1)])) _
            refine XS.bipush X0.here hx rfl (hb hby d1_31) ?_
            show Steps p.tables e below (s₁.setTop (mkF m 33 #[.val (.int c1)] [(.int (57 : Int32)), (.int c1)])) _
            by_cases h33 : 57 < c1.toInt
            · refine XS.icmpNo X0.here hx rfl (hb hby d1_33) rfl (tlt (show (57 : Int32) < c1 from Int32.lt_iff_toInt_lt.mpr h33)).2.2.2 ?_
              show Steps p.tables e below (s₁.setTop (mkF m 36 #[.val (.int c1)] [])) _
              refine XS.iloadN X0.here hx rfl (hb hby d1_36) rfl ?_
              show Steps p.tables e below (s₁.setTop (mkF m 37 #[.val (.int c1)] [(.int c1)])) _
              refine XS.bipush X0.here hx rfl (hb hby d1_37) ?_
              show Steps p.tables e below (s₁.setTop (mkF m 39 #[.val (.int c1)] [(.int (45 : Int32)), (.int c1)])) _
              by_cases h39 : c1.toInt = 45
              · refine XS.icmpYes X0.here hx rfl (pc0 := 39) (pc' := 60) rfl (hb hby d1_39) rfl (teq (show c1 = (45 : Int32) from Int32.toInt_inj.mp h39)).1 (by decide) (by decide) ?_
                show Steps p.tables e below (s₁.setTop (mkF m 60 #[.val (.int c1)] [])) _
                refine XS.iconst X0.here hx rfl (hb hby d1_60) ?_
                show Steps p.tables e below (s₁.setTop (mkF m 61 #[.val (.int c1)] [(.int (1 : Int32))])) _
                refine XS.goto X0.here hx rfl (pc0 := 61) (pc' := 65) rfl (hb hby d1_61) (by decide) (by decide) ?_
                show Steps p.tables e below (s₁.setTop (mkF m 65 #[.val (.int c1)] [(.int (1 : Int32))])) _
                have hv : own_un c1 = (1 : Int32) := own_yes (by omega)
                rw [hv] at hr
                exact retN X0 hx (t := .boolean) Bd.returns (by simp) (hb hby d1_65) hr
              · refine XS.icmpNo X0.here hx rfl (hb hby d1_39) rfl (feq (fun q : c1 = (45 : Int32) => h39 (Int32.toInt_inj.mpr q))).1 ?_
                show Steps p.tables e below (s₁.setTop (mkF m 42 #[.val (.int c1)] [])) _
                refine XS.iloadN X0.here hx rfl (hb hby d1_42) rfl ?_
                show Steps p.tables e below (s₁.setTop (mkF m 43 #[.val (.int c1)] [(.int c1)])) _
                refine XS.bipush X0.here hx rfl (hb hby d1_43) ?_
                show Steps p.tables e below (s₁.setTop (mkF m 45 #[.val (.int c1)] [(.int (46 : Int32)), (.int c1)])) _
                by_cases h45 : c1.toInt = 46
                · refine XS.icmpYes X0.here hx rfl (pc0 := 45) (pc' := 60) rfl (hb hby d1_45) rfl (teq (show c1 = (46 : Int32) from Int32.toInt_inj.mp h45)).1 (by decide) (by decide) ?_
                  show Steps p.tables e below (s₁.setTop (mkF m 60 #[.val (.int c1)] [])) _
                  refine XS.iconst X0.here hx rfl (hb hby d1_60) ?_
                  show Steps p.tables e below (s₁.setTop (mkF m 61 #[.val (.int c1)] [(.int (1 : Int32))])) _
                  refine XS.goto X0.here hx rfl (pc0 := 61) (pc' := 65) rfl (hb hby d1_61) (by decide) (by decide) ?_
                  show Steps p.tables e below (s₁.setTop (mkF m 65 #[.val (.int c1)] [(.int (1 : Int32))])) _
                  have hv : own_un c1 = (1 : Int32) := own_yes (by omega)
                  rw [hv] at hr
                  exact retN X0 hx (t := .boolean) Bd.returns (by simp) (hb hby d1_65) hr
                · refine XS.icmpNo X0.here hx rfl (hb hby d1_45) rfl (feq (fun q : c1 = (46 : Int32) => h45 (Int32.toInt_inj.mpr q))).1 ?_
                  show Steps p.tables e below (s₁.setTop (mkF m 48 #[.val (.int c1)] [])) _
                  refine XS.iloadN X0.here hx rfl (hb hby d1_48) rfl ?_
                  show Steps p.tables e below (s₁.setTop (mkF m 49 #[.val (.int c1)] [(.int c1)])) _
                  refine XS.bipush X0.here hx rfl (hb hby d1_49) ?_
                  show Steps p.tables e below (s₁.setTop (mkF m 51 #[.val (.int c1)] [(.int (95 : Int32)), (.int c1)])) _
                  by_cases h51 : c1.toInt = 95
                  · refine XS.icmpYes X0.here hx rfl (pc0 := 51) (pc' := 60) rfl (hb hby d1_51) rfl (teq (show c1 = (95 : Int32) from Int32.toInt_inj.mp h51)).1 (by decide) (by decide) ?_
                    show Steps p.tables e below (s₁.setTop (mkF m 60 #[.val (.int c1)] [])) _
                    refine XS.iconst X0.here hx rfl (hb hby d1_60) ?_
                    show Steps p.tables e below (s₁.setTop (mkF m 61 #[.val (.int c1)] [(.int (1 : Int32))])) _
                    refine XS.goto X0.here hx rfl (pc0 := 61) (pc' := 65) rfl (hb hby d1_61) (by decide) (by decide) ?_
                    show Steps p.tables e below (s₁.setTop (mkF m 65 #[.val (.int c1)] [(.int (1 : Int32))])) _
                    have hv : own_un c1 = (1 : Int32) := own_yes (by omega)
                    rw [hv] at hr
                    exact retN X0 hx (t := .boolean) Bd.returns (by simp) (hb hby d1_65) hr
                  · refine XS.icmpNo X0.here hx rfl (hb hby d1_51) rfl (feq (fun q : c1 = (95 : Int32) => h51 (Int32.toInt_inj.mpr q))).1 ?_
                    show Steps p.tables e below (s₁.setTop (mkF m 54 #[.val (.int c1)] [])) _
                    refine XS.iloadN X0.here hx rfl (hb hby d1_54) rfl ?_
                    show Steps p.tables e below (s₁.setTop (mkF m 55 #[.val (.int c1)] [(.int c1)])) _
                    refine XS.bipush X0.here hx rfl (hb hby d1_55) ?_
                    show Steps p.tables e below (s₁.setTop (mkF m 57 #[.val (.int c1)] [(.int (126 : Int32)), (.int c1)])) _
                    by_cases h57 : c1.toInt = 126
                    · refine XS.icmpNo X0.here hx rfl (hb hby d1_57) rfl (teq (show c1 = (126 : Int32) from Int32.toInt_inj.mp h57)).2 ?_
                      show Steps p.tables e below (s₁.setTop (mkF m 60 #[.val (.int c1)] [])) _
                      refine XS.iconst X0.here hx rfl (hb hby d1_60) ?_
                      show Steps p.tables e below (s₁.setTop (mkF m 61 #[.val (.int c1)] [(.int (1 : Int32))])) _
                      refine XS.goto X0.here hx rfl (pc0 := 61) (pc' := 65) rfl (hb hby d1_61) (by decide) (by decide) ?_
                      show Steps p.tables e below (s₁.setTop (mkF m 65 #[.val (.int c1)] [(.int (1 : Int32))])) _
                      have hv : own_un c1 = (1 : Int32) := own_yes (by omega)
                      rw [hv] at hr
                      exact retN X0 hx (t := .boolean) Bd.returns (by simp) (hb hby d1_65) hr
                    · refine XS.icmpYes X0.here hx rfl (pc0 := 57) (pc' := 64) rfl (hb hby d1_57) rfl (feq (fun q : c1 = (126 : Int32) => h57 (Int32.toInt_inj.mpr q))).2 (by decide) (by decide) ?_
                      show Steps p.tables e below (s₁.setTop (mkF m 64 #[.val (.int c1)] [])) _
                      refine XS.iconst X0.here hx rfl (hb hby d1_64) ?_
                      show Steps p.tables e below (s₁.setTop (mkF m 65 #[.val (.int c1)] [(.int (0 : Int32))])) _
                      have hv : own_un c1 = (0 : Int32) := own_no (by omega)
                      rw [hv] at hr
                      exact retN X0 hx (t := .boolean) Bd.returns (by simp) (hb hby d1_65) hr
            · refine XS.icmpYes X0.here hx rfl (pc0 := 33) (pc' := 60) rfl (hb hby d1_33) rfl (flt (fun q : (57 : Int32) < c1 => h33 (Int32.lt_iff_toInt_lt.mp q))).2.2.2 (by decide) (by decide) ?_
              show Steps p.tables e below (s₁.setTop (mkF m 60 #[.val (.int c1)] [])) _
              refine XS.iconst X0.here hx rfl (hb hby d1_60) ?_
              show Steps p.tables e below (s₁.setTop (mkF m 61 #[.val (.int c1)] [(.int (1 : Int32))])) _
              refine XS.goto X0.here hx rfl (pc0 := 61) (pc' := 65) rfl (hb hby d1_61) (by decide) (by decide) ?_
              show Steps p.tables e below (s₁.setTop (mkF m 65 #[.val (.int c1)] [(.int (1 : Int32))])) _
              have hv : own_un c1 = (1 : Int32) := own_yes (by omega)
              rw [hv] at hr
              exact retN X0 hx (t := .boolean) Bd.returns (by simp) (hb hby d1_65) hr
        · refine XS.icmpNo X0.here hx rfl (hb hby d1_15) rfl (flt (fun q : c1 < (65 : Int32) => h15 (Int32.lt_iff_toInt_lt.mp q))).1 ?_
          show Steps p.tables e below (s₁.setTop (mkF m 18 #[.val (.int c1)] [])) _
          refine XS.iloadN X0.here hx rfl (hb hby d1_18) rfl ?_
          show Steps p.tables e below (s₁.setTop (mkF m 19 #[.val (.int c1)] [(.int c1)])) _
          refine XS.bipush X0.here hx rfl (hb hby d1_19) ?_
          show Steps p.tables e below (s₁.setTop (mkF m 21 #[.val (.int c1)] [(.int (90 : Int32)), (.int c1)])) _
          by_cases h21 : 90 < c1.toInt
          · refine XS.icmpNo X0.here hx rfl (hb hby d1_21) rfl (tlt (show (90 : Int32) < c1 from Int32.lt_iff_toInt_lt.mpr h21)).2.2.2 ?_
            show Steps p.tables e below (s₁.setTop (mkF m 24 #[.val (.int c1)] [])) _
            refine XS.iloadN X0.here hx rfl (hb hby d1_24) rfl ?_
            show Steps p.tables e below (s₁.setTop (mkF m 25 #[.val (.int c1)] [(.int c1)])) _
            refine XS.bipush X0.here hx rfl (hb hby d1_25) ?_
            show Steps p.tables e below (s₁.setTop (mkF m 27 #[.val (.int c1)] [(.int (48 : Int32)), (.int c1)])) _
            by_cases h27 : c1.toInt < 48
            · refine XS.icmpYes X0.here hx rfl (pc0 := 27) (pc' := 36) rfl (hb hby d1_27) rfl (tlt (show c1 < (48 : Int32) from Int32.lt_iff_toInt_lt.mpr h27)).1 (by decide) (by decide) ?_
              show Steps p.tables e below (s₁.setTop (mkF m 36 #[.val (.int c1)] [])) _
              refine XS.iloadN X0.here hx rfl (hb hby d1_36) rfl ?_
              show Steps p.tables e below (s₁.setTop (mkF m 37 #[.val (.int c1)] [(.int c1)])) _
              refine XS.bipush X0.here hx rfl (hb hby d1_37) ?_
              show Steps p.tables e below (s₁.setTop (mkF m 39 #[.val (.int c1)] [(.int (45 : Int32)), (.int c1)])) _
              by_cases h39 : c1.toInt = 45
              · refine XS.icmpYes X0.here hx rfl (pc0 := 39) (pc' := 60) rfl (hb hby d1_39) rfl (teq (show c1 = (45 : Int32) from Int32.toInt_inj.mp h39)).1 (by decide) (by decide) ?_
                show Steps p.tables e below (s₁.setTop (mkF m 60 #[.val (.int c1)] [])) _
                refine XS.iconst X0.here hx rfl (hb hby d1_60) ?_
                show Steps p.tables e below (s₁.setTop (mkF m 61 #[.val (.int c1)] [(.int (1 : Int32))])) _
                refine XS.goto X0.here hx rfl (pc0 := 61) (pc' := 65) rfl (hb hby d1_61) (by decide) (by decide) ?_
                show Steps p.tables e below (s₁.setTop (mkF m 65 #[.val (.int c1)] [(.int (1 : Int32))])) _
                have hv : own_un c1 = (1 : Int32) := own_yes (by omega)
                rw [hv] at hr
                exact retN X0 hx (t := .boolean) Bd.returns (by simp) (hb hby d1_65) hr
              · refine XS.icmpNo X0.here hx rfl (hb hby d1_39) rfl (feq (fun q : c1 = (45 : Int32) => h39 (Int32.toInt_inj.mpr q))).1 ?_
                show Steps p.tables e below (s₁.setTop (mkF m 42 #[.val (.int c1)] [])) _
                refine XS.iloadN X0.here hx rfl (hb hby d1_42) rfl ?_
                show Steps p.tables e below (s₁.setTop (mkF m 43 #[.val (.int c1)] [(.int c1)])) _
                refine XS.bipush X0.here hx rfl (hb hby d1_43) ?_
                show Steps p.tables e below (s₁.setTop (mkF m 45 #[.val (.int c1)] [(.int (46 : Int32)), (.int c1)])) _
                by_cases h45 : c1.toInt = 46
                · refine XS.icmpYes X0.here hx rfl (pc0 := 45) (pc' := 60) rfl (hb hby d1_45) rfl (teq (show c1 = (46 : Int32) from Int32.toInt_inj.mp h45)).1 (by decide) (by decide) ?_
                  show Steps p.tables e below (s₁.setTop (mkF m 60 #[.val (.int c1)] [])) _
                  refine XS.iconst X0.here hx rfl (hb hby d1_60) ?_
                  show Steps p.tables e below (s₁.setTop (mkF m 61 #[.val (.int c1)] [(.int (1 : Int32))])) _
                  refine XS.goto X0.here hx rfl (pc0 := 61) (pc' := 65) rfl (hb hby d1_61) (by decide) (by decide) ?_
                  show Steps p.tables e below (s₁.setTop (mkF m 65 #[.val (.int c1)] [(.int (1 : Int32))])) _
                  have hv : own_un c1 = (1 : Int32) := own_yes (by omega)
                  rw [hv] at hr
                  exact retN X0 hx (t := .boolean) Bd.returns (by simp) (hb hby d1_65) hr
                · refine XS.icmpNo X0.here hx rfl (hb hby d1_45) rfl (feq (fun q : c1 = (46 : Int32) => h45 (Int32.toInt_inj.mpr q))).1 ?_
                  show Steps p.tables e below (s₁.setTop (mkF m 48 #[.val (.int c1)] [])) _
                  refine XS.iloadN X0.here hx rfl (hb hby d1_48) rfl ?_
                  show Steps p.tables e below (s₁.setTop (mkF m 49 #[.val (.int c1)] [(.int c1)])) _
                  refine XS.bipush X0.here hx rfl (hb hby d1_49) ?_
                  show Steps p.tables e below (s₁.setTop (mkF m 51 #[.val (.int c1)] [(.int (95 : Int32)), (.int c1)])) _
                  by_cases h51 : c1.toInt = 95
                  · refine XS.icmpYes X0.here hx rfl (pc0 := 51) (pc' := 60) rfl (hb hby d1_51) rfl (teq (show c1 = (95 : Int32) from Int32.toInt_inj.mp h51)).1 (by decide) (by decide) ?_
                    show Steps p.tables e below (s₁.setTop (mkF m 60 #[.val (.int c1)] [])) _
                    refine XS.iconst X0.here hx rfl (hb hby d1_60) ?_
                    show Steps p.tables e below (s₁.setTop (mkF m 61 #[.val (.int c1)] [(.int (1 : Int32))])) _
                    refine XS.goto X0.here hx rfl (pc0 := 61) (pc' := 65) rfl (hb hby d1_61) (by decide) (by decide) ?_
                    show Steps p.tables e below (s₁.setTop (mkF m 65 #[.val (.int c1)] [(.int (1 : Int32))])) _
                    have hv : own_un c1 = (1 : Int32) := own_yes (by omega)
                    rw [hv] at hr
                    exact retN X0 hx (t := .boolean) Bd.returns (by simp) (hb hby d1_65) hr
                  · refine XS.icmpNo X0.here hx rfl (hb hby d1_51) rfl (feq (fun q : c1 = (95 : Int32) => h51 (Int32.toInt_inj.mpr q))).1 ?_
                    show Steps p.tables e below (s₁.setTop (mkF m 54 #[.val (.int c1)] [])) _
                    refine XS.iloadN X0.here hx rfl (hb hby d1_54) rfl ?_
                    show Steps p.tables e below (s₁.setTop (mkF m 55 #[.val (.int c1)] [(.int c1)])) _
                    refine XS.bipush X0.here hx rfl (hb hby d1_55) ?_
                    show Steps p.tables e below (s₁.setTop (mkF m 57 #[.val (.int c1)] [(.int (126 : Int32)), (.int c1)])) _
                    by_cases h57 : c1.toInt = 126
                    · refine XS.icmpNo X0.here hx rfl (hb hby d1_57) rfl (teq (show c1 = (126 : Int32) from Int32.toInt_inj.mp h57)).2 ?_
                      show Steps p.tables e below (s₁.setTop (mkF m 60 #[.val (.int c1)] [])) _
                      refine XS.iconst X0.here hx rfl (hb hby d1_60) ?_
                      show Steps p.tables e below (s₁.setTop (mkF m 61 #[.val (.int c1)] [(.int (1 : Int32))])) _
                      refine XS.goto X0.here hx rfl (pc0 := 61) (pc' := 65) rfl (hb hby d1_61) (by decide) (by decide) ?_
                      show Steps p.tables e below (s₁.setTop (mkF m 65 #[.val (.int c1)] [(.int (1 : Int32))])) _
                      have hv : own_un c1 = (1 : Int32) := own_yes (by omega)
                      rw [hv] at hr
                      exact retN X0 hx (t := .boolean) Bd.returns (by simp) (hb hby d1_65) hr
                    · refine XS.icmpYes X0.here hx rfl (pc0 := 57) (pc' := 64) rfl (hb hby d1_57) rfl (feq (fun q : c1 = (126 : Int32) => h57 (Int32.toInt_inj.mpr q))).2 (by decide) (by decide) ?_
                      show Steps p.tables e below (s₁.setTop (mkF m 64 #[.val (.int c1)] [])) _
                      refine XS.iconst X0.here hx rfl (hb hby d1_64) ?_
                      show Steps p.tables e below (s₁.setTop (mkF m 65 #[.val (.int c1)] [(.int (0 : Int32))])) _
                      have hv : own_un c1 = (0 : Int32) := own_no (by omega)
                      rw [hv] at hr
                      exact retN X0 hx (t := .boolean) Bd.returns (by simp) (hb hby d1_65) hr
            · refine XS.icmpNo X0.here hx rfl (hb hby d1_27) rfl (flt (fun q : c1 < (48 : Int32) => h27 (Int32.lt_iff_toInt_lt.mp q))).1 ?_
              show Steps p.tables e below (s₁.setTop (mkF m 30 #[.val (.int c1)] [])) _
              refine XS.iloadN X0.here hx rfl (hb hby d1_30) rfl ?_
              show Steps p.tables e below (s₁.setTop (mkF m 31 #[.val (.int c1)] [(.int c1)])) _
              refine XS.bipush X0.here hx rfl (hb hby d1_31) ?_
              show Steps p.tables e below (s₁.setTop (mkF m 33 #[.val (.int c1)] [(.int (57 : Int32)), (.int c1)])) _
              by_cases h33 : 57 < c1.toInt
              · refine XS.icmpNo X0.here hx rfl (hb hby d1_33) rfl (tlt (show (57 : Int32) < c1 from Int32.lt_iff_toInt_lt.mpr h33)).2.2.2 ?_
                show Steps p.tables e below (s₁.setTop (mkF m 36 #[.val (.int c1)] [])) _
                refine XS.iloadN X0.here hx rfl (hb hby d1_36) rfl ?_
                show Steps p.tables e below (s₁.setTop (mkF m 37 #[.val (.int c1)] [(.int c1)])) _
                refine XS.bipush X0.here hx rfl (hb hby d1_37) ?_
                show Steps p.tables e below (s₁.setTop (mkF m 39 #[.val (.int c1)] [(.int (45 : Int32)), (.int c1)])) _
                by_cases h39 : c1.toInt = 45
                · refine XS.icmpYes X0.here hx rfl (pc0 := 39) (pc' := 60) rfl (hb hby d1_39) rfl (teq (show c1 = (45 : Int32) from Int32.toInt_inj.mp h39)).1 (by decide) (by decide) ?_
                  show Steps p.tables e below (s₁.setTop (mkF m 60 #[.val (.int c1)] [])) _
                  refine XS.iconst X0.here hx rfl (hb hby d1_60) ?_
                  show Steps p.tables e below (s₁.setTop (mkF m 61 #[.val (.int c1)] [(.int (1 : Int32))])) _
                  refine XS.goto X0.here hx rfl (pc0 := 61) (pc' := 65) rfl (hb hby d1_61) (by decide) (by decide) ?_
                  show Steps p.tables e below (s₁.setTop (mkF m 65 #[.val (.int c1)] [(.int (1 : Int32))])) _
                  have hv : own_un c1 = (1 : Int32) := own_yes (by omega)
                  rw [hv] at hr
                  exact retN X0 hx (t := .boolean) Bd.returns (by simp) (hb hby d1_65) hr
                · refine XS.icmpNo X0.here hx rfl (hb hby d1_39) rfl (feq (fun q : c1 = (45 : Int32) => h39 (Int32.toInt_inj.mpr q))).1 ?_
                  show Steps p.tables e below (s₁.setTop (mkF m 42 #[.val (.int c1)] [])) _
                  refine XS.iloadN X0.here hx rfl (hb hby d1_42) rfl ?_
                  show Steps p.tables e below (s₁.setTop (mkF m 43 #[.val (.int c1)] [(.int c1)])) _
                  refine XS.bipush X0.here hx rfl (hb hby d1_43) ?_
                  show Steps p.tables e below (s₁.setTop (mkF m 45 #[.val (.int c1)] [(.int (46 : Int32)), (.int c1)])) _
                  by_cases h45 : c1.toInt = 46
                  · refine XS.icmpYes X0.here hx rfl (pc0 := 45) (pc' := 60) rfl (hb hby d1_45) rfl (teq (show c1 = (46 : Int32) from Int32.toInt_inj.mp h45)).1 (by decide) (by decide) ?_
                    show Steps p.tables e below (s₁.setTop (mkF m 60 #[.val (.int c1)] [])) _
                    refine XS.iconst X0.here hx rfl (hb hby d1_60) ?_
                    show Steps p.tables e below (s₁.setTop (mkF m 61 #[.val (.int c1)] [(.int (1 : Int32))])) _
                    refine XS.goto X0.here hx rfl (pc0 := 61) (pc' := 65) rfl (hb hby d1_61) (by decide) (by decide) ?_
                    show Steps p.tables e below (s₁.setTop (mkF m 65 #[.val (.int c1)] [(.int (1 : Int32))])) _
                    have hv : own_un c1 = (1 : Int32) := own_yes (by omega)
                    rw [hv] at hr
                    exact retN X0 hx (t := .boolean) Bd.returns (by simp) (hb hby d1_65) hr
                  · refine XS.icmpNo X0.here hx rfl (hb hby d1_45) rfl (feq (fun q : c1 = (46 : Int32) => h45 (Int32.toInt_inj.mpr q))).1 ?_
                    show Steps p.tables e below (s₁.setTop (mkF m 48 #[.val (.int c1)] [])) _
                    refine XS.iloadN X0.here hx rfl (hb hby d1_48) rfl ?_
                    show Steps p.tables e below (s₁.setTop (mkF m 49 #[.val (.int c1)] [(.int c1)])) _
                    refine XS.bipush X0.here hx rfl (hb hby d1_49) ?_
                    show Steps p.tables e below (s₁.setTop (mkF m 51 #[.val (.int c1)] [(.int (95 : Int32)), (.int c1)])) _
                    by_cases h51 : c1.toInt = 95
                    · refine XS.icmpYes X0.here hx rfl (pc0 := 51) (pc' := 60) rfl (hb hby d1_51) rfl (teq (show c1 = (95 : Int32) from Int32.toInt_inj.mp h51)).1 (by decide) (by decide) ?_
                      show Steps p.tables e below (s₁.setTop (mkF m 60 #[.val (.int c1)] [])) _
                      refine XS.iconst X0.here hx rfl (hb hby d1_60) ?_
                      show Steps p.tables e below (s₁.setTop (mkF m 61 #[.val (.int c1)] [(.int (1 : Int32))])) _
                      refine XS.goto X0.here hx rfl (pc0 := 61) (pc' := 65) rfl (hb hby d1_61) (by decide) (by decide) ?_
                      show Steps p.tables e below (s₁.setTop (mkF m 65 #[.val (.int c1)] [(.int (1 : Int32))])) _
                      have hv : own_un c1 = (1 : Int32) := own_yes (by omega)
                      rw [hv] at hr
                      exact retN X0 hx (t := .boolean) Bd.returns (by simp) (hb hby d1_65) hr
                    · refine XS.icmpNo X0.here hx rfl (hb hby d1_51) rfl (feq (fun q : c1 = (95 : Int32) => h51 (Int32.toInt_inj.mpr q))).1 ?_
                      show Steps p.tables e below (s₁.setTop (mkF m 54 #[.val (.int c1)] [])) _
                      refine XS.iloadN X0.here hx rfl (hb hby d1_54) rfl ?_
                      show Steps p.tables e below (s₁.setTop (mkF m 55 #[.val (.int c1)] [(.int c1)])) _
                      refine XS.bipush X0.here hx rfl (hb hby d1_55) ?_
                      show Steps p.tables e below (s₁.setTop (mkF m 57 #[.val (.int c1)] [(.int (126 : Int32)), (.int c1)])) _
                      by_cases h57 : c1.toInt = 126
                      · refine XS.icmpNo X0.here hx rfl (hb hby d1_57) rfl (teq (show c1 = (126 : Int32) from Int32.toInt_inj.mp h57)).2 ?_
                        show Steps p.tables e below (s₁.setTop (mkF m 60 #[.val (.int c1)] [])) _
                        refine XS.iconst X0.here hx rfl (hb hby d1_60) ?_
                        show Steps p.tables e below (s₁.setTop (mkF m 61 #[.val (.int c1)] [(.int (1 : Int32))])) _
                        refine XS.goto X0.here hx rfl (pc0 := 61) (pc' := 65) rfl (hb hby d1_61) (by decide) (by decide) ?_
                        show Steps p.tables e below (s₁.setTop (mkF m 65 #[.val (.int c1)] [(.int (1 : Int32))])) _
                        have hv : own_un c1 = (1 : Int32) := own_yes (by omega)
                        rw [hv] at hr
                        exact retN X0 hx (t := .boolean) Bd.returns (by simp) (hb hby d1_65) hr
                      · refine XS.icmpYes X0.here hx rfl (pc0 := 57) (pc' := 64) rfl (hb hby d1_57) rfl (feq (fun q : c1 = (126 : Int32) => h57 (Int32.toInt_inj.mpr q))).2 (by decide) (by decide) ?_
                        show Steps p.tables e below (s₁.setTop (mkF m 64 #[.val (.int c1)] [])) _
                        refine XS.iconst X0.here hx rfl (hb hby d1_64) ?_
                        show Steps p.tables e below (s₁.setTop (mkF m 65 #[.val (.int c1)] [(.int (0 : Int32))])) _
                        have hv : own_un c1 = (0 : Int32) := own_no (by omega)
                        rw [hv] at hr
                        exact retN X0 hx (t := .boolean) Bd.returns (by simp) (hb hby d1_65) hr
              · refine XS.icmpYes X0.here hx rfl (pc0 := 33) (pc' := 60) rfl (hb hby d1_33) rfl (flt (fun q : (57 : Int32) < c1 => h33 (Int32.lt_iff_toInt_lt.mp q))).2.2.2 (by decide) (by decide) ?_
                show Steps p.tables e below (s₁.setTop (mkF m 60 #[.val (.int c1)] [])) _
                refine XS.iconst X0.here hx rfl (hb hby d1_60) ?_
                show Steps p.tables e below (s₁.setTop (mkF m 61 #[.val (.int c1)] [(.int (1 : Int32))])) _
                refine XS.goto X0.here hx rfl (pc0 := 61) (pc' := 65) rfl (hb hby d1_61) (by decide) (by decide) ?_
                show Steps p.tables e below (s₁.setTop (mkF m 65 #[.val (.int c1)] [(.int (1 : Int32))])) _
                have hv : own_un c1 = (1 : Int32) := own_yes (by omega)
                rw [hv] at hr
                exact retN X0 hx (t := .boolean) Bd.returns (by simp) (hb hby d1_65) hr
          · refine XS.icmpYes X0.here hx rfl (pc0 := 21) (pc' := 60) rfl (hb hby d1_21) rfl (flt (fun q : (90 : Int32) < c1 => h21 (Int32.lt_iff_toInt_lt.mp q))).2.2.2 (by decide) (by decide) ?_
            show Steps p.tables e below (s₁.setTop (mkF m 60 #[.val (.int c1)] [])) _
            refine XS.iconst X0.here hx rfl (hb hby d1_60) ?_
            show Steps p.tables e below (s₁.setTop (mkF m 61 #[.val (.int c1)] [(.int (1 : Int32))])) _
            refine XS.goto X0.here hx rfl (pc0 := 61) (pc' := 65) rfl (hb hby d1_61) (by decide) (by decide) ?_
            show Steps p.tables e below (s₁.setTop (mkF m 65 #[.val (.int c1)] [(.int (1 : Int32))])) _
            have hv : own_un c1 = (1 : Int32) := own_yes (by omega)
            rw [hv] at hr
            exact retN X0 hx (t := .boolean) Bd.returns (by simp) (hb hby d1_65) hr
      · refine XS.icmpYes X0.here hx rfl (pc0 := 9) (pc' := 60) rfl (hb hby d1_9) rfl (flt (fun q : (122 : Int32) < c1 => h9 (Int32.lt_iff_toInt_lt.mp q))).2.2.2 (by decide) (by decide) ?_
        show Steps p.tables e below (s₁.setTop (mkF m 60 #[.val (.int c1)] [])) _
        refine XS.iconst X0.here hx rfl (hb hby d1_60) ?_
        show Steps p.tables e below (s₁.setTop (mkF m 61 #[.val (.int c1)] [(.int (1 : Int32))])) _
        refine XS.goto X0.here hx rfl (pc0 := 61) (pc' := 65) rfl (hb hby d1_61) (by decide) (by decide) ?_
        show Steps p.tables e below (s₁.setTop (mkF m 65 #[.val (.int c1)] [(.int (1 : Int32))])) _
        have hv : own_un c1 = (1 : Int32) := own_yes (by omega)
        rw [hv] at hr
        exact retN X0 hx (t := .boolean) Bd.returns (by simp) (hb hby d1_65) hr
  · show Q1 Z c1 h0 n0 _ s₁.heap _
    rw [e0]
    exact ⟨rfl, N0, rfl⟩
theorem d2_0 : decode method_2_code 0 = .ok (.ldc2_w 7, 3) := by decide +kernel
theorem d2_3 : decode method_2_code 3 = .ok (.lstore_n 1, 1) := by decide +kernel
theorem d2_4 : decode method_2_code 4 = .ok (.ldc2_w 9, 3) := by decide +kernel
theorem d2_7 : decode method_2_code 7 = .ok (.lstore_n 3, 1) := by decide +kernel
theorem d2_8 : decode method_2_code 8 = .ok (.iload_n 0, 1) := by decide +kernel
theorem d2_9 : decode method_2_code 9 = .ok (.bipush 64, 2) := by decide +kernel
theorem d2_11 : decode method_2_code 11 = .ok (.if_icmp .ge 19, 3) := by decide +kernel
theorem d2_14 : decode method_2_code 14 = .ok (.lload_n 1, 1) := by decide +kernel
theorem d2_15 : decode method_2_code 15 = .ok (.iload_n 0, 1) := by decide +kernel
theorem d2_16 : decode method_2_code 16 = .ok (.lushr, 1) := by decide +kernel
theorem d2_17 : decode method_2_code 17 = .ok (.lconst 1, 1) := by decide +kernel
theorem d2_18 : decode method_2_code 18 = .ok (.land, 1) := by decide +kernel
theorem d2_19 : decode method_2_code 19 = .ok (.lconst 0, 1) := by decide +kernel
theorem d2_20 : decode method_2_code 20 = .ok (.lcmp, 1) := by decide +kernel
theorem d2_21 : decode method_2_code 21 = .ok (.ifCond .eq 7, 3) := by decide +kernel
theorem d2_24 : decode method_2_code 24 = .ok (.iconst 1, 1) := by decide +kernel
theorem d2_25 : decode method_2_code 25 = .ok (.goto 4, 3) := by decide +kernel
theorem d2_28 : decode method_2_code 28 = .ok (.iconst 0, 1) := by decide +kernel
theorem d2_29 : decode method_2_code 29 = .ok (.ireturn, 1) := by decide +kernel
theorem d2_30 : decode method_2_code 30 = .ok (.iload_n 0, 1) := by decide +kernel
theorem d2_31 : decode method_2_code 31 = .ok (.sipush 128, 3) := by decide +kernel
theorem d2_34 : decode method_2_code 34 = .ok (.if_icmp .ge 22, 3) := by decide +kernel
theorem d2_37 : decode method_2_code 37 = .ok (.lload_n 3, 1) := by decide +kernel
theorem d2_38 : decode method_2_code 38 = .ok (.iload_n 0, 1) := by decide +kernel
theorem d2_39 : decode method_2_code 39 = .ok (.bipush 64, 2) := by decide +kernel
theorem d2_41 : decode method_2_code 41 = .ok (.isub, 1) := by decide +kernel
theorem d2_42 : decode method_2_code 42 = .ok (.lushr, 1) := by decide +kernel
theorem d2_43 : decode method_2_code 43 = .ok (.lconst 1, 1) := by decide +kernel
theorem d2_44 : decode method_2_code 44 = .ok (.land, 1) := by decide +kernel
theorem d2_45 : decode method_2_code 45 = .ok (.lconst 0, 1) := by decide +kernel
theorem d2_46 : decode method_2_code 46 = .ok (.lcmp, 1) := by decide +kernel
theorem d2_47 : decode method_2_code 47 = .ok (.ifCond .eq 7, 3) := by decide +kernel
theorem d2_50 : decode method_2_code 50 = .ok (.iconst 1, 1) := by decide +kernel
theorem d2_51 : decode method_2_code 51 = .ok (.goto 4, 3) := by decide +kernel
theorem d2_54 : decode method_2_code 54 = .ok (.iconst 0, 1) := by decide +kernel
theorem d2_55 : decode method_2_code 55 = .ok (.ireturn, 1) := by decide +kernel
theorem d2_56 : decode method_2_code 56 = .ok (.iconst 0, 1) := by decide +kernel
theorem d2_57 : decode method_2_code 57 = .ok (.ireturn, 1) := by decide +kernel
theorem pn_2 : plainName "com/example/request_to_resource/requesttoresource/core/uri/UriComponentIsUnreservedPinLaw" = true := by first | (simp [plainName, overriddenIn]; done) | decide +kernel
theorem ef_2 (m : MethodId) (c1 : Int32) : entryFrame m #[(.int c1)] 5 = mkF m 0 #[.val (.int c1), .unset, .unset, .unset, .unset] [] := by first | (simp [entryFrame, mkF, argsToLocals, Value.category]; done) | rfl
def Q2 (Z : State) (c1 : Int32) (h0 : Heap) (n0 : Nat) (v : Option Value) (h : Heap) (L : List Loc) : Prop := v = some (.int (own_un c1)) ∧ Fr n0 L ∧ h = h0
set_option maxRecDepth 65536 in
set_option maxHeartbeats 40000000 in
theorem rm2 (l : Launch) (Z : State) (a0 : Array Value) (hw : ∀ d ∈ tables_1, d.before a0 Z = true) (ws : List Jvm.Cond) (c1 : Int32) (h0 : Heap) (n0 : Nat) (Z0 : n0 ≤ h0.size) (hc0 : 0 ≤ c1.toInt) :
    MetFree l (⟨"com/example/request_to_resource/requesttoresource/core/uri/UriComponentIsUnreservedPinLaw", "reference", "(I)Z"⟩ : MethodName) (head1 (Jvm.Cond.code (⟨"com/example/request_to_resource/requesttoresource/core/uri/UriComponentIsUnreservedPinLaw", "reference", "(I)Z"⟩ : MethodName) method_2_code 5 (some .boolean) :: ws) ({ frames := 0, cells := 0, slots := 0, locals := 0 } : Room)) (fun a U => a = #[(.int c1)] ∧ Z.Warmed39 U.vm ∧ U.heap = h0) (fun _ _ _ _ _ => True) (fun _ U o U' => ∃ v L, o = .returned v ∧ Q2 Z c1 h0 n0 v U'.heap L ∧ FrameEnd U o U' L ({ frames := 0, cells := 0, slots := 0, locals := 0 } : Room).cells ({ frames := 0, cells := 0, slots := 0, locals := 0 } : Room).slots) := by
  refine MetFree.of_bodySF (plainFor_of_name pn_2) hisR ?_
  intro p e s m args below meth c s₁ Bd hml0 hP hK
  obtain ⟨rfl, hZ, hh⟩ := hP
  have hx := Bd.exec
  have hby := Bd.bytes
  have hml : c.maxLocals = 5 := hml0
  have hown : s.vm.findClass "com/example/request_to_resource/requesttoresource/core/uri/UriComponentIsUnreservedPinLaw" = some m.cls := findClass_of_methodNamed Bd.named
  have hnm := (name_of_methodNamed Bd.named Bd.method).1
  have X0 : Stand p l e ({ frames := 0, cells := 0, slots := 0, locals := 0 } : Room) s m #[(.int c1)] below meth c s₁ [] 0 0 := Stand.of_body Bd
  have e0 : s₁.heap = h0 := by rw [← hh, Bd.state]; rfl
  have N0 := Fr.nil n0
  have pre0 : ∀ t, Steps p.tables e below (s₁.setTop (mkF m 0 #[.val (.int c1), .unset, .unset, .unset, .unset] [])) t → Steps p.tables e below (s₁.setTop (entryFrame m #[(.int c1)] 5)) t := fun t k => castTop (ef_2 m c1) k
  obtain ⟨fs, hr, hrun, hended, hW, hsame⟩ := X0.leave (v := some (.int (own_un c1))) (fun h => by rw [Bd.returns] at h; cases h)
  refine ⟨_, _, pre0 _ ?_, hrun, hended, _, _, rfl, ?_, ⟨_, rfl⟩, hW, hsame.mono (by decide) (by decide)⟩
  · show Steps p.tables e below (s₁.setTop (mkF m 0 #[.val (.int c1), .unset, .unset, .unset, .unset] [])) _
    refine X0.ldc2Long hx hown (mvT hZ (hw _ (List.mem_of_getElem? (i := 9) rfl))) (g := (mkF m 0 #[.val (.int c1), .unset, .unset, .unset, .unset] [])) rfl (hb hby d2_0) _ ?_
    show Steps p.tables e below (s₁.setTop (mkF m 3 #[.val (.int c1), .unset, .unset, .unset, .unset] [(.long (288054454291267584 : Int64))])) _
    refine XS.lstoreN X0.here hx rfl (hb hby d2_3) rfl (l' := #[.val (.int c1), .val (.long (288054454291267584 : Int64)), .second, .unset, .unset]) rfl ?_
    show Steps p.tables e below (s₁.setTop (mkF m 4 #[.val (.int c1), .val (.long (288054454291267584 : Int64)), .second, .unset, .unset] [])) _
    refine X0.ldc2Long hx hown (mvT hZ (hw _ (List.mem_of_getElem? (i := 10) rfl))) (g := (mkF m 4 #[.val (.int c1), .val (.long (288054454291267584 : Int64)), .second, .unset, .unset] [])) rfl (hb hby d2_4) _ ?_
    show Steps p.tables e below (s₁.setTop (mkF m 7 #[.val (.int c1), .val (.long (288054454291267584 : Int64)), .second, .unset, .unset] [(.long (5188146764422578174 : Int64))])) _
    refine XS.lstoreN X0.here hx rfl (hb hby d2_7) rfl (l' := #[.val (.int c1), .val (.long (288054454291267584 : Int64)), .second, .val (.long (5188146764422578174 : Int64)), .second]) rfl ?_
    show Steps p.tables e below (s₁.setTop (mkF m 8 #[.val (.int c1), .val (.long (288054454291267584 : Int64)), .second, .val (.long (5188146764422578174 : Int64)), .second] [])) _
    refine XS.iloadN X0.here hx rfl (hb hby d2_8) rfl ?_
    show Steps p.tables e below (s₁.setTop (mkF m 9 #[.val (.int c1), .val (.long (288054454291267584 : Int64)), .second, .val (.long (5188146764422578174 : Int64)), .second] [(.int c1)])) _
    refine XS.bipush X0.here hx rfl (hb hby d2_9) ?_
    show Steps p.tables e below (s₁.setTop (mkF m 11 #[.val (.int c1), .val (.long (288054454291267584 : Int64)), .second, .val (.long (5188146764422578174 : Int64)), .second] [(.int (64 : Int32)), (.int c1)])) _
    by_cases h11 : c1.toInt < 64
    · refine XS.icmpNo X0.here hx rfl (hb hby d2_11) rfl (tlt (show c1 < (64 : Int32) from Int32.lt_iff_toInt_lt.mpr h11)).2.1 ?_
      show Steps p.tables e below (s₁.setTop (mkF m 14 #[.val (.int c1), .val (.long (288054454291267584 : Int64)), .second, .val (.long (5188146764422578174 : Int64)), .second] [])) _
      refine XS.lloadN X0.here hx rfl (hb hby d2_14) rfl ?_
      show Steps p.tables e below (s₁.setTop (mkF m 15 #[.val (.int c1), .val (.long (288054454291267584 : Int64)), .second, .val (.long (5188146764422578174 : Int64)), .second] [(.long (288054454291267584 : Int64))])) _
      refine XS.iloadN X0.here hx rfl (hb hby d2_15) rfl ?_
      show Steps p.tables e below (s₁.setTop (mkF m 16 #[.val (.int c1), .val (.long (288054454291267584 : Int64)), .second, .val (.long (5188146764422578174 : Int64)), .second] [(.int c1), (.long (288054454291267584 : Int64))])) _
      refine XS.lushr X0.here hx rfl (hb hby d2_16) rfl ?_
      show Steps p.tables e below (s₁.setTop (mkF m 17 #[.val (.int c1), .val (.long (288054454291267584 : Int64)), .second, .val (.long (5188146764422578174 : Int64)), .second] [(.long (((288054454291267584 : Int64).toUInt64 >>> (c1 &&& 0x3f).toInt64.toUInt64).toInt64))])) _
      refine XS.lconst X0.here hx rfl (hb hby d2_17) ?_
      show Steps p.tables e below (s₁.setTop (mkF m 18 #[.val (.int c1), .val (.long (288054454291267584 : Int64)), .second, .val (.long (5188146764422578174 : Int64)), .second] [(.long (1 : Int64)), (.long (((288054454291267584 : Int64).toUInt64 >>> (c1 &&& 0x3f).toInt64.toUInt64).toInt64))])) _
      refine XS.land X0.here hx rfl (hb hby d2_18) rfl ?_
      show Steps p.tables e below (s₁.setTop (mkF m 19 #[.val (.int c1), .val (.long (288054454291267584 : Int64)), .second, .val (.long (5188146764422578174 : Int64)), .second] [(.long ((((288054454291267584 : Int64).toUInt64 >>> (c1 &&& 0x3f).toInt64.toUInt64).toInt64) &&& (1 : Int64)))])) _
      refine XS.lconst X0.here hx rfl (hb hby d2_19) ?_
      show Steps p.tables e below (s₁.setTop (mkF m 20 #[.val (.int c1), .val (.long (288054454291267584 : Int64)), .second, .val (.long (5188146764422578174 : Int64)), .second] [(.long (0 : Int64)), (.long ((((288054454291267584 : Int64).toUInt64 >>> (c1 &&& 0x3f).toInt64.toUInt64).toInt64) &&& (1 : Int64)))])) _
      refine XS.lcmp X0.here hx rfl (hb hby d2_20) rfl ?_
      show Steps p.tables e below (s₁.setTop (mkF m 21 #[.val (.int c1), .val (.long (288054454291267584 : Int64)), .second, .val (.long (5188146764422578174 : Int64)), .second] [(.int (lcmpW ((((288054454291267584 : Int64).toUInt64 >>> (c1 &&& 0x3f).toInt64.toUInt64).toInt64) &&& (1 : Int64)) (0 : Int64)))])) _
      by_cases h21 : ((((288054454291267584 : Int64).toUInt64 >>> (c1 &&& 0x3f).toInt64.toUInt64).toInt64) &&& (1 : Int64)).toInt = 0
      · refine XS.ifYes X0.here hx rfl (pc0 := 21) (pc' := 28) rfl (hb hby d2_21) rfl ((if0 _ _).trans (teq ((lw_eq ((((288054454291267584 : Int64).toUInt64 >>> (c1 &&& 0x3f).toInt64.toUInt64).toInt64) &&& (1 : Int64)) (0 : Int64)).mpr (show ((((288054454291267584 : Int64).toUInt64 >>> (c1 &&& 0x3f).toInt64.toUInt64).toInt64) &&& (1 : Int64)) = (0 : Int64) from Int64.toInt_inj.mp h21))).1) (by decide) (by decide) ?_
        show Steps p.tables e below (s₁.setTop (mkF m 28 #[.val (.int c1), .val (.long (288054454291267584 : Int64)), .second, .val (.long (5188146764422578174 : Int64)), .second] [])) _
        refine XS.iconst X0.here hx rfl (hb hby d2_28) ?_
        show Steps p.tables e below (s₁.setTop (mkF m 29 #[.val (.int c1), .val (.long (288054454291267584 : Int64)), .second, .val (.long (5188146764422578174 : Int64)), .second] [(.int (0 : Int32))])) _
        have hv : own_un c1 = (0 : Int32) := by rw [own_lo c1 hc0 h11, if_pos h21]
        rw [hv] at hr
        exact retN X0 hx (t := .boolean) Bd.returns (by simp) (hb hby d2_29) hr
      · refine XS.ifNo X0.here hx rfl (hb hby d2_21) rfl ((if0 _ _).trans (feq (fun q => h21 (Int64.toInt_inj.mpr ((lw_eq ((((288054454291267584 : Int64).toUInt64 >>> (c1 &&& 0x3f).toInt64.toUInt64).toInt64) &&& (1 : Int64)) (0 : Int64)).mp q)))).1) ?_
        show Steps p.tables e below (s₁.setTop (mkF m 24 #[.val (.int c1), .val (.long (288054454291267584 : Int64)), .second, .val (.long (5188146764422578174 : Int64)), .second] [])) _
        refine XS.iconst X0.here hx rfl (hb hby d2_24) ?_
        show Steps p.tables e below (s₁.setTop (mkF m 25 #[.val (.int c1), .val (.long (288054454291267584 : Int64)), .second, .val (.long (5188146764422578174 : Int64)), .second] [(.int (1 : Int32))])) _
        refine XS.goto X0.here hx rfl (pc0 := 25) (pc' := 29) rfl (hb hby d2_25) (by decide) (by decide) ?_
        show Steps p.tables e below (s₁.setTop (mkF m 29 #[.val (.int c1), .val (.long (288054454291267584 : Int64)), .second, .val (.long (5188146764422578174 : Int64)), .second] [(.int (1 : Int32))])) _
        have hv : own_un c1 = (1 : Int32) := by rw [own_lo c1 hc0 h11, if_neg h21]
        rw [hv] at hr
        exact retN X0 hx (t := .boolean) Bd.returns (by simp) (hb hby d2_29) hr
    · refine XS.icmpYes X0.here hx rfl (pc0 := 11) (pc' := 30) rfl (hb hby d2_11) rfl (flt (fun q : c1 < (64 : Int32) => h11 (Int32.lt_iff_toInt_lt.mp q))).2.1 (by decide) (by decide) ?_
      show Steps p.tables e below (s₁.setTop (mkF m 30 #[.val (.int c1), .val (.long (288054454291267584 : Int64)), .second, .val (.long (5188146764422578174 : Int64)), .second] [])) _
      refine XS.iloadN X0.here hx rfl (hb hby d2_30) rfl ?_
      show Steps p.tables e below (s₁.setTop (mkF m 31 #[.val (.int c1), .val (.long (288054454291267584 : Int64)), .second, .val (.long (5188146764422578174 : Int64)), .second] [(.int c1)])) _
      refine XS.sipush X0.here hx rfl (hb hby d2_31) ?_
      show Steps p.tables e below (s₁.setTop (mkF m 34 #[.val (.int c1), .val (.long (288054454291267584 : Int64)), .second, .val (.long (5188146764422578174 : Int64)), .second] [(.int (128 : Int32)), (.int c1)])) _
      by_cases h34 : c1.toInt < 128
      · refine XS.icmpNo X0.here hx rfl (hb hby d2_34) rfl (tlt (show c1 < (128 : Int32) from Int32.lt_iff_toInt_lt.mpr h34)).2.1 ?_
        show Steps p.tables e below (s₁.setTop (mkF m 37 #[.val (.int c1), .val (.long (288054454291267584 : Int64)), .second, .val (.long (5188146764422578174 : Int64)), .second] [])) _
        refine XS.lloadN X0.here hx rfl (hb hby d2_37) rfl ?_
        show Steps p.tables e below (s₁.setTop (mkF m 38 #[.val (.int c1), .val (.long (288054454291267584 : Int64)), .second, .val (.long (5188146764422578174 : Int64)), .second] [(.long (5188146764422578174 : Int64))])) _
        refine XS.iloadN X0.here hx rfl (hb hby d2_38) rfl ?_
        show Steps p.tables e below (s₁.setTop (mkF m 39 #[.val (.int c1), .val (.long (288054454291267584 : Int64)), .second, .val (.long (5188146764422578174 : Int64)), .second] [(.int c1), (.long (5188146764422578174 : Int64))])) _
        refine XS.bipush X0.here hx rfl (hb hby d2_39) ?_
        show Steps p.tables e below (s₁.setTop (mkF m 41 #[.val (.int c1), .val (.long (288054454291267584 : Int64)), .second, .val (.long (5188146764422578174 : Int64)), .second] [(.int (64 : Int32)), (.int c1), (.long (5188146764422578174 : Int64))])) _
        refine XS.isub X0.here hx rfl (hb hby d2_41) rfl ?_
        show Steps p.tables e below (s₁.setTop (mkF m 42 #[.val (.int c1), .val (.long (288054454291267584 : Int64)), .second, .val (.long (5188146764422578174 : Int64)), .second] [(.int (c1 - (64 : Int32))), (.long (5188146764422578174 : Int64))])) _
        refine XS.lushr X0.here hx rfl (hb hby d2_42) rfl ?_
        show Steps p.tables e below (s₁.setTop (mkF m 43 #[.val (.int c1), .val (.long (288054454291267584 : Int64)), .second, .val (.long (5188146764422578174 : Int64)), .second] [(.long (((5188146764422578174 : Int64).toUInt64 >>> ((c1 - (64 : Int32)) &&& 0x3f).toInt64.toUInt64).toInt64))])) _
        refine XS.lconst X0.here hx rfl (hb hby d2_43) ?_
        show Steps p.tables e below (s₁.setTop (mkF m 44 #[.val (.int c1), .val (.long (288054454291267584 : Int64)), .second, .val (.long (5188146764422578174 : Int64)), .second] [(.long (1 : Int64)), (.long (((5188146764422578174 : Int64).toUInt64 >>> ((c1 - (64 : Int32)) &&& 0x3f).toInt64.toUInt64).toInt64))])) _
        refine XS.land X0.here hx rfl (hb hby d2_44) rfl ?_
        show Steps p.tables e below (s₁.setTop (mkF m 45 #[.val (.int c1), .val (.long (288054454291267584 : Int64)), .second, .val (.long (5188146764422578174 : Int64)), .second] [(.long ((((5188146764422578174 : Int64).toUInt64 >>> ((c1 - (64 : Int32)) &&& 0x3f).toInt64.toUInt64).toInt64) &&& (1 : Int64)))])) _
        refine XS.lconst X0.here hx rfl (hb hby d2_45) ?_
        show Steps p.tables e below (s₁.setTop (mkF m 46 #[.val (.int c1), .val (.long (288054454291267584 : Int64)), .second, .val (.long (5188146764422578174 : Int64)), .second] [(.long (0 : Int64)), (.long ((((5188146764422578174 : Int64).toUInt64 >>> ((c1 - (64 : Int32)) &&& 0x3f).toInt64.toUInt64).toInt64) &&& (1 : Int64)))])) _
        refine XS.lcmp X0.here hx rfl (hb hby d2_46) rfl ?_
        show Steps p.tables e below (s₁.setTop (mkF m 47 #[.val (.int c1), .val (.long (288054454291267584 : Int64)), .second, .val (.long (5188146764422578174 : Int64)), .second] [(.int (lcmpW ((((5188146764422578174 : Int64).toUInt64 >>> ((c1 - (64 : Int32)) &&& 0x3f).toInt64.toUInt64).toInt64) &&& (1 : Int64)) (0 : Int64)))])) _
        by_cases h47 : ((((5188146764422578174 : Int64).toUInt64 >>> ((c1 - (64 : Int32)) &&& 0x3f).toInt64.toUInt64).toInt64) &&& (1 : Int64)).toInt = 0
        · refine XS.ifYes X0.here hx rfl (pc0 := 47) (pc' := 54) rfl (hb hby d2_47) rfl ((if0 _ _).trans (teq ((lw_eq ((((5188146764422578174 : Int64).toUInt64 >>> ((c1 - (64 : Int32)) &&& 0x3f).toInt64.toUInt64).toInt64) &&& (1 : Int64)) (0 : Int64)).mpr (show ((((5188146764422578174 : Int64).toUInt64 >>> ((c1 - (64 : Int32)) &&& 0x3f).toInt64.toUInt64).toInt64) &&& (1 : Int64)) = (0 : Int64) from Int64.toInt_inj.mp h47))).1) (by decide) (by decide) ?_
          show Steps p.tables e below (s₁.setTop (mkF m 54 #[.val (.int c1), .val (.long (288054454291267584 : Int64)), .second, .val (.long (5188146764422578174 : Int64)), .second] [])) _
          refine XS.iconst X0.here hx rfl (hb hby d2_54) ?_
          show Steps p.tables e below (s₁.setTop (mkF m 55 #[.val (.int c1), .val (.long (288054454291267584 : Int64)), .second, .val (.long (5188146764422578174 : Int64)), .second] [(.int (0 : Int32))])) _
          have hv : own_un c1 = (0 : Int32) := by rw [own_hi c1 (by omega) h34, if_pos h47]
          rw [hv] at hr
          exact retN X0 hx (t := .boolean) Bd.returns (by simp) (hb hby d2_55) hr
        · refine XS.ifNo X0.here hx rfl (hb hby d2_47) rfl ((if0 _ _).trans (feq (fun q => h47 (Int64.toInt_inj.mpr ((lw_eq ((((5188146764422578174 : Int64).toUInt64 >>> ((c1 - (64 : Int32)) &&& 0x3f).toInt64.toUInt64).toInt64) &&& (1 : Int64)) (0 : Int64)).mp q)))).1) ?_
          show Steps p.tables e below (s₁.setTop (mkF m 50 #[.val (.int c1), .val (.long (288054454291267584 : Int64)), .second, .val (.long (5188146764422578174 : Int64)), .second] [])) _
          refine XS.iconst X0.here hx rfl (hb hby d2_50) ?_
          show Steps p.tables e below (s₁.setTop (mkF m 51 #[.val (.int c1), .val (.long (288054454291267584 : Int64)), .second, .val (.long (5188146764422578174 : Int64)), .second] [(.int (1 : Int32))])) _
          refine XS.goto X0.here hx rfl (pc0 := 51) (pc' := 55) rfl (hb hby d2_51) (by decide) (by decide) ?_
          show Steps p.tables e below (s₁.setTop (mkF m 55 #[.val (.int c1), .val (.long (288054454291267584 : Int64)), .second, .val (.long (5188146764422578174 : Int64)), .second] [(.int (1 : Int32))])) _
          have hv : own_un c1 = (1 : Int32) := by rw [own_hi c1 (by omega) h34, if_neg h47]
          rw [hv] at hr
          exact retN X0 hx (t := .boolean) Bd.returns (by simp) (hb hby d2_55) hr
      · refine XS.icmpYes X0.here hx rfl (pc0 := 34) (pc' := 56) rfl (hb hby d2_34) rfl (flt (fun q : c1 < (128 : Int32) => h34 (Int32.lt_iff_toInt_lt.mp q))).2.1 (by decide) (by decide) ?_
        show Steps p.tables e below (s₁.setTop (mkF m 56 #[.val (.int c1), .val (.long (288054454291267584 : Int64)), .second, .val (.long (5188146764422578174 : Int64)), .second] [])) _
        refine XS.iconst X0.here hx rfl (hb hby d2_56) ?_
        show Steps p.tables e below (s₁.setTop (mkF m 57 #[.val (.int c1), .val (.long (288054454291267584 : Int64)), .second, .val (.long (5188146764422578174 : Int64)), .second] [(.int (0 : Int32))])) _
        have hv : own_un c1 = (0 : Int32) := own_no (by omega)
        rw [hv] at hr
        exact retN X0 hx (t := .boolean) Bd.returns (by simp) (hb hby d2_57) hr
  · show Q2 Z c1 h0 n0 _ s₁.heap _
    rw [e0]
    exact ⟨rfl, N0, rfl⟩
theorem pn_0 : plainName "com/example/request_to_resource/requesttoresource/core/uri/UriComponentIsUnreservedPinLaw" = true := by first | (simp [plainName, overriddenIn]; done) | decide +kernel
theorem pd_0 : parseMethodDescriptor "(C)Z" = some ⟨[.char], some .boolean⟩ := by decide +kernel
theorem pd_1 : parseMethodDescriptor "(I)Z" = some ⟨[.int], some .boolean⟩ := by decide +kernel
theorem ef_0 (m : MethodId) (p1 : Int32) : entryFrame m #[(.int p1)] maxLocals = mkF m 0 #[.val (.int p1), .unset, .unset] [] := by first | (simp [entryFrame, mkF, argsToLocals, Value.category, maxLocals]; done) | rfl
def Q0 (Z : State) (p1 : Int32) (h0 : Heap) (n0 : Nat) (v : Option Value) (h : Heap) (L : List Loc) : Prop := v = some (.int (1 : Int32)) ∧ Fr n0 L
set_option maxRecDepth 65536 in
set_option maxHeartbeats 40000000 in
theorem rm0 (l : Launch) (Z : State) (a0 : Array Value) (hw : ∀ d ∈ tables_1, d.before a0 Z = true) (ws : List Jvm.Cond) (p1 : Int32) (h0 : Heap) (n0 : Nat) (Z0 : n0 ≤ h0.size) :
    MetFree l x (head1 (Jvm.Cond.code x code maxLocals ret :: ws) room_1) (fun a U => a = #[(.int p1)] ∧ Z.Warmed39 U.vm ∧ U.heap = h0) (fun _ _ _ _ _ => True) (fun _ U o U' => ∃ v L, o = .returned v ∧ Q0 Z p1 h0 n0 v U'.heap L ∧ FrameEnd U o U' L room_1.cells room_1.slots) := by
  refine MetFree.of_bodySF (plainFor_of_name pn_0) hisR ?_
  intro p e s m args below meth c s₁ Bd hml0 hP hK
  obtain ⟨rfl, hZ, hh⟩ := hP
  have hx := Bd.exec
  have hby := Bd.bytes
  have hml : c.maxLocals = 3 := hml0
  have hown : s.vm.findClass "com/example/request_to_resource/requesttoresource/core/uri/UriComponentIsUnreservedPinLaw" = some m.cls := findClass_of_methodNamed Bd.named
  have hnm := (name_of_methodNamed Bd.named Bd.method).1
  have X0 : Stand p l e room_1 s m #[(.int p1)] below meth c s₁ [] 0 0 := Stand.of_body Bd
  have e0 : s₁.heap = h0 := by rw [← hh, Bd.state]; rfl
  have N0 := Fr.nil n0
  have pre0 : ∀ t, Steps p.tables e below (s₁.setTop (mkF m 0 #[.val (.int p1), .unset, .unset] [])) t → Steps p.tables e below (s₁.setTop (entryFrame m #[(.int p1)] maxLocals)) t := fun t k => castTop (ef_0 m p1) k
  obtain ⟨k, hk⟩ : ∃ k : Int32, k = (p1 &&& (65535 : Int32)) := ⟨_, rfl⟩
  have hkb := own_code p1
  rw [← hk] at hkb
  have hch := own_char k hkb.1 hkb.2
  obtain ⟨_, _, ⟨T2, L2, k2, n2⟩, -, X2, ⟨Lc2, hQ2, l2, y2, z2⟩, st2⟩ := Jvm.LawKit.callS X0 hx (y := (⟨"com/example/request_to_resource/requesttoresource/core/uri/UriComponent", "isUnreserved", "(C)Z"⟩ : MethodName)) hown (mvT hZ (hw _ (List.mem_of_getElem? (i := 1) rfl))) (mvT hZ (hw _ (List.mem_of_getElem? (i := 2) rfl))) (mvT hZ (hw _ (List.mem_of_getElem? (i := 3) rfl))) (mvT hZ (hw _ (List.mem_of_getElem? (i := 4) rfl))) (by decide) (backOf (W := 0) (rm1 l Z a0 hw [] k h0 n0 Z0) hZ (hw _ (List.mem_of_getElem? (i := 4) rfl)) (hw _ (List.mem_of_getElem? (i := 3) rfl)) (by decide) (by decide)) (g := (mkF m 9 #[.val (.int p1), .val (.int k), .val (.int k)] [(.int k)])) rfl (by rw [hml]; rfl) (argsL := [(.int k)]) (rest := []) (lenOf pd_0 rfl) rfl (by show 2 * 0 + _ ≤ _; exact Nat.le_of_eq rfl) (hb hby at_9) (fun _ _ => ⟨rfl, e0, (by decide : 0 + 0 ≤ _), (by decide : 0 + 0 ≤ _)⟩)
  dsimp only [Pt.U, Pt.locs, Pt.cells, Pt.slots] at X2 l2 y2 z2 st2 hQ2
  subst l2 y2 z2
  obtain ⟨rfl, N2q, q2⟩ := hQ2
  have N2 := Fr.app N0 N2q
  have Z2 : n0 ≤ T2.heap.size := by rw [q2]; exact Z0
  obtain ⟨_, _, ⟨T3, L3, k3, n3⟩, -, X3, ⟨Lc3, hQ3, l3, y3, z3⟩, st3⟩ := Jvm.LawKit.callS X2 hx (y := (⟨"com/example/request_to_resource/requesttoresource/core/uri/UriComponentIsUnreservedPinLaw", "reference", "(I)Z"⟩ : MethodName)) hown (mvT hZ (hw _ (List.mem_of_getElem? (i := 5) rfl))) (mvT hZ (hw _ (List.mem_of_getElem? (i := 6) rfl))) (mvT hZ (hw _ (List.mem_of_getElem? (i := 7) rfl))) (mvT hZ (hw _ (List.mem_of_getElem? (i := 8) rfl))) (by decide) (backOf (W := 1) (rm2 l Z a0 hw [] k T2.heap n0 Z2 hkb.1) hZ (hw _ (List.mem_of_getElem? (i := 8) rfl)) (hw _ (List.mem_of_getElem? (i := 7) rfl)) (by decide) (by decide)) (g := (mkF m 13 #[.val (.int p1), .val (.int k), .val (.int k)] [(.int k), (.int (own_un k))])) rfl (by rw [hml]; rfl) (argsL := [(.int k)]) (rest := [(.int (own_un k))]) (lenOf pd_1 rfl) rfl (by show 2 * 0 + _ ≤ _; exact Nat.le_of_eq rfl) (hb hby at_13) (fun _ _ => ⟨rfl, rfl, (by decide : 0 + 0 ≤ _), (by decide : 0 + 0 ≤ _)⟩)
  dsimp only [Pt.U, Pt.locs, Pt.cells, Pt.slots] at X3 l3 y3 z3 st3 hQ3
  subst l3 y3 z3
  obtain ⟨rfl, N3q, q3⟩ := hQ3
  have N3 := Fr.app N2 N3q
  obtain ⟨fs, hr, hrun, hended, hW, hsame⟩ := X3.leave (v := some (.int (1 : Int32))) (fun h => by rw [Bd.returns] at h; cases h)
  refine ⟨_, _, pre0 _ ?_, hrun, hended, _, _, rfl, ?_, ⟨_, rfl⟩, hW, hsame.mono (by decide) (by decide)⟩
  · show Steps p.tables e below (s₁.setTop (mkF m 0 #[.val (.int p1), .unset, .unset] [])) _
    refine XS.iloadN X0.here hx rfl (hb hby at_0) rfl ?_
    show Steps p.tables e below (s₁.setTop (mkF m 1 #[.val (.int p1), .unset, .unset] [(.int p1)])) _
    refine X0.ldcInt hx hown (mvT hZ (hw _ (List.mem_of_getElem? (i := 0) rfl))) (g := (mkF m 1 #[.val (.int p1), .unset, .unset] [(.int p1)])) rfl (hb hby at_1) _ ?_
    show Steps p.tables e below (s₁.setTop (mkF m 3 #[.val (.int p1), .unset, .unset] [(.int (65535 : Int32)), (.int p1)])) _
    refine XS.iand X0.here hx rfl (hb hby at_3) rfl ?_
    show Steps p.tables e below (s₁.setTop (mkF m 4 #[.val (.int p1), .unset, .unset] [(.int (p1 &&& (65535 : Int32)))])) _
    rw [← hk]
    show Steps p.tables e below (s₁.setTop (mkF m 4 #[.val (.int p1), .unset, .unset] [(.int k)])) _
    refine XS.istoreN X0.here hx rfl (hb hby at_4) rfl (l' := #[.val (.int p1), .val (.int k), .unset]) rfl ?_
    show Steps p.tables e below (s₁.setTop (mkF m 5 #[.val (.int p1), .val (.int k), .unset] [])) _
    refine XS.iloadN X0.here hx rfl (hb hby at_5) rfl ?_
    show Steps p.tables e below (s₁.setTop (mkF m 6 #[.val (.int p1), .val (.int k), .unset] [(.int k)])) _
    refine XS.i2c X0.here hx rfl (hb hby at_6) rfl ?_
    show Steps p.tables e below (s₁.setTop (mkF m 7 #[.val (.int p1), .val (.int k), .unset] [(.int (k.toUInt32.toUInt16.toUInt32.toInt32))])) _
    rw [hch]
    show Steps p.tables e below (s₁.setTop (mkF m 7 #[.val (.int p1), .val (.int k), .unset] [(.int k)])) _
    refine XS.istoreN X0.here hx rfl (hb hby at_7) rfl (l' := #[.val (.int p1), .val (.int k), .val (.int k)]) rfl ?_
    show Steps p.tables e below (s₁.setTop (mkF m 8 #[.val (.int p1), .val (.int k), .val (.int k)] [])) _
    refine XS.iloadN X0.here hx rfl (hb hby at_8) rfl ?_
    show Steps p.tables e below (s₁.setTop (mkF m 9 #[.val (.int p1), .val (.int k), .val (.int k)] [(.int k)])) _
    refine st2 _ ?_
    show Steps p.tables e below (T2.setTop (mkF m 12 #[.val (.int p1), .val (.int k), .val (.int k)] [(.int (own_un k))])) _
    refine XS.iloadN X2.here hx rfl (hb hby at_12) rfl ?_
    show Steps p.tables e below (T2.setTop (mkF m 13 #[.val (.int p1), .val (.int k), .val (.int k)] [(.int k), (.int (own_un k))])) _
    refine st3 _ ?_
    show Steps p.tables e below (T3.setTop (mkF m 16 #[.val (.int p1), .val (.int k), .val (.int k)] [(.int (own_un k)), (.int (own_un k))])) _
    refine XS.icmpNo X3.here hx rfl (hb hby at_16) rfl (teq rfl).2 ?_
    show Steps p.tables e below (T3.setTop (mkF m 19 #[.val (.int p1), .val (.int k), .val (.int k)] [])) _
    refine XS.iconst X3.here hx rfl (hb hby at_19) ?_
    show Steps p.tables e below (T3.setTop (mkF m 20 #[.val (.int p1), .val (.int k), .val (.int k)] [(.int (1 : Int32))])) _
    refine XS.goto X3.here hx rfl (pc0 := 20) (pc' := 24) rfl (hb hby at_20) (by decide) (by decide) ?_
    show Steps p.tables e below (T3.setTop (mkF m 24 #[.val (.int p1), .val (.int k), .val (.int k)] [(.int (1 : Int32))])) _
    exact retN X3 hx (t := .boolean) Bd.returns (by simp) (hb hby at_24) hr
  · show Q0 Z p1 h0 n0 _ T3.heap _
    exact ⟨rfl, N3⟩
set_option maxRecDepth 65536 in
set_option maxHeartbeats 40000000 in
theorem comes_1 {Post : Tables → Env → Array Value → State → Outcome → State → Prop} (hpost : ∀ tb e args s v u, (limb_1_1.after args s (.returned v) u = true ∧ limb_1_2.after args s (.returned v) u = true ∧ True) → FrameEnd s (.returned v) u (Jvm.fieldLocs frame_1_writes args s ++ Jvm.arrayLocs frame_1_arrays args s ++ Jvm.staticLocs frame_1_statics s) 0 0 → Post tb e args s (.returned v) u) :
    ArmFor flags0 classFile x code maxLocals ret World_1 tables_1 room_1 Calls_1 rest_1 Pre_1 Post := by
  intro l hfl _ _ p e ha hc hk s m args below hf hA hF happ hP
  obtain ⟨hcalls, hrest, hpre⟩ := hP
  obtain ⟨-, -, -, hnamed, -, -, -, hat⟩ := (Spec.applies_iff hf).mp happ
  obtain ⟨hg, hn⟩ := and_e (Cond.before_iff.mp (show (Jvm.Cond.and given_1 narrow_1).before args s = true from hpre))
  obtain ⟨gc, gr0⟩ := and_e hg
  obtain ⟨w0, rfl⟩ : ∃ w0 : Value, args = #[w0] := by
    have hs : args.size = 1 := by simpa [Cond.value, given_1] using gc
    obtain ⟨L⟩ := args
    match L, hs with
    | [w0], _ => exact ⟨w0, rfl⟩
  have hw := fun d (hd : d ∈ tables_1) => atoms_spec (ws := Jvm.Cond.code x code maxLocals ret :: tables_1) hat d (List.mem_cons_of_mem _ hd)
  obtain ⟨i0, ei0⟩ := is_v gr0
  obtain rfl : w0 = (.int i0) := Option.some.inj ei0
  obtain ⟨n, o, h1, h2, h3, _, L, rfl, ⟨rfl, N⟩, hq⟩ := rm0 l s _ hw tables_1 i0 s.heap s.heap.size (Nat.le_refl _) p e ha hc hk s m _ below hf ((Spec.applies_iff_loose hf).mp happ).1 ⟨rfl, State.Warmed39.refl s, rfl⟩ trivial
  refine ⟨n, _, h1, h2, h3, hpost _ _ _ _ _ _ ⟨Cond.after_iff.mpr rfl, Cond.after_iff.mpr (eq_i res_at (Term.int_eval (1)) rfl), trivial⟩ ⟨hq.1, hq.2.1, (hq.2.2.sift fun y hy => Or.inr (N y hy)).mono (by decide) (by decide)⟩⟩
theorem main_1_1 : Claimed_1_1 := comes_1 fun _ _ _ _ _ _ h hF => ⟨h.1, hF⟩
theorem main_1_2 : Claimed_1_2 := comes_1 fun _ _ _ _ _ _ h hF => ⟨h.2.1, hF⟩
end Jvm.Pilot.@@N@@
namespace Jvm.Pilot.@@N@@
open Jvm Jvm.ClassFile Sem Op Lib Jvm.Free Jvm.Stand Jvm.Pilot.@@N@@.Jvm.D
/-! MADE BY PROGRAM (witnessworld.py) out of the Statement's table words and the real class files: 12 classes; the members and pool entries that the words name. The judged class is class 1, her method 2. -/
namespace start1
open Jvm.ClassFile
def u (s : String) : CpInfo := .utf8 (stringToUtf16 s)
/-- a pool by its gaps: so many unusable entries, then the entry; so many at the end -/
def gap : Nat → List CpInfo → List CpInfo
  | 0, r => r
  | n + 1, r => .unusable :: gap n r
def poolList (es : List (Nat × CpInfo)) (last : Nat) : List CpInfo := es.foldr (fun e r => gap e.1 (e.2 :: r)) (gap last [])
def pool (es : List (Nat × CpInfo)) (last : Nat) : Array CpInfo := ⟨poolList es last⟩
def fileOf (pool : Array CpInfo) (this : Nat) (attrs : Array Attribute := #[]) (ms : Array MethodInfo := #[]) (fl : Nat := 33) (sup : Nat := 0) (ifs : Array Nat := #[]) (fds : Array FieldInfo := #[]) : ClassFile where
  minorVersion := 0
  majorVersion := 65
  constantPool := pool
  accessFlags := fl
  thisClass := this
  superClass := sup
  interfaces := ifs
  fields := fds
  methods := ms
  attributes := attrs
def plain (name : String) (sup : Option ClassId) : Class where
  name := name
  kind := .ordinary
  loader := none
  accessFlags := 33
  super := sup
  interfaces := #[]
  cf := none
  fields := #[]
  methods := #[]
  instanceTypes := #[]
  staticTypes := #[]
  resolved := #[]
  callSites := []
  init := .initialized
  statics := none
  mirror := none

def pool0 : Array CpInfo := pool [(5, u "<init>"), (0, u "()V"), (1, .class_ 10), (1, u "java/lang/Object")] 113

def k0m0 : Method := { name := "<init>", desc := "()V", sig := { parameters := [], returnType := none }, accessFlags := 1, code := none }
/-- java/lang/Object -/
def k0 : Class := { plain "java/lang/Object" none with
  accessFlags := 33
  interfaces := #[]
  cf := some (fileOf pool0 8 #[] #[{ accessFlags := 1, nameIndex := 5, descriptorIndex := 6, attributes := #[] }] 33 0 #[] #[])
  fields := #[]
  methods := #[k0m0]
  instanceTypes := #[]
  staticTypes := #[]
  resolved := Array.replicate 124 none
  statics := none }

def pool1 : Array CpInfo := pool [(2, .class_ 4), (1, u "java/lang/Object"), (0, u "<init>"), (0, u "()V"), (0, .long 288054454291267584), (1, .long 5188146764422578174), (1, .integer 65535), (0, .methodref 13 14), (0, .class_ 15), (0, .nameAndType 16 17), (0, u "com/example/request_to_resource/requesttoresource/core/uri/UriComponent"), (0, u "isUnreserved"), (0, u "(C)Z"), (0, .methodref 19 20), (0, .class_ 21), (0, .nameAndType 22 23), (0, u "com/example/request_to_resource/requesttoresource/core/uri/UriComponentIsUnreservedPinLaw"), (0, u "reference"), (0, u "(I)Z"), (3, u "law")] 2

def k1m0 : Method := { name := "<init>", desc := "()V", sig := { parameters := [], returnType := none }, accessFlags := 2, code := none }
def k1c1 : Code := { maxStack := 4, maxLocals := 5, code := method_2_code, exceptionTable := #[], attributes := #[] }
def k1m1 : Method := { name := "reference", desc := "(I)Z", sig := { parameters := [.int], returnType := some .boolean }, accessFlags := 10, code := some k1c1 }
def k1c2 : Code := { maxStack := 2, maxLocals := 3, code := code, exceptionTable := #[], attributes := #[] }
def k1m2 : Method := { name := "law", desc := "(I)Z", sig := { parameters := [.int], returnType := some .boolean }, accessFlags := 9, code := some k1c2 }
/-- com/example/request_to_resource/requesttoresource/core/uri/UriComponentIsUnreservedPinLaw -/
def k1 : Class := { plain "com/example/request_to_resource/requesttoresource/core/uri/UriComponentIsUnreservedPinLaw" (some 0) with
  accessFlags := 49
  interfaces := #[]
  cf := some (fileOf pool1 19 #[] #[{ accessFlags := 2, nameIndex := 5, descriptorIndex := 6, attributes := #[] }, { accessFlags := 10, nameIndex := 22, descriptorIndex := 23, attributes := #[] }, { accessFlags := 9, nameIndex := 27, descriptorIndex := 23, attributes := #[] }] 49 2 #[] #[])
  fields := #[]
  methods := #[k1m0, k1m1, k1m2]
  instanceTypes := #[]
  staticTypes := #[]
  resolved := Array.replicate 30 none
  statics := none }

def pool2 : Array CpInfo := pool [(1, .class_ 2), (0, u "java/lang/constant/Constable"), (0, .class_ 4), (0, u "java/lang/Object")] 6

/-- java/lang/constant/Constable -/
def k2 : Class := { plain "java/lang/constant/Constable" (some 0) with
  accessFlags := 1537
  interfaces := #[]
  cf := some (fileOf pool2 1 #[] #[] 1537 3 #[] #[])
  fields := #[]
  methods := #[]
  instanceTypes := #[]
  staticTypes := #[]
  resolved := Array.replicate 11 none
  statics := none }

def pool3 : Array CpInfo := pool [(1, .class_ 2), (0, u "java/lang/Comparable"), (0, .class_ 4), (0, u "java/lang/Object")] 7

/-- java/lang/Comparable -/
def k3 : Class := { plain "java/lang/Comparable" (some 0) with
  accessFlags := 1537
  interfaces := #[]
  cf := some (fileOf pool3 1 #[] #[] 1537 3 #[] #[])
  fields := #[]
  methods := #[]
  instanceTypes := #[]
  staticTypes := #[]
  resolved := Array.replicate 12 none
  statics := none }

def pool4 : Array CpInfo := pool [(1, .class_ 2), (0, u "java/io/Serializable"), (0, .class_ 4), (0, u "java/lang/Object")] 2

/-- java/io/Serializable -/
def k4 : Class := { plain "java/io/Serializable" (some 0) with
  accessFlags := 1537
  interfaces := #[]
  cf := some (fileOf pool4 1 #[] #[] 1537 3 #[] #[])
  fields := #[]
  methods := #[]
  instanceTypes := #[]
  staticTypes := #[]
  resolved := Array.replicate 7 none
  statics := none }

def pool5 : Array CpInfo := pool [(2, .class_ 4), (1, u "java/lang/Enum"), (0, u "name"), (0, u "Ljava/lang/String;"), (2, u "ordinal"), (0, u "I"), (1, .class_ 14), (1, u "java/lang/Object"), (4, u "hash"), (86, .class_ 108), (1, u "java/lang/Enum$EnumDesc"), (2, .class_ 112), (0, u "java/lang/constant/Constable"), (0, .class_ 114), (0, u "java/lang/Comparable"), (0, .class_ 116), (0, u "java/io/Serializable")] 87

/-- java/lang/Enum -/
def k5 : Class := { plain "java/lang/Enum" (some 0) with
  accessFlags := 1057
  interfaces := #[2, 3, 4]
  cf := some (fileOf pool5 2 #[.nestMembers #[106]] #[] 1057 12 #[111, 113, 115] #[{ accessFlags := 18, nameIndex := 5, descriptorIndex := 6, attributes := #[] }, { accessFlags := 18, nameIndex := 9, descriptorIndex := 10, attributes := #[] }, { accessFlags := 2, nameIndex := 19, descriptorIndex := 10, attributes := #[] }])
  fields := #[{ name := "name", type := (.object "java/lang/String"), accessFlags := 18, slot := 0, constantValue := 0 }, { name := "ordinal", type := .int, accessFlags := 18, slot := 1, constantValue := 0 }, { name := "hash", type := .int, accessFlags := 2, slot := 2, constantValue := 0 }]
  methods := #[]
  instanceTypes := #[(.object "java/lang/String"), .int, .int]
  staticTypes := #[]
  resolved := Array.replicate 204 none
  statics := none }

def pool6 : Array CpInfo := pool [(1, .class_ 2), (0, u "com/example/request_to_resource/requesttoresource/core/uri/UriComponent"), (2, u "SCHEME"), (0, u "Lcom/example/request_to_resource/requesttoresource/core/uri/UriComponent;"), (2, u "USER_INFO"), (2, u "HOST"), (2, u "PATH"), (2, u "PATH_SEGMENT"), (2, u "MATRIX_PARAMETER"), (2, u "QUERY"), (2, u "QUERY_PARAMETER"), (2, u "FRAGMENT"), (2, u "$VALUES"), (0, u "[Lcom/example/request_to_resource/requesttoresource/core/uri/UriComponent;"), (6, .class_ 43), (1, u "java/lang/Enum"), (8, u "reserved"), (0, u "Ljava/lang/String;"), (2, u "spaceAsPlus"), (0, u "Z"), (2, u "isUnreserved"), (0, u "(C)Z")] 53

def k6c0 : Code := { maxStack := 2, maxLocals := 1, code := prog_30_method_5_code, exceptionTable := #[], attributes := #[] }
def k6m0 : Method := { name := "isUnreserved", desc := "(C)Z", sig := { parameters := [.char], returnType := some .boolean }, accessFlags := 8, code := some k6c0 }
/-- com/example/request_to_resource/requesttoresource/core/uri/UriComponent -/
def k6 : Class := { plain "com/example/request_to_resource/requesttoresource/core/uri/UriComponent" (some 5) with
  accessFlags := 16432
  interfaces := #[]
  cf := some (fileOf pool6 1 #[] #[{ accessFlags := 8, nameIndex := 60, descriptorIndex := 61, attributes := #[] }] 16432 41 #[] #[{ accessFlags := 16409, nameIndex := 5, descriptorIndex := 6, attributes := #[] }, { accessFlags := 16409, nameIndex := 9, descriptorIndex := 6, attributes := #[] }, { accessFlags := 16409, nameIndex := 12, descriptorIndex := 6, attributes := #[] }, { accessFlags := 16409, nameIndex := 15, descriptorIndex := 6, attributes := #[] }, { accessFlags := 16409, nameIndex := 18, descriptorIndex := 6, attributes := #[] }, { accessFlags := 16409, nameIndex := 21, descriptorIndex := 6, attributes := #[] }, { accessFlags := 16409, nameIndex := 24, descriptorIndex := 6, attributes := #[] }, { accessFlags := 16409, nameIndex := 27, descriptorIndex := 6, attributes := #[] }, { accessFlags := 16409, nameIndex := 30, descriptorIndex := 6, attributes := #[] }, { accessFlags := 18, nameIndex := 52, descriptorIndex := 53, attributes := #[] }, { accessFlags := 18, nameIndex := 56, descriptorIndex := 57, attributes := #[] }, { accessFlags := 4122, nameIndex := 33, descriptorIndex := 34, attributes := #[] }])
  fields := #[{ name := "SCHEME", type := (.object "com/example/request_to_resource/requesttoresource/core/uri/UriComponent"), accessFlags := 16409, slot := 0, constantValue := 0 }, { name := "USER_INFO", type := (.object "com/example/request_to_resource/requesttoresource/core/uri/UriComponent"), accessFlags := 16409, slot := 1, constantValue := 0 }, { name := "HOST", type := (.object "com/example/request_to_resource/requesttoresource/core/uri/UriComponent"), accessFlags := 16409, slot := 2, constantValue := 0 }, { name := "PATH", type := (.object "com/example/request_to_resource/requesttoresource/core/uri/UriComponent"), accessFlags := 16409, slot := 3, constantValue := 0 }, { name := "PATH_SEGMENT", type := (.object "com/example/request_to_resource/requesttoresource/core/uri/UriComponent"), accessFlags := 16409, slot := 4, constantValue := 0 }, { name := "MATRIX_PARAMETER", type := (.object "com/example/request_to_resource/requesttoresource/core/uri/UriComponent"), accessFlags := 16409, slot := 5, constantValue := 0 }, { name := "QUERY", type := (.object "com/example/request_to_resource/requesttoresource/core/uri/UriComponent"), accessFlags := 16409, slot := 6, constantValue := 0 }, { name := "QUERY_PARAMETER", type := (.object "com/example/request_to_resource/requesttoresource/core/uri/UriComponent"), accessFlags := 16409, slot := 7, constantValue := 0 }, { name := "FRAGMENT", type := (.object "com/example/request_to_resource/requesttoresource/core/uri/UriComponent"), accessFlags := 16409, slot := 8, constantValue := 0 }, { name := "reserved", type := (.object "java/lang/String"), accessFlags := 18, slot := 3, constantValue := 0 }, { name := "spaceAsPlus", type := .boolean, accessFlags := 18, slot := 4, constantValue := 0 }, { name := "$VALUES", type := (.array (.object "com/example/request_to_resource/requesttoresource/core/uri/UriComponent")), accessFlags := 4122, slot := 9, constantValue := 0 }]
  methods := #[k6m0]
  instanceTypes := #[(.object "java/lang/String"), .int, .int, (.object "java/lang/String"), .boolean]
  staticTypes := #[(.object "com/example/request_to_resource/requesttoresource/core/uri/UriComponent"), (.object "com/example/request_to_resource/requesttoresource/core/uri/UriComponent"), (.object "com/example/request_to_resource/requesttoresource/core/uri/UriComponent"), (.object "com/example/request_to_resource/requesttoresource/core/uri/UriComponent"), (.object "com/example/request_to_resource/requesttoresource/core/uri/UriComponent"), (.object "com/example/request_to_resource/requesttoresource/core/uri/UriComponent"), (.object "com/example/request_to_resource/requesttoresource/core/uri/UriComponent"), (.object "com/example/request_to_resource/requesttoresource/core/uri/UriComponent"), (.object "com/example/request_to_resource/requesttoresource/core/uri/UriComponent"), (.array (.object "com/example/request_to_resource/requesttoresource/core/uri/UriComponent"))]
  resolved := Array.replicate 115 none
  statics := none }

def pool7 : Array CpInfo := pool [(1, u "java/lang/Cloneable"), (0, .class_ 1), (0, u "java/lang/Object"), (0, .class_ 3)] 3

/-- java/lang/Cloneable -/
def k7 : Class := { plain "java/lang/Cloneable" (some 0) with
  accessFlags := 1537
  interfaces := #[]
  cf := some (fileOf pool7 2 #[] #[] 1537 4 #[] #[])
  fields := #[]
  methods := #[]
  instanceTypes := #[]
  staticTypes := #[]
  resolved := Array.replicate 8 none
  statics := none }

/-- the primitive byte -/
def k8 : Class := { plain "byte" none with kind := .primitive 'B', accessFlags := 0x411 }
/-- [B -/
def k9 : Class := { plain "[B" (some 0) with kind := .array 8 .byte, interfaces := #[7, 4], accessFlags := 1041 }

/-- the primitive int -/
def k10 : Class := { plain "int" none with kind := .primitive 'I', accessFlags := 0x411 }
/-- [I -/
def k11 : Class := { plain "[I" (some 0) with kind := .array 10 .int, interfaces := #[7, 4], accessFlags := 1041 }

def heap : Heap := #[]
def classes : Array Class := #[k0, k1, k2, k3, k4, k5, k6, k7, k8, k9, k10, k11]
def interned : List (Array UInt16 × Addr) := []
def slotsUsed : Nat := 0
def theMethod : MethodId := ⟨1, 2⟩
def args0 : Array Value := #[.int 5]
def aboutOver (below : List Frame) : State where
  vm := { classes := classes, interned := interned.toArray }
  heap := heap
  slotsUsed := slotsUsed
  threads := #[{ frames := .invoking theMethod args0 :: below }]
def below0 : List Frame := [.native { method := ⟨0, 0⟩, args := #[] }]
def about1 : State := aboutOver below0
def p0 : Program := .bare "" "" ""
def e0 : Env := launch0.env 0 0 0
theorem w_frames : about1.frames = Frame.invoking theMethod args0 :: below0 := rfl
set_option maxRecDepth 65536 in
theorem w_args : argsFit about1.vm theMethod args0 = true := by decide +kernel
set_option maxRecDepth 65536 in
theorem w_heap : heapFits about1 = true := by decide +kernel
set_option maxRecDepth 65536 in
theorem w_runnable : about1.curStatus? = some .runnable := by decide +kernel
set_option maxRecDepth 65536 in
theorem w_alone : about1.alone = true := by decide +kernel
set_option maxRecDepth 65536 in
theorem w_named : about1.methodNamed? x = some theMethod := by decide +kernel
set_option maxRecDepth 65536 in
theorem w_hears : about1.hears theMethod below0 = true := by decide +kernel
set_option maxRecDepth 65536 in
theorem w_ripe : about1.ripe theMethod args0 below0 = true := by decide +kernel
theorem w_running : about1.status = .running := rfl
set_option maxRecDepth 65536 in
theorem w_room : about1.hasRoom e0.platform room_1 = true :=
  launch0.hasRoom_least _ room_1 (by decide +kernel) (by decide +kernel) (by decide +kernel) (by decide +kernel) (by decide +kernel) (by decide +kernel)
theorem allAtoms_all (ts : List Jvm.Cond) (a : Array Jvm.Value) (st : Jvm.State) : (allAtoms ts).before a st = ts.all (fun c => c.before a st) := by
  induction ts with
  | nil => rfl
  | cons c t ih =>
    show (Jvm.Cond.and c (allAtoms t)).before a st = _
    rw [Jvm.Cond.before_and, ih, List.all_cons]
def words1 : List Jvm.Cond := Jvm.Cond.code x code maxLocals ret :: tables_1
/-- a 'code' word, met by the world's own term for the bytes: nothing is compared byte by byte -/
theorem code_word {y : MethodName} {bytes : ByteArray} {mx : Nat} {rt : Option FieldType} {a : Array Value} {s : State} {m : MethodId} {meth : Method} {c : Code} (h1 : s.methodNamed? y = some m) (h2 : s.vm.method? m = some meth) (h3 : meth.code = some c) (h4 : c.code = bytes)
    (h5 : (c.maxLocals == mx && c.exceptionTable.isEmpty && decide (c.maxStack ≤ mostOperands) && decide (meth.sig.returnType = rt) && !meth.locks && decide (parseMethodDescriptor y.desc = some meth.sig)) = true) : (Jvm.Cond.code y bytes mx rt).before a s = true := by
  simp only [Bool.and_eq_true, beq_iff_eq, Bool.not_eq_true', decide_eq_true_eq] at h5
  obtain ⟨⟨⟨⟨⟨g1, g2⟩, g3⟩, g4⟩, g5⟩, g6⟩ := h5
  simp [Cond.before, Cond.holds, Cond.value, h1, h2, h3, h4, g1, g2, g3, g4, g5, g6]
def isCode : Jvm.Cond → Bool
  | .code _ _ _ _ => true
  | _ => false
theorem all_split {L : List Jvm.Cond} {P : Jvm.Cond → Bool} (h1 : L.all (fun c => isCode c || P c) = true) (h2 : ∀ c ∈ L.filter isCode, P c = true) : L.all P = true := by
  refine List.all_eq_true.mpr fun c hc => ?_
  have h := List.all_eq_true.mp h1 c hc
  rcases Bool.eq_false_or_eq_true (isCode c) with hi | hi
  · exact h2 c (List.mem_filter.mpr ⟨hc, hi⟩)
  · simpa [hi] using h
set_option maxRecDepth 65536 in
theorem w_c0 : (Jvm.Cond.code x code maxLocals ret).before args0 about1 = true := code_word (m := ⟨1, 2⟩) (meth := k1m2) (c := k1c2) (by decide +kernel) rfl rfl rfl (by decide +kernel)
set_option maxRecDepth 65536 in
theorem w_c1 : (Jvm.Cond.code ({ cls := "com/example/request_to_resource/requesttoresource/core/uri/UriComponent", name := "isUnreserved", desc := "(C)Z" } : Jvm.MethodName) prog_30_method_5_code (1 : Nat) (Option.some Jvm.ClassFile.FieldType.boolean)).before args0 about1 = true := code_word (m := ⟨6, 0⟩) (meth := k6m0) (c := k6c0) (by decide +kernel) rfl rfl rfl (by decide +kernel)
set_option maxRecDepth 65536 in
theorem w_c2 : (Jvm.Cond.code ({ cls := "com/example/request_to_resource/requesttoresource/core/uri/UriComponentIsUnreservedPinLaw", name := "reference", desc := "(I)Z" } : Jvm.MethodName) method_2_code (5 : Nat) (Option.some Jvm.ClassFile.FieldType.boolean)).before args0 about1 = true := code_word (m := ⟨1, 1⟩) (meth := k1m1) (c := k1c1) (by decide +kernel) rfl rfl rfl (by decide +kernel)
def codes1 : List Jvm.Cond := [Jvm.Cond.code x code maxLocals ret, Jvm.Cond.code ({ cls := "com/example/request_to_resource/requesttoresource/core/uri/UriComponent", name := "isUnreserved", desc := "(C)Z" } : Jvm.MethodName) prog_30_method_5_code (1 : Nat) (Option.some Jvm.ClassFile.FieldType.boolean), Jvm.Cond.code ({ cls := "com/example/request_to_resource/requesttoresource/core/uri/UriComponentIsUnreservedPinLaw", name := "reference", desc := "(I)Z" } : Jvm.MethodName) method_2_code (5 : Nat) (Option.some Jvm.ClassFile.FieldType.boolean)]
set_option maxRecDepth 65536 in
theorem codes_eq : words1.filter isCode = codes1 := rfl
theorem w_codes : ∀ c ∈ words1.filter isCode, c.before args0 about1 = true := by
  rw [codes_eq]
  intro c hc
  simp only [codes1, List.mem_cons, List.not_mem_nil, or_false] at hc
  rcases hc with rfl | rfl | rfl
  · exact w_c0
  · exact w_c1
  · exact w_c2
set_option maxRecDepth 65536 in
theorem w_t1 : words1.all (fun c => isCode c || c.before args0 about1) = true := by decide +kernel
theorem w_tables : (allAtoms (Jvm.Cond.code x code maxLocals ret :: tables_1)).before args0 about1 = true := by
  rw [allAtoms_all]
  show words1.all (fun c => c.before args0 about1) = true
  refine all_split ?_ w_codes
  rw [w_t1]
set_option maxRecDepth 65536 in
theorem w_case : (Jvm.Cond.and given_1 narrow_1).before args0 about1 = true := by decide +kernel
theorem w_applies : (headSpec (Jvm.Cond.code x code maxLocals ret :: tables_1) room_1).applies x e0.platform about1 = true :=
  (Spec.applies_iff w_frames).mpr ⟨w_running, w_runnable, w_alone, w_named, w_hears, w_ripe, w_room, w_tables⟩
theorem atStart : AtStart classFile x code maxLocals ret World_1 tables_1 room_1 Calls_1 rest_1 Pre_1 launch0 p0 e0 about1 theMethod args0 below0 :=
  ⟨lists_1, trivial, launch0.admits_env _ _ _, launch0.least_env, fairChoices_fair.cas, fairChoices_fair.clock, w_frames, w_args, w_heap, w_applies, trivial, trivial, w_case⟩
end start1
theorem witness_1 : WitnessClaimed_1 := ⟨start1.p0, start1.e0, start1.about1, start1.theMethod, start1.args0, start1.below0, start1.atStart⟩
end Jvm.Pilot.@@N@@
