import Derived.Test.Qxb6605258aRender
namespace Go.Proofs.Qxb6605258a
open Go.RowKit

set_option maxRecDepth 10000 in
set_option maxHeartbeats 16000000 in
theorem render_walk (y mo d h mi s nanos : Int) (f : Nat) (oh om : Int) (west zulu : Bool) (w : World) (hr : InRange y mo d h mi s nanos f oh om) :
    Calls Try.prog 6 #[.int .i64 y, .int .i64 mo, .int .i64 d, .int .i64 h, .int .i64 mi, .int .i64 s, .int .i64 nanos, .int .i64 f, .int .i64 oh, .int .i64 om, .bool west, .bool zulu] w fun e w' => e = .returned (.bool true) ∧ Below w.heap.size w w' := by
  obtain ⟨C, hC, hmk0⟩ := made 40 (by omega)
  obtain ⟨C9, hC9, hmk90⟩ := made 9 (by omega)
  have hmk : ∀ w : World, (Instr.makeSlice 22 (.int .i64 0) (.int .i64 40)).run Try.prog w = .ok (.slice (some ⟨w.heap.size, 0, none⟩) 0 40) (w.alloc (.cells C 5)) := hmk0
  have hmk9 : ∀ w : World, (Instr.makeSlice 22 (.int .i64 0) (.int .i64 9)).run Try.prog w = .ok (.slice (some ⟨w.heap.size, 0, none⟩) 0 9) (w.alloc (.cells C9 5)) := hmk90
  clear hmk0 hmk90
  have HC : Hid _ := hC
  have HC9 : Hid _ := hC9
  have HR : Hid _ := hr
  obtain ⟨⟨a1, a2⟩, ⟨b1, b2⟩, ⟨c1, c2⟩, ⟨d1, d2⟩, ⟨e1, e2⟩, ⟨f1, f2⟩, ⟨g1, g2⟩, i1, ⟨j1, j2⟩, ⟨k1, k2⟩⟩ := hr
  clear hC hC9
  go_enter Try.func6, Try.ntmps6
  go_wp2_with fail
  clear a1 a2 b1 b2 c1 c2 d1 d2 e1 e2 f1 f2 g1 g2 j1 j2 k1 k2
  have HS0 : Hid _ := S.start w C HC.out
  clear hmk
  refine (S.pad (m := 4) y 4 4 HS0.out rfl (by omega) (by omega) (by omega) (InRange.y HR.out).1 (by have := (InRange.y HR.out).2; omega)).mono ?_
  rintro e w1 ⟨rfl, hs1, -⟩
  have HS1 : Hid _ := hs1
  clear hs1
  go_wp2_with (first | (at_builtin; refine S.app rfl _ _ rfl 45 (5) rfl rfl HS1.out (by omega) (by omega) ?_; intro w2 hs2 hg2))
  have HS2 : Hid _ := hs2
  clear hs2
  clear hg2
  refine (S.pad (m := 7) mo 2 2 HS2.out rfl (by omega) (by omega) (by omega) (InRange.mo HR.out).1 (by have := (InRange.mo HR.out).2; omega)).mono ?_
  rintro e w3 ⟨rfl, hs3, -⟩
  have HS3 : Hid _ := hs3
  clear hs3
  go_wp2_with (first | (at_builtin; refine S.app rfl _ _ rfl 45 (8) rfl rfl HS3.out (by omega) (by omega) ?_; intro w4 hs4 hg4))
  have HS4 : Hid _ := hs4
  clear hs4
  clear hg4
  refine (S.pad (m := 10) d 2 2 HS4.out rfl (by omega) (by omega) (by omega) (InRange.d HR.out).1 (by have := (InRange.d HR.out).2; omega)).mono ?_
  rintro e w5 ⟨rfl, hs5, -⟩
  have HS5 : Hid _ := hs5
  clear hs5
  go_wp2_with (first | (at_builtin; refine S.app rfl _ _ rfl 84 (11) rfl rfl HS5.out (by omega) (by omega) ?_; intro w6 hs6 hg6))
  have HS6 : Hid _ := hs6
  clear hs6
  clear hg6
  refine (S.pad (m := 13) h 2 2 HS6.out rfl (by omega) (by omega) (by omega) (InRange.h HR.out).1 (by have := (InRange.h HR.out).2; omega)).mono ?_
  rintro e w7 ⟨rfl, hs7, -⟩
  have HS7 : Hid _ := hs7
  clear hs7
  go_wp2_with (first | (at_builtin; refine S.app rfl _ _ rfl 58 (14) rfl rfl HS7.out (by omega) (by omega) ?_; intro w8 hs8 hg8))
  have HS8 : Hid _ := hs8
  clear hs8
  clear hg8
  refine (S.pad (m := 16) mi 2 2 HS8.out rfl (by omega) (by omega) (by omega) (InRange.mi HR.out).1 (by have := (InRange.mi HR.out).2; omega)).mono ?_
  rintro e w9 ⟨rfl, hs9, -⟩
  have HS9 : Hid _ := hs9
  clear hs9
  go_wp2_with (first | (at_builtin; refine S.app rfl _ _ rfl 58 (17) rfl rfl HS9.out (by omega) (by omega) ?_; intro w10 hs10 hg10))
  have HS10 : Hid _ := hs10
  clear hs10
  clear hg10
  refine (S.pad (m := 19) s 2 2 HS10.out rfl (by omega) (by omega) (by omega) (InRange.s HR.out).1 (by have := (InRange.s HR.out).2; omega)).mono ?_
  rintro e w11 ⟨rfl, hs11, -⟩
  have HS11 : Hid _ := hs11
  clear hs11
  have HH : Hid (S w w.heap.size w11 19 (head y mo d h mi s)) := HS11.out
  clear HS11
  by_cases hf : 0 < f
  · go_wp2_with fail
    have hg2 := S.lt HH.out
    have HN0 : Hid _ := Buf.made w11 9 C9 HC9.out (by unfold maxLen; omega)
    refine (padded_any w11.heap.size 0 9 9 [] nanos 9 _ HN0.out rfl (by omega) (by omega) (InRange.n HR.out).1 (by have := (InRange.n HR.out).2; omega)).mono ?_
    rintro e w12 ⟨rfl, hnine, hgr⟩
    have HH2 : Hid (S w w.heap.size w12 19 (head y mo d h mi s)) := (S.alloc HH.out _).other hgr hg2
    have HNI : Hid (Buf w12 w11.heap.size 9 9 (pad nanos 9)) := hnine
    clear hnine hgr HH HN0 hmk9
    go_wp2_with (first | (at_builtin; refine S.app rfl _ _ rfl 46 20 rfl rfl HH2.out (by omega) (by omega) ?_; intro w13 hs13 hg13))
    have HS13 : Hid _ := hs13
    have HNI3 : Hid (Buf w13 w11.heap.size 9 9 (pad nanos 9)) := Buf.kept HNI.out (hg13.block _ (Buf.lt HNI.out) (by simp; omega))
    clear hs13 hg13 HH2 HNI
    have hpl := pad_length 9 nanos
    have HPL : Hid _ := hpl
    clear hpl
    generalize w11.heap.size = gn at *
    go_wp2
    go_loopw [25, 27] (fun b i wr => ∃ k : Nat, k ≤ f ∧ i = .int .i64 k ∧ b = .slice (some ⟨w.heap.size, 0, none⟩) (20 + k) 40 ∧ S w w.heap.size wr (20 + k) (head y mo d h mi s ++ [46] ++ (pad nanos 9).take k) ∧ Buf wr gn 9 9 (pad nanos 9)) (fun _ i _ => f - (intOf i).toNat)
    case atStart => exact ⟨0, Nat.zero_le _, rfl, rfl, S.is HS13.out (by simp), HNI3.out⟩
    case round =>
      obtain ⟨k, hk, rfl, rfl, hS, hN⟩ := hrel
      clear HS13 HNI3
      by_cases hlt : k < f
      · have hcell := Buf.cell hN k (by omega)
        have htk : (pad nanos 9).take (k + 1) = (pad nanos 9).take k ++ [(pad nanos 9).getD k 0] := by
          have := HPL.out
          rw [List.take_succ_eq_append_getElem (by omega), List.getD, List.getElem?_eq_getElem (by omega)]; rfl
        have HTK : Hid _ := htk
        have HSK : Hid _ := hS
        have HNK : Hid _ := hN
        generalize (pad nanos 9).getD k 0 = xb at hcell HTK
        clear htk hS hN
        have hk9 : (k : Int) < 9 := by omega
        go_wp2_with (first | (at_builtin; refine S.app rfl _ _ rfl xb (20 + (k + 1)) rfl rfl HSK.out (by omega) (by omega) ?_; intro w15 hs15 hg15))
        have HS15 : Hid (S w w.heap.size w15 (20 + (k + 1)) (head y mo d h mi s ++ [46] ++ (pad nanos 9).take (k + 1))) := S.is hs15 (by rw [HTK.out]; simp)
        have HN15 : Hid (Buf w15 gn 9 9 (pad nanos 9)) := Buf.kept HNK.out (hg15.block _ (Buf.lt HNK.out) (by simp; omega))
        clear hs15 hg15 HSK HNK HTK hcell
        go_wp2
        go_roundw
        case rel => first | exact ⟨k + 1, by omega, by go_num, rfl, HS15.out, HN15.out⟩ | ((repeat apply Exists.intro); exact ⟨⟨k + 1, by omega, by go_num, rfl, HS15.out, HN15.out⟩, rfl⟩)
        case measure => simp [intOf]; omega
      · have hkf : k = f := by omega
        subst hkf
        have HL : Hid (S w w.heap.size wr (20 + k) (head y mo d h mi s ++ fracL nanos k)) := S.is hS (by unfold fracL; rw [if_neg (by omega)]; simp)
        clear hS hN HPL
        cases zulu with
        | true =>
          go_wp2_with (first | (at_builtin; refine S.app rfl _ _ rfl 90 (20 + k + 1) rfl rfl HL.out (by omega) (by omega) ?_; intro v1 hv1 hgv1))
          have HV1 : Hid _ := hv1
          clear hv1 hgv1
          have HNZ : Hid (S w w.heap.size v1 _ (head y mo d h mi s ++ fracL nanos k ++ zoneL true west oh om)) := S.is HV1.out (by simp [zoneL])
          have hcv := S.conv HNZ.out
          have HZ : Hid _ := zz_law y mo d h mi s nanos k oh om west true v1 (InRange.f HR.out) (InRange.oh HR.out).1 (InRange.oh HR.out).2 (InRange.om HR.out).1 (InRange.om HR.out).2
          have HBE : Hid (Below w.heap.size w v1) := HNZ.out.2
          clear HNZ HV1
          generalize strOfNums (head y mo d h mi s ++ fracL nanos k ++ zoneL true west oh om) = xs at hcv HZ
          go_wp2_with fail
          refine Calls.mono HZ.out ?_
          rintro e wz ⟨rfl, nz, rfl⟩
          have HBF : Hid (Below w.heap.size w (v1.drewN nz)) := ⟨HBE.out.os, HBE.out.tape, HBE.out.output, HBE.out.size, HBE.out.block⟩
          clear hcv HZ HBE
          go_wp2
          go_ret
          exact ⟨rfl, HBF.out⟩
        | false =>
          cases west with
          | true =>
            go_wp2_with (first | (at_builtin; refine S.app rfl _ _ rfl 45 (20 + k + 1) rfl rfl HL.out (by omega) (by omega) ?_; intro v1 hv1 hgv1))
            have HV1 : Hid _ := hv1
            clear hv1 hgv1
            refine (S.pad (m := 20 + k + 3) oh 2 2 HV1.out rfl (by omega) (by omega) (by omega) (InRange.oh HR.out).1 (by have := (InRange.oh HR.out).2; omega)).mono ?_
            rintro e v2 ⟨rfl, hv2, -⟩
            have HV2 : Hid _ := hv2
            clear hv2
            go_wp2_with (first | (at_builtin; refine S.app rfl _ _ rfl 58 (20 + k + 4) rfl rfl HV2.out (by omega) (by omega) ?_; intro v3 hv3 hgv3))
            have HV3 : Hid _ := hv3
            clear hv3 hgv3
            refine (S.pad (m := 20 + k + 6) om 2 2 HV3.out rfl (by omega) (by omega) (by omega) (InRange.om HR.out).1 (by have := (InRange.om HR.out).2; omega)).mono ?_
            rintro e v4 ⟨rfl, hv4, -⟩
            have HV4 : Hid _ := hv4
            clear hv4
            have HNZ : Hid (S w w.heap.size v4 _ (head y mo d h mi s ++ fracL nanos k ++ zoneL false true oh om)) := S.is HV4.out (by simp [zoneL])
            have hcv := S.conv HNZ.out
            have HZ : Hid _ := zz_law y mo d h mi s nanos k oh om true false v4 (InRange.f HR.out) (InRange.oh HR.out).1 (InRange.oh HR.out).2 (InRange.om HR.out).1 (InRange.om HR.out).2
            have HBE : Hid (Below w.heap.size w v4) := HNZ.out.2
            clear HNZ HV4
            generalize strOfNums (head y mo d h mi s ++ fracL nanos k ++ zoneL false true oh om) = xs at hcv HZ
            go_wp2_with fail
            refine Calls.mono HZ.out ?_
            rintro e wz ⟨rfl, nz, rfl⟩
            have HBF : Hid (Below w.heap.size w (v4.drewN nz)) := ⟨HBE.out.os, HBE.out.tape, HBE.out.output, HBE.out.size, HBE.out.block⟩
            clear hcv HZ HBE
            by_cases h23 : oh ≤ 23
            all_goals by_cases h59 : om ≤ 59
            all_goals
              go_wp2
              go_ret
              exact ⟨rfl, HBF.out⟩
          | false =>
            go_wp2_with (first | (at_builtin; refine S.app rfl _ _ rfl 43 (20 + k + 1) rfl rfl HL.out (by omega) (by omega) ?_; intro v1 hv1 hgv1))
            have HV1 : Hid _ := hv1
            clear hv1 hgv1
            refine (S.pad (m := 20 + k + 3) oh 2 2 HV1.out rfl (by omega) (by omega) (by omega) (InRange.oh HR.out).1 (by have := (InRange.oh HR.out).2; omega)).mono ?_
            rintro e v2 ⟨rfl, hv2, -⟩
            have HV2 : Hid _ := hv2
            clear hv2
            go_wp2_with (first | (at_builtin; refine S.app rfl _ _ rfl 58 (20 + k + 4) rfl rfl HV2.out (by omega) (by omega) ?_; intro v3 hv3 hgv3))
            have HV3 : Hid _ := hv3
            clear hv3 hgv3
            refine (S.pad (m := 20 + k + 6) om 2 2 HV3.out rfl (by omega) (by omega) (by omega) (InRange.om HR.out).1 (by have := (InRange.om HR.out).2; omega)).mono ?_
            rintro e v4 ⟨rfl, hv4, -⟩
            have HV4 : Hid _ := hv4
            clear hv4
            have HNZ : Hid (S w w.heap.size v4 _ (head y mo d h mi s ++ fracL nanos k ++ zoneL false false oh om)) := S.is HV4.out (by simp [zoneL])
            have hcv := S.conv HNZ.out
            have HZ : Hid _ := zz_law y mo d h mi s nanos k oh om false false v4 (InRange.f HR.out) (InRange.oh HR.out).1 (InRange.oh HR.out).2 (InRange.om HR.out).1 (InRange.om HR.out).2
            have HBE : Hid (Below w.heap.size w v4) := HNZ.out.2
            clear HNZ HV4
            generalize strOfNums (head y mo d h mi s ++ fracL nanos k ++ zoneL false false oh om) = xs at hcv HZ
            go_wp2_with fail
            refine Calls.mono HZ.out ?_
            rintro e wz ⟨rfl, nz, rfl⟩
            have HBF : Hid (Below w.heap.size w (v4.drewN nz)) := ⟨HBE.out.os, HBE.out.tape, HBE.out.output, HBE.out.size, HBE.out.block⟩
            clear hcv HZ HBE
            by_cases h23 : oh ≤ 23
            all_goals by_cases h59 : om ≤ 59
            all_goals
              go_wp2
              go_ret
              exact ⟨rfl, HBF.out⟩
  · have hf0 : f = 0 := by omega
    subst hf0
    have HL : Hid (S w w.heap.size w11 19 (head y mo d h mi s ++ fracL nanos 0)) := S.is HH.out (by simp [fracL])
    clear HH hmk9
    cases zulu with
    | true =>
      go_wp2_with (first | (at_builtin; refine S.app rfl _ _ rfl 90 (20) rfl rfl HL.out (by omega) (by omega) ?_; intro v1 hv1 hgv1))
      have HV1 : Hid _ := hv1
      clear hv1 hgv1
      have HNZ : Hid (S w w.heap.size v1 _ (head y mo d h mi s ++ fracL nanos 0 ++ zoneL true west oh om)) := S.is HV1.out (by simp [zoneL])
      have hcv := S.conv HNZ.out
      have HZ : Hid _ := zz_law y mo d h mi s nanos 0 oh om west true v1 (InRange.f HR.out) (InRange.oh HR.out).1 (InRange.oh HR.out).2 (InRange.om HR.out).1 (InRange.om HR.out).2
      have HBE : Hid (Below w.heap.size w v1) := HNZ.out.2
      clear HNZ HV1
      generalize strOfNums (head y mo d h mi s ++ fracL nanos 0 ++ zoneL true west oh om) = xs at hcv HZ
      go_wp2_with fail
      refine Calls.mono HZ.out ?_
      rintro e wz ⟨rfl, nz, rfl⟩
      have HBF : Hid (Below w.heap.size w (v1.drewN nz)) := ⟨HBE.out.os, HBE.out.tape, HBE.out.output, HBE.out.size, HBE.out.block⟩
      clear hcv HZ HBE
      go_wp2
      go_ret
      exact ⟨rfl, HBF.out⟩
    | false =>
      cases west with
      | true =>
        go_wp2_with (first | (at_builtin; refine S.app rfl _ _ rfl 45 (20) rfl rfl HL.out (by omega) (by omega) ?_; intro v1 hv1 hgv1))
        have HV1 : Hid _ := hv1
        clear hv1 hgv1
        refine (S.pad (m := 22) oh 2 2 HV1.out rfl (by omega) (by omega) (by omega) (InRange.oh HR.out).1 (by have := (InRange.oh HR.out).2; omega)).mono ?_
        rintro e v2 ⟨rfl, hv2, -⟩
        have HV2 : Hid _ := hv2
        clear hv2
        go_wp2_with (first | (at_builtin; refine S.app rfl _ _ rfl 58 (23) rfl rfl HV2.out (by omega) (by omega) ?_; intro v3 hv3 hgv3))
        have HV3 : Hid _ := hv3
        clear hv3 hgv3
        refine (S.pad (m := 25) om 2 2 HV3.out rfl (by omega) (by omega) (by omega) (InRange.om HR.out).1 (by have := (InRange.om HR.out).2; omega)).mono ?_
        rintro e v4 ⟨rfl, hv4, -⟩
        have HV4 : Hid _ := hv4
        clear hv4
        have HNZ : Hid (S w w.heap.size v4 _ (head y mo d h mi s ++ fracL nanos 0 ++ zoneL false true oh om)) := S.is HV4.out (by simp [zoneL])
        have hcv := S.conv HNZ.out
        have HZ : Hid _ := zz_law y mo d h mi s nanos 0 oh om true false v4 (InRange.f HR.out) (InRange.oh HR.out).1 (InRange.oh HR.out).2 (InRange.om HR.out).1 (InRange.om HR.out).2
        have HBE : Hid (Below w.heap.size w v4) := HNZ.out.2
        clear HNZ HV4
        generalize strOfNums (head y mo d h mi s ++ fracL nanos 0 ++ zoneL false true oh om) = xs at hcv HZ
        go_wp2_with fail
        refine Calls.mono HZ.out ?_
        rintro e wz ⟨rfl, nz, rfl⟩
        have HBF : Hid (Below w.heap.size w (v4.drewN nz)) := ⟨HBE.out.os, HBE.out.tape, HBE.out.output, HBE.out.size, HBE.out.block⟩
        clear hcv HZ HBE
        by_cases h23 : oh ≤ 23
        all_goals by_cases h59 : om ≤ 59
        all_goals
          go_wp2
          go_ret
          exact ⟨rfl, HBF.out⟩
      | false =>
        go_wp2_with (first | (at_builtin; refine S.app rfl _ _ rfl 43 (20) rfl rfl HL.out (by omega) (by omega) ?_; intro v1 hv1 hgv1))
        have HV1 : Hid _ := hv1
        clear hv1 hgv1
        refine (S.pad (m := 22) oh 2 2 HV1.out rfl (by omega) (by omega) (by omega) (InRange.oh HR.out).1 (by have := (InRange.oh HR.out).2; omega)).mono ?_
        rintro e v2 ⟨rfl, hv2, -⟩
        have HV2 : Hid _ := hv2
        clear hv2
        go_wp2_with (first | (at_builtin; refine S.app rfl _ _ rfl 58 (23) rfl rfl HV2.out (by omega) (by omega) ?_; intro v3 hv3 hgv3))
        have HV3 : Hid _ := hv3
        clear hv3 hgv3
        refine (S.pad (m := 25) om 2 2 HV3.out rfl (by omega) (by omega) (by omega) (InRange.om HR.out).1 (by have := (InRange.om HR.out).2; omega)).mono ?_
        rintro e v4 ⟨rfl, hv4, -⟩
        have HV4 : Hid _ := hv4
        clear hv4
        have HNZ : Hid (S w w.heap.size v4 _ (head y mo d h mi s ++ fracL nanos 0 ++ zoneL false false oh om)) := S.is HV4.out (by simp [zoneL])
        have hcv := S.conv HNZ.out
        have HZ : Hid _ := zz_law y mo d h mi s nanos 0 oh om false false v4 (InRange.f HR.out) (InRange.oh HR.out).1 (InRange.oh HR.out).2 (InRange.om HR.out).1 (InRange.om HR.out).2
        have HBE : Hid (Below w.heap.size w v4) := HNZ.out.2
        clear HNZ HV4
        generalize strOfNums (head y mo d h mi s ++ fracL nanos 0 ++ zoneL false false oh om) = xs at hcv HZ
        go_wp2_with fail
        refine Calls.mono HZ.out ?_
        rintro e wz ⟨rfl, nz, rfl⟩
        have HBF : Hid (Below w.heap.size w (v4.drewN nz)) := ⟨HBE.out.os, HBE.out.tape, HBE.out.output, HBE.out.size, HBE.out.block⟩
        clear hcv HZ HBE
        by_cases h23 : oh ≤ 23
        all_goals by_cases h59 : om ≤ 59
        all_goals
          go_wp2
          go_ret
          exact ⟨rfl, HBF.out⟩
end Go.Proofs.Qxb6605258a
