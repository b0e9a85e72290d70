import Derived.Test.Qxb6605955aLaw5
import Derived.Test.Qxb6605955aBytes
import Derived.Test.Qxb6605955aMid
namespace Go.Proofs.Qxb6605955a
open Go.RowKit
attribute [local go_sem ↓] Go.wp_at_zero Go.wp_at_succ

set_option maxRecDepth 100000 in
set_option maxHeartbeats 6400000 in
theorem law6 (hist mk : ByteArray) (a1 a2 a5 : Option Addr) (n m p k1 k2 k5 : Nat) (H R : Nat → Rd) (S : Nat → ByteArray) (mat : Int) (w : World) (hH : InR H n) (hR : InR R m) (h1 : Rds w a1 n H) (h2 : Rds w a2 m R) (hS : Strs w a5 p S) (hmat : -9223372036854775808 ≤ mat ∧ mat ≤ 9223372036854775807) :
    Calls Try.prog 6 #[.string hist, .slice a1 n k1, .slice a2 m k2, .string mk, .int .i64 mat, .slice a5 p k5] w fun e w' => e = .returned (.bool true) ∧ Below w.heap.size w w' := by
  have HH := hide hH; have HR := hide hR; have H1 := hide h1; have H2 := hide h2; have HM := hide hmat; have HS := hide hS
  clear hH hR h1 h2 hmat hS
  go_enter Try.func6, Try.ntmps6
  go_wp2_with fail
  refine (bytes28 hist a1 n k1 a2 m k2 mk (.int .i64 mat) a5 p k5 S w HS.out).mono ?_
  rintro e w' ⟨⟨b, rfl⟩, hw⟩
  obtain rfl : w = w' := hw.symm
  clear hw
  cases b with
  | false =>
    go_wp2_with fail
    go_ret
    exact ⟨rfl, Below.refl _ _⟩
  | true =>
    go_wp2_with fail
    all_goals first | (go_ret; exact ⟨rfl, Below.refl _ _⟩) | skip
    have hn : (n : Int) ≤ 65536 := by omega
    have hm : (m : Int) ≤ 65536 := by omega
    have HN := hide hn; have HMM := hide hm
    go_loopw [13, 14] (fun t i wr => ∃ (k : Nat) (z : Int), k ≤ p ∧ t = .int .i64 z ∧ i = .int .i64 k ∧ wr = w) (fun _ i _ => p - (intOf i).toNat)
    case atStart => exact ⟨0, _, Nat.zero_le _, rfl, rfl, rfl⟩
    case round =>
      obtain ⟨k, z, hk, rfl, rfl, hwr⟩ := hrel
      obtain rfl : w = wr := hwr.symm
      clear hwr
      by_cases hlt : k < p
      · obtain ⟨b, off, rfl, d1⟩ := HS.out k hlt
        have i0 : (0 : Int) ≤ (k : Int) := by omega
        have i1 : (k : Int) < (p : Int) := by omega
        go_wp2_with fail
        all_goals first | (go_ret; exact ⟨rfl, Below.refl _ _⟩) | skip
        go_roundw
        case rel => exact ⟨k + 1, _, by omega, rfl, by go_num, by trivial⟩
        case measure => simp [intOf]; omega
      · obtain rfl : p = k := by omega
        go_wp2_with fail
        refine (ts16 a1 n k1 H w (by have := HN.out; omega) H1.out).mono ?_
        rintro e wA ⟨rfl, rA, bA⟩
        have RA := hide rA; have BA := hide bA
        clear rA bA
        go_wp2_with fail
        refine (at17 a1 n k1 H wA (by have := HN.out; omega) (H1.out.later BA.out)).mono ?_
        rintro e wB ⟨rfl, rB, bB⟩
        have RB := hide rB; have BB := hide bB
        clear rB bB
        go_wp2_with fail
        refine (ts16 a2 m k2 R wB (by have := HMM.out; omega) (H2.out.later (Below.from BA.out BB.out))).mono ?_
        rintro e wC ⟨rfl, rC, bC⟩
        have RC := hide rC; have BC := hide bC
        clear rC bC
        go_wp2_with fail
        refine (at17 a2 m k2 R wC (by have := HMM.out; omega) (H2.out.later (Below.from (Below.from BA.out BB.out) BC.out))).mono ?_
        rintro e wD ⟨rfl, rD, bD⟩
        have RD := hide rD; have BD := hide bD
        clear rD bD
        go_wp2_with fail
        refine (new15 hist mk w.heap.size wA.heap.size wB.heap.size wC.heap.size n m H R mat wD HN.out HMM.out HH.out HR.out HM.out (RA.out.later (Below.from (Below.from BB.out BC.out) BD.out)) (RB.out.later (Below.from BC.out BD.out)) (RC.out.later BD.out) RD.out).mono ?_
        rintro e w1 ⟨rfl, hpart, b1⟩
        have BW := hide (Below.from (Below.from (Below.from (Below.from BA.out BB.out) BC.out) BD.out) b1)
        have hle := (Below.from (Below.from (Below.from BA.out BB.out) BC.out) BD.out).size
        generalize hpb : wD.heap.size + 1 + 1 = pb at hpart ⊢
        generalize hsb : wD.heap.size + 1 = sb at hpart
        have HPB : Hid (w.heap.size ≤ pb ∧ w.heap.size ≤ sb) := ⟨by omega, by omega⟩
        clear hpb hsb hle b1 RA RB RC RD BA BB BC BD
        have hview := hpart.view
        obtain ⟨⟨horV, rdV, B1, B2, hp, -, -⟩, hst⟩ := hpart
        have MID : Hid (Mid pb sb hist mk mat n m H R true w1) := ⟨⟨_, _, _, _, _, _, hp, fun _ => rfl, fun e => nomatch e⟩, ⟨_, hst⟩, fun _ => hview⟩
        clear hview hp hst
        go_wp2_with fail
        go_loopw [16, 17] (fun kp i wr => ∃ (k : Nat) (b : Bool), k ≤ p ∧ kp = .bool b ∧ i = .int .i64 k ∧ Mid pb sb hist mk mat n m H R b wr ∧ Below w.heap.size w wr) (fun _ i _ => p - (intOf i).toNat)
        case atStart => exact ⟨0, true, Nat.zero_le _, rfl, rfl, MID.out, BW.out⟩
        case round =>
          obtain ⟨k, b, hk, rfl, rfl, hmid, hbw⟩ := hrel
          have HMID := hide hmid; have HBW := hide hbw
          clear hmid hbw
          by_cases hlt : k < p
          · obtain ⟨bb, off, rfl, d0⟩ := HS.out k hlt
            have d1 := kept HBW.out d0
            have i0 : (0 : Int) ≤ (k : Int) := by omega
            have i1 : (k : Int) < (p : Int) := by omega
            go_wp2_with fail
            refine (follow18 pb sb n m hist mk (S k) mat H R b wr w.heap.size HMID.out HBW.out.size HPB.out).mono ?_
            rintro e w2 ⟨rfl, hb2, hmid2, ⟨hist2, he2, mk2, mat2, n2, m2, H2', R2', hv2⟩, hbare⟩
            clear d1
            cases b with
            | true =>
              cases hc : ((S k).toList == hist.toList) with
              | true =>
                have hm2 : Mid pb sb hist mk mat n m H R true w2.drew := by
                  have := hmid2.below (Below.refl _ w2).drew
                  simpa [hc] using this
                have HM2 := hide hm2
                clear hm2
                have HB2 : Hid (Below w.heap.size w w2.drew) := (HBW.out.trans hb2).drew
                have d2 : w2.drew.cell? ⟨bb, off + k, none⟩ = some (.string (S k)) := kept HB2.out d0
                have d3 : w2.cell? ⟨bb, off + k, none⟩ = some (.string (S k)) := kept (HBW.out.trans hb2) d0
                have HV2 := hide (hv2.below (Below.refl _ w2).drew)
                have hq : (hist2.toList == (S k).toList) = true := by simpa using he2
                clear hmid2 hb2 he2 hv2 hbare
                go_wp2_with fail
                go_region_held3 (fun w' => w'.cell? ⟨bb, off + k, none⟩ = some (.string (S k))) (exact d2) (first | (go_at_call 19; refine (get19 HV2.out).mono ?_; rintro e w4 ⟨rfl, rfl⟩) | fail "no arm")
                all_goals go_wp2_with fail
                all_goals go_roundw
                all_goals first | (exact ⟨k + 1, true, by omega, rfl, by go_num, HM2.out, HB2.out⟩) | (simp [intOf]; omega)
              | false =>
                have hm2 : Mid pb sb hist mk mat n m H R false w2.drew := by
                  have := hmid2.below (Below.refl _ w2).drew
                  simpa [hc] using this
                have HM2 := hide hm2
                clear hm2
                have HB2 : Hid (Below w.heap.size w w2.drew) := (HBW.out.trans hb2).drew
                have d2 : w2.drew.cell? ⟨bb, off + k, none⟩ = some (.string (S k)) := kept HB2.out d0
                have d3 : w2.cell? ⟨bb, off + k, none⟩ = some (.string (S k)) := kept (HBW.out.trans hb2) d0
                have HV2 := hide (hv2.below (Below.refl _ w2).drew)
                have hq : (hist2.toList == (S k).toList) = true := by simpa using he2
                obtain ⟨hist4, hba⟩ := hbare (by simp [hc])
                have HVB := hide (hba.view.below (Below.refl _ w2).drew)
                clear hba
                clear hmid2 hb2 he2 hv2 hbare
                go_wp2_with fail
                go_region_held3 (fun w' => w'.cell? ⟨bb, off + k, none⟩ = some (.string (S k))) (exact d2) (first | (go_at_call 19; refine (get19 HV2.out).mono ?_; rintro e w4 ⟨rfl, rfl⟩) | fail "no arm")
                all_goals go_wp2_with fail
                refine (get20 HVB.out).mono ?_
                rintro e w9 ⟨rfl, hw9⟩
                subst hw9
                go_wp2_with fail
                refine (get21 HVB.out).mono ?_
                rintro e w9 ⟨rfl, hw9⟩
                subst hw9
                go_wp2_with fail
                refine (get22 HVB.out).mono ?_
                rintro e w9 ⟨rfl, hw9⟩
                subst hw9
                go_wp2_with fail
                refine (get23 HVB.out (by omega) (by omega)).mono ?_
                rintro e w5 ⟨rfl, hb5⟩
                have HM5 := hide (Mid.below HM2.out hb5)
                have HB5 := hide (Below.from HB2.out hb5)
                clear hb5
                go_wp2_with fail
                go_roundw
                case rel => exact ⟨k + 1, false, by omega, rfl, by go_num, HM5.out, HB5.out⟩
                case measure => simp [intOf]; omega
            | false =>
              cases hc : ((S k).toList == hist.toList) with
              | true =>
                have hm2 : Mid pb sb hist mk mat n m H R false w2.drew := by
                  have := hmid2.below (Below.refl _ w2).drew
                  simpa [hc] using this
                have HM2 := hide hm2
                clear hm2
                have HB2 : Hid (Below w.heap.size w w2.drew) := (HBW.out.trans hb2).drew
                have d2 : w2.drew.cell? ⟨bb, off + k, none⟩ = some (.string (S k)) := kept HB2.out d0
                have d3 : w2.cell? ⟨bb, off + k, none⟩ = some (.string (S k)) := kept (HBW.out.trans hb2) d0
                have HV2 := hide (hv2.below (Below.refl _ w2).drew)
                have hq : (hist2.toList == (S k).toList) = true := by simpa using he2
                obtain ⟨hist4, hba⟩ := hbare (by simp [hc])
                have HVB := hide (hba.view.below (Below.refl _ w2).drew)
                clear hba
                clear hmid2 hb2 he2 hv2 hbare
                go_wp2_with fail
                go_region_held3 (fun w' => w'.cell? ⟨bb, off + k, none⟩ = some (.string (S k))) (exact d2) (first | (go_at_call 19; refine (get19 HV2.out).mono ?_; rintro e w4 ⟨rfl, rfl⟩) | fail "no arm")
                all_goals go_wp2_with fail
                refine (get20 HVB.out).mono ?_
                rintro e w9 ⟨rfl, hw9⟩
                subst hw9
                go_wp2_with fail
                refine (get21 HVB.out).mono ?_
                rintro e w9 ⟨rfl, hw9⟩
                subst hw9
                go_wp2_with fail
                refine (get22 HVB.out).mono ?_
                rintro e w9 ⟨rfl, hw9⟩
                subst hw9
                go_wp2_with fail
                refine (get23 HVB.out (by omega) (by omega)).mono ?_
                rintro e w5 ⟨rfl, hb5⟩
                have HM5 := hide (Mid.below HM2.out hb5)
                have HB5 := hide (Below.from HB2.out hb5)
                clear hb5
                go_wp2_with fail
                go_roundw
                case rel => exact ⟨k + 1, false, by omega, rfl, by go_num, HM5.out, HB5.out⟩
                case measure => simp [intOf]; omega
              | false =>
                have hm2 : Mid pb sb hist mk mat n m H R false w2.drew := by
                  have := hmid2.below (Below.refl _ w2).drew
                  simpa [hc] using this
                have HM2 := hide hm2
                clear hm2
                have HB2 : Hid (Below w.heap.size w w2.drew) := (HBW.out.trans hb2).drew
                have d2 : w2.drew.cell? ⟨bb, off + k, none⟩ = some (.string (S k)) := kept HB2.out d0
                have d3 : w2.cell? ⟨bb, off + k, none⟩ = some (.string (S k)) := kept (HBW.out.trans hb2) d0
                have HV2 := hide (hv2.below (Below.refl _ w2).drew)
                have hq : (hist2.toList == (S k).toList) = true := by simpa using he2
                obtain ⟨hist4, hba⟩ := hbare (by simp [hc])
                have HVB := hide (hba.view.below (Below.refl _ w2).drew)
                clear hba
                clear hmid2 hb2 he2 hv2 hbare
                go_wp2_with fail
                go_region_held3 (fun w' => w'.cell? ⟨bb, off + k, none⟩ = some (.string (S k))) (exact d2) (first | (go_at_call 19; refine (get19 HV2.out).mono ?_; rintro e w4 ⟨rfl, rfl⟩) | fail "no arm")
                all_goals go_wp2_with fail
                refine (get20 HVB.out).mono ?_
                rintro e w9 ⟨rfl, hw9⟩
                subst hw9
                go_wp2_with fail
                refine (get21 HVB.out).mono ?_
                rintro e w9 ⟨rfl, hw9⟩
                subst hw9
                go_wp2_with fail
                refine (get22 HVB.out).mono ?_
                rintro e w9 ⟨rfl, hw9⟩
                subst hw9
                go_wp2_with fail
                refine (get23 HVB.out (by omega) (by omega)).mono ?_
                rintro e w5 ⟨rfl, hb5⟩
                have HM5 := hide (Mid.below HM2.out hb5)
                have HB5 := hide (Below.from HB2.out hb5)
                clear hb5
                go_wp2_with fail
                go_roundw
                case rel => exact ⟨k + 1, false, by omega, rfl, by go_num, HM5.out, HB5.out⟩
                case measure => simp [intOf]; omega
          · obtain rfl : p = k := by omega
            cases b with
            | false =>
              go_wp2_with fail
              go_ret
              exact ⟨rfl, HBW.out⟩
            | true =>
              have HV := hide (HMID.out.view rfl)
              clear HMID
              go_wp2_with fail
              refine (get19 HV.out).mono ?_
              rintro e w9 ⟨rfl, hw9⟩
              obtain rfl : wr = w9 := hw9.symm
              clear hw9
              go_wp2_with fail
              refine (get22 HV.out).mono ?_
              rintro e w9 ⟨rfl, hw9⟩
              obtain rfl : wr = w9 := hw9.symm
              clear hw9
              go_wp2_with fail
              refine (get23 HV.out HM.out.1 HM.out.2).mono ?_
              rintro e w3 ⟨rfl, hb3⟩
              have HV3 := hide (HV.out.below hb3)
              have B3 := hide (Below.from HBW.out hb3)
              clear hb3
              go_wp2_with fail
              refine (get20 HV3.out).mono ?_
              rintro e w9 ⟨rfl, hw9⟩
              obtain rfl : w3 = w9 := hw9.symm
              clear hw9
              go_wp2_with fail
              refine (get21 HV3.out).mono ?_
              rintro e w9 ⟨rfl, hw9⟩
              obtain rfl : w3 = w9 := hw9.symm
              clear hw9
              go_wp2_with fail
              go_loopw [18] (fun i wr => ∃ (k : Nat), k ≤ n ∧ i = .int .i64 k ∧ Below w3.heap.size w3 wr) (fun i _ => n - (intOf i).toNat)
              case atStart => exact ⟨0, Nat.zero_le _, rfl, Below.refl _ _⟩
              case round =>
                obtain ⟨k, hk, rfl, hbr⟩ := hrel
                have HBR := hide hbr
                have HVR := hide (HV3.out.below hbr.drew)
                by_cases hlt : k < n
                · obtain ⟨b, off, rfl, d1, d2⟩ := (H1.out.later (Below.from B3.out hbr.drew)) k hlt
                  have i0 : (0 : Int) ≤ (k : Int) := by omega
                  have i1 : (k : Int) < (n : Int) := by omega
                  clear hbr
                  go_wp2_with fail
                  go_region_held3 (fun w' => w'.cell? ⟨b, off + k * 2, none⟩ = some (.int .i64 (H k).at_) ∧ w'.cell? ⟨b, off + k * 2 + 1, none⟩ = some (.int .u64 (H k).ts)) (first | exact ⟨d1, d2⟩ | exact ⟨kept hb5 d1, kept hb5 d2⟩) (first | (go_at_call 24; refine (get24 HVR.out k hlt).mono ?_; rintro e w4 ⟨rfl, rfl⟩) | (go_at_call 25; refine (get25 HVR.out k hlt HH.out).mono ?_; rintro e w5 ⟨rfl, hb5⟩))
                  all_goals have HB5 := hide (Below.from HBR.out.drew hb5)
                  all_goals clear hb5
                  all_goals go_wp2_with fail
                  all_goals go_roundw
                  all_goals first | (exact ⟨k + 1, by omega, by go_num, HB5.out⟩) | (simp [intOf]; omega)
                · obtain rfl : n = k := by omega
                  clear hbr
                  go_wp2_with fail
                  have HVE := hide (HV3.out.below HBR.out)
                  have BE := hide (Below.from B3.out HBR.out)
                  generalize wr = wE at HVE BE ⊢
                  clear HVR HBR
                  go_loopw [19] (fun i wr => ∃ (k : Nat), k ≤ m ∧ i = .int .i64 k ∧ Below wE.heap.size wE wr) (fun i _ => m - (intOf i).toNat)
                  case atStart => exact ⟨0, Nat.zero_le _, rfl, Below.refl _ _⟩
                  case round =>
                    obtain ⟨k, hk, rfl, hbr⟩ := hrel
                    have HBR := hide hbr
                    have HVR := hide (HVE.out.below hbr.drew)
                    by_cases hlt : k < m
                    · obtain ⟨b, off, rfl, d1, d2⟩ := (H2.out.later (Below.from BE.out hbr.drew)) k hlt
                      have i0 : (0 : Int) ≤ (k : Int) := by omega
                      have i1 : (k : Int) < (m : Int) := by omega
                      clear hbr
                      go_wp2_with fail
                      go_region_held3 (fun w' => w'.cell? ⟨b, off + k * 2, none⟩ = some (.int .i64 (R k).at_) ∧ w'.cell? ⟨b, off + k * 2 + 1, none⟩ = some (.int .u64 (R k).ts)) (first | exact ⟨d1, d2⟩ | exact ⟨kept hb5 d1, kept hb5 d2⟩) (first | (go_at_call 26; refine (get26 HVR.out k hlt).mono ?_; rintro e w4 ⟨rfl, rfl⟩) | (go_at_call 27; refine (get27 HVR.out k hlt HR.out).mono ?_; rintro e w5 ⟨rfl, hb5⟩))
                      all_goals have HB5 := hide (Below.from HBR.out.drew hb5)
                      all_goals clear hb5
                      all_goals go_wp2_with fail
                      all_goals go_roundw
                      all_goals first | (exact ⟨k + 1, by omega, by go_num, HB5.out⟩) | (simp [intOf]; omega)
                    · obtain rfl : m = k := by omega
                      clear hbr
                      go_wp2_with fail
                      go_ret
                      exact ⟨rfl, Below.from BE.out HBR.out⟩
end Go.Proofs.Qxb6605955a
