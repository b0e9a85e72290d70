import Derived.Test.Qxb6605955aFollow
import Derived.Deep.RegionHeld3
namespace Go.Proofs.Qxb6605955a
open Go.RowKit
attribute [local go_sem ↓] Go.wp_at_zero Go.wp_at_succ

theorem Row.later {w w' : World} {g n : Nat} {V : Nat → Value} (h : Row w g n V) (hb : Below w.heap.size w w') : Row w' g n V := fun j hj => kept hb (h j hj)
theorem below_alloc (w : World) (o : Obj) : Below w.heap.size w (w.alloc o) := (Below.refl _ _).alloc (Nat.le_refl _) o
theorem Below.from {a b c : World} (h : Below a.heap.size a b) (k : Below b.heap.size b c) : Below a.heap.size a c := h.trans (k.mono h.size)

theorem ts16 (a : Option Addr) (n c : Nat) (R : Nat → Rd) (w : World) (hn : n ≤ 65536) (h : Rds w a n R) :
    Calls Try.prog 16 #[.slice a n c] w fun e w' => e = .returned (.slice (some ⟨w.heap.size, 0, none⟩) n n) ∧ Row w' w.heap.size n (fun j => .int .u64 (R j).ts) ∧ Below w.heap.size w w' := by
  refine (splitTs16 a n c R w hn h).mono ?_
  rintro e w' ⟨rfl, cs, _, hj, rfl⟩
  exact ⟨rfl, fun j hjn => (cell_of (new_at w _) j).trans (hj j hjn), below_alloc _ _⟩
theorem at17 (a : Option Addr) (n c : Nat) (R : Nat → Rd) (w : World) (hn : n ≤ 65536) (h : Rds w a n R) :
    Calls Try.prog 17 #[.slice a n c] w fun e w' => e = .returned (.slice (some ⟨w.heap.size, 0, none⟩) n n) ∧ Row w' w.heap.size n (fun j => .int .i64 (R j).at_) ∧ Below w.heap.size w w' := by
  refine (splitAt17 a n c R w hn h).mono ?_
  rintro e w' ⟨rfl, cs, _, hj, rfl⟩
  exact ⟨rfl, fun j hjn => (cell_of (new_at w _) j).trans (hj j hjn), below_alloc _ _⟩

set_option maxRecDepth 100000 in
set_option maxHeartbeats 3200000 in
theorem law5 (hist mk hs : ByteArray) (a1 a2 : Option Addr) (n m k1 k2 : Nat) (H R : Nat → Rd) (mat : Int) (w : World) (hH : InR H n) (hR : InR R m) (h1 : Rds w a1 n H) (h2 : Rds w a2 m R) (hmat : -9223372036854775808 ≤ mat ∧ mat ≤ 9223372036854775807) :
    Calls Try.prog 5 #[.string hist, .slice a1 n k1, .slice a2 m k2, .string mk, .int .i64 mat, .string hs] w fun e w' => e = .returned (.bool true) ∧ Below w.heap.size w w' := by
  have HH := hide hH; have HR := hide hR; have H1 := hide h1; have H2 := hide h2; have HM := hide hmat
  clear hH hR h1 h2 hmat
  go_enter Try.func5, Try.ntmps5
  go_wp2_with fail
  refine (bytes14 hist a1 n k1 a2 m k2 mk (.int .i64 mat) hs w).mono ?_
  rintro e w' ⟨⟨b, rfl⟩, hw⟩
  obtain rfl : w = w' := hw.symm
  cases b with
  | false =>
    go_wp2_with fail
    go_ret
    exact ⟨rfl, Below.refl _ _⟩
  | true =>
    go_wp2_with fail
    all_goals first | (go_ret; exact ⟨rfl, Below.refl _ _⟩) | skip
    have hn : (n : Int) ≤ 65536 := by omega
    have hm : (m : Int) ≤ 65536 := by omega
    have HN := hide hn; have HMM := hide hm
    clear hw
    refine (ts16 a1 n k1 H w (by have := HN.out; omega) H1.out).mono ?_
    rintro e wA ⟨rfl, rA, bA⟩
    have RA := hide rA; have BA := hide bA
    clear rA bA
    go_wp2_with fail
    refine (at17 a1 n k1 H wA (by have := HN.out; omega) (H1.out.later BA.out)).mono ?_
    rintro e wB ⟨rfl, rB, bB⟩
    have RB := hide rB; have BB := hide bB
    clear rB bB
    go_wp2_with fail
    refine (ts16 a2 m k2 R wB (by have := HMM.out; omega) (H2.out.later (Below.from BA.out BB.out))).mono ?_
    rintro e wC ⟨rfl, rC, bC⟩
    have RC := hide rC; have BC := hide bC
    clear rC bC
    go_wp2_with fail
    refine (at17 a2 m k2 R wC (by have := HMM.out; omega) (H2.out.later (Below.from (Below.from BA.out BB.out) BC.out))).mono ?_
    rintro e wD ⟨rfl, rD, bD⟩
    have RD := hide rD; have BD := hide bD
    clear rD bD
    go_wp2_with fail
    refine (new15 hist mk w.heap.size wA.heap.size wB.heap.size wC.heap.size n m H R mat wD HN.out HMM.out HH.out HR.out HM.out (RA.out.later (Below.from (Below.from BB.out BC.out) BD.out)) (RB.out.later (Below.from BC.out BD.out)) (RC.out.later BD.out) RD.out).mono ?_
    rintro e w1 ⟨rfl, hpart, b1⟩
    have BW := hide (Below.from (Below.from (Below.from (Below.from BA.out BB.out) BC.out) BD.out) b1)
    have hle := (Below.from (Below.from (Below.from BA.out BB.out) BC.out) BD.out).size
    generalize hpb : wD.heap.size + 1 + 1 = pb at hpart ⊢
    generalize hsb : wD.heap.size + 1 = sb at hpart
    have HPB : Hid (w.heap.size ≤ pb ∧ w.heap.size ≤ sb) := ⟨by omega, by omega⟩
    clear hpb hsb hle b1 RA RB RC RD BA BB BC BD
    have hview := hpart.view
    obtain ⟨⟨horV, rdV, B1, B2, hp, -, -⟩, hst⟩ := hpart
    have HV := hide hview; have HP := hide hp; have HST := hide hst
    clear hview hp hst
    go_wp2_with fail
    by_cases he : hs.toList = hist.toList
    · have hb1 : (hs.toList == hist.toList) = true := by simpa using he
      have hb2 : (hist.toList == hs.toList) = true := by simpa using he.symm
      refine (follow18_same pb sb rdV horV mk hist hs _ _ w1 he HP.out).mono ?_
      rintro e w2 ⟨rfl, hw2⟩
      obtain rfl : w1 = w2 := hw2.symm
      clear hw2 he
      go_wp2_with fail
      refine (get19 HV.out).mono ?_
      rintro e w2 ⟨rfl, hw2⟩
      obtain rfl : w1 = w2 := hw2.symm
      clear hw2
      go_wp2_with fail
      refine (get22 HV.out).mono ?_
      rintro e w2 ⟨rfl, hw2⟩
      obtain rfl : w1 = w2 := hw2.symm
      clear hw2
      go_wp2_with fail
      refine (get23 HV.out HM.out.1 HM.out.2).mono ?_
      rintro e w3 ⟨rfl, hb3⟩
      have HV3 := hide (HV.out.below hb3)
      have B3 := hide (Below.from BW.out hb3)
      clear hb3
      go_wp2_with fail
      refine (get20 HV3.out).mono ?_
      rintro e w2 ⟨rfl, hw2⟩
      obtain rfl : w3 = w2 := hw2.symm
      clear hw2
      go_wp2_with fail
      refine (get21 HV3.out).mono ?_
      rintro e w2 ⟨rfl, hw2⟩
      obtain rfl : w3 = w2 := hw2.symm
      clear hw2
      go_wp2_with fail
      go_loopw [14] (fun i wr => ∃ (k : Nat), k ≤ n ∧ i = .int .i64 k ∧ Below w3.heap.size w3 wr) (fun i _ => n - (intOf i).toNat)
      case atStart => exact ⟨0, Nat.zero_le _, rfl, Below.refl _ _⟩
      case round =>
        obtain ⟨k, hk, rfl, hbr⟩ := hrel
        have HBR := hide hbr
        have HVR := hide (HV3.out.below hbr.drew)
        by_cases hlt : k < n
        · obtain ⟨b, off, rfl, d1, d2⟩ := (H1.out.later (Below.from B3.out hbr.drew)) k hlt
          have i0 : (0 : Int) ≤ (k : Int) := by omega
          have i1 : (k : Int) < (n : Int) := by omega
          clear hbr
          go_wp2_with fail
          go_region_held3 (fun w' => w'.cell? ⟨b, off + k * 2, none⟩ = some (.int .i64 (H k).at_) ∧ w'.cell? ⟨b, off + k * 2 + 1, none⟩ = some (.int .u64 (H k).ts)) (first | exact ⟨d1, d2⟩ | exact ⟨kept hb5 d1, kept hb5 d2⟩) (first | (go_at_call 24; refine (get24 HVR.out k hlt).mono ?_; rintro e w4 ⟨rfl, rfl⟩) | (go_at_call 25; refine (get25 HVR.out k hlt HH.out).mono ?_; rintro e w5 ⟨rfl, hb5⟩))
          all_goals have HB5 := hide (Below.from HBR.out.drew hb5)
          all_goals clear hb5
          all_goals go_wp2_with fail
          all_goals go_roundw
          all_goals first | (exact ⟨k + 1, by omega, by go_num, HB5.out⟩) | (simp [intOf]; omega)
        · obtain rfl : n = k := by omega
          clear hbr
          go_wp2_with fail
          have HVE := hide (HV3.out.below HBR.out)
          have BE := hide (Below.from B3.out HBR.out)
          generalize wr = wE at HVE BE ⊢
          clear HVR HBR
          go_loopw [15] (fun i wr => ∃ (k : Nat), k ≤ m ∧ i = .int .i64 k ∧ Below wE.heap.size wE wr) (fun i _ => m - (intOf i).toNat)
          case atStart => exact ⟨0, Nat.zero_le _, rfl, Below.refl _ _⟩
          case round =>
            obtain ⟨k, hk, rfl, hbr⟩ := hrel
            have HBR := hide hbr
            have HVR := hide (HVE.out.below hbr.drew)
            by_cases hlt : k < m
            · obtain ⟨b, off, rfl, d1, d2⟩ := (H2.out.later (Below.from BE.out hbr.drew)) k hlt
              have i0 : (0 : Int) ≤ (k : Int) := by omega
              have i1 : (k : Int) < (m : Int) := by omega
              clear hbr
              go_wp2_with fail
              go_region_held3 (fun w' => w'.cell? ⟨b, off + k * 2, none⟩ = some (.int .i64 (R k).at_) ∧ w'.cell? ⟨b, off + k * 2 + 1, none⟩ = some (.int .u64 (R k).ts)) (first | exact ⟨d1, d2⟩ | exact ⟨kept hb5 d1, kept hb5 d2⟩) (first | (go_at_call 26; refine (get26 HVR.out k hlt).mono ?_; rintro e w4 ⟨rfl, rfl⟩) | (go_at_call 27; refine (get27 HVR.out k hlt HR.out).mono ?_; rintro e w5 ⟨rfl, hb5⟩))
              all_goals have HB5 := hide (Below.from HBR.out.drew hb5)
              all_goals clear hb5
              all_goals go_wp2_with fail
              all_goals go_roundw
              all_goals first | (exact ⟨k + 1, by omega, by go_num, HB5.out⟩) | (simp [intOf]; omega)
            · obtain rfl : m = k := by omega
              clear hbr
              go_wp2_with fail
              go_ret
              exact ⟨rfl, Below.from BE.out HBR.out⟩
    · have hb1 : (hs.toList == hist.toList) = false := by simpa using he
      refine (follow18_other pb sb rdV horV _ mk hist hs _ _ w1 he HP.out HST.out).mono ?_
      rintro e w2 ⟨rfl, hbare, hfr⟩
      have HV2 := hide hbare.view
      have B2' := hide (BW.out.trans (hfr.below (B := w.heap.size) BW.out.size (fun k hk => by have := HPB.out; simp at hk; omega)))
      clear hbare hfr he
      go_wp2_with fail
      refine (get19 HV2.out).mono ?_
      rintro e w3 ⟨rfl, hw2⟩
      obtain rfl : w2 = w3 := hw2.symm
      clear hw2
      go_wp2_with fail
      refine (get20 HV2.out).mono ?_
      rintro e w3 ⟨rfl, hw2⟩
      obtain rfl : w2 = w3 := hw2.symm
      clear hw2
      go_wp2_with fail
      refine (get21 HV2.out).mono ?_
      rintro e w3 ⟨rfl, hw2⟩
      obtain rfl : w2 = w3 := hw2.symm
      clear hw2
      go_wp2_with fail
      refine (get22 HV2.out).mono ?_
      rintro e w3 ⟨rfl, hw2⟩
      obtain rfl : w2 = w3 := hw2.symm
      clear hw2
      go_wp2_with fail
      refine (get23 HV2.out (by omega) (by omega)).mono ?_
      rintro e w3 ⟨rfl, hb3⟩
      have B3 := hide (B2'.out.trans (hb3.mono B2'.out.size))
      clear hb3
      go_wp2_with fail
      go_ret
      exact ⟨rfl, B3.out⟩
end Go.Proofs.Qxb6605955a
