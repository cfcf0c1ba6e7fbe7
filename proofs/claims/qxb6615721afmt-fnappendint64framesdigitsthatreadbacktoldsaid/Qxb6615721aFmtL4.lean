import Derived.Test.Qxb6615721aFmtW11
import Derived.Deep.DeepCutAuto
namespace Go.Proofs.Qxb6615721aFmt
open Go.RowKit

/-- What the law asks of the list O that Append has laid: dst's bytes zs, 'i', maybe '-', the digits ds from place p on, 'e'. -/
structure Framed (O zs ds : List Int) (p m : Nat) : Prop where
  len : O.length = p + ds.length + 1
  head : ∀ i, i < zs.length → O.getD i 0 = zs.getD i 0
  mark : O.getD zs.length 0 = 105
  last : O.getD (p + ds.length) 0 = 101
  digs : ∀ i, i < ds.length → O.getD (p + i) 0 = ds.getD i 0
  back : rdZ O p ds.length = m

theorem getD_app_left (l r : List Int) (i : Nat) (h : i < l.length) : (l ++ r).getD i 0 = l.getD i 0 := by
  rw [List.getD_eq_getElem?_getD, List.getElem?_append_left h, ← List.getD_eq_getElem?_getD]

theorem getD_app_right (l r : List Int) (i : Nat) : (l ++ r).getD (l.length + i) 0 = r.getD i 0 := by
  rw [List.getD_eq_getElem?_getD, List.getElem?_append_right (by omega), Nat.add_sub_cancel_left, ← List.getD_eq_getElem?_getD]

theorem framed_of (pre zs : List Int) (m : Nat) (hpre : ∃ t, pre = zs ++ 105 :: t) : Framed (pre ++ (decZ m ++ [101])) zs (decZ m) pre.length m := by
  obtain ⟨t, rfl⟩ := hpre
  refine ⟨by simp; omega, fun i hi => ?_, ?_, ?_, fun i hi => ?_, ?_⟩
  · rw [List.append_assoc, getD_app_left _ _ _ hi]
  · rw [List.append_assoc]
    simp
  · rw [getD_app_right]
    simp
  · rw [getD_app_right, getD_app_left _ _ _ hi]
  · unfold rdZ
    rw [List.drop_left, List.take_left]
    exact readZ_decZ m

theorem framed_pos (zs : List Int) (m : Nat) : Framed (intEncZ zs (m : Int)) zs (decZ m) (zs.length + 1) m := by
  have h := framed_of (zs ++ [105]) zs m ⟨[], rfl⟩
  have e : zs ++ [105] ++ (decZ m ++ [101]) = intEncZ zs (m : Int) := by
    rw [intEncZ, itoaZ_nonneg _ (by omega), Int.toNat_natCast]
    simp
  rw [e] at h
  simpa using h

theorem framed_neg (zs : List Int) (m : Nat) (hm : 1 ≤ m) : Framed (intEncZ zs (-(m : Int))) zs (decZ m) (zs.length + 2) m ∧ (intEncZ zs (-(m : Int))).getD (zs.length + 1) 0 = 45 := by
  have e : zs ++ [105, 45] ++ (decZ m ++ [101]) = intEncZ zs (-(m : Int)) := by
    rw [intEncZ, itoaZ_neg _ (by omega), Int.natAbs_neg, Int.natAbs_natCast]
    simp
  constructor
  · have h := framed_of (zs ++ [105, 45]) zs m ⟨[45], rfl⟩
    rw [e] at h
    simpa using h
  · rw [← e, List.append_assoc, getD_app_right]
    rfl

set_option maxRecDepth 100000 in
set_option maxHeartbeats 1000000 in
theorem zzReadDigits_any (a : Option Addr) (c p L m : Nat) (pz lim : Int) (zs : List Int) (w : World) (hr : Reads w a zs) (hn : zs.length ≤ 1099511627776)
    (hL1 : 1 ≤ L) (hL : L ≤ 19) (hp : p + L < zs.length) (hd : ∀ j, j < L → 48 ≤ zs.getD (p + j) 0 ∧ zs.getD (p + j) 0 ≤ 57) (he : zs.getD (p + L) 0 = 101)
    (h0 : L = 1 ∨ zs.getD p 0 ≠ 48) (hm : rdZ zs p L = m) (hlim : (m : Int) ≤ lim) (hpz : pz = (p : Int)) :
    Calls Tryf.prog 13 #[.slice a zs.length c, .int .i64 pz, .int .u64 lim] w fun e w' => e = .returned (.tuple #[.int .u64 (m : Int), .int .i64 ((p : Int) + L), .bool true]) ∧ w' = w := by
  subst hpz
  have H := hidP (readDigits_any a c p L lim zs w hr hn hL1 hL hp hd he h0 (by rw [hm]; exact hlim))
  have HM := hidP hm
  clear hr hd he h0 hm
  go_enter Tryf.func13, Tryf.ntmps13
  go_wp2_with fail
  refine H.out.mono ?_
  rintro e w' ⟨rfl, rfl⟩
  rw [HM.out]
  go_wp2_with fail
  go_ret3
  exact ⟨rfl, rfl⟩

set_option maxRecDepth 100000 in
set_option maxHeartbeats 1000000 in
theorem bytes4_any (a : Option Addr) (n c : Nat) (i : Int) (w : World) (hn : n ≤ 1048576) :
    Calls Tryf.prog 9 #[.slice a n c, .int .i64 i] w fun e w' => e = .returned (.bool true) ∧ w' = w := by
  go_enter Tryf.func9, Tryf.ntmps9
  go_wp2
  go_ret
  exact ⟨rfl, rfl⟩

set_option maxRecDepth 100000 in
set_option maxHeartbeats 1000000 in
theorem bytes4_big (a : Option Addr) (n c : Nat) (i : Int) (w : World) (hn : 1048576 < n) :
    Calls Tryf.prog 9 #[.slice a n c, .int .i64 i] w fun e w' => e = .returned (.bool false) ∧ w' = w := by
  go_enter Tryf.func9, Tryf.ntmps9
  go_wp2
  go_ret
  exact ⟨rfl, rfl⟩

set_option maxRecDepth 100000 in
set_option maxHeartbeats 4000000 in
theorem law4_pos (a : Option Addr) (c : Nat) (zs : List Int) (m : Nat) (w : World) (hT : Tab w) (ha : a = none → c = 0) (hr : Reads w a zs) (hn : zs.length ≤ 1048576) (hm : m ≤ 9223372036854775807) :
    Calls Tryf.prog 4 #[.slice a zs.length c, .int .i64 (m : Int)] w fun e w' => e = .returned (.bool true) ∧ Below w.heap.size w w' := by
  have HF := hidP (framed_pos zs m)
  have HD := hidP (decZ_digit m)
  have hd19 := decZ_le19 m (by omega)
  have hd1 := decZ_pos m
  have HH := hidP (decZ_head m)
  have hlen : (intEncZ zs (m : Int)).length = zs.length + 1 + (decZ m).length + 1 := HF.out.len
  have hle1 : (intEncZ zs (m : Int)).length ≤ zs.length + 1 + (decZ m).length + 1 := by omega
  have hle2 : zs.length + 1 + (decZ m).length + 1 ≤ (intEncZ zs (m : Int)).length := by omega
  clear hlen
  go_enter Tryf.func4, Tryf.ntmps4
  go_wp2_with fail
  refine (bytes4_any a zs.length c _ w hn).mono ?_
  rintro e w0 ⟨rfl, rfl⟩
  go_wp2_with fail
  refine (clone_any a c zs w0 ha hr hn).mono ?_
  rintro e w1 ⟨a1, rfl, -, hr1, hnx1⟩
  have HT1 := hidP (hT.below hnx1)
  have HR1 := hidP hr1
  have HS1 := hidP (hr.below hnx1)
  have HN1 := hidP hnx1
  clear hr1 hnx1 hT hr
  go_wp2_with fail
  refine (zzAppendInt64_any a1 zs (m : Int) (by omega) (by omega) w1 HT1.out HR1.out (by omega)).mono ?_
  rintro e w2 ⟨a2, c2, rfl, hr2, hnx2⟩
  generalize intEncZ zs (m : Int) = O at *
  have HR2 := hidP hr2
  have HS2 := hidP (HS1.out.below hnx2)
  have HN2 := hidP (HN1.out.trans (hnx2.mono HN1.out.size))
  clear hr2 hnx2 HT1 HR1 HS1 HN1
  go_wp2_with fail
  refine (decimal_any m w2 (by omega)).mono ?_
  rintro e w3 ⟨a3, rfl, hr3, hnx3⟩
  generalize decZ m = ds at *
  have HR3 := hidP hr3
  have HO3 := hidP (HR2.out.below hnx3)
  have HS3 := hidP (HS2.out.below hnx3)
  have HN3 := hidP (HN2.out.trans (hnx3.mono HN2.out.size))
  clear hr3 hnx3 HR2 HS2 HN2
  obtain ⟨b2, o2, rfl, hb2, hx2⟩ := HO3.out.plain (by omega)
  have HX2 := hidP hx2
  clear hx2
  go_wp2_with fail
  go_loopw [12] (fun s12 wr => ∃ k : Nat, k ≤ zs.length ∧ s12 = .int .i64 k ∧ ∃ q, wr = w3.drewN q) (fun s12 _ => zs.length - (intOf s12).toNat)
  case atStart => exact ⟨0, Nat.zero_le _, rfl, 0, rfl⟩
  case round =>
    obtain ⟨k, hk, rfl, q, rfl⟩ := hrel
    by_cases hlt : k < zs.length
    · obtain ⟨b, off, rfl, _, hx⟩ := HS3.out.plain (by omega)
      have e1 := hx k hlt
      have e2 := HX2.out k (by omega)
      rw [HF.out.head k hlt] at e2
      have hlt' : (k : Int) < (zs.length : Int) := by omega
      have hltO : (k : Int) < (O.length : Int) := by omega
      clear hx
      generalize zs.getD k 0 = z at e1 e2
      have ez : (z != z) = false := by simp
      go_wp2_with fail
      go_quiet (fail)
      go_wp2_with fail
      go_roundw
      case rel => exact ⟨k + 1, by omega, by go_num, _, rfl⟩
      case measure => simp [intOf]; omega
    · have cc1 := HX2.out zs.length (by omega)
      rw [HF.out.mark] at cc1
      have cc2 : w3.cell? ⟨b2, o2 + (O.length - 1), none⟩ = some (.int .u8 101) := by
        have h := HX2.out (zs.length + 1 + ds.length) (by omega)
        rw [HF.out.last] at h
        rw [show O.length - 1 = zs.length + 1 + ds.length by omega]
        exact h
      have hi1 : (zs.length : Int) < (O.length : Int) := by omega
      have n105 : ((105 : Int) != 105) = false := by decide
      have n101 : ((101 : Int) != 101) = false := by decide
      go_wp2_with fail
      obtain ⟨b3, o3, h3, hb3, hx3⟩ := HR3.out.plain (by omega)
      cases h3
      have HX3 := hidP hx3
      clear hx3 cc1 cc2 hi1 n105 n101
      go_loopw [13] (fun s13 wr => ∃ k : Nat, k ≤ ds.length ∧ s13 = .int .i64 k ∧ Below w3.heap.size w3 wr) (fun s13 _ => ds.length - (intOf s13).toNat)
      case atStart => exact ⟨0, Nat.zero_le _, rfl, below_drewN (Below.refl _ _) q⟩
      case round =>
        obtain ⟨j, hj, rfl, hnx⟩ := hrel
        have HNX := hidP hnx
        clear hnx
        by_cases hjl : j < ds.length
        · have e1 : wr.cell? ⟨b3, o3 + j, none⟩ = some (.int .u8 (ds.getD j 0)) := (HNX.out.cell (by exact hb3)).trans (HX3.out j hjl)
          obtain ⟨t, ht⟩ : ∃ t : Nat, t = zs.length + 1 + j := ⟨_, rfl⟩
          have e2 : wr.cell? ⟨b2, o2 + t, none⟩ = some (.int .u8 (ds.getD j 0)) := by
            have h := HX2.out (zs.length + 1 + j) (by omega)
            rw [HF.out.digs j hjl, ← ht] at h
            exact (HNX.out.cell (by exact hb2)).trans h
          have hw : IntKind.i64.wrap (((zs.length : Int) + 1) + (j : Int)) = (t : Int) := by rw [IntWalk.i64_in _ ⟨by omega, by omega⟩]; omega
          have hz := HD.out (ds.getD j 0) (by rw [List.getD_eq_getElem?_getD, List.getElem?_eq_getElem hjl]; exact List.getElem_mem hjl)
          have hj1 : (j : Int) < (ds.length : Int) := by omega
          have hj2 : (t : Int) < (O.length : Int) := by omega
          have HTT := hidP ht
          clear ht
          generalize ds.getD j 0 = z at e1 e2 hz
          have ez : (z != z) = false := by simp
          have hdz : digB z = true := by simp [digB]; omega
          go_wp2_with fail
          go_quiet ((go_at_call 8; exact Calls.quiet_of_same (zzIsDigit_any _ _)))
          go_wp2_with fail
          go_roundw
          case rel => exact ⟨j + 1, by omega, by go_num, below_drewN HNX.out _⟩
          case measure => simp [intOf]; omega
        · have d1 : digB 105 = false := by decide
          have d2 : digB 101 = false := by decide
          have d3 : digB 45 = false := by decide
          have HRD := hidP (zzReadDigits_any (some ⟨b2, o2, none⟩) c2 (zs.length + 1) ds.length m ((zs.length : Int) + 1) 9223372036854775807 O wr (HO3.out.below HNX.out) (by omega) hd1 hd19 (by omega)
            (fun t ht => by rw [HF.out.digs t ht]; exact HD.out _ (by rw [List.getD_eq_getElem?_getD, List.getElem?_eq_getElem ht]; exact List.getElem_mem ht))
            HF.out.last
            (by
              rcases Nat.lt_or_ge 1 ds.length with h | h
              · right
                have h0 := HF.out.digs 0 (by omega)
                rw [Nat.add_zero] at h0
                rw [h0]
                exact HH.out h
              · left; omega)
            HF.out.back (by omega) (by omega))
          go_wp2_with (go_at_call 8; refine (zzIsDigit_any _ _).mono ?_; rintro e w4 ⟨rfl, rfl⟩)
          refine HRD.out.mono ?_
          rintro e w5 ⟨rfl, rfl⟩
          have hend : ((zs.length : Int) + 1 + (ds.length : Int) == (O.length : Int) - 1) = true := by rw [beq_iff_eq]; omega
          have hmm : ((m : Int) == (m : Int)) = true := by simp
          go_wp2_with fail
          go_ret
          exact ⟨rfl, HN3.out.trans (HNX.out.mono HN3.out.size)⟩

set_option maxRecDepth 100000 in
set_option maxHeartbeats 4000000 in
theorem law4_neg (a : Option Addr) (c : Nat) (zs : List Int) (m : Nat) (w : World) (hT : Tab w) (ha : a = none → c = 0) (hr : Reads w a zs) (hn : zs.length ≤ 1048576) (hm1 : 1 ≤ m) (hm : m ≤ 9223372036854775808) :
    Calls Tryf.prog 4 #[.slice a zs.length c, .int .i64 (-(m : Int))] w fun e w' => e = .returned (.bool true) ∧ Below w.heap.size w w' := by
  have HF := hidP ((framed_neg zs m hm1).1)
  have HM := hidP (framed_neg zs m hm1).2
  have HD := hidP (decZ_digit m)
  have hd19 := decZ_le19 m (by omega)
  have hd1 := decZ_pos m
  have HH := hidP (decZ_head m)
  have hlen : (intEncZ zs (-(m : Int))).length = zs.length + 2 + (decZ m).length + 1 := HF.out.len
  have hle1 : (intEncZ zs (-(m : Int))).length ≤ zs.length + 2 + (decZ m).length + 1 := by omega
  have hle2 : zs.length + 2 + (decZ m).length + 1 ≤ (intEncZ zs (-(m : Int))).length := by omega
  clear hlen
  go_enter Tryf.func4, Tryf.ntmps4
  go_wp2_with fail
  refine (bytes4_any a zs.length c _ w hn).mono ?_
  rintro e w0 ⟨rfl, rfl⟩
  go_wp2_with fail
  refine (clone_any a c zs w0 ha hr hn).mono ?_
  rintro e w1 ⟨a1, rfl, -, hr1, hnx1⟩
  have HT1 := hidP (hT.below hnx1)
  have HR1 := hidP hr1
  have HS1 := hidP (hr.below hnx1)
  have HN1 := hidP hnx1
  clear hr1 hnx1 hT hr
  go_wp2_with fail
  refine (zzAppendInt64_any a1 zs (-(m : Int)) (by omega) (by omega) w1 HT1.out HR1.out (by omega)).mono ?_
  rintro e w2 ⟨a2, c2, rfl, hr2, hnx2⟩
  generalize intEncZ zs (-(m : Int)) = O at *
  have HR2 := hidP hr2
  have HS2 := hidP (HS1.out.below hnx2)
  have HN2 := hidP (HN1.out.trans (hnx2.mono HN1.out.size))
  clear hr2 hnx2 HT1 HR1 HS1 HN1
  go_wp2_with fail
  rw [show -(-(m : Int) + 1) + 1 = (m : Int) by omega]
  refine (decimal_any m w2 (by omega)).mono ?_
  rintro e w3 ⟨a3, rfl, hr3, hnx3⟩
  generalize decZ m = ds at *
  have HR3 := hidP hr3
  have HO3 := hidP (HR2.out.below hnx3)
  have HS3 := hidP (HS2.out.below hnx3)
  have HN3 := hidP (HN2.out.trans (hnx3.mono HN2.out.size))
  clear hr3 hnx3 HR2 HS2 HN2
  obtain ⟨b2, o2, rfl, hb2, hx2⟩ := HO3.out.plain (by omega)
  have HX2 := hidP hx2
  clear hx2
  go_wp2_with fail
  go_loopw [12] (fun s12 wr => ∃ k : Nat, k ≤ zs.length ∧ s12 = .int .i64 k ∧ ∃ q, wr = w3.drewN q) (fun s12 _ => zs.length - (intOf s12).toNat)
  case atStart => exact ⟨0, Nat.zero_le _, rfl, 0, rfl⟩
  case round =>
    obtain ⟨k, hk, rfl, q, rfl⟩ := hrel
    by_cases hlt : k < zs.length
    · obtain ⟨b, off, rfl, _, hx⟩ := HS3.out.plain (by omega)
      have e1 := hx k hlt
      have e2 := HX2.out k (by omega)
      rw [HF.out.head k hlt] at e2
      have hlt' : (k : Int) < (zs.length : Int) := by omega
      have hltO : (k : Int) < (O.length : Int) := by omega
      clear hx
      generalize zs.getD k 0 = z at e1 e2
      have ez : (z != z) = false := by simp
      go_wp2_with fail
      go_quiet (fail)
      go_wp2_with fail
      go_roundw
      case rel => exact ⟨k + 1, by omega, by go_num, _, rfl⟩
      case measure => simp [intOf]; omega
    · have cc1 := HX2.out zs.length (by omega)
      rw [HF.out.mark] at cc1
      have cc2 : w3.cell? ⟨b2, o2 + (O.length - 1), none⟩ = some (.int .u8 101) := by
        have h := HX2.out (zs.length + 2 + ds.length) (by omega)
        rw [HF.out.last] at h
        rw [show O.length - 1 = zs.length + 2 + ds.length by omega]
        exact h
      have hi1 : (zs.length : Int) < (O.length : Int) := by omega
      have n105 : ((105 : Int) != 105) = false := by decide
      have n101 : ((101 : Int) != 101) = false := by decide
      have cc3 := HX2.out (zs.length + 1) (by omega)
      rw [HM.out] at cc3
      have n45 : ((45 : Int) != 45) = false := by decide
      go_wp2_with fail
      obtain ⟨b3, o3, h3, hb3, hx3⟩ := HR3.out.plain (by omega)
      cases h3
      have HX3 := hidP hx3
      clear hx3 cc1 cc2 hi1 n105 n101
      go_loopw [13] (fun s13 wr => ∃ k : Nat, k ≤ ds.length ∧ s13 = .int .i64 k ∧ Below w3.heap.size w3 wr) (fun s13 _ => ds.length - (intOf s13).toNat)
      case atStart => exact ⟨0, Nat.zero_le _, rfl, below_drewN (Below.refl _ _) q⟩
      case round =>
        obtain ⟨j, hj, rfl, hnx⟩ := hrel
        have HNX := hidP hnx
        clear hnx
        by_cases hjl : j < ds.length
        · have e1 : wr.cell? ⟨b3, o3 + j, none⟩ = some (.int .u8 (ds.getD j 0)) := (HNX.out.cell (by exact hb3)).trans (HX3.out j hjl)
          obtain ⟨t, ht⟩ : ∃ t : Nat, t = zs.length + 2 + j := ⟨_, rfl⟩
          have e2 : wr.cell? ⟨b2, o2 + t, none⟩ = some (.int .u8 (ds.getD j 0)) := by
            have h := HX2.out (zs.length + 2 + j) (by omega)
            rw [HF.out.digs j hjl, ← ht] at h
            exact (HNX.out.cell (by exact hb2)).trans h
          have hw : IntKind.i64.wrap (((zs.length : Int) + 1 + 1) + (j : Int)) = (t : Int) := by rw [IntWalk.i64_in _ ⟨by omega, by omega⟩]; omega
          have hz := HD.out (ds.getD j 0) (by rw [List.getD_eq_getElem?_getD, List.getElem?_eq_getElem hjl]; exact List.getElem_mem hjl)
          have hj1 : (j : Int) < (ds.length : Int) := by omega
          have hj2 : (t : Int) < (O.length : Int) := by omega
          have HTT := hidP ht
          clear ht
          generalize ds.getD j 0 = z at e1 e2 hz
          have ez : (z != z) = false := by simp
          have hdz : digB z = true := by simp [digB]; omega
          go_wp2_with fail
          go_quiet ((go_at_call 8; exact Calls.quiet_of_same (zzIsDigit_any _ _)))
          go_wp2_with fail
          go_roundw
          case rel => exact ⟨j + 1, by omega, by go_num, below_drewN HNX.out _⟩
          case measure => simp [intOf]; omega
        · have d1 : digB 105 = false := by decide
          have d2 : digB 101 = false := by decide
          have d3 : digB 45 = false := by decide
          have HRD := hidP (zzReadDigits_any (some ⟨b2, o2, none⟩) c2 (zs.length + 2) ds.length m ((zs.length : Int) + 1 + 1) (9223372036854775807 + 1) O wr (HO3.out.below HNX.out) (by omega) hd1 hd19 (by omega)
            (fun t ht => by rw [HF.out.digs t ht]; exact HD.out _ (by rw [List.getD_eq_getElem?_getD, List.getElem?_eq_getElem ht]; exact List.getElem_mem ht))
            HF.out.last
            (by
              rcases Nat.lt_or_ge 1 ds.length with h | h
              · right
                have h0 := HF.out.digs 0 (by omega)
                rw [Nat.add_zero] at h0
                rw [h0]
                exact HH.out h
              · left; omega)
            HF.out.back (by omega) (by omega))
          go_wp2_with (go_at_call 8; refine (zzIsDigit_any _ _).mono ?_; rintro e w4 ⟨rfl, rfl⟩)
          refine HRD.out.mono ?_
          rintro e w5 ⟨rfl, rfl⟩
          have hend : ((zs.length : Int) + 2 + (ds.length : Int) == (O.length : Int) - 1) = true := by rw [beq_iff_eq]; omega
          have hmm : ((m : Int) == (m : Int)) = true := by simp
          go_wp2_with fail
          go_ret
          exact ⟨rfl, HN3.out.trans (HNX.out.mono HN3.out.size)⟩

set_option maxRecDepth 100000 in
set_option maxHeartbeats 1000000 in
theorem law4_big (a : Option Addr) (c : Nat) (zs : List Int) (n : Int) (w : World) (hn : 1048576 < zs.length) :
    Calls Tryf.prog 4 #[.slice a zs.length c, .int .i64 n] w fun e w' => e = .returned (.bool true) ∧ Below w.heap.size w w' := by
  go_enter Tryf.func4, Tryf.ntmps4
  go_wp2_with fail
  refine (bytes4_big a zs.length c _ w hn).mono ?_
  rintro e w0 ⟨rfl, rfl⟩
  go_wp2_with fail
  go_ret
  exact ⟨rfl, Below.refl _ _⟩

theorem law4 (a : Option Addr) (c : Nat) (zs : List Int) (n : Int) (w : World) (hT : Tab w) (ha : a = none → c = 0) (hr : Reads w a zs) (_hz : zs.length ≤ 9223372036854775807) (wn : (Lit.int .i64 n).wf = true) :
    Calls Tryf.prog 4 #[.slice a zs.length c, .int .i64 n] w fun e w' => e = .returned (.bool true) ∧ Below w.heap.size w w' := by
  have hb : -9223372036854775808 ≤ n ∧ n ≤ 9223372036854775807 := by
    have e1 : IntKind.i64.min = -9223372036854775808 := rfl
    have e2 : IntKind.i64.max = 9223372036854775807 := rfl
    simpa [Lit.wf, e1, e2] using wn
  by_cases hn : 1048576 < zs.length
  · exact law4_big a c zs n w hn
  · rcases Int.lt_or_le n 0 with h | h
    · obtain ⟨m, rfl⟩ : ∃ m : Nat, n = -(m : Int) := ⟨n.natAbs, by omega⟩
      exact law4_neg a c zs m w hT ha hr (by omega) (by omega) (by omega)
    · obtain ⟨m, rfl⟩ : ∃ m : Nat, n = (m : Int) := ⟨n.toNat, by omega⟩
      exact law4_pos a c zs m w hT ha hr (by omega) (by omega)

end Go.Proofs.Qxb6615721aFmt
