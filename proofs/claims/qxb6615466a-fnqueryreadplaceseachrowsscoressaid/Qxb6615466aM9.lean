import Derived.Test.Qxb6615466aM8
namespace Go.Proofs.Qxb6615466a
open Go.RowKit

def sOf (st : Int) (j : Nat) : Nat := ((j : Int) * st).toNat

def RegOk (ln : Nat → Nat) (st : Int) (R E K row : Nat) : Prop := ((row % R : Nat) : Int) * st = (sOf st (row % R) : Int) ∧ sOf st (row % R) ≤ 131072 ∧ ∀ k, k < K → sOf st (row % R) < ln (k * E + row / R)

theorem ceil_of {n R e : Nat} (hR : 0 < R) (h : n ≤ e * R) : (n + R - 1) / R ≤ e := by
  refine Nat.lt_succ_iff.1 ((Nat.div_lt_iff_lt_mul hR).2 ?_)
  rw [Nat.succ_mul]
  omega

theorem ceil_gt {n R e : Nat} (hR : 0 < R) (h : e * R < n) : e < (n + R - 1) / R := by
  have h1 := (ceil_up (n := n) hR).1
  rcases Nat.lt_or_ge e ((n + R - 1) / R) with h2 | h2
  · exact h2
  · have h3 := Nat.mul_le_mul_right R h2
    omega

set_option maxRecDepth 100000 in
set_option maxHeartbeats 2000000 in
theorem reg_read (st rw sl : Int) (nw : Bool) (wd bl sp hd ou of gr ba ns : Int) (n K : Nat) (a : Option Addr) (m c : Nat) (ra : Nat → Option Addr) (ln cp : Nat → Nat) (val : Nat → Nat → Nat) (w : World) (hM : Mat w a m ra ln cp val)
    (hn : n ≤ 65536) (hK : K ≤ 65536) (hln : ∀ i, i < m → ln i ≤ 131072) (hm : m ≤ 131072) (st0 : -9223372036854775808 ≤ st) (st1 : st ≤ 9223372036854775807) :
    Calls Try.prog 16 #[.slice a m c, .int .i64 n, .int .i64 K, .agg (qArr st rw sl nw wd bl sp hd ou of gr ba ns)] w fun e w' => e = .returned (.bool true) ∧ Below w.heap.size w w' := by
  have HM := hidP hM
  have HL := hidP hln
  clear hM hln
  unfold qArr
  by_cases o0 : rw < 1
  · go_enter Try.func16, Try.ntmps16
    go_wp2_with fail
    go_ret
    exact ⟨rfl, (Below.refl _ _).alloc (Nat.le_refl _) _⟩
  by_cases o1 : 1073741824 < rw
  · go_enter Try.func16, Try.ntmps16
    go_wp2_with fail
    go_ret
    exact ⟨rfl, (Below.refl _ _).alloc (Nat.le_refl _) _⟩
  obtain ⟨R, rfl⟩ : ∃ R : Nat, rw = (R : Int) := ⟨rw.toNat, by omega⟩
  have hR : 0 < R := by omega
  have hR1 : R ≤ 1073741824 := by omega
  obtain ⟨E, hE⟩ : ∃ E, E = (n + R - 1) / R := ⟨_, rfl⟩
  have HE := hidP hE
  have hEn : E ≤ 65536 := by rw [hE]; exact Nat.le_trans (ceil_le hR) hn
  clear hE
  go_enter Try.func16, Try.ntmps16
  go_upto_block 0 with fail
  obtain ⟨W, hW⟩ : ∃ W, W = w.alloc (.cells (qArr st R sl nw wd bl sp hd ou of gr ba ns) 33) := ⟨_, rfl⟩
  have hWq : W.heap[w.heap.size]? = some (.cells (qArr st R sl nw wd bl sp hd ou of gr ba ns) 33 (0, 0)) := by rw [hW]; exact heap_alloc_new _ _
  have hWb : Below w.heap.size w W := by rw [hW]; exact (Below.refl _ _).alloc (Nat.le_refl _) _
  unfold qArr at hW
  rw [← hW]
  clear hW
  have HQ := hidP hWq
  have HB := hidP hWb
  obtain ⟨c0, c1, c2, c3, c4, c5, c6, c7, c8, c9, c10, c11, c12⟩ := q13 hWq
  have lb : w.heap.size < W.heap.size := (Array.getElem?_eq_some_iff.1 hWq).1
  clear hWq hWb
  go_cut [9] (fun s9 wc => s9 = .int .i64 E ∧ W = wc)
  case first =>
    go_wp2_with fail
    go_loopg [9] E (fun gk s9 wr => ∃ e : Nat, e ≤ E ∧ gk = E - e ∧ s9 = .int .i64 e ∧ wr = W)
    case atStart => exact ⟨0, Nat.zero_le _, rfl, rfl, rfl⟩
    case round =>
      obtain ⟨e, he, hgk, rfl, rfl⟩ := hrel
      have HGK := hidP hgk
      clear hgk
      obtain ⟨t, ht⟩ : ∃ t, t = e * R := ⟨_, rfl⟩
      have hti : (e : Int) * (R : Int) = (t : Int) := by rw [ht]; exact (Int.natCast_mul e R).symm
      have ht1 : t ≤ 65536 * 1073741824 := by rw [ht]; exact Nat.mul_le_mul (by omega) hR1
      by_cases hlt : t < n
      · have he2 : e < E := by rw [HE.out]; rw [ht] at hlt; exact ceil_gt hR hlt
        clear ht
        go_wp2_with fail
        go_roundg (E - (e + 1))
        case measure => rw [HGK.out]; omega
        case rel => exact ⟨e + 1, by omega, rfl, by go_num, rfl⟩
      · have he2 : e = E := by
          have h := ceil_of (n := n) (e := e) hR (by omega)
          rw [← HE.out] at h
          omega
        subst he2
        clear ht
        go_wp2_with fail
        go_meet
        case rel => exact ⟨rfl, rfl⟩
  case rest =>
    obtain ⟨rfl, rfl⟩ := hcut
    go_upto_if 35 with fail
    go_cut [] (fun wc => m = K * E ∧ W = wc)
    case first =>
      rcases Nat.eq_zero_or_pos E with hE0 | hE0
      · subst hE0
        by_cases hm0 : m = 0
        · subst hm0
          go_wp2_with fail
          go_meet
          case rel => exact ⟨by simp, rfl⟩
        · go_wp2_with fail
          go_ret
          exact ⟨rfl, HB.out⟩
      · have hq1 := div_cast m E
        have hq2 := rem_cast m E
        have hq3 := Nat.div_add_mod m E
        have hq4 : m / E ≤ m := Nat.div_le_self _ _
        obtain ⟨md, hmd⟩ : ∃ md, md = m / E := ⟨_, rfl⟩
        obtain ⟨mr, hmr⟩ : ∃ mr, mr = m % E := ⟨_, rfl⟩
        rw [← hmd] at hq1 hq3 hq4
        rw [← hmr] at hq2 hq3
        have HX := hidP hq3
        clear hmd hmr hq3
        by_cases h1 : mr = 0
        · subst h1
          by_cases h2 : md = K
          · subst h2
            go_wp2_with fail
            go_meet
            case rel => exact ⟨by have := HX.out; rw [Nat.mul_comm] at this; omega, rfl⟩
          · go_wp2_with fail
            go_ret
            exact ⟨rfl, HB.out⟩
        · go_wp2_with fail
          go_ret
          exact ⟨rfl, HB.out⟩
    case rest =>
      obtain ⟨hmK, rfl⟩ := hcut
      have HMK := hidP hmK
      clear hmK
      have kk : (4194304 : Int) / (K : Int) = ((4194304 / K : Nat) : Int) := by rw [show (4194304 : Int) = ((4194304 : Nat) : Int) from rfl]; exact (Int.natCast_ediv _ _).symm
      obtain ⟨kd, hkd⟩ : ∃ kd, kd = 4194304 / K := ⟨_, rfl⟩
      rw [← hkd] at kk
      clear hkd
      go_upto_region 11 with fail
      go_cut [59] (fun s59 wc => s59 = .bool (decide (0 < K ∧ kd < n)) ∧ W = wc)
      case first =>
        rcases Nat.eq_zero_or_pos K with o3 | o3
        · subst o3
          go_wp2_with fail
          go_meet
          case rel => exact ⟨by simp, rfl⟩
        · go_wp2_with fail
          go_meet
          case rel => exact ⟨by simp [o3], rfl⟩
      case rest =>
        obtain ⟨rfl, rfl⟩ := hcut
        by_cases hk2 : 0 < K ∧ kd < n
        · rw [decide_eq_true hk2]
          go_wp2_with fail
          go_ret
          exact ⟨rfl, HB.out⟩
        rw [decide_eq_false hk2]
        clear hk2 kk
        go_wp2_with fail
        have HM1 := hidP (HM.out.below HB.out)
        go_loopg [10] n (fun gk s10 wr => ∃ r : Nat, r ≤ n ∧ gk = n - r ∧ s10 = .int .i64 r ∧ (∀ r', r' < r → RegOk ln st R E K r') ∧ Below W.heap.size W wr)
        case atStart => exact ⟨0, Nat.zero_le _, rfl, rfl, fun r' h => absurd h (Nat.not_lt_zero _), Below.refl _ _⟩
        case round =>
          obtain ⟨r, hr, hgk, rfl, hok, hb⟩ := hrel
          have HOK := hidP hok
          have HBR := hidP hb
          have HGK := hidP hgk
          have HQ1 := hidP (show wr.heap[w.heap.size]? = some (.cells (qArr st R sl nw wd bl sp hd ou of gr ba ns) 33 (0, 0)) by rw [hb.block _ lb]; exact HQ.out)
          clear hok hb hgk c0 c1 c2 c3 c4 c5 c6 c7 c8 c9 c10 c11 c12
          obtain ⟨c0, c1, c2, c3, c4, c5, c6, c7, c8, c9, c10, c11, c12⟩ := q13 HQ1.out
          have lb1 : w.heap.size < wr.heap.size := (Array.getElem?_eq_some_iff.1 HQ1.out).1
          by_cases hlt : r < n
          · have hqi := div_cast r R
            have hji := rem_cast r R
            have hqE : r / R < E := by rw [HE.out]; exact ceil_lt hR hlt
            obtain ⟨q, hq⟩ : ∃ q, q = r / R := ⟨_, rfl⟩
            obtain ⟨j, hj⟩ : ∃ j, j = r % R := ⟨_, rfl⟩
            have hjr : j ≤ r := by rw [hj]; exact Nat.mod_le r R
            rw [← hj] at hji
            rw [← hq] at hqi hqE
            have HQJ := hidP (And.intro hq hj)
            clear hq hj
            have hjd : (131072 : Int) / (j : Int) = ((131072 / j : Nat) : Int) := by rw [show (131072 : Int) = ((131072 : Nat) : Int) from rfl]; exact (Int.natCast_ediv _ _).symm
            obtain ⟨jd, hjd'⟩ : ∃ jd, jd = 131072 / j := ⟨_, rfl⟩
            have jdle : jd ≤ 131072 := by rw [hjd']; exact Nat.div_le_self _ _
            rw [← hjd'] at hjd
            have HJD := hidP hjd'
            clear hjd'
            go_upto_region 17 with fail
            go_cut [11, 82] (fun s11 s82 wc2 => s11 = .int .i64 j ∧ s82 = .bool (decide (0 < j ∧ (st < 0 ∨ (jd : Int) < st))) ∧ ∃ q, wc2 = wr.drewN q)
            case first =>
              clear HM1 HL HQ HB HOK HBR HGK HQ1 HQJ HJD HM HE HMK
              rcases Nat.eq_zero_or_pos j with j0 | j0
              · subst j0
                go_quiet (fail)
                go_wp2_with fail
                go_meet
                case rel => exact ⟨by first | rfl | rw [hji], by simp, _, rfl⟩
              · have hd1 : decide (0 < j) = true := decide_eq_true j0
                have hd2 : (0 : Int) < (j : Int) := by omega
                have hd3 : j ≠ 0 := by omega
                have hd4 : ((j : Int) == 0) = false := by rw [beq_eq_false_iff_ne]; omega
                have hd5 : IntKind.i64.wrap ((131072 : Int).tdiv (j : Int)) = (jd : Int) := by
                  rw [Int.tdiv_eq_ediv_of_nonneg (by omega), hjd]
                  exact IntWalk.i64_in _ ⟨by omega, by omega⟩
                have hd6 : IntKind.i64.wrap (jd : Int) = (jd : Int) := IntWalk.i64_in _ ⟨by omega, by omega⟩
                by_cases hs : st < 0
                · have hs1 : decide (st < 0) = true := decide_eq_true hs
                  go_quiet (fail)
                  go_wp2_with fail
                  go_meet
                  case rel => exact ⟨by first | rfl | rw [hji], by simp [j0, hs], _, rfl⟩
                · have hs1 : decide (st < 0) = false := decide_eq_false hs
                  go_quiet (fail)
                  go_wp2_with fail
                  go_meet
                  case rel => exact ⟨by first | rfl | rw [hji], congrArg Value.bool (decide_eq_decide.2 ⟨fun h => ⟨j0, .inr h⟩, fun h => by omega⟩), _, rfl⟩
            case rest =>
              obtain ⟨rfl, rfl, q17, rfl⟩ := hcut
              by_cases h17 : 0 < j ∧ (st < 0 ∨ (jd : Int) < st)
              · rw [decide_eq_true h17]
                go_wp2_with fail
                go_ret
                exact ⟨rfl, below_drewN (HB.out.trans (HBR.out.mono HB.out.size)) _⟩
              rw [decide_eq_false h17]
              have ht0 : 0 ≤ (j : Int) * st ∧ (j : Int) * st ≤ 131072 := by
                rcases Nat.eq_zero_or_pos j with j0 | j0
                · rw [j0]; simp
                · have h0 : 0 ≤ st := by omega
                  have h1 : st.toNat ≤ 131072 / j := by rw [← HJD.out]; omega
                  have h2 := (Nat.le_div_iff_mul_le j0).1 h1
                  have h3 : (j : Int) * st = ((st.toNat * j : Nat) : Int) := by
                    rw [Int.natCast_mul, Int.toNat_of_nonneg h0, Int.mul_comm]
                  omega
              obtain ⟨t, ht⟩ : ∃ t, t = sOf st j := ⟨_, rfl⟩
              have hti : (j : Int) * st = (t : Int) := by rw [ht, sOf]; omega
              have ht1 : t ≤ 131072 := by omega
              have HT := hidP ht
              clear h17 ht ht0
              go_wp2_with fail
              go_loopg [13] K (fun g2 s13 wr => ∃ k : Nat, k ≤ K ∧ g2 = K - k ∧ s13 = .int .i64 k ∧ (∀ k', k' < k → t < ln (k' * E + q)) ∧ Below W.heap.size W wr)
              case atStart => exact ⟨0, Nat.zero_le _, rfl, rfl, fun k' h => absurd h (Nat.not_lt_zero _), below_drewN HBR.out q17⟩
              case round =>
                clear HBR c0 c1 c2 c3 c4 c5 c6 c7 c8 c9 c10 c11 c12 HQ1 lb1
                obtain ⟨k, hk, hg2, rfl, hkk, hb⟩ := hrel
                have HKK := hidP hkk
                have HB3 := hidP hb
                have HG2 := hidP hg2
                have HQ3 := hidP (show wr.heap[w.heap.size]? = some (.cells (qArr st R sl nw wd bl sp hd ou of gr ba ns) 33 (0, 0)) by rw [hb.block _ lb]; exact HQ.out)
                clear hkk hb hg2
                obtain ⟨c0, c1, c2, c3, c4, c5, c6, c7, c8, c9, c10, c11, c12⟩ := q13 HQ3.out
                have lb3 : w.heap.size < wr.heap.size := (Array.getElem?_eq_some_iff.1 HQ3.out).1
                by_cases hklt : k < K
                · obtain ⟨y, hy⟩ : ∃ y, y = k * E := ⟨_, rfl⟩
                  obtain ⟨x, hx⟩ : ∃ x, x = y + q := ⟨_, rfl⟩
                  have hyi : (k : Int) * (E : Int) = (y : Int) := by rw [hy]; exact (Int.natCast_mul k E).symm
                  have hxm : x < m := by
                    have h2 : (k + 1) * E ≤ K * E := Nat.mul_le_mul_right E hklt
                    rw [Nat.add_mul] at h2
                    rw [HMK.out]
                    omega
                  have hxi : (y : Int) + (q : Int) = (x : Int) := by omega
                  have HXY := hidP (show x = k * E + q by rw [hx, hy])
                  clear hy hx
                  obtain ⟨b, off, rfl, hbl, hxx⟩ := (HM1.out.below HB3.out).outer (by omega)
                  have hxq := hxx x hxm
                  have lL := HL.out x hxm
                  obtain ⟨A, hA⟩ : ∃ A, A = ra x := ⟨_, rfl⟩
                  obtain ⟨L, hLL⟩ : ∃ L, L = ln x := ⟨_, rfl⟩
                  obtain ⟨C, hC⟩ : ∃ C, C = cp x := ⟨_, rfl⟩
                  rw [← hA, ← hLL, ← hC] at hxq
                  rw [← hLL] at lL
                  have HLL := hidP hLL
                  clear hxx hA hLL hC
                  by_cases htL : L ≤ t
                  · go_wp2_with fail
                    go_ret
                    exact ⟨rfl, HB.out.trans (HB3.out.mono HB.out.size)⟩
                  · have HKK2 := hidP (show ∀ k', k' < k + 1 → t < ln (k' * E + q) by
                      intro k' hk'
                      by_cases e : k' = k
                      · subst e
                        rw [← HXY.out, ← HLL.out]
                        omega
                      · exact HKK.out k' (by omega))
                    go_wp2_with fail
                    go_roundg (K - (k + 1))
                    case measure => rw [HG2.out]; omega
                    case rel => exact ⟨k + 1, by omega, rfl, by go_num, HKK2.out, HB3.out⟩
                · have hkK : K = k := by omega
                  subst hkK
                  have HOK2 := hidP (show ∀ r', r' < r + 1 → RegOk ln st R E K r' by
                    intro r' hr'
                    by_cases e : r' = r
                    · subst e
                      refine ⟨?_, ?_, ?_⟩
                      · rw [← HQJ.out.2, ← HT.out]; exact hti
                      · rw [← HQJ.out.2, ← HT.out]; exact ht1
                      · rw [← HQJ.out.1, ← HQJ.out.2, ← HT.out]; exact HKK.out
                    · exact HOK.out r' (by omega))
                  go_wp2_with fail
                  go_roundg (n - (r + 1))
                  case measure => rw [HGK.out]; omega
                  case rel => exact ⟨r + 1, by omega, rfl, by go_num, HOK2.out, HB3.out⟩
          · have hrn : n = r := by omega
            subst hrn
            clear hr hlt HGK
            have HBW := hidP (HB.out.trans (HBR.out.mono HB.out.size))
            have HM2 := hidP (HM1.out.below HBR.out)
            clear HM1 HBR HB HQ
            go_wp2_with fail
            refine (newReg_any st R sl wr).mono ?_
            rintro e w3 ⟨rfl, hw3⟩
            have hb3 : Below wr.heap.size wr w3 := by rw [hw3]; exact (Below.refl _ _).alloc (Nat.le_refl _) _
            have hq3 : w3.heap[wr.heap.size]? = some (regObj st R sl) := by rw [hw3]; exact heap_alloc_new _ _
            have HRD := hidP (query_out (a := a) (m := m) (c := c) (n := n) (K := K) (read_reg wr.heap.size st sl R K n (sOf st) a m c ra ln cp val w3 (HM2.out.below hb3) hq3 hn hK hR hR1 (by rw [← HE.out]; exact HMK.out) hm (fun row h => ⟨(HOK.out row h).1, (HOK.out row h).2.1⟩) (by rw [← HE.out]; exact fun row h => (HOK.out row h).2.2) HL.out))
            rw [← HE.out] at HRD
            have HB3 := hidP (bnext HBW.out hb3)
            have HQ3 := hidP (show w3.heap[w.heap.size]? = some (.cells (qArr st R sl nw wd bl sp hd ou of gr ba ns) 33 (0, 0)) by rw [hb3.block _ lb1]; exact HQ1.out)
            have HM3 := hidP (HM2.out.below hb3)
            clear hw3 hb3 hq3 c0 c1 c2 c3 c4 c5 c6 c7 c8 c9 c10 c11 c12 HQ1 HM2 HBW
            go_wp2_with fail
            refine HRD.out.mono ?_
            rintro e w4 ⟨g, rfl, hg, hG, hb4⟩
            have HG4 := hidP hG
            have HB4 := hidP (bnext HB3.out hb4)
            have HQ4 := hidP (show w4.heap[w.heap.size]? = some (.cells (qArr st R sl nw wd bl sp hd ou of gr ba ns) 33 (0, 0)) by rw [hb4.block _ (Array.getElem?_eq_some_iff.1 HQ3.out).1]; exact HQ3.out)
            have HM4 := hidP (HM3.out.below hb4)
            clear hG hb4 hg HRD HQ3 HM3 HB3
            go_wp2_with fail
            go_loopg [15] n (fun gk s15 wr => ∃ r : Nat, r ≤ n ∧ gk = n - r ∧ s15 = .int .i64 r ∧ Below w4.heap.size w4 wr)
            case atStart => exact ⟨0, Nat.zero_le _, rfl, rfl, Below.refl _ _⟩
            case round =>
              obtain ⟨r, hr, hgk, rfl, hb⟩ := hrel
              have HBR := hidP hb
              have HGK := hidP hgk
              have HQ5 := hidP (show wr.heap[w.heap.size]? = some (.cells (qArr st R sl nw wd bl sp hd ou of gr ba ns) 33 (0, 0)) by rw [hb.block _ (Array.getElem?_eq_some_iff.1 HQ4.out).1]; exact HQ4.out)
              clear hb hgk
              obtain ⟨c0, c1, c2, c3, c4, c5, c6, c7, c8, c9, c10, c11, c12⟩ := q13 HQ5.out
              have lb5 : w.heap.size < wr.heap.size := (Array.getElem?_eq_some_iff.1 HQ5.out).1
              by_cases hlt : r < n
              · obtain ⟨r1, r2, r3⟩ := HOK.out r hlt
                have hqi := div_cast r R
                have hji := rem_cast r R
                have hqE : r / R < E := by rw [HE.out]; exact ceil_lt hR hlt
                obtain ⟨q, hq⟩ : ∃ q, q = r / R := ⟨_, rfl⟩
                obtain ⟨j, hj⟩ : ∃ j, j = r % R := ⟨_, rfl⟩
                obtain ⟨t, ht⟩ : ∃ t, t = sOf st j := ⟨_, rfl⟩
                have hjr : j ≤ r := by rw [hj]; exact Nat.mod_le r R
                rw [← hj, ← ht] at r1 r2 r3
                rw [← hj] at hji
                rw [← hq] at r3 hqi hqE
                have HVV := hidP (show ∀ k, regVal val E R (sOf st) r k = val (k * E + q) t from fun k => by rw [regVal, hq, ht, hj])
                have HR3 := hidP r3
                clear hq hj ht r3
                obtain ⟨gb, g1, g2, g3, g4, g5, g6, g7⟩ := (HG4.out.below HBR.out).row hlt
                clear g2 g4 g5 g6 g7
                have lg := (HG4.out.below HBR.out).lt
                have hd1 : (r : Int) < (n : Int) := by omega
                have hd2 : (K != K) = false := by simp
                have hd3 : R ≠ 0 := by omega
                have hd4 : IntKind.i64.wrap ((j : Int) * st) = (t : Int) := by rw [r1]; exact IntWalk.i64_in _ ⟨by omega, by omega⟩
                have hd5 : IntKind.i64.wrap (t : Int) = (t : Int) := IntWalk.i64_in _ ⟨by omega, by omega⟩
                have hd6 : IntKind.i64.wrap ((r : Int).tmod (R : Int)) = (j : Int) := by rw [Int.tmod_eq_emod_of_nonneg (by omega), hji]; exact IntWalk.i64_in _ ⟨by omega, by omega⟩
                have hd7 : IntKind.i64.wrap (j : Int) = (j : Int) := IntWalk.i64_in _ ⟨by omega, by omega⟩
                go_upto_region 33 with fail
                go_cut [16] (fun s16 wc2 => s16 = .int .i64 t ∧ ∃ q, wc2 = wr.drewN q)
                case first =>
                  clear HM HL HE HMK HOK HB4 HQ4 HM4 HG4 HGK HQ5 HBR HVV HR3
                  go_quiet (fail)
                  go_wp2_with fail
                  go_meet
                  case rel => exact ⟨by first | rfl | rw [hd4] | rw [hji, hd4] | rw [hd6, hd4], _, rfl⟩
                case rest =>
                  obtain ⟨rfl, q33, rfl⟩ := hcut
                  have HB6 := hidP (below_drewN HBR.out q33)
                  clear HBR HQ5 c0 c1 c2 c3 c4 c5 c6 c7 c8 c9 c10 c11 c12 g1 g3 lg lb5
                  go_wp2_with fail
                  go_loopg [17] K (fun g2 s17 wr => ∃ k : Nat, k ≤ K ∧ g2 = K - k ∧ s17 = .int .i64 k ∧ Below w4.heap.size w4 wr)
                  case atStart => exact ⟨0, Nat.zero_le _, rfl, rfl, HB6.out⟩
                  case round =>
                    clear HB6
                    obtain ⟨k, hk, hg2, rfl, hb⟩ := hrel
                    have HB7 := hidP hb
                    have HG2 := hidP hg2
                    have HQ7 := hidP (show wr.heap[w.heap.size]? = some (.cells (qArr st R sl nw wd bl sp hd ou of gr ba ns) 33 (0, 0)) by rw [hb.block _ (Array.getElem?_eq_some_iff.1 HQ4.out).1]; exact HQ4.out)
                    clear hb hg2
                    obtain ⟨c0, c1, c2, c3, c4, c5, c6, c7, c8, c9, c10, c11, c12⟩ := q13 HQ7.out
                    have lb7 : w.heap.size < wr.heap.size := (Array.getElem?_eq_some_iff.1 HQ7.out).1
                    by_cases hklt : k < K
                    · have htL := HR3.out k hklt
                      have hval := HVV.out k
                      obtain ⟨y, hy⟩ : ∃ y, y = k * E := ⟨_, rfl⟩
                      obtain ⟨x, hx⟩ : ∃ x, x = y + q := ⟨_, rfl⟩
                      have hyi : (k : Int) * (E : Int) = (y : Int) := by rw [hy]; exact (Int.natCast_mul k E).symm
                      have hxm : x < m := by
                        have h2 : (k + 1) * E ≤ K * E := Nat.mul_le_mul_right E hklt
                        rw [Nat.add_mul] at h2
                        rw [HMK.out]
                        omega
                      have hxi : (y : Int) + (q : Int) = (x : Int) := by omega
                      rw [← hy, ← hx] at htL hval
                      clear hy hx
                      obtain ⟨b, off, rfl, hbl, hxx⟩ := (HM4.out.below HB7.out).outer (by omega)
                      have hxq := hxx x hxm
                      have lL := HL.out x hxm
                      obtain ⟨b2, o2, hra, hbl3, hyy⟩ := (HM4.out.below HB7.out).inner hxm (by omega)
                      have hyu := hyy t htL
                      obtain ⟨L, hLL⟩ : ∃ L, L = ln x := ⟨_, rfl⟩
                      obtain ⟨C, hC⟩ : ∃ C, C = cp x := ⟨_, rfl⟩
                      rw [hra, ← hLL, ← hC] at hxq
                      rw [← hLL] at lL htL
                      obtain ⟨gb, g1, g2, g3, g4, g5, g6, g7⟩ := (HG4.out.below HB7.out).row hlt
                      have g8 := g5 k hklt trivial
                      rw [hval] at g8
                      generalize val x t = f at hyu g8
                      have lg := (HG4.out.below HB7.out).lt
                      have e1 : IntKind.i64.wrap ((k : Int) * (E : Int)) = (y : Int) := by rw [hyi]; exact IntWalk.i64_in _ ⟨by omega, by omega⟩
                      have e2 : IntKind.i64.wrap (y : Int) = (y : Int) := IntWalk.i64_in _ ⟨by omega, by omega⟩
                      have e3 : IntKind.i64.wrap ((r : Int).tdiv (R : Int)) = (q : Int) := by rw [Int.tdiv_eq_ediv_of_nonneg (by omega), hqi]; exact IntWalk.i64_in _ ⟨by omega, by omega⟩
                      have e4 : IntKind.i64.wrap (q : Int) = (q : Int) := IntWalk.i64_in _ ⟨by omega, by omega⟩
                      have e5 : IntKind.i64.wrap ((y : Int) + (q : Int)) = (x : Int) := by rw [hxi]; exact IntWalk.i64_in _ ⟨by omega, by omega⟩
                      have e6 : IntKind.i64.wrap (x : Int) = (x : Int) := IntWalk.i64_in _ ⟨by omega, by omega⟩
                      have e7 : (x : Int) < (m : Int) := by omega
                      have e8 : (t : Int) < (L : Int) := by omega
                      have e9 : (k : Int) < (K : Int) := by omega
                      clear g2 g4 g5 g6 g7 hxx hLL hC hyy hra hval
                      go_wp2_with fail
                      go_quiet (first | (go_at_call 20; refine Calls.quiet_of_same (same_any f _)))
                      have HB8 := hidP (fun k => below_drewN HB7.out k)
                      go_wp2_with fail
                      go_roundg (K - (k + 1))
                      case measure => rw [HG2.out]; omega
                      case rel => exact ⟨k + 1, by omega, rfl, by go_num, HB8.out _⟩
                    · go_wp2_with fail
                      go_roundg (n - (r + 1))
                      case measure => rw [HGK.out]; omega
                      case rel => exact ⟨r + 1, by omega, rfl, by go_num, HB7.out⟩
              · go_wp2_with fail
                go_ret
                exact ⟨rfl, bnext HB4.out HBR.out⟩

end Go.Proofs.Qxb6615466a
