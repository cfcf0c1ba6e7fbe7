import Derived.Test.Qxb6615466aM6
namespace Go.Proofs.Qxb6615466a
open Go.RowKit

/-- The thirteen cells of the query's arguments. -/
def qArr (st rw sl : Int) (nw : Bool) (wd bl sp hd ou of gr ba ns : Int) : Array Value :=
  #[.int .i64 st, .int .i64 rw, .int .i64 sl, .bool nw, .int .i64 wd, .int .i64 bl, .int .i64 sp, .int .i64 hd, .int .i64 ou, .int .i64 of, .int .i64 gr, .int .i64 ba, .int .i64 ns]

theorem q13 {w : World} {b : Nat} {st rw sl : Int} {nw : Bool} {wd bl sp hd ou of gr ba ns : Int} (h : w.heap[b]? = some (.cells (qArr st rw sl nw wd bl sp hd ou of gr ba ns) 33 (0, 0))) :
    w.cell? ⟨b, 0, none⟩ = some (.int .i64 st) ∧ w.cell? ⟨b, 1, none⟩ = some (.int .i64 rw) ∧ w.cell? ⟨b, 2, none⟩ = some (.int .i64 sl) ∧ w.cell? ⟨b, 3, none⟩ = some (.bool nw) ∧ w.cell? ⟨b, 4, none⟩ = some (.int .i64 wd) ∧
    w.cell? ⟨b, 5, none⟩ = some (.int .i64 bl) ∧ w.cell? ⟨b, 6, none⟩ = some (.int .i64 sp) ∧ w.cell? ⟨b, 7, none⟩ = some (.int .i64 hd) ∧ w.cell? ⟨b, 8, none⟩ = some (.int .i64 ou) ∧ w.cell? ⟨b, 9, none⟩ = some (.int .i64 of) ∧
    w.cell? ⟨b, 10, none⟩ = some (.int .i64 gr) ∧ w.cell? ⟨b, 11, none⟩ = some (.int .i64 ba) ∧ w.cell? ⟨b, 12, none⟩ = some (.int .i64 ns) := by
  refine ⟨?_, ?_, ?_, ?_, ?_, ?_, ?_, ?_, ?_, ?_, ?_, ?_, ?_⟩ <;> rw [cell_of_row w b _ _ 33 (0, 0) h] <;> rfl

def NetOk (ln : Nat → Nat) (m p s o r : Nat) : Prop := r / p < m ∧ (r % p) * s ≤ 131072 ∧ (0 < o → r % p * s + o ≤ ln (r / p))

set_option maxRecDepth 100000 in
set_option maxHeartbeats 2000000 in
theorem net_pos (st rw sl : Int) (nw : Bool) (wd bl hd of gr ba ns : Int) (s o p od n : Nat) (K : Int) (a : Option Addr) (m c : Nat) (ra : Nat → Option Addr) (ln cp : Nat → Nat) (val : Nat → Nat → Nat) (w : World) (hM : Mat w a m ra ln cp val)
    (hn : n ≤ 65536) (ho : o ≤ 65536) (hln : ∀ i, i < m → ln i ≤ 131072) (hm : m ≤ 131072) (hn0 : 0 < n) (oo : (4194304 : Int) / (o : Int) = (od : Int)) (o2 : ¬ (0 < o ∧ od < n)) (s0 : 0 < s) (hp : ns.tdiv s = (p : Int)) (p0 : 0 < p) (p1 : p ≤ 9223372036854775807) :
    Calls Try.prog 15 #[.slice a m c, .int .i64 n, .int .i64 K, .agg #[.int .i64 st, .int .i64 rw, .int .i64 sl, .bool nw, .int .i64 wd, .int .i64 bl, .int .i64 s, .int .i64 hd, .int .i64 o, .int .i64 of, .int .i64 gr, .int .i64 ba, .int .i64 ns]] w fun e w' => e = .returned (.bool true) ∧ Below w.heap.size w w' := by
  have HM := hidP hM
  have HL := hidP hln
  have HP := hidP hp
  have hwq : IntKind.i64.wrap (ns.tdiv s) = (p : Int) := by rw [hp]; exact IntWalk.i64_in _ ⟨by omega, by omega⟩
  clear hM hln
  go_enter Try.func15, Try.ntmps15
  go_upto_region 3 with fail
  go_cut [36] (fun s36 wc => s36 = .bool false ∧ wc.heap[w.heap.size]? = some (.cells (qArr st rw sl nw wd bl s hd o of gr ba ns) 33 (0, 0)) ∧ Below w.heap.size w wc ∧ wc.heap.size = w.heap.size + 1)
  case first =>
    rcases Nat.eq_zero_or_pos o with o3 | o3
    · subst o3
      go_wp2_with fail
      go_meet
      case rel => exact ⟨rfl, heap_alloc_new _ _, (Below.refl _ _).alloc (Nat.le_refl _) _, by simp⟩
    · have o4 : n ≤ od := by omega
      go_wp2_with fail
      go_meet
      case rel => exact ⟨by rw [decide_eq_false (by omega : ¬ od < n)], heap_alloc_new _ _, (Below.refl _ _).alloc (Nat.le_refl _) _, by simp⟩
  case rest =>
    obtain ⟨rfl, hq, hbW, hWs⟩ := hcut
    obtain ⟨c0, c1, c2, c3, c4, c5, c6, c7, c8, c9, c10, c11, c12⟩ := q13 hq
    have HQ := hidP hq
    have HB := hidP hbW
    have HM1 := hidP (HM.out.below hbW)
    clear hq hbW oo o2
    go_wp2_with fail
    go_loopg [10] n (fun gk s10 wr => ∃ r : Nat, r ≤ n ∧ gk = n - r ∧ s10 = .int .i64 r ∧ (∀ r', r' < r → NetOk ln m p s o r') ∧ Below wc.heap.size wc wr)
    case atStart => exact ⟨0, Nat.zero_le _, rfl, rfl, fun r' h => absurd h (Nat.not_lt_zero _), Below.refl _ _⟩
    case round =>
      obtain ⟨r, hr, hgk, rfl, hok, hb⟩ := hrel
      have HOK := hidP hok
      have HBR := hidP hb
      have HGK := hidP hgk
      have HQ1 := hidP (show wr.heap[w.heap.size]? = some (.cells (qArr st rw sl nw wd bl s hd o of gr ba ns) 33 (0, 0)) by rw [hb.block _ (by omega)]; exact HQ.out)
      clear hok hb hgk c0 c1 c2 c3 c4 c5 c6 c7 c8 c9 c10 c11 c12
      obtain ⟨c0, c1, c2, c3, c4, c5, c6, c7, c8, c9, c10, c11, c12⟩ := q13 HQ1.out
      have lb : w.heap.size < wr.heap.size := (Array.getElem?_eq_some_iff.1 HQ1.out).1
      by_cases hlt : r < n
      · have hqi := div_cast r p
        have hji := rem_cast r p
        obtain ⟨q, hq⟩ : ∃ q, q = r / p := ⟨_, rfl⟩
        obtain ⟨j, hj⟩ : ∃ j, j = r % p := ⟨_, rfl⟩
        have hjr : j ≤ r := by rw [hj]; exact Nat.mod_le r p
        have hqr : q ≤ r := by rw [hq]; exact Nat.div_le_self r p
        rw [← hj] at hji
        rw [← hq] at hqi
        have HQJ := hidP (And.intro hq hj)
        clear hq hj
        by_cases hqm : m ≤ q
        · go_wp2_with fail
          go_ret
          exact ⟨rfl, HB.out.trans (HBR.out.mono HB.out.size)⟩
        obtain ⟨t, ht⟩ : ∃ t, t = j * s := ⟨_, rfl⟩
        have hti : (j : Int) * (s : Int) = (t : Int) := by rw [ht]; exact (Int.natCast_mul j s).symm
        have hjd : (131072 : Int) / (j : Int) = ((131072 / j : Nat) : Int) := by rw [show (131072 : Int) = ((131072 : Nat) : Int) from rfl]; exact (Int.natCast_ediv _ _).symm
        obtain ⟨jd, hjd'⟩ : ∃ jd, jd = 131072 / j := ⟨_, rfl⟩
        rw [← hjd'] at hjd
        have HT := hidP ht
        have HJD := hidP hjd'
        have jdle : jd ≤ 131072 := by rw [hjd']; exact Nat.div_le_self _ _
        clear ht hjd'
        have lL := HL.out q (by omega)
        obtain ⟨b, off, rfl, hbl, hx⟩ := (HM1.out.below HBR.out).outer (by omega)
        have hxq := hx q (by omega)
        obtain ⟨A, hA⟩ : ∃ A, A = ra q := ⟨_, rfl⟩
        obtain ⟨L, hLL⟩ : ∃ L, L = ln q := ⟨_, rfl⟩
        obtain ⟨C, hC⟩ : ∃ C, C = cp q := ⟨_, rfl⟩
        rw [← hA, ← hLL, ← hC] at hxq
        rw [← hLL] at lL
        have HLL := hidP hLL
        clear hx hA hLL hC
        go_upto_region 19 with fail
        go_cut [72] (fun s72 wc2 => s72 = .bool (decide (0 < j ∧ jd < s)) ∧ ∃ q, wc2 = wr.drewN q)
        case first =>
          clear HM1 HL HP HQ HB HOK HBR HGK HQ1 HQJ HT HJD HLL HM
          rcases Nat.eq_zero_or_pos j with j0 | j0
          · subst j0
            go_quiet (fail)
            go_wp2_with fail
            go_meet
            case rel => exact ⟨by simp, _, rfl⟩
          · have hd1 : decide (0 < j) = true := decide_eq_true j0
            have hd2 : (0 : Int) < (j : Int) := by omega
            have hd3 : j ≠ 0 := by omega
            have hd4 : ((j : Int) == 0) = false := by rw [beq_eq_false_iff_ne]; omega
            have hd5 : IntKind.i64.wrap ((131072 : Int).tdiv (j : Int)) = (jd : Int) := by
              rw [Int.tdiv_eq_ediv_of_nonneg (by omega), hjd]
              exact IntWalk.i64_in _ ⟨by omega, by omega⟩
            have hd6 : IntKind.i64.wrap (jd : Int) = (jd : Int) := IntWalk.i64_in _ ⟨by omega, by omega⟩
            go_quiet (fail)
            go_wp2_with fail
            go_meet
            case rel => exact ⟨by simp [j0], _, rfl⟩
        case rest =>
          obtain ⟨rfl, q19, rfl⟩ := hcut
          by_cases h19 : 0 < j ∧ jd < s
          · rw [decide_eq_true h19]
            go_wp2_with fail
            go_ret
            exact ⟨rfl, below_drewN (HB.out.trans (HBR.out.mono HB.out.size)) _⟩
          rw [decide_eq_false h19]
          have ht1 : t ≤ 131072 := by
            rcases Nat.eq_zero_or_pos j with j0 | j0
            · rw [HT.out, j0, Nat.zero_mul]; omega
            · have h1 : s ≤ 131072 / j := by rw [← HJD.out]; omega
              have h2 := (Nat.le_div_iff_mul_le j0).1 h1
              rw [HT.out, Nat.mul_comm]
              exact h2
          obtain ⟨tv, hto⟩ : ∃ tv, tv = t + o := ⟨_, rfl⟩
          have htoi : (t : Int) + (o : Int) = (tv : Int) := by omega
          clear h19 hto
          go_upto_region 21 with fail
          go_cut [90] (fun s90 wc3 => s90 = .bool (decide (0 < o ∧ L < tv)) ∧ ∃ q, wc3 = (wr.drewN q19).drewN q)
          case first =>
            clear HM1 HL HP HQ HB HOK HBR HGK HQ1 HQJ HT HJD HLL HM
            rcases Nat.eq_zero_or_pos o with j0 | j0
            · subst j0
              go_quiet (fail)
              go_wp2_with fail
              go_meet
              case rel => exact ⟨by simp, _, rfl⟩
            · have hd1 : decide (0 < o) = true := decide_eq_true j0
              have hd2 : (0 : Int) < (o : Int) := by omega
              have hd3 : (q : Int) < (m : Int) := by omega
              have hd4 : IntKind.i64.wrap ((j : Int) * (s : Int)) = (t : Int) := by rw [hti]; exact IntWalk.i64_in _ ⟨by omega, by omega⟩
              have hd5 : IntKind.i64.wrap (t : Int) = (t : Int) := IntWalk.i64_in _ ⟨by omega, by omega⟩
              have hd6 : IntKind.i64.wrap ((t : Int) + (o : Int)) = (tv : Int) := by rw [htoi]; exact IntWalk.i64_in _ ⟨by omega, by omega⟩
              have hd7 : IntKind.i64.wrap (tv : Int) = (tv : Int) := IntWalk.i64_in _ ⟨by omega, by omega⟩
              go_quiet (fail)
              go_wp2_with fail
              go_meet
              case rel => exact ⟨by simp [j0], _, rfl⟩
          case rest =>
            obtain ⟨rfl, q21, rfl⟩ := hcut
            by_cases h21 : 0 < o ∧ L < tv
            · rw [decide_eq_true h21]
              go_wp2_with fail
              go_ret
              exact ⟨rfl, below_drewN (below_drewN (HB.out.trans (HBR.out.mono HB.out.size)) _) _⟩
            rw [decide_eq_false h21]
            have HOK2 := hidP (show ∀ r', r' < r + 1 → NetOk ln m p s o r' by
              intro r' hr'
              by_cases e : r' = r
              · subst e
                refine ⟨?_, ?_, ?_⟩
                · rw [← HQJ.out.1]; omega
                · rw [← HQJ.out.2, ← HT.out]; exact ht1
                · rw [← HQJ.out.1, ← HQJ.out.2, ← HT.out, ← HLL.out]; omega
              · exact HOK.out r' (by omega))
            have HB2 := hidP (below_drewN HBR.out (q19 + q21))
            clear h21
            go_wp2_with fail
            go_roundg (n - (r + 1))
            case measure => rw [HGK.out]; omega
            case rel => exact ⟨r + 1, by omega, rfl, by go_num, HOK2.out, HB2.out⟩
      · have hrn : n = r := by omega
        subst hrn
        clear hr hlt HGK
        have HBW := hidP (HB.out.trans (HBR.out.mono HB.out.size))
        have HM2 := hidP (HM1.out.below HBR.out)
        clear HM1 HBR HB HQ
        go_wp2_with fail
        refine (newNet_any st rw sl wd bl s hd o of gr ba ns wr).mono ?_
        rintro e w3 ⟨rfl, hw3⟩
        have hb3 : Below wr.heap.size wr w3 := by rw [hw3]; exact ((Below.refl _ _).alloc (Nat.le_refl _) _).alloc (by simp) _
        have hq3 : w3.heap[wr.heap.size + 1]? = some (netQObj st rw sl wr.heap.size) := by
          have h := heap_alloc_new (wr.alloc (netObj wd bl s hd o of gr ba ns)) (netQObj st rw sl wr.heap.size)
          rw [← hw3, show (wr.alloc (netObj wd bl s hd o of gr ba ns)).heap.size = wr.heap.size + 1 by simp] at h
          exact h
        have hn3 : w3.heap[wr.heap.size]? = some (netObj wd bl s hd o of gr ba ns) := by
          have hb := (Below.refl (wr.heap.size + 1) (wr.alloc (netObj wd bl s hd o of gr ba ns))).alloc (by simp) (netQObj st rw sl wr.heap.size)
          rw [← hw3] at hb
          rw [hb.block _ (Nat.lt_succ_self _)]
          exact heap_alloc_new _ _
        have HRD := hidP (query_out (read_net (wr.heap.size + 1) wr.heap.size st rw sl wd bl hd of gr ba ns s o p n K a m c ra ln cp val w3 (HM2.out.below hb3) hq3 hn3 hn ho (fun _ => ⟨s0, p0, p1, HP.out⟩) HOK.out HL.out hm))
        have HB3 := hidP (bnext HBW.out hb3)
        have HQ3 := hidP (show w3.heap[w.heap.size]? = some (.cells (qArr st rw sl nw wd bl s hd o of gr ba ns) 33 (0, 0)) by rw [hb3.block _ lb]; exact HQ1.out)
        have HM3 := hidP (HM2.out.below hb3)
        clear hw3 hb3 hq3 hn3 c0 c1 c2 c3 c4 c5 c6 c7 c8 c9 c10 c11 c12 HQ1 HM2 HBW
        go_wp2_with fail
        refine HRD.out.mono ?_
        rintro e w4 ⟨g, rfl, hg, hG, hb4⟩
        have HG4 := hidP hG
        have HB4 := hidP (bnext HB3.out hb4)
        have HQ4 := hidP (show w4.heap[w.heap.size]? = some (.cells (qArr st rw sl nw wd bl s hd o of gr ba ns) 33 (0, 0)) by rw [hb4.block _ (Array.getElem?_eq_some_iff.1 HQ3.out).1]; exact HQ3.out)
        have HM4 := hidP (HM3.out.below hb4)
        clear hG hb4 hg HRD HQ3 HM3 HB3
        go_wp2_with fail
        go_loopg [15] n (fun gk s15 wr => ∃ r : Nat, r ≤ n ∧ gk = n - r ∧ s15 = .int .i64 r ∧ Below w4.heap.size w4 wr)
        case atStart => exact ⟨0, Nat.zero_le _, rfl, rfl, Below.refl _ _⟩
        case round =>
          obtain ⟨r, hr, hgk, rfl, hb⟩ := hrel
          have HBR := hidP hb
          have HGK := hidP hgk
          have HQ5 := hidP (show wr.heap[w.heap.size]? = some (.cells (qArr st rw sl nw wd bl s hd o of gr ba ns) 33 (0, 0)) by rw [hb.block _ (Array.getElem?_eq_some_iff.1 HQ4.out).1]; exact HQ4.out)
          clear hb hgk
          obtain ⟨c0, c1, c2, c3, c4, c5, c6, c7, c8, c9, c10, c11, c12⟩ := q13 HQ5.out
          have lb5 : w.heap.size < wr.heap.size := (Array.getElem?_eq_some_iff.1 HQ5.out).1
          by_cases hlt : r < n
          · obtain ⟨r1, r2, r3⟩ := HOK.out r hlt
            have hqi := div_cast r p
            have hji := rem_cast r p
            obtain ⟨q, hq⟩ : ∃ q, q = r / p := ⟨_, rfl⟩
            obtain ⟨j, hj⟩ : ∃ j, j = r % p := ⟨_, rfl⟩
            obtain ⟨t, ht⟩ : ∃ t, t = j * s := ⟨_, rfl⟩
            have hjr : j ≤ r := by rw [hj]; exact Nat.mod_le r p
            have hqr : q ≤ r := by rw [hq]; exact Nat.div_le_self r p
            have hti : (j : Int) * (s : Int) = (t : Int) := by rw [ht]; exact (Int.natCast_mul j s).symm
            rw [← hj] at r2 r3 hji
            rw [← hq] at r1 r3 hqi
            rw [← ht] at r2 r3
            have HVV := hidP (show ∀ c, netVal val p s r c = val q (t + c) from fun c => by rw [netVal, hq, ht, hj])
            have HR3 := hidP r3
            clear hq hj ht r3
            obtain ⟨gb, g1, g2, g3, g4, g5, g6, g7⟩ := (HG4.out.below HBR.out).row hlt
            have HG5 := hidP g5
            clear g2 g4 g5 g6 g7
            have lg := (HG4.out.below HBR.out).lt
            have hd1 : (r : Int) < (n : Int) := by omega
            have hd2 : (o != o) = false := by simp
            have hd4 : IntKind.i64.wrap ((j : Int) * (s : Int)) = (t : Int) := by rw [hti]; exact IntWalk.i64_in _ ⟨by omega, by omega⟩
            have hd5 : IntKind.i64.wrap (t : Int) = (t : Int) := IntWalk.i64_in _ ⟨by omega, by omega⟩
            go_wp2_with fail
            go_quiet (fail)
            go_wp2_with fail
            go_quiet (fail)
            have HB6 := hidP (fun k k' => below_drewN (below_drewN HBR.out k) k')
            clear HBR HQ5 c0 c1 c2 c3 c4 c5 c6 c7 c8 c9 c10 c11 c12 g1 g3 HG5 lg lb5
            go_wp2_with fail
            go_loopg [18] o (fun g2 s18 wr => ∃ c : Nat, c ≤ o ∧ g2 = o - c ∧ s18 = .int .i64 c ∧ Below w4.heap.size w4 wr)
            case atStart => exact ⟨0, Nat.zero_le _, rfl, rfl, HB6.out _ _⟩
            case round =>
              clear HB6
              obtain ⟨c, hc, hg2, rfl, hb⟩ := hrel
              have HB7 := hidP hb
              have HG2 := hidP hg2
              have HQ7 := hidP (show wr.heap[w.heap.size]? = some (.cells (qArr st rw sl nw wd bl s hd o of gr ba ns) 33 (0, 0)) by rw [hb.block _ (Array.getElem?_eq_some_iff.1 HQ4.out).1]; exact HQ4.out)
              clear hb hg2
              obtain ⟨c0, c1, c2, c3, c4, c5, c6, c7, c8, c9, c10, c11, c12⟩ := q13 HQ7.out
              have lb7 : w.heap.size < wr.heap.size := (Array.getElem?_eq_some_iff.1 HQ7.out).1
              by_cases hclt : c < o
              · have hto := HR3.out (by omega)
                obtain ⟨b, off, rfl, hbl, hx⟩ := (HM4.out.below HB7.out).outer (by omega)
                have hxq := hx q r1
                obtain ⟨L, hLL⟩ : ∃ L, L = ln q := ⟨_, rfl⟩
                obtain ⟨C, hC⟩ : ∃ C, C = cp q := ⟨_, rfl⟩
                obtain ⟨b2, o2, hra, hbl3, hy⟩ := (HM4.out.below HB7.out).inner r1 (by omega)
                obtain ⟨u, hu⟩ : ∃ u, u = t + c := ⟨_, rfl⟩
                have hyu := hy u (by omega)
                rw [hra, ← hLL, ← hC] at hxq
                have lL := HL.out q r1
                rw [← hLL] at lL hto
                have HU := hidP (show netVal val p s r c = val q u by rw [HVV.out c, hu])
                have hui : (t : Int) + (c : Int) = (u : Int) := by omega
                have e1 : IntKind.i64.wrap ((t : Int) + (c : Int)) = (u : Int) := by rw [hui]; exact IntWalk.i64_in _ ⟨by omega, by omega⟩
                have e2 : IntKind.i64.wrap (u : Int) = (u : Int) := IntWalk.i64_in _ ⟨by omega, by omega⟩
                have e3 : (u : Int) < (L : Int) := by omega
                have e4 : (c : Int) < (o : Int) := by omega
                have e5 : (q : Int) < (m : Int) := by omega
                obtain ⟨gb, g1, g2, g3, g4, g5, g6, g7⟩ := (HG4.out.below HB7.out).row hlt
                have g8 := g5 c hclt trivial
                rw [HU.out] at g8
                generalize val q u = f at hyu g8
                clear g2 g4 g5 g6 g7 hx hLL hC hy hu HU hra
                go_wp2_with fail
                go_quiet (first | (go_at_call 20; refine Calls.quiet_of_same (same_any f _)))
                have HB8 := hidP (fun k => below_drewN HB7.out k)
                go_wp2_with fail
                go_roundg (o - (c + 1))
                case measure => rw [HG2.out]; omega
                case rel => exact ⟨c + 1, by omega, rfl, by go_num, HB8.out _⟩
              · go_wp2_with fail
                go_roundg (n - (r + 1))
                case measure => rw [HGK.out]; omega
                case rel => exact ⟨r + 1, by omega, rfl, by go_num, HB7.out⟩
          · go_wp2_with fail
            go_ret
            exact ⟨rfl, bnext HB4.out HBR.out⟩

end Go.Proofs.Qxb6615466a
