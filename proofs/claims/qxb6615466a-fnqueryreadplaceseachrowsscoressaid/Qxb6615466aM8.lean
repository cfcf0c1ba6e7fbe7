import Derived.Test.Qxb6615466aM7
namespace Go.Proofs.Qxb6615466a
open Go.RowKit

set_option maxRecDepth 100000 in
set_option maxHeartbeats 1000000 in
theorem net_scores0 (wd bl sp hd ou of gr ba ns : Int) (a : Option Addr) (m c cols : Nat) (val : Nat → Nat → Nat) (w : World) :
    Calls Try.prog 25 #[.agg #[.int .i64 wd, .int .i64 bl, .int .i64 sp, .int .i64 hd, .int .i64 ou, .int .i64 of, .int .i64 gr, .int .i64 ba, .int .i64 ns], .slice a m c, .int .i64 0] w fun e w' => Out w 0 cols val e w' := by
  obtain ⟨j0, ji, jz0, jz1, jz2⟩ := info_parts Try.info24
  go_enter Try.func25, Try.ntmps25
  go_wp2_with (at_make; refine wpList_make_full _ rfl _ _ 31 rfl (w.heap.size + 1) 24 j0 (.slice none 0 0) 1 Try.underlying31 ji jz0 jz1 .i64 .i64 _ _ 0 rfl rfl rfl rfl (by rw [jz2]; omega) (by unfold maxLen; omega) (by simp) ?_)
  intro w1 hown1 hgrow1
  have hnx1 : Below w.heap.size w w1 := ((Below.refl _ _).alloc (Nat.le_refl _) _).grown hgrow1 (by simp) (by simp)
  obtain ⟨hg1, hlen1⟩ := owned_block hown1
  have HC1 := hidP (GridP.start (B := w.heap.size) (cols := cols) (P := fun _ _ => True) (val := val) (show Blk 24 (w.heap.size + 1) 0 w1 from ⟨_, hg1, by simpa using hlen1⟩))
  have HB1 := hidP hnx1
  clear hg1 hown1 hgrow1 hnx1 hlen1
  go_wp2_with fail
  go_loopg [15] 0 (fun gk s15 wr => s15 = .int .i64 0 ∧ wr = w1)
  case atStart => exact ⟨rfl, rfl⟩
  case round =>
    obtain ⟨rfl, rfl⟩ := hrel
    go_wp2_with fail
    go_ret
    exact ⟨_, rfl, by omega, HC1.out, HB1.out⟩

set_option maxRecDepth 100000 in
set_option maxHeartbeats 1000000 in
theorem read_net0 (qb nb : Nat) (st rw sl wd bl sp hd ou of gr ba ns : Int) (K : Int) (a : Option Addr) (m c cols : Nat) (val : Nat → Nat → Nat) (w : World)
    (hq : w.heap[qb]? = some (netQObj st rw sl nb)) (hnb : w.heap[nb]? = some (netObj wd bl sp hd ou of gr ba ns)) :
    Calls Try.prog 23 #[.pointer (some ⟨qb, 0, none⟩), .slice a m c, .int .i64 0, .int .i64 K] w fun e w' => Out w 0 cols val e w' := by
  have HC := hidP (net_scores0 wd bl sp hd ou of gr ba ns a m c cols val w)
  have d11 := net13 hq
  obtain ⟨c0, c1, c2, c3, c4, c5, c6, c7, c8⟩ := box9 hnb
  clear hq hnb
  go_enter Try.func23, Try.ntmps23
  go_wp2_with fail
  refine HC.out.mono ?_
  rintro e w1 ⟨g, rfl, hg, hG, hb⟩
  have HG := hidP (And.intro hg (And.intro hG hb))
  clear hg hG hb
  go_wp2_with fail
  go_ret
  exact ⟨g, rfl, HG.out⟩

set_option maxRecDepth 100000 in
set_option maxHeartbeats 2000000 in
theorem net_nil (st rw sl : Int) (nw : Bool) (wd bl sp hd of gr ba ns : Int) (o od : Nat) (K : Int) (a : Option Addr) (m c : Nat) (w : World) (ho : o ≤ 65536) (oo : (4194304 : Int) / (o : Int) = (od : Int)) :
    Calls Try.prog 15 #[.slice a m c, .int .i64 0, .int .i64 K, .agg #[.int .i64 st, .int .i64 rw, .int .i64 sl, .bool nw, .int .i64 wd, .int .i64 bl, .int .i64 sp, .int .i64 hd, .int .i64 o, .int .i64 of, .int .i64 gr, .int .i64 ba, .int .i64 ns]] w fun e w' => e = .returned (.bool true) ∧ Below w.heap.size w w' := by
  go_enter Try.func15, Try.ntmps15
  go_upto_region 3 with fail
  go_cut [36] (fun s36 wc => s36 = .bool false ∧ wc.heap[w.heap.size]? = some (.cells (qArr st rw sl nw wd bl sp hd o of gr ba ns) 33 (0, 0)) ∧ Below w.heap.size w wc)
  case first =>
    rcases Nat.eq_zero_or_pos o with o3 | o3
    · subst o3
      go_wp2_with fail
      go_meet
      case rel => exact ⟨rfl, heap_alloc_new _ _, (Below.refl _ _).alloc (Nat.le_refl _) _⟩
    · have o4 : ¬ ((od : Int) < 0) := by omega
      go_wp2_with fail
      go_meet
      case rel => exact ⟨rfl, heap_alloc_new _ _, (Below.refl _ _).alloc (Nat.le_refl _) _⟩
  case rest =>
    obtain ⟨rfl, hq, hbW⟩ := hcut
    obtain ⟨c0, c1, c2, c3, c4, c5, c6, c7, c8, c9, c10, c11, c12⟩ := q13 hq
    have lb : w.heap.size < wc.heap.size := (Array.getElem?_eq_some_iff.1 hq).1
    have HB := hidP hbW
    clear hq hbW oo
    go_wp2_with fail
    go_loopg [10] 0 (fun gk s10 wr => s10 = .int .i64 0 ∧ wr = wc)
    case atStart => exact ⟨rfl, rfl⟩
    case round =>
      obtain ⟨rfl, rfl⟩ := hrel
      go_wp2_with fail
      refine (newNet_any st rw sl wd bl sp hd o of gr ba ns wr).mono ?_
      rintro e w3 ⟨rfl, hw3⟩
      have hb3 : Below wr.heap.size wr w3 := by rw [hw3]; exact ((Below.refl _ _).alloc (Nat.le_refl _) _).alloc (by simp) _
      have hq3 : w3.heap[wr.heap.size + 1]? = some (netQObj st rw sl wr.heap.size) := by
        have h := heap_alloc_new (wr.alloc (netObj wd bl sp hd o of gr ba ns)) (netQObj st rw sl wr.heap.size)
        rw [← hw3, show (wr.alloc (netObj wd bl sp hd o of gr ba ns)).heap.size = wr.heap.size + 1 by simp] at h
        exact h
      have hn3 : w3.heap[wr.heap.size]? = some (netObj wd bl sp hd o of gr ba ns) := by
        have hb := (Below.refl (wr.heap.size + 1) (wr.alloc (netObj wd bl sp hd o of gr ba ns))).alloc (by simp) (netQObj st rw sl wr.heap.size)
        rw [← hw3] at hb
        rw [hb.block _ (Nat.lt_succ_self _)]
        exact heap_alloc_new _ _
      have HRD := hidP (query_out (read_net0 (wr.heap.size + 1) wr.heap.size st rw sl wd bl sp hd o of gr ba ns K a m c o (fun _ _ => 0) w3 hq3 hn3))
      have HB3 := hidP (bnext HB.out hb3)
      clear hw3 hb3 hq3 hn3 c0 c1 c2 c3 c4 c5 c6 c7 c8 c9 c10 c11 c12
      go_wp2_with fail
      refine HRD.out.mono ?_
      rintro e w4 ⟨g, rfl, hg, hG, hb4⟩
      have HB4 := hidP (bnext HB3.out hb4)
      clear hG hb4 hg HRD HB3
      go_wp2_with fail
      go_loopg [15] 0 (fun gk s15 wr => s15 = .int .i64 0 ∧ wr = w4)
      case atStart => exact ⟨rfl, rfl⟩
      case round =>
        obtain ⟨rfl, rfl⟩ := hrel
        go_wp2_with fail
        go_ret
        exact ⟨rfl, HB4.out⟩

set_option maxRecDepth 100000 in
set_option maxHeartbeats 2000000 in
theorem net_read (st rw sl : Int) (nw : Bool) (wd bl sp hd ou of gr ba ns : Int) (n : Nat) (K : Int) (a : Option Addr) (m c : Nat) (ra : Nat → Option Addr) (ln cp : Nat → Nat) (val : Nat → Nat → Nat) (w : World) (hM : Mat w a m ra ln cp val)
    (hn : n ≤ 65536) (hln : ∀ i, i < m → ln i ≤ 131072) (hm : m ≤ 131072) (ns0 : -9223372036854775808 ≤ ns) (ns1 : ns ≤ 9223372036854775807) :
    Calls Try.prog 15 #[.slice a m c, .int .i64 n, .int .i64 K, .agg (qArr st rw sl nw wd bl sp hd ou of gr ba ns)] w fun e w' => e = .returned (.bool true) ∧ Below w.heap.size w w' := by
  have HM := hidP hM
  have HL := hidP hln
  clear hM hln
  unfold qArr
  by_cases o0 : ou < 0
  · go_enter Try.func15, Try.ntmps15
    go_wp2_with fail
    go_ret
    exact ⟨rfl, (Below.refl _ _).alloc (Nat.le_refl _) _⟩
  by_cases o1 : 65536 < ou
  · go_enter Try.func15, Try.ntmps15
    go_wp2_with fail
    go_ret
    exact ⟨rfl, (Below.refl _ _).alloc (Nat.le_refl _) _⟩
  obtain ⟨o, rfl⟩ : ∃ o : Nat, ou = (o : Int) := ⟨ou.toNat, by omega⟩
  have oo : (4194304 : Int) / (o : Int) = ((4194304 / o : Nat) : Int) := by rw [show (4194304 : Int) = ((4194304 : Nat) : Int) from rfl]; exact (Int.natCast_ediv _ _).symm
  obtain ⟨od, hod⟩ : ∃ od, od = 4194304 / o := ⟨_, rfl⟩
  rw [← hod] at oo
  clear hod
  by_cases o2 : 0 < o ∧ od < n
  · obtain ⟨o3, o4⟩ := o2
    go_enter Try.func15, Try.ntmps15
    go_wp2_with fail
    go_ret
    exact ⟨rfl, (Below.refl _ _).alloc (Nat.le_refl _) _⟩
  by_cases s0 : 0 < n ∧ sp < 1
  · obtain ⟨s1, s2⟩ := s0
    rcases Nat.eq_zero_or_pos o with o3 | o3
    · subst o3
      go_enter Try.func15, Try.ntmps15
      go_wp2_with fail
      go_ret
      exact ⟨rfl, (Below.refl _ _).alloc (Nat.le_refl _) _⟩
    · have o4 : n ≤ od := by omega
      go_enter Try.func15, Try.ntmps15
      go_wp2_with fail
      go_ret
      exact ⟨rfl, (Below.refl _ _).alloc (Nat.le_refl _) _⟩
  have hwq : 0 < sp → IntKind.i64.wrap (ns.tdiv sp) = ns.tdiv sp := fun h => IntWalk.i64_quo' _ _ ⟨by omega, by omega, by omega⟩
  by_cases p0 : 0 < n ∧ ns.tdiv sp < 1
  · obtain ⟨s1, s2⟩ := p0
    have s3 : 1 ≤ sp := by omega
    have s4 := hwq (by omega)
    rcases Nat.eq_zero_or_pos o with o3 | o3
    · subst o3
      go_enter Try.func15, Try.ntmps15
      go_wp2_with fail
      go_ret
      exact ⟨rfl, (Below.refl _ _).alloc (Nat.le_refl _) _⟩
    · have o4 : n ≤ od := by omega
      go_enter Try.func15, Try.ntmps15
      go_wp2_with fail
      go_ret
      exact ⟨rfl, (Below.refl _ _).alloc (Nat.le_refl _) _⟩
  rcases Nat.eq_zero_or_pos n with z | z
  · subst z
    exact net_nil st rw sl nw wd bl sp hd of gr ba ns o od K a m c w (by omega) oo
  · obtain ⟨s, rfl⟩ : ∃ s : Nat, sp = (s : Int) := ⟨sp.toNat, by omega⟩
    have hq2 : ns.tdiv s ≤ 9223372036854775807 := by
      rcases Int.lt_or_le ns 0 with h | h
      · obtain ⟨y, rfl⟩ : ∃ y, ns = -y := ⟨-ns, by omega⟩
        rw [Int.neg_tdiv, Int.tdiv_eq_ediv_of_nonneg (by omega)]
        have : 0 ≤ y / (s : Int) := Int.ediv_nonneg (by omega) (by omega)
        omega
      · rw [Int.tdiv_eq_ediv_of_nonneg h]
        have := Int.ediv_le_self (s : Int) h
        omega
    obtain ⟨p, hp⟩ : ∃ p : Nat, ns.tdiv s = (p : Int) := ⟨(ns.tdiv s).toNat, by omega⟩
    exact net_pos st rw sl nw wd bl hd of gr ba ns s o p od n K a m c ra ln cp val w HM.out hn (by omega) HL.out hm z oo o2 (by omega) hp (by omega) (by omega)

end Go.Proofs.Qxb6615466a
