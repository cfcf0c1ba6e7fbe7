import Derived.Test.Qxb6615466aM5
namespace Go.Proofs.Qxb6615466a
open Go.RowKit

theorem net13 {w : World} {b nb : Nat} {st sl R : Int} (h : w.heap[b]? = some (netQObj st R sl nb)) : w.cell? ⟨b, 11, none⟩ = some (.pointer (some ⟨nb, 0, none⟩)) := by
  rw [cell_of_row w b _ _ 54 (0, 0) h]; rfl

/-- What a grid that has been read holds: told of the world behind the call. -/
def Out (w : World) (n cols : Nat) (val : Nat → Nat → Nat) (e : Ending) (w' : World) : Prop :=
  ∃ g, e = .returned (.slice (some ⟨g, 0, none⟩) n n) ∧ w.heap.size ≤ g ∧ GridP w.heap.size g n cols n (fun _ _ => True) val w' ∧ Below w.heap.size w w'

set_option maxRecDepth 100000 in
set_option maxHeartbeats 1000000 in
theorem read_net (qb nb : Nat) (st rw sl wd bl hd of gr ba ns : Int) (s o p n : Nat) (K : Int) (a : Option Addr) (m c : Nat) (ra : Nat → Option Addr) (ln cp : Nat → Nat) (val : Nat → Nat → Nat) (w : World) (hM : Mat w a m ra ln cp val)
    (hq : w.heap[qb]? = some (netQObj st rw sl nb)) (hnb : w.heap[nb]? = some (netObj wd bl s hd o of gr ba ns)) (hn : n ≤ 65536) (ho : o ≤ 65536)
    (hs : 0 < n → 0 < s ∧ 0 < p ∧ p ≤ 9223372036854775807 ∧ ns.tdiv s = (p : Int)) (hrow : ∀ r, r < n → r / p < m ∧ (r % p) * s ≤ 131072 ∧ (0 < o → r % p * s + o ≤ ln (r / p))) (hln : ∀ i, i < m → ln i ≤ 131072) (hm : m ≤ 131072) :
    Calls Try.prog 23 #[.pointer (some ⟨qb, 0, none⟩), .slice a m c, .int .i64 n, .int .i64 K] w fun e w' => Out w n o (netVal val p s) e w' := by
  have HC := hidP (net_scores wd bl hd of gr ba ns s o p n a m c ra ln cp val w hM hn ho hs hrow hln hm)
  have d11 := net13 hq
  obtain ⟨c0, c1, c2, c3, c4, c5, c6, c7, c8⟩ := box9 hnb
  clear hM hs hrow hln hq hnb
  go_enter Try.func23, Try.ntmps23
  go_wp2_with fail
  refine HC.out.mono ?_
  rintro e w1 ⟨g, rfl, hg, hG, hb⟩
  have HG := hidP (And.intro hg (And.intro hG hb))
  clear hg hG hb
  go_wp2_with fail
  go_ret
  exact ⟨g, rfl, HG.out⟩

set_option maxRecDepth 100000 in
set_option maxHeartbeats 400000 in
theorem query_any (q : Value) (a : Option Addr) (m c : Nat) (n K : Int) (w : World) (R : Value → World → Prop) (h : Calls Try.prog 23 #[q, .slice a m c, .int .i64 n, .int .i64 K] w fun e w' => ∃ v, e = .returned v ∧ R v w') :
    Calls Try.prog 19 #[q, .slice a m c, .int .i64 n, .int .i64 K] w fun e w' => ∃ v, e = .returned v ∧ R v w' := by
  have H := hidP h
  clear h
  go_enter Try.func19, Try.ntmps19
  go_wp2_with fail
  refine H.out.mono ?_
  rintro e w1 ⟨v, rfl, hR⟩
  have HR := hidP hR
  clear hR
  go_wp2_with fail
  go_ret
  exact ⟨v, rfl, HR.out⟩

/-- The call of read, one floor up. -/
theorem query_out {q : Value} {a : Option Addr} {m c : Nat} {n K : Int} {w : World} {n' cols : Nat} {val : Nat → Nat → Nat} (h : Calls Try.prog 23 #[q, .slice a m c, .int .i64 n, .int .i64 K] w fun e w' => Out w n' cols val e w') :
    Calls Try.prog 19 #[q, .slice a m c, .int .i64 n, .int .i64 K] w fun e w' => Out w n' cols val e w' := by
  refine (query_any q a m c n K w (fun v w' => ∃ g, v = .slice (some ⟨g, 0, none⟩) n' n' ∧ w.heap.size ≤ g ∧ GridP w.heap.size g n' cols n' (fun _ _ => True) val w' ∧ Below w.heap.size w w') (h.mono ?_)).mono ?_
  · rintro e w' ⟨g, rfl, h2⟩
    exact ⟨_, rfl, g, rfl, h2⟩
  · rintro e w' ⟨v, rfl, g, rfl, h2⟩
    exact ⟨g, rfl, h2⟩

end Go.Proofs.Qxb6615466a
