import Derived.Test.Qxb6608940aT2
import Derived.Deep.RegionWith
import Derived.Deep.DeepCutAuto
namespace Go.Proofs.Qxb6608940a
open Go.RowKit

/-- The time T nanoseconds behind the zero time. -/
def tv (T : Int) : Value := .agg #[.int .u64 (T % 1000000000), .int .i64 (T / 1000000000), .pointer none]

theorem add_any (T d : Int) (w : World) (t0 : -4611686018427387904 ≤ T) (t1 : T ≤ 4611686018427387904) (d0 : -9223372036854775808 ≤ d) (d1 : d ≤ 9223372036854775807) :
    Calls Try.prog 24 #[tv T, .int .i64 d] w fun e w' => e = .returned (tv (T + d)) ∧ Below w.heap.size w w' := by
  obtain ⟨hs, r0, r1⟩ := split_rem d
  have hq0 : -9223372037 ≤ d.tdiv 1000000000 := by omega
  have hq1 : d.tdiv 1000000000 ≤ 9223372037 := by omega
  unfold tv
  rcases Int.lt_or_le (T % 1000000000 + d.tmod 1000000000) 0 with h | h
  · refine (add_down (T % 1000000000) (T / 1000000000) d _ _ w (by omega) (by omega) (by omega) (by omega) rfl rfl hq0 hq1 r0 r1 h).mono ?_
    rintro e w' ⟨rfl, hb⟩
    refine ⟨?_, hb⟩
    rw [show T % 1000000000 + d.tmod 1000000000 + 1000000000 = (T + d) % 1000000000 by omega, show T / 1000000000 + (d.tdiv 1000000000 - 1) = (T + d) / 1000000000 by omega]
  · rcases Int.lt_or_le (T % 1000000000 + d.tmod 1000000000) 1000000000 with g | g
    · refine (add_mid (T % 1000000000) (T / 1000000000) d _ _ w (by omega) (by omega) (by omega) (by omega) rfl rfl hq0 hq1 r0 r1 h g).mono ?_
      rintro e w' ⟨rfl, hb⟩
      refine ⟨?_, hb⟩
      rw [show T % 1000000000 + d.tmod 1000000000 = (T + d) % 1000000000 by omega, show T / 1000000000 + d.tdiv 1000000000 = (T + d) / 1000000000 by omega]
    · refine (add_up (T % 1000000000) (T / 1000000000) d _ _ w (by omega) (by omega) (by omega) (by omega) rfl rfl hq0 hq1 r0 r1 g).mono ?_
      rintro e w' ⟨rfl, hb⟩
      refine ⟨?_, hb⟩
      rw [show T % 1000000000 + d.tmod 1000000000 - 1000000000 = (T + d) % 1000000000 by omega, show T / 1000000000 + (d.tdiv 1000000000 + 1) = (T + d) / 1000000000 by omega]

set_option maxRecDepth 100000 in
set_option maxHeartbeats 1000000 in
theorem equal_same (ns sec : Int) (w : World) (n0 : 0 ≤ ns) (n1 : ns < 1073741824) :
    Calls Try.prog 38 #[.agg #[.int .u64 ns, .int .i64 sec, .pointer none], .agg #[.int .u64 ns, .int .i64 sec, .pointer none]] w fun e w' => e = .returned (.bool true) ∧ Below w.heap.size w w' := by
  have b1 := u64_two ns ns n0 n1 n0 n1
  have e1 : (sec == sec) = true := by simp
  have e2 : (ns == ns) = true := by simp
  go_enter Try.func38, Try.ntmps38
  go_wp2_with (first | (go_at_call 36; refine (sec_any _ ns sec _ n0 n1 (by simp) (by simp)).mono ?_; rintro e w1 ⟨rfl, rfl⟩) | (go_at_call 29; refine (nsec_any _ ns _ n0 n1 (by simp)).mono ?_; rintro e w1 ⟨rfl, rfl⟩))
  go_ret
  exact ⟨rfl, ((Below.refl _ _).alloc (Nat.le_refl _) _).alloc (by simp) _⟩

end Go.Proofs.Qxb6608940a
