import Derived.Test.Qxb6608940aT1
import Derived.Test.Qxb6608940aW1
namespace Go.Proofs.Qxb6608940a
open Go.RowKit

/-- A time without a monotonic reading: nanoseconds, seconds, no location. -/
def tm (ns sec : Int) : Value := .agg #[.int .u64 ns, .int .i64 sec, .pointer none]

set_option maxRecDepth 100000 in
set_option maxHeartbeats 1000000 in
theorem nsec_any (b : Nat) (ns : Int) (w : World) (n0 : 0 ≤ ns) (n1 : ns < 1073741824) (c0 : w.cell? ⟨b, 0, none⟩ = some (.int .u64 ns)) :
    Calls Try.prog 29 #[.pointer (some ⟨b, 0, none⟩)] w fun e w' => e = .returned (.int .i32 ns) ∧ w' = w := by
  have b1 := u64_mask ns n0 n1
  go_enter Try.func29, Try.ntmps29
  go_wp2
  go_ret
  exact ⟨rfl, rfl⟩

set_option maxRecDepth 100000 in
set_option maxHeartbeats 1000000 in
theorem sec_any (b : Nat) (ns sec : Int) (w : World) (n0 : 0 ≤ ns) (n1 : ns < 1073741824) (c0 : w.cell? ⟨b, 0, none⟩ = some (.int .u64 ns)) (c1 : w.cell? ⟨b, 1, none⟩ = some (.int .i64 sec)) :
    Calls Try.prog 36 #[.pointer (some ⟨b, 0, none⟩)] w fun e w' => e = .returned (.int .i64 sec) ∧ w' = w := by
  have b4 := u64_top ns n0 n1
  go_enter Try.func36, Try.ntmps36
  go_wp2
  go_ret
  exact ⟨rfl, rfl⟩

set_option maxRecDepth 100000 in
set_option maxHeartbeats 1000000 in
theorem addSec_any (b : Nat) (ns sec q : Int) (w : World) (n0 : 0 ≤ ns) (n1 : ns < 1073741824) (s0 : -4611686018427387904 ≤ sec) (s1 : sec ≤ 4611686018427387904) (q0 : -9223372038 ≤ q) (q1 : q ≤ 9223372038)
    (c0 : w.cell? ⟨b, 0, none⟩ = some (.int .u64 ns)) (c1 : w.cell? ⟨b, 1, none⟩ = some (.int .i64 sec)) (hf : w.frozen? ⟨b, 1, none⟩ = false) :
    Calls Try.prog 30 #[.pointer (some ⟨b, 0, none⟩), .int .i64 q] w fun e w' => e = .returned (.tuple #[]) ∧ w' = w.setCell ⟨b, 1, none⟩ (.int .i64 (sec + q)) := by
  have b4 := u64_top ns n0 n1
  by_cases hpos : 0 < q
  · have e1 : decide (sec < sec + q) = true := decide_eq_true (by omega)
    go_enter Try.func30, Try.ntmps30
    go_wp2
    go_end0
    exact ⟨rfl, rfl⟩
  · have e1 : decide (sec < sec + q) = false := decide_eq_false (by omega)
    go_enter Try.func30, Try.ntmps30
    go_wp2
    go_end0
    exact ⟨rfl, rfl⟩

set_option maxRecDepth 100000 in
set_option maxHeartbeats 1000000 in
theorem add_mid (ns sec d q r : Int) (w : World) (n0 : 0 ≤ ns) (n1 : ns < 1000000000) (s0 : -4611686018427387904 ≤ sec) (s1 : sec ≤ 4611686018427387904) (hq : d.tdiv 1000000000 = q) (hr : d.tmod 1000000000 = r)
    (q0 : -9223372037 ≤ q) (q1 : q ≤ 9223372037) (r0 : -1000000000 < r) (r1 : r < 1000000000) (h1 : 0 ≤ ns + r) (h2 : ns + r < 1000000000) :
    Calls Try.prog 24 #[.agg #[.int .u64 ns, .int .i64 sec, .pointer none], .int .i64 d] w fun e w' => e = .returned (.agg #[.int .u64 (ns + r), .int .i64 (sec + q), .pointer none]) ∧ Below w.heap.size w w' := by
  have b2 := u64_strip ns n0 (by omega)
  have b3 := u64_zero_or (ns + r) (by omega) (by omega)
  have b4 := u64_top (ns + r) (by omega) (by omega)
  have b5 : IntKind.i64.wrap q = q := IntWalk.i64_in _ ⟨by omega, by omega⟩
  go_enter Try.func24, Try.ntmps24
  go_wp2_with fail
  refine (nsec_any w.heap.size ns _ n0 (by omega) (by simp)).mono ?_
  rintro e w1 ⟨rfl, rfl⟩
  go_wp2_with fail
  refine (addSec_any w.heap.size (ns + r) sec (q) _ (by omega) (by omega) s0 s1 (by omega) (by omega) (by simp) (by simp) (by simp)).mono ?_
  rintro e w2 ⟨rfl, rfl⟩
  go_wp2_with fail
  exact bodyPost_ret (v := .agg #[.int .u64 (ns + r), .int .i64 (sec + (q)), .pointer none]) (by simp [results, Try.results24, go_sem]) rfl ⟨rfl, ((Below.refl _ _).alloc (Nat.le_refl _) _).alloc (by simp) _⟩

set_option maxRecDepth 100000 in
set_option maxHeartbeats 1000000 in
theorem add_up (ns sec d q r : Int) (w : World) (n0 : 0 ≤ ns) (n1 : ns < 1000000000) (s0 : -4611686018427387904 ≤ sec) (s1 : sec ≤ 4611686018427387904) (hq : d.tdiv 1000000000 = q) (hr : d.tmod 1000000000 = r)
    (q0 : -9223372037 ≤ q) (q1 : q ≤ 9223372037) (r0 : -1000000000 < r) (r1 : r < 1000000000) (h1 : 1000000000 ≤ ns + r) :
    Calls Try.prog 24 #[.agg #[.int .u64 ns, .int .i64 sec, .pointer none], .int .i64 d] w fun e w' => e = .returned (.agg #[.int .u64 (ns + r - 1000000000), .int .i64 (sec + (q + 1)), .pointer none]) ∧ Below w.heap.size w w' := by
  have b2 := u64_strip ns n0 (by omega)
  have b3 := u64_zero_or (ns + r - 1000000000) (by omega) (by omega)
  have b4 := u64_top (ns + r - 1000000000) (by omega) (by omega)
  have b5 : IntKind.i64.wrap q = q := IntWalk.i64_in _ ⟨by omega, by omega⟩
  go_enter Try.func24, Try.ntmps24
  go_wp2_with fail
  refine (nsec_any w.heap.size ns _ n0 (by omega) (by simp)).mono ?_
  rintro e w1 ⟨rfl, rfl⟩
  go_wp2_with fail
  refine (addSec_any w.heap.size (ns + r - 1000000000) sec ((q + 1)) _ (by omega) (by omega) s0 s1 (by omega) (by omega) (by simp) (by simp) (by simp)).mono ?_
  rintro e w2 ⟨rfl, rfl⟩
  go_wp2_with fail
  exact bodyPost_ret (v := .agg #[.int .u64 (ns + r - 1000000000), .int .i64 (sec + ((q + 1))), .pointer none]) (by simp [results, Try.results24, go_sem]) rfl ⟨rfl, ((Below.refl _ _).alloc (Nat.le_refl _) _).alloc (by simp) _⟩

set_option maxRecDepth 100000 in
set_option maxHeartbeats 1000000 in
theorem add_down (ns sec d q r : Int) (w : World) (n0 : 0 ≤ ns) (n1 : ns < 1000000000) (s0 : -4611686018427387904 ≤ sec) (s1 : sec ≤ 4611686018427387904) (hq : d.tdiv 1000000000 = q) (hr : d.tmod 1000000000 = r)
    (q0 : -9223372037 ≤ q) (q1 : q ≤ 9223372037) (r0 : -1000000000 < r) (r1 : r < 1000000000) (h1 : ns + r < 0) :
    Calls Try.prog 24 #[.agg #[.int .u64 ns, .int .i64 sec, .pointer none], .int .i64 d] w fun e w' => e = .returned (.agg #[.int .u64 (ns + r + 1000000000), .int .i64 (sec + (q - 1)), .pointer none]) ∧ Below w.heap.size w w' := by
  have b2 := u64_strip ns n0 (by omega)
  have b3 := u64_zero_or (ns + r + 1000000000) (by omega) (by omega)
  have b4 := u64_top (ns + r + 1000000000) (by omega) (by omega)
  have b5 : IntKind.i64.wrap q = q := IntWalk.i64_in _ ⟨by omega, by omega⟩
  go_enter Try.func24, Try.ntmps24
  go_wp2_with fail
  refine (nsec_any w.heap.size ns _ n0 (by omega) (by simp)).mono ?_
  rintro e w1 ⟨rfl, rfl⟩
  go_wp2_with fail
  refine (addSec_any w.heap.size (ns + r + 1000000000) sec ((q - 1)) _ (by omega) (by omega) s0 s1 (by omega) (by omega) (by simp) (by simp) (by simp)).mono ?_
  rintro e w2 ⟨rfl, rfl⟩
  go_wp2_with fail
  exact bodyPost_ret (v := .agg #[.int .u64 (ns + r + 1000000000), .int .i64 (sec + ((q - 1))), .pointer none]) (by simp [results, Try.results24, go_sem]) rfl ⟨rfl, ((Below.refl _ _).alloc (Nat.le_refl _) _).alloc (by simp) _⟩

end Go.Proofs.Qxb6608940a
