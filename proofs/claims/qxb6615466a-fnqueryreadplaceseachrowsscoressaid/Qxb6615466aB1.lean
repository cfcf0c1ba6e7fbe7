import Derived.Test.Qxb6615466aM2
namespace Go.Proofs.Qxb6615466a
open Go.RowKit

set_option maxRecDepth 100000 in
set_option maxHeartbeats 1000000 in
theorem bytes_any (st rw sl : Int) (nw : Bool) (wd bl sp hd ou of gr ba ns : Int) (n K : Int) (a : Option Addr) (m c : Nat) (ra : Nat → Option Addr) (ln cp : Nat → Nat) (val : Nat → Nat → Nat) (w : World) (hM : Mat w a m ra ln cp val) :
    Calls Try.prog 14 #[.slice a m c, .int .i64 n, .int .i64 K, .agg #[.int .i64 st, .int .i64 rw, .int .i64 sl, .bool nw, .int .i64 wd, .int .i64 bl, .int .i64 sp, .int .i64 hd, .int .i64 ou, .int .i64 of, .int .i64 gr, .int .i64 ba, .int .i64 ns]] w fun e w' => ∃ b, e = .returned (.bool b) ∧ Below w.heap.size w w' := by
  have HM := hidP hM
  clear hM
  by_cases m0 : 1048576 < m
  · go_enter Try.func14, Try.ntmps14
    go_wp2_with fail
    go_ret
    exact ⟨_, rfl, (Below.refl _ _).alloc (Nat.le_refl _) _⟩
  go_enter Try.func14, Try.ntmps14
  go_wp2_with fail
  go_loopg [9, 10] m (fun gk s9 s10 wr => ∃ i z : Nat, i ≤ m ∧ gk = m - i ∧ s9 = .int .i64 z ∧ s10 = .int .i64 i ∧ z ≤ 1048576 ∧ Below w.heap.size w wr)
  case atStart => exact ⟨0, m, Nat.zero_le _, rfl, rfl, rfl, by omega, (Below.refl _ _).alloc (Nat.le_refl _) _⟩
  case round =>
    obtain ⟨i, z, hi, hgk, rfl, rfl, hz, hb⟩ := hrel
    have HB := hidP hb
    have HGK := hidP hgk
    clear hb hgk
    by_cases hlt : i < m
    · obtain ⟨b, off, rfl, hbl, hx⟩ := (HM.out.below HB.out).outer (by omega)
      have hxi := hx i hlt
      obtain ⟨A, hA⟩ : ∃ A, A = ra i := ⟨_, rfl⟩
      obtain ⟨L, hL⟩ : ∃ L, L = ln i := ⟨_, rfl⟩
      obtain ⟨C, hC⟩ : ∃ C, C = cp i := ⟨_, rfl⟩
      rw [← hA, ← hL, ← hC] at hxi
      clear hx hA hL hC
      by_cases h1 : 1048576 < L
      · go_wp2_with fail
        go_ret
        exact ⟨_, rfl, HB.out⟩
      by_cases h2 : 1048576 < z + L
      · go_wp2_with fail
        go_ret
        exact ⟨_, rfl, HB.out⟩
      go_wp2_with fail
      go_roundg (m - (i + 1))
      case measure => rw [HGK.out]; omega
      case rel => exact ⟨i + 1, z + L, by omega, rfl, by go_num, by go_num, by omega, HB.out⟩
    · go_wp2_with fail
      go_ret
      exact ⟨_, rfl, HB.out⟩

end Go.Proofs.Qxb6615466a
