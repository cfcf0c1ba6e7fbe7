import Derived.Test.Qxb6615466aB1
namespace Go.Proofs.Qxb6615466a
open Go.RowKit

theorem l13 {w : World} {b : Nat} {st rw sl : Int} {nw : Bool} {wd bl sp hd ou of gr ba ns : Int} (h : w.heap[b]? = some (.cells #[.int .i64 st, .int .i64 rw, .int .i64 sl, .bool nw, .int .i64 wd, .int .i64 bl, .int .i64 sp, .int .i64 hd, .int .i64 ou, .int .i64 of, .int .i64 gr, .int .i64 ba, .int .i64 ns] 33 (0, 0))) :
    w.cell? ⟨b, 0, none⟩ = some (.int .i64 st) ∧ w.cell? ⟨b, 1, none⟩ = some (.int .i64 rw) ∧ w.cell? ⟨b, 2, none⟩ = some (.int .i64 sl) ∧ w.cell? ⟨b, 3, none⟩ = some (.bool nw) ∧ w.cell? ⟨b, 4, none⟩ = some (.int .i64 wd) ∧
    w.cell? ⟨b, 5, none⟩ = some (.int .i64 bl) ∧ w.cell? ⟨b, 6, none⟩ = some (.int .i64 sp) ∧ w.cell? ⟨b, 7, none⟩ = some (.int .i64 hd) ∧ w.cell? ⟨b, 8, none⟩ = some (.int .i64 ou) ∧ w.cell? ⟨b, 9, none⟩ = some (.int .i64 of) ∧
    w.cell? ⟨b, 10, none⟩ = some (.int .i64 gr) ∧ w.cell? ⟨b, 11, none⟩ = some (.int .i64 ba) ∧ w.cell? ⟨b, 12, none⟩ = some (.int .i64 ns) := by
  refine ⟨?_, ?_, ?_, ?_, ?_, ?_, ?_, ?_, ?_, ?_, ?_, ?_, ?_⟩ <;> rw [cell_of_row w b _ _ 33 (0, 0) h] <;> rfl

set_option maxRecDepth 100000 in
set_option maxHeartbeats 1000000 in
/-- The law, from what its two readers do. -/
theorem law_of (st rw sl : Int) (nw : Bool) (wd bl sp hd ou of gr ba ns : Int) (n K : Int) (a : Option Addr) (m c : Nat) (ra : Nat → Option Addr) (ln cp : Nat → Nat) (val : Nat → Nat → Nat) (w : World) (hM : Mat w a m ra ln cp val)
    (hnet : ∀ (w : World) (n : Nat), Mat w a m ra ln cp val → n ≤ 65536 → (∀ i, i < m → ln i ≤ 131072) → m ≤ 131072 → Calls Try.prog 15 #[.slice a m c, .int .i64 n, .int .i64 K, .agg #[.int .i64 st, .int .i64 rw, .int .i64 sl, .bool nw, .int .i64 wd, .int .i64 bl, .int .i64 sp, .int .i64 hd, .int .i64 ou, .int .i64 of, .int .i64 gr, .int .i64 ba, .int .i64 ns]] w fun e w' => e = .returned (.bool true) ∧ Below w.heap.size w w')
    (hreg : ∀ (w : World) (n K : Nat), Mat w a m ra ln cp val → n ≤ 65536 → K ≤ 65536 → (∀ i, i < m → ln i ≤ 131072) → m ≤ 131072 → Calls Try.prog 16 #[.slice a m c, .int .i64 n, .int .i64 K, .agg #[.int .i64 st, .int .i64 rw, .int .i64 sl, .bool nw, .int .i64 wd, .int .i64 bl, .int .i64 sp, .int .i64 hd, .int .i64 ou, .int .i64 of, .int .i64 gr, .int .i64 ba, .int .i64 ns]] w fun e w' => e = .returned (.bool true) ∧ Below w.heap.size w w') :
    Calls Try.prog 5 #[.slice a m c, .int .i64 n, .int .i64 K, .agg #[.int .i64 st, .int .i64 rw, .int .i64 sl, .bool nw, .int .i64 wd, .int .i64 bl, .int .i64 sp, .int .i64 hd, .int .i64 ou, .int .i64 of, .int .i64 gr, .int .i64 ba, .int .i64 ns]] w fun e w' => e = .returned (.bool true) ∧ Below w.heap.size w w' := by
  have HM := hidP hM
  have HN := hidP hnet
  have HR := hidP hreg
  clear hM hnet hreg
  go_enter Try.func5, Try.ntmps5
  go_wp2_with fail
  have hb0 : Below w.heap.size w (w.alloc (.cells #[.int .i64 st, .int .i64 rw, .int .i64 sl, .bool nw, .int .i64 wd, .int .i64 bl, .int .i64 sp, .int .i64 hd, .int .i64 ou, .int .i64 of, .int .i64 gr, .int .i64 ba, .int .i64 ns] 33)) := (Below.refl _ _).alloc (Nat.le_refl _) _
  refine (bytes_any st rw sl nw wd bl sp hd ou of gr ba ns n K a m c ra ln cp val _ (HM.out.below hb0)).mono ?_
  rintro e w1 ⟨b, rfl, hb1⟩
  have hq1 : w1.heap[w.heap.size]? = some (.cells #[.int .i64 st, .int .i64 rw, .int .i64 sl, .bool nw, .int .i64 wd, .int .i64 bl, .int .i64 sp, .int .i64 hd, .int .i64 ou, .int .i64 of, .int .i64 gr, .int .i64 ba, .int .i64 ns] 33 (0, 0)) := by
    rw [hb1.block _ (by simp)]
    exact heap_alloc_new _ _
  have HB1 := hidP (bnext hb0 hb1)
  have HQ1 := hidP hq1
  clear hb0 hb1 hq1
  cases b
  · go_wp2_with fail
    go_ret
    exact ⟨rfl, HB1.out⟩
  by_cases m0 : 131072 < m
  · go_wp2_with fail
    go_ret
    exact ⟨rfl, HB1.out⟩
  go_wp2_with fail
  go_loopg [9, 10] m (fun gk s9 s10 wr => ∃ i z : Nat, i ≤ m ∧ gk = m - i ∧ s9 = .int .i64 z ∧ s10 = .int .i64 i ∧ z ≤ 1048576 ∧ (∀ i', i' < i → ln i' ≤ 131072) ∧ Below w1.heap.size w1 wr)
  case atStart => exact ⟨0, 8 * m, Nat.zero_le _, rfl, by go_num, rfl, by omega, fun i' h => absurd h (Nat.not_lt_zero _), Below.refl _ _⟩
  case round =>
    obtain ⟨i, z, hi, hgk, rfl, rfl, hz, hl, hb⟩ := hrel
    have HB := hidP hb
    have HGK := hidP hgk
    have HL := hidP hl
    clear hb hgk hl
    by_cases hlt : i < m
    · obtain ⟨b, off, rfl, hbl, hx⟩ := ((HM.out.below HB1.out).below HB.out).outer (by omega)
      have hxi := hx i hlt
      obtain ⟨A, hA⟩ : ∃ A, A = ra i := ⟨_, rfl⟩
      obtain ⟨L, hL⟩ : ∃ L, L = ln i := ⟨_, rfl⟩
      obtain ⟨C, hC⟩ : ∃ C, C = cp i := ⟨_, rfl⟩
      rw [← hA, ← hL, ← hC] at hxi
      have HLL := hidP hL
      clear hx hA hL hC
      by_cases h1 : 131072 < L
      · go_wp2_with fail
        go_ret
        exact ⟨rfl, bnext HB1.out HB.out⟩
      by_cases h2 : 1048576 < z + 8 * L
      · go_wp2_with fail
        go_ret
        exact ⟨rfl, bnext HB1.out HB.out⟩
      have HL2 := hidP (show ∀ i', i' < i + 1 → ln i' ≤ 131072 by
        intro i' hi'
        by_cases e : i' = i
        · subst e
          rw [← HLL.out]
          omega
        · exact HL.out i' (by omega))
      go_wp2_with fail
      go_roundg (m - (i + 1))
      case measure => rw [HGK.out]; omega
      case rel => exact ⟨i + 1, z + 8 * L, by omega, rfl, by go_num, by go_num, by omega, HL2.out, HB.out⟩
    · have hmi : m = i := by omega
      subst hmi
      have HB2 := hidP (bnext HB1.out HB.out)
      have HQ2 := hidP (show wr.heap[w.heap.size]? = some (.cells #[.int .i64 st, .int .i64 rw, .int .i64 sl, .bool nw, .int .i64 wd, .int .i64 bl, .int .i64 sp, .int .i64 hd, .int .i64 ou, .int .i64 of, .int .i64 gr, .int .i64 ba, .int .i64 ns] 33 (0, 0)) by
        rw [HB.out.block _ (Array.getElem?_eq_some_iff.1 HQ1.out).1]
        exact HQ1.out)
      clear HGK HB HB1 HQ1
      by_cases n0 : n < 0
      · go_wp2_with fail
        go_ret
        exact ⟨rfl, HB2.out⟩
      by_cases n1 : 65536 < n
      · go_wp2_with fail
        go_ret
        exact ⟨rfl, HB2.out⟩
      by_cases k0 : K < 0
      · go_wp2_with fail
        go_ret
        exact ⟨rfl, HB2.out⟩
      by_cases k1 : 65536 < K
      · go_wp2_with fail
        go_ret
        exact ⟨rfl, HB2.out⟩
      obtain ⟨n', rfl⟩ : ∃ n' : Nat, n = (n' : Int) := ⟨n.toNat, by omega⟩
      obtain ⟨K', rfl⟩ : ∃ K' : Nat, K = (K' : Int) := ⟨K.toNat, by omega⟩
      have HMW := hidP (HM.out.below HB2.out)
      have HCN := hidP (HN.out wr n' HMW.out (by omega) HL.out (by omega))
      have HCR := hidP (HR.out wr n' K' HMW.out (by omega) (by omega) HL.out (by omega))
      clear HN HR HM HMW HL
      obtain ⟨c0, c1, c2, c3, c4, c5, c6, c7, c8, c9, c10, c11, c12⟩ := l13 HQ2.out
      have lb : w.heap.size < wr.heap.size := (Array.getElem?_eq_some_iff.1 HQ2.out).1
      cases nw
      · go_wp2_with fail
        refine HCR.out.mono ?_
        rintro e w2 ⟨rfl, hb2⟩
        have HB3 := hidP (bnext HB2.out hb2)
        clear hb2 HQ2 c0 c1 c2 c3 c4 c5 c6 c7 c8 c9 c10 c11 c12
        go_wp2_with fail
        go_ret
        exact ⟨rfl, HB3.out⟩
      · go_wp2_with fail
        refine HCN.out.mono ?_
        rintro e w2 ⟨rfl, hb2⟩
        have HB3 := hidP (bnext HB2.out hb2)
        clear hb2 HQ2 c0 c1 c2 c3 c4 c5 c6 c7 c8 c9 c10 c11 c12
        go_wp2_with fail
        go_ret
        exact ⟨rfl, HB3.out⟩

end Go.Proofs.Qxb6615466a
