import Derived.Test.Qxb6608940aT8
namespace Go.Proofs.Qxb6608940a
open Go.RowKit

theorem Try.info2 : (Try.prog.info? 2).map (fun i => (i.zero, i.size, i.bytes)) = some (some (.int .i64 0), 1, 8) := by kernel_rfl
theorem n28 (w : World) (a : Option Addr) (n c : Nat) : (binOp .neq 28 (.slice a n c) (.slice none 0 0)).run Try.prog w = .ok (.bool (!a.isNone)) w :=
  run_neq_slice_nil w 28 2 a n c Try.underlying28

def intVals (zs : List Int) : List Value := zs.map (Value.int .i64)
theorem intVals_length (zs : List Int) : (intVals zs).length = zs.length := by simp [intVals]
theorem intVals_one (zs : List Int) : ∀ v ∈ intVals zs, v.oneCell' = true := by
  intro v hv
  simp [intVals] at hv
  obtain ⟨s, _, rfl⟩ := hv
  rfl

theorem ReadsI.of_block {w : World} {g : Nat} {zs : List Int} (h : w.heap[g]? = some (.cells (intVals zs).toArray 2 (0, 0))) : ReadsI w (some ⟨g, 0, none⟩) zs := fun j hj => by
  refine ⟨_, rfl, ?_⟩
  rw [Addr.add_lit, Nat.zero_add, cell_of_row w g j _ 2 (0, 0) h]
  simp [intVals, hj, List.getD_eq_getElem?_getD]

theorem below_grown5 {B b : Nat} {a w w' : World} (h : Below B a w) (hg : w.grownBy w' (some b)) (hB : B ≤ w.heap.size) (hb : B ≤ b) : Below B a w' :=
  h.grown hg hB (by intro k hk; cases hk; exact hb)

set_option maxRecDepth 100000 in
set_option maxHeartbeats 400000 in
theorem bytes_any (a0 a1 a2 : Int) (a : Option Addr) (n c : Nat) (a4 a5 a6 a7 : Int) (w : World) :
    Calls Try.prog 12 #[.int .i64 a0, .int .i64 a1, .int .i64 a2, .slice a n c, .int .u64 a4, .int .u64 a5, .int .u64 a6, .int .i64 a7] w fun e w' => e = .returned (.bool (decide (n ≤ 1048576))) ∧ w' = w := by
  by_cases h : 1048576 < n
  · have hd : decide (n ≤ 1048576) = false := decide_eq_false (by omega)
    have HD := hidP hd
    clear hd
    go_enter Try.func12, Try.ntmps12
    go_wp2_with fail
    go_ret
    exact ⟨by rw [HD.out]; rfl, rfl⟩
  · have hd : decide (n ≤ 1048576) = true := decide_eq_true (by omega)
    have HD := hidP hd
    clear hd
    go_enter Try.func12, Try.ntmps12
    go_wp2_with fail
    go_ret
    exact ⟨by rw [HD.out]; rfl, rfl⟩

set_option maxRecDepth 100000 in
set_option maxHeartbeats 1000000 in
theorem law5 (F N1 N2 : Int) (a : Option Addr) (c : Nat) (zs : List Int) (n since beyond pr : Int) (w : World) (hr : ReadsI w a zs) (hl : zs.length ≤ 9223372036854775807) (hn0 : 0 ≤ n) (hn1 : n ≤ 18446744073709551615) (hb0 : 0 ≤ beyond) (hb1 : beyond ≤ 18446744073709551615) (p0 : -9223372036854775808 ≤ N1) (p1 : N1 ≤ 9223372036854775807) :
    Calls Try.prog 5 #[.int .i64 F, .int .i64 N1, .int .i64 N2, .slice a zs.length c, .int .u64 n, .int .u64 since, .int .u64 beyond, .int .i64 pr] w fun e w' => e = .returned (.bool true) ∧ Below w.heap.size w w' := by
  obtain ⟨j0, ji, jz0, jz1, jz2⟩ := info_parts Try.info2
  have q1 := n28
  have HRS := hidP hr
  clear hr
  have HY := hidP (bytes_any F N1 N2 a zs.length c n since beyond pr w)
  by_cases h20 : 131072 < zs.length
  · go_enter Try.func5, Try.ntmps5
    go_wp2_with fail
    refine HY.out.mono ?_
    rintro e w' ⟨rfl, rfl⟩
    by_cases h21 : 1048576 < zs.length
    · rw [show decide (zs.length ≤ 1048576) = false from decide_eq_false (by omega)]
      go_wp2_with fail
      go_ret
      exact ⟨rfl, Below.refl _ _⟩
    · rw [show decide (zs.length ≤ 1048576) = true from decide_eq_true (by omega)]
      go_wp2_with fail
      go_ret
      exact ⟨rfl, Below.refl _ _⟩
  rw [show decide (zs.length ≤ 1048576) = true from decide_eq_true (by omega)] at HY
  by_cases hF0 : F < -2305843009213693952
  · go_enter Try.func5, Try.ntmps5
    go_wp2_with fail
    refine HY.out.mono ?_
    rintro e w' ⟨rfl, rfl⟩
    go_wp2_with fail
    go_ret
    exact ⟨rfl, Below.refl _ _⟩
  by_cases hF1 : 2305843009213693952 < F
  · go_enter Try.func5, Try.ntmps5
    go_wp2_with fail
    refine HY.out.mono ?_
    rintro e w' ⟨rfl, rfl⟩
    go_wp2_with fail
    go_ret
    exact ⟨rfl, Below.refl _ _⟩
  by_cases hN0 : N2 < -2305843009213693952
  · go_enter Try.func5, Try.ntmps5
    go_wp2_with fail
    refine HY.out.mono ?_
    rintro e w' ⟨rfl, rfl⟩
    go_wp2_with fail
    go_ret
    exact ⟨rfl, Below.refl _ _⟩
  by_cases hN1 : 2305843009213693952 < N2
  · go_enter Try.func5, Try.ntmps5
    go_wp2_with fail
    refine HY.out.mono ?_
    rintro e w' ⟨rfl, rfl⟩
    go_wp2_with fail
    go_ret
    exact ⟨rfl, Below.refl _ _⟩
  by_cases hn : n < 1
  · go_enter Try.func5, Try.ntmps5
    go_wp2_with fail
    refine HY.out.mono ?_
    rintro e w' ⟨rfl, rfl⟩
    go_wp2_with fail
    go_ret
    exact ⟨rfl, Below.refl _ _⟩
  by_cases hs : n < since
  · go_enter Try.func5, Try.ntmps5
    go_wp2_with fail
    refine HY.out.mono ?_
    rintro e w' ⟨rfl, rfl⟩
    go_wp2_with fail
    go_ret
    exact ⟨rfl, Below.refl _ _⟩
  by_cases hz : zs.length < 1
  · go_enter Try.func5, Try.ntmps5
    go_wp2_with fail
    refine HY.out.mono ?_
    rintro e w' ⟨rfl, rfl⟩
    go_wp2_with fail
    go_ret
    exact ⟨rfl, Below.refl _ _⟩
  by_cases hb : 18446744073709551615 - n < beyond
  · go_enter Try.func5, Try.ntmps5
    go_wp2_with fail
    refine HY.out.mono ?_
    rintro e w' ⟨rfl, rfl⟩
    go_wp2_with fail
    go_ret
    exact ⟨rfl, Below.refl _ _⟩
  go_enter Try.func5, Try.ntmps5
  go_wp2_with fail
  refine HY.out.mono ?_
  rintro e w' ⟨rfl, rfl⟩
  go_upto_if 79 with fail
  clear HY
  go_cut [3] (fun s3 wc => ∃ sa2 sc2, s3 = .slice sa2 zs.length sc2 ∧ ReadsI wc sa2 zs ∧ Below w'.heap.size w' wc)
  case first =>
    cases a with
    | none =>
      obtain ⟨x, hx, -⟩ := HRS.out 0 (by omega)
      cases hx
    | some x =>
      go_wp2_with (at_make; refine wpList_make_full _ rfl _ _ 28 rfl w'.heap.size 2 j0 (.int .i64 0) 1 Try.underlying28 ji jz0 jz1 .i64 .i64 _ _ zs.length rfl rfl rfl rfl (by rw [jz2]; omega) (by unfold maxLen; omega) (Nat.le_refl _) ?_)
      intro w1 hown1 hgrow1
      have hnx1 : Below w'.heap.size w' w1 := (Below.refl _ _).grown hgrow1 (Nat.le_refl _) (by simp)
      obtain ⟨hg1, hlen1⟩ := owned_block hown1
      have hsz2 : (Try.prog.info? 2).map (·.size) = some 1 := by rw [ji]; simp [jz1]
      have hsrc : ∀ (j : Nat) (v : Value), (intVals zs)[j]? = some v → w1.cell? (x.add j) = some v := by
        intro j v hj
        have hj' : j < zs.length := by
          rcases Nat.lt_or_ge j zs.length with h | h
          · exact h
          · rw [List.getElem?_eq_none (by rw [intVals_length]; exact h)] at hj; cases hj
        obtain ⟨y, hy, hc⟩ := (HRS.out.below hnx1) j hj'
        cases hy
        rw [hc]
        simpa [intVals, hj', List.getD_eq_getElem?_getD] using hj
      have HG1 := hidP hg1
      have HSRC := hidP hsrc
      clear hg1 hsrc hown1 hgrow1
      go_wp2_with (refine wpList_copy_splice rfl (.tmp 83) (.tmp 84) 28 28 rfl 2 Try.underlying28 hsz2 (some ⟨w'.heap.size, 0, none⟩) (some x) zs.length zs.length zs.length c rfl rfl w'.heap.size 0 _ 2 HG1.out (intVals zs) (by rw [intVals_length]; simp) (fun _ => ⟨rfl, x, rfl, HSRC.out⟩) (by rw [intVals_length, hlen1]; omega) (intVals_one zs) w'.heap.size w' hnx1 (Nat.le_refl _) ?_)
      intro w2 hg2 hnx2
      have hrs2 : ReadsI w2 (some ⟨w'.heap.size, 0, none⟩) zs := by
        refine ReadsI.of_block ?_
        have h := hg2.out
        rw [show ∀ L : List Value, L.length = zs.length → splice L 0 (intVals zs) = intVals zs from fun L hL => by simp [splice, intVals_length, hL, List.drop_eq_nil_of_le]] at h
        · exact h
        · exact hlen1
      have HR2 := hidP hrs2
      have HN2 := hidP hnx2
      clear hrs2 hnx2 hg2 HG1 HSRC hnx1
      go_wp2_with fail
      go_meet
      case rel => exact ⟨_, _, rfl, HR2.out, HN2.out⟩
  case rest =>
    obtain ⟨sa2, sc2, rfl, hrs2, hnx0⟩ := hcut
    clear HRS
    have HR2 := hidP hrs2
    have HN0 := hidP hnx0
    clear hrs2 hnx0 q1
    go_wp2_with fail
    go_loop [18] (fun s18 => ∃ k : Nat, k ≤ zs.length ∧ s18 = .int .i64 k) (fun s18 => zs.length - (intOf s18).toNat)
    case atStart => exact ⟨0, Nat.zero_le _, rfl⟩
    case round =>
      obtain ⟨k, hk, rfl⟩ := hrel
      by_cases hlt : k < zs.length
      · obtain ⟨b, off, rfl, hbl, hx⟩ := HR2.out.plain (by omega)
        have hc := hx k hlt
        clear hx
        generalize zs.getD k 0 = z at hc
        by_cases hz0 : z < 0
        · go_wp2_with fail
          go_ret
          exact ⟨rfl, HN0.out⟩
        by_cases hz1 : 2305843009213693952 < z
        · go_wp2_with fail
          go_ret
          exact ⟨rfl, HN0.out⟩
        go_wp2_with fail
        go_round
        case rel => exact ⟨k + 1, by omega, by go_num⟩
        case measure => simp [intOf]; omega
      · clear hk
        go_wp2_with fail
        refine (new_any F sa2 sc2 zs n since pr wc HR2.out (by omega) (by omega) (by omega)).mono ?_
        rintro e w1 ⟨b, sl, rfl, hbB, hR1, hb1⟩
        have HR1 := hidP hR1
        have HB1 := hidP (bnext HN0.out hb1)
        have hBb : w'.heap.size ≤ b := Nat.le_trans HN0.out.size hbB
        clear hR1 hb1 HR2 HN0 hbB
        have e2 : IntKind.u64.wrap (n + beyond) = n + beyond := IntWalk.u64_in _ ⟨by omega, by omega⟩
        go_wp2_with fail
        refine (zz_unsent N1 (n + beyond) w1 HR1.out (by omega) p0 p1).mono ?_
        rintro e w2 ⟨rfl, hR2, hg2⟩
        have HR2 := hidP hR2
        have HB2 := hidP (below_grown5 HB1.out hg2 HB1.out.size hBb)
        clear hR2 hg2 HR1 HB1
        go_wp2_with fail
        refine (state_any w2 HR2.out).mono ?_
        rintro e w3 ⟨rfl, q3, rfl⟩
        go_wp2_with fail
        refine (zz_first N2 F (w2.drewN q3) HR2.out hn hN0 hN1 hF0 hF1).mono ?_
        rintro e w4 ⟨rfl, hR4, hg4⟩
        have HR4 := hidP hR4
        have HB4 := hidP (below_grown5 (below_drewN HB2.out q3) hg4 HB2.out.size hBb)
        clear hR4 hg4 HR2 HB2
        go_wp2_with fail
        refine (state_any w4 HR4.out).mono ?_
        rintro e w5 ⟨rfl, q5, rfl⟩
        have hd : ((N2 - F) == (N2 - F)) = true := by simp
        go_wp2_with fail
        go_ret
        exact ⟨rfl, below_drewN HB4.out q5⟩

end Go.Proofs.Qxb6608940a
