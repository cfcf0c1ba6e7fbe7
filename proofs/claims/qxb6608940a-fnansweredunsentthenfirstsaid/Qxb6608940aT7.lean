import Derived.Test.Qxb6608940aT6
namespace Go.Proofs.Qxb6608940a
open Go.RowKit

theorem add_zero (N : Int) (w : World) (n0 : -9223372036854775808 ≤ N) (n1 : N ≤ 9223372036854775807) :
    Calls Try.prog 24 #[.agg #[.int .u64 0, .int .i64 0, .pointer none], .int .i64 N] w fun e w' => e = .returned (.agg #[.int .u64 (N % 1000000000), .int .i64 (N / 1000000000), .pointer none]) ∧ Below w.heap.size w w' := by
  have h := add_any 0 N w (by omega) (by omega) n0 n1
  rw [Int.zero_add] at h
  exact h

set_option maxRecDepth 100000 in
set_option maxHeartbeats 1000000 in
theorem zz_unsent {b : Nat} {sm va la sh : Int} {sp : Bool} {ns sec : Int} {sl : Value} {n since : Int} {an : Bool} {pr : Int} (N i : Int) (w : World) (h : Rec b sm va la sh sp ns sec sl n since an pr w) (hi : n ≤ i) (n0 : -9223372036854775808 ≤ N) (n1 : N ≤ 9223372036854775807) :
    Calls Try.prog 14 #[.pointer (some ⟨b, 0, none⟩), .int .i64 N, .int .u64 i] w fun e w' => e = .returned (.tuple #[]) ∧ Rec b sm va la sh sp ns sec sl n since true 0 w' ∧ w.grownBy w' (some b) := by
  have HR := hidP h
  clear h
  go_enter Try.func14, Try.ntmps14
  go_wp2_with fail
  refine (add_zero N _ n0 n1).mono ?_
  rintro e w1 ⟨rfl, hb1⟩
  have HR1 := hidP (HR.out.below hb1)
  have HB1 := hidP hb1
  clear hb1
  go_wp2_with fail
  refine (answered_unsent _ _ i _ HR1.out hi).mono ?_
  rintro e w2 ⟨rfl, hR2, hg2⟩
  have HR2 := hidP hR2
  have HG2 := hidP (grown_trans (grown_of_below HB1.out) hg2)
  clear hR2 hg2
  go_wp2_with fail
  go_end0
  exact ⟨rfl, HR2.out, HG2.out⟩

set_option maxRecDepth 100000 in
set_option maxHeartbeats 1000000 in
theorem zz_first {b : Nat} {sm va la sh : Int} {sl : Value} {n since : Int} {an : Bool} {pr : Int} (N F : Int) (w : World) (h : Rec b sm va la sh false (F % 1000000000) (F / 1000000000) sl n since an pr w) (hn : 1 ≤ n) (n0 : -2305843009213693952 ≤ N) (n1 : N ≤ 2305843009213693952) (f0 : -2305843009213693952 ≤ F) (f1 : F ≤ 2305843009213693952) :
    Calls Try.prog 14 #[.pointer (some ⟨b, 0, none⟩), .int .i64 N, .int .u64 0] w fun e w' => e = .returned (.tuple #[]) ∧ Rec b (N - F) ((N - F).tdiv 2) (N - F) (N - F) true (F % 1000000000) (F / 1000000000) sl n since true 0 w' ∧ w.grownBy w' (some b) := by
  have HR := hidP h
  have HS := hidP (fun wx => sub_any N F wx n0 n1 f0 f1)
  clear h
  go_enter Try.func14, Try.ntmps14
  go_wp2_with fail
  refine (add_zero N _ (by omega) (by omega)).mono ?_
  rintro e w1 ⟨rfl, hb1⟩
  have HR1 := hidP (HR.out.below hb1)
  have HB1 := hidP hb1
  clear hb1
  go_wp2_with fail
  refine (answered_first _ _ (N - F) _ HR1.out hn (by omega) (by omega) HS).mono ?_
  rintro e w2 ⟨rfl, hR2, hg2⟩
  have HR2 := hidP hR2
  have HG2 := hidP (grown_trans (grown_of_below HB1.out) hg2)
  clear hR2 hg2
  go_wp2_with fail
  go_end0
  exact ⟨rfl, HR2.out, HG2.out⟩

set_option maxRecDepth 100000 in
set_option maxHeartbeats 1000000 in
theorem state_any {b : Nat} {sm va la sh : Int} {sp : Bool} {ns sec : Int} {sl : Value} {n since : Int} {an : Bool} {pr : Int} (w : World) (h : Rec b sm va la sh sp ns sec sl n since an pr w) :
    Calls Try.prog 15 #[.pointer (some ⟨b, 0, none⟩)] w fun e w' => e = .returned (.tuple #[.bool an, .int .i64 pr, .bool sp, .int .i64 la, .int .i64 sm, .int .i64 sh]) ∧ ∃ q, w' = w.drewN q := by
  obtain ⟨c0, c1, c2, c3, c4, c7, c8, c9, c11, c13, c23, hf⟩ := h.cells
  clear h
  go_enter Try.func15, Try.ntmps15
  go_wp2_with fail
  go_quiet (fail)
  go_wp2_with fail
  exact bodyPost_ret (v := .tuple #[.bool an, .int .i64 pr, .bool sp, .int .i64 la, .int .i64 sm, .int .i64 sh]) (by simp [results, Try.results15, go_sem]) rfl ⟨rfl, _, rfl⟩

end Go.Proofs.Qxb6608940a
