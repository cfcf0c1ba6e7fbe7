import Derived.Test.Qxb6608940aT3
namespace Go.Proofs.Qxb6608940a
open Go.RowKit

theorem bcell {W w1 : World} (hb : Below W.heap.size W w1) : (∀ b o, b < W.heap.size → w1.cell? ⟨b, o, none⟩ = W.cell? ⟨b, o, none⟩) ∧ (∀ b o, b < W.heap.size → w1.frozen? ⟨b, o, none⟩ = W.frozen? ⟨b, o, none⟩) :=
  ⟨fun b o h => hb.cell (p := ⟨b, o, none⟩) h, fun b o h => hb.frozen (p := ⟨b, o, none⟩) h⟩

theorem bnext {a w w' : World} (h : Below a.heap.size a w) (k : Below w.heap.size w w') : Below a.heap.size a w' := h.trans (k.mono h.size)

set_option maxRecDepth 100000 in
set_option maxHeartbeats 2000000 in
theorem sub_any (T U : Int) (w : World) (t0 : -2305843009213693952 ≤ T) (t1 : T ≤ 2305843009213693952) (u0 : -2305843009213693952 ≤ U) (u1 : U ≤ 2305843009213693952) :
    Calls Try.prog 33 #[tv T, tv U] w fun e w' => e = .returned (.int .i64 (T - U)) ∧ Below w.heap.size w w' := by
  have hA : ∀ wx, Calls Try.prog 24 #[tv U, .int .i64 (T - U)] wx fun e w' => e = .returned (tv T) ∧ Below wx.heap.size wx w' := fun wx => by
    have h := add_any U (T - U) wx (by omega) (by omega) (by omega) (by omega)
    rwa [show U + (T - U) = T by omega] at h
  have hE : ∀ wx, Calls Try.prog 38 #[tv T, tv T] wx fun e w' => e = .returned (.bool true) ∧ Below wx.heap.size wx w' := fun wx => equal_same (T % 1000000000) (T / 1000000000) wx (by omega) (by omega)
  have hn : ∃ a s b t : Int, tv T = .agg #[.int .u64 a, .int .i64 s, .pointer none] ∧ tv U = .agg #[.int .u64 b, .int .i64 t, .pointer none] ∧ 0 ≤ a ∧ a < 1000000000 ∧ 0 ≤ b ∧ b < 1000000000 ∧ T = s * 1000000000 + a ∧ U = t * 1000000000 + b :=
    ⟨T % 1000000000, T / 1000000000, U % 1000000000, U / 1000000000, rfl, rfl, by omega, by omega, by omega, by omega, by omega, by omega⟩
  obtain ⟨a, s, b, t, eT, eU, a0, a1, b0, b1, hTs, hUs⟩ := hn
  rw [eT, eU] at hA
  rw [eT] at hE
  rw [eT, eU]
  have hd : (s - t) * 1000000000 + (a - b) = T - U := by omega
  have hs0 : -2305843010 ≤ s := by omega
  have hs1 : s ≤ 2305843010 := by omega
  have ht0 : -2305843010 ≤ t := by omega
  have ht1 : t ≤ 2305843010 := by omega
  have b2 := u64_two a b a0 (by omega) b0 (by omega)
  have HD := hidP hd
  have d0 : -4611686018427387904 ≤ T - U := by omega
  have d1 : T - U ≤ 4611686018427387904 := by omega
  clear eT eU hTs hUs hd t0 t1 u0 u1
  generalize T - U = d at *
  have HA := hidP hA
  have HE := hidP hE
  clear hA hE
  go_enter Try.func33, Try.ntmps33
  go_wp2_with fail
  refine (sec_any w.heap.size a s _ a0 (by omega) (by simp) (by simp)).mono ?_
  rintro e w1 ⟨rfl, rfl⟩
  go_wp2_with fail
  refine (sec_any (w.heap.size + 1) b t _ b0 (by omega) (by simp) (by simp)).mono ?_
  rintro e w1 ⟨rfl, rfl⟩
  go_wp2_with fail
  refine (nsec_any w.heap.size a _ a0 (by omega) (by simp)).mono ?_
  rintro e w1 ⟨rfl, rfl⟩
  go_wp2_with fail
  refine (nsec_any (w.heap.size + 1) b _ b0 (by omega) (by simp)).mono ?_
  rintro e w1 ⟨rfl, rfl⟩
  go_wp2_with fail
  rw [HD.out]
  go_cut [27] (fun s27 wc => s27 = .bool true ∧ Below w.heap.size w wc)
  case first =>
    have hW : Below w.heap.size w ((w.alloc (.cells #[.int .u64 a, .int .i64 s, .pointer none] 53)).alloc (.cells #[.int .u64 b, .int .i64 t, .pointer none] 53)) := ((Below.refl _ _).alloc (Nat.le_refl _) _).alloc (by simp) _
    have HW := hidP hW
    clear hW
    go_region_with (first | (go_at_call 24; refine (HA.out _).mono ?_; rintro e w5 ⟨rfl, hb5⟩; obtain ⟨hc5, hf5⟩ := bcell hb5) | (go_at_call 38; refine (HE.out _).mono ?_; rintro e w6 ⟨rfl, hb6⟩))
    all_goals (have HB6 := hidP (bnext (bnext HW.out.drew hb5) hb6))
    all_goals (clear hb5 hb6)
    all_goals (go_wp2_with fail)
    all_goals go_meet
    all_goals (case rel => exact ⟨rfl, HB6.out⟩)
  case rest =>
    obtain ⟨rfl, hb⟩ := hcut
    have HB := hidP hb
    clear hb
    go_wp2_with fail
    go_ret
    exact ⟨rfl, HB.out⟩

end Go.Proofs.Qxb6608940a
