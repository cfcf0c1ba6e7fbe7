import Derived.Test.Qxb6615721aFmtW2
import Derived.Test.Qxb6615721aFmtPl
namespace Go.Proofs.Qxb6615721aFmt
open Go.RowKit

/-- The array of twenty cells while it is filled from its end: from i on it holds the numbers rest. -/
def BufIs (B : Nat) (i : Nat) (rest : List Int) (w : World) : Prop :=
  ∃ cur, w.heap[B]? = some (.cells cur 45 (0, 0)) ∧ cur.size = 20 ∧ i + rest.length = 20 ∧ cur.toList.drop i = rest.map (Value.int .u8)

theorem BufIs.store {B i : Nat} {rest : List Int} {w : World} (h : BufIs B i rest w) (hi : 1 ≤ i) (z : Int) :
    (∃ v, w.cell? ⟨B, i - 1, none⟩ = some v) ∧ w.frozen? ⟨B, i - 1, none⟩ = false ∧ BufIs B (i - 1) (z :: rest) (w.setCell ⟨B, i - 1, none⟩ (.int .u8 z)) := by
  obtain ⟨cur, hh, hs, hl, hd⟩ := h
  refine ⟨⟨cur[i - 1]'(by omega), ?_⟩, ?_, cur.setIfInBounds (i - 1) (.int .u8 z), heap_setCell_same w B (i - 1) cur 45 _ hh, by simpa using hs, by simp; omega, ?_⟩
  · rw [cell_of_row w B (i - 1) cur 45 (0, 0) hh]; simp
  · simp [World.frozen?, hh]
  · rw [Array.toList_setIfInBounds, List.map_cons, ← hd]
    have e : cur.toList.length = 20 := by simpa using hs
    rw [List.drop_eq_getElem_cons (by simp; omega)]
    have e2 : i - 1 + 1 = i := by omega
    rw [e2]
    simp
    rw [List.drop_set_of_lt (by omega)]

theorem BufIs.lt {B i : Nat} {rest : List Int} {w : World} (h : BufIs B i rest w) : B < w.heap.size := by
  obtain ⟨cur, hh, _⟩ := h
  exact (Array.getElem?_eq_some_iff.1 hh).1

theorem BufIs.grown {B i : Nat} {rest : List Int} {w w' : World} (h : BufIs B i rest w) (hg : w.grownBy w' none) : BufIs B i rest w' := by
  have hlt := h.lt
  obtain ⟨cur, hh, r⟩ := h
  exact ⟨cur, by rw [hg.block B hlt (by simp)]; exact hh, r⟩

theorem BufIs.below {B i S : Nat} {rest : List Int} {w w' : World} (h : BufIs B i rest w) (hb : Below S w w') (hS : B < S) : BufIs B i rest w' := by
  obtain ⟨cur, hh, r⟩ := h
  exact ⟨cur, by rw [hb.block B hS]; exact hh, r⟩

theorem BufIs.cell {B i : Nat} {rest : List Int} {w : World} (h : BufIs B i rest w) (j : Nat) (hj : j < rest.length) : w.cell? ⟨B, i + j, none⟩ = some (.int .u8 (rest.getD j 0)) := by
  obtain ⟨cur, hh, hs, hl, hd⟩ := h
  rw [cell_of_row w B (i + j) cur 45 (0, 0) hh]
  have : (cur.toList.drop i)[j]? = (rest.map (Value.int .u8))[j]? := by rw [hd]
  rw [List.getElem?_drop, List.getElem?_map, List.getElem?_eq_getElem hj] at this
  simpa [List.getD_eq_getElem?_getD, hj] using this

set_option maxRecDepth 100000 in
set_option maxHeartbeats 1000000 in
theorem decimal_any (m : Nat) (w : World) (hm : m < 18446744073709551616) :
    Calls Tryf.prog 12 #[.int .u64 m] w fun e w' => ∃ a, e = .returned (.slice (some a) (decZ m).length (decZ m).length) ∧ Reads w' (some a) (decZ m) ∧ Below w.heap.size w w' := by
  obtain ⟨i0, hi, hz0, hz1, hz2⟩ := info_parts Tryf.info5
  have hstart : BufIs w.heap.size 20 [] (w.alloc (.cells #[.int .u8 0, .int .u8 0, .int .u8 0, .int .u8 0, .int .u8 0, .int .u8 0, .int .u8 0, .int .u8 0, .int .u8 0, .int .u8 0, .int .u8 0, .int .u8 0, .int .u8 0, .int .u8 0, .int .u8 0, .int .u8 0, .int .u8 0, .int .u8 0, .int .u8 0, .int .u8 0] 45)) :=
    ⟨_, heap_alloc_new w _, rfl, rfl, rfl⟩
  have HST := hidP hstart
  clear hstart
  have hm20 := decZ_le20 m hm
  go_enter Tryf.func12, Tryf.ntmps12
  go_wp2
  go_loopw [0, 4] (fun s0 s4 wr => ∃ (i u : Nat) (rest : List Int), decZ m = decZ u ++ rest ∧ u ≤ m ∧ s0 = .int .u64 u ∧ s4 = .int .i64 i ∧ BufIs w.heap.size i rest wr ∧ Below w.heap.size w wr)
    (fun _ i _ => (intOf i).toNat)
  case atStart => exact ⟨20, m, [], by simp, Nat.le_refl _, rfl, rfl, HST.out, (Below.refl _ _).alloc (Nat.le_refl _) _⟩
  case round =>
    clear HST
    obtain ⟨i, u, rest, hd, hum, rfl, rfl, hbuf, hnx⟩ := hrel
    have hil : i + rest.length = 20 := by obtain ⟨_, _, _, h, _⟩ := hbuf; exact h
    have hp := decZ_pos u
    have hlen : (decZ m).length = (decZ u).length + rest.length := by rw [hd, List.length_append]
    have hi1 : 1 ≤ i := by omega
    have hi20 : i ≤ 20 := by omega
    obtain ⟨⟨v, hv⟩, hf, hb'⟩ := hbuf.store hi1 (48 + (u : Int) % 10)
    have hnx' := hnx.setCell (p := ⟨w.heap.size, i - 1, none⟩) (Nat.le_refl _) (.int .u8 (48 + (u : Int) % 10))
    have HB := hidP hb'
    have HN := hidP hnx'
    have HD := hidP hd
    clear hb' hnx' hd hbuf hnx
    by_cases hu : u < 10
    · have hu0 : ((u : Int) / 10 == 0) = true := by simp; omega
      have hdm : decZ m = (48 + (u : Int) % 10) :: rest := by
        rw [HD.out, decZ_small hu]
        simp
        omega
      have hL : (decZ m).length = rest.length + 1 := by rw [hdm]; rfl
      have HDM := hidP hdm
      clear hdm HD
      go_wp2_with (at_make; refine wpList_make_full _ rfl _ _ 22 rfl wr.heap.size 5 i0 (.int .u8 0) 1 Tryf.underlying22 hi hz0 hz1 .i64 .i64 _ _ (rest.length + 1) rfl rfl (by omega) (by omega) (by rw [hz2]; omega) (by unfold maxLen; omega) (by simp) ?_)
      intro w2 hown2 hgrow2
      have hbuf2 := HB.out.grown hgrow2
      have hsz : w.heap.size < wr.heap.size := by simpa using HB.out.lt
      have hnx2 := HN.out.grown hgrow2 (by simp; omega) (by simp)
      have hsz2 : wr.heap.size ≤ w2.heap.size := by have := hgrow2.size; simpa using this
      generalize hz : (48 + (u : Int) % 10) :: rest = zs at *
      have hzl : zs.length = rest.length + 1 := by rw [← hz]; rfl
      generalize wr.heap.size = S at *
      rw [toList_madeCells_one, show List.replicate (rest.length + 1) (Value.int .u8 0) = (fillZ zs (rest.length + 1) 0).map (Value.int .u8) by simp [fillZ_zero]] at hown2
      clear hgrow2 HB HN hv hf hz
      have HB2 := hidP hbuf2
      clear hbuf2
      have HI2 : Below S w2 w2 := Below.refl _ _
      go_wp2
      go_loopw [6] (fun s6 wt => ∃ k : Nat, k ≤ rest.length + 1 ∧ s6 = .int .i64 ((i : Int) - 1 + k) ∧ wt.ownsRow S 5 1 (.slice (some ⟨S, 0, none⟩) (rest.length + 1) (rest.length + 1)) (rest.length + 1) ((fillZ zs (rest.length + 1) k).map (Value.int .u8)) ∧ Below S w2 wt)
        (fun s6 _ => (20 - intOf s6).toNat)
      case atStart => exact ⟨0, Nat.zero_le _, by simp, hown2, HI2⟩
      case round =>
        clear hown2 HI2
        obtain ⟨k, hk, rfl, hown, hnx⟩ := hrel
        by_cases hlt : k < rest.length + 1
        · have hld := (HB2.out.below hnx hsz).cell k (by omega)
          have hst : wr.cell? ⟨S, k, none⟩ = ((fillZ zs (rest.length + 1) k).map (Value.int .u8))[k]? := hown.cellAt k (by omega)
          have hfz : wr.frozen? ⟨S, k, none⟩ = false := hown.frozenAt k
          have hlen2 := fillZ_length zs (rest.length + 1) k hzl hk
          have hstored := (hown.stored k (.int .u8 (zs.getD k 0))).1
          rw [fillZ_set zs (rest.length + 1) k hzl hlt] at hstored
          have hnx' := hnx.setCell (p := ⟨S, k, none⟩) (Nat.le_refl _) (.int .u8 (zs.getD k 0))
          rw [List.getElem?_map, List.getElem?_eq_getElem (by omega)] at hst
          simp only [Option.map_some] at hst
          generalize zs.getD k 0 = z at hld hstored hnx'
          have HS := hidP hstored
          have HN := hidP hnx'
          clear hstored hnx' hown hnx
          go_wp2
          go_roundw
          case rel => exact ⟨k + 1, by omega, by congr 1; omega, HS.out, HN.out⟩
          case measure => simp [intOf]; omega
        · have hkk : k = rest.length + 1 := by omega
          rw [hkk, fillZ_full zs _ hzl] at hown
          clear hkk
          have hr : ∃ a, Value.slice (some ⟨S, 0, none⟩) (rest.length + 1) (rest.length + 1) = .slice (some a) (decZ m).length (decZ m).length ∧ Reads wr (some a) (decZ m) := by
            obtain ⟨a, cap, hv, _, _, hr⟩ := Reads.of_owns hown
            simp only [Value.slice.injEq] at hv
            obtain ⟨rfl, _, _⟩ := hv
            exact ⟨_, by rw [hL], by rw [HDM.out]; exact hr⟩
          have hfin := hnx2.trans (hnx.mono (by omega))
          have HR := hidP hr
          have HF := hidP hfin
          clear hr hfin hown hnx
          go_wp2
          go_ret
          obtain ⟨a, hv, hr⟩ := HR.out
          exact ⟨a, by rw [hv]; rfl, hr, HF.out⟩
    · have hu0 : ((u : Int) / 10 == 0) = false := by simp; omega
      go_wp2
      go_roundw
      case rel => exact ⟨i - 1, u / 10, (48 + (u : Int) % 10) :: rest, by rw [HD.out, decZ_big hu]; simp, by omega, by go_num, by go_num, HB.out, HN.out⟩
      case measure => simp [intOf]; omega

end Go.Proofs.Qxb6615721aFmt
