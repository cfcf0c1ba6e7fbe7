import Derived.Test.Qxb6615721aFmtW8
namespace Go.Proofs.Qxb6615721aFmt
open Go.RowKit

set_option maxRecDepth 100000 in
set_option maxHeartbeats 1000000 in
theorem av_any1 (a : Option Addr) (zs : List Int) (g o c : Nat) (s : ByteArray) (w : World) (hT : Tab w) (hr : Reads w a zs) (hn : zs.length ≤ 4194304) (hs : s.size ≤ 1048576) (hc : w.cell? ⟨g, o, none⟩ = some (.iface 9 (.string s))) :
    Calls Tryf.prog 25 #[.slice a zs.length zs.length, .iface 48 (.slice (some ⟨g, o, none⟩) 1 c)] w fun e w' => ∃ a' c', e = .returned (.tuple #[.slice a' (listEncZ zs [s]).length c', .nilIface]) ∧ Reads w' a' (listEncZ zs [s]) ∧ Below w.heap.size w w' := by
  have t0 := as48_3
  have t1 := as48_2
  have t2 := as48_9
  have t3 := as48_22
  have t4 := as48_47
  have t5 := as48_33
  have t6 := as48_48
  obtain ⟨i0, hi, hz0, hz1, hz2⟩ := info_parts Tryf.info5
  have hg : g < w.heap.size := World.block_lt_of_cell? w _ hc
  have h21 := decZ_le20 s.size (by omega)
  have hel : (strEncZ s).length ≤ 1048600 := by simp [strEncZ, sZ_length]; omega
  have HC := hidP hc
  clear hc
  go_enter Tryf.func25, Tryf.ntmps25
  go_wp2_with (at_builtin; refine wpList_append_grows _ rfl (.tmp 83) (.tmp 84) 22 rfl 5 i0 (.int .u8 0) 1 1 Tryf.underlying22 hi hz0 hz1 hz2 rfl (by decide) a zs.length zs.length (zs.map (Value.int .u8)) rfl ?hnone (by simp) ?holds ⟨w.heap.size, 0, none⟩ 1 1 [Value.int .u8 108] rfl rfl (one_new _ _ _) (one_cell _) (by omega) (by unfold maxLen; omega) (by omega) ?_)
  case hnone => intro h; subst h; have := hr.none; simp [this]
  case holds => exact hr.olds ((Below.refl _ _).alloc (Nat.le_refl _) _)
  intro v2 w2 hown2 hgrow2
  have hnx2 : Below w.heap.size w w2 := ((Below.refl _ w).alloc (Nat.le_refl _) _).grown hgrow2 (by simp) (by simp)
  have ho2 : w2.ownsRow w.heap.size 5 1 v2 (zs.length + 1 + (encsZ ([s].take 0)).length) ((zs ++ [108] ++ encsZ ([s].take 0)).map (Value.int .u8)) := by
    simpa [encsZ] using owns_base hown2 (B' := w.heap.size) (by omega)
  have HO2 := hidP ho2
  have HN2 := hidP hnx2
  clear hown2 hgrow2 ho2 hnx2 t0 t1 t2 t3 t4 t5 t6
  go_wp2_with fail
  go_loopw [0, 6, 88] (fun v er i wr => ∃ k : Nat, k ≤ 1 ∧ i = .int .i64 k ∧ er = .nilIface ∧ wr.ownsRow w.heap.size 5 1 v (zs.length + 1 + (encsZ ([s].take k)).length) ((zs ++ [108] ++ encsZ ([s].take k)).map (Value.int .u8)) ∧ Below w.heap.size w wr)
    (fun _ _ i _ => 2 - (intOf i).toNat)
  case atStart => exact ⟨0, Nat.zero_le _, rfl, rfl, HO2.out, HN2.out⟩
  case round =>
    clear HO2 HN2
    obtain ⟨k, hk, rfl, rfl, hown, hnx⟩ := hrel
    have hT' := hT.at (Nat.le_refl _) hnx
    have hsz := hnx.size
    have HT' := hidP hT'
    clear hT'
    rcases (show k = 0 ∨ k = 1 by omega) with rfl | rfl
    · have hc : wr.cell? ⟨g, o, none⟩ = some (.iface 9 (.string s)) := (hnx.cell (by exact hg)).trans HC.out
      go_wp2_with fail
      refine (av_string w.heap.size _ _ _ s wr hown hsz (by simp [encsZ]; omega) hs HT'.out).mono ?_
      rintro e w3 ⟨v3, rfl, ho3, hnx3⟩
      have ho : w3.ownsRow w.heap.size 5 1 v3 (zs.length + 1 + (encsZ ([s].take 1)).length) ((zs ++ [108] ++ encsZ ([s].take 1)).map (Value.int .u8)) := by
        simpa [encsZ] using ho3
      have hn' := hnx.trans hnx3
      have HO := hidP ho
      have HN := hidP hn'
      clear ho hn' ho3 hnx3 hown hnx
      go_wp2_with fail
      go_roundw
      case rel => exact ⟨1, by omega, rfl, rfl, HO.out, HN.out⟩
      case measure => simp [intOf]
    · have ho := hown
      rw [List.take_of_length_le (by simp)] at ho
      clear hown
      have hen : (encsZ [s]).length = (strEncZ s).length := by simp [encsZ]
      have hel2 : (encsZ [s]).length ≤ 1048600 := by omega
      clear hen
      go_wp2_with (at_builtin; refine wpList_append_own _ rfl (.tmp 102) (.tmp 103) 22 rfl w.heap.size 5 i0 (.int .u8 0) 1 1 Tryf.underlying22 hi hz0 hz1 hz2 rfl (by decide) _ _ _ rfl (ho.alloc _) ⟨wr.heap.size, 0, none⟩ 1 1 [Value.int .u8 101] rfl rfl (one_new _ _ _) (one_cell _) (by unfold maxLen; omega) (by omega) (by simp; omega) ?_)
      intro v4 w4 ho4 hg4 _
      have hnx4 : Below w.heap.size w w4 := (hnx.alloc (by omega) _).grown hg4 (by simp; omega) (fun q hq => (ho.lt q hq).1)
      have hr4 : ∃ a' c', v4 = .slice a' (listEncZ zs [s]).length c' ∧ Reads w4 a' (listEncZ zs [s]) := by
        have ho : w4.ownsRow w.heap.size 5 1 v4 (zs.length + 1 + (encsZ [s]).length + 1) ((listEncZ zs [s]).map (Value.int .u8)) := by simpa [listEncZ] using ho4
        obtain ⟨a', c', hv, hl, _, hr'⟩ := Reads.of_owns ho
        exact ⟨a', c', by rw [hv, hl], hr'⟩
      have HR := hidP hr4
      have HN := hidP hnx4
      clear hr4 hnx4 ho4 hg4 ho hnx
      go_wp2_with fail
      go_ret2
      obtain ⟨a', c', hv, hr'⟩ := HR.out
      exact ⟨a', c', by rw [hv]; rfl, hr', HN.out⟩

set_option maxRecDepth 100000 in
set_option maxHeartbeats 1000000 in
theorem av_any2 (a : Option Addr) (zs : List Int) (g o c : Nat) (s : ByteArray) (w : World) (hT : Tab w) (hr : Reads w a zs) (hn : zs.length ≤ 4194304) (hs : s.size ≤ 1048576) (hc : w.cell? ⟨g, o, none⟩ = some (.iface 9 (.string s)))
    (hc2 : w.cell? ⟨g, o + 1, none⟩ = some (.iface 47 (.agg #[.slice none 0 0]))) :
    Calls Tryf.prog 25 #[.slice a zs.length zs.length, .iface 48 (.slice (some ⟨g, o, none⟩) 2 c)] w fun e w' => ∃ x, e = .returned (.tuple #[.slice none 0 0, .iface 62 (.pointer (some x))]) ∧ Below w.heap.size w w' := by
  have t0 := as48_3
  have t1 := as48_2
  have t2 := as48_9
  have t3 := as48_22
  have t4 := as48_47
  have t5 := as48_33
  have t6 := as48_48
  have HC2 := hidP hc2
  clear hc2
  obtain ⟨i0, hi, hz0, hz1, hz2⟩ := info_parts Tryf.info5
  have hg : g < w.heap.size := World.block_lt_of_cell? w _ hc
  have h21 := decZ_le20 s.size (by omega)
  have hel : (strEncZ s).length ≤ 1048600 := by simp [strEncZ, sZ_length]; omega
  have HC := hidP hc
  clear hc
  go_enter Tryf.func25, Tryf.ntmps25
  go_wp2_with (at_builtin; refine wpList_append_grows _ rfl (.tmp 83) (.tmp 84) 22 rfl 5 i0 (.int .u8 0) 1 1 Tryf.underlying22 hi hz0 hz1 hz2 rfl (by decide) a zs.length zs.length (zs.map (Value.int .u8)) rfl ?hnone (by simp) ?holds ⟨w.heap.size, 0, none⟩ 1 1 [Value.int .u8 108] rfl rfl (one_new _ _ _) (one_cell _) (by omega) (by unfold maxLen; omega) (by omega) ?_)
  case hnone => intro h; subst h; have := hr.none; simp [this]
  case holds => exact hr.olds ((Below.refl _ _).alloc (Nat.le_refl _) _)
  intro v2 w2 hown2 hgrow2
  have hnx2 : Below w.heap.size w w2 := ((Below.refl _ w).alloc (Nat.le_refl _) _).grown hgrow2 (by simp) (by simp)
  have ho2 : w2.ownsRow w.heap.size 5 1 v2 (zs.length + 1 + (encsZ ([s].take 0)).length) ((zs ++ [108] ++ encsZ ([s].take 0)).map (Value.int .u8)) := by
    simpa [encsZ] using owns_base hown2 (B' := w.heap.size) (by omega)
  have HO2 := hidP ho2
  have HN2 := hidP hnx2
  clear hown2 hgrow2 ho2 hnx2 t0 t1 t2 t3 t4 t5 t6
  go_wp2_with fail
  go_loopw [0, 6, 88] (fun v er i wr => ∃ k : Nat, k ≤ 1 ∧ i = .int .i64 k ∧ er = .nilIface ∧ wr.ownsRow w.heap.size 5 1 v (zs.length + 1 + (encsZ ([s].take k)).length) ((zs ++ [108] ++ encsZ ([s].take k)).map (Value.int .u8)) ∧ Below w.heap.size w wr)
    (fun _ _ i _ => 2 - (intOf i).toNat)
  case atStart => exact ⟨0, Nat.zero_le _, rfl, rfl, HO2.out, HN2.out⟩
  case round =>
    clear HO2 HN2
    obtain ⟨k, hk, rfl, rfl, hown, hnx⟩ := hrel
    have hT' := hT.at (Nat.le_refl _) hnx
    have hsz := hnx.size
    have HT' := hidP hT'
    clear hT'
    rcases (show k = 0 ∨ k = 1 by omega) with rfl | rfl
    · have hc : wr.cell? ⟨g, o, none⟩ = some (.iface 9 (.string s)) := (hnx.cell (by exact hg)).trans HC.out
      go_wp2_with fail
      refine (av_string w.heap.size _ _ _ s wr hown hsz (by simp [encsZ]; omega) hs HT'.out).mono ?_
      rintro e w3 ⟨v3, rfl, ho3, hnx3⟩
      have ho : w3.ownsRow w.heap.size 5 1 v3 (zs.length + 1 + (encsZ ([s].take 1)).length) ((zs ++ [108] ++ encsZ ([s].take 1)).map (Value.int .u8)) := by
        simpa [encsZ] using ho3
      have hn' := hnx.trans hnx3
      have HO := hidP ho
      have HN := hidP hn'
      clear ho hn' ho3 hnx3 hown hnx
      go_wp2_with fail
      go_roundw
      case rel => exact ⟨1, by omega, rfl, rfl, HO.out, HN.out⟩
      case measure => simp [intOf]
    · have hc : wr.cell? ⟨g, o + 1, none⟩ = some (.iface 47 (.agg #[.slice none 0 0])) := (hnx.cell (by exact hg)).trans HC2.out
      go_wp2_with fail
      refine (av_zero _ wr).mono ?_
      rintro e w3 ⟨x, rfl, hnx3⟩
      have hn' := hnx.trans (hnx3.mono hsz)
      have HN := hidP hn'
      clear hn' hnx3 hown hnx
      go_wp2_with fail
      go_ret2
      exact ⟨x, rfl, HN.out⟩

end Go.Proofs.Qxb6615721aFmt
