import Derived.Test.Qxb6615721aFmtW5
import Derived.Test.Qxb6615721aFmtSh
import Derived.Lib.AppendStr
namespace Go.Proofs.Qxb6615721aFmt
open Go.RowKit

/-- The table of powers of ten reads as its initialiser lays it. -/
def Tab (w : World) : Prop := Lib.TabIs Tryf.prog w powName .u64 Lib.pow10Tab

theorem Tab.below {w w' : World} (h : Tab w) (hb : Below w.heap.size w w') : Tab w' := Lib.tabBelow_of_tabIs h w' hb

theorem Tab.at {w w' : World} {B : Nat} (h : Tab w) (hB : w.heap.size ≤ B) (hb : Below w.heap.size w w') : Lib.TabBelow Tryf.prog B w' powName .u64 Lib.pow10Tab :=
  fun w2 h2 => Lib.tabBelow_of_tabIs h w2 (hb.trans (h2.mono hB))

theorem byteCells_map (l : List UInt8) : Lib.byteCells l = (zOf l).map (Value.int .u8) := by simp [Lib.byteCells, zOf]

theorem strCells_map (s : ByteArray) : Lib.strCells s = (sZ s).map (Value.int .u8) := by simp [Lib.strCells, sZ, zOf]

/-- strconv.AppendInt at base 10, onto a row of the call's own. -/
theorem AppendInt_own (B n : Nat) (i : Int) (h0 : -9223372036854775808 ≤ i) (h1 : i ≤ 9223372036854775807) (v : Value) (zs : List Int) (w : World) (hown : w.ownsRow B 5 1 v n (zs.map (Value.int .u8))) (hBw : B ≤ w.heap.size) (hlim : n + 21 ≤ 140737488355328)
    (htab : Lib.TabBelow Tryf.prog B w powName .u64 Lib.pow10Tab) :
    Calls Tryf.prog 34 #[v, .int .i64 i, .int .i64 10] w fun e w' => ∃ v', e = .returned v' ∧ w'.ownsRow B 5 1 v' (n + (itoaZ i).length) ((zs ++ itoaZ i).map (Value.int .u8)) ∧ Below B w w' := by
  refine (Tryf.strconv_AppendInt_10 B n i h0 h1 v _ w hown hBw hlim htab).mono ?_
  rintro e w' ⟨v', rfl, ho, hb, _⟩
  refine ⟨v', rfl, ?_, hb⟩
  rw [byteCells_map] at ho
  rw [itoaZ, zOf_length, List.map_append]
  exact ho

set_option maxRecDepth 100000 in
set_option maxHeartbeats 1000000 in
theorem appendInt_any (a : Option Addr) (zs : List Int) (i : Int) (h0 : -9223372036854775808 ≤ i) (h1 : i ≤ 9223372036854775807) (w : World) (hT : Tab w) (hr : Reads w a zs) (hn : zs.length ≤ 4194304) :
    Calls Tryf.prog 26 #[.slice a zs.length zs.length, .int .i64 i] w fun e w' => ∃ a' c', e = .returned (.slice a' (zs ++ [105] ++ itoaZ i ++ [101]).length c') ∧ Reads w' a' (zs ++ [105] ++ itoaZ i ++ [101]) ∧ Below w.heap.size w w' := by
  obtain ⟨i0, hi, hz0, hz1, hz2⟩ := info_parts Tryf.info5
  have h21 := itoaZ_length_le i h0 h1
  go_enter Tryf.func26, Tryf.ntmps26
  go_wp2_with (at_builtin; refine wpList_append_grows _ rfl _ _ 22 rfl 5 i0 (.int .u8 0) 1 1 Tryf.underlying22 hi hz0 hz1 hz2 rfl (by decide) a zs.length zs.length (zs.map (Value.int .u8)) rfl ?hnone (by simp) ?holds ⟨w.heap.size, 0, none⟩ 1 1 [Value.int .u8 105] rfl rfl (one_new _ _ _) (one_cell _) (by omega) (by unfold maxLen; omega) (by omega) ?_)
  case hnone => intro h; subst h; have := hr.none; simp [this]
  case holds => exact hr.olds ((Below.refl _ _).alloc (Nat.le_refl _) _)
  intro v2 w2 hown2 hgrow2
  have hnx2 : Below w.heap.size w w2 := ((Below.refl _ w).alloc (Nat.le_refl _) _).grown hgrow2 (by simp) (by simp)
  have ho2 : w2.ownsRow w.heap.size 5 1 v2 (zs.length + 1) ((zs ++ [105]).map (Value.int .u8)) := by
    simpa using owns_base hown2 (B' := w.heap.size) (by omega)
  have hsz2 := hnx2.size
  have HT2 := hidP (hT.at (Nat.le_refl _) hnx2)
  clear hown2 hgrow2
  go_wp2_with (go_at_call 34; refine (AppendInt_own w.heap.size (zs.length + 1) i h0 h1 v2 (zs ++ [105]) w2 ho2 hsz2 (by omega) HT2.out).mono ?_; rintro e w3 ⟨v3, rfl, ho3, hnx3⟩; refine Hid.out ?_)
  refine hidP ?_
  have hsz3 := hnx3.size
  go_wp2_with (at_builtin; refine wpList_append_own _ rfl _ _ 22 rfl w.heap.size 5 i0 (.int .u8 0) 1 1 Tryf.underlying22 hi hz0 hz1 hz2 rfl (by decide) _ _ _ rfl (ho3.alloc _) ⟨w3.heap.size, 0, none⟩ 1 1 [Value.int .u8 101] rfl rfl (one_new _ _ _) (one_cell _) (by unfold maxLen; omega) (by omega) (by simp; omega) ?_)
  intro v4 w4 ho4 hg4 _
  have hnx4 : Below w.heap.size w w4 := ((hnx2.trans hnx3).alloc (by omega) _).grown hg4 (by simp; omega) (fun q hq => (ho3.lt q hq).1)
  have hr4 : ∃ a' c', v4 = .slice a' (zs ++ [105] ++ itoaZ i ++ [101]).length c' ∧ Reads w4 a' (zs ++ [105] ++ itoaZ i ++ [101]) := by
    have ho : w4.ownsRow w.heap.size 5 1 v4 (zs.length + 1 + (itoaZ i).length + 1) ((zs ++ [105] ++ itoaZ i ++ [101]).map (Value.int .u8)) := by simpa using ho4
    obtain ⟨a', c', hv, hl, _, hr'⟩ := Reads.of_owns ho
    exact ⟨a', c', by rw [hv, hl], hr'⟩
  have HR := hidP hr4
  have HN := hidP hnx4
  clear hr4 hnx4 ho4 hg4 ho3 hnx3 ho2 hnx2
  go_wp2
  go_ret
  obtain ⟨a', c', hv, hr'⟩ := HR.out
  exact ⟨a', c', by rw [hv]; rfl, hr', HN.out⟩

set_option maxRecDepth 100000 in
set_option maxHeartbeats 1000000 in
theorem appendString_own (B n : Nat) (v : Value) (zs : List Int) (s : ByteArray) (w : World) (hown : w.ownsRow B 5 1 v n (zs.map (Value.int .u8))) (hBw : B ≤ w.heap.size) (hn : n ≤ 16777216) (hs : s.size ≤ 1048576)
    (htab : Lib.TabBelow Tryf.prog B w powName .u64 Lib.pow10Tab) :
    Calls Tryf.prog 27 #[v, .string s] w fun e w' => ∃ v', e = .returned v' ∧ w'.ownsRow B 5 1 v' (n + (strEncZ s).length) ((zs ++ strEncZ s).map (Value.int .u8)) ∧ Below B w w' := by
  obtain ⟨i0, hi, hz0, hz1, hz2⟩ := info_parts Tryf.info5
  have h20 := decZ_le20 s.size (by omega)
  have HT := hidP htab
  clear htab
  have hd : itoaZ (s.size : Int) = decZ s.size := by rw [itoaZ_nonneg _ (by omega)]; simp
  have HD := hidP hd
  clear hd
  go_enter Tryf.func27, Tryf.ntmps27
  go_wp2_with (go_at_call 34; refine (AppendInt_own B n (s.size : Int) (by omega) (by omega) v zs w hown hBw (by omega) HT.out).mono ?_; rintro e w3 ⟨v3, rfl, ho3, hnx3⟩; refine Hid.out ?_)
  refine hidP ?_
  rw [HD.out] at ho3
  have hsz3 := hnx3.size
  go_wp2_with (at_builtin; refine wpList_append_own _ rfl (.tmp 9) (.tmp 10) 22 rfl B 5 i0 (.int .u8 0) 1 1 Tryf.underlying22 hi hz0 hz1 hz2 rfl (by decide) _ _ _ rfl (ho3.alloc _) ⟨w3.heap.size, 0, none⟩ 1 1 [Value.int .u8 58] rfl rfl (one_new _ _ _) (one_cell _) (by unfold maxLen; omega) (by omega) (by simp; omega) ?_)
  intro v4 w4 ho4 hg4 _
  have hnx4 : Below B w w4 := (hnx3.alloc (by omega) _).grown hg4 (by simp; omega) (fun q hq => (ho3.lt q hq).1)
  have hsz4 := hnx4.size
  clear ho3 hnx3 hg4
  go_wp2_with (at_builtin; refine Lib.wpList_append_own_string _ rfl (.tmp 12) (.tmp 13) 22 9 rfl B 5 i0 Tryf.underlying22 Tryf.underlying9 hi hz0 hz1 hz2 _ _ _ rfl ho4 s rfl (by unfold maxLen; omega) (by omega) (by omega) ?_)
  intro v5 w5 ho5 hg5 _
  have hnx5 : Below B w w5 := hnx4.grown hg5 (by omega) (fun q hq => (ho4.lt q hq).1)
  have ho : w5.ownsRow B 5 1 v5 (n + (strEncZ s).length) ((zs ++ strEncZ s).map (Value.int .u8)) := by
    rw [strCells_map] at ho5
    have e : n + (decZ s.size).length + 1 + s.size = n + (strEncZ s).length := by simp [strEncZ, sZ_length]; omega
    rw [e] at ho5
    simpa [strEncZ] using ho5
  have HO := hidP ho
  have HN := hidP hnx5
  clear ho hnx5 ho5 hg5 ho4 hnx4
  go_wp2
  go_ret
  exact ⟨v5, rfl, HO.out, HN.out⟩

end Go.Proofs.Qxb6615721aFmt
