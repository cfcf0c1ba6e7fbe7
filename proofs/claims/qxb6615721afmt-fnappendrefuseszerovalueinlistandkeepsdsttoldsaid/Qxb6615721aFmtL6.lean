import Derived.Test.Qxb6615721aFmtW11
import Derived.Laws.Pointers
import Derived.Deep.DeepCutAuto
import Derived.Lib.Builder
namespace Go.Proofs.Qxb6615721aFmt
open Go.RowKit

/-- It answers; where it says yes, the lengths are bounded. -/
def Ok6 (n m : Nat) (e : Ending) : Prop := ∃ b, e = .returned (.bool b) ∧ (b = true → n ≤ 1048576 ∧ m ≤ 1048576)

set_option maxRecDepth 100000 in
set_option maxHeartbeats 1000000 in
theorem bytes6_any (a : Option Addr) (n c : Nat) (s : ByteArray) (w : World) :
    Calls Tryf.prog 19 #[.slice a n c, .string s] w fun e w' => Ok6 n s.size e ∧ w' = w := by
  by_cases h1 : 1048576 < n
  · go_enter Tryf.func19, Tryf.ntmps19
    go_wp2
    go_ret
    exact ⟨⟨false, rfl, by simp⟩, rfl⟩
  by_cases h2 : 1048576 < s.size
  · go_enter Tryf.func19, Tryf.ntmps19
    go_wp2
    go_ret
    exact ⟨⟨false, rfl, by simp⟩, rfl⟩
  by_cases h3 : 1048576 < n + s.size
  · go_enter Tryf.func19, Tryf.ntmps19
    go_wp2
    go_ret
    exact ⟨⟨false, rfl, by simp⟩, rfl⟩
  have H : Hid (n ≤ 1048576 ∧ s.size ≤ 1048576) := ⟨by omega, by omega⟩
  go_enter Tryf.func19, Tryf.ntmps19
  go_wp2
  go_ret
  exact ⟨⟨true, rfl, fun _ => H.out⟩, rfl⟩

theorem owns_below' {w w' : World} {B : Nat} {e : TypeId} {v : Value} {n : Nat} {xs : List Value} (h : w.ownsRow B e 1 v n xs) (hb : Below w.heap.size w w') : w'.ownsRow B e 1 v n xs := by
  obtain ⟨h1, h2 | ⟨g, cap, cur, hv, hB, hh, r⟩⟩ := h
  · exact ⟨h1, .inl h2⟩
  · exact ⟨h1, .inr ⟨g, cap, cur, hv, hB, by rw [hb.block g (Array.getElem?_eq_some_iff.1 hh).1]; exact hh, r⟩⟩

theorem strEncZ_bounds' (s : ByteArray) (h : s.size ≤ 1048576) : 0 < (strEncZ s).length ∧ (strEncZ s).length ≤ 1048600 := by
  have h21 := decZ_le20 s.size (by omega)
  have e2 : (strEncZ s).length = (decZ s.size).length + 1 + s.size := by simp [strEncZ, sZ_length]; omega
  omega

theorem map_one' (l : List Int) : ∀ u ∈ l.map (Value.int .u8), u.oneCell' = true := by
  intro u hu
  simp at hu
  obtain ⟨z, _, rfl⟩ := hu
  rfl

set_option maxRecDepth 100000 in
set_option maxHeartbeats 2000000 in
theorem law6 (a : Option Addr) (c : Nat) (zs : List Int) (s : ByteArray) (w : World) (hT : Tab w) (ha : a = none → c = 0) (hr : Reads w a zs) (hz : zs.length ≤ 9223372036854775807) (hs : s.size ≤ maxLen) :
    Calls Tryf.prog 6 #[.slice a zs.length c, .string s] w fun e w' => e = .returned (.bool true) ∧ Below w.heap.size w w' := by
  unfold maxLen at hs
  obtain ⟨i0, hi, hz0, hz1, hz2⟩ := info_parts Tryf.info5
  have q := q22
  have HB := hidP (bytes6_any a zs.length c s w)
  by_cases hn : 524288 < zs.length
  · go_enter Tryf.func6, Tryf.ntmps6
    go_wp2_with fail
    refine HB.out.mono ?_
    rintro e w' ⟨⟨b, rfl, hb⟩, rfl⟩
    cases b with
    | false =>
      go_wp2_with fail
      go_ret
      exact ⟨rfl, Below.refl _ _⟩
    | true =>
      go_wp2_with fail
      go_ret
      exact ⟨rfl, Below.refl _ _⟩
  by_cases hm : 524288 < s.size
  · go_enter Tryf.func6, Tryf.ntmps6
    go_wp2_with fail
    refine HB.out.mono ?_
    rintro e w' ⟨⟨b, rfl, hb⟩, rfl⟩
    cases b with
    | false =>
      go_wp2_with fail
      go_ret
      exact ⟨rfl, Below.refl _ _⟩
    | true =>
      go_wp2_with fail
      go_ret
      exact ⟨rfl, Below.refl _ _⟩
  go_enter Tryf.func6, Tryf.ntmps6
  go_wp2_with fail
  refine HB.out.mono ?_
  rintro e w0 ⟨⟨b, rfl, -⟩, rfl⟩
  clear HB
  cases b with
  | false =>
    go_wp2_with fail
    go_ret
    exact ⟨rfl, Below.refl _ _⟩
  | true =>
  go_wp2_with fail
  refine (clone_any a c zs w0 ha hr (by omega)).mono ?_
  rintro e w1 ⟨a1, rfl, hnone, hr1, hnx1⟩
  have hsz1 := hnx1.size
  have HT1 := hidP (hT.below hnx1)
  have HR1 := hidP hr1
  have HD1 := hidP (hr.below hnx1)
  have HN1 := hidP hnx1
  have hiso : a1.isNone = a.isNone := by
    cases a1 <;> cases a <;> simp_all
  clear hr1 hnx1 hT hr hnone
  go_wp2_with fail
  refine (zzAppendList2_any a1 zs s w1 HT1.out HR1.out (by omega) (by omega)).mono ?_
  rintro e w2 ⟨rfl, hnx2⟩
  have hsz2 := hnx2.size
  have HT2 := hidP (HT1.out.below hnx2)
  have HR2 := hidP (HR1.out.below hnx2)
  have HD2 := hidP (HD1.out.below hnx2)
  have HN2 := hidP (HN1.out.trans (hnx2.mono hsz1))
  clear hnx2 HT1 HR1 HD1 HN1
  go_wp2_with fail
  go_cut [55] (fun s55 wc => s55 = .bool false ∧ ∃ q, wc = w2.drewN q)
  case first =>
    by_cases h0 : zs.length = 0
    · have hd : decide (0 < zs.length) = false := decide_eq_false (by omega)
      clear h0
      go_quiet (fail)
      go_wp2_with fail
      go_meet
      case rel => exact ⟨rfl, _, rfl⟩
    · obtain ⟨b1, o1, rfl, hb1, _⟩ := HR2.out.plain (by omega)
      have hl0 : (0 : Int) < (zs.length : Int) := by omega
      have hl1 : 0 < zs.length := by omega
      have hpp := fun (wx : World) => Lib.run_neq_ptr_same (P := Tryf.prog) wx (tp := 40) (te := 5) ⟨b1, o1, none⟩ Tryf.underlying40 hi
      have hd : decide (0 < zs.length) = true := decide_eq_true (by omega)
      clear h0
      go_quiet (fail)
      go_wp2_with fail
      go_meet
      case rel => exact ⟨rfl, _, rfl⟩
  case rest =>
    obtain ⟨rfl, q2, rfl⟩ := hcut
    clear q
    go_wp2_with fail
    refine (equal_true a1 a zs.length c zs (w2.drewN q2) HR2.out HD2.out (by omega)).mono ?_
    rintro e w3 ⟨rfl, q3, rfl⟩
    have HN3 := hidP (below_drewN HN2.out (q2 + q3))
    have HT3 : Hid (Tab (w2.drewN (q2 + q3))) := HT2.out
    have HD3 : Hid (Reads (w2.drewN (q2 + q3)) a zs) := HD2.out
    clear HN2 HT2 HD2 HR2
    go_wp2_with fail
    refine (clone_any a c zs _ ha HD3.out (by omega)).mono ?_
    rintro e w4 ⟨a4, rfl, -, hr4, hnx4⟩
    have hsz4 := hnx4.size
    have HT4 := hidP (HT3.out.below hnx4)
    have HR4 := hidP hr4
    have HD4 := hidP (HD3.out.below hnx4)
    have HN4 := hidP (HN3.out.trans (hnx4.mono HN3.out.size))
    clear hr4 hnx4 HT3 HD3 HN3
    go_wp2_with fail
    refine (zzAppendList1_any a4 zs s w4 HT4.out HR4.out (by omega) (by omega)).mono ?_
    rintro e w5 ⟨a5, c5, rfl, hr5, hnx5⟩
    have HR5 := hidP hr5
    have HD5 := hidP (HD4.out.below hnx5)
    have HN5 := hidP (HN4.out.trans (hnx5.mono HN4.out.size))
    clear hr5 hnx5 HT4 HR4 HD4 HN4
    have hsz5 := HN5.out.size
    go_wp2_with fail
    refine (clone_any a c zs w5 ha HD5.out (by omega)).mono ?_
    rintro e w6 ⟨a6, rfl, -, hr6, hnx6⟩
    have hsz6 := hnx6.size
    obtain ⟨hpos, hle2⟩ := strEncZ_bounds' s (by omega)
    go_wp2_with (at_builtin; refine wpList_append_grows _ rfl (.tmp 71) (.tmp 72) 22 rfl 5 i0 (.int .u8 0) 1 1 Tryf.underlying22 hi hz0 hz1 hz2 rfl (by decide) a6 zs.length zs.length (zs.map (Value.int .u8)) rfl ?hnone (by simp) ?holds ⟨w6.heap.size, 0, none⟩ 1 1 [Value.int .u8 108] rfl rfl (one_new _ _ _) (one_cell _) (by omega) (by unfold maxLen; omega) (by omega) ?_)
    case hnone => intro h; subst h; have := hr6.none; simp [this]
    case holds => exact hr6.olds ((Below.refl _ _).alloc (Nat.le_refl _) _)
    intro v7 w7 hown7 hgrow7
    have hnx7 : Below w5.heap.size w5 w7 := (hnx6.alloc hsz6 _).grown hgrow7 (by simp; omega) (by simp)
    have ho7 : w7.ownsRow w5.heap.size 5 1 v7 (zs.length + 1) ((zs ++ [108]).map (Value.int .u8)) := by
      simpa using owns_base hown7 (B' := w5.heap.size) (by omega)
    have HO7 := hidP ho7
    have HN7 := hidP hnx7
    clear hown7 hgrow7 ho7 hnx7 hr6 hnx6
    go_wp2_with fail
    refine (strenc_any s w7 (by omega)).mono ?_
    rintro e w8 ⟨a8, c8, rfl, hr8, -, hnx8⟩
    obtain ⟨b8, o8, rfl, _, _⟩ := hr8.plain hpos
    have HO8 := hidP (owns_below' HO7.out hnx8)
    have HN8 := hidP (HN7.out.trans (hnx8.mono HN7.out.size))
    have hsz8 := HN8.out.size
    have HNW := hidP (Reads.olds hr8 (Below.refl _ _) _ rfl)
    clear hr8 hnx8 HO7 HN7
    go_wp2_with (at_builtin; refine wpList_append_own _ rfl (.tmp 74) (.tmp 76) 22 rfl w5.heap.size 5 i0 (.int .u8 0) 1 1 Tryf.underlying22 hi hz0 hz1 hz2 rfl (by decide) _ _ _ rfl HO8.out ⟨b8, o8, none⟩ (strEncZ s).length c8 ((strEncZ s).map (Value.int .u8)) rfl (by simp) HNW.out (map_one' _) (by unfold maxLen; omega) (by omega) (by omega) ?_)
    intro v9 w9 ho9 hg9 _
    have hn9 : Below w5.heap.size w5 w9 := HN8.out.grown hg9 (by omega) (fun z hz => (HO8.out.lt z hz).1)
    have hsz9 := hn9.size
    clear hg9 HO8 HN8 HNW
    go_wp2_with (at_builtin; refine wpList_append_own _ rfl (.tmp 78) (.tmp 79) 22 rfl w5.heap.size 5 i0 (.int .u8 0) 1 1 Tryf.underlying22 hi hz0 hz1 hz2 rfl (by decide) _ _ _ rfl (ho9.alloc _) ⟨w9.heap.size, 0, none⟩ 1 1 [Value.int .u8 101] rfl rfl (one_new _ _ _) (one_cell _) (by unfold maxLen; omega) (by omega) (by simp; omega) ?_)
    intro v10 w10 ho10 hg10 _
    have hn10 : Below w5.heap.size w5 w10 := (hn9.alloc hsz9 _).grown hg10 (by simp; omega) (fun z hz => (ho9.lt z hz).1)
    have hr10 : ∃ a' c', v10 = .slice a' (listEncZ zs [s]).length c' ∧ Reads w10 a' (listEncZ zs [s]) := by
      have e : zs.length + 1 + (strEncZ s).length + 1 = (listEncZ zs [s]).length := by simp [listEncZ, encsZ]; omega
      have ho : w10.ownsRow w5.heap.size 5 1 v10 (zs.length + 1 + (strEncZ s).length + 1) ((listEncZ zs [s]).map (Value.int .u8)) := by simpa [listEncZ, encsZ] using ho10
      obtain ⟨a', c', hv, hl, _, hr'⟩ := Reads.of_owns ho
      exact ⟨a', c', by rw [hv, hl], hr'⟩
    have hlen2 : (listEncZ zs [s]).length ≤ 8388608 := by
      have e : (listEncZ zs [s]).length = zs.length + 1 + (strEncZ s).length + 1 := by simp [listEncZ, encsZ]; omega
      omega
    obtain ⟨a10, c10, hv10, hr10⟩ := hr10
    rw [hv10]
    have HR10 := hidP hr10
    have HO10 := hidP (HR5.out.below hn10)
    have HN10 := hidP (HN5.out.trans (hn10.mono hsz5))
    clear hv10 hr10 hn10 ho10 hg10 ho9 hn9
    go_wp2_with fail
    refine (equal_true a5 a10 c5 c10 (listEncZ zs [s]) w10 HO10.out HR10.out (by omega)).mono ?_
    rintro e w11 ⟨rfl, q, rfl⟩
    go_wp2_with fail
    go_ret
    exact ⟨rfl, below_drewN HN10.out q⟩

end Go.Proofs.Qxb6615721aFmt
