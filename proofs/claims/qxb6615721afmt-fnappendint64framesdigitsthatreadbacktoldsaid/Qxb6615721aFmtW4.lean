import Derived.Test.Qxb6615721aFmtW3
namespace Go.Proofs.Qxb6615721aFmt
open Go.RowKit

/-- A string's bytes, as integers. -/
def sZ (s : ByteArray) : List Int := zOf s.data.toList
theorem sZ_length (s : ByteArray) : (sZ s).length = s.size := by simp [sZ, zOf]

/-- The encoding of a string: its length, a colon, its bytes. -/
def strEncZ (s : ByteArray) : List Int := decZ s.size ++ [58] ++ sZ s

theorem sZ_take (s : ByteArray) (k : Nat) (h : k < s.size) : (sZ s).take (k + 1) = (sZ s).take k ++ [(s[k].toNat : Int)] := by
  have hl : k < (sZ s).length := by rw [sZ_length]; exact h
  rw [List.take_add_one, List.getElem?_eq_getElem hl]
  simp [sZ, zOf]
  rfl

/-- A new block of one cell. -/
theorem one_new (w : World) (u : Value) (t : TypeId) : ∀ (j : Nat) (u' : Value), [u][j]? = some u' → (w.alloc (.cells #[u] t)).cell? ((⟨w.heap.size, 0, none⟩ : Addr).add j) = some u' := by
  intro j u' hj
  match j, hj with
  | 0, hj => simp at hj; subst hj; simp [Addr.add]

theorem one_cell (z : Int) : ∀ u' ∈ [Value.int .u8 z], u'.oneCell' = true := by
  intro u' hu'; simp at hu'; subst hu'; rfl

theorem Reads.olds {w w' : World} {a : Option Addr} {zs : List Int} (h : Reads w a zs) (hb : Below w.heap.size w w') :
    ∀ b, a = some b → ∀ (j : Nat) (u : Value), (zs.map (Value.int .u8))[j]? = some u → w'.cell? (b.add j) = some u := by
  intro b hab j u hj
  have hl : j < zs.length := by
    rcases Nat.lt_or_ge j zs.length with h' | h'
    · exact h'
    · rw [List.getElem?_eq_none (by simpa using h')] at hj; cases hj
  obtain ⟨x, hx, hc⟩ := (h.below hb) j hl
  rw [hab] at hx
  cases hx
  rw [hc]
  rw [List.getElem?_map, List.getElem?_eq_getElem hl] at hj
  simp only [Option.map_some, Option.some.injEq] at hj
  rw [← hj]
  simp [List.getD_eq_getElem?_getD, hl]

theorem owns_base {w : World} {B B' : Nat} {e : TypeId} {v : Value} {n : Nat} {xs : List Value} (h : w.ownsRow B e 1 v n xs) (hB : B' ≤ B) : w.ownsRow B' e 1 v n xs := by
  obtain ⟨h1, h2 | ⟨g, cap, cur, hv, hb, r⟩⟩ := h
  · exact ⟨h1, .inl h2⟩
  · exact ⟨h1, .inr ⟨g, cap, cur, hv, by omega, r⟩⟩

set_option maxRecDepth 100000 in
set_option maxHeartbeats 1000000 in
theorem strenc_any (s : ByteArray) (w : World) (hs : s.size ≤ 1048576) :
    Calls Tryf.prog 18 #[.string s] w fun e w' => ∃ a c, e = .returned (.slice a (strEncZ s).length c) ∧ Reads w' a (strEncZ s) ∧ (strEncZ s).length ≤ c ∧ Below w.heap.size w w' := by
  obtain ⟨i0, hi, hz0, hz1, hz2⟩ := info_parts Tryf.info5
  have h20 := decZ_le20 s.size (by omega)
  go_enter Tryf.func18, Tryf.ntmps18
  go_wp2_with (go_at_call 12; refine (decimal_any s.size w (by omega)).mono ?_; rintro e w1 ⟨a, rfl, hr1, hnx1⟩; refine Hid.out ?_)
  refine hidP ?_
  go_wp2_with (at_builtin; refine wpList_append_grows _ rfl _ _ 22 rfl 5 i0 (.int .u8 0) 1 1 Tryf.underlying22 hi hz0 hz1 hz2 rfl (by decide) (some a) (decZ s.size).length (decZ s.size).length ((decZ s.size).map (Value.int .u8)) rfl (by simp) (by simp) ?holds ⟨w1.heap.size, 0, none⟩ 1 1 [Value.int .u8 58] rfl rfl (one_new _ _ _) (one_cell _) (by omega) (by unfold maxLen; omega) (by omega) ?_)
  case holds => exact hr1.olds ((Below.refl _ _).alloc (Nat.le_refl _) _)
  intro v2 w2 hown2 hgrow2
  have hsz1 := hnx1.size
  have hnx2 : Below w.heap.size w w2 := (hnx1.alloc hsz1 _).grown hgrow2 (by simp; omega) (by simp)
  have ho2 : w2.ownsRow w.heap.size 5 1 v2 ((decZ s.size).length + 1 + 0) ((decZ s.size ++ [58] ++ (sZ s).take 0).map (Value.int .u8)) := by
    simpa using owns_base hown2 (B' := w.heap.size) (by omega)
  clear hown2 hgrow2 hr1 hnx1 hsz1
  have HO2 := hidP ho2
  have HN2 := hidP hnx2
  clear ho2 hnx2
  go_wp2
  go_loopw [3, 4] (fun v i wr => ∃ k : Nat, k ≤ s.size ∧ i = .int .i64 k ∧ wr.ownsRow w.heap.size 5 1 v ((decZ s.size).length + 1 + k) ((decZ s.size ++ [58] ++ (sZ s).take k).map (Value.int .u8)) ∧ Below w.heap.size w wr)
    (fun _ i _ => s.size - (intOf i).toNat)
  case atStart => exact ⟨0, Nat.zero_le _, rfl, HO2.out, HN2.out⟩
  case round =>
    clear HO2 HN2
    obtain ⟨k, hk, rfl, hown, hnx⟩ := hrel
    by_cases hlt : k < s.size
    · have hsz := hnx.size
      have ht := sZ_take s k hlt
      have HT := hidP ht
      clear ht
      go_wp2_with (at_builtin; refine wpList_append_own _ rfl _ _ 22 rfl w.heap.size 5 i0 (.int .u8 0) 1 1 Tryf.underlying22 hi hz0 hz1 hz2 rfl (by decide) _ _ _ rfl (hown.alloc _) ⟨wr.heap.size, 0, none⟩ 1 1 [Value.int .u8 (s[k].toNat : Int)] rfl rfl (one_new _ _ _) (one_cell _) (by unfold maxLen; omega) (by omega) (by simp; omega) ?_)
      intro v' w1 hown' hgrow' _
      have hn' : Below w.heap.size w w1 := (hnx.alloc hsz _).grown hgrow' (by simp; omega) (fun q hq => (hown.lt q hq).1)
      have ho' : w1.ownsRow w.heap.size 5 1 v' ((decZ s.size).length + 1 + (k + 1)) ((decZ s.size ++ [58] ++ (sZ s).take (k + 1)).map (Value.int .u8)) := by
        rw [HT.out]
        simpa [Nat.add_assoc] using hown'
      have HO := hidP ho'
      have HN := hidP hn'
      clear ho' hn' hown' hgrow' hown hnx HT
      go_wp2
      go_roundw
      case rel => exact ⟨k + 1, by omega, by go_num, HO.out, HN.out⟩
      case measure => simp [intOf]; omega
    · have hkk : k = s.size := by omega
      have ho := hown
      rw [List.take_of_length_le (by rw [sZ_length]; omega), show decZ s.size ++ [58] ++ sZ s = strEncZ s from rfl] at ho
      have hl : (decZ s.size).length + 1 + k = (strEncZ s).length := by
        rw [hkk]; simp [strEncZ, sZ_length]; omega
      rw [hl] at ho
      have hr := Reads.of_owns ho
      clear hkk ho hown hl
      have HR := hidP hr
      clear hr
      go_wp2
      go_ret
      obtain ⟨a, cap, hv, _, hc, hr⟩ := HR.out
      exact ⟨a, cap, by rw [hv]; rfl, hr, hc, hnx⟩

end Go.Proofs.Qxb6615721aFmt
