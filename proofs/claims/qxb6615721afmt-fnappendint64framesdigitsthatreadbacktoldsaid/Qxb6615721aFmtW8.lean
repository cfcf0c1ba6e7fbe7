import Derived.Test.Qxb6615721aFmtW7
namespace Go.Proofs.Qxb6615721aFmt
open Go.RowKit

/-- The encodings of a list of strings, one behind the other. -/
def encsZ (ss : List ByteArray) : List Int := (ss.map strEncZ).flatten

theorem encsZ_take_le (ss : List ByteArray) (k : Nat) : (encsZ (ss.take k)).length ≤ (encsZ ss).length := by
  have h : encsZ ss = encsZ (ss.take k) ++ encsZ (ss.drop k) := by
    rw [encsZ, encsZ, encsZ, ← List.flatten_append, ← List.map_append, List.take_append_drop]
  rw [h, List.length_append]
  omega

theorem encsZ_succ (ss : List ByteArray) (k : Nat) (h : k < ss.length) : encsZ (ss.take (k + 1)) = encsZ (ss.take k) ++ strEncZ (ss.getD k ByteArray.empty) := by
  rw [encsZ, List.take_add_one, List.getElem?_eq_getElem h, List.getD_eq_getElem?_getD, List.getElem?_eq_getElem h, List.map_append, List.flatten_append]
  show _ ++ [strEncZ ss[k]].flatten = _ ++ strEncZ ss[k]
  rw [List.flatten_singleton]
  rfl

/-- WHAT A SLICE OF STRINGS READS AS. -/
def ReadsS (w : World) (a : Option Addr) (ss : List ByteArray) : Prop := ∀ j, j < ss.length → ∃ x, a = some x ∧ w.cell? (x.add j) = some (.string (ss.getD j ByteArray.empty))

theorem ReadsS.plain {w : World} {a : Option Addr} {ss : List ByteArray} (h : ReadsS w a ss) (h0 : 0 < ss.length) :
    ∃ b off, a = some ⟨b, off, none⟩ ∧ b < w.heap.size ∧ ∀ j, j < ss.length → w.cell? ⟨b, off + j, none⟩ = some (.string (ss.getD j ByteArray.empty)) := by
  obtain ⟨x, rfl, _⟩ := h 0 h0
  obtain ⟨b, off, rfl, hb, hc⟩ := plain_addr (f := fun j => .string (ss.getD j ByteArray.empty)) h0 (fun j hj => by obtain ⟨y, hy, hc⟩ := h j hj; cases hy; exact hc)
  exact ⟨b, off, rfl, hb, hc⟩

theorem ReadsS.below {w w' : World} {a : Option Addr} {ss : List ByteArray} (h : ReadsS w a ss) (hb : Below w.heap.size w w') : ReadsS w' a ss := fun j hj => by
  obtain ⟨x, hx, hc⟩ := h j hj
  exact ⟨x, hx, (hb.cell (World.block_lt_of_cell? w _ hc)).trans hc⟩

/-- What appending a list of strings gives. -/
def listEncZ (zs : List Int) (ss : List ByteArray) : List Int := zs ++ [108] ++ encsZ ss ++ [101]

set_option maxRecDepth 100000 in
set_option maxHeartbeats 1000000 in
theorem av_strings (a : Option Addr) (zs : List Int) (sa : Option Addr) (c : Nat) (ss : List ByteArray) (w : World) (hT : Tab w) (hr : Reads w a zs) (hrs : ReadsS w sa ss) (hn : zs.length ≤ 4194304) (hE : (encsZ ss).length ≤ 4194304) (hS : ∀ s ∈ ss, s.size ≤ 1048576) (hl : ss.length ≤ 1048576) :
    Calls Tryf.prog 25 #[.slice a zs.length zs.length, .iface 33 (.slice sa ss.length c)] w fun e w' => ∃ a' c', e = .returned (.tuple #[.slice a' (listEncZ zs ss).length c', .nilIface]) ∧ Reads w' a' (listEncZ zs ss) ∧ Below w.heap.size w w' := by
  have t0 := as33_3
  have t1 := as33_2
  have t2 := as33_9
  have t3 := as33_22
  have t4 := as33_47
  have t5 := as33_33
  obtain ⟨i0, hi, hz0, hz1, hz2⟩ := info_parts Tryf.info5
  have HSz := hidP hS
  have HRS := hidP hrs
  clear hS hrs
  go_enter Tryf.func25, Tryf.ntmps25
  go_wp2_with (at_builtin; refine wpList_append_grows _ rfl (.tmp 64) (.tmp 65) 22 rfl 5 i0 (.int .u8 0) 1 1 Tryf.underlying22 hi hz0 hz1 hz2 rfl (by decide) a zs.length zs.length (zs.map (Value.int .u8)) rfl ?hnone (by simp) ?holds ⟨w.heap.size, 0, none⟩ 1 1 [Value.int .u8 108] rfl rfl (one_new _ _ _) (one_cell _) (by omega) (by unfold maxLen; omega) (by omega) ?_)
  case hnone => intro h; subst h; have := hr.none; simp [this]
  case holds => exact hr.olds ((Below.refl _ _).alloc (Nat.le_refl _) _)
  intro v2 w2 hown2 hgrow2
  have hnx2 : Below w.heap.size w w2 := ((Below.refl _ w).alloc (Nat.le_refl _) _).grown hgrow2 (by simp) (by simp)
  have ho2 : w2.ownsRow w.heap.size 5 1 v2 (zs.length + 1 + (encsZ (ss.take 0)).length) ((zs ++ [108] ++ encsZ (ss.take 0)).map (Value.int .u8)) := by
    simpa [encsZ] using owns_base hown2 (B' := w.heap.size) (by omega)
  have HO2 := hidP ho2
  have HN2 := hidP hnx2
  clear hown2 hgrow2 ho2 hnx2 t0 t1 t2 t3 t4 t5
  go_wp2_with fail
  go_loopw [0, 69] (fun v i wr => ∃ k : Nat, k ≤ ss.length ∧ i = .int .i64 k ∧ wr.ownsRow w.heap.size 5 1 v (zs.length + 1 + (encsZ (ss.take k)).length) ((zs ++ [108] ++ encsZ (ss.take k)).map (Value.int .u8)) ∧ Below w.heap.size w wr)
    (fun _ i _ => ss.length - (intOf i).toNat)
  case atStart => exact ⟨0, Nat.zero_le _, rfl, HO2.out, HN2.out⟩
  case round =>
    clear HO2 HN2
    obtain ⟨k, hk, rfl, hown, hnx⟩ := hrel
    have hle := encsZ_take_le ss k
    by_cases hlt : k < ss.length
    · obtain ⟨b, off, rfl, hb, hx⟩ := HRS.out.plain (by omega)
      have hc : wr.cell? ⟨b, off + k, none⟩ = some (.string (ss.getD k ByteArray.empty)) := (hnx.cell (by exact hb)).trans (hx k hlt)
      have hsk : (ss.getD k ByteArray.empty).size ≤ 1048576 := by
        rw [List.getD_eq_getElem?_getD, List.getElem?_eq_getElem hlt]
        exact HSz.out _ (List.getElem_mem hlt)
      have hsucc := encsZ_succ ss k hlt
      have hT' := hT.at (Nat.le_refl _) hnx
      have hsz := hnx.size
      generalize ss.getD k ByteArray.empty = s at hc hsk hsucc
      have HSU := hidP hsucc
      have HT' := hidP hT'
      clear hsucc hT' hx
      go_wp2_with (go_at_call 27; refine (appendString_own w.heap.size _ _ _ s wr hown hsz (by omega) hsk HT'.out).mono ?_; rintro e w3 ⟨v3, rfl, ho3, hnx3⟩)
      have ho : w3.ownsRow w.heap.size 5 1 v3 (zs.length + 1 + (encsZ (ss.take (k + 1))).length) ((zs ++ [108] ++ encsZ (ss.take (k + 1))).map (Value.int .u8)) := by
        rw [HSU.out, List.length_append, ← List.append_assoc, ← Nat.add_assoc]
        exact ho3
      have hn' := hnx.trans hnx3
      go_roundw
      case rel => exact ⟨k + 1, by omega, by go_num, ho, hn'⟩
      case measure => simp [intOf]; omega
    · have hkk : k = ss.length := by omega
      have hsz := hnx.size
      have ho := hown
      rw [hkk, List.take_of_length_le (Nat.le_refl _)] at ho
      clear hkk hown
      go_wp2_with (at_builtin; refine wpList_append_own _ rfl (.tmp 77) (.tmp 78) 22 rfl w.heap.size 5 i0 (.int .u8 0) 1 1 Tryf.underlying22 hi hz0 hz1 hz2 rfl (by decide) _ _ _ rfl (ho.alloc _) ⟨wr.heap.size, 0, none⟩ 1 1 [Value.int .u8 101] rfl rfl (one_new _ _ _) (one_cell _) (by unfold maxLen; omega) (by omega) (by simp; omega) ?_)
      intro v4 w4 ho4 hg4 _
      have hnx4 : Below w.heap.size w w4 := (hnx.alloc (by omega) _).grown hg4 (by simp; omega) (fun q hq => (ho.lt q hq).1)
      have hr4 : ∃ a' c', v4 = .slice a' (listEncZ zs ss).length c' ∧ Reads w4 a' (listEncZ zs ss) := by
        have ho : w4.ownsRow w.heap.size 5 1 v4 (zs.length + 1 + (encsZ ss).length + 1) ((listEncZ zs ss).map (Value.int .u8)) := by simpa [listEncZ] using ho4
        obtain ⟨a', c', hv, hl, _, hr'⟩ := Reads.of_owns ho
        exact ⟨a', c', by rw [hv, hl], hr'⟩
      have HR := hidP hr4
      have HN := hidP hnx4
      clear hr4 hnx4 ho4 hg4 ho hnx
      go_wp2_with fail
      go_ret2
      obtain ⟨a', c', hv, hr'⟩ := HR.out
      exact ⟨a', c', by rw [hv]; rfl, hr', HN.out⟩

end Go.Proofs.Qxb6615721aFmt
