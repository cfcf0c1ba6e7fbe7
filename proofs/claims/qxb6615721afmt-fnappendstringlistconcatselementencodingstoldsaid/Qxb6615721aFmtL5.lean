import Derived.Test.Qxb6615721aFmtB5
import Derived.Laws.CopyOwn
import Derived.Deep.DeepCutAuto
namespace Go.Proofs.Qxb6615721aFmt
open Go.RowKit

theorem Tryf.info9 : (Tryf.prog.info? 9).map (fun i => (i.zero, i.size, i.bytes)) = some (some (.string ⟨#[]⟩), 1, 16) := by kernel_rfl
theorem n33 (w : World) (a : Option Addr) (n c : Nat) : (binOp .neq 33 (.slice a n c) (.slice none 0 0)).run Tryf.prog w = .ok (.bool (!a.isNone)) w :=
  run_neq_slice_nil w 33 9 a n c Tryf.underlying33

/-- What the law counts: the length of dst, and sixteen and its length for each string. -/
def totZ (n : Nat) (ss : List ByteArray) : Nat := n + (ss.map fun s => 16 + s.size).sum

theorem totZ_succ (n : Nat) (ss : List ByteArray) (k : Nat) (h : k < ss.length) : totZ n (ss.take (k + 1)) = totZ n (ss.take k) + (16 + (ss.getD k ByteArray.empty).size) := by
  unfold totZ
  rw [List.take_add_one, List.getElem?_eq_getElem h, List.getD_eq_getElem?_getD, List.getElem?_eq_getElem h, List.map_append, List.sum_append]
  simp
  omega

theorem encsZ_le_tot (n : Nat) (ss : List ByteArray) (h : ∀ s ∈ ss, s.size ≤ 1048576) : (encsZ ss).length ≤ 2 * totZ n ss := by
  induction ss with
  | nil => simp [encsZ]
  | cons s r ih =>
    have h1 := ih (fun x hx => h x (by simp [hx]))
    have h2 := h s (by simp)
    have h3 := decZ_le20 s.size (by omega)
    have e1 : (encsZ (s :: r)).length = (strEncZ s).length + (encsZ r).length := by simp [encsZ]
    have e2 : (strEncZ s).length = (decZ s.size).length + 1 + s.size := by simp [strEncZ, sZ_length]; omega
    have e3 : totZ n (s :: r) = totZ n r + (16 + s.size) := by simp [totZ]; omega
    omega

/-- The block behind an owned slice that is full. -/
theorem owned_block {w : World} {B g n : Nat} {e : TypeId} {xs : List Value} (h : w.ownsRow B e 1 (.slice (some ⟨g, 0, none⟩) n n) n xs) : w.heap[g]? = some (.cells xs.toArray e (0, 0)) ∧ xs.length = n := by
  obtain ⟨hl, h1 | ⟨g', cap, cur, hv, _, hh, _, _, hs, ht⟩⟩ := h
  · simp at h1
  · simp only [Value.slice.injEq, Option.some.injEq, Addr.mk.injEq, and_true, true_and] at hv
    obtain ⟨rfl, rfl⟩ := hv
    have e : cur = xs.toArray := by
      rw [← ht, List.take_of_length_le (by simp [hs])]
    rw [e] at hh
    exact ⟨hh, by simpa using hl⟩

theorem owns_below {w w' : World} {B : Nat} {e : TypeId} {v : Value} {n : Nat} {xs : List Value} (h : w.ownsRow B e 1 v n xs) (hb : Below w.heap.size w w') : w'.ownsRow B e 1 v n xs := by
  obtain ⟨h1, h2 | ⟨g, cap, cur, hv, hB, hh, r⟩⟩ := h
  · exact ⟨h1, .inl h2⟩
  · exact ⟨h1, .inr ⟨g, cap, cur, hv, hB, by rw [hb.block g (Array.getElem?_eq_some_iff.1 hh).1]; exact hh, r⟩⟩

theorem strEncZ_bounds (s : ByteArray) (h : s.size ≤ 1048576) : 0 < (strEncZ s).length ∧ (strEncZ s).length ≤ 1048600 := by
  have h21 := decZ_le20 s.size (by omega)
  have e2 : (strEncZ s).length = (decZ s.size).length + 1 + s.size := by simp [strEncZ, sZ_length]; omega
  omega

theorem map_one (l : List Int) : ∀ u ∈ l.map (Value.int .u8), u.oneCell' = true := by
  intro u hu
  simp at hu
  obtain ⟨z, _, rfl⟩ := hu
  rfl

def strVals (ss : List ByteArray) : List Value := ss.map Value.string
theorem strVals_length (ss : List ByteArray) : (strVals ss).length = ss.length := by simp [strVals]
theorem strVals_one (ss : List ByteArray) : ∀ v ∈ strVals ss, v.oneCell' = true := by
  intro v hv
  simp [strVals] at hv
  obtain ⟨s, _, rfl⟩ := hv
  rfl

theorem ReadsS.of_block {w : World} {g : Nat} {ss : List ByteArray} (h : w.heap[g]? = some (.cells (strVals ss).toArray 9 (0, 0))) : ReadsS w (some ⟨g, 0, none⟩) ss := fun j hj => by
  refine ⟨_, rfl, ?_⟩
  rw [Addr.add_lit, Nat.zero_add, cell_of_row w g j _ 9 (0, 0) h]
  simp [strVals, hj, List.getD_eq_getElem?_getD]

set_option maxRecDepth 100000 in
set_option maxHeartbeats 2000000 in
theorem law5 (a : Option Addr) (c : Nat) (zs : List Int) (sa : Option Addr) (sc : Nat) (ss : List ByteArray) (w : World) (hT : Tab w) (ha : a = none → c = 0) (hr : Reads w a zs) (hrs : ReadsS w sa ss) (hz : zs.length ≤ 9223372036854775807) (hl : ss.length ≤ 9223372036854775807) (hS : ∀ s ∈ ss, s.size ≤ 9223372036854775807) :
    Calls Tryf.prog 5 #[.slice a zs.length c, .slice sa ss.length sc] w fun e w' => e = .returned (.bool true) ∧ Below w.heap.size w w' := by
  obtain ⟨i0, hi, hz0, hz1, hz2⟩ := info_parts Tryf.info5
  obtain ⟨j0, ji, jz0, jz1, jz2⟩ := info_parts Tryf.info9
  have q1 := n33
  have HB := hidP (bytes5_any a zs.length c sa sc ss w hrs hl hz hS)
  have HRS := hidP hrs
  clear hrs hS
  go_enter Tryf.func5, Tryf.ntmps5
  go_wp2_with fail
  refine HB.out.mono ?_
  rintro e w' ⟨⟨b, rfl, hb⟩, rfl⟩
  cases b with
  | false =>
    go_wp2_with fail
    go_ret
    exact ⟨rfl, Below.refl _ _⟩
  | true =>
  obtain ⟨hn20, hl20, hS20⟩ := hb rfl
  have HS := hidP hS20
  clear hS20 HB hb
  go_upto_if 23 with fail
  go_cut [1] (fun s1 wc => ∃ sa2 sc2, s1 = .slice sa2 ss.length sc2 ∧ ReadsS wc sa2 ss ∧ Below w'.heap.size w' wc)
  case first =>
    cases sa with
    | none =>
      go_wp2_with fail
      go_meet
      case rel => exact ⟨none, sc, rfl, HRS.out, Below.refl _ _⟩
    | some x =>
      go_wp2_with (at_make; refine wpList_make_full _ rfl _ _ 33 rfl w'.heap.size 9 j0 (.string ⟨#[]⟩) 1 Tryf.underlying33 ji jz0 jz1 .i64 .i64 _ _ ss.length rfl rfl rfl rfl (by rw [jz2]; omega) (by unfold maxLen; omega) (Nat.le_refl _) ?_)
      intro w1 hown1 hgrow1
      have hnx1 : Below w'.heap.size w' w1 := (Below.refl _ _).grown hgrow1 (Nat.le_refl _) (by simp)
      obtain ⟨hg1, hlen1⟩ := owned_block hown1
      have hsz9 : (Tryf.prog.info? 9).map (·.size) = some 1 := by rw [ji]; simp [jz1]
      have hsrc : ∀ (j : Nat) (v : Value), (strVals ss)[j]? = some v → w1.cell? (x.add j) = some v := by
        intro j v hj
        have hj' : j < ss.length := by
          rcases Nat.lt_or_ge j ss.length with h | h
          · exact h
          · rw [List.getElem?_eq_none (by rw [strVals_length]; exact h)] at hj; cases hj
        obtain ⟨y, hy, hc⟩ := (HRS.out.below hnx1) j hj'
        cases hy
        rw [hc]
        simpa [strVals, hj', List.getD_eq_getElem?_getD] using hj
      have HG1 := hidP hg1
      have HSRC := hidP hsrc
      clear hg1 hsrc hown1 hgrow1
      go_wp2_with (refine wpList_copy_splice rfl (.tmp 27) (.tmp 28) 33 33 rfl 9 Tryf.underlying33 hsz9 (some ⟨w'.heap.size, 0, none⟩) (some x) ss.length ss.length ss.length sc rfl rfl w'.heap.size 0 _ 9 HG1.out (strVals ss) (by rw [strVals_length]; simp) (fun _ => ⟨rfl, x, rfl, HSRC.out⟩) (by rw [strVals_length, hlen1]; omega) (strVals_one ss) w'.heap.size w' hnx1 (Nat.le_refl _) ?_)
      intro w2 hg2 hnx2
      have hrs2 : ReadsS w2 (some ⟨w'.heap.size, 0, none⟩) ss := by
        refine ReadsS.of_block ?_
        have h := hg2.out
        rw [show ∀ L : List Value, L.length = ss.length → splice L 0 (strVals ss) = strVals ss from fun L hL => by simp [splice, strVals_length, hL, List.drop_eq_nil_of_le]] at h
        · exact h
        · exact hlen1
      have HR2 := hidP hrs2
      have HN2 := hidP hnx2
      clear hrs2 hnx2 hg2 HG1 HSRC hnx1
      go_wp2_with fail
      go_meet
      case rel => exact ⟨_, _, rfl, HR2.out, HN2.out⟩
  case rest =>
    obtain ⟨sa2, sc2, rfl, hrs2, hnx0⟩ := hcut
    clear HRS
    have HR2 := hidP hrs2
    have HN0 := hidP hnx0
    clear hrs2 hnx0 q1
    have hT0 := hidP (hT.below HN0.out)
    have hr0 := hidP (hr.below HN0.out)
    have hsz0 := HN0.out.size
    clear hT hr
    go_wp2_with fail
    go_loop [6, 7] (fun s6 s7 => ∃ k : Nat, k ≤ ss.length ∧ s6 = .int .i64 (totZ zs.length (ss.take k)) ∧ s7 = .int .i64 k ∧ totZ zs.length (ss.take k) ≤ 1048576) (fun _ s7 => ss.length - (intOf s7).toNat)
    case atStart => exact ⟨0, Nat.zero_le _, by simp [totZ], rfl, by simp [totZ]; omega⟩
    case round =>
      obtain ⟨k, hk, rfl, rfl, htot⟩ := hrel
      by_cases hlt : k < ss.length
      · obtain ⟨b, off, rfl, hb, hx⟩ := HR2.out.plain (by omega)
        have hc := hx k hlt
        have hsk : (ss.getD k ByteArray.empty).size ≤ 1048576 := by
          rw [List.getD_eq_getElem?_getD, List.getElem?_eq_getElem hlt]
          exact HS.out _ (List.getElem_mem hlt)
        have hsucc := totZ_succ zs.length ss k hlt
        generalize ss.getD k ByteArray.empty = s at hc hsk hsucc
        have HSU := hidP hsucc
        clear hsucc hx
        generalize totZ zs.length (ss.take k) = t at *
        by_cases hg : 1048576 < t + (16 + s.size)
        · go_wp2_with fail
          go_ret
          exact ⟨rfl, HN0.out⟩
        · go_wp2_with fail
          go_round
          case rel => exact ⟨k + 1, by omega, by rw [HSU.out]; go_num, by go_num, by rw [HSU.out]; omega⟩
          case measure => simp [intOf]; omega
      · have hkk : k = ss.length := by omega
        rw [hkk, List.take_of_length_le (Nat.le_refl _)] at htot
        clear hkk
        have hE := encsZ_le_tot zs.length ss HS.out
        go_wp2_with fail
        refine (clone_any a c zs wc ha hr0.out hn20).mono ?_
        rintro e w1 ⟨a1, rfl, -, hr1, hnx1⟩
        have HT1 := hidP (hT0.out.below hnx1)
        have HS1 := hidP (HR2.out.below hnx1)
        have HR1 := hidP hr1
        have HQ1 := hidP (hr0.out.below hnx1)
        have HN1 := hidP (HN0.out.trans (hnx1.mono hsz0))
        clear hr1 hnx1 hT0 hr0 HR2 HN0 hsz0
        have hsz1 := HN1.out.size
        go_wp2_with fail
        refine (zzAppendStrings_any a1 zs sa2 sc2 ss w1 HT1.out HR1.out HS1.out (by omega) (by omega) HS.out (by omega)).mono ?_
        rintro e w2 ⟨a2, c2, rfl, hr2, hnx2⟩
        have HT2 := hidP (HT1.out.below hnx2)
        have HS2 := hidP (HS1.out.below hnx2)
        have HR2 := hidP hr2
        have HQ2 := hidP (HQ1.out.below hnx2)
        have HN2 := hidP (HN1.out.trans (hnx2.mono hsz1))
        clear hr2 hnx2 HT1 HS1 HR1 HQ1 HN1 hsz1
        have hsz2 := HN2.out.size
        go_wp2_with fail
        refine (clone_any a c zs w2 ha HQ2.out hn20).mono ?_
        rintro e w3 ⟨a3, rfl, -, hr3, hnx3⟩
        have hsz3 := hnx3.size
        go_wp2_with (at_builtin; refine wpList_append_grows _ rfl (.tmp 60) (.tmp 61) 22 rfl 5 i0 (.int .u8 0) 1 1 Tryf.underlying22 hi hz0 hz1 hz2 rfl (by decide) a3 zs.length zs.length (zs.map (Value.int .u8)) rfl ?hnone (by simp) ?holds ⟨w3.heap.size, 0, none⟩ 1 1 [Value.int .u8 108] rfl rfl (one_new _ _ _) (one_cell _) (by omega) (by unfold maxLen; omega) (by omega) ?_)
        case hnone => intro h; subst h; have := hr3.none; simp [this]
        case holds => exact hr3.olds ((Below.refl _ _).alloc (Nat.le_refl _) _)
        intro v4 w4 hown4 hgrow4
        have hnx4 : Below w2.heap.size w2 w4 := (hnx3.alloc hsz3 _).grown hgrow4 (by simp; omega) (by simp)
        have ho4 : w4.ownsRow w2.heap.size 5 1 v4 (zs.length + 1 + (encsZ (ss.take 0)).length) ((zs ++ [108] ++ encsZ (ss.take 0)).map (Value.int .u8)) := by
          simpa [encsZ] using owns_base hown4 (B' := w2.heap.size) (by omega)
        have HO4 := hidP ho4
        have HN4 := hidP hnx4
        clear hown4 hgrow4 ho4 hnx4 hr3 hnx3
        go_wp2_with fail
        go_loopw [11, 12] (fun v i wr => ∃ k : Nat, k ≤ ss.length ∧ i = .int .i64 k ∧ wr.ownsRow w2.heap.size 5 1 v (zs.length + 1 + (encsZ (ss.take k)).length) ((zs ++ [108] ++ encsZ (ss.take k)).map (Value.int .u8)) ∧ Below w2.heap.size w2 wr)
          (fun _ i _ => ss.length - (intOf i).toNat)
        case atStart => exact ⟨0, Nat.zero_le _, rfl, HO4.out, HN4.out⟩
        case round =>
          clear HO4 HN4
          obtain ⟨k, hk, rfl, hown, hnx⟩ := hrel
          have hle := encsZ_take_le ss k
          have hszr := hnx.size
          by_cases hlt : k < ss.length
          · obtain ⟨b, off, rfl, hb, hx⟩ := HS2.out.plain (by omega)
            have hc : wr.cell? ⟨b, off + k, none⟩ = some (.string (ss.getD k ByteArray.empty)) := (hnx.cell (by exact hb)).trans (hx k hlt)
            have hsk : (ss.getD k ByteArray.empty).size ≤ 1048576 := by
              rw [List.getD_eq_getElem?_getD, List.getElem?_eq_getElem hlt]
              exact HS.out _ (List.getElem_mem hlt)
            have hsucc := encsZ_succ ss k hlt
            generalize ss.getD k ByteArray.empty = s at hc hsk hsucc
            obtain ⟨hpos, hle2⟩ := strEncZ_bounds s hsk
            have HSU := hidP hsucc
            have HT' := hidP (HT2.out.below hnx)
            have HO := hidP hown
            have HX := hidP hnx
            clear hsucc hx hown hnx
            go_wp2_with fail
            refine (zzAppendString_nil s wr HT'.out hsk).mono ?_
            rintro e w5 ⟨a5, c5, rfl, hr5, hnx5⟩
            have hc5 : w5.cell? ⟨b, off + k, none⟩ = some (.string s) := (hnx5.cell (by have := World.block_lt_of_cell? wr _ hc; exact this)).trans hc
            have HR5 := hidP hr5
            have HX5 := hidP hnx5
            clear hr5 hnx5 hc
            go_wp2_with fail
            refine (strenc_any s w5 hsk).mono ?_
            rintro e w6 ⟨a6, c6, rfl, hr6, -, hnx6⟩
            have HR6 := hidP hr6
            have HR5' := hidP (HR5.out.below hnx6)
            have HX6 := hidP (HX5.out.trans (hnx6.mono HX5.out.size))
            clear hr6 hnx6 HR5 HX5
            go_wp2_with fail
            refine (equal_true a5 a6 c5 c6 (strEncZ s) w6 HR5'.out HR6.out (by omega)).mono ?_
            rintro e w7 ⟨rfl, q, rfl⟩
            obtain ⟨b5, o5, rfl, _, hc5'⟩ := HR5'.out.plain hpos
            have HO6 := hidP (owns_below HO.out (below_drewN HX6.out q))
            have hsz6 := HX6.out.size
            have hnews : ∀ (j : Nat) (u : Value), ((strEncZ s).map (Value.int .u8))[j]? = some u → (w6.drewN q).cell? ((⟨b5, o5, none⟩ : Addr).add j) = some u :=
              Reads.olds HR5'.out (below_drewN (Below.refl _ _) q) _ rfl
            have HNW := hidP hnews
            clear hnews hc5' hc5
            go_wp2_with (at_builtin; refine wpList_append_own _ rfl (.tmp 88) (.tmp 89) 22 rfl w2.heap.size 5 i0 (.int .u8 0) 1 1 Tryf.underlying22 hi hz0 hz1 hz2 rfl (by decide) _ _ _ rfl HO6.out ⟨b5, o5, none⟩ (strEncZ s).length c5 ((strEncZ s).map (Value.int .u8)) rfl (by simp) HNW.out (map_one _) (by unfold maxLen; omega) (by omega) (by simp; omega) ?_)
            intro v8 w8 ho8 hg8 _
            have hn8 : Below w2.heap.size w2 w8 := (HX.out.trans (below_drewN (HX6.out.mono hszr) q)).grown hg8 (by simp; omega) (fun z hz => (HO6.out.lt z hz).1)
            have ho : w8.ownsRow w2.heap.size 5 1 v8 (zs.length + 1 + (encsZ (ss.take (k + 1))).length) ((zs ++ [108] ++ encsZ (ss.take (k + 1))).map (Value.int .u8)) := by
              rw [HSU.out, List.length_append, ← List.append_assoc, ← Nat.add_assoc]
              simpa using ho8
            have HO8 := hidP ho
            have HN8 := hidP hn8
            clear ho hn8 ho8 hg8 HO6 HO HX HX6 HNW
            go_wp2_with fail
            go_roundw
            case rel => exact ⟨k + 1, by omega, by go_num, HO8.out, HN8.out⟩
            case measure => simp [intOf]; omega
          · have hkk : k = ss.length := by omega
            have ho := hown
            rw [hkk, List.take_of_length_le (Nat.le_refl _)] at ho
            clear hkk hown
            go_wp2_with (at_builtin; refine wpList_append_own _ rfl (.tmp 91) (.tmp 92) 22 rfl w2.heap.size 5 i0 (.int .u8 0) 1 1 Tryf.underlying22 hi hz0 hz1 hz2 rfl (by decide) _ _ _ rfl (ho.alloc _) ⟨wr.heap.size, 0, none⟩ 1 1 [Value.int .u8 101] rfl rfl (one_new _ _ _) (one_cell _) (by unfold maxLen; omega) (by omega) (by simp; omega) ?_)
            intro v9 w9 ho9 hg9 _
            have hn9 : Below w2.heap.size w2 w9 := (hnx.alloc (by omega) _).grown hg9 (by simp; omega) (fun z hz => (ho.lt z hz).1)
            have hr9 : ∃ a' c', v9 = .slice a' (listEncZ zs ss).length c' ∧ Reads w9 a' (listEncZ zs ss) := by
              have ho : w9.ownsRow w2.heap.size 5 1 v9 (zs.length + 1 + (encsZ ss).length + 1) ((listEncZ zs ss).map (Value.int .u8)) := by simpa [listEncZ] using ho9
              obtain ⟨a', c', hv, hl, _, hr'⟩ := Reads.of_owns ho
              exact ⟨a', c', by rw [hv, hl], hr'⟩
            have hlen : (listEncZ zs ss).length = zs.length + 1 + (encsZ ss).length + 1 := by simp [listEncZ]; omega
            have hlen2 : (listEncZ zs ss).length ≤ 8388608 := by omega
            clear hlen ho9 hg9 ho hnx
            obtain ⟨a9, c9, hv9, hr9⟩ := hr9
            rw [hv9]
            have HR9 := hidP hr9
            have HO9 := hidP (HR2.out.below hn9)
            have HN9 := hidP (HN2.out.trans (hn9.mono hsz2))
            clear hv9 hr9 hn9
            go_wp2_with fail
            refine (equal_true a2 a9 c2 c9 (listEncZ zs ss) w9 HO9.out HR9.out (by omega)).mono ?_
            rintro e w10 ⟨rfl, q, rfl⟩
            go_wp2_with fail
            go_ret
            exact ⟨rfl, below_drewN HN9.out q⟩

end Go.Proofs.Qxb6615721aFmt
