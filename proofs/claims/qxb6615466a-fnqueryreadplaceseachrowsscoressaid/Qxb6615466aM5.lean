import Derived.Test.Qxb6615466aM4
import Derived.Test.Qxb6615466aP1
import Derived.Deep.RegionHeld3
namespace Go.Proofs.Qxb6615466a
open Go.RowKit

/-- The place of the score of regression k of a row. -/
def regVal (val : Nat → Nat → Nat) (E R : Nat) (S : Nat → Nat) (row k : Nat) : Nat := val (k * E + row / R) (S (row % R))

theorem GridP.ne_col {B g n cols k sg M j r b : Nat} {P : Nat → Nat → Prop} {val : Nat → Nat → Nat} {f : Nat → Int} {w : World} (h : GridP B g n cols k P val w) (hc : Col sg M j f w) (hr : r < k) (hcell : w.cell? ⟨g, r, none⟩ = some (.slice (some ⟨b, 0, none⟩) cols cols)) : b ≠ sg := by
  obtain ⟨gr, xs, hx, hs, hrr, -⟩ := h
  obtain ⟨h1, -, -, ys, hy, -⟩ := hrr r hr
  obtain ⟨zs, hz, -⟩ := hc
  rw [cell_of_row w g r _ 24 (0, 0) hx, h1] at hcell
  simp only [Option.some.injEq, Value.slice.injEq, Addr.mk.injEq, and_true] at hcell
  rintro rfl
  rw [hcell, hz] at hy
  simp at hy

theorem GridP.ne_self {B g n cols k r b : Nat} {P : Nat → Nat → Prop} {val : Nat → Nat → Nat} {w : World} (h : GridP B g n cols k P val w) (hr : r < k) (hcell : w.cell? ⟨g, r, none⟩ = some (.slice (some ⟨b, 0, none⟩) cols cols)) : b ≠ g := by
  obtain ⟨gr, xs, hx, hs, hrr, -⟩ := h
  obtain ⟨h1, -, h3, -⟩ := hrr r hr
  rw [cell_of_row w g r _ 24 (0, 0) hx, h1] at hcell
  simp only [Option.some.injEq, Value.slice.injEq, Addr.mk.injEq, and_true] at hcell
  rw [← hcell]
  exact h3

theorem Col.other {sg M k b c : Nat} {f : Nat → Int} {w : World} {x : Value} (h : Col sg M k f w) (hne : b ≠ sg) : Col sg M k f (w.setCell ⟨b, c, none⟩ x) := by
  obtain ⟨xs, hx, h2⟩ := h
  exact ⟨xs, by rw [heap_setCell_other w _ sg _ (fun e => hne e.symm)]; exact hx, h2⟩

theorem reg13 {w : World} {b : Nat} {st sl : Int} {R : Int} (h : w.heap[b]? = some (regObj st R sl)) :
    w.cell? ⟨b, 7, none⟩ = some (.int .i64 st) ∧ w.cell? ⟨b, 8, none⟩ = some (.int .i64 0) ∧ w.cell? ⟨b, 9, none⟩ = some (.int .i64 R) ∧ w.cell? ⟨b, 10, none⟩ = some (.int .i64 sl) ∧ w.cell? ⟨b, 11, none⟩ = some (.pointer none) := by
  refine ⟨?_, ?_, ?_, ?_, ?_⟩ <;> rw [cell_of_row w b _ _ 54 (0, 0) h] <;> rfl

set_option maxRecDepth 100000 in
set_option maxHeartbeats 4000000 in
theorem read_reg (qb : Nat) (st sl : Int) (R K n : Nat) (S : Nat → Nat) (a : Option Addr) (m c : Nat) (ra : Nat → Option Addr) (ln cp : Nat → Nat) (val : Nat → Nat → Nat) (w : World) (hM : Mat w a m ra ln cp val) (hq : w.heap[qb]? = some (regObj st R sl))
    (hn : n ≤ 65536) (hK : K ≤ 65536) (hR : 0 < R) (hR1 : R ≤ 1073741824) (hm : m = K * ((n + R - 1) / R)) (hm1 : m ≤ 131072)
    (hS : ∀ row, row < n → ((row % R : Nat) : Int) * st = (S (row % R) : Int) ∧ S (row % R) ≤ 131072) (hrow : ∀ row, row < n → ∀ k, k < K → S (row % R) < ln (k * ((n + R - 1) / R) + row / R)) (hln : ∀ i, i < m → ln i ≤ 131072) :
    Calls Try.prog 23 #[.pointer (some ⟨qb, 0, none⟩), .slice a m c, .int .i64 n, .int .i64 K] w fun e w' =>
      ∃ g, e = .returned (.slice (some ⟨g, 0, none⟩) n n) ∧ w.heap.size ≤ g ∧ GridP w.heap.size g n K n (fun _ _ => True) (regVal val ((n + R - 1) / R) R S) w' ∧ Below w.heap.size w w' := by
  obtain ⟨i0, ii, iz0, iz1, iz2⟩ := info_parts Try.info22
  obtain ⟨j0, ji, jz0, jz1, jz2⟩ := info_parts Try.info24
  obtain ⟨E, hE⟩ : ∃ E, E = (n + R - 1) / R := ⟨_, rfl⟩
  have HE := hidP hE
  rw [← hE] at hm hrow ⊢
  clear hE
  have HM := hidP hM
  have HS := hidP hS
  have HR := hidP hrow
  have HL := hidP hln
  have Hm := hidP hm
  have HQ := hidP hq
  obtain ⟨d7, d8, d9, d10, d11⟩ := reg13 hq
  have hqlt : qb < w.heap.size := (Array.getElem?_eq_some_iff.1 hq).1
  clear hM hS hrow hln hm hq
  go_enter Try.func23, Try.ntmps23
  go_wp2_with (at_make; refine wpList_make_full _ rfl _ _ 31 rfl w.heap.size 24 j0 (.slice none 0 0) 1 Try.underlying31 ji jz0 jz1 .i64 .i64 _ _ n rfl rfl rfl rfl (by rw [jz2]; omega) (by unfold maxLen; omega) (by simp) ?_)
  intro w1 hown1 hgrow1
  have hnx1 : Below w.heap.size w w1 := (Below.refl _ _).grown hgrow1 (Nat.le_refl _) (by simp)
  obtain ⟨hg1, hlen1⟩ := owned_block hown1
  have HC1 := hidP (GridP.start (B := w.heap.size) (cols := K) (P := fun _ _ => False) (val := regVal val E R S) (show Blk 24 w.heap.size n w1 from ⟨_, hg1, by simpa using hlen1⟩))
  have HB1 := hidP hnx1
  clear hg1 hown1 hgrow1 hnx1 hlen1 d7 d8 d9 d10 d11
  go_wp2_with fail
  go_loopg [35] n (fun gk s35 wr => ∃ r : Nat, r ≤ n ∧ gk = n - r ∧ s35 = .int .i64 r ∧ GridP w.heap.size w.heap.size n K r (fun _ _ => False) (regVal val E R S) wr ∧ Below w.heap.size w wr)
  case atStart => exact ⟨0, Nat.zero_le _, rfl, rfl, HC1.out, HB1.out⟩
  case round =>
    clear HC1 HB1
    obtain ⟨r, hr, hgk, rfl, hG, hb⟩ := hrel
    have HG := hidP hG
    have HB := hidP hb
    have HGK := hidP hgk
    clear hG hb hgk
    by_cases hlt : r < n
    · go_wp2_with (at_make; refine wpList_make_full _ rfl _ _ 24 rfl wr.heap.size 22 i0 (.float .f64 0) 1 Try.underlying24 ii iz0 iz1 .i64 .i64 _ _ K rfl rfl rfl rfl (by rw [iz2]; omega) (by unfold maxLen; omega) (by simp) ?_)
      intro w3 hown3 hgrow3
      have hnx3 : Below wr.heap.size wr w3 := (Below.refl _ _).grown hgrow3 (Nat.le_refl _) (by simp)
      obtain ⟨hg3, hlen3⟩ := owned_block hown3
      have HG3 := hidP (HG.out.push hlt hnx3 (show Blk 22 wr.heap.size K w3 from ⟨_, hg3, by simpa using hlen3⟩) (Nat.le_refl _) HB.out.size (fun c h => h))
      have HB3 := hidP ((bnext HB.out hnx3).setCell (p := ⟨w.heap.size, r, none⟩) (Nat.le_refl _) (.slice (some ⟨wr.heap.size, 0, none⟩) K K))
      obtain ⟨⟨v3, e3⟩, f3⟩ := (HG.out.below hnx3).slot hlt
      have l3 := (HG.out.below hnx3).lt
      clear hown3 hgrow3 hg3 hlen3 hnx3 HG HB
      go_wp2_with fail
      go_roundg (n - (r + 1))
      case measure => rw [HGK.out]; omega
      case rel => exact ⟨r + 1, by omega, rfl, by go_num, HG3.out, HB3.out⟩
    · have hrn : n = r := by omega
      subst hrn
      obtain ⟨d7, d8, d9, d10, d11⟩ := reg13 (show wr.heap[qb]? = some (regObj st R sl) by rw [HB.out.block _ hqlt]; exact HQ.out)
      have hqr : qb < wr.heap.size := Nat.lt_of_lt_of_le hqlt HB.out.size
      go_wp2_with fail
      refine (ciph_any st 0 R sl n wr hR hR1 hn).mono ?_
      rintro e w4 ⟨rfl, hb4⟩
      rw [← HE.out]
      have HG4 := hidP (HG.out.below hb4)
      have HB4 := hidP (bnext HB.out hb4)
      clear hb4 HG HB d7 d8 d9 d10 d11
      have hE16 : E ≤ 65536 := by
        rw [HE.out]
        exact Nat.le_trans (ceil_le hR) hn
      go_wp2_with fail
      go_loopg [52] m (fun g2 s52 wr => ∃ i : Nat, i ≤ m ∧ g2 = m - i ∧ s52 = .int .i64 i ∧ GridP w.heap.size w.heap.size n K n (fun row k => k * E + row / R < i) (regVal val E R S) wr ∧ Below w.heap.size w wr)
      case atStart => exact ⟨0, Nat.zero_le _, rfl, rfl, HG4.out.to (fun _ _ _ _ h => absurd h (Nat.not_lt_zero _)), HB4.out⟩
      case round =>
        clear HG4 HB4 HGK hqr
        obtain ⟨i, hi, hgk, rfl, hG, hb⟩ := hrel
        have HG := hidP hG
        have HB := hidP hb
        have HGK := hidP hgk
        clear hG hb hgk
        by_cases hilt : i < m
        · have hE0 : 0 < E := by
            rcases Nat.eq_zero_or_pos E with h | h
            · have := Hm.out
              rw [h, Nat.mul_zero] at this
              omega
            · exact h
          have hfn : i % E * R < n := by rw [HE.out] at hE0 ⊢; exact ceil_first hR hE0
          have hkK : i / E < K := by rw [Nat.div_lt_iff_lt_mul hE0, ← Hm.out]; exact hilt
          have hqi := div_cast i E
          have hji := rem_cast i E
          have hkk : i / E * E + i % E = i := by have := Nat.div_add_mod i E; rw [Nat.mul_comm] at this; omega
          have HKK := hidP hkk
          clear hkk
          obtain ⟨kk, hk1⟩ : ∃ kk, kk = i / E := ⟨_, rfl⟩
          obtain ⟨ie, hie⟩ : ∃ ie, ie = i % E := ⟨_, rfl⟩
          obtain ⟨fi, hfi⟩ : ∃ fi, fi = ie * R := ⟨_, rfl⟩
          have hieE : ie < E := by rw [hie]; exact Nat.mod_lt i hE0
          have hti : (ie : Int) * (R : Int) = (fi : Int) := by rw [hfi]; exact (Int.natCast_mul ie R).symm
          rw [← hie] at hfn hji
          rw [← hk1] at hkK hqi
          rw [← hfi] at hfn
          have HI := hidP (And.intro hk1 (And.intro hie hfi))
          clear hk1 hie hfi
          obtain ⟨M, hMd⟩ : ∃ M, M = min (n - fi) R := ⟨_, rfl⟩
          have hM0 : M ≤ 65536 ∧ M ≤ n - fi ∧ M ≤ R := by omega
          obtain ⟨b, off, rfl, hbl, hx⟩ := (HM.out.below HB.out).outer (Nat.lt_of_le_of_lt (Nat.zero_le _) hilt)
          have hxq := hx i hilt
          have hL := HL.out i hilt
          obtain ⟨A, hA⟩ : ∃ A, A = ra i := ⟨_, rfl⟩
          obtain ⟨L, hLL⟩ : ∃ L, L = ln i := ⟨_, rfl⟩
          obtain ⟨C, hC⟩ : ∃ C, C = cp i := ⟨_, rfl⟩
          rw [← hA, ← hLL, ← hC] at hxq
          rw [← hLL] at hL
          have HAL := hidP (And.intro hA hLL)
          have HMd := hidP hMd
          clear hx hA hLL hC hMd
          obtain ⟨d7, d8, d9, d10, d11⟩ := reg13 (show wr.heap[qb]? = some (regObj st R sl) by rw [HB.out.block _ hqlt]; exact HQ.out)
          have hqr : qb < wr.heap.size := Nat.lt_of_lt_of_le hqlt HB.out.size
          have hw1 : IntKind.i64.wrap ((ie : Int) * (R : Int)) = (fi : Int) := by rw [hti]; exact IntWalk.i64_in _ ⟨by omega, by omega⟩
          have hw2 : IntKind.i64.wrap (fi : Int) = (fi : Int) := IntWalk.i64_in _ ⟨by omega, by omega⟩
          go_wp2_with fail
          go_quiet (fail)
          go_upto_region 14 with fail
          have hfR : ∀ r, r < M → (fi + r) / R = ie ∧ (fi + r) % R = r := by
            intro r hr
            have h := at_row (E := E) (i := i) (r := r) (R := R) (by omega)
            rw [← HI.out.2.1, ← HI.out.2.2] at h
            exact h
          have HFR := hidP hfR
          have HST := hidP (fun wx => starts_any st 0 R sl M (fun r => (S r : Int)) wx (by omega) (by
            intro r hr
            have h := HS.out (fi + r) (by omega)
            rw [(hfR r hr).2] at h
            rw [h.1]
            exact IntWalk.i64_in _ ⟨by omega, by omega⟩))
          clear hfR
          have HMIN := hidP (show (if (R : Int) < IntKind.i64.wrap ((n : Int) - (fi : Int)) then (R : Int) else IntKind.i64.wrap ((n : Int) - (fi : Int))) = (M : Int) by
            have hMd := HMd.out
            rw [IntWalk.i64_in _ ⟨by omega, by omega⟩]
            split <;> omega)
          go_cut [79, 80, 81] (fun s79 s80 s81 wc => ∃ sg, s79 = .slice (some ⟨sg, 0, none⟩) M M ∧ s80 = .int .i64 M ∧ s81 = .int .i64 0 ∧ w.heap.size ≤ sg ∧ Col sg M M (fun r => (S r : Int)) wc ∧ Below wr.heap.size wr wc)
          case first =>
            clear HM HS HR HL HE Hm HG HKK HI HAL HFR
            go_region_held3 (fun w' => w'.cell? ⟨qb, 7, none⟩ = some (.int .i64 st) ∧ w'.cell? ⟨qb, 8, none⟩ = some (.int .i64 0) ∧ w'.cell? ⟨qb, 9, none⟩ = some (.int .i64 R) ∧ w'.cell? ⟨qb, 10, none⟩ = some (.int .i64 sl)) (go_keep)
              (first | (go_at_call 27; rw [HMIN.out]; refine (HST.out _).mono ?_; rintro e w5 ⟨sg, rfl, hsg, hcol, hb5⟩; have k7 := (hb5.cell (p := ⟨qb, 7, none⟩) hqr).trans d7; have k8 := (hb5.cell (p := ⟨qb, 8, none⟩) hqr).trans d8; have k9 := (hb5.cell (p := ⟨qb, 9, none⟩) hqr).trans d9; have k10 := (hb5.cell (p := ⟨qb, 10, none⟩) hqr).trans d10))
            have HX := hidP ((below_drewN (Below.refl _ wr) (nq + 1)).trans hb5)
            have HC := hidP hcol
            have HSG := hidP (Nat.le_trans HB.out.size hsg)
            clear hb5 hcol hsg k7 k8 k9 k10
            go_wp2_with fail
            go_meet
            case rel => exact ⟨sg, rfl, rfl, rfl, HSG.out, HC.out, HX.out⟩
          case rest =>
            obtain ⟨sg, rfl, rfl, rfl, hsg, hcol, hbc⟩ := hcut
            have HG2 := hidP (HG.out.below hbc)
            have HB2 := hidP (bnext HB.out hbc)
            have HC2 := hidP hcol
            clear hcol hbc HG HB d7 d8 d9 d10 d11 hqr hxq hbl HMIN HST
            go_wp2_with fail
            go_loopg [81] M (fun g3 s81 wr => ∃ r : Nat, r ≤ M ∧ g3 = M - r ∧ s81 = .int .i64 r ∧ GridP w.heap.size w.heap.size n K n (fun row k => k * E + row / R < i ∨ (k * E + row / R = i ∧ row % R < r)) (regVal val E R S) wr ∧ Col sg M M (fun r => (S r : Int)) wr ∧ Below w.heap.size w wr)
            case atStart => exact ⟨0, Nat.zero_le _, rfl, rfl, HG2.out.to (fun row k _ _ h => by rcases h with h | h <;> omega), HC2.out, HB2.out⟩
            case round =>
              clear HG2 HB2 HC2
              obtain ⟨r, hr, hgk, rfl, hG, hC, hb⟩ := hrel
              have HG := hidP hG
              have HB := hidP hb
              have HC := hidP hC
              have HG3 := hidP hgk
              clear hG hb hgk hC
              by_cases hrlt : r < M
              · obtain ⟨v, hv⟩ : ∃ v, v = fi + r := ⟨_, rfl⟩
                obtain ⟨u, hu⟩ : ∃ u, u = S r := ⟨_, rfl⟩
                obtain ⟨hf1, hf2⟩ := HFR.out r hrlt
                rw [← hv] at hf1 hf2
                have hvn : v < n := by omega
                have hvi : (fi : Int) + (r : Int) = (v : Int) := by omega
                have hkk : kk * E + ie = i := by rw [HI.out.1, HI.out.2.1]; exact HKK.out
                have hSL : u < L := by
                  have h := HR.out v hvn kk hkK
                  rw [hf1, hf2, hkk, ← HAL.out.2, ← hu] at h
                  exact h
                have hU : regVal val E R S v kk = val i u := by rw [regVal, hf1, hf2, hkk, hu]
                have hst := HC.out.cell hrlt
                simp only [← hu] at hst
                obtain ⟨b2, o2, hra, hbl2, hy⟩ := HM.out.inner hilt (by rw [← HAL.out.2]; omega)
                rw [← HAL.out.1] at hra
                have hyu := (HB.out.cell (p := ⟨b2, o2 + u, none⟩) hbl2).trans (hy u (by rw [← HAL.out.2]; exact hSL))
                have hbl3 : b2 < wr.heap.size := Nat.lt_of_lt_of_le hbl2 HB.out.size
                have HU := hidP hU
                generalize val i u = f at hyu HU
                subst hra
                obtain ⟨gb, g1, g2, g3, g4, g5, g6, g7⟩ := HG.out.row hvn
                obtain ⟨v4, g8⟩ := g4 kk hkK
                have g9 := g6 kk
                have hne := HG.out.ne_col HC.out hvn g1
                have lg := HG.out.lt
                have lsg := HC.out.lt
                have HNE := hidP hne
                have q1 := HG.out.ne_self hvn g1
                have q2 : w.heap.size ≠ gb := fun e => q1 e.symm
                have q3 : b2 ≠ gb := by omega
                have q4 : gb ≠ b2 := by omega
                have q5 : E ≠ 0 := by omega
                have q6 : ((E : Int) == 0) = false := by rw [beq_eq_false_iff_ne]; omega
                have q7 : decide ((E : Int) = 0) = false := decide_eq_false (by omega)
                have HBg := hidP g2
                have HF := hidP (And.intro hf1 (And.intro hf2 hkk))
                have HVV := hidP hv
                have hE0' : (E : Int) ≠ 0 := by omega
                have hw3 : IntKind.i64.wrap ((i : Int).tdiv (E : Int)) = (kk : Int) := by rw [Int.tdiv_eq_ediv_of_nonneg (by omega), hqi]; exact IntWalk.i64_in _ ⟨by omega, by omega⟩
                have hw4 : IntKind.i64.wrap ((fi : Int) + (r : Int)) = (v : Int) := by rw [hvi]; exact IntWalk.i64_in _ ⟨by omega, by omega⟩
                have hw5 : IntKind.i64.wrap (v : Int) = (v : Int) := IntWalk.i64_in _ ⟨by omega, by omega⟩
                have hw6 : IntKind.i64.wrap (kk : Int) = (kk : Int) := IntWalk.i64_in _ ⟨by omega, by omega⟩
                have hb1 : (u : Int) < (L : Int) := by omega
                have hb2 : (v : Int) < (n : Int) := by omega
                have hb3 : (kk : Int) < (K : Int) := by omega
                clear g2 g4 g5 g6 g7 hu hy hv hf1 hf2 hkk hU hne
                go_wp2_with fail
                go_region_held3 (fun w' => w'.cell? ⟨w.heap.size, v, none⟩ = some (.slice (some ⟨gb, 0, none⟩) K K) ∧ w'.cell? ⟨b2, o2 + u, none⟩ = some (.float .f64 f)) (go_keep) (fail)
                have HG5 := hidP (HG.out.putAt hvn hkK g1 HU.out.symm (fun row k => k * E + row / R < i ∨ (k * E + row / R = i ∧ row % R < r + 1)) (fun row k hrow _ h => by
                  have hs := stepP (by rw [HE.out]; exact ceil_lt hR hrow) h
                  rw [← HI.out.2.1, ← HI.out.2.2, ← HI.out.1, ← HVV.out] at hs
                  exact hs))
                have HC5 := hidP (HC.out.other (c := kk) (x := .float .f64 f) HNE.out)
                have HB5 := hidP (HB.out.setCell (p := ⟨gb, kk, none⟩) HBg.out (.float .f64 f))
                clear g1 g8 g9 hyu hst
                go_wp2_with fail
                go_roundg (M - (r + 1))
                case measure => rw [HG3.out]; omega
                case rel => exact ⟨r + 1, by omega, rfl, by go_num, HG5.out, HC5.out, HB5.out.drew⟩
              · have hrM : M = r := by omega
                subst hrM
                have HGD := hidP (HG.out.to (P' := fun row k => k * E + row / R < i + 1) (fun row k hrow _ h => doneP hR (by rw [← HI.out.2.1, ← HI.out.2.2]; exact HMd.out) hrow (by rw [HE.out]; exact ceil_lt hR hrow) h))
                go_wp2_with fail
                go_roundg (m - (i + 1))
                case measure => rw [HGK.out]; omega
                case rel => exact ⟨i + 1, by omega, rfl, by go_num, HGD.out, HB.out⟩
        · have him : i = m := by omega
          have HGD := hidP (HG.out.to (P' := fun _ _ => True) (fun row k hrow hk _ => by
            show k * E + row / R < i
            have h1 : row / R < E := by rw [HE.out]; exact ceil_lt hR hrow
            have h2 : (k + 1) * E ≤ K * E := Nat.mul_le_mul_right E hk
            rw [him, Hm.out]
            rw [Nat.add_mul] at h2
            omega))
          clear him
          go_wp2_with fail
          go_ret
          exact ⟨_, rfl, Nat.le_refl _, HGD.out, HB.out⟩

end Go.Proofs.Qxb6615466a
