import Derived.Test.Qxb6615466aM3
import Derived.Deep.LoopGhost
import Derived.Deep.CutBlock
namespace Go.Proofs.Qxb6615466a
open Go.RowKit

@[go_sem] theorem run_store_float (P : Program) (w : World) (a : Addr) (k : FloatKind) (n : Nat) (m : Mode) : (store a (.float k n) m).run P w = stored P w a (.float k n) m := run_store P w a _ m rfl

theorem GridP.low {B B' g n cols k : Nat} {P : Nat → Nat → Prop} {val : Nat → Nat → Nat} {w : World} (h : GridP B g n cols k P val w) (hB : B' ≤ B) : GridP B' g n cols k P val w := by
  obtain ⟨gr, xs, hx, hs, hr, hi⟩ := h
  refine ⟨gr, xs, hx, hs, fun r hk => ?_, hi⟩
  obtain ⟨h1, h2, h3⟩ := hr r hk
  exact ⟨h1, Nat.le_trans hB h2, h3⟩

theorem GridP.putAt {B g n cols k : Nat} {P : Nat → Nat → Prop} {val : Nat → Nat → Nat} {w : World} (h : GridP B g n cols k P val w) {r c b f : Nat} (hr : r < k) (hc : c < cols) (hcell : w.cell? ⟨g, r, none⟩ = some (.slice (some ⟨b, 0, none⟩) cols cols)) (hf : f = val r c)
    (P' : Nat → Nat → Prop) (hP : ∀ r' c', r' < k → c' < cols → P' r' c' → P r' c' ∨ (r' = r ∧ c' = c)) : GridP B g n cols k P' val (w.setCell ⟨b, c, none⟩ (.float .f64 f)) := by
  obtain ⟨b', h1, -, -, -, -, -, h7⟩ := h.row hr
  rw [hcell] at h1
  simp only [Option.some.injEq, Value.slice.injEq, Addr.mk.injEq, and_true] at h1
  rw [h1, hf]
  exact h7 c hc P' hP

theorem step_in (r c r' c' : Nat) (h : r' < r ∨ (r' = r ∧ c' < c + 1)) : (r' < r ∨ (r' = r ∧ c' < c)) ∨ (r' = r ∧ c' = c) := by omega

theorem div_cast (k p : Nat) : (k : Int) / (p : Int) = ((k / p : Nat) : Int) := (Int.natCast_ediv k p).symm
theorem rem_cast (k p : Nat) : (k : Int) % (p : Int) = ((k % p : Nat) : Int) := (Int.natCast_emod k p).symm

theorem box9 {w : World} {b : Nat} {v0 v1 v2 v3 v4 v5 v6 v7 v8 : Value} (h : w.heap[b]? = some (.cells #[v0, v1, v2, v3, v4, v5, v6, v7, v8] 58 (0, 0))) :
    w.cell? ⟨b, 0, none⟩ = some v0 ∧ w.cell? ⟨b, 1, none⟩ = some v1 ∧ w.cell? ⟨b, 2, none⟩ = some v2 ∧ w.cell? ⟨b, 3, none⟩ = some v3 ∧ w.cell? ⟨b, 4, none⟩ = some v4 ∧ w.cell? ⟨b, 5, none⟩ = some v5 ∧ w.cell? ⟨b, 6, none⟩ = some v6 ∧ w.cell? ⟨b, 7, none⟩ = some v7 ∧ w.cell? ⟨b, 8, none⟩ = some v8 := by
  refine ⟨?_, ?_, ?_, ?_, ?_, ?_, ?_, ?_, ?_⟩ <;> rw [cell_of_row w b _ _ 58 (0, 0) h] <;> rfl

/-- The place of output c of row r of a network. -/
def netVal (val : Nat → Nat → Nat) (p s : Nat) (r c : Nat) : Nat := val (r / p) (r % p * s + c)

set_option maxRecDepth 100000 in
set_option maxHeartbeats 4000000 in
theorem net_scores (wd bl hd of gr ba ns : Int) (s o p n : Nat) (a : Option Addr) (m c : Nat) (ra : Nat → Option Addr) (ln cp : Nat → Nat) (val : Nat → Nat → Nat) (w : World) (hM : Mat w a m ra ln cp val) (hn : n ≤ 65536) (ho : o ≤ 65536)
    (hs : 0 < n → 0 < s ∧ 0 < p ∧ p ≤ 9223372036854775807 ∧ ns.tdiv s = (p : Int)) (hrow : ∀ r, r < n → r / p < m ∧ (r % p) * s ≤ 131072 ∧ (0 < o → r % p * s + o ≤ ln (r / p))) (hln : ∀ i, i < m → ln i ≤ 131072) (hm : m ≤ 131072) :
    Calls Try.prog 25 #[.agg #[.int .i64 wd, .int .i64 bl, .int .i64 s, .int .i64 hd, .int .i64 o, .int .i64 of, .int .i64 gr, .int .i64 ba, .int .i64 ns], .slice a m c, .int .i64 n] w fun e w' =>
      ∃ g, e = .returned (.slice (some ⟨g, 0, none⟩) n n) ∧ w.heap.size ≤ g ∧ GridP w.heap.size g n o n (fun _ _ => True) (netVal val p s) w' ∧ Below w.heap.size w w' := by
  obtain ⟨i0, ii, iz0, iz1, iz2⟩ := info_parts Try.info22
  obtain ⟨j0, ji, jz0, jz1, jz2⟩ := info_parts Try.info24
  have HM := hidP hM
  have HS := hidP hs
  have HR := hidP hrow
  have HL := hidP hln
  clear hM hs hrow hln
  go_enter Try.func25, Try.ntmps25
  go_wp2_with (at_make; refine wpList_make_full _ rfl _ _ 31 rfl (w.heap.size + 1) 24 j0 (.slice none 0 0) 1 Try.underlying31 ji jz0 jz1 .i64 .i64 _ _ n rfl rfl rfl rfl (by rw [jz2]; omega) (by unfold maxLen; omega) (by simp) ?_)
  intro w1 hown1 hgrow1
  obtain ⟨W, hW⟩ : ∃ W, W = w.alloc (.cells #[.int .i64 wd, .int .i64 bl, .int .i64 s, .int .i64 hd, .int .i64 o, .int .i64 of, .int .i64 gr, .int .i64 ba, .int .i64 ns] 58) := ⟨_, rfl⟩
  have hWs : W.heap.size = w.heap.size + 1 := by rw [hW]; simp
  have hWb : Below w.heap.size w W := by rw [hW]; exact (Below.refl _ _).alloc (Nat.le_refl _) _
  have hWc : W.heap[w.heap.size]? = some (.cells #[.int .i64 wd, .int .i64 bl, .int .i64 s, .int .i64 hd, .int .i64 o, .int .i64 of, .int .i64 gr, .int .i64 ba, .int .i64 ns] 58 (0, 0)) := by rw [hW]; exact heap_alloc_new _ _
  rw [← hW] at hgrow1
  have hnx1 : Below W.heap.size W w1 := (Below.refl _ _).grown hgrow1 (Nat.le_refl _) (by simp)
  obtain ⟨hg1, hlen1⟩ := owned_block hown1
  have HC1 := hidP (GridP.start (B := w.heap.size + 1) (cols := o) (P := fun r _ => r < 0) (val := netVal val p s) (show Blk 24 (w.heap.size + 1) n w1 from ⟨_, hg1, by simpa using hlen1⟩))
  have HB1 := hidP hnx1
  have HW := hidP (And.intro hWs (And.intro hWb hWc))
  have HM1 := hidP (HM.out.below hWb)
  clear hg1 hown1 hgrow1 hnx1 hlen1 hW hWs hWb hWc HM
  go_wp2_with fail
  go_loopg [15] n (fun gk s15 wr => ∃ r : Nat, r ≤ n ∧ gk = n - r ∧ s15 = .int .i64 r ∧ GridP (w.heap.size + 1) (w.heap.size + 1) n o r (fun r' _ => r' < r) (netVal val p s) wr ∧ Below W.heap.size W wr)
  case atStart => exact ⟨0, Nat.zero_le _, rfl, rfl, HC1.out, HB1.out⟩
  case round =>
    clear HC1 HB1
    obtain ⟨r, hr, hgk, rfl, hG, hb⟩ := hrel
    have HG := hidP hG
    have HB := hidP hb
    have HGK := hidP hgk
    clear hG hb hgk
    by_cases hlt : r < n
    · obtain ⟨s0, p0, p1, hp⟩ := HS.out (by omega)
      obtain ⟨r1, r2, r3⟩ := HR.out r hlt
      have hm0 : 0 < m := Nat.lt_of_le_of_lt (Nat.zero_le _) r1
      have hqi := div_cast r p
      have hji := rem_cast r p
      obtain ⟨q, hq⟩ : ∃ q, q = r / p := ⟨_, rfl⟩
      obtain ⟨j, hj⟩ : ∃ j, j = r % p := ⟨_, rfl⟩
      obtain ⟨t, ht⟩ : ∃ t, t = j * s := ⟨_, rfl⟩
      have hjr : j ≤ r := by rw [hj]; exact Nat.mod_le r p
      have hti : (j : Int) * (s : Int) = (t : Int) := by rw [ht]; exact (Int.natCast_mul j s).symm
      rw [← hj] at r2 r3 hji
      rw [← hq] at r1 r3 hqi
      rw [← ht] at r2 r3
      have HQ := hidP (show ∀ c, netVal val p s r c = val q (t + c) from fun c => by rw [netVal, hq, ht, hj])
      have HR3 := hidP r3
      have HP := hidP hp
      have hL := HL.out q r1
      clear hq hj ht r3 hp
      have hbox : wr.heap[w.heap.size]? = some (.cells #[.int .i64 wd, .int .i64 bl, .int .i64 s, .int .i64 hd, .int .i64 o, .int .i64 of, .int .i64 gr, .int .i64 ba, .int .i64 ns] 58 (0, 0)) := by
        rw [HB.out.block _ (by rw [HW.out.1]; omega)]
        exact HW.out.2.2
      obtain ⟨b, off, rfl, hbl, hx⟩ := (HM1.out.below HB.out).outer hm0
      have hxq := hx q r1
      obtain ⟨A, hA⟩ : ∃ A, A = ra q := ⟨_, rfl⟩
      obtain ⟨L, hLL⟩ : ∃ L, L = ln q := ⟨_, rfl⟩
      obtain ⟨C, hC⟩ : ∃ C, C = cp q := ⟨_, rfl⟩
      rw [← hA, ← hLL, ← hC] at hxq
      rw [← hLL] at hL HR3
      have HAL := hidP (And.intro hA hLL)
      have HBX := hidP hbox
      clear hx hA hLL hC
      obtain ⟨c0, c1, c2, c3, c4, c5, c6, c7, c8⟩ := box9 hbox
      have hwrs : w.heap.size < wr.heap.size := (Array.getElem?_eq_some_iff.1 hbox).1
      clear hbox
      go_wp2_with fail
      refine (rows_any wd bl s hd o of gr ba ns p wr (by omega) HP.out (by rw [HP.out]; exact IntWalk.i64_in _ ⟨by omega, by omega⟩)).mono ?_
      rintro e w2 ⟨rfl, hb2⟩
      have hbox2 : w2.heap[w.heap.size]? = some (.cells #[.int .i64 wd, .int .i64 bl, .int .i64 s, .int .i64 hd, .int .i64 o, .int .i64 of, .int .i64 gr, .int .i64 ba, .int .i64 ns] 58 (0, 0)) := by
        rw [hb2.block _ hwrs]; exact HBX.out
      have hxq2 : w2.cell? ⟨b, off + q, none⟩ = some (.slice A L C) := (hb2.cell hbl).trans hxq
      have HB2 := hidP (bnext HB.out hb2)
      have HG2 := hidP (HG.out.below hb2)
      have HBX2 := hidP hbox2
      have hw2s : w.heap.size < w2.heap.size := (Array.getElem?_eq_some_iff.1 hbox2).1
      have hbl2 : b < w2.heap.size := Nat.lt_of_lt_of_le hbl hb2.size
      clear c0 c1 c2 c3 c4 c5 c6 c7 c8 hbl hxq hb2 HB HG HBX hwrs
      obtain ⟨c0, c1, c2, c3, c4, c5, c6, c7, c8⟩ := box9 hbox2
      clear hbox2
      go_wp2_with (at_make; refine wpList_make_full _ rfl _ _ 24 rfl w2.heap.size 22 i0 (.float .f64 0) 1 Try.underlying24 ii iz0 iz1 .i64 .i64 _ _ o rfl rfl rfl rfl (by rw [iz2]; omega) (by unfold maxLen; omega) (by simp) ?_)
      intro w3 hown3 hgrow3
      have hnx3 : Below w2.heap.size w2 w3 := (Below.refl _ _).grown hgrow3 (Nat.le_refl _) (by simp)
      obtain ⟨hg3, hlen3⟩ := owned_block hown3
      have HG3 := hidP (HG2.out.push hlt hnx3 (show Blk 22 w2.heap.size o w3 from ⟨_, hg3, by simpa using hlen3⟩) (Nat.le_refl _) (by omega) (fun c h => absurd h (Nat.lt_irrefl r)))
      have HB3 := hidP ((bnext HB2.out hnx3).setCell (p := ⟨w.heap.size + 1, r, none⟩) (by show W.heap.size ≤ w.heap.size + 1; rw [HW.out.1]; exact Nat.le_refl _) (.slice (some ⟨w2.heap.size, 0, none⟩) o o))
      obtain ⟨⟨v3, e3⟩, f3⟩ := (HG2.out.below hnx3).slot hlt
      have l3 := (HG2.out.below hnx3).lt
      clear hown3 hgrow3 hg3 hlen3 hnx3 HG2 HB2 HBX2 c0 c1 c2 c3 c4 c5 c6 c7 c8 hxq2
      go_wp2_with fail
      go_loopg [36] o (fun g2 s36 wi => ∃ c : Nat, c ≤ o ∧ g2 = o - c ∧ s36 = .int .i64 c ∧ GridP (w.heap.size + 1) (w.heap.size + 1) n o (r + 1) (fun r' c' => r' < r ∨ (r' = r ∧ c' < c)) (netVal val p s) wi ∧ Below W.heap.size W wi)
      case atStart => exact ⟨0, Nat.zero_le _, rfl, rfl, HG3.out.to (fun r' c' _ _ h => by rcases h with h | h <;> omega), HB3.out⟩
      case round =>
        clear HG3 HB3 e3 f3 l3
        obtain ⟨c, hc, hg2, rfl, hG, hb⟩ := hrel
        have HG := hidP hG
        have HB := hidP hb
        have HG2 := hidP hg2
        clear hG hb hg2
        by_cases hclt : c < o
        · have hto := HR3.out (by omega)
          obtain ⟨eA, eL⟩ := HAL.out
          obtain ⟨b2, o2, hra, hbl3, hy⟩ := (HM1.out.below HB.out).inner r1 (by omega)
          rw [← eA] at hra
          obtain ⟨u, hu⟩ : ∃ u, u = t + c := ⟨_, rfl⟩
          have hyu := hy u (by omega)
          have hui : (t : Int) + (c : Int) = (u : Int) := by omega
          have huL : u < L := by omega
          have HU := hidP (show netVal val p s r c = val q u by rw [HQ.out c, hu])
          generalize val q u = f at hyu HU
          subst hra
          obtain ⟨gb, g1, g2, g3, g4, g5, g6, g7⟩ := HG.out.row (Nat.lt_succ_self r)
          obtain ⟨v4, g8⟩ := g4 c hclt
          have hbox : wr.heap[w.heap.size]? = some (.cells #[.int .i64 wd, .int .i64 bl, .int .i64 s, .int .i64 hd, .int .i64 o, .int .i64 of, .int .i64 gr, .int .i64 ba, .int .i64 ns] 58 (0, 0)) := by
            rw [HB.out.block _ (by rw [HW.out.1]; omega)]
            exact HW.out.2.2
          obtain ⟨c0, c1, c2, c3, c4, c5, c6, c7, c8⟩ := box9 hbox
          have lg := HG.out.lt
          have lb : w.heap.size < wr.heap.size := (Array.getElem?_eq_some_iff.1 hbox).1
          have HBX := hidP hbox
          have HBg := hidP g2
          clear g2 g4 g5 g7 hu hy eA eL hbox
          have hw1 : IntKind.i64.wrap ((j : Int) * (s : Int)) = (t : Int) := by rw [hti]; exact IntWalk.i64_in _ ⟨by omega, by omega⟩
          have hw2 : IntKind.i64.wrap ((t : Int) + (c : Int)) = (u : Int) := by rw [hui]; exact IntWalk.i64_in _ ⟨by omega, by omega⟩
          have hw3 : IntKind.i64.wrap ((r : Int).tmod (p : Int)) = (j : Int) := by rw [Int.tmod_eq_emod_of_nonneg (by omega), hji]; exact IntWalk.i64_in _ ⟨by omega, by omega⟩
          have hw4 : IntKind.i64.wrap (t : Int) = (t : Int) := IntWalk.i64_in _ ⟨by omega, by omega⟩
          have hw5 : IntKind.i64.wrap (u : Int) = (u : Int) := IntWalk.i64_in _ ⟨by omega, by omega⟩
          have hw6 : IntKind.i64.wrap (j : Int) = (j : Int) := IntWalk.i64_in _ ⟨by omega, by omega⟩
          have hui2 : (u : Int) < (L : Int) := by omega
          have hui3 : decide ((u : Int) < (L : Int)) = true := decide_eq_true hui2
          have hui4 : decide (u < L) = true := decide_eq_true huL
          have hci2 : (c : Int) < (o : Int) := by omega
          have hri2 : (r : Int) < (n : Int) := by omega
          have HRW := hidP (fun wx => rows_any wd bl s hd o of gr ba ns p wx (by omega) HP.out (by rw [HP.out]; exact IntWalk.i64_in _ ⟨by omega, by omega⟩))
          go_upto_block 3 with fail
          go_cut [] (fun wc => ∃ wy, Below wr.heap.size wr wy ∧ wc = wy.setCell ⟨gb, c, none⟩ (.float .f64 f))
          case first =>
            clear HM1 HS HR HL HW HQ HP HAL HG HB HBX HBg HU HGK HG2 HR3
            go_upto_region 10 with fail
            go_region_with (go_at_call 30; refine (HRW.out _).mono ?_; rintro e w5 ⟨rfl, hb5⟩; have k1 := (hb5.cell (p := ⟨w.heap.size, 2, none⟩) lb).trans c2; have k2 := (hb5.cell (p := ⟨w.heap.size + 1, r, none⟩) lg).trans g1; have k3 := (hb5.cell (p := ⟨b2, o2 + u, none⟩) hbl3).trans hyu; have k4 := (hb5.cell (p := ⟨gb, c, none⟩) g3).trans g8; have k5 : w5.frozen? ⟨gb, c, none⟩ = false := (hb5.frozen (p := ⟨gb, c, none⟩) g3).trans (g6 c))
            all_goals (clear k1 k2 k3 k4 k5)
            all_goals (have HX := hidP (show Below wr.heap.size wr w5 from ((Below.refl _ wr).drew).trans hb5))
            all_goals (clear hb5)
            all_goals (go_wp2_with fail)
            all_goals go_meet
            all_goals (case rel => exact ⟨w5, HX.out, rfl⟩)
          case rest =>
            obtain ⟨wy, hby, rfl⟩ := hcut
            have k2 := (hby.cell (p := ⟨w.heap.size + 1, r, none⟩) lg).trans g1
            have HG5 := hidP ((HG.out.below hby).putAt (Nat.lt_succ_self r) hclt k2 HU.out.symm (fun r' c' => r' < r ∨ (r' = r ∧ c' < c + 1)) (fun r' c' _ _ h => step_in r c r' c' h))
            have HB5 := hidP ((bnext HB.out hby).setCell (p := ⟨gb, c, none⟩) (by show W.heap.size ≤ gb; rw [HW.out.1]; exact HBg.out) (.float .f64 f))
            clear hby k2
            go_wp2_with fail
            go_roundg (o - (c + 1))
            case measure => rw [HG2.out]; omega
            case rel => exact ⟨c + 1, by omega, rfl, by go_num, HG5.out, HB5.out⟩
        · have hco : c = o := by omega
          subst hco
          have HGD := hidP (HG.out.to (P' := fun r' _ => r' < r + 1) (fun r' c' _ hc' h => by omega))
          go_wp2_with fail
          go_roundg (n - (r + 1))
          case measure => rw [HGK.out]; omega
          case rel => exact ⟨r + 1, by omega, rfl, by go_num, HGD.out, HB.out⟩
    · have hrn : r = n := by omega
      subst hrn
      have HGD := hidP (HG.out.to (P' := fun _ _ => True) (fun r' c' hr' _ _ => hr'))
      go_wp2_with fail
      go_ret
      exact ⟨_, rfl, by omega, HGD.out.low (Nat.le_succ _), HW.out.2.1.trans (HB.out.mono (by rw [HW.out.1]; omega))⟩

end Go.Proofs.Qxb6615466a
