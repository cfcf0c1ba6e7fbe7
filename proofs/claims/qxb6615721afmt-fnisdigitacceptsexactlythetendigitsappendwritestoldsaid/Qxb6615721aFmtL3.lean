import Derived.Test.Qxb6615721aFmtW11
namespace Go.Proofs.Qxb6615721aFmt
open Go.RowKit

/-- Is c one of the first k digits? -/
def digUpTo (c : Int) (k : Nat) : Bool := decide (48 ≤ c) && decide (c < 48 + (k : Int))
theorem digUpTo_zero (c : Int) : digUpTo c 0 = false := by simp [digUpTo]
theorem digUpTo_hit (c : Int) (k : Nat) (h : 48 + (k : Int) = c) : digUpTo c (k + 1) = true := by simp [digUpTo]; omega
theorem digUpTo_miss (c : Int) (k : Nat) (h : 48 + (k : Int) ≠ c) : digUpTo c (k + 1) = digUpTo c k := by
  unfold digUpTo
  congr 1
  rw [Bool.eq_iff_iff]
  simp
  omega
theorem digUpTo_ten (c : Int) : digUpTo c 10 = digB c := by
  unfold digUpTo digB
  congr 1
  rw [Bool.eq_iff_iff]
  simp
  omega

/-- Append(nil, k) for a digit: 'i', the digit, 'e'. -/
theorem zzAppendInt_digit (k : Nat) (hk : k < 10) (w : World) (hT : Tab w) :
    Calls Tryf.prog 7 #[.slice none 0 0, .int .i64 (k : Int)] w fun e w' => ∃ b off c', e = .returned (.tuple #[.slice (some ⟨b, off, none⟩) 3 c', .bool false]) ∧
      w'.cell? ⟨b, off, none⟩ = some (.int .u8 105) ∧ w'.cell? ⟨b, off + 1, none⟩ = some (.int .u8 (48 + (k : Int))) ∧ w'.cell? ⟨b, off + 2, none⟩ = some (.int .u8 101) ∧ Below w.heap.size w w' := by
  have e3 : intEncZ [] (k : Int) = [105, 48 + (k : Int), 101] := by
    rw [intEncZ, itoaZ_nonneg _ (by omega), Int.toNat_natCast, decZ_small hk]
    rfl
  refine (zzAppendInt_any none [] (k : Int) (by omega) (by omega) w hT (Reads.nil _ _) (by simp)).mono ?_
  rintro e w' ⟨a', c', rfl, hr, hb⟩
  rw [e3] at hr ⊢
  obtain ⟨b, off, rfl, _, hx⟩ := hr.plain (by simp)
  exact ⟨b, off, c', rfl, by simpa using hx 0 (by simp), by simpa using hx 1 (by simp), by simpa using hx 2 (by simp), hb⟩

set_option maxRecDepth 100000 in
set_option maxHeartbeats 1000000 in
theorem law3 (c : Int) (w : World) (hT : Tab w) :
    Calls Tryf.prog 3 #[.int .u8 c] w fun e w' => e = .returned (.bool true) ∧ Below w.heap.size w w' := by
  go_enter Tryf.func3, Tryf.ntmps3
  go_wp2_with fail
  go_loopw [3, 4] (fun s3 s4 wr => ∃ k : Nat, k ≤ 10 ∧ s3 = .bool (digUpTo c k) ∧ s4 = .int .i64 k ∧ Below w.heap.size w wr)
    (fun _ i _ => 10 - (intOf i).toNat)
  case atStart => exact ⟨0, Nat.zero_le _, by rw [digUpTo_zero], rfl, Below.refl _ _⟩
  case round =>
    obtain ⟨k, hk, rfl, rfl, hnx⟩ := hrel
    have hT' := hidP (hT.below hnx)
    have HNX := hidP hnx
    have hsz := hnx.size
    clear hnx
    by_cases hlt : k < 10
    · by_cases hck : 48 + (k : Int) = c
      · have hhit := digUpTo_hit c k hck
        have e0 : ((105 : Int) != 105) = false := by decide
        have e2 : ((101 : Int) != 101) = false := by decide
        have e1 : ((48 + (k : Int)) != (48 + (k : Int))) = false := by simp
        have hck' : ((48 + (k : Int)) == c) = true := by simp [hck]
        have HH := hidP hhit
        clear hhit hck
        go_wp2_with (go_at_call 7; refine (zzAppendInt_digit k hlt wr hT'.out).mono ?_; rintro e w1 ⟨b, off, c', rfl, h0, h1, h2, hb⟩)
        have HN : Hid (Below w.heap.size w w1) := HNX.out.trans (hb.mono hsz)
        go_roundw
        case rel => exact ⟨k + 1, by omega, by rw [HH.out], by go_num, HN.out⟩
        case measure => simp [intOf]; omega
      · have hmiss := digUpTo_miss c k hck
        have e0 : ((105 : Int) != 105) = false := by decide
        have e2 : ((101 : Int) != 101) = false := by decide
        have e1 : ((48 + (k : Int)) != (48 + (k : Int))) = false := by simp
        have hck' : ((48 + (k : Int)) == c) = false := by simpa using hck
        have HH := hidP hmiss
        clear hmiss hck
        go_wp2_with (go_at_call 7; refine (zzAppendInt_digit k hlt wr hT'.out).mono ?_; rintro e w1 ⟨b, off, c', rfl, h0, h1, h2, hb⟩)
        have HN : Hid (Below w.heap.size w w1) := HNX.out.trans (hb.mono hsz)
        go_roundw
        case rel => exact ⟨k + 1, by omega, by rw [HH.out], by go_num, HN.out⟩
        case measure => simp [intOf]; omega
    · have hkk : k = 10 := by omega
      subst hkk
      have h10 := digUpTo_ten c
      go_wp2_with (go_at_call 8; refine (zzIsDigit_any c wr).mono ?_; rintro e w1 ⟨rfl, rfl⟩)
      go_ret
      exact ⟨by simp, HNX.out⟩

end Go.Proofs.Qxb6615721aFmt
