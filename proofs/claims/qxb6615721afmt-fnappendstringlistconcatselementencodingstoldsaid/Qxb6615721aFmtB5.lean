import Derived.Test.Qxb6615721aFmtW11
namespace Go.Proofs.Qxb6615721aFmt
open Go.RowKit

/-- It answers; where it says yes, the lengths are bounded. -/
def Ok5 (n : Nat) (ss : List ByteArray) (e : Ending) : Prop := ∃ b, e = .returned (.bool b) ∧ (b = true → n ≤ 1048576 ∧ ss.length ≤ 1048576 ∧ ∀ s ∈ ss, s.size ≤ 1048576)

set_option maxRecDepth 100000 in
set_option maxHeartbeats 2000000 in
theorem bytes5_any (a : Option Addr) (n c : Nat) (sa : Option Addr) (sc : Nat) (ss : List ByteArray) (w : World) (hrs : ReadsS w sa ss) (hl : ss.length ≤ 9223372036854775807) (hn : n ≤ 9223372036854775807) (hS : ∀ s ∈ ss, s.size ≤ 9223372036854775807) :
    Calls Tryf.prog 14 #[.slice a n c, .slice sa ss.length sc] w fun e w' => Ok5 n ss e ∧ w' = w := by
  have HRS := hidP hrs
  have HS := hidP hS
  clear hrs hS
  by_cases h1 : 1048576 < n
  · go_enter Tryf.func14, Tryf.ntmps14
    go_wp2
    go_ret
    exact ⟨⟨false, rfl, by simp⟩, rfl⟩
  by_cases h2 : 1048576 < ss.length
  · go_enter Tryf.func14, Tryf.ntmps14
    go_wp2
    go_ret
    exact ⟨⟨false, rfl, by simp⟩, rfl⟩
  by_cases h3 : 1048576 < n + ss.length
  · go_enter Tryf.func14, Tryf.ntmps14
    go_wp2
    go_ret
    exact ⟨⟨false, rfl, by simp⟩, rfl⟩
  go_enter Tryf.func14, Tryf.ntmps14
  go_wp2
  go_loop [5, 6] (fun s5 s6 => ∃ (k acc : Nat), k ≤ ss.length ∧ acc ≤ 1048576 ∧ s5 = .int .i64 acc ∧ s6 = .int .i64 k ∧ ∀ j, j < k → (ss.getD j ByteArray.empty).size ≤ 1048576) (fun _ s6 => ss.length - (intOf s6).toNat)
  case atStart => exact ⟨0, n + ss.length, Nat.zero_le _, by omega, by go_num, rfl, fun j hj => by omega⟩
  case round =>
    obtain ⟨k, acc, hk, hacc, rfl, rfl, hall⟩ := hrel
    have HA := hidP hall
    clear hall
    by_cases hlt : k < ss.length
    · obtain ⟨b, off, rfl, hb, hx⟩ := HRS.out.plain (by omega)
      have hc := hx k hlt
      have hsz : (ss.getD k ByteArray.empty).size ≤ 9223372036854775807 := by
        rw [List.getD_eq_getElem?_getD, List.getElem?_eq_getElem hlt]; exact HS.out _ (List.getElem_mem hlt)
      have hnew : (ss.getD k ByteArray.empty).size ≤ 1048576 → ∀ j, j < k + 1 → (ss.getD j ByteArray.empty).size ≤ 1048576 := by
        intro h j hj
        rcases Nat.lt_or_ge j k with h' | h'
        · exact HA.out j h'
        · obtain rfl : j = k := by omega
          exact h
      generalize ss.getD k ByteArray.empty = s at hc hsz hnew
      have HW := hidP hnew
      clear hnew hx
      by_cases g1 : 1048576 < s.size
      · go_wp2
        go_ret
        exact ⟨⟨false, rfl, by simp⟩, rfl⟩
      by_cases g2 : 1048576 < acc + s.size
      · go_wp2
        go_ret
        exact ⟨⟨false, rfl, by simp⟩, rfl⟩
      go_wp2
      go_round
      case rel => exact ⟨k + 1, acc + s.size, by omega, by omega, by go_num, by go_num, HW.out (by omega)⟩
      case measure => simp [intOf]; omega
    · have hfin : n ≤ 1048576 ∧ ss.length ≤ 1048576 ∧ ∀ s ∈ ss, s.size ≤ 1048576 := by
        refine ⟨by omega, by omega, fun s hs => ?_⟩
        obtain ⟨j, hj, rfl⟩ := List.mem_iff_getElem.1 hs
        have := HA.out j (by omega)
        rwa [List.getD_eq_getElem?_getD, List.getElem?_eq_getElem hj] at this
      have HF := hidP hfin
      clear hfin
      go_wp2
      go_ret
      exact ⟨⟨true, rfl, fun _ => HF.out⟩, rfl⟩

end Go.Proofs.Qxb6615721aFmt
