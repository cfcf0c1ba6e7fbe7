import Derived.Test.Qxb6615721aFmtW11
import Derived.Test.Qxb6615721aFmtLd
import Derived.SliceStrings
import Derived.OpenShut
import Derived.ChangeOld
import Derived.Below
namespace Go.Proofs.Qxb6615721aFmt
open Go.ChangeShapes Go.WideShapes Go.ChangeAt Go.RowKit Go.Kit Go.Lib
open Go.Extern.Stop Go.Stop Go.Extern

theorem Tryf.laidOutP : laidOutB Tryf.prog = true := by kernel_rfl

/-- A slice of bytes that came in, opened into what the walks ask. -/
theorem open_bytes {H : Type} {enc : TypeId × Value → H} {W : World} {a : Option Addr} {len cap : Nat} {d : DataW H} {p : List MemPlace}
    (h : DataW.Trod enc Tryf.prog W 0 (fun _ => true) true 22 (.slice a len cap) d p) :
    ∃ zs : List Int, len = zs.length ∧ Reads W a zs ∧ (a = none → cap = 0) ∧ zs.length ≤ 9223372036854775807 := by
  obtain ⟨fuel, hf⟩ := h
  rcases open_ints Tryf.underlying22 Tryf.underlying5 (by kernel_rfl) hf with ⟨hcs, _⟩ | ⟨x, l, c, zs, hcs, _, hl, hm, hz, _, hcell, hwz⟩
  · simp [Value.cells] at hcs
    obtain ⟨rfl, rfl, rfl⟩ := hcs
    exact ⟨[], rfl, Reads.nil _ _, fun _ => rfl, by simp⟩
  · simp [Value.cells] at hcs
    obtain ⟨rfl, rfl, rfl⟩ := hcs
    have hzl : zs.length = cap := by simpa using hz
    have hlt : (zs.take len).length = len := by simp; omega
    unfold maxLen at hm
    refine ⟨zs.take len, hlt.symm, fun j hj => ⟨x, rfl, ?_⟩, by simp, by omega⟩
    rw [hcell j (by omega)]
    simp [List.getD_eq_getElem?_getD, show j < len by omega]

/-- A slice of strings that came in. -/
theorem open_texts {H : Type} {enc : TypeId × Value → H} {W : World} {a : Option Addr} {len cap : Nat} {d : DataW H} {p : List MemPlace}
    (h : DataW.Trod enc Tryf.prog W 0 (fun _ => true) true 33 (.slice a len cap) d p) :
    ∃ ss : List ByteArray, len = ss.length ∧ ReadsS W a ss ∧ ss.length ≤ 9223372036854775807 ∧ ∀ s ∈ ss, s.size ≤ 9223372036854775807 := by
  obtain ⟨fuel, hf⟩ := h
  rcases open_strings Tryf.underlying33 Tryf.underlying9 (by kernel_rfl) hf with ⟨hcs, _⟩ | ⟨x, l, c, ss, hcs, _, hl, hm, hz, _, hcell, hws⟩
  · simp [Value.cells] at hcs
    obtain ⟨rfl, rfl, rfl⟩ := hcs
    exact ⟨[], rfl, fun j hj => by simp at hj, by simp, by simp⟩
  · simp [Value.cells] at hcs
    obtain ⟨rfl, rfl, rfl⟩ := hcs
    have hzl : ss.length = cap := by simpa using hz
    have hlt : (ss.take len).length = len := by simp; omega
    unfold maxLen at hm
    refine ⟨ss.take len, hlt.symm, fun j hj => ⟨x, rfl, ?_⟩, by omega, fun s hs => ?_⟩
    · rw [hcell j (by omega)]
      simp [List.getD_eq_getElem?_getD, show j < len by omega]
    · have := hws s (List.mem_of_mem_take hs)
      unfold maxLen at this
      omega

end Go.Proofs.Qxb6615721aFmt
