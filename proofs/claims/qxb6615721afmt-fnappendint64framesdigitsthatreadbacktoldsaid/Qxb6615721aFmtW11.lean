import Derived.Test.Qxb6615721aFmtW10
namespace Go.Proofs.Qxb6615721aFmt
open Go.RowKit

set_option maxRecDepth 100000 in
set_option maxHeartbeats 1000000 in
theorem zzAppendList1_any (a : Option Addr) (zs : List Int) (s : ByteArray) (w : World) (hT : Tab w) (hr : Reads w a zs) (hn : zs.length ≤ 4194304) (hs : s.size ≤ 1048576) :
    Calls Tryf.prog 21 #[.slice a zs.length zs.length, .string s] w fun e w' => ∃ a' c', e = .returned (.tuple #[.slice a' (listEncZ zs [s]).length c', .bool false]) ∧ Reads w' a' (listEncZ zs [s]) ∧ Below w.heap.size w w' := by
  have hb0 : Below w.heap.size w (w.alloc (.cells #[.iface 9 (.string s)] 20)) := (Below.refl _ w).alloc (Nat.le_refl _) _
  have h : Calls Tryf.prog 22 #[.slice a zs.length zs.length, .iface 48 (.slice (some ⟨w.heap.size, 0, none⟩) 1 1)] (w.alloc (.cells #[.iface 9 (.string s)] 20)) fun e w' => ∃ v', e = .returned (.tuple #[v', .nilIface]) ∧ ∃ a' c', v' = .slice a' (listEncZ zs [s]).length c' ∧ Reads w' a' (listEncZ zs [s]) ∧ Below w.heap.size w w' :=
    append_ok _ _ _ (fun v' w' => ∃ a' c', v' = .slice a' (listEncZ zs [s]).length c' ∧ Reads w' a' (listEncZ zs [s]) ∧ Below w.heap.size w w')
      ((av_any1 a zs w.heap.size 0 1 s _ (hT.below hb0) (hr.below hb0) hn hs (by simp)).mono (by rintro e w' ⟨a', c', rfl, hr', hb⟩; exact ⟨_, rfl, a', c', rfl, hr', hb0.trans (hb.mono (by simp))⟩))
  have H := hidP h
  clear h hb0
  go_enter Tryf.func21, Tryf.ntmps21
  go_wp2_with fail
  refine H.out.mono ?_
  rintro e w1 ⟨v', rfl, a', c', rfl, hr', hb⟩
  have HQ := hidP hr'
  have HB := hidP hb
  clear hr' hb
  go_wp2_with fail
  go_quiet (fail)
  go_wp2_with fail
  go_ret2
  exact ⟨a', c', rfl, HQ.out, below_drewN HB.out _⟩

set_option maxRecDepth 100000 in
set_option maxHeartbeats 1000000 in
theorem zzAppendList2_any (a : Option Addr) (zs : List Int) (s : ByteArray) (w : World) (hT : Tab w) (hr : Reads w a zs) (hn : zs.length ≤ 4194304) (hs : s.size ≤ 1048576) :
    Calls Tryf.prog 20 #[.slice a zs.length zs.length, .string s] w fun e w' => e = .returned (.tuple #[.slice a zs.length zs.length, .bool true]) ∧ Below w.heap.size w w' := by
  have hb0 : Below w.heap.size w (w.alloc (.cells #[.iface 9 (.string s), .iface 47 (.agg #[.slice none 0 0])] 20)) := (Below.refl _ w).alloc (Nat.le_refl _) _
  have h : Calls Tryf.prog 22 #[.slice a zs.length zs.length, .iface 48 (.slice (some ⟨w.heap.size, 0, none⟩) 2 2)] (w.alloc (.cells #[.iface 9 (.string s), .iface 47 (.agg #[.slice none 0 0])] 20)) fun e w' => ∃ x, e = .returned (.tuple #[.slice a zs.length zs.length, .iface 62 (.pointer (some x))]) ∧ Below w.heap.size w w' :=
    append_err _ _ _ (fun w' => Below w.heap.size w w')
      ((av_any2 a zs w.heap.size 0 2 s _ (hT.below hb0) (hr.below hb0) hn hs (by simp) (by simp)).mono (by rintro e w' ⟨x, rfl, hb⟩; exact ⟨x, rfl, hb0.trans (hb.mono (by simp))⟩))
  have H := hidP h
  clear h hb0
  go_enter Tryf.func20, Tryf.ntmps20
  go_wp2_with fail
  refine H.out.mono ?_
  rintro e w1 ⟨x, rfl, hb⟩
  have HB := hidP hb
  clear hb
  go_wp2_with fail
  go_quiet (fail)
  go_wp2_with fail
  go_ret2
  exact ⟨rfl, below_drewN HB.out _⟩

end Go.Proofs.Qxb6615721aFmt
