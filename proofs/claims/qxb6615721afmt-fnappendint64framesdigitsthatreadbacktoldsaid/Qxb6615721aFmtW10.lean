import Derived.Test.Qxb6615721aFmtW9
namespace Go.Proofs.Qxb6615721aFmt
open Go.RowKit

set_option maxRecDepth 100000 in
set_option maxHeartbeats 1000000 in
theorem append_ok (v x : Value) (w : World) (Q : Value → World → Prop) (h : Calls Tryf.prog 25 #[v, x] w fun e w' => ∃ v', e = .returned (.tuple #[v', .nilIface]) ∧ Q v' w') :
    Calls Tryf.prog 22 #[v, x] w fun e w' => ∃ v', e = .returned (.tuple #[v', .nilIface]) ∧ Q v' w' := by
  have H := hidP h
  clear h
  go_enter Tryf.func22, Tryf.ntmps22
  go_wp2_with fail
  refine H.out.mono ?_
  rintro e w1 ⟨v', rfl, hq⟩
  have HQ := hidP hq
  clear hq
  go_wp2_with fail
  go_ret2
  exact ⟨v', rfl, HQ.out⟩

set_option maxRecDepth 100000 in
set_option maxHeartbeats 1000000 in
theorem append_err (v x : Value) (w : World) (Q : World → Prop) (h : Calls Tryf.prog 25 #[v, x] w fun e w' => ∃ x, e = .returned (.tuple #[.slice none 0 0, .iface 62 (.pointer (some x))]) ∧ Q w') :
    Calls Tryf.prog 22 #[v, x] w fun e w' => ∃ x, e = .returned (.tuple #[v, .iface 62 (.pointer (some x))]) ∧ Q w' := by
  have H := hidP h
  clear h
  go_enter Tryf.func22, Tryf.ntmps22
  go_wp2_with fail
  refine H.out.mono ?_
  rintro e w1 ⟨v', rfl, hq⟩
  have HQ := hidP hq
  clear hq
  go_wp2_with fail
  go_ret2
  exact ⟨v', rfl, HQ.out⟩

set_option maxRecDepth 100000 in
set_option maxHeartbeats 1000000 in
theorem zzAppendInt_any (a : Option Addr) (zs : List Int) (i : Int) (h0 : -9223372036854775808 ≤ i) (h1 : i ≤ 9223372036854775807) (w : World) (hT : Tab w) (hr : Reads w a zs) (hn : zs.length ≤ 4194304) :
    Calls Tryf.prog 7 #[.slice a zs.length zs.length, .int .i64 i] w fun e w' => ∃ a' c', e = .returned (.tuple #[.slice a' (intEncZ zs i).length c', .bool false]) ∧ Reads w' a' (intEncZ zs i) ∧ Below w.heap.size w w' := by
  have h : Calls Tryf.prog 22 #[.slice a zs.length zs.length, .iface 3 (.int .i64 i)] w fun e w' => ∃ v', e = .returned (.tuple #[v', .nilIface]) ∧ ∃ a' c', v' = .slice a' (intEncZ zs i).length c' ∧ Reads w' a' (intEncZ zs i) ∧ Below w.heap.size w w' :=
    append_ok _ _ w (fun v' w' => ∃ a' c', v' = .slice a' (intEncZ zs i).length c' ∧ Reads w' a' (intEncZ zs i) ∧ Below w.heap.size w w') ((av_int a zs i h0 h1 w hT hr hn).mono (by rintro e w' ⟨a', c', rfl, hr', hb⟩; exact ⟨_, rfl, a', c', rfl, hr', hb⟩))
  have H := hidP h
  clear h
  go_enter Tryf.func7, Tryf.ntmps7
  go_wp2_with fail
  refine H.out.mono ?_
  rintro e w1 ⟨v', rfl, a', c', rfl, hr', hb⟩
  have HQ := hidP hr'
  have HB := hidP hb
  clear hr' hb
  go_wp2_with fail
  go_quiet (fail)
  go_wp2_with fail
  go_ret2
  exact ⟨a', c', rfl, HQ.out, below_drewN HB.out _⟩

set_option maxRecDepth 100000 in
set_option maxHeartbeats 1000000 in
theorem zzAppendInt64_any (a : Option Addr) (zs : List Int) (i : Int) (h0 : -9223372036854775808 ≤ i) (h1 : i ≤ 9223372036854775807) (w : World) (hT : Tab w) (hr : Reads w a zs) (hn : zs.length ≤ 4194304) :
    Calls Tryf.prog 11 #[.slice a zs.length zs.length, .int .i64 i] w fun e w' => ∃ a' c', e = .returned (.tuple #[.slice a' (intEncZ zs i).length c', .bool false]) ∧ Reads w' a' (intEncZ zs i) ∧ Below w.heap.size w w' := by
  have h : Calls Tryf.prog 22 #[.slice a zs.length zs.length, .iface 2 (.int .i64 i)] w fun e w' => ∃ v', e = .returned (.tuple #[v', .nilIface]) ∧ ∃ a' c', v' = .slice a' (intEncZ zs i).length c' ∧ Reads w' a' (intEncZ zs i) ∧ Below w.heap.size w w' :=
    append_ok _ _ w (fun v' w' => ∃ a' c', v' = .slice a' (intEncZ zs i).length c' ∧ Reads w' a' (intEncZ zs i) ∧ Below w.heap.size w w') ((av_int64 a zs i h0 h1 w hT hr hn).mono (by rintro e w' ⟨a', c', rfl, hr', hb⟩; exact ⟨_, rfl, a', c', rfl, hr', hb⟩))
  have H := hidP h
  clear h
  go_enter Tryf.func11, Tryf.ntmps11
  go_wp2_with fail
  refine H.out.mono ?_
  rintro e w1 ⟨v', rfl, a', c', rfl, hr', hb⟩
  have HQ := hidP hr'
  have HB := hidP hb
  clear hr' hb
  go_wp2_with fail
  go_quiet (fail)
  go_wp2_with fail
  go_ret2
  exact ⟨a', c', rfl, HQ.out, below_drewN HB.out _⟩

set_option maxRecDepth 100000 in
set_option maxHeartbeats 1000000 in
theorem zzAppendStrings_any (a : Option Addr) (zs : List Int) (sa : Option Addr) (c : Nat) (ss : List ByteArray) (w : World) (hT : Tab w) (hr : Reads w a zs) (hrs : ReadsS w sa ss) (hn : zs.length ≤ 4194304) (hE : (encsZ ss).length ≤ 4194304) (hS : ∀ s ∈ ss, s.size ≤ 1048576) (hl : ss.length ≤ 1048576) :
    Calls Tryf.prog 15 #[.slice a zs.length zs.length, .slice sa ss.length c] w fun e w' => ∃ a' c', e = .returned (.tuple #[.slice a' (listEncZ zs ss).length c', .bool false]) ∧ Reads w' a' (listEncZ zs ss) ∧ Below w.heap.size w w' := by
  have h : Calls Tryf.prog 22 #[.slice a zs.length zs.length, .iface 33 (.slice sa ss.length c)] w fun e w' => ∃ v', e = .returned (.tuple #[v', .nilIface]) ∧ ∃ a' c', v' = .slice a' (listEncZ zs ss).length c' ∧ Reads w' a' (listEncZ zs ss) ∧ Below w.heap.size w w' :=
    append_ok _ _ w (fun v' w' => ∃ a' c', v' = .slice a' (listEncZ zs ss).length c' ∧ Reads w' a' (listEncZ zs ss) ∧ Below w.heap.size w w') ((av_strings a zs sa c ss w hT hr hrs hn hE hS hl).mono (by rintro e w' ⟨a', c', rfl, hr', hb⟩; exact ⟨_, rfl, a', c', rfl, hr', hb⟩))
  have H := hidP h
  clear h hS
  go_enter Tryf.func15, Tryf.ntmps15
  go_wp2_with fail
  refine H.out.mono ?_
  rintro e w1 ⟨v', rfl, a', c', rfl, hr', hb⟩
  have HQ := hidP hr'
  have HB := hidP hb
  clear hr' hb
  go_wp2_with fail
  go_quiet (fail)
  go_wp2_with fail
  go_ret2
  exact ⟨a', c', rfl, HQ.out, below_drewN HB.out _⟩

set_option maxRecDepth 100000 in
set_option maxHeartbeats 1000000 in
theorem zzAppendString_nil (s : ByteArray) (w : World) (hT : Tab w) (hs : s.size ≤ 1048576) :
    Calls Tryf.prog 16 #[.slice none 0 0, .string s] w fun e w' => ∃ a' c', e = .returned (.tuple #[.slice a' (strEncZ s).length c', .bool false]) ∧ Reads w' a' (strEncZ s) ∧ Below w.heap.size w w' := by
  have h : Calls Tryf.prog 22 #[.slice none 0 0, .iface 9 (.string s)] w fun e w' => ∃ v', e = .returned (.tuple #[v', .nilIface]) ∧ ∃ a' c', v' = .slice a' (strEncZ s).length c' ∧ Reads w' a' (strEncZ s) ∧ Below w.heap.size w w' :=
    append_ok _ _ w (fun v' w' => ∃ a' c', v' = .slice a' (strEncZ s).length c' ∧ Reads w' a' (strEncZ s) ∧ Below w.heap.size w w') ((av_string w.heap.size 0 (.slice none 0 0) [] s w (World.ownsRow_nil _ _ _ _) (Nat.le_refl _) (by omega) hs (hT.at (Nat.le_refl _) (Below.refl _ _))).mono (by
      rintro e w' ⟨v', rfl, ho, hb⟩
      rw [Nat.zero_add, List.nil_append] at ho
      obtain ⟨a', c', hv, _, _, hr'⟩ := Reads.of_owns ho
      exact ⟨_, rfl, a', c', hv, hr', hb⟩))
  have H := hidP h
  clear h
  go_enter Tryf.func16, Tryf.ntmps16
  go_wp2_with fail
  refine H.out.mono ?_
  rintro e w1 ⟨v', rfl, a', c', rfl, hr', hb⟩
  have HQ := hidP hr'
  have HB := hidP hb
  clear hr' hb
  go_wp2_with fail
  go_quiet (fail)
  go_wp2_with fail
  go_ret2
  exact ⟨a', c', rfl, HQ.out, below_drewN HB.out _⟩

end Go.Proofs.Qxb6615721aFmt
