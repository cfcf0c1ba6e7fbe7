import Derived.Test.Qxb6615721aFmtW6
namespace Go.Proofs.Qxb6615721aFmt
open Go.RowKit

/-! The type switch's tests, closed facts. -/
theorem as3_3 (v : Value) (w : World) : (Instr.typeAssert (.iface 3 v) 20 3 true).run Tryf.prog w = .ok (.tuple #[v, .bool true]) w := by kernel_rfl
theorem as2_3 (v : Value) (w : World) : (Instr.typeAssert (.iface 2 v) 20 3 true).run Tryf.prog w = .ok (.tuple #[.int .i64 0, .bool false]) w := by kernel_rfl
theorem as2_2 (v : Value) (w : World) : (Instr.typeAssert (.iface 2 v) 20 2 true).run Tryf.prog w = .ok (.tuple #[v, .bool true]) w := by kernel_rfl
theorem as9_3 (v : Value) (w : World) : (Instr.typeAssert (.iface 9 v) 20 3 true).run Tryf.prog w = .ok (.tuple #[.int .i64 0, .bool false]) w := by kernel_rfl
theorem as9_2 (v : Value) (w : World) : (Instr.typeAssert (.iface 9 v) 20 2 true).run Tryf.prog w = .ok (.tuple #[.int .i64 0, .bool false]) w := by kernel_rfl
theorem as9_9 (v : Value) (w : World) : (Instr.typeAssert (.iface 9 v) 20 9 true).run Tryf.prog w = .ok (.tuple #[v, .bool true]) w := by kernel_rfl
theorem as47_3 (v : Value) (w : World) : (Instr.typeAssert (.iface 47 v) 20 3 true).run Tryf.prog w = .ok (.tuple #[.int .i64 0, .bool false]) w := by kernel_rfl
theorem as47_2 (v : Value) (w : World) : (Instr.typeAssert (.iface 47 v) 20 2 true).run Tryf.prog w = .ok (.tuple #[.int .i64 0, .bool false]) w := by kernel_rfl
theorem as47_9 (v : Value) (w : World) : (Instr.typeAssert (.iface 47 v) 20 9 true).run Tryf.prog w = .ok (.tuple #[.string ⟨#[]⟩, .bool false]) w := by kernel_rfl
theorem as47_22 (v : Value) (w : World) : (Instr.typeAssert (.iface 47 v) 20 22 true).run Tryf.prog w = .ok (.tuple #[.slice none 0 0, .bool false]) w := by kernel_rfl
theorem as47_47 (v : Value) (w : World) : (Instr.typeAssert (.iface 47 v) 20 47 true).run Tryf.prog w = .ok (.tuple #[v, .bool true]) w := by kernel_rfl
theorem as33_3 (v : Value) (w : World) : (Instr.typeAssert (.iface 33 v) 20 3 true).run Tryf.prog w = .ok (.tuple #[.int .i64 0, .bool false]) w := by kernel_rfl
theorem as33_2 (v : Value) (w : World) : (Instr.typeAssert (.iface 33 v) 20 2 true).run Tryf.prog w = .ok (.tuple #[.int .i64 0, .bool false]) w := by kernel_rfl
theorem as33_9 (v : Value) (w : World) : (Instr.typeAssert (.iface 33 v) 20 9 true).run Tryf.prog w = .ok (.tuple #[.string ⟨#[]⟩, .bool false]) w := by kernel_rfl
theorem as33_22 (v : Value) (w : World) : (Instr.typeAssert (.iface 33 v) 20 22 true).run Tryf.prog w = .ok (.tuple #[.slice none 0 0, .bool false]) w := by kernel_rfl
theorem as33_47 (v : Value) (w : World) : (Instr.typeAssert (.iface 33 v) 20 47 true).run Tryf.prog w = .ok (.tuple #[.agg #[.slice none 0 0], .bool false]) w := by kernel_rfl
theorem as33_33 (v : Value) (w : World) : (Instr.typeAssert (.iface 33 v) 20 33 true).run Tryf.prog w = .ok (.tuple #[v, .bool true]) w := by kernel_rfl
theorem as48_3 (v : Value) (w : World) : (Instr.typeAssert (.iface 48 v) 20 3 true).run Tryf.prog w = .ok (.tuple #[.int .i64 0, .bool false]) w := by kernel_rfl
theorem as48_2 (v : Value) (w : World) : (Instr.typeAssert (.iface 48 v) 20 2 true).run Tryf.prog w = .ok (.tuple #[.int .i64 0, .bool false]) w := by kernel_rfl
theorem as48_9 (v : Value) (w : World) : (Instr.typeAssert (.iface 48 v) 20 9 true).run Tryf.prog w = .ok (.tuple #[.string ⟨#[]⟩, .bool false]) w := by kernel_rfl
theorem as48_22 (v : Value) (w : World) : (Instr.typeAssert (.iface 48 v) 20 22 true).run Tryf.prog w = .ok (.tuple #[.slice none 0 0, .bool false]) w := by kernel_rfl
theorem as48_47 (v : Value) (w : World) : (Instr.typeAssert (.iface 48 v) 20 47 true).run Tryf.prog w = .ok (.tuple #[.agg #[.slice none 0 0], .bool false]) w := by kernel_rfl
theorem as48_33 (v : Value) (w : World) : (Instr.typeAssert (.iface 48 v) 20 33 true).run Tryf.prog w = .ok (.tuple #[.slice none 0 0, .bool false]) w := by kernel_rfl
theorem as48_48 (v : Value) (w : World) : (Instr.typeAssert (.iface 48 v) 20 48 true).run Tryf.prog w = .ok (.tuple #[v, .bool true]) w := by kernel_rfl

/-- What appending an integer gives. -/
def intEncZ (zs : List Int) (i : Int) : List Int := zs ++ [105] ++ itoaZ i ++ [101]

theorem appendInt_enc (a : Option Addr) (zs : List Int) (i : Int) (h0 : -9223372036854775808 ≤ i) (h1 : i ≤ 9223372036854775807) (w : World) (hT : Tab w) (hr : Reads w a zs) (hn : zs.length ≤ 4194304) :
    Calls Tryf.prog 26 #[.slice a zs.length zs.length, .int .i64 i] w fun e w' => ∃ a' c', e = .returned (.slice a' (intEncZ zs i).length c') ∧ Reads w' a' (intEncZ zs i) ∧ Below w.heap.size w w' :=
  appendInt_any a zs i h0 h1 w hT hr hn

set_option maxRecDepth 100000 in
set_option maxHeartbeats 1000000 in
theorem av_int (a : Option Addr) (zs : List Int) (i : Int) (h0 : -9223372036854775808 ≤ i) (h1 : i ≤ 9223372036854775807) (w : World) (hT : Tab w) (hr : Reads w a zs) (hn : zs.length ≤ 4194304) :
    Calls Tryf.prog 25 #[.slice a zs.length zs.length, .iface 3 (.int .i64 i)] w fun e w' => ∃ a' c', e = .returned (.tuple #[.slice a' (intEncZ zs i).length c', .nilIface]) ∧ Reads w' a' (intEncZ zs i) ∧ Below w.heap.size w w' := by
  have t0 := as3_3
  go_enter Tryf.func25, Tryf.ntmps25
  go_wp2_with (go_at_call 26; refine (appendInt_enc a zs i h0 h1 w hT hr hn).mono ?_; rintro e w1 ⟨a', c', rfl, hr', hnx'⟩)
  go_ret2
  exact ⟨a', c', rfl, hr', hnx'⟩

set_option maxRecDepth 100000 in
set_option maxHeartbeats 1000000 in
theorem av_int64 (a : Option Addr) (zs : List Int) (i : Int) (h0 : -9223372036854775808 ≤ i) (h1 : i ≤ 9223372036854775807) (w : World) (hT : Tab w) (hr : Reads w a zs) (hn : zs.length ≤ 4194304) :
    Calls Tryf.prog 25 #[.slice a zs.length zs.length, .iface 2 (.int .i64 i)] w fun e w' => ∃ a' c', e = .returned (.tuple #[.slice a' (intEncZ zs i).length c', .nilIface]) ∧ Reads w' a' (intEncZ zs i) ∧ Below w.heap.size w w' := by
  have t0 := as2_3
  have t1 := as2_2
  go_enter Tryf.func25, Tryf.ntmps25
  go_wp2_with (go_at_call 26; refine (appendInt_enc a zs i h0 h1 w hT hr hn).mono ?_; rintro e w1 ⟨a', c', rfl, hr', hnx'⟩)
  go_ret2
  exact ⟨a', c', rfl, hr', hnx'⟩

set_option maxRecDepth 100000 in
set_option maxHeartbeats 1000000 in
theorem av_string (B n : Nat) (v : Value) (zs : List Int) (s : ByteArray) (w : World) (hown : w.ownsRow B 5 1 v n (zs.map (Value.int .u8))) (hBw : B ≤ w.heap.size) (hn : n ≤ 16777216) (hs : s.size ≤ 1048576)
    (htab : Lib.TabBelow Tryf.prog B w powName .u64 Lib.pow10Tab) :
    Calls Tryf.prog 25 #[v, .iface 9 (.string s)] w fun e w' => ∃ v', e = .returned (.tuple #[v', .nilIface]) ∧ w'.ownsRow B 5 1 v' (n + (strEncZ s).length) ((zs ++ strEncZ s).map (Value.int .u8)) ∧ Below B w w' := by
  have t0 := as9_3
  have t1 := as9_2
  have t2 := as9_9
  have HT := hidP htab
  clear htab
  go_enter Tryf.func25, Tryf.ntmps25
  go_wp2_with (go_at_call 27; refine (appendString_own B n v zs s w hown hBw hn hs HT.out).mono ?_; rintro e w1 ⟨v', rfl, ho', hnx'⟩)
  go_ret2
  exact ⟨v', rfl, ho', hnx'⟩

set_option maxRecDepth 100000 in
set_option maxHeartbeats 1000000 in
theorem kind_zero (w : World) :
    Calls Tryf.prog 29 #[.agg #[.slice none 0 0]] w fun e w' => e = .returned (.int .u8 0) ∧ Below w.heap.size w w' := by
  go_enter Tryf.func29, Tryf.ntmps29
  go_wp2
  go_ret
  exact ⟨rfl, (Below.refl _ _).alloc (Nat.le_refl _) _⟩

set_option maxRecDepth 100000 in
set_option maxHeartbeats 1000000 in
theorem errorsNew_any (s : ByteArray) (w : World) :
    Calls Tryf.prog 30 #[.string s] w fun e w' => e = .returned (.iface 62 (.pointer (some ⟨w.heap.size, 0, none⟩))) ∧ Below w.heap.size w w' := by
  go_enter Tryf.func30, Tryf.ntmps30
  go_wp2
  go_ret
  exact ⟨rfl, (Below.refl _ _).alloc (Nat.le_refl _) _⟩

set_option maxRecDepth 100000 in
set_option maxHeartbeats 1000000 in
theorem av_zero (v : Value) (w : World) :
    Calls Tryf.prog 25 #[v, .iface 47 (.agg #[.slice none 0 0])] w fun e w' => ∃ x, e = .returned (.tuple #[.slice none 0 0, .iface 62 (.pointer (some x))]) ∧ Below w.heap.size w w' := by
  have t0 := as47_3
  have t1 := as47_2
  have t2 := as47_9
  have t3 := as47_22
  have t4 := as47_47
  go_enter Tryf.func25, Tryf.ntmps25
  go_wp2_with fail
  refine (kind_zero _).mono ?_
  rintro e w1 ⟨rfl, hb1⟩
  have hb1' : Below w.heap.size w w1 := ((Below.refl _ w).alloc (Nat.le_refl _) _).trans (hb1.mono (by simp))
  clear hb1
  go_wp2_with fail
  refine (errorsNew_any _ _).mono ?_
  rintro e w2 ⟨rfl, hb2⟩
  have hb2' := hb1'.trans (hb2.mono hb1'.size)
  clear hb1' hb2
  go_wp2_with fail
  go_ret2
  exact ⟨_, rfl, hb2'⟩

end Go.Proofs.Qxb6615721aFmt
