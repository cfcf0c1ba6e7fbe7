import Derived.Test.Qxb6615466aProg
import Derived.WalkKit
import Derived.WalkSpells
import Derived.WalkLawsBesides
import Derived.KernelRfl
import Derived.Deep.QuietTactic
import Derived.BigQuiet
import Derived.Deep.RegionWith
import Derived.Deep.DeepCutAuto
import Derived.Laws.Cover2
namespace Go.Proofs.Qxb6615466a
open Go.RowKit

theorem hidP {p : Prop} (h : p) : Hid p := h

set_option maxRecDepth 100000 in
set_option maxHeartbeats 400000 in
theorem same_any (b : Nat) (w : World) :
    Calls Try.prog 20 #[.float .f64 b, .float .f64 b] w fun e w' => e = .returned (.bool true) ∧ w' = w := by
  rcases ho : FloatKind.f64.format.order b b with _ | c
  · go_enter Try.func20, Try.ntmps20
    go_wp2_with fail
    go_ret
    exact ⟨rfl, rfl⟩
  · cases c
    all_goals (go_enter Try.func20, Try.ntmps20)
    all_goals (go_wp2_with fail)
    all_goals go_ret
    all_goals exact ⟨rfl, rfl⟩

/-- The blocks that the two makers lay. -/
def regObj (st rw sl : Int) : Obj := .cells #[.pointer none, .pointer none, .int .i64 0, .int .u64 0, .int .i64 0, .pointer none, .pointer none, .int .i64 st, .int .i64 0, .int .i64 rw, .int .i64 sl, .pointer none, .bool false] 54
def netObj (wd bl sp hd ou of gr ba ns : Int) : Obj := .cells #[.int .i64 wd, .int .i64 bl, .int .i64 sp, .int .i64 hd, .int .i64 ou, .int .i64 of, .int .i64 gr, .int .i64 ba, .int .i64 ns] 58
def netQObj (st rw sl : Int) (b : Nat) : Obj := .cells #[.pointer none, .pointer none, .int .i64 0, .int .u64 0, .int .i64 0, .pointer none, .pointer none, .int .i64 st, .int .i64 0, .int .i64 rw, .int .i64 sl, .pointer (some ⟨b, 0, none⟩), .bool true] 54

set_option maxRecDepth 100000 in
set_option maxHeartbeats 400000 in
theorem newReg_any (st rw sl : Int) (w : World) :
    Calls Try.prog 18 #[.int .i64 st, .int .i64 rw, .int .i64 sl] w fun e w' => e = .returned (.pointer (some ⟨w.heap.size, 0, none⟩)) ∧ w' = w.alloc (regObj st rw sl) := by
  go_enter Try.func18, Try.ntmps18
  go_wp2_with fail
  go_ret
  exact ⟨rfl, rfl⟩

set_option maxRecDepth 100000 in
set_option maxHeartbeats 400000 in
theorem newNet_any (st rw sl wd bl sp hd ou of gr ba ns : Int) (w : World) :
    Calls Try.prog 22 #[.int .i64 st, .int .i64 rw, .int .i64 sl, .int .i64 wd, .int .i64 bl, .int .i64 sp, .int .i64 hd, .int .i64 ou, .int .i64 of, .int .i64 gr, .int .i64 ba, .int .i64 ns] w fun e w' => e = .returned (.pointer (some ⟨w.heap.size + 1, 0, none⟩)) ∧ w' = (w.alloc (netObj wd bl sp hd ou of gr ba ns)).alloc (netQObj st rw sl w.heap.size) := by
  go_enter Try.func22, Try.ntmps22
  go_wp2_with fail
  go_ret
  exact ⟨rfl, rfl⟩

set_option maxRecDepth 100000 in
set_option maxHeartbeats 400000 in
theorem rows_any (wd bl sp hd ou of gr ba ns : Int) (p : Nat) (w : World) (hsp : 0 < sp) (hp : ns.tdiv sp = (p : Int)) (hm : IntKind.i64.wrap (ns.tdiv sp) = ns.tdiv sp) :
    Calls Try.prog 30 #[.agg #[.int .i64 wd, .int .i64 bl, .int .i64 sp, .int .i64 hd, .int .i64 ou, .int .i64 of, .int .i64 gr, .int .i64 ba, .int .i64 ns]] w fun e w' => e = .returned (.int .i64 (p : Int)) ∧ Below w.heap.size w w' := by
  rw [hp] at hm
  go_enter Try.func30, Try.ntmps30
  go_wp2_with fail
  go_ret
  exact ⟨rfl, (Below.refl _ _).alloc (Nat.le_refl _) _⟩

set_option maxRecDepth 100000 in
set_option maxHeartbeats 400000 in
theorem ciph_any (st wi : Int) (rw : Nat) (sl : Int) (n : Nat) (w : World) (h0 : 0 < rw) (h1 : rw ≤ 1073741824) (h2 : n ≤ 65536) :
    Calls Try.prog 26 #[.agg #[.int .i64 st, .int .i64 wi, .int .i64 rw, .int .i64 sl], .int .i64 n] w fun e w' => e = .returned (.int .i64 (((n + rw - 1) / rw : Nat) : Int)) ∧ Below w.heap.size w w' := by
  have hv : ((n : Int) + (rw : Int) - 1) / (rw : Int) = (((n + rw - 1) / rw : Nat) : Int) := by
    rw [show (n : Int) + (rw : Int) - 1 = ((n + rw - 1 : Nat) : Int) by omega]
    exact (Int.natCast_ediv _ _).symm
  have HV := hidP hv
  clear hv
  go_enter Try.func26, Try.ntmps26
  go_wp2_with fail
  go_ret
  exact ⟨by rw [← HV.out]; rfl, (Below.refl _ _).alloc (Nat.le_refl _) _⟩

end Go.Proofs.Qxb6615466a
