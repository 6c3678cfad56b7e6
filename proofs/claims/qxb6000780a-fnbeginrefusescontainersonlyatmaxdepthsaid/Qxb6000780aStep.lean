/-
  (*jsonValue).step (function 22) at '[' where a value may stand.
-/
import Derived.Test.Qxb6000780aBegin
namespace Go.Proofs.Qxb6000780a.json
open Go.RowKit

theorem space_no (w : World) : Calls Try.prog 32 #[.int .u8 91] w fun e w' => e = .returned (.bool false) ∧ w' = w := by
  go_enter Try.func32, Try.ntmps32
  go_wp2
  go_ret
  exact ⟨rfl, rfl⟩

set_option maxRecDepth 100000 in
set_option maxHeartbeats 2000000 in
theorem step_open (w : World) (b n : Nat) (st : Int) (hj : Jv w b n st) (hst : st = 0 ∨ st = 1) (hn : n < 10000) :
    Calls Try.prog 22 #[.pointer (some ⟨b, 0, none⟩), .int .u8 91] w fun e w' => e = .returned (.int .i64 0) ∧ Jv w' b (n + 1) 1 ∧ Below b w w' := by
  have HJ : Hid (Jv w b n st) := hj
  have c1 : w.cell? ⟨b, 1, none⟩ = some (.int .i64 st) := by
    obtain ⟨a, cap, xs, s, h, k, hb, hown⟩ := hj
    exact (cell_block hb 1).1
  clear hj
  rcases hst with rfl | rfl
  all_goals
    go_enter Try.func22, Try.ntmps22
    go_wp2
    refine wp_loop_rounds 1 ?_
    rw [rounds_succ]
    go_wp2_with fail
    refine (space_no _).mono ?_
    rintro e w' ⟨rfl, rfl⟩
    go_wp2_with fail
    refine (begin_open _ b n _ HJ.out hn).mono ?_
    rintro e w1 ⟨rfl, h1, h2⟩
    have H12 : Hid (Jv w1 b (n + 1) 1 ∧ Below b w' w1) := ⟨h1, h2⟩
    clear h1 h2
    go_wp2_with fail
    go_ret
    exact ⟨rfl, H12.out.1, H12.out.2⟩

/-- ZZStep (function 16). -/
theorem zzstep_open (w : World) (b n : Nat) (st : Int) (hj : Jv w b n st) (hst : st = 0 ∨ st = 1) (hn : n < 10000) :
    Calls Try.prog 16 #[.pointer (some ⟨b, 0, none⟩), .int .u8 91] w fun e w' => e = .returned (.int .i64 0) ∧ Jv w' b (n + 1) 1 ∧ Below b w w' := by
  have HJ : Hid (Jv w b n st) := hj
  have hst' : Hid (st = 0 ∨ st = 1) := hst
  clear hj hst
  go_enter Try.func16, Try.ntmps16
  go_wp2_with fail
  refine (step_open _ b n _ HJ.out hst'.out hn).mono ?_
  rintro e w1 ⟨rfl, h1, h2⟩
  have H12 : Hid (Jv w1 b (n + 1) 1 ∧ Below b w w1) := ⟨h1, h2⟩
  clear h1 h2
  go_wp2_with fail
  go_ret
  exact ⟨rfl, H12.out.1, H12.out.2⟩

/-- ZZNewJSONValue (function 15). -/
theorem new_any (w : World) : Calls Try.prog 15 #[] w fun e w' => e = .returned (.pointer (some ⟨w.heap.size, 0, none⟩)) ∧ Jv w' w.heap.size 0 0 ∧ Below w.heap.size w w' := by
  go_enter Try.func15, Try.ntmps15
  go_wp2
  go_ret
  refine ⟨rfl, ⟨none, 0, [], ByteArray.empty, 0, false, ?_, World.ownsRow_nil _ _ _ _⟩, (Below.refl _ _).alloc (Nat.le_refl _) _⟩
  exact heap_alloc_new _ _

/-- ZZBegin (function 17), out of begin's own. -/
theorem zzbegin_of (w : World) (b : Nat) (c r : Int) (B : Nat) (h : Calls Try.prog 23 #[.pointer (some ⟨b, 0, none⟩), .int .u8 c] w (Codes w B r)) :
    Calls Try.prog 17 #[.pointer (some ⟨b, 0, none⟩), .int .u8 c] w (Codes w B r) := by
  have H : Hid (Calls Try.prog 23 #[.pointer (some ⟨b, 0, none⟩), .int .u8 c] w (Codes w B r)) := h
  clear h
  go_enter Try.func17, Try.ntmps17
  go_wp2_with fail
  refine (H.out).mono ?_
  rintro e w1 ⟨rfl, h2⟩
  have H12 : Hid (Below B w w1) := h2
  clear h2
  go_wp2_with fail
  go_ret
  exact ⟨rfl, H12.out⟩

end Go.Proofs.Qxb6000780a.json
