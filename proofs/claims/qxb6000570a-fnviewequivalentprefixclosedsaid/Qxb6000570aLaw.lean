/-
  The law (function 8), out of its callees' contracts.
-/
import Derived.Test.Qxb6000570aShape
import Derived.Test.Qxb6000570aZZ
namespace Go.Proofs.Qxb6000570a.view
open Go.RowKit

/-- The law says true; nothing that was there is written. -/
def True8 (w : World) (e : Ending) (w' : World) : Prop := e = .returned (.bool true) ∧ Below w.heap.size w w'

set_option maxRecDepth 100000 in
set_option maxHeartbeats 4000000 in
/-- A length or nItems is out of its bounds: true at once. -/
theorem law_out (N kk : Int) (a1 a2 a3 a4 a5 : Option Addr) (n1 n2 n3 m n5 c1 c2 c3 c4 c5 : Nat) (w : World)
    (hz : Hid (Calls Try.prog 31 #[.int .i64 N, .slice a1 n1 c1, .slice a2 n2 c2, .slice a3 n3 c3, .slice a4 m c4, .slice a5 n5 c5, .int .i64 kk] w (Answered w)))
    (b1 : n1 ≤ maxLen) (b2 : n2 ≤ maxLen) (b3 : n3 ≤ maxLen) (bm : m ≤ maxLen) (b5 : n5 ≤ maxLen)
    (t : ¬ (n1 ≤ 65536 ∧ n2 ≤ 65536 ∧ n3 ≤ 65536 ∧ m ≤ 65536 ∧ n5 ≤ 65536 ∧ 0 ≤ N ∧ N ≤ 16384)) :
    Calls Try.prog 8 #[.int .i64 N, .slice a1 n1 c1, .slice a2 n2 c2, .slice a3 n3 c3, .slice a4 m c4, .slice a5 n5 c5, .int .i64 kk] w (True8 w) := by
  unfold maxLen at b1 b2 b3 bm b5
  have ts : 65536 < n1 ∨ (n1 ≤ 65536 ∧ 65536 < n2) ∨ (n1 ≤ 65536 ∧ n2 ≤ 65536 ∧ 65536 < n3) ∨ (n1 ≤ 65536 ∧ n2 ≤ 65536 ∧ n3 ≤ 65536 ∧ 65536 < m) ∨ (n1 ≤ 65536 ∧ n2 ≤ 65536 ∧ n3 ≤ 65536 ∧ m ≤ 65536 ∧ 65536 < n5) ∨
    (n1 ≤ 65536 ∧ n2 ≤ 65536 ∧ n3 ≤ 65536 ∧ m ≤ 65536 ∧ n5 ≤ 65536 ∧ N < 0) ∨ (n1 ≤ 65536 ∧ n2 ≤ 65536 ∧ n3 ≤ 65536 ∧ m ≤ 65536 ∧ n5 ≤ 65536 ∧ 0 ≤ N ∧ 16384 < N) := by omega
  clear t
  rcases ts with t1 | ⟨t1, t2⟩ | ⟨t1, t2, t3⟩ | ⟨t1, t2, t3, t4⟩ | ⟨t1, t2, t3, t4, t5⟩ | ⟨t1, t2, t3, t4, t5, t6⟩ | ⟨t1, t2, t3, t4, t5, t6, t7⟩
  all_goals
    go_enter Try.func8, Try.ntmps8
    go_wp2_with fail
    refine (hz.out).mono ?_
    rintro e w' ⟨b, rfl, rfl⟩
    cases b
    all_goals
      go_wp2_with fail
      go_ret
      exact ⟨rfl, Below.refl _ _⟩

set_option maxRecDepth 100000 in
set_option maxHeartbeats 4000000 in
theorem law_in (N kk : Int) (a1 a2 a3 a4 a5 : Option Addr) (n1 n2 n3 m n5 c1 c2 c3 c4 c5 : Nat) (z1 z2 z3 : Nat → Int) (L : Nat → Nat) (Z : Nat → Nat → Int) (z5 : Nat → Int) (w : World)
    (hz : Hid (Calls Try.prog 31 #[.int .i64 N, .slice a1 n1 c1, .slice a2 n2 c2, .slice a3 n3 c3, .slice a4 m c4, .slice a5 n5 c5, .int .i64 kk] w (Answered w)))
    (hs : Hid (Calls Try.prog 32 #[.int .i64 N, .slice a1 n1 c1, .slice a2 n2 c2, .slice a3 n3 c3, .slice a4 m c4, .slice a5 n5 c5] w (Shaped w (Shape N n1 n2 n3 m n5 z1 L Z z5))))
    (H1 : Hid (Row w 0 a1 n1 z1 ∧ (a1 = none → n1 = 0))) (H2 : Hid (Row w 0 a2 n2 z2 ∧ (a2 = none → n2 = 0))) (H3 : Hid (Row w 0 a3 n3 z3 ∧ (a3 = none → n3 = 0))) (H4 : Hid (Grid w 0 a4 m L Z ∧ (a4 = none → m = 0))) (H5 : Hid (Row w 0 a5 n5 z5 ∧ (a5 = none → n5 = 0)))
    (t1 : n1 ≤ 65536) (t2 : n2 ≤ 65536) (t3 : n3 ≤ 65536) (t4 : m ≤ 65536) (t5 : n5 ≤ 65536) (t6 : 0 ≤ N) (t7 : N ≤ 16384) :
    Calls Try.prog 8 #[.int .i64 N, .slice a1 n1 c1, .slice a2 n2 c2, .slice a3 n3 c3, .slice a4 m c4, .slice a5 n5 c5, .int .i64 kk] w (True8 w) := by
  go_enter Try.func8, Try.ntmps8
  go_wp2_with fail
  refine (hz.out).mono ?_
  rintro e w' ⟨b, rfl, rfl⟩
  cases b
  · go_wp2_with fail
    go_ret
    exact ⟨rfl, Below.refl _ _⟩
  go_wp2_with fail
  refine (hs.out).mono ?_
  rintro e w'' ⟨b, rfl, rfl, hS⟩
  cases b
  · go_wp2_with fail
    go_ret
    exact ⟨rfl, Below.refl _ _⟩
  have S : Hid (Shape N n1 n2 n3 m n5 z1 L Z z5) := hS rfl
  clear hS
  by_cases hk : kk < 0
  · go_wp2_with fail
    go_ret
    exact ⟨rfl, Below.refl _ _⟩
  by_cases hk2 : (n5 : Int) < kk
  · go_wp2_with fail
    go_ret
    exact ⟨rfl, Below.refl _ _⟩
  obtain ⟨k, rfl⟩ := Int.eq_ofNat_of_zero_le (show 0 ≤ kk by omega)
  obtain ⟨NN, rfl⟩ := Int.eq_ofNat_of_zero_le t6
  obtain ⟨rfl, rfl, _, _, _⟩ := S.out.len
  have hkn : k ≤ n5 := by omega
  go_wp2_with fail
  refine (clone_any a1 n3 c1 z1 w'' H1.out.1 H1.out.2 (by omega)).mono ?_
  rintro e w1 ⟨p1, d1, rfl, e1, l1, r1, bl1⟩
  have R1 : Hid (Row w1 0 p1 n3 z1) := r1.mono (Nat.zero_le _)
  have B1 : Hid (Below w''.heap.size w'' w1) := bl1
  clear e1 l1 r1 bl1
  go_wp2_with fail
  refine (clone_any a2 n3 c2 z2 w1 (H2.out.1.later B1.out) H2.out.2 (by omega)).mono ?_
  rintro e w2 ⟨p2, d2, rfl, e1, l1, r1, bl1⟩
  have R2 : Hid (Row w2 0 p2 n3 z2) := r1.mono (Nat.zero_le _)
  have B2 : Hid (Below w''.heap.size w'' w2) := B1.out.trans (bl1.mono B1.out.size)
  have R1' : Hid (Row w2 0 p1 n3 z1) := R1.out.later bl1
  clear e1 l1 r1 bl1 R1
  go_wp2_with fail
  refine (clone_any a3 n3 c3 z3 w2 (H3.out.1.later B2.out) H3.out.2 (by omega)).mono ?_
  rintro e w3 ⟨p3, d3, rfl, e1, l1, r1, bl1⟩
  have R3 : Hid (Row w3 0 p3 n3 z3) := r1.mono (Nat.zero_le _)
  have B3 : Hid (Below w''.heap.size w'' w3) := B2.out.trans (bl1.mono B2.out.size)
  have R1 : Hid (Row w3 0 p1 n3 z1) := R1'.out.later bl1
  have R2' : Hid (Row w3 0 p2 n3 z2) := R2.out.later bl1
  clear e1 l1 r1 bl1 R1' R2
  have HL : ∀ r, r < m → L r ≤ 1048576 := fun r hr => Nat.le_trans (S.out.rows r hr) (by omega)
  have HL' : Hid (∀ r, r < m → L r ≤ 1048576) := HL
  clear HL
  go_wp2_with fail
  refine (adj_any a4 m c4 L Z w3 (H4.out.1.later B3.out) H4.out.2 (by omega) HL'.out).mono ?_
  rintro e w4 ⟨p4, d4, rfl, r1, bl1⟩
  have G4 : Hid (Grid w4 0 p4 m L Z) := r1
  have B4 : Hid (Below w''.heap.size w'' w4) := B3.out.trans (bl1.mono B3.out.size)
  have R1' : Hid (Row w4 0 p1 n3 z1) := R1.out.later bl1
  have R2 : Hid (Row w4 0 p2 n3 z2) := R2'.out.later bl1
  have R3' : Hid (Row w4 0 p3 n3 z3) := R3.out.later bl1
  clear r1 bl1 R1 R2' R3
  go_wp2_with fail
  refine (clone_any a5 n5 c5 z5 w4 (H5.out.1.later B4.out) H5.out.2 (by omega)).mono ?_
  rintro e w5 ⟨p5, d5, rfl, e1, l1, r1, bl1⟩
  have R5 : Hid (Row w5 0 p5 n5 z5) := r1.mono (Nat.zero_le _)
  have B5 : Hid (Below w''.heap.size w'' w5) := B4.out.trans (bl1.mono B4.out.size)
  have R1 : Hid (Row w5 0 p1 n3 z1) := R1'.out.later bl1
  have R2' : Hid (Row w5 0 p2 n3 z2) := R2.out.later bl1
  have R3 : Hid (Row w5 0 p3 n3 z3) := R3'.out.later bl1
  have G4' : Hid (Grid w5 0 p4 m L Z) := G4.out.later bl1
  clear e1 r1 bl1 R1' R2 R3' G4
  go_wp2_with fail
  refine (zz_any NN n3 m n5 p1 p2 p3 p4 p5 d1 d2 d3 d4 d5 z1 z2 z3 L Z z5 w5 R1 R2' R3 G4' R5 (by omega) (by omega) (by omega) S.out.rows S.out.items S.out.accs S.out.nodes).mono ?_
  rintro e w6 ⟨b, rfl, hiff, bl1⟩
  have B6 : Hid (Below w''.heap.size w'' w6) := B5.out.trans (bl1.mono B5.out.size)
  cases b
  · clear hiff bl1
    go_wp2_with fail
    go_ret
    exact ⟨rfl, B6.out⟩
  have HP : Hid (∀ j, j < n5 → NodeOk z1 z2 z3 L Z z5 j) := hiff.1 rfl
  have hkI : (k : Int) ≤ (d5 : Int) := by omega
  have R1' : Hid (Row w6 0 p1 n3 z1) := R1.out.later bl1
  have R2 : Hid (Row w6 0 p2 n3 z2) := R2'.out.later bl1
  have R3' : Hid (Row w6 0 p3 n3 z3) := R3.out.later bl1
  have G4 : Hid (Grid w6 0 p4 m L Z) := G4'.out.later bl1
  have R5' : Hid (Row w6 0 p5 n5 z5) := R5.out.later bl1
  clear hiff bl1 R1 R2' R3 G4' R5
  go_wp2_with fail
  refine (zz_any NN n3 m k p1 p2 p3 p4 p5 d1 d2 d3 d4 d5 z1 z2 z3 L Z z5 w6 R1' R2 R3' G4 (R5'.out.take hkn) (by omega) (by omega) (by omega) S.out.rows S.out.items S.out.accs (fun i hi => S.out.nodes i (by omega))).mono ?_
  rintro e w7 ⟨b, rfl, hiff, bl1⟩
  have hb : b = true := hiff.2 fun j hj => HP.out j (by omega)
  subst hb
  have B7 : Hid (Below w''.heap.size w'' w7) := B6.out.trans (bl1.mono B6.out.size)
  clear hiff bl1
  go_wp2_with fail
  go_ret
  exact ⟨rfl, B7.out⟩

/-- THE LAW, for slices in memory. -/
theorem law_any (N kk : Int) (a1 a2 a3 a4 a5 : Option Addr) (n1 n2 n3 m n5 c1 c2 c3 c4 c5 : Nat) (z1 z2 z3 : Nat → Int) (L : Nat → Nat) (Z : Nat → Nat → Int) (z5 : Nat → Int) (w : World)
    (H1 : Row w 0 a1 n1 z1 ∧ (a1 = none → n1 = 0)) (H2 : Row w 0 a2 n2 z2 ∧ (a2 = none → n2 = 0)) (H3 : Row w 0 a3 n3 z3 ∧ (a3 = none → n3 = 0)) (H4 : Grid w 0 a4 m L Z ∧ (a4 = none → m = 0)) (H5 : Row w 0 a5 n5 z5 ∧ (a5 = none → n5 = 0))
    (b1 : n1 ≤ maxLen) (b2 : n2 ≤ maxLen) (b3 : n3 ≤ maxLen) (bm : m ≤ maxLen) (b5 : n5 ≤ maxLen) (bL : ∀ r, r < m → L r ≤ maxLen) :
    Calls Try.prog 8 #[.int .i64 N, .slice a1 n1 c1, .slice a2 n2 c2, .slice a3 n3 c3, .slice a4 m c4, .slice a5 n5 c5, .int .i64 kk] w (True8 w) := by
  have hz := bytes_any N kk a1 a2 a3 a4 a5 n1 n2 n3 m n5 c1 c2 c3 c4 c5 L Z w H4.1 b1 b2 b3 bm b5 bL
  by_cases t : n1 ≤ 65536 ∧ n2 ≤ 65536 ∧ n3 ≤ 65536 ∧ m ≤ 65536 ∧ n5 ≤ 65536 ∧ 0 ≤ N ∧ N ≤ 16384
  · obtain ⟨t1, t2, t3, t4, t5, t6, t7⟩ := t
    exact law_in N kk a1 a2 a3 a4 a5 n1 n2 n3 m n5 c1 c2 c3 c4 c5 z1 z2 z3 L Z z5 w hz (shape_any N a1 a2 a3 a4 a5 n1 n2 n3 m n5 c1 c2 c3 c4 c5 z1 L Z z5 w H1.1 H4.1 H5.1 b1 b2 b3 bm b5 bL) H1 H2 H3 H4 H5 t1 t2 t3 t4 t5 t6 t7
  · exact law_out N kk a1 a2 a3 a4 a5 n1 n2 n3 m n5 c1 c2 c3 c4 c5 w hz b1 b2 b3 bm b5 t

end Go.Proofs.Qxb6000570a.view
