/-
  viewShapeOK (function 32): it only reads; where it says yes the shape is as its text says.
-/
import Derived.Test.Qxb6000570aBase
namespace Go.Proofs.Qxb6000570a.view
open Go.RowKit

/-- What viewShapeOK has seen where it says yes. -/
structure Shape (N : Int) (n1 n2 n3 m n5 : Nat) (z1 : Nat → Int) (L : Nat → Nat) (Z : Nat → Nat → Int) (z5 : Nat → Int) : Prop where
  nN : 0 ≤ N ∧ N ≤ 16384
  len : n2 = n1 ∧ n3 = n1 ∧ n1 ≤ 65536 ∧ m ≤ 65536 ∧ n5 ≤ 65536
  rows : ∀ r, r < m → L r ≤ 131072
  items : ∀ i, i < n1 → 0 ≤ z1 i ∧ z1 i < N
  accs : ∀ r, r < m → ∀ i, i < L r → 0 ≤ Z r i ∧ Z r i < (n1 : Int)
  nodes : ∀ i, i < n5 → 0 ≤ z5 i ∧ z5 i < (m : Int)

def Shaped (w : World) (S : Prop) (e : Ending) (w' : World) : Prop := ∃ b : Bool, e = .returned (.bool b) ∧ w' = w ∧ (b = true → S)

theorem upto_succ {P : Nat → Prop} {k : Nat} (h : ∀ i, i < k → P i) (hk : P k) : ∀ i, i < k + 1 → P i := by
  intro i hi
  by_cases e : i = k
  · rw [e]; exact hk
  · exact h i (by omega)


set_option maxRecDepth 100000 in
set_option maxHeartbeats 4000000 in
/-- Where the lengths and nItems are within their bounds. -/
theorem shape_main (N : Int) (a1 a2 a3 a4 a5 : Option Addr) (n1 n2 n3 m n5 c1 c2 c3 c4 c5 : Nat) (z1 : Nat → Int) (L : Nat → Nat) (Z : Nat → Nat → Int) (z5 : Nat → Int) (w : World)
    (H1 : Hid (Row w 0 a1 n1 z1)) (HG : Hid (Grid w 0 a4 m L Z)) (H5 : Hid (Row w 0 a5 n5 z5)) (HL : Hid (∀ r, r < m → L r ≤ 9223372036854775807))
    (t1 : n1 ≤ 65536) (t2 : n2 ≤ 65536) (t3 : n3 ≤ 65536) (t4 : m ≤ 65536) (t5 : n5 ≤ 65536) (t6 : 0 ≤ N) (t7 : N ≤ 16384) (t8 : 8 * ((n1 : Int) + n2 + n3 + m + n5) ≤ 1048576) :
    Calls Try.prog 32 #[.int .i64 N, .slice a1 n1 c1, .slice a2 n2 c2, .slice a3 n3 c3, .slice a4 m c4, .slice a5 n5 c5] w (Shaped w (Shape N n1 n2 n3 m n5 z1 L Z z5)) := by
  go_enter Try.func32, Try.ntmps32
  go_wp2
  go_loop [13, 14] (fun z i => ∃ k q : Nat, k ≤ m ∧ i = .int .i64 k ∧ z = .int .i64 q ∧ q ≤ 1048576 ∧ Hid (∀ r, r < k → L r ≤ 131072)) (fun _ i => m - (intOf i).toNat)
  case atStart => exact ⟨0, 8 * (n1 + n2 + n3 + m + n5), Nat.zero_le _, rfl, by go_num, by omega, fun r hr => absurd hr (by omega)⟩
  case round =>
    obtain ⟨k, q, hk, rfl, rfl, hq, hrows⟩ := hrel
    by_cases hlt : k < m
    · obtain ⟨p, ar, cr, hix, hcell, _, _⟩ := HG.out.at c4 hlt
      have hb := HL.out k hlt
      obtain ⟨l, hl⟩ : ∃ l, L k = l := ⟨_, rfl⟩
      rw [hl] at hcell hb
      have Hl : Hid (L k = l) := hl
      clear hl
      go_wp2
      all_goals first
        | (go_ret; exact ⟨false, rfl, rfl, by simp⟩)
        | (go_round; (case rel => exact ⟨k + 1, q + 8 * l, by omega, by go_num, by go_num, by omega, upto_succ hrows.out (by rw [Hl.out]; omega)⟩); (case measure => simp [intOf]; omega))
    have hkm : k = m := by omega
    subst hkm
    by_cases e2 : n2 = n1
    case neg =>
      have e2' : ((n2 : Int) != (n1 : Int)) = true := by rw [bne_iff_ne]; omega
      clear e2
      go_wp2
      go_ret
      exact ⟨false, rfl, rfl, by simp⟩
    subst e2
    by_cases e3 : n3 = n2
    case neg =>
      have e3' : ((n3 : Int) != (n2 : Int)) = true := by rw [bne_iff_ne]; omega
      clear e3
      go_wp2
      go_ret
      exact ⟨false, rfl, rfl, by simp⟩
    subst e3
    go_wp2
    go_loop [15] (fun i => ∃ j : Nat, j ≤ n3 ∧ i = .int .i64 j ∧ Hid (∀ i, i < j → 0 ≤ z1 i ∧ z1 i < N)) (fun i => n3 - (intOf i).toNat)
    case atStart => exact ⟨0, Nat.zero_le _, rfl, fun r hr => absurd hr (by omega)⟩
    case round =>
      obtain ⟨j, hj, rfl, hitems⟩ := hrel
      by_cases hjlt : j < n3
      · obtain ⟨p, hix, hcell⟩ := H1.out.at c1 hjlt
        obtain ⟨x, hx⟩ : ∃ x, z1 j = x := ⟨_, rfl⟩
        rw [hx] at hcell
        have Hx : Hid (z1 j = x) := hx
        clear hx
        go_wp2
        all_goals first
          | (go_ret; exact ⟨false, rfl, rfl, by simp⟩)
          | (go_round; (case rel => exact ⟨j + 1, by omega, by go_num, upto_succ hitems.out (by rw [Hx.out]; omega)⟩); (case measure => simp [intOf]; omega))
      have hjn : j = n3 := by omega
      subst hjn
      go_wp2
      go_loop [16] (fun i => ∃ r : Nat, r ≤ k ∧ i = .int .i64 r ∧ Hid (∀ r', r' < r → ∀ i, i < L r' → 0 ≤ Z r' i ∧ Z r' i < (j : Int))) (fun i => k - (intOf i).toNat)
      case atStart => exact ⟨0, Nat.zero_le _, rfl, fun r hr => absurd hr (by omega)⟩
      case round =>
        obtain ⟨r, hr, rfl, haccs⟩ := hrel
        by_cases hrlt : r < k
        · obtain ⟨p, ar, cr, hix, hcell, _, hrow⟩ := HG.out.at c4 hrlt
          have hb := hrows.out r hrlt
          obtain ⟨l, hl⟩ : ∃ l, L r = l := ⟨_, rfl⟩
          rw [hl] at hcell hrow hb
          have Hl : Hid (L r = l) := hl
          have Hrow : Hid (Row w 0 ar l (Z r)) := hrow
          clear hl hrow
          go_wp2
          go_loop [18] (fun i => ∃ s : Nat, s ≤ l ∧ i = .int .i64 s ∧ Hid (∀ i, i < s → 0 ≤ Z r i ∧ Z r i < (j : Int))) (fun i => l - (intOf i).toNat)
          case atStart => exact ⟨0, Nat.zero_le _, rfl, fun r hr => absurd hr (by omega)⟩
          case round =>
            obtain ⟨s, hs, rfl, hone⟩ := hrel
            by_cases hslt : s < l
            · obtain ⟨p2, hix2, hcell2⟩ := Hrow.out.at cr hslt
              obtain ⟨x, hx⟩ : ∃ x, Z r s = x := ⟨_, rfl⟩
              rw [hx] at hcell2
              have Hx : Hid (Z r s = x) := hx
              clear hx hix hcell
              go_wp2
              all_goals first
                | (go_ret; exact ⟨false, rfl, rfl, by simp⟩)
                | (go_round; (case rel => exact ⟨s + 1, by omega, by go_num, upto_succ hone.out (by rw [Hx.out]; omega)⟩); (case measure => simp [intOf]; omega))
            have hsl : s = l := by omega
            subst hsl
            go_wp2
            go_round
            case rel => exact ⟨r + 1, by omega, by go_num, upto_succ haccs.out (by rw [Hl.out]; exact hone.out)⟩
            case measure => simp [intOf]; omega
        have hrk : r = k := by omega
        subst hrk
        go_wp2
        go_loop [19] (fun i => ∃ s : Nat, s ≤ n5 ∧ i = .int .i64 s ∧ Hid (∀ i, i < s → 0 ≤ z5 i ∧ z5 i < (r : Int))) (fun i => n5 - (intOf i).toNat)
        case atStart => exact ⟨0, Nat.zero_le _, rfl, fun r hr => absurd hr (by omega)⟩
        case round =>
          obtain ⟨s, hs, rfl, hone⟩ := hrel
          by_cases hslt : s < n5
          · obtain ⟨p2, hix2, hcell2⟩ := H5.out.at c5 hslt
            obtain ⟨x, hx⟩ : ∃ x, z5 s = x := ⟨_, rfl⟩
            rw [hx] at hcell2
            have Hx : Hid (z5 s = x) := hx
            clear hx
            go_wp2
            all_goals first
              | (go_ret; exact ⟨false, rfl, rfl, by simp⟩)
              | (go_round; (case rel => exact ⟨s + 1, by omega, by go_num, upto_succ hone.out (by rw [Hx.out]; omega)⟩); (case measure => simp [intOf]; omega))
          have hsn : s = n5 := by omega
          subst hsn
          go_wp2
          go_ret
          exact ⟨true, rfl, rfl, fun _ => ⟨⟨t6, t7⟩, ⟨rfl, rfl, t1, t4, t5⟩, hrows.out, hitems.out, haccs.out, hone.out⟩⟩

set_option maxRecDepth 100000 in
set_option maxHeartbeats 4000000 in
theorem shape_any (N : Int) (a1 a2 a3 a4 a5 : Option Addr) (n1 n2 n3 m n5 c1 c2 c3 c4 c5 : Nat) (z1 : Nat → Int) (L : Nat → Nat) (Z : Nat → Nat → Int) (z5 : Nat → Int) (w : World)
    (h1 : Row w 0 a1 n1 z1) (hg : Grid w 0 a4 m L Z) (h5 : Row w 0 a5 n5 z5) (b1 : n1 ≤ maxLen) (b2 : n2 ≤ maxLen) (b3 : n3 ≤ maxLen) (bm : m ≤ maxLen) (b5 : n5 ≤ maxLen) (bL : ∀ r, r < m → L r ≤ maxLen) :
    Calls Try.prog 32 #[.int .i64 N, .slice a1 n1 c1, .slice a2 n2 c2, .slice a3 n3 c3, .slice a4 m c4, .slice a5 n5 c5] w (Shaped w (Shape N n1 n2 n3 m n5 z1 L Z z5)) := by
  unfold maxLen at b1 b2 b3 bm b5 bL
  by_cases t : n1 ≤ 65536 ∧ n2 ≤ 65536 ∧ n3 ≤ 65536 ∧ m ≤ 65536 ∧ n5 ≤ 65536 ∧ 0 ≤ N ∧ N ≤ 16384 ∧ 8 * ((n1 : Int) + n2 + n3 + m + n5) ≤ 1048576
  · obtain ⟨t1, t2, t3, t4, t5, t6, t7, t8⟩ := t
    exact shape_main N a1 a2 a3 a4 a5 n1 n2 n3 m n5 c1 c2 c3 c4 c5 z1 L Z z5 w h1 hg h5 bL t1 t2 t3 t4 t5 t6 t7 t8
  have ts : 65536 < n1 ∨ (n1 ≤ 65536 ∧ 65536 < n2) ∨ (n1 ≤ 65536 ∧ n2 ≤ 65536 ∧ 65536 < n3) ∨ (n1 ≤ 65536 ∧ n2 ≤ 65536 ∧ n3 ≤ 65536 ∧ 65536 < m) ∨ (n1 ≤ 65536 ∧ n2 ≤ 65536 ∧ n3 ≤ 65536 ∧ m ≤ 65536 ∧ 65536 < n5) ∨
    (n1 ≤ 65536 ∧ n2 ≤ 65536 ∧ n3 ≤ 65536 ∧ m ≤ 65536 ∧ n5 ≤ 65536 ∧ N < 0) ∨ (n1 ≤ 65536 ∧ n2 ≤ 65536 ∧ n3 ≤ 65536 ∧ m ≤ 65536 ∧ n5 ≤ 65536 ∧ 0 ≤ N ∧ 16384 < N) ∨
    (n1 ≤ 65536 ∧ n2 ≤ 65536 ∧ n3 ≤ 65536 ∧ m ≤ 65536 ∧ n5 ≤ 65536 ∧ 0 ≤ N ∧ N ≤ 16384 ∧ 1048576 < 8 * ((n1 : Int) + n2 + n3 + m + n5)) := by omega
  clear t h1 hg h5 bL
  rcases ts with t1 | ⟨t1, t2⟩ | ⟨t1, t2, t3⟩ | ⟨t1, t2, t3, t4⟩ | ⟨t1, t2, t3, t4, t5⟩ | ⟨t1, t2, t3, t4, t5, t6⟩ | ⟨t1, t2, t3, t4, t5, t6, t7⟩ | ⟨t1, t2, t3, t4, t5, t6, t7, t8⟩
  all_goals
    go_enter Try.func32, Try.ntmps32
    go_wp2
    go_ret
    exact ⟨false, rfl, rfl, by simp⟩

end Go.Proofs.Qxb6000570a.view
