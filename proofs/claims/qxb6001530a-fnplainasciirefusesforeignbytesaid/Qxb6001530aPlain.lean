/-
  Contracts of the functions on the road of 'FnPlainASCIIRefusesForeignByte': plainASCII (11), ZZplainASCII (7), zzBytes (8), zzAllowedByte (9).
-/
import Derived.Test.Qxb6001530aProg
import Derived.WalkKit
import Derived.WalkSpells
namespace Go.Proofs.Qxb6001530a.plain
open Go.RowKit

/-- A byte that plain text may not hold: no tab, no line feed, no carriage return, and below a space or above '~'. -/
def Foreign (n : Int) : Prop := n ≠ 9 ∧ n ≠ 10 ∧ n ≠ 13 ∧ (n < 32 ∨ 127 ≤ n)

theorem nonempty (t : ByteArray) (h : 0 < t.size) : t.toList.isEmpty = false := by
  have e : t.toList.length = t.size := by rw [ByteArray.toList_eq]; simp
  cases h' : t.toList with
  | nil => rw [h'] at e; simp at e; omega
  | cons a l => rfl

set_option maxHeartbeats 800000 in
theorem plain_false (t : ByteArray) (i : Nat) (hi : i < t.size) (hf : Foreign (t[i].toNat : Int)) (ht : t.size ≤ 2000000) (w : World) :
    Calls Try.prog 11 #[.string t] w fun e w' => e = .returned (.bool false) ∧ w' = w := by
  have hpos : 0 < t.size := by omega
  have hne := nonempty t hpos
  go_enter Try.func11, Try.ntmps11
  go_wp2
  · go_ret
    exact ⟨rfl, rfl⟩
  · go_loop [3] (fun v => ∃ k : Nat, k ≤ i ∧ v = .int .i64 k) (fun v => t.size - (intOf v).toNat)
    case atStart => exact ⟨0, Nat.zero_le _, rfl⟩
    case round =>
      obtain ⟨k, hk, rfl⟩ := hrel
      by_cases hki : k = i
      · subst hki
        have h9 : ((t[k].toNat : Int) == 9) = false := beq_eq_false_iff_ne.2 hf.1
        have h10 : ((t[k].toNat : Int) == 10) = false := beq_eq_false_iff_ne.2 hf.2.1
        have h13 : ((t[k].toNat : Int) == 13) = false := beq_eq_false_iff_ne.2 hf.2.2.1
        rcases hf.2.2.2 with h | h
        all_goals
          clear hf
          go_wp2
          go_ret
          exact ⟨rfl, rfl⟩
      · clear hf
        go_wp2
        all_goals first
          | (go_ret; exact ⟨rfl, rfl⟩)
          | (go_round; (case rel => exact ⟨k + 1, by omega, by go_num⟩); (case measure => simp [intOf]; omega))
  · go_ret
    exact ⟨rfl, rfl⟩

theorem zz_false (t : ByteArray) (i : Nat) (hi : i < t.size) (hf : Foreign (t[i].toNat : Int)) (ht : t.size ≤ 2000000) (w : World) :
    Calls Try.prog 7 #[.string t] w fun e w' => e = .returned (.bool false) ∧ w' = w := by
  go_enter Try.func7, Try.ntmps7
  go_wp2_with (go_at_call 11; refine (plain_false t i hi hf ht _).mono ?_; rintro e w' ⟨rfl, rfl⟩)
  go_ret
  exact ⟨rfl, rfl⟩

theorem bytes_no (s : ByteArray) (a1 a2 : Int) (h : 1048576 < s.size) (hs : s.size ≤ maxLen) (w : World) :
    Calls Try.prog 8 #[.string s, .int .i64 a1, .int .u8 a2] w fun e w' => e = .returned (.bool false) ∧ w' = w := by
  unfold maxLen at hs
  go_enter Try.func8, Try.ntmps8
  go_wp2
  go_ret
  exact ⟨rfl, rfl⟩

theorem bytes_yes (s : ByteArray) (a1 a2 : Int) (h : s.size ≤ 1048576) (w : World) :
    Calls Try.prog 8 #[.string s, .int .i64 a1, .int .u8 a2] w fun e w' => e = .returned (.bool true) ∧ w' = w := by
  go_enter Try.func8, Try.ntmps8
  go_wp2
  go_ret
  exact ⟨rfl, rfl⟩

theorem allowed_yes (c : Int) (h0 : 0 ≤ c) (h : ¬ Foreign c) (w : World) :
    Calls Try.prog 9 #[.int .u8 c] w fun e w' => e = .returned (.bool true) ∧ w' = w := by
  by_cases h9 : c = 9
  · subst h9
    clear h
    go_enter Try.func9, Try.ntmps9
    go_wp2
    go_ret
    exact ⟨rfl, rfl⟩
  by_cases h10 : c = 10
  · subst h10
    clear h
    go_enter Try.func9, Try.ntmps9
    go_wp2
    go_ret
    exact ⟨rfl, rfl⟩
  by_cases h13 : c = 13
  · subst h13
    clear h
    go_enter Try.func9, Try.ntmps9
    go_wp2
    go_ret
    exact ⟨rfl, rfl⟩
  have g : 32 ≤ c ∧ c ≤ 126 := by unfold Foreign at h; omega
  obtain ⟨g1, g2⟩ := g
  have b9 : (c == 9) = false := beq_eq_false_iff_ne.2 h9
  have b10 : (c == 10) = false := beq_eq_false_iff_ne.2 h10
  have b13 : (c == 13) = false := beq_eq_false_iff_ne.2 h13
  clear h h9 h10 h13
  go_enter Try.func9, Try.ntmps9
  go_wp2
  go_ret
  exact ⟨rfl, rfl⟩

theorem allowed_no (c : Int) (h : Foreign c) (w : World) :
    Calls Try.prog 9 #[.int .u8 c] w fun e w' => e = .returned (.bool false) ∧ w' = w := by
  have b9 : (c == 9) = false := beq_eq_false_iff_ne.2 h.1
  have b10 : (c == 10) = false := beq_eq_false_iff_ne.2 h.2.1
  have b13 : (c == 13) = false := beq_eq_false_iff_ne.2 h.2.2.1
  rcases h.2.2.2 with g | g
  · clear h
    go_enter Try.func9, Try.ntmps9
    go_wp2
    go_ret
    exact ⟨rfl, rfl⟩
  · have hd : decide (c ≤ 126) = false := by simp; omega
    clear h
    go_enter Try.func9, Try.ntmps9
    go_wp2
    go_ret
    exact ⟨rfl, rfl⟩

end Go.Proofs.Qxb6001530a.plain
