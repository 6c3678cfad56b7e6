/-
  The law (function 8), out of its callees' contracts.
-/
import Derived.Test.Qxb6000780aStep
namespace Go.Proofs.Qxb6000780a.json
open Go.RowKit

theorem Jv.later {w w' : World} {b n : Nat} {st : Int} (h : Jv w b n st) (hb : Below w.heap.size w w') : Jv w' b n st := by
  obtain ⟨a, cap, xs, s, hx, k, h1, h2, h3⟩ := h
  have hlt : b < w.heap.size := (Array.getElem?_eq_some_iff.1 h1).1
  refine ⟨a, cap, xs, s, hx, k, (hb.block b hlt).trans h1, h2, ?_⟩
  rcases h3 with h3 | ⟨g, c, cur, e1, e2, e3, e4⟩
  · exact Or.inl h3
  · exact Or.inr ⟨g, c, cur, e1, e2, (hb.block g (Array.getElem?_eq_some_iff.1 e3).1).trans e3, e4⟩

/-- What begin answers inside n open containers. -/
def begins (c : Int) (n : Nat) : Int := if c = 91 ∨ c = 123 then (if n = 10000 then 3 else 0) else code c

theorem zzbegin_any (w : World) (b n : Nat) (st c : Int) (hj : Jv w b n st) (hn : n ≤ 10000) : Calls Try.prog 17 #[.pointer (some ⟨b, 0, none⟩), .int .u8 c] w (Codes w b (begins c n)) := by
  refine zzbegin_of w b c _ b ?_
  unfold begins
  by_cases hc : c = 91 ∨ c = 123
  · rw [if_pos hc]
    by_cases hm : n = 10000
    · subst hm
      rw [if_pos rfl]
      exact (begin_full w b st c hj hc).mono fun e w' ⟨h1, h2⟩ => ⟨h1, by rw [h2]; exact Below.refl _ _⟩
    · rw [if_neg hm]
      rcases hc with rfl | rfl
      · exact (begin_open w b n st hj (by omega)).mono fun e w' ⟨h1, _, h2⟩ => ⟨h1, h2⟩
      · exact (begin_brace w b n st hj (by omega)).mono fun e w' ⟨h1, _, h2⟩ => ⟨h1, h2⟩
  · rw [if_neg hc]
    exact begin_other w b n st c hj (fun h => hc (Or.inl h)) (fun h => hc (Or.inr h))

/-- The law says true; nothing that was there is written. -/
def True8 (w : World) (e : Ending) (w' : World) : Prop := e = .returned (.bool true) ∧ Below w.heap.size w w'

theorem law_out (N c : Int) (w : World) (h : N < 0 ∨ 10000 < N) : Calls Try.prog 8 #[.int .i64 N, .int .u8 c] w (True8 w) := by
  rcases h with h | h
  all_goals
    go_enter Try.func8, Try.ntmps8
    go_wp2
    go_ret
    exact ⟨rfl, Below.refl _ _⟩

/-- Behind k rounds of the law's loop. -/
def Deep (w wr : World) (k : Nat) : Prop := (∃ st, Jv wr w.heap.size k st ∧ (st = 0 ∨ st = 1)) ∧ Below w.heap.size w wr

/-- What stands behind the loop: a fresh value, begin on it and on the deep one. -/
theorem deep_begin {w wr : World} {n : Nat} (h : Deep w wr n) (hn : n ≤ 10000) (c : Int) {w2 : World} (hj2 : Jv w2 wr.heap.size 0 0) (hb2 : Below wr.heap.size wr w2) :
    Calls Try.prog 17 #[.pointer (some ⟨wr.heap.size, 0, none⟩), .int .u8 c] w2 fun e w3 => e = .returned (.int .i64 (begins c 0)) ∧ Below w.heap.size w w3 ∧
      Calls Try.prog 17 #[.pointer (some ⟨w.heap.size, 0, none⟩), .int .u8 c] w3 fun e w4 => e = .returned (.int .i64 (begins c n)) ∧ Below w.heap.size w w4 := by
  obtain ⟨⟨st, hj, _⟩, hB⟩ := h
  refine (zzbegin_any w2 wr.heap.size 0 0 c hj2 (by omega)).mono fun e w3 ⟨he, hb3⟩ => ?_
  have b3 : Below wr.heap.size wr w3 := hb2.trans hb3
  have B3 : Below w.heap.size w w3 := hB.trans (b3.mono hB.size)
  refine ⟨he, B3, ?_⟩
  refine (zzbegin_any w3 w.heap.size n st c (hj.later b3) hn).mono fun e w4 ⟨he4, hb4⟩ => ?_
  exact ⟨he4, B3.trans hb4⟩

set_option maxRecDepth 100000 in
set_option maxHeartbeats 2000000 in
theorem law_in (n : Nat) (c : Int) (w : World) (hn : n ≤ 10000) : Calls Try.prog 8 #[.int .i64 n, .int .u8 c] w (True8 w) := by
  go_enter Try.func8, Try.ntmps8
  go_wp2_with fail
  refine (new_any _).mono ?_
  rintro e w1 ⟨rfl, hj1, hb1⟩
  have HD : Hid (Deep w w1 0) := ⟨⟨0, hj1, Or.inl rfl⟩, hb1⟩
  clear hj1 hb1
  go_wp2_with fail
  go_loopw [6] (fun i wr => ∃ k : Nat, k ≤ n ∧ i = .int .i64 k ∧ Hid (Deep w wr k)) (fun i _ => n - (intOf i).toNat)
  case atStart => exact ⟨0, Nat.zero_le _, rfl, HD⟩
  clear HD
  case round =>
    obtain ⟨k, hk, rfl, H⟩ := hrel
    by_cases hlt : k < n
    · obtain ⟨⟨st, hj, hst⟩, hB⟩ := H.out
      have HZ : Hid (Calls Try.prog 16 #[.pointer (some ⟨w.heap.size, 0, none⟩), .int .u8 91] wr fun e w' => e = .returned (.int .i64 0) ∧ Jv w' w.heap.size (k + 1) 1 ∧ Below w.heap.size wr w') := zzstep_open wr w.heap.size k st hj hst (by omega)
      have HB : Hid (Below w.heap.size w wr) := hB
      clear hj hst hB
      go_wp2_with fail
      refine (HZ.out).mono ?_
      rintro e w2 ⟨rfl, h1, h2⟩
      have HD : Hid (Deep w w2 (k + 1)) := ⟨⟨1, h1, Or.inr rfl⟩, HB.out.trans h2⟩
      clear h1 h2
      go_wp2_with fail
      go_roundw
      case rel => exact ⟨k + 1, by omega, by go_num, HD⟩
      case measure => simp [intOf]; omega
    have hkn : n = k := by omega
    subst hkn
    go_wp2_with fail
    refine (new_any _).mono ?_
    rintro e w2 ⟨rfl, hj2, hb2⟩
    have HF := deep_begin H.out hn c hj2 hb2
    have HF' : Hid (Calls Try.prog 17 _ w2 _) := HF
    clear HF hj2 hb2 H
    by_cases hc : c = 91 ∨ c = 123
    · have e0 : begins c 0 = 0 := by simp [begins, hc]
      by_cases hm : n = 10000
      · have en : begins c n = 3 := by simp [begins, hc, hm]
        rw [e0, en] at HF'
        have hm' : ((n : Int) == 10000) = true := by simp; omega
        clear hm e0 en
        rcases hc with rfl | rfl
        all_goals
          go_wp2_with fail
          refine (HF'.out).mono ?_
          rintro e w3 ⟨rfl, _, hf3⟩
          have HF3 : Hid (Calls Try.prog 17 _ w3 _) := hf3
          clear hf3
          go_wp2_with fail
          refine (HF3.out).mono ?_
          rintro e w4 ⟨rfl, hB⟩
          have HB : Hid (Below w.heap.size w w4) := hB
          clear hB
          go_wp2_with fail
          go_ret
          exact ⟨rfl, HB.out⟩
      · have en : begins c n = 0 := by simp [begins, hc, hm]
        rw [e0, en] at HF'
        have hm' : ((n : Int) == 10000) = false := by simp; omega
        clear hm e0 en
        rcases hc with rfl | rfl
        all_goals
          go_wp2_with fail
          refine (HF'.out).mono ?_
          rintro e w3 ⟨rfl, _, hf3⟩
          have HF3 : Hid (Calls Try.prog 17 _ w3 _) := hf3
          clear hf3
          go_wp2_with fail
          refine (HF3.out).mono ?_
          rintro e w4 ⟨rfl, hB⟩
          have HB : Hid (Below w.heap.size w w4) := hB
          clear hB
          go_wp2_with fail
          go_ret
          exact ⟨rfl, HB.out⟩
    · have e0 : begins c 0 = code c := by simp [begins, hc]
      have en : begins c n = code c := by simp [begins, hc]
      rw [e0, en] at HF'
      have h1 : (c == 91) = false := beq_eq_false_iff_ne.2 fun h => hc (Or.inl h)
      have h2 : (c == 123) = false := beq_eq_false_iff_ne.2 fun h => hc (Or.inr h)
      generalize code c = r at HF'
      clear hc e0 en
      go_wp2_with fail
      refine (HF'.out).mono ?_
      rintro e w3 ⟨rfl, _, hf3⟩
      have HF3 : Hid (Calls Try.prog 17 _ w3 _) := hf3
      clear hf3
      go_wp2_with fail
      refine (HF3.out).mono ?_
      rintro e w4 ⟨rfl, hB⟩
      have HB : Hid (Below w.heap.size w w4) := hB
      clear hB
      go_wp2_with fail
      go_ret
      exact ⟨rfl, HB.out⟩

end Go.Proofs.Qxb6000780a.json
