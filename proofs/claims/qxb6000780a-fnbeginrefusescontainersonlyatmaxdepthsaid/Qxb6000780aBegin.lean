/-
  (*jsonValue).begin (function 23).
-/
import Derived.Test.Qxb6000780aProg
import Derived.WalkKit
import Derived.WalkSpells
namespace Go.Proofs.Qxb6000780a.json
open Go.RowKit

/-- The jsonValue in block b: n containers open, its state 'st'; the slice of the open containers is the call's own, in a block behind b. -/
def Jv (w : World) (b n : Nat) (st : Int) : Prop :=
  ∃ (a : Option Addr) (cap : Nat) (xs : List Value) (s : ByteArray) (h : Int) (k : Bool),
    w.heap[b]? = some (.cells #[.slice a n cap, .int .i64 st, .string s, .int .i64 h, .bool k] 44 (0, 0)) ∧ w.ownsRow (b + 1) 5 1 (.slice a n cap) n xs

theorem info5 : (Try.prog.info? 5).map (fun i => (i.zero, i.size, i.bytes)) = some (some (.int .u8 0), 1, 1) := by kernel_rfl

theorem cell_block {w : World} {b : Nat} {c : Array Value} {t : TypeId} (h : w.heap[b]? = some (.cells c t (0, 0))) (i : Nat) : w.cell? ⟨b, i, none⟩ = c[i]? ∧ w.frozen? ⟨b, i, none⟩ = false := by
  constructor
  · simp [World.cell?, h]
  · simp [World.frozen?, h]

/-- Behind the append: the jsonValue's own block and all below it are as they were. -/
theorem grown_block {w w1 : World} {o : Obj} {b n cap : Nat} {a : Option Addr} {xs : List Value} (hlt : b < w.heap.size) (hown : w.ownsRow (b + 1) 5 1 (.slice a n cap) n xs)
    (hg : (w.alloc o).grownBy w1 (Value.slice a n cap).ownBlock) : w1.heap[b]? = w.heap[b]? ∧ Below b w w1 := by
  have hrow : ∀ k, k ≤ b → some k ≠ (Value.slice a n cap).ownBlock := by
    intro k hk he
    rcases hown.2 with ⟨h1, _⟩ | ⟨g, c, cur, h1, hgb, _⟩
    · rw [h1] at he; cases he
    · rw [h1] at he
      have : k = g := by simpa [Value.ownBlock] using he
      omega
  have hall : ∀ k, k ≤ b → w1.heap[k]? = w.heap[k]? := by
    intro k hk
    rw [hg.block k (by simp; omega) (hrow k hk)]
    exact Below.heap_alloc w o k (by omega)
  refine ⟨hall b (Nat.le_refl _), ?_⟩
  exact ⟨hg.os, hg.tape, hg.output, Nat.le_trans (by simp) hg.size, fun k hk => hall k (by omega)⟩

theorem block_set0 {w : World} {b : Nat} {v0 v1 v2 v3 v4 u : Value} {t : TypeId} (h : w.heap[b]? = some (.cells #[v0, v1, v2, v3, v4] t (0, 0))) : (w.setCell ⟨b, 0, none⟩ u).heap[b]? = some (.cells #[u, v1, v2, v3, v4] t (0, 0)) := by
  simp [World.setCell, Array.getElem?_modify, h]

theorem block_set1 {w : World} {b : Nat} {v0 v1 v2 v3 v4 u : Value} {t : TypeId} (h : w.heap[b]? = some (.cells #[v0, v1, v2, v3, v4] t (0, 0))) : (w.setCell ⟨b, 1, none⟩ u).heap[b]? = some (.cells #[v0, u, v2, v3, v4] t (0, 0)) := by
  simp [World.setCell, Array.getElem?_modify, h]

theorem jv_step {w1 : World} {b m : Nat} {st st' h : Int} {v : Value} {s : ByteArray} {k : Bool} {g c : Nat} {xs : List Value}
    (hb : w1.heap[b]? = some (.cells #[v, .int .i64 st, .string s, .int .i64 h, .bool k] 44 (0, 0))) (hown : w1.ownsRow (b + 1) 5 1 (.slice (some ⟨g, 0, none⟩) m c) m xs) :
    Jv ((w1.setCell ⟨b, 0, none⟩ (.slice (some ⟨g, 0, none⟩) m c)).setCell ⟨b, 1, none⟩ (.int .i64 st')) b m st' :=
  ⟨_, c, xs, s, h, k, block_set1 (block_set0 hb), ownsRow_setCell_below (ownsRow_setCell_below hown (by show b < b + 1; omega) _) (by show b < b + 1; omega) _⟩

set_option maxRecDepth 100000 in
set_option maxHeartbeats 2000000 in
theorem begin_open (w : World) (b n : Nat) (st : Int) (hj : Jv w b n st) (hn : n < 10000) :
    Calls Try.prog 23 #[.pointer (some ⟨b, 0, none⟩), .int .u8 91] w fun e w' => e = .returned (.int .i64 0) ∧ Jv w' b (n + 1) 1 ∧ Below b w w' := by
  obtain ⟨a, cap, xs, s, h, k, hb, hown⟩ := hj
  have hlt : b < w.heap.size := (Array.getElem?_eq_some_iff.1 hb).1
  have c0 : w.cell? ⟨b, 0, none⟩ = some (.slice a n cap) := (cell_block hb 0).1
  have Hb : Hid (w.heap[b]? = some (.cells #[.slice a n cap, .int .i64 st, .string s, .int .i64 h, .bool k] 44 (0, 0))) := hb
  have Hown : Hid (w.ownsRow (b + 1) 5 1 (.slice a n cap) n xs) := hown
  have hne : ((n : Int) == 10000) = false := by simp; omega
  obtain ⟨i0, hi, hz0, hz1, hz2⟩ := info_parts info5
  clear hb hown
  go_enter Try.func23, Try.ntmps23
  go_wp2_with (at_builtin; refine wpList_append_own _ rfl _ _ 30 rfl (b + 1) 5 i0 (.int .u8 0) 1 1 Try.underlying30 hi hz0 hz1 hz2 rfl (by decide) _ _ _ rfl (Hown.out.alloc _) ⟨w.heap.size, 0, none⟩ 1 1 [.int .u8 91] rfl rfl ?qc1 ?qc2 ?qc3 ?qc4 ?qc5 ?_)
  case qc1 => exact cell_one_new _ _ _
  case qc2 => intro u hu; simp at hu; subst hu; rfl
  case qc3 => unfold maxLen; omega
  case qc4 => omega
  case qc5 => simp; omega
  intro v' w1 hown' hgrow _
  obtain ⟨g1, g2⟩ := grown_block hlt Hown.out hgrow
  have hb1 := g1.trans Hb.out
  obtain ⟨_, hv⟩ := hown'
  rcases hv with ⟨_, h0⟩ | ⟨g, c, cur, hv, hrest⟩
  · omega
  have Hown1 : Hid (w1.ownsRow (b + 1) 5 1 v' (n + 1) (xs ++ [.int .u8 91])) := ⟨‹_›, Or.inr ⟨g, c, cur, hv, hrest⟩⟩
  rw [hv] at Hown1 ⊢
  have Hb1 : Hid (w1.heap[b]? = some (.cells #[.slice a n cap, .int .i64 st, .string s, .int .i64 h, .bool k] 44 (0, 0))) := hb1
  have HB : Hid (Below b w w1) := g2
  have d0 := (cell_block hb1 0).1
  have d1 := (cell_block hb1 1).1
  have f0 := (cell_block hb1 0).2
  have f1 := (cell_block hb1 1).2
  simp at d0 d1
  clear hgrow g1 g2 hb1 hv hrest c0
  go_wp2
  go_ret
  exact ⟨rfl, jv_step Hb1.out Hown1.out, (HB.out.setCell (Nat.le_refl _) _).setCell (Nat.le_refl _) _⟩

set_option maxRecDepth 100000 in
set_option maxHeartbeats 2000000 in
theorem begin_brace (w : World) (b n : Nat) (st : Int) (hj : Jv w b n st) (hn : n < 10000) :
    Calls Try.prog 23 #[.pointer (some ⟨b, 0, none⟩), .int .u8 123] w fun e w' => e = .returned (.int .i64 0) ∧ Jv w' b (n + 1) 2 ∧ Below b w w' := by
  obtain ⟨a, cap, xs, s, h, k, hb, hown⟩ := hj
  have hlt : b < w.heap.size := (Array.getElem?_eq_some_iff.1 hb).1
  have c0 : w.cell? ⟨b, 0, none⟩ = some (.slice a n cap) := (cell_block hb 0).1
  have Hb : Hid (w.heap[b]? = some (.cells #[.slice a n cap, .int .i64 st, .string s, .int .i64 h, .bool k] 44 (0, 0))) := hb
  have Hown : Hid (w.ownsRow (b + 1) 5 1 (.slice a n cap) n xs) := hown
  have hne : ((n : Int) == 10000) = false := by simp; omega
  obtain ⟨i0, hi, hz0, hz1, hz2⟩ := info_parts info5
  clear hb hown
  go_enter Try.func23, Try.ntmps23
  go_wp2_with (at_builtin; refine wpList_append_own _ rfl _ _ 30 rfl (b + 1) 5 i0 (.int .u8 0) 1 1 Try.underlying30 hi hz0 hz1 hz2 rfl (by decide) _ _ _ rfl (Hown.out.alloc _) ⟨w.heap.size, 0, none⟩ 1 1 [.int .u8 123] rfl rfl ?qc1 ?qc2 ?qc3 ?qc4 ?qc5 ?_)
  case qc1 => exact cell_one_new _ _ _
  case qc2 => intro u hu; simp at hu; subst hu; rfl
  case qc3 => unfold maxLen; omega
  case qc4 => omega
  case qc5 => simp; omega
  intro v' w1 hown' hgrow _
  obtain ⟨g1, g2⟩ := grown_block hlt Hown.out hgrow
  have hb1 := g1.trans Hb.out
  obtain ⟨_, hv⟩ := hown'
  rcases hv with ⟨_, h0⟩ | ⟨g, c, cur, hv, hrest⟩
  · omega
  have Hown1 : Hid (w1.ownsRow (b + 1) 5 1 v' (n + 1) (xs ++ [.int .u8 123])) := ⟨‹_›, Or.inr ⟨g, c, cur, hv, hrest⟩⟩
  rw [hv] at Hown1 ⊢
  have Hb1 : Hid (w1.heap[b]? = some (.cells #[.slice a n cap, .int .i64 st, .string s, .int .i64 h, .bool k] 44 (0, 0))) := hb1
  have HB : Hid (Below b w w1) := g2
  have d0 := (cell_block hb1 0).1
  have d1 := (cell_block hb1 1).1
  have f0 := (cell_block hb1 0).2
  have f1 := (cell_block hb1 1).2
  simp at d0 d1
  clear hgrow g1 g2 hb1 hv hrest c0
  go_wp2
  go_ret
  exact ⟨rfl, jv_step Hb1.out Hown1.out, (HB.out.setCell (Nat.le_refl _) _).setCell (Nat.le_refl _) _⟩

set_option maxRecDepth 100000 in
set_option maxHeartbeats 2000000 in
/-- At the greatest depth: refused. -/
theorem begin_full (w : World) (b : Nat) (st c : Int) (hj : Jv w b 10000 st) (hc : c = 91 ∨ c = 123) :
    Calls Try.prog 23 #[.pointer (some ⟨b, 0, none⟩), .int .u8 c] w fun e w' => e = .returned (.int .i64 3) ∧ w' = w := by
  obtain ⟨a, cap, xs, s, h, k, hb, hown⟩ := hj
  have c0 : w.cell? ⟨b, 0, none⟩ = some (.slice a 10000 cap) := (cell_block hb 0).1
  clear hb hown
  rcases hc with rfl | rfl
  all_goals
    go_enter Try.func23, Try.ntmps23
    go_wp2
    go_ret
    exact ⟨rfl, rfl⟩

/-- What begin answers to a byte that opens no container. -/
def code (c : Int) : Int := if c = 34 ∨ c = 116 ∨ c = 102 ∨ c = 110 ∨ c = 45 ∨ (48 ≤ c ∧ c ≤ 57) then 0 else 3

theorem code_yes {c : Int} (h : c = 34 ∨ c = 116 ∨ c = 102 ∨ c = 110 ∨ c = 45 ∨ (48 ≤ c ∧ c ≤ 57)) : code c = 0 := if_pos h
theorem code_no {c : Int} (h : ¬ (c = 34 ∨ c = 116 ∨ c = 102 ∨ c = 110 ∨ c = 45 ∨ (48 ≤ c ∧ c ≤ 57))) : code c = 3 := if_neg h

theorem below_set (w : World) (b o : Nat) (v : Value) : Below b w (w.setCell ⟨b, o, none⟩ v) := (Below.refl b w).setCell (p := ⟨b, o, none⟩) (Nat.le_refl b) v
theorem below_set2 (w : World) (b o o' : Nat) (v v' : Value) : Below b w ((w.setCell ⟨b, o, none⟩ v).setCell ⟨b, o', none⟩ v') := (below_set w b o v).setCell (p := ⟨b, o', none⟩) (Nat.le_refl b) v'

/-- It answers the number r, and writes nothing below block b. -/
def Codes (w : World) (b : Nat) (r : Int) (e : Ending) (w' : World) : Prop := e = .returned (.int .i64 r) ∧ Below b w w'

set_option maxRecDepth 100000 in
set_option maxHeartbeats 8000000 in
theorem begin_yes (w : World) (b n : Nat) (st c : Int) (hj : Jv w b n st) (hc : c = 34 ∨ c = 116 ∨ c = 102 ∨ c = 110 ∨ c = 45 ∨ (48 ≤ c ∧ c ≤ 57)) :
    Calls Try.prog 23 #[.pointer (some ⟨b, 0, none⟩), .int .u8 c] w (Codes w b 0) := by
  obtain ⟨a, cap, xs, s, h, k, hb, hown⟩ := hj
  have c1 : w.cell? ⟨b, 1, none⟩ = some (.int .i64 st) := (cell_block hb 1).1
  have c2 : w.cell? ⟨b, 2, none⟩ = some (.string s) := (cell_block hb 2).1
  have f1 := (cell_block hb 1).2
  have f2 := (cell_block hb 2).2
  clear hb hown
  have hc' : c = 34 ∨ c = 116 ∨ c = 102 ∨ c = 110 ∨ c = 45 ∨ c = 48 ∨ c = 49 ∨ c = 50 ∨ c = 51 ∨ c = 52 ∨ c = 53 ∨ c = 54 ∨ c = 55 ∨ c = 56 ∨ c = 57 := by omega
  clear hc
  rcases hc' with rfl | rfl | rfl | rfl | rfl | rfl | rfl | rfl | rfl | rfl | rfl | rfl | rfl | rfl | rfl
  all_goals
    go_enter Try.func23, Try.ntmps23
    go_wp2
    go_ret
    refine ⟨rfl, ?_⟩
    first
      | exact below_set _ _ _ _
      | exact below_set2 _ _ _ _ _ _

set_option maxRecDepth 100000 in
set_option maxHeartbeats 8000000 in
theorem begin_no (w : World) (b : Nat) (c : Int) (h1 : c ≠ 91) (h2 : c ≠ 123) (hc : ¬ (c = 34 ∨ c = 116 ∨ c = 102 ∨ c = 110 ∨ c = 45 ∨ (48 ≤ c ∧ c ≤ 57))) :
    Calls Try.prog 23 #[.pointer (some ⟨b, 0, none⟩), .int .u8 c] w (Codes w b 3) := by
  have e1 : (c == 91) = false := beq_eq_false_iff_ne.2 h1
  have e2 : (c == 123) = false := beq_eq_false_iff_ne.2 h2
  have e3 : (c == 34) = false := beq_eq_false_iff_ne.2 (by omega)
  have e4 : (c == 116) = false := beq_eq_false_iff_ne.2 (by omega)
  have e5 : (c == 102) = false := beq_eq_false_iff_ne.2 (by omega)
  have e6 : (c == 110) = false := beq_eq_false_iff_ne.2 (by omega)
  have e7 : (c == 45) = false := beq_eq_false_iff_ne.2 (by omega)
  have e8 : (c == 48) = false := beq_eq_false_iff_ne.2 (by omega)
  have e9 : (c == 49) = false := beq_eq_false_iff_ne.2 (by omega)
  have e10 : (c == 50) = false := beq_eq_false_iff_ne.2 (by omega)
  have e11 : (c == 51) = false := beq_eq_false_iff_ne.2 (by omega)
  have e12 : (c == 52) = false := beq_eq_false_iff_ne.2 (by omega)
  have e13 : (c == 53) = false := beq_eq_false_iff_ne.2 (by omega)
  have e14 : (c == 54) = false := beq_eq_false_iff_ne.2 (by omega)
  have e15 : (c == 55) = false := beq_eq_false_iff_ne.2 (by omega)
  have e16 : (c == 56) = false := beq_eq_false_iff_ne.2 (by omega)
  have e17 : (c == 57) = false := beq_eq_false_iff_ne.2 (by omega)
  clear h1 h2 hc
  go_enter Try.func23, Try.ntmps23
  go_wp2
  go_ret
  exact ⟨rfl, Below.refl _ _⟩

theorem begin_other (w : World) (b n : Nat) (st c : Int) (hj : Jv w b n st) (h1 : c ≠ 91) (h2 : c ≠ 123) :
    Calls Try.prog 23 #[.pointer (some ⟨b, 0, none⟩), .int .u8 c] w (Codes w b (code c)) := by
  by_cases hc : c = 34 ∨ c = 116 ∨ c = 102 ∨ c = 110 ∨ c = 45 ∨ (48 ≤ c ∧ c ≤ 57)
  · rw [code_yes hc]
    exact begin_yes w b n st c hj hc
  · rw [code_no hc]
    exact begin_no w b c h1 h2 hc

end Go.Proofs.Qxb6000780a.json
