/-
  Slices of ints and slices of slices of ints in memory, by index; the law's first test (function 31, which only reads).
-/
import Derived.Test.Qxb6000570aProg
import Derived.WalkKit
import Derived.WalkSpells
import Derived.Deep.OwnRows
namespace Go.Proofs.Qxb6000570a.view
open Go.RowKit

/-- A slice of ints at address 'a', its first n numbers 'z', its cells in blocks from 'lo' on. -/
def Row (w : World) (lo : Nat) (a : Option Addr) (n : Nat) (z : Nat → Int) : Prop :=
  ∃ b off : Nat, (0 < n → a = some ⟨b, off, none⟩) ∧ (0 < n → lo ≤ b) ∧ ∀ i, i < n → w.cell? ⟨b, off + i, none⟩ = some (.int .i64 (z i))

/-- A slice of slices of ints: m rows, row r of length 'L r' with the numbers 'Z r'. -/
def Grid (w : World) (lo : Nat) (a : Option Addr) (m : Nat) (L : Nat → Nat) (Z : Nat → Nat → Int) : Prop :=
  ∃ (b off : Nat) (A : Nat → Option Addr) (C : Nat → Nat), (0 < m → a = some ⟨b, off, none⟩) ∧
    (∀ r, r < m → w.cell? ⟨b, off + r, none⟩ = some (.slice (A r) (L r) (C r))) ∧ (∀ r, r < m → (A r = none → L r = 0) ∧ Row w lo (A r) (L r) (Z r))

theorem Row.later {w w' : World} {lo n : Nat} {a : Option Addr} {z : Nat → Int} (h : Row w lo a n z) (hb : Below w.heap.size w w') : Row w' lo a n z := by
  obtain ⟨b, off, h1, h2, h3⟩ := h
  exact ⟨b, off, h1, h2, fun i hi => cell_later hb (h3 i hi)⟩

theorem Grid.later {w w' : World} {lo m : Nat} {a : Option Addr} {L : Nat → Nat} {Z : Nat → Nat → Int} (h : Grid w lo a m L Z) (hb : Below w.heap.size w w') : Grid w' lo a m L Z := by
  obtain ⟨b, off, A, C, h1, h2, h3⟩ := h
  exact ⟨b, off, A, C, h1, fun r hr => cell_later hb (h2 r hr), fun r hr => ⟨(h3 r hr).1, (h3 r hr).2.later hb⟩⟩

theorem Row.mono {w : World} {lo lo' n : Nat} {a : Option Addr} {z : Nat → Int} (h : Row w lo a n z) (hl : lo' ≤ lo) : Row w lo' a n z := by
  obtain ⟨b, off, h1, h2, h3⟩ := h
  exact ⟨b, off, h1, fun hn => Nat.le_trans hl (h2 hn), h3⟩

theorem Row.take {w : World} {lo n k : Nat} {a : Option Addr} {z : Nat → Int} (h : Row w lo a n z) (hk : k ≤ n) : Row w lo a k z := by
  obtain ⟨b, off, h1, h2, h3⟩ := h
  exact ⟨b, off, fun hn => h1 (by omega), fun hn => h2 (by omega), fun i hi => h3 i (by omega)⟩

/-- Where there is an element, the address is there. -/
theorem index_run {t e : TypeId} {P : Program} (ht : P.underlying t = some (.slice e)) (he : (P.info? e).map (·.size) = some 1) {a : Option Addr} {b off n : Nat} (ha : 0 < n → a = some ⟨b, off, none⟩) (cap k : Nat) (hk : k < n) (w : World) :
    (Instr.indexAt t (.slice a n cap) (.int .i64 (k : Int))).run P w = .ok (.pointer (some ⟨b, off + k, none⟩)) w := by
  rw [ha (by omega)]
  obtain ⟨i, hi, hs⟩ := Option.map_eq_some_iff.1 he
  have e : (Addr.mk b off none).add k = ⟨b, off + k, none⟩ := by
    by_cases h : k = 0 <;> simp [Addr.add, h]
  simp [Instr.indexAt, run_underlying ht, asIntOf, hk, sizeOf, typeInfo, hi, hs, e]

theorem size3 : (Try.prog.info? 3).map (·.size) = some 1 := by kernel_rfl
theorem size26 : (Try.prog.info? 26).map (·.size) = some 1 := by kernel_rfl

/-- What a round that reads element k of a slice of ints is told. -/
theorem Row.at {w : World} {lo n k : Nat} {a : Option Addr} {z : Nat → Int} (h : Row w lo a n z) (cap : Nat) (hk : k < n) :
    ∃ p : Addr, (∀ w', (Instr.indexAt 26 (.slice a n cap) (.int .i64 (k : Int))).run Try.prog w' = .ok (.pointer (some p)) w') ∧ w.cell? p = some (.int .i64 (z k)) := by
  obtain ⟨b, off, h1, h2, h3⟩ := h
  exact ⟨⟨b, off + k, none⟩, fun w' => index_run Try.underlying26 size3 h1 cap k hk w', h3 k hk⟩

theorem Grid.at {w : World} {lo m k : Nat} {a : Option Addr} {L : Nat → Nat} {Z : Nat → Nat → Int} (h : Grid w lo a m L Z) (cap : Nat) (hk : k < m) :
    ∃ (p : Addr) (ar : Option Addr) (cr : Nat), (∀ w', (Instr.indexAt 22 (.slice a m cap) (.int .i64 (k : Int))).run Try.prog w' = .ok (.pointer (some p)) w') ∧ w.cell? p = some (.slice ar (L k) cr) ∧ (ar = none → L k = 0) ∧ Row w lo ar (L k) (Z k) := by
  obtain ⟨b, off, A, C, h1, h2, h3⟩ := h
  exact ⟨⟨b, off + k, none⟩, A k, C k, fun w' => index_run Try.underlying22 size26 h1 cap k hk w', h2 k hk, h3 k hk⟩

/-- It answers one bool and leaves the world as it was. -/
def Answered (w : World) (e : Ending) (w' : World) : Prop := ∃ b : Bool, e = .returned (.bool b) ∧ w' = w

set_option maxHeartbeats 1000000 in
/-- The law's first test: it reads, and answers. -/
theorem bytes_any (nI kk : Int) (a1 a2 a3 a4 a5 : Option Addr) (n1 n2 n3 m n5 c1 c2 c3 c4 c5 : Nat) (L : Nat → Nat) (Z : Nat → Nat → Int) (w : World)
    (hg : Grid w 0 a4 m L Z) (b1 : n1 ≤ maxLen) (b2 : n2 ≤ maxLen) (b3 : n3 ≤ maxLen) (bm : m ≤ maxLen) (b5 : n5 ≤ maxLen) (bL : ∀ r, r < m → L r ≤ maxLen) :
    Calls Try.prog 31 #[.int .i64 nI, .slice a1 n1 c1, .slice a2 n2 c2, .slice a3 n3 c3, .slice a4 m c4, .slice a5 n5 c5, .int .i64 kk] w (Answered w) := by
  unfold maxLen at b1 b2 b3 bm b5 bL
  go_enter Try.func31, Try.ntmps31
  go_wp2
  all_goals first
    | (go_ret; exact ⟨_, rfl, rfl⟩)
    | skip
  go_loop [15, 16] (fun z i => ∃ k q : Nat, k ≤ m ∧ i = .int .i64 k ∧ z = .int .i64 q ∧ q ≤ 1048576) (fun _ i => m - (intOf i).toNat)
  case atStart => exact ⟨0, n1 + n2 + n3 + m, Nat.zero_le _, rfl, by go_num, by omega⟩
  case round =>
    obtain ⟨k, q, hk, rfl, rfl, hq⟩ := hrel
    by_cases hlt : k < m
    · obtain ⟨p, ar, cr, hix, hcell, _, _⟩ := hg.at c4 hlt
      have hb := bL k hlt
      generalize L k = l at hcell hb
      clear bL hg
      go_wp2
      all_goals first
        | (go_ret; exact ⟨_, rfl, rfl⟩)
        | (go_round; (case rel => exact ⟨k + 1, q + l, by omega, by go_num, by go_num, by omega⟩); (case measure => simp [intOf]; omega))
    · clear bL hg
      go_wp2
      all_goals (go_ret; exact ⟨_, rfl, rfl⟩)
end Go.Proofs.Qxb6000570a.view
