/-
  cloneInts (function 23) and cloneAdj (function 13): the same numbers in new memory; nothing that was there is written.
-/
import Derived.Test.Qxb6000570aBase
import Derived.Laws.CopyOwn
namespace Go.Proofs.Qxb6000570a.view
open Go.RowKit

theorem info3 : (Try.prog.info? 3).map (fun i => (i.zero, i.size, i.bytes)) = some (some (.int .i64 0), 1, 8) := by kernel_rfl
theorem info26 : (Try.prog.info? 26).map (fun i => (i.zero, i.size, i.bytes)) = some (some (.slice none 0 0), 1, 24) := by kernel_rfl

/-- What cloneInts gives back. -/
def Cloned (w : World) (n : Nat) (z : Nat → Int) (e : Ending) (w' : World) : Prop :=
  ∃ (a : Option Addr) (c : Nat), e = .returned (.slice a n c) ∧ (a = none → n = 0) ∧ n ≤ c ∧ Row w' w.heap.size a n z ∧ Below w.heap.size w w'

theorem splice_all {α : Type} (L cs : List α) (h : cs.length = L.length) : splice L 0 cs = cs := by
  simp [splice, h]

theorem row_of_block {w : World} {g n : Nat} {z : Nat → Int} {t : TypeId} (h : w.heap[g]? = some (.cells ((List.range n).map fun i => Value.int .i64 (z i)).toArray t (0, 0))) : Row w g (some ⟨g, 0, none⟩) n z := by
  refine ⟨g, 0, fun _ => rfl, fun _ => Nat.le_refl _, fun i hi => ?_⟩
  simp [World.cell?, h, hi]

set_option maxHeartbeats 1000000 in
theorem clone_none (n c : Nat) (z : Nat → Int) (w : World) (hn : n = 0) : Calls Try.prog 23 #[.slice none n c] w (Cloned w n z) := by
  subst hn
  have hq := fun w => Lib.run_eql_slice_nil (P := Try.prog) w 26 3 none 0 c 0 0 Try.underlying26
  go_enter Try.func23, Try.ntmps23
  go_wp2
  go_ret
  exact ⟨none, 0, rfl, fun _ => rfl, Nat.le_refl _, ⟨0, 0, fun h => absurd h (by omega), fun h => absurd h (by omega), fun i hi => absurd hi (by omega)⟩, Below.refl _ _⟩

theorem add_flat (b off k : Nat) : (Addr.mk b off none).add k = ⟨b, off + k, none⟩ := by
  by_cases h : k = 0 <;> simp [Addr.add, h]

/-- The built-in copy into the new block. -/
theorem copy_run (ad : Addr) (n c : Nat) (z : Nat → Int) (w : World) (h : Row w 0 (some ad) n z) :
    ∃ w1, (Builtin.copy_ #[26, 26] 3 #[.slice (some ⟨w.heap.size, 0, none⟩) n n, .slice (some ad) n c]).run Try.prog (w.alloc (.cells (madeCells #[.int .i64 0] n) 3)) = .ok (goInt n) w1 ∧
      Hid (Row w1 w.heap.size (some ⟨w.heap.size, 0, none⟩) n z ∧ Below w.heap.size w w1) := by
  have hb : Below w.heap.size w (w.alloc (.cells (madeCells #[.int .i64 0] n) 3)) := (Below.refl _ _).alloc (Nat.le_refl _) _
  have hg : (w.alloc (.cells (madeCells #[.int .i64 0] n) 3)).heap[w.heap.size]? = some (.cells (madeCells #[.int .i64 0] n) 3 (0, 0)) := heap_alloc_new _ _
  have hlen : ((List.range n).map fun i => Value.int .i64 (z i)).length = n := by simp
  have hsz : (madeCells #[.int .i64 0] n).size = n := size_madeCells _ _
  have hrun := run_copy_row (P := Try.prog) (w.alloc (.cells (madeCells #[.int .i64 0] n) 3)) 26 26 3 3 w.heap.size 0 n n ad n c _ 3 ((List.range n).map fun i => Value.int .i64 (z i)) Try.underlying26 size3 hg
    (by rw [hlen]; exact (Nat.min_self n).symm) (by
      intro j v hj
      obtain ⟨b, off, h1, _, h3⟩ := h
      have hjn : j < n := by
        have := (List.getElem?_eq_some_iff.1 hj).1
        simpa using this
      have hv : v = .int .i64 (z j) := by
        simp [hjn] at hj
        exact hj.symm
      have had : ad = ⟨b, off, none⟩ := by simpa using h1 (by omega)
      rw [had, add_flat, hv]
      exact cell_later hb (h3 j hjn)) (by rw [hlen, hsz]; omega) (by
      intro v hv
      simp only [List.mem_map] at hv
      obtain ⟨i, _, rfl⟩ := hv
      rfl)
  rw [hlen] at hrun
  refine ⟨_, hrun, ?_, ?_⟩
  · refine row_of_block (t := 3) ?_
    have e : ((madeCells #[Value.int .i64 0] n).toList.take 0 ++ ((List.range n).map fun i => Value.int .i64 (z i)) ++ (madeCells #[Value.int .i64 0] n).toList.drop (0 + n)) = (List.range n).map fun i => Value.int .i64 (z i) := by
      have : (madeCells #[Value.int .i64 0] n).toList.length = n := by simpa using hsz
      rw [Nat.zero_add, List.drop_eq_nil_of_le (by omega)]
      simp
    rw [e]
    exact setRow_heap _ _ _ _ _ _ hg
  · exact below_setRow hb (Nat.le_refl _) _

set_option maxHeartbeats 1000000 in
theorem clone_some (ad : Addr) (n c : Nat) (z : Nat → Int) (w : World) (h : Row w 0 (some ad) n z) (hn : n ≤ 1048576) : Calls Try.prog 23 #[.slice (some ad) n c] w (Cloned w n z) := by
  have hq := fun w => Lib.run_eql_slice_nil (P := Try.prog) w 26 3 (some ad) n c 0 0 Try.underlying26
  have hmk := run_make_row' (P := Try.prog) 26 3 (.int .i64 0) 8 Try.underlying26 info3 rfl .i64 .i64 n (by omega) (by omega)
  obtain ⟨w1, hcp, H1⟩ := copy_run ad n c z w h
  clear h
  go_enter Try.func23, Try.ntmps23
  go_wp2
  go_ret
  exact ⟨_, n, rfl, (fun h => by cases h), Nat.le_refl _, H1.out.1, H1.out.2⟩

theorem clone_any (a : Option Addr) (n c : Nat) (z : Nat → Int) (w : World) (h : Row w 0 a n z) (hnil : a = none → n = 0) (hn : n ≤ 1048576) : Calls Try.prog 23 #[.slice a n c] w (Cloned w n z) := by
  cases a with
  | none => exact clone_none n c z w (hnil rfl)
  | some ad => exact clone_some ad n c z w h hn

/-- What cloneAdj gives back. -/
def ClonedAdj (w : World) (m : Nat) (L : Nat → Nat) (Z : Nat → Nat → Int) (e : Ending) (w' : World) : Prop :=
  ∃ (a : Option Addr) (c : Nat), e = .returned (.slice a m c) ∧ Grid w' 0 a m L Z ∧ Below w.heap.size w w'

/-- Behind k rounds of cloneAdj: the new outer row at block g, its first k rows cloned. -/
def Half (w wr : World) (g m k : Nat) (L : Nat → Nat) (Z : Nat → Nat → Int) : Prop :=
  Below g w wr ∧ ∃ (A : Nat → Option Addr) (C : Nat → Nat), wr.rowIs g 26 m (fun r => if r < k then .slice (A r) (L r) (C r) else .slice none 0 0) ∧
    ∀ r, r < k → (A r = none → L r = 0) ∧ Row wr (g + 1) (A r) (L r) (Z r)

theorem Row.setCell {w : World} {lo n : Nat} {a : Option Addr} {z : Nat → Int} (h : Row w lo a n z) {p : Addr} (hp : p.block < lo) (v : Value) : Row (w.setCell p v) lo a n z := by
  obtain ⟨b, off, h1, h2, h3⟩ := h
  refine ⟨b, off, h1, h2, fun i hi => ?_⟩
  have hlo := h2 (by omega)
  rw [World.cell?_of_block (w := w) (Below.heap_setCell w p v b (by omega))]
  exact h3 i hi

theorem half_start (w : World) (m : Nat) (L : Nat → Nat) (Z : Nat → Nat → Int) : Half w (w.alloc (.cells (madeCells #[.slice none 0 0] m) 26)) w.heap.size m 0 L Z := by
  refine ⟨(Below.refl _ _).alloc (Nat.le_refl _) _, fun _ => none, fun _ => 0, ?_, fun r hr => absurd hr (by omega)⟩
  exact (World.rowIs_made w (.slice none 0 0) m 26).congr (fun i _ => by simp)

theorem half_step {w wr w1 : World} {g m k : Nat} {L : Nat → Nat} {Z : Nat → Nat → Int} (hk : k < m) (h : Half w wr g m k L Z) (hgw : g ≤ wr.heap.size) {a : Option Addr} {c : Nat} (hn : a = none → L k = 0)
    (hr : Row w1 wr.heap.size a (L k) (Z k)) (hb : Below wr.heap.size wr w1) : Half w (w1.setCell ⟨g, k, none⟩ (.slice a (L k) c)) g m (k + 1) L Z := by
  obtain ⟨hB, A, C, hrow, hall⟩ := h
  have hglt : g < wr.heap.size := hrow.lt
  have hrow1 : w1.rowIs g 26 m (fun r => if r < k then .slice (A r) (L r) (C r) else .slice none 0 0) := hrow.of_block (hb.block g hglt)
  refine ⟨(hB.trans (hb.mono hgw)).setCell (Nat.le_refl _) _, fun r => if r = k then a else A r, fun r => if r = k then c else C r, ?_, ?_⟩
  · refine (hrow1.set k _).congr fun i hi => ?_
    by_cases e : i = k
    · subst e
      simp
    · simp only [e, if_false]
      by_cases e2 : i < k
      · simp [e2, show i < k + 1 by omega]
      · simp [e2, show ¬ i < k + 1 by omega]
  · intro r hrk
    by_cases e : r = k
    · subst e
      simp only [if_true]
      exact ⟨hn, (hr.mono (by omega)).setCell (by show g < g + 1; omega) _⟩
    · simp only [e, if_false]
      obtain ⟨h1, h2⟩ := hall r (by omega)
      exact ⟨h1, (h2.later hb).setCell (by show g < g + 1; omega) _⟩

theorem half_done {w wr : World} {g m : Nat} {L : Nat → Nat} {Z : Nat → Nat → Int} (h : Half w wr g m m L Z) : Grid wr 0 (some ⟨g, 0, none⟩) m L Z := by
  obtain ⟨hB, A, C, hrow, hall⟩ := h
  refine ⟨g, 0, A, C, fun _ => rfl, fun r hr => ?_, fun r hr => ⟨(hall r hr).1, (hall r hr).2.mono (by omega)⟩⟩
  have := hrow.cell hr
  simpa [hr] using this

theorem half_cell {w wr : World} {g m k : Nat} {L : Nat → Nat} {Z : Nat → Nat → Int} (h : Half w wr g m k L Z) (hk : k < m) : wr.cell? ⟨g, k, none⟩ = some (.slice none 0 0) ∧ wr.frozen? ⟨g, k, none⟩ = false ∧ g < wr.heap.size := by
  obtain ⟨hB, A, C, hrow, hall⟩ := h
  refine ⟨?_, hrow.frozen k, hrow.lt⟩
  have := hrow.cell hk
  simpa using this

set_option maxHeartbeats 1000000 in
theorem adj_none (m c : Nat) (L : Nat → Nat) (Z : Nat → Nat → Int) (w : World) (hm : m = 0) : Calls Try.prog 13 #[.slice none m c] w (ClonedAdj w m L Z) := by
  subst hm
  have hq := fun w => Lib.run_eql_slice_nil (P := Try.prog) w 22 26 none 0 c 0 0 Try.underlying22
  go_enter Try.func13, Try.ntmps13
  go_wp2
  go_ret
  exact ⟨none, 0, rfl, ⟨0, 0, fun _ => none, fun _ => 0, fun h => absurd h (by omega), fun r hr => absurd hr (by omega), fun r hr => absurd hr (by omega)⟩, Below.refl _ _⟩

set_option maxHeartbeats 2000000 in
theorem adj_some (ad : Addr) (m c : Nat) (L : Nat → Nat) (Z : Nat → Nat → Int) (w : World) (h : Grid w 0 (some ad) m L Z) (hm : m ≤ 1048576) (hL : ∀ r, r < m → L r ≤ 1048576) : Calls Try.prog 13 #[.slice (some ad) m c] w (ClonedAdj w m L Z) := by
  have hq := fun w => Lib.run_eql_slice_nil (P := Try.prog) w 22 26 (some ad) m c 0 0 Try.underlying22
  have hmk := run_make_row' (P := Try.prog) 22 26 (.slice none 0 0) 24 Try.underlying22 info26 rfl .i64 .i64 m (by omega) (by omega)
  have HG : Hid (Grid w 0 (some ad) m L Z) := h
  have HL : Hid (∀ r, r < m → L r ≤ 1048576) := hL
  have HS : Hid (Half w (w.alloc (.cells (madeCells #[.slice none 0 0] m) 26)) w.heap.size m 0 L Z) := half_start w m L Z
  clear h hL
  go_enter Try.func13, Try.ntmps13
  go_wp2
  go_loopw [4] (fun i wr => ∃ k : Nat, k ≤ m ∧ i = .int .i64 k ∧ Hid (Half w wr w.heap.size m k L Z)) (fun i _ => m - (intOf i).toNat)
  case atStart => exact ⟨0, Nat.zero_le _, rfl, HS⟩
  case round =>
    obtain ⟨k, hk, rfl, H⟩ := hrel
    by_cases hlt : k < m
    · have hsz : w.heap.size < wr.heap.size := (half_cell H.out hlt).2.2
      obtain ⟨p, ar, cr, hix, hcell0, hnil, hrow⟩ := (HG.out).at c hlt
      have hcell := cell_later H.out.1 hcell0
      have hb := HL.out k hlt
      have hkI : (k : Int) < (m : Int) := by omega
      clear hcell0
      go_wp2_with (go_at_call 23; refine (clone_any ar (L k) cr (Z k) _ (hrow.later H.out.1) hnil hb).mono ?_; rintro e w1 ⟨a', c', rfl, hnil', hle', hrow', hbel'⟩; have hc1 := cell_later hbel' (half_cell H.out hlt).1; have hf1 := (hbel'.frozen (p := ⟨w.heap.size, k, none⟩) (half_cell H.out hlt).2.2).trans (half_cell H.out hlt).2.1)
      go_roundw
      case rel => exact ⟨k + 1, by omega, by go_num, half_step hlt H.out (by omega) hnil' hrow' hbel'⟩
      case measure => simp [intOf]; omega
    have hkm : k = m := by omega
    subst hkm
    go_wp2
    go_ret
    exact ⟨_, _, rfl, half_done H.out, H.out.1⟩

theorem adj_any (a : Option Addr) (m c : Nat) (L : Nat → Nat) (Z : Nat → Nat → Int) (w : World) (h : Grid w 0 a m L Z) (hnil : a = none → m = 0) (hm : m ≤ 1048576) (hL : ∀ r, r < m → L r ≤ 1048576) : Calls Try.prog 13 #[.slice a m c] w (ClonedAdj w m L Z) := by
  cases a with
  | none => exact adj_none m c L Z w (hnil rfl)
  | some ad => exact adj_some ad m c L Z w h hm hL

end Go.Proofs.Qxb6000570a.view
