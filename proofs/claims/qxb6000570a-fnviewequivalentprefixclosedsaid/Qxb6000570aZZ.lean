/-
  ZZViewEquivalent (function 33).
-/
import Derived.Test.Qxb6000570aView
namespace Go.Proofs.Qxb6000570a.view
open Go.RowKit

theorem info69 : (Try.prog.info? 69).map (fun i => (i.zero, i.size, i.bytes)) = some (some (.agg #[.int .i64 0, .int .i64 0, .int .i64 0, .int .i64 0, .int .i64 0, .int .i64 0, .int .i64 0]), 7, 56) := by kernel_rfl
theorem info100 : (Try.prog.info? 100).map (fun i => (i.zero, i.size, i.bytes)) = some (some (.agg #[.string ByteArray.empty, .slice none 0 0, .slice none 0 0]), 3, 64) := by kernel_rfl

theorem make_any (t e : TypeId) (z : Value) (size bytes : Nat) (ht : Try.prog.underlying t = some (.slice e)) (hinfo : (Try.prog.info? e).map (fun i => (i.zero, i.size, i.bytes)) = some (some z, size, bytes)) (n : Nat) (hb : bytes * n ≤ 281474976710656) (h63 : n ≤ 9223372036854775807) :
    ∃ c : Array Value, c.size = n * size ∧ ∀ w : World, (Instr.makeSlice t (.int .i64 (n : Int)) (.int .i64 (n : Int))).run Try.prog w = .ok (.slice (some ⟨w.heap.size, 0, none⟩) n n) (w.alloc (.cells c e)) := by
  obtain ⟨i, hi, hzz⟩ := Option.map_eq_some_iff.1 hinfo
  simp only [Prod.mk.injEq] at hzz
  obtain ⟨hz, hs, hbb⟩ := hzz
  refine ⟨madeCells z.cells (n * size), size_madeCells _ _, fun w => ?_⟩
  have hb' : (i.bytes : Int) * (n : Int) ≤ 281474976710656 := by
    have h : ((i.bytes * n : Nat) : Int) ≤ 281474976710656 := by rw [hbb]; omega
    rwa [Int.natCast_mul] at h
  have hr := run_make (P := Try.prog) w t e i z ht hi hz .i64 .i64 n n (by omega) (Int.le_refl _) hb' (by omega)
  simp only [Int.toNat_natCast, hs] at hr
  exact hr

/-- Behind k rounds of ZZViewEquivalent's loop: the first k accesses are laid in block g. -/
def Filled (w wr : World) (g n k : Nat) (item fw frm : Nat → Int) : Prop :=
  Below g w wr ∧ ∃ f : Nat → Value, wr.rowIs g 69 (n * 7) f ∧ ∀ i, i < k → f (i * 7 + 1) = .int .i64 (item i) ∧ f (i * 7 + 4) = .int .i64 (fw i) ∧ f (i * 7 + 6) = .int .i64 (frm i)

theorem filled_start (w : World) (c : Array Value) (n : Nat) (hc : c.size = n * 7) (item fw frm : Nat → Int) : Filled w (w.alloc (.cells c 69)) w.heap.size n 0 item fw frm := by
  refine ⟨(Below.refl _ _).alloc (Nat.le_refl _) _, fun i => c.getD i undef, ?_, fun i hi => absurd hi (by omega)⟩
  have := World.rowIs_alloc w c 69 (fun i => c.getD i undef) (fun i hi => by simp [hi])
  rwa [hc] at this

theorem filled_step {w wr : World} {g n k : Nat} {item fw frm : Nat → Int} (h : Filled w wr g n k item fw frm) :
    Filled w ((((((((wr.setCell ⟨g, k * 7, none⟩ (.int .i64 0)).setCell ⟨g, k * 7 + 1, none⟩ (.int .i64 (item k))).setCell ⟨g, k * 7 + 2, none⟩ (.int .i64 0)).setCell ⟨g, k * 7 + 3, none⟩ (.int .i64 0)).setCell
      ⟨g, k * 7 + 4, none⟩ (.int .i64 (fw k))).setCell ⟨g, k * 7 + 5, none⟩ (.int .i64 0)).setCell ⟨g, k * 7 + 6, none⟩ (.int .i64 (frm k))).drew) g n (k + 1) item fw frm := by
  obtain ⟨hB, f, hrow, hall⟩ := h
  refine ⟨(((((((hB.setCell (Nat.le_refl _) _).setCell (Nat.le_refl _) _).setCell (Nat.le_refl _) _).setCell (Nat.le_refl _) _).setCell (Nat.le_refl _) _).setCell (Nat.le_refl _) _).setCell (Nat.le_refl _) _).drew, _,
    (((((((hrow.set _ _).set _ _).set _ _).set _ _).set _ _).set _ _).set _ _).drew, fun i hi => ?_⟩
  by_cases e : i = k
  · subst e
    refine ⟨?_, ?_, ?_⟩ <;> simp
  · obtain ⟨h1, h2, h3⟩ := hall i (by omega)
    refine ⟨?_, ?_, ?_⟩
    · rw [if_neg (show ¬ i * 7 + 1 = k * 7 + 6 by omega), if_neg (show ¬ i * 7 + 1 = k * 7 + 5 by omega), if_neg (show ¬ i * 7 + 1 = k * 7 + 4 by omega), if_neg (show ¬ i * 7 + 1 = k * 7 + 3 by omega), if_neg (show ¬ i * 7 + 1 = k * 7 + 2 by omega), if_neg (show ¬ i * 7 + 1 = k * 7 + 1 by omega), if_neg (show ¬ i * 7 + 1 = k * 7 by omega)]
      exact h1
    · rw [if_neg (show ¬ i * 7 + 4 = k * 7 + 6 by omega), if_neg (show ¬ i * 7 + 4 = k * 7 + 5 by omega), if_neg (show ¬ i * 7 + 4 = k * 7 + 4 by omega), if_neg (show ¬ i * 7 + 4 = k * 7 + 3 by omega), if_neg (show ¬ i * 7 + 4 = k * 7 + 2 by omega), if_neg (show ¬ i * 7 + 4 = k * 7 + 1 by omega), if_neg (show ¬ i * 7 + 4 = k * 7 by omega)]
      exact h2
    · rw [if_neg (show ¬ i * 7 + 6 = k * 7 + 6 by omega), if_neg (show ¬ i * 7 + 6 = k * 7 + 5 by omega), if_neg (show ¬ i * 7 + 6 = k * 7 + 4 by omega), if_neg (show ¬ i * 7 + 6 = k * 7 + 3 by omega), if_neg (show ¬ i * 7 + 6 = k * 7 + 2 by omega), if_neg (show ¬ i * 7 + 6 = k * 7 + 1 by omega), if_neg (show ¬ i * 7 + 6 = k * 7 by omega)]
      exact h3

/-- The accesses and the graph, once all are laid: two blocks more. -/
theorem filled_done {w wr : World} {n N m : Nat} {item fw frm : Nat → Int} {a4 : Option Addr} {c4 : Nat} (d : Array Value) (h : Filled w wr w.heap.size n n item fw frm) (v0 v4 : Value) :
    Graph ((wr.alloc (.cells d 100)).alloc (.cells #[v0, .slice (some ⟨wr.heap.size, 0, none⟩) N N, .slice (some ⟨w.heap.size, 0, none⟩) n n, .slice a4 m c4, v4] 52)) (wr.heap.size + 1) w.heap.size N n m a4 c4 item fw frm ∧
    Below w.heap.size w ((wr.alloc (.cells d 100)).alloc (.cells #[v0, .slice (some ⟨wr.heap.size, 0, none⟩) N N, .slice (some ⟨w.heap.size, 0, none⟩) n n, .slice a4 m c4, v4] 52)) := by
  obtain ⟨hB, f, hrow, hall⟩ := h
  have hlt := hrow.lt
  have hs : (wr.alloc (.cells d 100)).heap.size = wr.heap.size + 1 := by simp
  have hrow2 : ((wr.alloc (.cells d 100)).alloc (.cells #[v0, .slice (some ⟨wr.heap.size, 0, none⟩) N N, .slice (some ⟨w.heap.size, 0, none⟩) n n, .slice a4 m c4, v4] 52)).rowIs w.heap.size 69 (n * 7) f := (hrow.alloc _).alloc _
  refine ⟨⟨⟨some ⟨wr.heap.size, 0, none⟩, N, ?_⟩, ?_, ?_, fun i hi => ?_, fun i hi => ?_, fun i hi => ?_⟩, (hB.alloc (by omega) _).alloc (by omega) _⟩
  · exact World.cell?_alloc_at _ _ _ _ hs.symm
  · exact World.cell?_alloc_at _ _ _ _ hs.symm
  · exact World.cell?_alloc_at _ _ _ _ hs.symm
  · rw [hrow2.cell (by omega), (hall i hi).1]
  · rw [hrow2.cell (by omega), (hall i hi).2.1]
  · rw [hrow2.cell (by omega), (hall i hi).2.2]

set_option maxRecDepth 100000 in
set_option maxHeartbeats 2000000 in
theorem zz_any (N n m q : Nat) (a1 a2 a3 a4 a5 : Option Addr) (c1 c2 c3 c4 c5 : Nat) (item fw frm : Nat → Int) (L : Nat → Nat) (Z : Nat → Nat → Int) (z5 : Nat → Int) (w : World)
    (H1 : Hid (Row w 0 a1 n item)) (H2 : Hid (Row w 0 a2 n fw)) (H3 : Hid (Row w 0 a3 n frm)) (HB : Hid (Grid w 0 a4 m L Z)) (HO : Hid (Row w 0 a5 q z5))
    (bN : N ≤ 16384) (bn : n ≤ 65536) (bq : q ≤ 65536) (HL : Hid (∀ r, r < m → L r ≤ 131072))
    (HI : Hid (∀ i, i < n → 0 ≤ item i ∧ item i < (N : Int))) (HA : Hid (∀ r, r < m → ∀ i, i < L r → 0 ≤ Z r i ∧ Z r i < (n : Int))) (HN : Hid (∀ i, i < q → 0 ≤ z5 i ∧ z5 i < (m : Int))) :
    Calls Try.prog 33 #[.int .i64 N, .slice a1 n c1, .slice a2 n c2, .slice a3 n c3, .slice a4 m c4, .slice a5 q c5] w (Viewed w q (NodeOk item fw frm L Z z5)) := by
  obtain ⟨c, hcs, hmk⟩ := make_any 50 69 _ 7 56 Try.underlying50 info69 n (by omega) (by omega)
  have HF : Hid (Filled w (w.alloc (.cells c 69)) w.heap.size n 0 item fw frm) := filled_start w c n hcs item fw frm
  clear hcs
  obtain ⟨d, _, hmk2⟩ := make_any 49 100 _ 3 64 Try.underlying49 info100 N (by omega) (by omega)
  go_enter Try.func33, Try.ntmps33
  go_wp2
  go_loopw [14] (fun i wr => ∃ k : Nat, k ≤ n ∧ i = .int .i64 k ∧ Hid (Filled w wr w.heap.size n k item fw frm)) (fun i _ => n - (intOf i).toNat)
  case atStart => exact ⟨0, Nat.zero_le _, rfl, HF⟩
  case round =>
    obtain ⟨k, hk, rfl, H⟩ := hrel
    by_cases hlt : k < n
    · obtain ⟨p1, hix1, hc10⟩ := H1.out.at c1 hlt
      obtain ⟨p2, hix2, hc20⟩ := H2.out.at c2 hlt
      obtain ⟨p3, hix3, hc30⟩ := H3.out.at c3 hlt
      have hc1 := cell_later H.out.1 hc10
      have hc2 := cell_later H.out.1 hc20
      have hc3 := cell_later H.out.1 hc30
      clear hc10 hc20 hc30
      obtain ⟨hB, f, hrow, hall⟩ := H.out
      have r0 := hrow.cell (i := k * 7) (by omega)
      have r1 := hrow.cell (i := k * 7 + 1) (by omega)
      have r2 := hrow.cell (i := k * 7 + 2) (by omega)
      have r3 := hrow.cell (i := k * 7 + 3) (by omega)
      have r4 := hrow.cell (i := k * 7 + 4) (by omega)
      have r5 := hrow.cell (i := k * 7 + 5) (by omega)
      have r6 := hrow.cell (i := k * 7 + 6) (by omega)
      have z0 := hrow.frozen (k * 7)
      have z1 := hrow.frozen (k * 7 + 1)
      have z2 := hrow.frozen (k * 7 + 2)
      have z3 := hrow.frozen (k * 7 + 3)
      have z4 := hrow.frozen (k * 7 + 4)
      have zz5 := hrow.frozen (k * 7 + 5)
      have z6 := hrow.frozen (k * 7 + 6)
      have hkI : (k : Int) < (n : Int) := by omega
      have Hrow : Hid (wr.rowIs w.heap.size 69 (n * 7) f) := hrow
      clear hrow hall hB
      go_wp2
      go_region
      go_wp2
      go_roundw
      case rel => exact ⟨k + 1, by omega, by go_num, filled_step H.out⟩
      case measure => simp [intOf]; omega
    have hkn : n = k := by omega
    subst hkn
    obtain ⟨hG, hBl⟩ := filled_done (N := N) (m := m) (a4 := a4) (c4 := c4) d H.out (.slice none 0 0) (.slice none 0 0)
    have hv := view_any (wr.heap.size + 1) w.heap.size N n m q a4 a5 c4 c5 item fw frm L Z z5 _ hG (HB.out.later hBl) (HO.out.later hBl) bN bq HL HI HA HN
    have Hb : Hid (Below w.heap.size w _) := hBl
    have Hv : Hid (Calls Try.prog 39 _ _ _) := hv
    clear hG hBl hv
    go_wp2_with (go_at_call 39; refine (Hv.out).mono ?_; rintro e w1 ⟨b, rfl, hiff, hb1⟩)
    go_ret
    exact ⟨b, rfl, hiff, (Hb.out).trans (hb1.mono (Hb.out).size)⟩

end Go.Proofs.Qxb6000570a.view
