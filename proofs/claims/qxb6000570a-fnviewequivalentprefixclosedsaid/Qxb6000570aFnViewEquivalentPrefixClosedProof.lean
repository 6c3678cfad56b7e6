/-
  A PROOF OF 'Rows.FnViewEquivalentPrefixClosedSaid'. The frame is after the guide's own for laws over slices (seven parameters: two ints, four slices of ints, one slice of slices of ints).
-/
import Derived.Test.Qxb6000570aRows
import Derived.Test.Qxb6000570aLaw
import Derived.WalkKit
import Derived.ProofKit
import Derived.OpenShut
import Derived.ShutString
import Derived.ChangeOld
import Derived.Below
import Derived.Deep.Matrix
namespace Go.Proofs.Qxb6000570a.fnViewEquivalentPrefixClosed
open Go.ChangeShapes Go.WideShapes Go.ChangeAt Go.RowKit
open Go.Proofs.Qxb6000570a.view

theorem own : ownKnob Try.prog.godebug = none := by kernel_rfl
theorem laidOut : laidOutB Try.prog = true := by kernel_rfl
theorem cells3 : Try.prog.cellsOf 3 = 1 := by kernel_rfl
theorem cells26 : Try.prog.cellsOf 26 = 1 := by kernel_rfl

theorem row_of_cells {W : World} {x : Addr} {len cap : Nat} {zs : List Int} (hl : len ≤ cap) (hz : zs.length = cap) (hcell : ∀ i, i < zs.length → W.cell? (x.add i) = some (.int .i64 (zs.getD i 0))) :
    Row W 0 (some x) len (fun i => zs.getD i 0) := by
  obtain ⟨b, off, spot⟩ := x
  by_cases h : 0 < len
  · have hc := hcell 0 (by omega)
    have hspot : spot = none := by simpa [Addr.add] using World.cell?_spot hc
    subst hspot
    refine ⟨b, off, fun _ => rfl, fun _ => Nat.zero_le _, fun i hi => ?_⟩
    have := hcell i (by omega)
    rwa [add_flat] at this
  · exact ⟨0, 0, fun h' => absurd h' h, fun h' => absurd h' h, fun i hi => absurd hi (by omega)⟩

theorem row_nil (W : World) : Row W 0 none 0 (fun _ => 0) := ⟨0, 0, fun h => absurd h (by omega), fun h => absurd h (by omega), fun i hi => absurd hi (by omega)⟩

theorem grid_nil (W : World) : Grid W 0 none 0 (fun _ => 0) (fun _ _ => 0) :=
  ⟨0, 0, fun _ => none, fun _ => 0, fun h => absurd h (by omega), fun r hr => absurd hr (by omega), fun r hr => absurd hr (by omega)⟩

/-- What a slice of ints among the arguments is to the walk. -/
theorem open_row {H : Type} {enc : TypeId × Value → H} {W : World} {a : Option Addr} {len cap : Nat} {d : DataW H} {p : List MemPlace} (h : DataW.Trod enc Try.prog W 0 (fun _ => true) true 26 (.slice a len cap) d p) :
    ∃ z, (Row W 0 a len z ∧ (a = none → len = 0)) ∧ len ≤ maxLen := by
  obtain ⟨fuel, hf⟩ := h
  rcases open_ints Try.underlying26 Try.underlying3 cells3 hf with ⟨hcs, _⟩ | ⟨x, l, c, zs, hcs, _, hl, hm, hz, _, hcell, _⟩
  · simp [Value.cells] at hcs
    obtain ⟨rfl, rfl, rfl⟩ := hcs
    exact ⟨_, ⟨row_nil W, fun _ => rfl⟩, Nat.zero_le _⟩
  · simp [Value.cells] at hcs
    obtain ⟨rfl, rfl, rfl⟩ := hcs
    exact ⟨_, ⟨row_of_cells hl (by simpa using hz) hcell, fun h => by cases h⟩, Nat.le_trans hl hm⟩

/-- What a slice of slices of ints among the arguments is to the walk. -/
theorem open_grid {H : Type} {enc : TypeId × Value → H} {W : World} {a : Option Addr} {len cap : Nat} {d : DataW H} {p : List MemPlace} (h : DataW.Trod enc Try.prog W 0 (fun _ => true) true 22 (.slice a len cap) d p) :
    ∃ L Z, (Grid W 0 a len L Z ∧ (a = none → len = 0)) ∧ len ≤ maxLen ∧ ∀ r, r < len → L r ≤ maxLen := by
  obtain ⟨fuel, hf⟩ := h
  rcases Deep.open_int_rows Try.underlying22 Try.underlying26 Try.underlying3 cells26 cells3 hf with ⟨hcs, _⟩ | ⟨x, l, c, A, L, C, Z, hcs, _, hl, hm, _, hall⟩
  · simp [Value.cells] at hcs
    obtain ⟨rfl, rfl, rfl⟩ := hcs
    exact ⟨_, _, ⟨grid_nil W, fun _ => rfl⟩, Nat.zero_le _, fun r hr => absurd hr (by omega)⟩
  · simp [Value.cells] at hcs
    obtain ⟨rfl, rfl, rfl⟩ := hcs
    refine ⟨L, fun r i => (Z r).getD i 0, ⟨?_, fun h => by cases h⟩, Nat.le_trans hl hm, fun r hr => Nat.le_trans (hall r (by omega)).2.1 (hall r (by omega)).2.2.1⟩
    obtain ⟨b, off, spot⟩ := x
    by_cases h : 0 < len
    · have hc := (hall 0 (by omega)).1
      have hspot : spot = none := by simpa [Addr.add] using World.cell?_spot hc
      subst hspot
      refine ⟨b, off, A, C, fun _ => rfl, fun r hr => ?_, fun r hr => ?_⟩
      · have := (hall r (by omega)).1
        rwa [add_flat] at this
      · obtain ⟨_, g1, _, g2, _, g3, g4⟩ := hall r (by omega)
        cases hA : A r with
        | none =>
          have := g3 hA
          have hL : L r = 0 := by omega
          exact ⟨fun _ => hL, ⟨0, 0, fun h => absurd h (by omega), fun h => absurd h (by omega), fun i hi => absurd hi (by omega)⟩⟩
        | some y => exact ⟨fun h => (by cases h), row_of_cells g1 g2 (by rw [g2]; exact (g4 y hA).2)⟩
    · exact ⟨0, 0, A, C, fun h' => absurd h' h, fun r hr => absurd hr (by omega), fun r hr => absurd hr (by omega)⟩

/-! ### THE ROW's STEP -/
set_option maxRecDepth 100000 in
theorem lifted (os : Os) (started : os.Started) (H : Type) (enc : TypeId × Value → H) :
    ReturnsInHanded {} Try.checked os 8 .any (Rows.fnViewEquivalentPrefixClosedSpec.pre6 enc Try.prog Try.f8 Rows.fnViewEquivalentPrefixClosedRow.domain false) (Rows.fnViewEquivalentPrefixClosedSpec.post enc Try.prog Try.f8 false true false false) := by
  refine returnsInHanded_of_change (C := Try.checked) own started (by kernel_rfl) Try.func8
    (ChangeSpec.witness6 (enc := enc) (C := Try.checked) false ⟨#[], #[.int .i64 0, .slice none 0 0, .slice none 0 0, .slice none 0 0, .slice none 0 0, .slice none 0 0, .int .i64 0], []⟩ 8 (by kernel_rfl) (by kernel_rfl) (by kernel_rfl) (by kernel_rfl)) ?_
  intro W base args ds gs before hval0 hW hcnd _
  have hval : ∀ (j : Nat) t v, Try.f8.params[j]? = some t → args[j]? = some v → Value.okWide Try.prog W .any base t v := hval0
  have hW' := hW
  obtain ⟨p, q, hA0, hV, rfl, hfz, hnd⟩ := hW
  have hA : DataW.TrodAll enc Try.prog W 0 (fun _ => true) true Try.f8.params.toList args.toList ds p := hA0
  rw [Try.params8] at hA hval
  obtain ⟨v0, vs0, d0, ds0, p0, q0, hargs, rfl, rfl, h0, r0⟩ := trodAll_cons hA
  obtain ⟨v1, vs1, d1, ds1, p1, q1, rfl, rfl, rfl, h1, r1⟩ := trodAll_cons r0
  obtain ⟨v2, vs2, d2, ds2, p2, q2, rfl, rfl, rfl, h2, r2⟩ := trodAll_cons r1
  obtain ⟨v3, vs3, d3, ds3, p3, q3, rfl, rfl, rfl, h3, r3⟩ := trodAll_cons r2
  obtain ⟨v4, vs4, d4, ds4, p4, q4, rfl, rfl, rfl, h4, r4⟩ := trodAll_cons r3
  obtain ⟨v5, vs5, d5, ds5, p5, q5, rfl, rfl, rfl, h5, r5⟩ := trodAll_cons r4
  obtain ⟨v6, vs6, d6, ds6, p6, q6, rfl, rfl, rfl, h6, r6⟩ := trodAll_cons r5
  obtain ⟨rfl, rfl, rfl⟩ := trodAll_nil r6
  obtain rfl : args = #[v0, v1, v2, v3, v4, v5, v6] := by cases args; simp_all
  obtain ⟨rfl, rfl⟩ := trodVars_none hV
  obtain ⟨N, rfl, rfl, rfl, wN⟩ := open_int Try.underlying3 (hval 0 3 v0 rfl rfl) h0
  obtain ⟨a1, n1, c1, rfl⟩ := okWide_slice Try.underlying26 (hval 1 26 v1 rfl rfl)
  obtain ⟨a2, n2, c2, rfl⟩ := okWide_slice Try.underlying26 (hval 2 26 v2 rfl rfl)
  obtain ⟨a3, n3, c3, rfl⟩ := okWide_slice Try.underlying26 (hval 3 26 v3 rfl rfl)
  obtain ⟨a4, m, c4, rfl⟩ := okWide_slice Try.underlying22 (hval 4 22 v4 rfl rfl)
  obtain ⟨a5, n5, c5, rfl⟩ := okWide_slice Try.underlying26 (hval 5 26 v5 rfl rfl)
  obtain ⟨kk, rfl, rfl, rfl, wk⟩ := open_int Try.underlying3 (hval 6 3 v6 rfl rfl) h6
  have lt1 : ∀ x ∈ p1, x.block < W.heap.size := by obtain ⟨m, hm⟩ := h1; exact DataW.trod_lt m _ _ _ hm
  have lt2 : ∀ x ∈ p2, x.block < W.heap.size := by obtain ⟨m, hm⟩ := h2; exact DataW.trod_lt m _ _ _ hm
  have lt3 : ∀ x ∈ p3, x.block < W.heap.size := by obtain ⟨m, hm⟩ := h3; exact DataW.trod_lt m _ _ _ hm
  have lt4 : ∀ x ∈ p4, x.block < W.heap.size := by obtain ⟨m, hm⟩ := h4; exact DataW.trod_lt m _ _ _ hm
  have lt5 : ∀ x ∈ p5, x.block < W.heap.size := by obtain ⟨m, hm⟩ := h5; exact DataW.trod_lt m _ _ _ hm
  obtain ⟨z1, g1, b1⟩ := open_row h1
  obtain ⟨z2, g2, b2⟩ := open_row h2
  obtain ⟨z3, g3, b3⟩ := open_row h3
  obtain ⟨L, Z, g4, bm, bL⟩ := open_grid h4
  obtain ⟨z5, g5, b5⟩ := open_row h5
  clear hA0 hval0
  refine (law_any N kk a1 a2 a3 a4 a5 n1 n2 n3 m n5 c1 c2 c3 c4 c5 z1 z2 z3 L Z z5 W g1 g2 g3 g4 g5 b1 b2 b3 bm b5 bL).mono fun e W' ⟨he, bel⟩ => ?_
  subst he
  exact ⟨_, rfl, _, _, _, [], _, [], hW', trodAll_mk1 (shut_bool Try.underlying4 _), (trodAll_cons_mk (shut_int Try.underlying3 wN)
    (trodAll_cons_mk (Below.trod laidOut (by kernel_rfl) (of_decide_eq_true (by kernel_rfl)) h1 bel lt1)
    (trodAll_cons_mk (Below.trod laidOut (by kernel_rfl) (of_decide_eq_true (by kernel_rfl)) h2 bel lt2)
    (trodAll_cons_mk (Below.trod laidOut (by kernel_rfl) (of_decide_eq_true (by kernel_rfl)) h3 bel lt3)
    (trodAll_cons_mk (Below.trod laidOut (by kernel_rfl) (of_decide_eq_true (by kernel_rfl)) h4 bel lt4)
    (trodAll_cons_mk (Below.trod laidOut (by kernel_rfl) (of_decide_eq_true (by kernel_rfl)) h5 bel lt5)
    (trodAll_cons_mk (shut_int Try.underlying3 wk) trodAll_mk0))))))), rfl, bel.frame _, fun h => by cases h⟩

theorem over : Rows.fnViewEquivalentPrefixClosedRow.holds Try.pinned (OpenSpec.ofChange Rows.fnViewEquivalentPrefixClosedSpec) :=
  OpenClaim.holds_of_wide 8 Try.f8 rfl rfl rfl rfl rfl rfl rfl ⟨rfl, rfl, rfl, rfl, rfl⟩ rfl rfl rfl rfl rfl (by kernel_rfl) Try.func8 (by kernel_rfl)
    (of_decide_eq_true (by kernel_rfl)) (by unfold Func.isWrapper; first | (rw [if_pos (by decide +kernel)]; kernel_rfl) | (rw [if_neg (by decide +kernel)]; exact ⟨rfl, rfl⟩))
    (fun os started H enc _ => lifted os started H enc)

/-- ████ THE STATEMENT ████ -/
theorem proved : Rows.FnViewEquivalentPrefixClosedSaid := over
#print axioms proved
end Go.Proofs.Qxb6000570a.fnViewEquivalentPrefixClosed
