/-
  (*graph).viewEquivalent (function 39).
-/
import Derived.Test.Qxb6000570aClone
import Derived.BigQuiet
import Derived.Deep.QuietTactic
import Derived.WalkSmall
namespace Go.Proofs.Qxb6000570a.view
open Go.RowKit

/-- The latest writers behind an access. -/
def put (item fw : Nat → Int) (u : Int) (last : Nat → Int) (a : Nat) : Nat → Int :=
  if 0 < fw a then fun x => if x = (item a).toNat then u else last x else last

/-- .. behind the first s accesses of a row. -/
def rowPut (item fw : Nat → Int) (zr : Nat → Int) (u : Int) (last : Nat → Int) : Nat → Nat → Int
  | 0 => last
  | s + 1 => put item fw u (rowPut item fw zr u last s) (zr s).toNat

/-- .. behind the first k nodes of the order. -/
def lastAt (item fw : Nat → Int) (L : Nat → Nat) (Z : Nat → Nat → Int) (z5 : Nat → Int) : Nat → Nat → Int
  | 0 => fun _ => -1
  | k + 1 => rowPut item fw (Z (z5 k).toNat) (z5 k) (lastAt item fw L Z z5 k) (L (z5 k).toNat)

/-- An access whose source is none, or the latest writer. -/
def AccOk (item frm : Nat → Int) (last : Nat → Int) (a : Nat) : Prop := frm a = -2 ∨ frm a = last (item a).toNat

/-- Node k of the order passes. -/
def NodeOk (item fw frm : Nat → Int) (L : Nat → Nat) (Z : Nat → Nat → Int) (z5 : Nat → Int) (k : Nat) : Prop :=
  ∀ i, i < L (z5 k).toNat → AccOk item frm (lastAt item fw L Z z5 k) (Z (z5 k).toNat i).toNat

/-- What viewEquivalent answers. -/
def Viewed (w : World) (q : Nat) (P : Nat → Prop) (e : Ending) (w' : World) : Prop :=
  ∃ b : Bool, e = .returned (.bool b) ∧ (b = true ↔ ∀ k, k < q → P k) ∧ Below w.heap.size w w'

/-- The graph in memory: its items' number, its accesses. -/
structure Graph (w : World) (gb ac N n m : Nat) (a4 : Option Addr) (c4 : Nat) (item fw frm : Nat → Int) : Prop where
  items : ∃ ai ci, w.cell? ⟨gb, 1, none⟩ = some (.slice ai N ci)
  accs : w.cell? ⟨gb, 2, none⟩ = some (.slice (some ⟨ac, 0, none⟩) n n)
  byTxn : w.cell? ⟨gb, 3, none⟩ = some (.slice a4 m c4)
  item : ∀ i, i < n → w.cell? ⟨ac, i * 7 + 1, none⟩ = some (.int .i64 (item i))
  fw : ∀ i, i < n → w.cell? ⟨ac, i * 7 + 4, none⟩ = some (.int .i64 (fw i))
  frm : ∀ i, i < n → w.cell? ⟨ac, i * 7 + 6, none⟩ = some (.int .i64 (frm i))

theorem Graph.later {w w' : World} {gb ac N n m : Nat} {a4 : Option Addr} {c4 : Nat} {item fw frm : Nat → Int} (h : Graph w gb ac N n m a4 c4 item fw frm) (hb : Below w.heap.size w w') : Graph w' gb ac N n m a4 c4 item fw frm := by
  obtain ⟨⟨ai, ci, h0⟩, h1, h2, h3, h4, h5⟩ := h
  exact ⟨⟨ai, ci, cell_later hb h0⟩, cell_later hb h1, cell_later hb h2, fun i hi => cell_later hb (h3 i hi), fun i hi => cell_later hb (h4 i hi), fun i hi => cell_later hb (h5 i hi)⟩

/-- In the middle of viewEquivalent: the new row of the latest writers. -/
def Mid (w wr : World) (N : Nat) (last : Nat → Int) : Prop := Below w.heap.size w wr ∧ wr.rowIs w.heap.size 3 N (fun x => .int .i64 (last x))

theorem mid_start (w : World) (N : Nat) : Mid w (w.alloc (.cells (madeCells #[.int .i64 0] N) 3)) N (fun x => if x < 0 then -1 else 0) :=
  ⟨(Below.refl _ _).alloc (Nat.le_refl _) _, (World.rowIs_made w (.int .i64 0) N 3).congr (fun i _ => by simp)⟩

theorem Mid.set {w wr : World} {N : Nat} {last : Nat → Int} (h : Mid w wr N last) (x : Nat) (u : Int) : Mid w (wr.setCell ⟨w.heap.size, x, none⟩ (.int .i64 u)) N (fun y => if y = x then u else last y) := by
  refine ⟨h.1.setCell (Nat.le_refl _) _, (h.2.set x _).congr fun i hi => ?_⟩
  by_cases e : i = x <;> simp [e]

theorem Mid.congr {w wr : World} {N : Nat} {last last' : Nat → Int} (h : Mid w wr N last) (e : ∀ x, x < N → last x = last' x) : Mid w wr N last' :=
  ⟨h.1, h.2.congr fun i hi => by rw [e i hi]⟩

theorem Mid.drewN {w wr : World} {N : Nat} {last : Nat → Int} (h : Mid w wr N last) (n : Nat) : Mid w (wr.drewN n) N last :=
  ⟨⟨h.1.os, h.1.tape, h.1.output, h.1.size, h.1.block⟩, h.2⟩

theorem acc_none {item frm last : Nat → Int} {zz f : Int} {a : Nat} (hz : zz = (a : Int)) (hf : frm a = f) (h : f = -2) : AccOk item frm last zz.toNat := by
  rw [hz, Int.toNat_natCast]
  exact Or.inl (hf.trans h)

theorem acc_last {item frm last : Nat → Int} {zz f y : Int} {a x : Nat} (hz : zz = (a : Int)) (hf : frm a = f) (hx : item a = (x : Int)) (hy : last x = y) (h : f = y) : AccOk item frm last zz.toNat := by
  rw [hz, Int.toNat_natCast]
  exact Or.inr (by rw [hx, Int.toNat_natCast, hy, hf, h])

theorem acc_bad {item frm last : Nat → Int} {zz f y : Int} {a x : Nat} (hz : zz = (a : Int)) (hf : frm a = f) (hx : item a = (x : Int)) (hy : last x = y) (h2 : ¬ f = -2) (h : ¬ f = y) : ¬ AccOk item frm last zz.toNat := by
  rw [hz, Int.toNat_natCast]
  unfold AccOk
  rw [hx, Int.toNat_natCast, hy, hf]
  exact fun hh => hh.elim h2 h

theorem node_good {item fw frm : Nat → Int} {L : Nat → Nat} {Z : Nat → Nat → Int} {z5 : Nat → Int} {k un l : Nat} (hu : z5 k = (un : Int)) (hl : L un = l)
    (h : ∀ i, i < l → AccOk item frm (lastAt item fw L Z z5 k) (Z un i).toNat) : NodeOk item fw frm L Z z5 k := by
  intro i hi
  rw [hu, Int.toNat_natCast] at hi ⊢
  exact h i (by omega)

theorem node_bad {item fw frm : Nat → Int} {L : Nat → Nat} {Z : Nat → Nat → Int} {z5 : Nat → Int} {k un l j : Nat} (hu : z5 k = (un : Int)) (hl : L un = l) (hj : j < l)
    (h : ¬ AccOk item frm (lastAt item fw L Z z5 k) (Z un j).toNat) : ¬ NodeOk item fw frm L Z z5 k := by
  intro hn
  have := hn j (by rw [hu, Int.toNat_natCast]; omega)
  rw [hu, Int.toNat_natCast] at this
  exact h this

theorem last_succ {item fw : Nat → Int} {L : Nat → Nat} {Z : Nat → Nat → Int} {z5 : Nat → Int} {k un l : Nat} (hu : z5 k = (un : Int)) (hl : L un = l) :
    rowPut item fw (Z un) (un : Int) (lastAt item fw L Z z5 k) l = lastAt item fw L Z z5 (k + 1) := by
  show _ = rowPut item fw (Z (z5 k).toNat) (z5 k) (lastAt item fw L Z z5 k) (L (z5 k).toNat)
  rw [hu, Int.toNat_natCast, hl]

theorem put_yes {w wr : World} {N : Nat} {item fw zr : Nat → Int} {u : Int} {last : Nat → Int} {s a x : Nat} {f : Int} (hz : zr s = (a : Int)) (hx : item a = (x : Int)) (hf : fw a = f) (h : 0 < f)
    (M : Mid w wr N (rowPut item fw zr u last s)) : Mid w (wr.setCell ⟨w.heap.size, x, none⟩ (.int .i64 u)) N (rowPut item fw zr u last (s + 1)) := by
  have e : rowPut item fw zr u last (s + 1) = fun y => if y = x then u else rowPut item fw zr u last s y := by
    show put item fw u (rowPut item fw zr u last s) (zr s).toNat = _
    unfold put
    rw [hz, Int.toNat_natCast, hf, if_pos h, hx, Int.toNat_natCast]
  rw [e]
  exact M.set x u

theorem put_no {w wr : World} {N : Nat} {item fw zr : Nat → Int} {u : Int} {last : Nat → Int} {s a : Nat} {f : Int} (hz : zr s = (a : Int)) (hf : fw a = f) (h : ¬ 0 < f)
    (M : Mid w wr N (rowPut item fw zr u last s)) : Mid w wr N (rowPut item fw zr u last (s + 1)) := by
  have e : rowPut item fw zr u last (s + 1) = rowPut item fw zr u last s := by
    show put item fw u (rowPut item fw zr u last s) (zr s).toNat = _
    unfold put
    rw [hz, Int.toNat_natCast, hf, if_neg h]
  rw [e]
  exact M

theorem viewed_no {w wr : World} {q k : Nat} {P : Nat → Prop} (hk : k < q) (h : ¬ P k) (hb : Below w.heap.size w wr) : Viewed w q P (.returned (.bool false)) wr :=
  ⟨false, rfl, ⟨(fun h => by cases h), fun hh => absurd (hh k hk) h⟩, hb⟩

theorem viewed_yes {w wr : World} {q : Nat} {P : Nat → Prop} (h : ∀ k, k < q → P k) (hb : Below w.heap.size w wr) : Viewed w q P (.returned (.bool true)) wr :=
  ⟨true, rfl, ⟨fun _ => h, fun _ => rfl⟩, hb⟩

theorem upto_succ' {P : Nat → Prop} {k : Nat} (h : ∀ i, i < k → P i) (hk : P k) : ∀ i, i < k + 1 → P i := by
  intro i hi
  by_cases e : i = k
  · rw [e]; exact hk
  · exact h i (by omega)

set_option maxRecDepth 100000 in
set_option maxHeartbeats 4000000 in
theorem view_any (gb ac N n m q : Nat) (a4 a5 : Option Addr) (c4 c5 : Nat) (item fw frm : Nat → Int) (L : Nat → Nat) (Z : Nat → Nat → Int) (z5 : Nat → Int) (w : World)
    (HG : Hid (Graph w gb ac N n m a4 c4 item fw frm)) (HB : Hid (Grid w 0 a4 m L Z)) (HO : Hid (Row w 0 a5 q z5))
    (bN : N ≤ 16384) (bq : q ≤ 65536) (HL : Hid (∀ r, r < m → L r ≤ 131072))
    (HI : Hid (∀ i, i < n → 0 ≤ item i ∧ item i < (N : Int))) (HA : Hid (∀ r, r < m → ∀ i, i < L r → 0 ≤ Z r i ∧ Z r i < (n : Int))) (HN : Hid (∀ i, i < q → 0 ≤ z5 i ∧ z5 i < (m : Int))) :
    Calls Try.prog 39 #[.pointer (some ⟨gb, 0, none⟩), .slice a5 q c5] w (Viewed w q (NodeOk item fw frm L Z z5)) := by
  have hmk := run_make_row' (P := Try.prog) 26 3 (.int .i64 0) 8 Try.underlying26 info3 rfl .i64 .i64 N (by omega) (by omega)
  obtain ⟨ai, ci, g1⟩ := HG.out.items
  go_enter Try.func39, Try.ntmps39
  go_wp2
  go_loopw [23] (fun i wr => ∃ k : Nat, k ≤ N ∧ i = .int .i64 k ∧ Hid (Mid w wr N (fun x => if x < k then -1 else 0))) (fun i _ => N - (intOf i).toNat)
  case atStart => exact ⟨0, Nat.zero_le _, rfl, mid_start w N⟩
  case round =>
    obtain ⟨k, hk, rfl, H⟩ := hrel
    by_cases hlt : k < N
    · have hc1 := H.out.2.cell hlt
      have hf1 := H.out.2.frozen k
      have hkI : (k : Int) < (N : Int) := by omega
      go_wp2
      go_roundw
      case rel => exact ⟨k + 1, by omega, by go_num, (H.out.set k (-1)).congr (by intro x hx; by_cases e : x = k <;> by_cases e2 : x < k <;> simp [e, e2] <;> omega)⟩
      case measure => simp [intOf]; omega
    have hkN : N = k := by omega
    subst hkN
    have M0 : Hid (Mid w wr N (lastAt item fw L Z z5 0)) := H.out.congr (by intro x hx; simp [lastAt, hx])
    clear H
    go_wp2
    go_loopw [32] (fun i wr => ∃ k : Nat, k ≤ q ∧ i = .int .i64 k ∧ Hid (Mid w wr N (lastAt item fw L Z z5 k)) ∧ Hid (∀ j, j < k → NodeOk item fw frm L Z z5 j)) (fun i _ => q - (intOf i).toNat)
    case atStart => exact ⟨0, Nat.zero_le _, rfl, M0, fun j hj => absurd hj (by omega)⟩
    clear M0
    case round =>
      obtain ⟨k, hk, rfl, M, HP⟩ := hrel
      by_cases hlt : k < q
      · obtain ⟨p, hix, hcell0⟩ := HO.out.at c5 hlt
        obtain ⟨un, hu⟩ := Int.eq_ofNat_of_zero_le (HN.out k hlt).1
        have hum : un < m := by have := (HN.out k hlt).2; omega
        have Hu : Hid (z5 k = (un : Int)) := hu
        rw [hu] at hcell0
        have hcell := cell_later M.out.1 hcell0
        obtain ⟨p2, ar, cr, hix2, hcell20, _, hrow⟩ := HB.out.at c4 hum
        have hcell2 := cell_later M.out.1 hcell20
        have g3 := cell_later M.out.1 HG.out.byTxn
        have hb := HL.out un hum
        have Hrow : Hid (Row w 0 ar (L un) (Z un)) := hrow
        obtain ⟨l, hl⟩ : ∃ l, L un = l := ⟨_, rfl⟩
        rw [hl] at hcell2 hb
        have Hl : Hid (L un = l) := hl
        clear hu hcell0 hrow hl
        have Hc20 : Hid (w.cell? p2 = some (.slice ar (L un) cr)) := hcell20
        clear hcell20
        go_wp2
        go_loopw [44] (fun i wr => ∃ j : Nat, j ≤ l ∧ i = .int .i64 j ∧ Hid (Mid w wr N (lastAt item fw L Z z5 k)) ∧ Hid (∀ i, i < j → AccOk item frm (lastAt item fw L Z z5 k) (Z un i).toNat)) (fun i _ => l - (intOf i).toNat)
        case atStart => exact ⟨0, Nat.zero_le _, rfl, M, fun j hj => absurd hj (by omega)⟩
        clear hcell hcell2 g3 M
        case round =>
          obtain ⟨j, hj, rfl, M, HR⟩ := hrel
          by_cases hjl : j < l
          · have hjL : j < L un := by rw [Hl.out]; exact hjl
            obtain ⟨p3, hix30, hcell30⟩ := Hrow.out.at cr hjL
            rw [Hl.out] at hix30
            obtain ⟨a, ha⟩ := Int.eq_ofNat_of_zero_le (HA.out un hum j hjL).1
            have han : a < n := by have := (HA.out un hum j hjL).2; omega
            have Ha : Hid (Z un j = (a : Int)) := ha
            rw [ha] at hcell30
            have hcell3 := cell_later M.out.1 hcell30
            obtain ⟨x, hx⟩ := Int.eq_ofNat_of_zero_le (HI.out a han).1
            have hxN : x < N := by have := (HI.out a han).2; omega
            have Hx : Hid (item a = (x : Int)) := hx
            have gi := cell_later M.out.1 (HG.out.item a han)
            rw [hx] at gi
            have gf := cell_later M.out.1 (HG.out.frm a han)
            have g2 := cell_later M.out.1 HG.out.accs
            have gl := M.out.2.cell hxN
            obtain ⟨f, hf⟩ : ∃ f, frm a = f := ⟨_, rfl⟩
            rw [hf] at gf
            have Hf : Hid (frm a = f) := hf
            obtain ⟨y, hy⟩ : ∃ y, lastAt item fw L Z z5 k x = y := ⟨_, rfl⟩
            simp only [hy] at gl
            have Hy : Hid (lastAt item fw L Z z5 k x = y) := hy
            have hanI : (a : Int) < (n : Int) := by omega
            have hxNI : (x : Int) < (N : Int) := by omega
            clear hjL hcell30 ha hx hf hy hix hix2
            by_cases hm2 : f = -2
            · have hfb : (f != -2) = false := by simp [hm2]
              have Hm2 : Hid (f = -2) := hm2
              clear hm2
              go_wp2
              go_quiet (fail)
              go_wp2
              go_roundw
              case rel => exact ⟨j + 1, by omega, by go_num, M.out.drewN _, upto_succ' HR.out (acc_none Ha.out Hf.out Hm2.out)⟩
              case measure => simp [intOf]; omega
            have hfb : (f != -2) = true := by rw [bne_iff_ne]; exact hm2
            have Hm2 : Hid (¬ f = -2) := hm2
            clear hm2
            by_cases hfy : f = y
            · have hyb : (f != y) = false := by simp [hfy]
              have Hfy : Hid (f = y) := hfy
              clear hfy
              go_wp2
              go_quiet (fail)
              go_wp2
              go_roundw
              case rel => exact ⟨j + 1, by omega, by go_num, M.out.drewN _, upto_succ' HR.out (acc_last Ha.out Hf.out Hx.out Hy.out Hfy.out)⟩
              case measure => simp [intOf]; omega
            · have hyb : (f != y) = true := by rw [bne_iff_ne]; exact hfy
              have Hfy : Hid (¬ f = y) := hfy
              clear hfy
              go_wp2
              go_quiet (fail)
              go_wp2
              go_ret
              exact viewed_no hlt (node_bad Hu.out Hl.out hjl (acc_bad Ha.out Hf.out Hx.out Hy.out Hm2.out Hfy.out)) (M.out.drewN _).1
          have hjl' : j = l := by omega
          subst hjl'
          have hcell2 := cell_later M.out.1 Hc20.out
          rw [Hl.out] at hcell2
          have g3 := cell_later M.out.1 HG.out.byTxn
          go_wp2
          go_loopw [82] (fun i wr => ∃ s : Nat, s ≤ j ∧ i = .int .i64 s ∧ Hid (Mid w wr N (rowPut item fw (Z un) (un : Int) (lastAt item fw L Z z5 k) s))) (fun i _ => j - (intOf i).toNat)
          case atStart => exact ⟨0, Nat.zero_le _, rfl, M⟩
          clear hcell2 g3 M
          case round =>
            obtain ⟨s, hs, rfl, M⟩ := hrel
            by_cases hsl : s < j
            · have hjL : s < L un := by rw [Hl.out]; exact hsl
              obtain ⟨p3, hix30, hcell30⟩ := Hrow.out.at cr hjL
              rw [Hl.out] at hix30
              obtain ⟨a, ha⟩ := Int.eq_ofNat_of_zero_le (HA.out un hum s hjL).1
              have han : a < n := by have := (HA.out un hum s hjL).2; omega
              have Ha : Hid (Z un s = (a : Int)) := ha
              rw [ha] at hcell30
              have hcell3 := cell_later M.out.1 hcell30
              obtain ⟨x, hx⟩ := Int.eq_ofNat_of_zero_le (HI.out a han).1
              have hxN : x < N := by have := (HI.out a han).2; omega
              have Hx : Hid (item a = (x : Int)) := hx
              have gi := cell_later M.out.1 (HG.out.item a han)
              rw [hx] at gi
              have gf := cell_later M.out.1 (HG.out.fw a han)
              have g2 := cell_later M.out.1 HG.out.accs
              have gl := M.out.2.cell hxN
              have gz := M.out.2.frozen x
              obtain ⟨f, hf⟩ : ∃ f, fw a = f := ⟨_, rfl⟩
              rw [hf] at gf
              have Hf : Hid (fw a = f) := hf
              obtain ⟨y, hy⟩ : ∃ y, rowPut item fw (Z un) (un : Int) (lastAt item fw L Z z5 k) s x = y := ⟨_, rfl⟩
              simp only [hy] at gl
              have hanI : (a : Int) < (n : Int) := by omega
              have hxNI : (x : Int) < (N : Int) := by omega
              clear hjL hcell30 ha hx hf hy hix hix2
              by_cases hpos : 0 < f
              · go_wp2
                go_roundw
                case rel => exact ⟨s + 1, by omega, by go_num, put_yes Ha.out Hx.out Hf.out hpos M.out⟩
                case measure => simp [intOf]; omega
              · go_wp2
                go_roundw
                case rel => exact ⟨s + 1, by omega, by go_num, put_no Ha.out Hf.out hpos M.out⟩
                case measure => simp [intOf]; omega
            have hsj : s = j := by omega
            subst hsj
            have M' : Hid (Mid w wr N (lastAt item fw L Z z5 (k + 1))) := by
              have := M.out
              rw [last_succ Hu.out Hl.out] at this
              exact this
            clear M
            go_wp2
            go_roundw
            case rel => exact ⟨k + 1, by omega, by go_num, M', upto_succ' HP.out (node_good Hu.out Hl.out HR.out)⟩
            case measure => simp [intOf]; omega
      have hkq : k = q := by omega
      subst hkq
      go_wp2
      go_ret
      exact viewed_yes HP.out M.out.1

end Go.Proofs.Qxb6000570a.view
