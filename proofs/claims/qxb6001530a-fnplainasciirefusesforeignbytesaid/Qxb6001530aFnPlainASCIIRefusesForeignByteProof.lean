/-
  A PROOF OF 'Rows.FnPlainASCIIRefusesForeignByteSaid' ('example.com/tuoguan/tuoguan/zzlaws_internal_csvfile_b1.FnPlainASCIIRefusesForeignByte').
  The frame is the shell's; the walk and its lemmas are typed by the prover.
-/
import Derived.Test.Qxb6001530aRows
import Derived.Test.Qxb6001530aPlain
import Derived.WalkKit
import Derived.ProofKit
import Derived.OpenShut
import Derived.ShutString
namespace Go.Proofs.Qxb6001530a.fnPlainASCIIRefusesForeignByte
open Go.ChangeShapes Go.WideShapes Go.ChangeAt Go.RowKit
open Go.ChangeMaps (open_string shut_string)
set_option linter.unusedVariables false      -- a walk need not use every 'w<i>' (that an integer argument fits its kind)

theorem own : ownKnob Try.prog.godebug = none := by kernel_rfl

open Go.Proofs.Qxb6001530a.plain

theorem conv_one (a : Int) (h0 : 0 ≤ a) (h1 : a ≤ 255) : ∃ cs : ByteArray, (cs.size = 1 ∧ ∀ h : 0 < cs.size, (cs[0].toNat : Int) = a) ∧
    ∀ w : World, (convert 26 9 (.slice (some ⟨w.heap.size, 0, none⟩) 1 1)).run Try.prog (w.alloc (.cells #[.int .u8 a] 5)).drew = .ok (.string cs) (w.alloc (.cells #[.int .u8 a] 5)).drew := by
  refine ⟨strOfNums [a], ⟨by simp [strOfNums_size], fun h => ?_⟩, fun w => ?_⟩
  · have : (strOfNums [a])[0] = UInt8.ofNat a.toNat := by rfl
    rw [this]
    simp
    omega
  · exact run_convert_bytes_arg _ 26 5 Try.underlying26 Try.underlying5 _ _ 1 1 [a] rfl (by
      intro i hi
      have : i = 0 := by omega
      subst this
      simp) 9 Try.underlying9

/-- The byte that was put in at n stands at n. -/
theorem join_at (s cs : ByteArray) (n : Nat) (hn : n ≤ s.size) (h1 : cs.size = 1) :
    (s.extract 0 n ++ cs ++ s.extract n s.size).size = s.size + 1 ∧
    ∀ (h : n < (s.extract 0 n ++ cs ++ s.extract n s.size).size) (h' : 0 < cs.size), (s.extract 0 n ++ cs ++ s.extract n s.size)[n] = cs[0] := by
  refine ⟨by simp; omega, fun h h' => ?_⟩
  rw [ByteArray.getElem_append_left (by simp; omega)]
  rw [ByteArray.getElem_append_right (by simp; omega)]
  congr 1
  simp
  omega

set_option maxHeartbeats 800000 in
theorem walk_in (a0 : ByteArray) (n : Nat) (a2 : Int) (w0 : a0.size ≤ 1048576) (hn : n ≤ a0.size) (h0 : 0 ≤ a2) (h1 : a2 ≤ 255) (hf : Foreign a2) (w : World) :
    Calls Try.prog 4 #[.string a0, .int .i64 n, .int .u8 a2] w fun e w' => e = .returned (.bool true) ∧ Grown w w' := by
  obtain ⟨cs, hcs, hcv⟩ := conv_one a2 h0 h1
  have hsz : cs.size ≤ 1 := by omega
  have hpos : 0 < cs.size := by omega
  obtain ⟨j1, j2⟩ := join_at a0 cs n hn hcs.1
  have hlt : n < (a0.extract 0 n ++ cs ++ a0.extract n a0.size).size := by omega
  have hle : (a0.extract 0 n ++ cs ++ a0.extract n a0.size).size ≤ 2000000 := by omega
  have hfo : Foreign ((a0.extract 0 n ++ cs ++ a0.extract n a0.size)[n].toNat : Int) := by
    rw [j2 hlt hpos, hcs.2 hpos]; exact hf
  have zz : Hid (∀ w : World, Calls Try.prog 7 #[.string (a0.extract 0 n ++ cs ++ a0.extract n a0.size)] w fun e w' => e = .returned (.bool false) ∧ w' = w) :=
    fun w => zz_false _ n hlt hfo hle w
  clear hfo hle hlt j1 j2 hcs
  go_enter Try.func4, Try.ntmps4
  go_wp2_with (first | (go_at_call 8; refine (bytes_yes _ _ _ w0 _).mono ?_; rintro e w' ⟨rfl, rfl⟩) | (go_at_call 9; refine (allowed_no _ hf _).mono ?_; rintro e w' ⟨rfl, rfl⟩))
  go_region
  go_wp2_with (go_at_call 7; refine (zz.out _).mono ?_; rintro e w' ⟨rfl, rfl⟩)
  go_ret
  exact ⟨rfl, ((Grown.refl _).alloc _ _).drew⟩

theorem walk_out (a0 : ByteArray) (a1 : Int) (a2 : Int) (w0 : a0.size ≤ 1048576) (hn : a1 < 0 ∨ (a0.size : Int) < a1) (w : World) :
    Calls Try.prog 4 #[.string a0, .int .i64 a1, .int .u8 a2] w fun e w' => e = .returned (.bool true) ∧ Grown w w' := by
  rcases hn with hn | hn
  all_goals
    go_enter Try.func4, Try.ntmps4
    go_wp2_with (go_at_call 8; refine (bytes_yes _ _ _ w0 _).mono ?_; rintro e w' ⟨rfl, rfl⟩)
    go_ret
    exact ⟨rfl, Grown.refl _⟩

theorem walk_allowed (a0 : ByteArray) (n : Nat) (a2 : Int) (w0 : a0.size ≤ 1048576) (hn : n ≤ a0.size) (h0 : 0 ≤ a2) (hf : ¬ Foreign a2) (w : World) :
    Calls Try.prog 4 #[.string a0, .int .i64 n, .int .u8 a2] w fun e w' => e = .returned (.bool true) ∧ Grown w w' := by
  go_enter Try.func4, Try.ntmps4
  go_wp2_with (first | (go_at_call 8; refine (bytes_yes _ _ _ w0 _).mono ?_; rintro e w' ⟨rfl, rfl⟩) | (go_at_call 9; refine (allowed_yes _ h0 hf _).mono ?_; rintro e w' ⟨rfl, rfl⟩))
  go_ret
  exact ⟨rfl, Grown.refl _⟩

theorem walk_long (a0 : ByteArray) (a1 : Int) (a2 : Int) (w0 : a0.size ≤ maxLen) (hn : 1048576 < a0.size) (w : World) :
    Calls Try.prog 4 #[.string a0, .int .i64 a1, .int .u8 a2] w fun e w' => e = .returned (.bool true) ∧ Grown w w' := by
  go_enter Try.func4, Try.ntmps4
  go_wp2_with (go_at_call 8; refine (bytes_no _ _ _ hn w0 _).mono ?_; rintro e w' ⟨rfl, rfl⟩)
  go_ret
  exact ⟨rfl, Grown.refl _⟩

/-! ### STEP 1: THE WALK: the Go text returns true. 'Grown w w'': the world has at most new blocks (Derived/RowKit3.lean). Part the cases AHEAD of 'go_enter' where a test parts the walk; take each callee by a contract of your own. -/
theorem walk (a0 : ByteArray) (a1 : Int) (a2 : Int) (w0 : a0.size ≤ maxLen) (w1 : (Lit.int .i64 a1).wf = true) (w2 : (Lit.int .u8 a2).wf = true) (w : World) :
    Calls Try.prog 4 #[.string a0, .int .i64 a1, .int .u8 a2] w fun e w' => e = .returned (.bool true) ∧ Grown w w' := by
  obtain ⟨c0, c1⟩ := bounds_u8 w2
  by_cases hl : 1048576 < a0.size
  · exact walk_long a0 a1 a2 w0 hl w
  by_cases ho : a1 < 0 ∨ (a0.size : Int) < a1
  · exact walk_out a0 a1 a2 (by omega) ho w
  obtain ⟨n, rfl⟩ := Int.eq_ofNat_of_zero_le (show 0 ≤ a1 by omega)
  by_cases hf : Foreign a2
  · exact walk_in a0 n a2 (by omega) (by omega) c0 c1 hf w
  · exact walk_allowed a0 n a2 (by omega) (by omega) c0 hf w

/-! ### THE ROW's STEP: WRITTEN OUT: LEAVE IT -/
set_option maxRecDepth 100000 in
theorem lifted (os : Os) (started : os.Started) (H : Type) (enc : TypeId × Value → H) :
    ReturnsInHanded {} Try.checked os 4 .any (Rows.fnPlainASCIIRefusesForeignByteSpec.pre6 enc Try.prog Try.f4 Rows.fnPlainASCIIRefusesForeignByteRow.domain false) (Rows.fnPlainASCIIRefusesForeignByteSpec.post enc Try.prog Try.f4 false true false false) := by
  refine returnsInHanded_of_change (C := Try.checked) own started (by kernel_rfl) Try.func4
    (ChangeSpec.witness6 (enc := enc) (C := Try.checked) false ⟨#[], #[.string ByteArray.empty, .int .i64 0, .int .u8 0], []⟩ 8 (by kernel_rfl) (by kernel_rfl) (by kernel_rfl) (by kernel_rfl)) ?_
  intro W base args ds gs before hval0 hW hcnd _
  have hval : ∀ (j : Nat) t v, Try.f4.params[j]? = some t → args[j]? = some v → Value.okWide Try.prog W .any base t v := hval0
  have hW' := hW
  obtain ⟨p, q, hA0, hV, rfl, hfz, hnd⟩ := hW
  have hA : DataW.TrodAll enc Try.prog W 0 (fun _ => true) true Try.f4.params.toList args.toList ds p := hA0
  rw [Try.params4] at hA hval
  obtain ⟨v0, vs0, d0, ds0, p0, q0, hargs, rfl, rfl, h0, r0⟩ := trodAll_cons hA
  obtain ⟨v1, vs1, d1, ds1, p1, q1, rfl, rfl, rfl, h1, r1⟩ := trodAll_cons r0
  obtain ⟨v2, vs2, d2, ds2, p2, q2, rfl, rfl, rfl, h2, r2⟩ := trodAll_cons r1
  obtain ⟨rfl, rfl, rfl⟩ := trodAll_nil r2
  obtain rfl : args = #[v0, v1, v2] := by cases args; simp_all
  obtain ⟨rfl, rfl⟩ := trodVars_none hV
  obtain ⟨a0, rfl, rfl, rfl, w0⟩ := open_string Try.underlying9 (hval 0 9 v0 rfl rfl) h0
  obtain ⟨a1, rfl, rfl, rfl, w1⟩ := open_int Try.underlying3 (hval 1 3 v1 rfl rfl) h1
  obtain ⟨a2, rfl, rfl, rfl, w2⟩ := open_int Try.underlying5 (hval 2 5 v2 rfl rfl) h2
  clear hA0 hval0
  simp only [List.append_nil] at hW'
  refine (walk a0 a1 a2 w0 w1 w2 W).mono fun e W' ⟨he, hg⟩ => ?_
  subst he
  exact ⟨_, rfl, post_of_same (pa := []) (pv := []) hW' (fun _ _ _ => (trodAll_cons_mk (shut_bool Try.underlying4 _) trodAll_mk0)) (fun sp _ => (trodAll_cons_mk (shut_string Try.underlying9 w0) (trodAll_cons_mk (shut_int Try.underlying3 w1) (trodAll_cons_mk (shut_int Try.underlying5 w2) trodAll_mk0)))) (fun _ _ => rfl) rfl
    (hg.frame _) hg.2.1 (ok_one (by kernel_rfl) rfl (okWide_bool_mk Try.underlying4 _))⟩

theorem over : Rows.fnPlainASCIIRefusesForeignByteRow.holds Try.pinned (OpenSpec.ofChange Rows.fnPlainASCIIRefusesForeignByteSpec) :=
  OpenClaim.holds_of_wide 4 Try.f4 rfl rfl rfl rfl rfl rfl rfl ⟨rfl, rfl, rfl, rfl, rfl⟩ rfl rfl rfl rfl rfl (by kernel_rfl) Try.func4 (by kernel_rfl)
    (of_decide_eq_true (by kernel_rfl)) (by unfold Func.isWrapper; first | (rw [if_pos (by decide +kernel)]; kernel_rfl) | (rw [if_neg (by decide +kernel)]; exact ⟨rfl, rfl⟩))
    (fun os started H enc _ => lifted os started H enc)

/-- ████ THE STATEMENT ████ -/
theorem proved : Rows.FnPlainASCIIRefusesForeignByteSaid :=
  over
#print axioms proved
end Go.Proofs.Qxb6001530a.fnPlainASCIIRefusesForeignByte
