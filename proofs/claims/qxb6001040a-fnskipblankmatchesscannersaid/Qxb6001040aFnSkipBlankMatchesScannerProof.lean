/-
  A PROOF OF 'Rows.FnSkipBlankMatchesScannerSaid'. The frame is the guide's template for a law (by proof-skeleton.mjs) at this function's number and types; the walk is this seat's own.
-/
import Derived.Test.Qxb6001040aRows
import Derived.WalkKit
import Derived.ProofKit
import Derived.OpenShut
import Derived.ShutString
import Derived.Test.Qxb6001040aScan
namespace Go.Proofs.Qxb6001040a.fnSkipBlankMatchesScanner
open Go.ChangeShapes Go.WideShapes Go.ChangeAt Go.RowKit
open Go.ChangeMaps (open_string shut_string)
set_option linter.unusedVariables false      -- a walk need not use every 'w<i>' (that an integer argument fits its kind)

theorem own : ownKnob Try.prog.godebug = none := by kernel_rfl

/-! ### STEP 1: THE WALK: the Go text returns true. 'Grown w w'': the world has at most new blocks (Derived/RowKit3.lean). Part the cases AHEAD of 'go_enter' where a test parts the walk; take each callee by a contract of your own. -/
theorem stop_at {doc : ByteArray} {p T : Nat} (hT : p + (scan (doc.data.toList.drop p) false).1 = T) (h : T < doc.size) :
    doc[T] ≠ 32 ∧ doc[T] ≠ 9 ∧ doc[T] ≠ 13 ∧ doc[T] ≠ 10 ∧ doc[T] ≠ 35 := by
  have hlen : (doc.data.toList.drop p).length = doc.size - p := by simp
  have h2 := scan_stop (doc.data.toList.drop p) false (by omega)
  have e : (doc.data.toList.drop p)[(scan (doc.data.toList.drop p) false).1]'(by omega) = doc[T] := by
    subst hT
    rw [List.getElem_drop]
    rfl
  rw [e] at h2
  exact h2

theorem grown_drewN {w w' : World} (h : Grown w w') (n : Nat) : Grown w (w'.drewN n) := h

set_option maxHeartbeats 1000000 in
theorem walk (a0 : ByteArray) (a1 : Int) (a2 : Int) (w0 : a0.size ≤ maxLen) (w1 : (Lit.int .i64 a1).wf = true) (w2 : (Lit.int .i64 a2).wf = true) (w : World) :
    Calls Try.prog 3 #[.string a0, .int .i64 a1, .int .i64 a2] w fun e w' => e = .returned (.bool true) ∧ Grown w w' := by
  by_cases g0 : a0.size ≤ 1048576
  · by_cases g1 : 0 ≤ a1
    · by_cases g2 : a1 ≤ (a0.size : Int)
      · by_cases g3 : 0 ≤ a2
        · by_cases g4 : a2 ≤ 1073741824
          · obtain ⟨p0, rfl⟩ := Int.eq_ofNat_of_zero_le g1
            obtain ⟨l0, rfl⟩ := Int.eq_ofNat_of_zero_le g3
            obtain ⟨T1, hT1⟩ : ∃ T1, p0 + (scan (a0.data.toList.drop p0) false).1 = T1 := ⟨_, rfl⟩
            obtain ⟨N, hN⟩ : ∃ N, (scan (a0.data.toList.drop p0) false).2 = N := ⟨_, rfl⟩
            have HZ : Hid (Left a0 T1 (l0 + N) p0 l0 false) := ⟨hT1, by rw [hN]⟩
            have HS : Hid (Left a0 T1 N p0 0 false) := ⟨hT1, by rw [hN]; omega⟩
            have hle := scan_le (a0.data.toList.drop p0) false
            have hlen : (a0.data.toList.drop p0).length = a0.size - p0 := by simp
            have hT : T1 ≤ a0.size := by omega
            have hNb : N ≤ 1048576 := by omega
            have HX : Hid (∀ h : T1 < a0.size, a0[T1] ≠ 32 ∧ a0[T1] ≠ 9 ∧ a0[T1] ≠ 13 ∧ a0[T1] ≠ 10 ∧ a0[T1] ≠ 35) := fun h => stop_at hT1 h
            clear hT1 hN hle hlen w1 w2 w0
            by_cases hend : T1 < a0.size
            · obtain ⟨x1, x2, x3, x4, x5⟩ := HX.out hend
              have HY : Hid (a0[T1] ≠ 32 ∧ a0[T1] ≠ 9 ∧ a0[T1] ≠ 13 ∧ a0[T1] ≠ 10 ∧ a0[T1] ≠ 35) := ⟨x1, x2, x3, x4, x5⟩
              clear HX x1 x2 x3 x4 x5
              go_enter Try.func3, Try.ntmps3
              go_wp2_with (first
                | (go_at_call 8; go_in)
                | (go_at_call 9; refine (zz_any a0 p0 l0 (by omega) g0 (by omega) T1 (l0 + N) HZ.out _).mono ?_; rintro e w' ⟨rfl, n, rfl⟩)
                | (go_at_call 10; refine (scan_any a0 p0 (by omega) g0 T1 N HS.out _).mono ?_; rintro e w' ⟨rfl, rfl⟩)
                | (go_at_call 11; refine (starts_no _ HY.out.1 HY.out.2.1 HY.out.2.2.1 HY.out.2.2.2.1 HY.out.2.2.2.2 _).mono ?_; rintro e w' ⟨rfl, rfl⟩))
              go_ret
              exact ⟨rfl, grown_drewN (Grown.alloc (Grown.refl _) _ _) _⟩
            · obtain rfl : T1 = a0.size := by omega
              clear HX
              go_enter Try.func3, Try.ntmps3
              go_wp2_with (first
                | (go_at_call 8; go_in)
                | (go_at_call 9; refine (zz_any a0 p0 l0 (by omega) g0 (by omega) a0.size (l0 + N) HZ.out _).mono ?_; rintro e w' ⟨rfl, n, rfl⟩)
                | (go_at_call 10; refine (scan_any a0 p0 (by omega) g0 a0.size N HS.out _).mono ?_; rintro e w' ⟨rfl, rfl⟩))
              go_ret
              exact ⟨rfl, grown_drewN (Grown.alloc (Grown.refl _) _ _) _⟩
          · go_enter Try.func3, Try.ntmps3
            go_wp2
            go_ret
            exact ⟨rfl, by repeat (first | exact Grown.refl _ | apply Grown.drew | apply Grown.alloc)⟩
        · go_enter Try.func3, Try.ntmps3
          go_wp2
          go_ret
          exact ⟨rfl, by repeat (first | exact Grown.refl _ | apply Grown.drew | apply Grown.alloc)⟩
      · go_enter Try.func3, Try.ntmps3
        go_wp2
        go_ret
        exact ⟨rfl, by repeat (first | exact Grown.refl _ | apply Grown.drew | apply Grown.alloc)⟩
    · go_enter Try.func3, Try.ntmps3
      go_wp2
      go_ret
      exact ⟨rfl, by repeat (first | exact Grown.refl _ | apply Grown.drew | apply Grown.alloc)⟩
  · go_enter Try.func3, Try.ntmps3
    go_wp2
    go_ret
    exact ⟨rfl, by repeat (first | exact Grown.refl _ | apply Grown.drew | apply Grown.alloc)⟩

/-! ### THE ROW's STEP: WRITTEN OUT: LEAVE IT -/
set_option maxRecDepth 100000 in
theorem lifted (os : Os) (started : os.Started) (H : Type) (enc : TypeId × Value → H) :
    ReturnsInHanded {} Try.checked os 3 .any (Rows.fnSkipBlankMatchesScannerSpec.pre6 enc Try.prog Try.f3 Rows.fnSkipBlankMatchesScannerRow.domain false) (Rows.fnSkipBlankMatchesScannerSpec.post enc Try.prog Try.f3 false true false false) := by
  refine returnsInHanded_of_change (C := Try.checked) own started (by kernel_rfl) Try.func3
    (ChangeSpec.witness6 (enc := enc) (C := Try.checked) false ⟨#[], #[.string ByteArray.empty, .int .i64 0, .int .i64 0], []⟩ 8 (by kernel_rfl) (by kernel_rfl) (by kernel_rfl) (by kernel_rfl)) ?_
  intro W base args ds gs before hval0 hW hcnd _
  have hval : ∀ (j : Nat) t v, Try.f3.params[j]? = some t → args[j]? = some v → Value.okWide Try.prog W .any base t v := hval0
  have hW' := hW
  obtain ⟨p, q, hA0, hV, rfl, hfz, hnd⟩ := hW
  have hA : DataW.TrodAll enc Try.prog W 0 (fun _ => true) true Try.f3.params.toList args.toList ds p := hA0
  rw [Try.params3] at hA hval
  obtain ⟨v0, vs0, d0, ds0, p0, q0, hargs, rfl, rfl, h0, r0⟩ := trodAll_cons hA
  obtain ⟨v1, vs1, d1, ds1, p1, q1, rfl, rfl, rfl, h1, r1⟩ := trodAll_cons r0
  obtain ⟨v2, vs2, d2, ds2, p2, q2, rfl, rfl, rfl, h2, r2⟩ := trodAll_cons r1
  obtain ⟨rfl, rfl, rfl⟩ := trodAll_nil r2
  obtain rfl : args = #[v0, v1, v2] := by cases args; simp_all
  obtain ⟨rfl, rfl⟩ := trodVars_none hV
  obtain ⟨a0, rfl, rfl, rfl, w0⟩ := open_string Try.underlying9 (hval 0 9 v0 rfl rfl) h0
  obtain ⟨a1, rfl, rfl, rfl, w1⟩ := open_int Try.underlying3 (hval 1 3 v1 rfl rfl) h1
  obtain ⟨a2, rfl, rfl, rfl, w2⟩ := open_int Try.underlying3 (hval 2 3 v2 rfl rfl) h2
  clear hA0 hval0
  simp only [List.append_nil] at hW'
  refine (walk a0 a1 a2 w0 w1 w2 W).mono fun e W' ⟨he, hg⟩ => ?_
  subst he
  exact ⟨_, rfl, post_of_same (pa := []) (pv := []) hW' (fun _ _ _ => (trodAll_cons_mk (shut_bool Try.underlying4 _) trodAll_mk0)) (fun sp _ => (trodAll_cons_mk (shut_string Try.underlying9 w0) (trodAll_cons_mk (shut_int Try.underlying3 w1) (trodAll_cons_mk (shut_int Try.underlying3 w2) trodAll_mk0)))) (fun _ _ => rfl) rfl
    (hg.frame _) hg.2.1 (ok_one (by kernel_rfl) rfl (okWide_bool_mk Try.underlying4 _))⟩

theorem over : Rows.fnSkipBlankMatchesScannerRow.holds Try.pinned (OpenSpec.ofChange Rows.fnSkipBlankMatchesScannerSpec) :=
  OpenClaim.holds_of_wide 3 Try.f3 rfl rfl rfl rfl rfl rfl rfl ⟨rfl, rfl, rfl, rfl, rfl⟩ rfl rfl rfl rfl rfl (by kernel_rfl) Try.func3 (by kernel_rfl)
    (of_decide_eq_true (by kernel_rfl)) (by unfold Func.isWrapper; first | (rw [if_pos (by decide +kernel)]; kernel_rfl) | (rw [if_neg (by decide +kernel)]; exact ⟨rfl, rfl⟩))
    (fun os started H enc _ => lifted os started H enc)

/-- ████ THE STATEMENT ████ -/
theorem proved : Rows.FnSkipBlankMatchesScannerSaid :=
  over
end Go.Proofs.Qxb6001040a.fnSkipBlankMatchesScanner

namespace Go.Proofs.Qxb6001040a
/-- The statement, under a short name. -/
theorem skipBlankMatchesScanner_proved : Rows.FnSkipBlankMatchesScannerSaid :=
  fnSkipBlankMatchesScanner.proved
end Go.Proofs.Qxb6001040a
