/-
  A PROOF OF 'Rows.FnUnquoteInvertsQuoteSaid'. The frame is the guide's template for a law (by proof-skeleton.mjs) at this function's number and types; the walk, and the closing of 'post' limb by limb, are this seat's own.
-/
import Derived.Test.Qxb6001292aRows
import Derived.WalkKit
import Derived.ProofKit
import Derived.OpenShut
import Derived.ShutString
import Derived.Test.Qxb6001292aUnq
namespace Go.Proofs.Qxb6001292a.fnUnquoteInvertsQuote
open Go.ChangeShapes Go.WideShapes Go.ChangeAt Go.RowKit
open Go.ChangeMaps (open_string shut_string)
set_option linter.unusedVariables false      -- a walk need not use every 'w<i>' (that an integer argument fits its kind)

theorem own : ownKnob Try.prog.godebug = none := by kernel_rfl

/-! ### STEP 1: THE WALK: the Go text returns true; nothing that was there has turned. -/
set_option maxHeartbeats 1000000 in
theorem walk (a0 : ByteArray) (a1 : Int) (a2 : ByteArray) (a3 : ByteArray) (w0 : a0.size ≤ maxLen) (w1 : (Lit.int .u8 a1).wf = true) (w2 : a2.size ≤ maxLen) (w3 : a3.size ≤ maxLen) (w : World) :
    Calls Try.prog 5 #[.string a0, .int .u8 a1, .string a2, .string a3] w fun e w' => e = .returned (.bool true) ∧ Below w.heap.size w w' := by
  obtain ⟨b1, b2⟩ := bounds_u8 w1
  clear w1
  unfold maxLen at w0 w2 w3
  by_cases g0 : a0.size ≤ 65536
  · by_cases g1 : a2.size ≤ 65536
    · by_cases g2 : a3.size ≤ 65536
      · obtain ⟨q, rfl⟩ : ∃ q : UInt8, a1 = (q.toNat : Int) := ⟨a1.toNat.toUInt8, by rw [UInt8.toNat_ofNat']; omega⟩
        clear b1 b2 w0 w2 w3
        by_cases hq : q = 92
        · have hqb : ((q.toNat : Int) == 92) = true := u8_is hq
          clear hq
          go_enter Try.func5, Try.ntmps5
          go_wp2
          go_ret
          exact ⟨rfl, Below.refl _ _⟩
        · by_cases he1 : hasB a2.data.toList q = true
          · by_cases he2 : hasB a2.data.toList 92 = true
            · exact law_main a0 a2 a3 q g0 g1 g2 hq he1 he2 w
            · have hqb : ((q.toNat : Int) == 92) = false := u8_no hq
              have HE1 : Hid (hasB a2.data.toList q = true) := he1
              have HE2 : Hid (hasB a2.data.toList 92 = false) := by show _ = _; simpa using he2
              clear hq he1 he2
              go_enter Try.func5, Try.ntmps5
              go_wp2_with (go_at_call 13; go_in)
              refine (has_any a2 q (by omega) _).mono ?_
              rintro e w1 ⟨rfl, rfl⟩
              rw [HE1.out]
              go_wp2_with fail
              refine (has_any a2 92 (by omega) _).mono ?_
              rintro e w1 ⟨rfl, rfl⟩
              rw [HE2.out]
              go_wp2
              go_ret
              exact ⟨rfl, Below.refl _ _⟩
          · have hqb : ((q.toNat : Int) == 92) = false := u8_no hq
            have HE1 : Hid (hasB a2.data.toList q = false) := by show _ = _; simpa using he1
            clear hq he1
            go_enter Try.func5, Try.ntmps5
            go_wp2_with (go_at_call 13; go_in)
            refine (has_any a2 q (by omega) _).mono ?_
            rintro e w1 ⟨rfl, rfl⟩
            rw [HE1.out]
            go_wp2
            go_ret
            exact ⟨rfl, Below.refl _ _⟩
      · go_enter Try.func5, Try.ntmps5
        go_wp2
        all_goals
          go_ret
          exact ⟨rfl, Below.refl _ _⟩
    · go_enter Try.func5, Try.ntmps5
      go_wp2
      all_goals
        go_ret
        exact ⟨rfl, Below.refl _ _⟩
  · go_enter Try.func5, Try.ntmps5
    go_wp2
    all_goals
      go_ret
      exact ⟨rfl, Below.refl _ _⟩

/-! ### THE ROW's STEP: WRITTEN OUT: LEAVE IT -/
set_option maxRecDepth 100000 in
theorem lifted (os : Os) (started : os.Started) (H : Type) (enc : TypeId × Value → H) :
    ReturnsInHanded {} Try.checked os 5 .any (Rows.fnUnquoteInvertsQuoteSpec.pre6 enc Try.prog Try.f5 Rows.fnUnquoteInvertsQuoteRow.domain false) (Rows.fnUnquoteInvertsQuoteSpec.post enc Try.prog Try.f5 false true false false) := by
  refine returnsInHanded_of_change (C := Try.checked) own started (by kernel_rfl) Try.func5
    (ChangeSpec.witness6 (enc := enc) (C := Try.checked) false ⟨#[], #[.string ByteArray.empty, .int .u8 0, .string ByteArray.empty, .string ByteArray.empty], []⟩ 8 (by kernel_rfl) (by kernel_rfl) (by kernel_rfl) (by kernel_rfl)) ?_
  intro W base args ds gs before hval0 hW hcnd _
  have hval : ∀ (j : Nat) t v, Try.f5.params[j]? = some t → args[j]? = some v → Value.okWide Try.prog W .any base t v := hval0
  have hW' := hW
  obtain ⟨p, q, hA0, hV, rfl, hfz, hnd⟩ := hW
  have hA : DataW.TrodAll enc Try.prog W 0 (fun _ => true) true Try.f5.params.toList args.toList ds p := hA0
  rw [Try.params5] at hA hval
  obtain ⟨v0, vs0, d0, ds0, p0, q0, hargs, rfl, rfl, h0, r0⟩ := trodAll_cons hA
  obtain ⟨v1, vs1, d1, ds1, p1, q1, rfl, rfl, rfl, h1, r1⟩ := trodAll_cons r0
  obtain ⟨v2, vs2, d2, ds2, p2, q2, rfl, rfl, rfl, h2, r2⟩ := trodAll_cons r1
  obtain ⟨v3, vs3, d3, ds3, p3, q3, rfl, rfl, rfl, h3, r3⟩ := trodAll_cons r2
  obtain ⟨rfl, rfl, rfl⟩ := trodAll_nil r3
  obtain rfl : args = #[v0, v1, v2, v3] := by cases args; simp_all
  obtain ⟨rfl, rfl⟩ := trodVars_none hV
  obtain ⟨a0, rfl, rfl, rfl, w0⟩ := open_string Try.underlying9 (hval 0 9 v0 rfl rfl) h0
  obtain ⟨a1, rfl, rfl, rfl, w1⟩ := open_int Try.underlying5 (hval 1 5 v1 rfl rfl) h1
  obtain ⟨a2, rfl, rfl, rfl, w2⟩ := open_string Try.underlying9 (hval 2 9 v2 rfl rfl) h2
  obtain ⟨a3, rfl, rfl, rfl, w3⟩ := open_string Try.underlying9 (hval 3 9 v3 rfl rfl) h3
  clear hA0 hval0
  simp only [List.append_nil] at hW'
  refine (walk a0 a1 a2 a3 w0 w1 w2 w3 W).mono fun e W' ⟨he, hg⟩ => ?_
  subst he
  exact ⟨_, rfl, _, _, _, [], [], [], hW', (trodAll_cons_mk (shut_bool Try.underlying4 _) trodAll_mk0), (trodAll_cons_mk (shut_string Try.underlying9 w0) (trodAll_cons_mk (shut_int Try.underlying5 w1) (trodAll_cons_mk (shut_string Try.underlying9 w2) (trodAll_cons_mk (shut_string Try.underlying9 w3) trodAll_mk0)))), rfl, hg.frame _, fun h => by cases h⟩

theorem over : Rows.fnUnquoteInvertsQuoteRow.holds Try.pinned (OpenSpec.ofChange Rows.fnUnquoteInvertsQuoteSpec) :=
  OpenClaim.holds_of_wide 5 Try.f5 rfl rfl rfl rfl rfl rfl rfl ⟨rfl, rfl, rfl, rfl, rfl⟩ rfl rfl rfl rfl rfl (by kernel_rfl) Try.func5 (by kernel_rfl)
    (of_decide_eq_true (by kernel_rfl)) (by unfold Func.isWrapper; first | (rw [if_pos (by decide +kernel)]; kernel_rfl) | (rw [if_neg (by decide +kernel)]; exact ⟨rfl, rfl⟩))
    (fun os started H enc _ => lifted os started H enc)

/-- ████ THE STATEMENT ████ -/
theorem proved : Rows.FnUnquoteInvertsQuoteSaid :=
  over
end Go.Proofs.Qxb6001292a.fnUnquoteInvertsQuote

namespace Go.Proofs.Qxb6001292a
/-- The statement, under a short name. -/
theorem unquoteInvertsQuote_proved : Rows.FnUnquoteInvertsQuoteSaid :=
  fnUnquoteInvertsQuote.proved
end Go.Proofs.Qxb6001292a
