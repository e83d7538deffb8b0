/- The law FnScheme holds: whatever the name, the law returns true (there are just the three schemes default, path and history), and its argument reads behind the call as it read before; no condition beside the row's own. The frame of the proof began as the kit's shell for this law; the walk is ours. -/
import Derived.Test.YtoemabiajnpdhaaRows
import Derived.WalkKit
import Derived.ProofKit
import Derived.OpenShut
import Derived.ShutString
import Derived.Below
import Derived.Test.YtoemabiajnpdhaaScheme
namespace Go.Proofs.Ytoemabiajnpdhaa.fnScheme
open Go.ChangeShapes Go.WideShapes Go.ChangeAt Go.RowKit
open Go.ChangeMaps (open_string shut_string)

theorem own : ownKnob Try.prog.godebug = none := by kernel_rfl

/-! ### THE WALK: the law returns true, at every name; what was there before the call is as it was. -/
theorem name_path : nameB ⟨#[112, 97, 116, 104]⟩ = true := by
  simp [nameB, ByteArray.toList_eq]

set_option maxRecDepth 100000 in
theorem walk (a0 : ByteArray) (w0 : a0.size ≤ maxLen) (w : World) :
    Calls Try.prog 3 #[.string a0] w fun e w' => e = .returned (.bool true) ∧ Below w.heap.size w w' := by
  unfold maxLen at w0
  by_cases hl : a0.size ≤ 100
  · have h2 := fun x => scheme_any _ true x name_path
    cases e1 : (a0.toList == [100, 101, 102, 97, 117, 108, 116]) with
    | true =>
      have h1 := fun x => scheme_any a0 true x (by simp [nameB, e1])
      go_enter Try.func3, Try.ntmps3
      go_wp2_with fail
      refine (h1 _).mono ?_
      rintro e w1 ⟨rfl, hb1⟩
      go_wp2_with fail
      refine (h2 _).mono ?_
      rintro e w2 ⟨rfl, hb2⟩
      go_wp2_with fail
      go_ret
      exact ⟨rfl, hb1.trans (hb2.mono hb1.size)⟩
    | false =>
      cases e2 : (a0.toList == [112, 97, 116, 104]) with
      | true =>
        have h1 := fun x => scheme_any a0 true x (by simp [nameB, e2])
        go_enter Try.func3, Try.ntmps3
        go_wp2_with fail
        refine (h1 _).mono ?_
        rintro e w1 ⟨rfl, hb1⟩
        go_wp2_with fail
        refine (h2 _).mono ?_
        rintro e w2 ⟨rfl, hb2⟩
        go_wp2_with fail
        go_ret
        exact ⟨rfl, hb1.trans (hb2.mono hb1.size)⟩
      | false =>
        cases e3 : (a0.toList == [104, 105, 115, 116, 111, 114, 121]) with
        | true =>
          have h1 := fun x => scheme_any a0 true x (by simp [nameB, e3])
          go_enter Try.func3, Try.ntmps3
          go_wp2_with fail
          refine (h1 _).mono ?_
          rintro e w1 ⟨rfl, hb1⟩
          go_wp2_with fail
          refine (h2 _).mono ?_
          rintro e w2 ⟨rfl, hb2⟩
          go_wp2_with fail
          go_ret
          exact ⟨rfl, hb1.trans (hb2.mono hb1.size)⟩
        | false =>
          have h1 := fun x => scheme_any a0 false x (by simp only [nameB, e1, e2, e3]; rfl)
          go_enter Try.func3, Try.ntmps3
          go_wp2_with fail
          refine (h1 _).mono ?_
          rintro e w1 ⟨rfl, hb1⟩
          go_wp2_with fail
          refine (h2 _).mono ?_
          rintro e w2 ⟨rfl, hb2⟩
          go_wp2_with fail
          go_ret
          exact ⟨rfl, hb1.trans (hb2.mono hb1.size)⟩
  · have hl2 : 100 < a0.size := by omega
    clear hl
    go_enter Try.func3, Try.ntmps3
    go_wp2_with fail
    all_goals
      go_ret
      exact ⟨rfl, Below.refl _ _⟩

/-! ### THE ROW's STEP: WRITTEN OUT: LEAVE IT -/
set_option maxRecDepth 100000 in
theorem lifted (os : Os) (started : os.Started) (H : Type) (enc : TypeId × Value → H) :
    ReturnsInHanded {} Try.checked os 3 .any (Rows.fnSchemeSpec.pre6 enc Try.prog Try.f3 Rows.fnSchemeRow.domain false) (Rows.fnSchemeSpec.post enc Try.prog Try.f3 false true false false) := by
  refine returnsInHanded_of_change (C := Try.checked) own started (by kernel_rfl) Try.func3
    (ChangeSpec.witness6 (enc := enc) (C := Try.checked) false ⟨#[], #[.string ByteArray.empty], []⟩ 8 (by kernel_rfl) (by kernel_rfl) (by kernel_rfl) (by kernel_rfl)) ?_
  intro W base args ds gs before hval0 hW hcnd _
  have hval : ∀ (j : Nat) t v, Try.f3.params[j]? = some t → args[j]? = some v → Value.okWide Try.prog W .any base t v := hval0
  have hW' := hW
  obtain ⟨p, q, hA0, hV, rfl, hfz, hnd⟩ := hW
  have hA : DataW.TrodAll enc Try.prog W 0 (fun _ => true) true Try.f3.params.toList args.toList ds p := hA0
  rw [Try.params3] at hA hval
  obtain ⟨v0, vs0, d0, ds0, p0, q0, hargs, rfl, rfl, h0, r0⟩ := trodAll_cons hA
  obtain ⟨rfl, rfl, rfl⟩ := trodAll_nil r0
  obtain rfl : args = #[v0] := by cases args; simp_all
  obtain ⟨rfl, rfl⟩ := trodVars_none hV
  obtain ⟨a0, rfl, rfl, rfl, w0⟩ := open_string Try.underlying9 (hval 0 9 v0 rfl rfl) h0
  clear hA0 hval0
  simp only [List.append_nil] at hW'
  refine (walk a0 w0 W).mono fun e W' ⟨he, bel⟩ => ?_
  subst he
  exact ⟨_, rfl, _, _, _, [], [], [], hW', trodAll_mk1 (shut_bool Try.underlying4 _), (trodAll_cons_mk (shut_string Try.underlying9 w0) trodAll_mk0), rfl, bel.frame _, fun h => by cases h⟩

theorem over : Rows.fnSchemeRow.holds Try.pinned (OpenSpec.ofChange Rows.fnSchemeSpec) :=
  OpenClaim.holds_of_wide 3 Try.f3 rfl rfl rfl rfl rfl rfl rfl ⟨rfl, rfl, rfl, rfl, rfl⟩ rfl rfl rfl rfl rfl (by kernel_rfl) Try.func3 (by kernel_rfl)
    (of_decide_eq_true (by kernel_rfl)) (by unfold Func.isWrapper; first | (rw [if_pos (by decide +kernel)]; kernel_rfl) | (rw [if_neg (by decide +kernel)]; exact ⟨rfl, rfl⟩))
    (fun os started H enc _ => lifted os started H enc)

/-- ████ THE STATEMENT ████ -/
theorem proved : Rows.FnSchemeSaid :=
  over
#print axioms proved
end Go.Proofs.Ytoemabiajnpdhaa.fnScheme
