/-
  THE STATEMENT 'FnReadNumberMatchesModel': the walk of the law out of the contracts; the row.
-/
import Derived.Test.Qxb6000021aModsRows
import Derived.Test.Qxb6000021aModsRead
import Derived.Test.Qxb6000021aModsModelWalk
import Derived.Test.Qxb6000021aModsLaw
import Derived.WalkKit
import Derived.ProofKit
import Derived.OpenShut
import Derived.ShutString
import Derived.Below
import Derived.ChangeOld
namespace Go.Proofs.Qxb6000021aMods
open Go.RowKit Pl

theorem bytes9 (s : ByteArray) (w : World) (hs : s.size ≤ maxLen) :
    Calls Trym.prog 9 #[.string s] w fun e w' => e = .returned (.bool (decide (s.size ≤ 1048576))) ∧ w' = w := by
  unfold maxLen at hs
  by_cases h : s.size ≤ 1048576
  · have e : Hid (decide (s.size ≤ 1048576) = true) := decide_eq_true h
    go_enter Trym.func9, Trym.ntmps9
    go_wp2
    go_ret
    exact ⟨by rw [e.out]; rfl, rfl⟩
  · have e : Hid (decide (s.size ≤ 1048576) = false) := decide_eq_false h
    go_enter Trym.func9, Trym.ntmps9
    go_wp2
    go_ret
    exact ⟨by rw [e.out]; rfl, rfl⟩

theorem md_two (s : ByteArray) : md s = (false, ⟨#[]⟩, 0, false) ∨ ∃ neg dg ex, md s = (neg, dg, ex, true) := by
  unfold md mdTail
  split
  · exact .inl rfl
  · split
    · exact .inl rfl
    · unfold mdFin; split <;> exact .inr ⟨_, _, _, rfl⟩

namespace fnReadNumberMatchesModel
set_option maxRecDepth 100000 in
set_option maxHeartbeats 1000000 in
theorem walk (s : ByteArray) (hs : s.size ≤ maxLen) (w : World) :
    Calls Trym.prog 3 #[.string s] w fun e w' => e = .returned (.bool true) ∧ Below w.heap.size w w' := by
  by_cases h1 : s.size ≤ 1048576
  · by_cases h2 : s.size ≤ 65536
    · go_enter Trym.func3, Trym.ntmps3
      go_wp2_with fail
      refine (bytes9 s _ hs).mono ?_
      rintro e w' ⟨rfl, rfl⟩
      rw [decide_eq_true h1]
      go_wp2_with fail
      refine (md_any s _ (by omega)).mono ?_
      rintro e w1 ⟨big, rfl, hb1⟩
      cases big
      · go_wp2_with fail
        refine (zz_any s _ (by omega)).mono ?_
        rintro e w2 ⟨rfl, hb2⟩
        rw [rd_eq_md s]
        rcases md_two s with hM | ⟨neg, dg, ex, hM⟩
        · rw [hM]
          clear hM
          go_wp2
          go_ret
          exact ⟨rfl, (hb1.trans (hb2.mono hb1.size)).alloc (Nat.le_trans hb1.size hb2.size) _⟩
        · rw [hM]
          clear hM
          go_wp2
          go_ret
          exact ⟨rfl, (hb1.trans (hb2.mono hb1.size)).alloc (Nat.le_trans hb1.size hb2.size) _⟩
      · go_wp2
        go_ret
        exact ⟨rfl, hb1⟩
    · go_enter Trym.func3, Trym.ntmps3
      go_wp2_with fail
      refine (bytes9 s _ hs).mono ?_
      rintro e w' ⟨rfl, rfl⟩
      rw [decide_eq_true h1]
      go_wp2
      go_ret
      exact ⟨rfl, Below.refl _ _⟩
  · go_enter Trym.func3, Trym.ntmps3
    go_wp2_with fail
    refine (bytes9 s _ hs).mono ?_
    rintro e w' ⟨rfl, rfl⟩
    rw [decide_eq_false h1]
    go_wp2
    go_ret
    exact ⟨rfl, Below.refl _ _⟩

open Go.ChangeShapes Go.WideShapes Go.ChangeAt
open Go.ChangeMaps (open_string shut_string)

theorem own : ownKnob Trym.prog.godebug = none := by kernel_rfl

set_option linter.unusedVariables false
set_option maxRecDepth 100000 in
theorem lifted (os : Os) (started : os.Started) (H : Type) (enc : TypeId × Value → H) :
    ReturnsInHanded {} Trym.checked os 3 .any (Rows.fnReadNumberMatchesModelSpec.pre6 enc Trym.prog Trym.f3 Rows.fnReadNumberMatchesModelRow.domain false) (Rows.fnReadNumberMatchesModelSpec.post enc Trym.prog Trym.f3 false true false false) := by
  refine returnsInHanded_of_change (C := Trym.checked) own started (by kernel_rfl) Trym.func3
    (ChangeSpec.witness6 (enc := enc) (C := Trym.checked) false ⟨#[], #[.string ByteArray.empty], []⟩ 8 (by kernel_rfl) (by kernel_rfl) (by kernel_rfl) (by kernel_rfl)) ?_
  intro W base args ds gs before hval0 hW hcnd _
  have hval : ∀ (j : Nat) t v, Trym.f3.params[j]? = some t → args[j]? = some v → Value.okWide Trym.prog W .any base t v := hval0
  have hW' := hW
  obtain ⟨p, q, hA0, hV, rfl, hfz, hnd⟩ := hW
  have hA : DataW.TrodAll enc Trym.prog W 0 (fun _ => true) true Trym.f3.params.toList args.toList ds p := hA0
  rw [Trym.params3] at hA hval
  obtain ⟨v0, vs0, d0, ds0, p0, q0, hargs, rfl, rfl, h0, r0⟩ := trodAll_cons hA
  obtain ⟨rfl, rfl, rfl⟩ := trodAll_nil r0
  obtain rfl : args = #[v0] := by cases args; simp_all
  obtain ⟨rfl, rfl⟩ := trodVars_none hV
  obtain ⟨a0, rfl, rfl, rfl, w0⟩ := open_string Trym.underlying9 (hval 0 9 v0 rfl rfl) h0
  clear hA0 hval0
  refine (walk a0 w0 W).mono fun e W' ⟨he, bel⟩ => ?_
  subst he
  exact ⟨_, rfl, _, _, _, [], _, [], hW', trodAll_mk1 (shut_bool Trym.underlying4 _), (trodAll_cons_mk (shut_string Trym.underlying9 w0) trodAll_mk0), rfl, bel.frame _, fun h => by cases h⟩

theorem over : Rows.fnReadNumberMatchesModelRow.holds Trym.pinned (OpenSpec.ofChange Rows.fnReadNumberMatchesModelSpec) :=
  OpenClaim.holds_of_wide 3 Trym.f3 rfl rfl rfl rfl rfl rfl rfl ⟨rfl, rfl, rfl, rfl, rfl⟩ rfl rfl rfl rfl rfl (by kernel_rfl) Trym.func3 (by kernel_rfl)
    (of_decide_eq_true (by kernel_rfl)) (by unfold Func.isWrapper; first | (rw [if_pos (by decide +kernel)]; kernel_rfl) | (rw [if_neg (by decide +kernel)]; exact ⟨rfl, rfl⟩))
    (fun os started H enc _ => lifted os started H enc)

/-- THE STATEMENT -/
theorem proved : Rows.FnReadNumberMatchesModelSaid := over
end fnReadNumberMatchesModel
end Go.Proofs.Qxb6000021aMods
