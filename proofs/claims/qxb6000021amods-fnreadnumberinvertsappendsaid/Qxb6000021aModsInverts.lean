/-
  THE STATEMENT 'FnReadNumberInvertsAppend': the walk of the law out of the contracts; the row.
-/
import Derived.Test.Qxb6000021aModsRead
import Derived.Test.Qxb6000021aModsAppend
import Derived.Test.Qxb6000021aModsClone
import Derived.Test.Qxb6000021aModsBack
import Derived.WalkKit
import Derived.ProofKit
import Derived.OpenShut
import Derived.ShutString
import Derived.ChangeOld
import Derived.Below
namespace Go.Proofs.Qxb6000021aMods
open Go.RowKit Pl

namespace fnReadNumberInvertsAppend

set_option maxRecDepth 100000 in
set_option maxHeartbeats 1000000 in
theorem walk_in (neg : Bool) (dg : ByteArray) (ex : Int) (w : World) (hd : dg.size ≤ 65536) (hx1 : -65536 ≤ ex) (hx2 : ex ≤ 65536) :
    Calls Trym.prog 5 #[.bool neg, .string dg, .int .i64 ex] w fun e w' => e = .returned (.bool true) ∧ Below w.heap.size w w' := by
  have hdl : dg.data.toList.length = dg.size := by simp
  obtain ⟨hap0, hap1⟩ := ap_len neg dg.data.toList ex (by omega) hx1 hx2
  go_enter Trym.func5, Trym.ntmps5
  go_wp2_with fail
  refine (bytes16 neg dg ex _ (by unfold maxLen; omega)).mono ?_
  rintro e w' ⟨rfl, hw⟩
  subst hw
  rw [decide_eq_true (show dg.size ≤ 1048576 by omega)]
  go_wp2_with fail
  refine (cn_any neg dg ex _ (by omega)).mono ?_
  rintro e w' ⟨rfl, hw⟩
  subst hw
  cases hcn : cnB neg dg.data.toList ex
  · go_wp2
    go_ret
    exact ⟨rfl, Below.refl _ _⟩
  · have HB : Hid _ := rd_back hcn
    clear hcn
    go_wp2_with fail
    refine (ap_any neg dg ex (.slice none 0 0) [] _ _ (World.ownsRow_nil _ _ _ _) (Nat.le_refl _) (by simp) (by omega) (by omega) (by omega)).mono ?_
    rintro e w1 ⟨v1, rfl, R⟩
    rw [List.nil_append] at R
    obtain ⟨g, cap, rfl, hc⟩ := own_shape R.own hap0
    have hbel : Below w'.heap.size w' w1 := ((Below.refl _ _).alloc (Nat.le_refl _) _).trans (R.below.mono (by simp))
    have hcv := conv_own (cap := cap) hc
    clear R hc hdl
    generalize apT neg dg.data.toList ex = ts at *
    go_wp2_with fail
    refine (zz_any ⟨ts.toArray⟩ _ (by show ts.toArray.size ≤ _; simp; omega)).mono ?_
    rintro e w2 ⟨rfl, hb2⟩
    rw [HB.out]
    go_wp2
    go_ret
    exact ⟨rfl, ((hbel.trans (hb2.mono hbel.size)).alloc (Nat.le_trans hbel.size hb2.size) _)⟩

set_option maxRecDepth 100000 in
theorem walk_out (neg : Bool) (dg : ByteArray) (ex : Int) (w : World) (hd : dg.size ≤ maxLen) (hx0 : -9223372036854775808 ≤ ex) (hx3 : ex ≤ 9223372036854775807)
    (h : ¬ (dg.size ≤ 65536 ∧ -65536 ≤ ex ∧ ex ≤ 65536)) :
    Calls Trym.prog 5 #[.bool neg, .string dg, .int .i64 ex] w fun e w' => e = .returned (.bool true) ∧ Below w.heap.size w w' := by
  have HH : Hid _ := h
  clear h
  go_enter Trym.func5, Trym.ntmps5
  go_wp2_with fail
  refine (bytes16 neg dg ex _ hd).mono ?_
  rintro e w' ⟨rfl, hw⟩
  subst hw
  unfold maxLen at hd
  cases hb : decide (dg.size ≤ 1048576)
  · go_wp2
    go_ret
    exact ⟨rfl, Below.refl _ _⟩
  · clear hb
    have h : ¬ (dg.size ≤ 65536 ∧ -65536 ≤ ex ∧ ex ≤ 65536) := HH.out
    by_cases h2 : dg.size ≤ 65536
    · by_cases h3 : -65536 ≤ ex
      · have h4 : 65536 < ex := by omega
        clear h
        go_wp2
        go_ret
        exact ⟨rfl, Below.refl _ _⟩
      · clear h
        go_wp2
        go_ret
        exact ⟨rfl, Below.refl _ _⟩
    · clear h
      go_wp2
      go_ret
      exact ⟨rfl, Below.refl _ _⟩

open Go.ChangeShapes Go.WideShapes Go.ChangeAt
open Go.ChangeMaps (open_string shut_string)
set_option linter.unusedVariables false

theorem own : ownKnob Trym.prog.godebug = none := by kernel_rfl

theorem walk (a0 : Bool) (a1 : ByteArray) (a2 : Int) (w1 : a1.size ≤ maxLen) (w2 : (Lit.int .i64 a2).wf = true) (w : World) :
    Calls Trym.prog 5 #[.bool a0, .string a1, .int .i64 a2] w fun e w' => e = .returned (.bool true) ∧ Below w.heap.size w w' := by
  have hx := bounds_i64 w2
  by_cases h : a1.size ≤ 65536 ∧ -65536 ≤ a2 ∧ a2 ≤ 65536
  · exact walk_in a0 a1 a2 w h.1 h.2.1 h.2.2
  · exact walk_out a0 a1 a2 w w1 hx.1 hx.2 h

set_option maxRecDepth 100000 in
theorem lifted (os : Os) (started : os.Started) (H : Type) (enc : TypeId × Value → H) :
    ReturnsInHanded {} Trym.checked os 5 .any (Rows.fnReadNumberInvertsAppendSpec.pre6 enc Trym.prog Trym.f5 Rows.fnReadNumberInvertsAppendRow.domain false) (Rows.fnReadNumberInvertsAppendSpec.post enc Trym.prog Trym.f5 false true false false) := by
  refine returnsInHanded_of_change (C := Trym.checked) own started (by kernel_rfl) Trym.func5
    (ChangeSpec.witness6 (enc := enc) (C := Trym.checked) false ⟨#[], #[.bool false, .string ByteArray.empty, .int .i64 0], []⟩ 8 (by kernel_rfl) (by kernel_rfl) (by kernel_rfl) (by kernel_rfl)) ?_
  intro W base args ds gs before hval0 hW hcnd _
  have hval : ∀ (j : Nat) t v, Trym.f5.params[j]? = some t → args[j]? = some v → Value.okWide Trym.prog W .any base t v := hval0
  have hW' := hW
  obtain ⟨p, q, hA0, hV, rfl, hfz, hnd⟩ := hW
  have hA : DataW.TrodAll enc Trym.prog W 0 (fun _ => true) true Trym.f5.params.toList args.toList ds p := hA0
  rw [Trym.params5] at hA hval
  obtain ⟨v0, vs0, d0, ds0, p0, q0, hargs, rfl, rfl, h0, r0⟩ := trodAll_cons hA
  obtain ⟨v1, vs1, d1, ds1, p1, q1, rfl, rfl, rfl, h1, r1⟩ := trodAll_cons r0
  obtain ⟨v2, vs2, d2, ds2, p2, q2, rfl, rfl, rfl, h2, r2⟩ := trodAll_cons r1
  obtain ⟨rfl, rfl, rfl⟩ := trodAll_nil r2
  obtain rfl : args = #[v0, v1, v2] := by cases args; simp_all
  obtain ⟨rfl, rfl⟩ := trodVars_none hV
  obtain ⟨a0, rfl, rfl, rfl⟩ := open_bool Trym.underlying4 (hval 0 4 v0 rfl rfl) h0
  obtain ⟨a1, rfl, rfl, rfl, w1⟩ := open_string Trym.underlying9 (hval 1 9 v1 rfl rfl) h1
  obtain ⟨a2, rfl, rfl, rfl, w2⟩ := open_int Trym.underlying3 (hval 2 3 v2 rfl rfl) h2
  clear hA0 hval0
  refine (walk a0 a1 a2 w1 w2 W).mono fun e W' ⟨he, bel⟩ => ?_
  subst he
  exact ⟨_, rfl, _, _, _, [], _, [], hW', trodAll_mk1 (shut_bool Trym.underlying4 _), (trodAll_cons_mk (shut_bool Trym.underlying4 _) (trodAll_cons_mk (shut_string Trym.underlying9 w1) (trodAll_cons_mk (shut_int Trym.underlying3 w2) trodAll_mk0))), rfl, bel.frame _, fun h => by cases h⟩

theorem over : Rows.fnReadNumberInvertsAppendRow.holds Trym.pinned (OpenSpec.ofChange Rows.fnReadNumberInvertsAppendSpec) :=
  OpenClaim.holds_of_wide 5 Trym.f5 rfl rfl rfl rfl rfl rfl rfl ⟨rfl, rfl, rfl, rfl, rfl⟩ rfl rfl rfl rfl rfl (by kernel_rfl) Trym.func5 (by kernel_rfl)
    (of_decide_eq_true (by kernel_rfl)) (by unfold Func.isWrapper; first | (rw [if_pos (by decide +kernel)]; kernel_rfl) | (rw [if_neg (by decide +kernel)]; exact ⟨rfl, rfl⟩))
    (fun os started H enc _ => lifted os started H enc)

/-- THE STATEMENT -/
theorem proved : Rows.FnReadNumberInvertsAppendSaid :=
  over
end fnReadNumberInvertsAppend
end Go.Proofs.Qxb6000021aMods
