/-
  THE STATEMENT 'FnReadNumberCanonicalAndStable': the walk of the law out of the contracts; the row.
-/
import Derived.Test.Qxb6000021aModsRead
import Derived.Test.Qxb6000021aModsAppend
import Derived.Test.Qxb6000021aModsClone
import Derived.Test.Qxb6000021aModsBack
import Derived.WalkKit
import Derived.ProofKit
import Derived.OpenShut
import Derived.ShutString
import Derived.ChangeOld
import Derived.Below
namespace Go.Proofs.Qxb6000021aMods
open Go.RowKit Pl
namespace fnReadNumberCanonicalAndStable

theorem rd_three (s : ByteArray) : rd s = (false, ⟨#[]⟩, 0, false) ∨ ∃ neg dg ex, rd s = (neg, dg, ex, true) ∧ cnB neg dg.data.toList ex = true ∧ dg.size ≤ s.size := by
  have hl := rd_len s
  rcases rd_canon s with h | h | ⟨neg, D, ex, h, h1, h2⟩
  · exact .inl h
  · exact .inr ⟨false, ByteArray.empty, 0, h, rfl, Nat.zero_le _⟩
  · refine .inr ⟨neg, ⟨D.toArray⟩, ex, h, ?_, by rw [h] at hl; exact hl⟩
    have hne := ap_dg_head h2
    unfold cnB
    rw [if_neg (by simpa using hne)]
    exact (cdB_iff _).2 ⟨h1, h2⟩

set_option maxRecDepth 100000 in
set_option maxHeartbeats 1000000 in
theorem walk_in (s : ByteArray) (w : World) (hs : s.size ≤ 65536) :
    Calls Trym.prog 6 #[.string s] w fun e w' => e = .returned (.bool true) ∧ Below w.heap.size w w' := by
  go_enter Trym.func6, Trym.ntmps6
  go_wp2_with fail
  refine (bytes18 s _ (by unfold maxLen; omega)).mono ?_
  rintro e w' ⟨rfl, hw⟩
  subst hw
  rw [decide_eq_true (show s.size ≤ 1048576 by omega)]
  go_wp2_with fail
  refine (zz_any s _ (by omega)).mono ?_
  rintro e w1 ⟨rfl, hb1⟩
  rcases rd_three s with h | ⟨neg, dg, ex, h, hcn, hdl⟩
  · rw [h]
    clear h
    go_wp2
    go_ret
    exact ⟨rfl, hb1.alloc hb1.size _⟩
  · rw [h]
    clear h
    have HB : Hid _ := rd_back hcn
    have HC : Hid _ := hcn
    clear hcn
    go_wp2_with fail
    refine (cn_any neg dg ex _ (by omega)).mono ?_
    rintro e w' ⟨rfl, hw⟩
    rw [HC.out]
    subst hw
    by_cases hx1 : -65536 ≤ ex
    · by_cases hx2 : ex ≤ 65536
      · have hdl2 : dg.data.toList.length = dg.size := by simp
        obtain ⟨hap0, hap1⟩ := ap_len neg dg.data.toList ex (by omega) hx1 hx2
        clear hdl2
        go_wp2_with fail
        refine (ap_any neg dg ex (.slice none 0 0) [] _ _ (World.ownsRow_nil _ _ _ _) (Nat.le_refl _) (by simp) (by omega) (by omega) (by omega)).mono ?_
        rintro e w2 ⟨v2, rfl, R⟩
        rw [List.nil_append] at R
        obtain ⟨g, cap, rfl, hc⟩ := own_shape R.own hap0
        have hbox : (w1.alloc (boxN neg dg ex)).heap[w1.heap.size]? = some (.cells #[.bool neg, .string dg, .int .i64 ex] 26 (0, 0)) := heap_alloc_new w1 _
        have hb2 : Below w1.heap.size w1 w2 := ((Below.refl _ _).alloc (Nat.le_refl _) _).trans (R.below.mono (by simp))
        have hbx2 := ((R.keep _ _ _ _ hbox (.inl (by decide)) (by simp [Value.ownBlock])).1).trans hbox
        have hcv := conv_own (cap := cap) hc
        have hsz2 : w1.heap.size < w2.heap.size := heap_lt hbx2
        clear R hc hbox
        generalize apT neg dg.data.toList ex = ts at *
        have HX2 : Hid _ := hbx2
        clear hbx2
        go_wp2_with fail
        refine (zz_any ⟨ts.toArray⟩ _ (by show ts.toArray.size ≤ _; simp; omega)).mono ?_
        rintro e w3 ⟨rfl, hb3⟩
        rw [HB.out]
        have hbx3 := (hb3.block _ hsz2).trans HX2.out
        have k0 : w3.cell? ⟨w1.heap.size, 0, none⟩ = some (.bool neg) := Lib.cell_of_heap hbx3 0
        have k1 : w3.cell? ⟨w1.heap.size, 1, none⟩ = some (.string dg) := Lib.cell_of_heap hbx3 1
        have k2 : w3.cell? ⟨w1.heap.size, 2, none⟩ = some (.int .i64 ex) := Lib.cell_of_heap hbx3 2
        have hne3 : w1.heap.size < w3.heap.size := heap_lt hbx3
        clear hbx3
        go_wp2
        go_ret
        exact ⟨rfl, ((hb1.trans (hb2.mono hb1.size)).trans (hb3.mono (Nat.le_trans hb1.size hb2.size))).alloc (Nat.le_trans (Nat.le_trans hb1.size hb2.size) hb3.size) _⟩
      · go_wp2
        go_ret
        exact ⟨rfl, hb1.alloc hb1.size _⟩
    · go_wp2
      go_ret
      exact ⟨rfl, hb1.alloc hb1.size _⟩

set_option maxRecDepth 100000 in
theorem walk_out (s : ByteArray) (w : World) (hs : s.size ≤ maxLen) (h : ¬ s.size ≤ 65536) :
    Calls Trym.prog 6 #[.string s] w fun e w' => e = .returned (.bool true) ∧ Below w.heap.size w w' := by
  go_enter Trym.func6, Trym.ntmps6
  go_wp2_with fail
  refine (bytes18 s _ hs).mono ?_
  rintro e w' ⟨rfl, hw⟩
  subst hw
  unfold maxLen at hs
  cases hb : decide (s.size ≤ 1048576)
  · go_wp2
    go_ret
    exact ⟨rfl, Below.refl _ _⟩
  · clear hb
    go_wp2
    go_ret
    exact ⟨rfl, Below.refl _ _⟩

open Go.ChangeShapes Go.WideShapes Go.ChangeAt
open Go.ChangeMaps (open_string shut_string)
set_option linter.unusedVariables false

theorem own : ownKnob Trym.prog.godebug = none := by kernel_rfl

theorem walk (a0 : ByteArray) (w0 : a0.size ≤ maxLen) (w : World) :
    Calls Trym.prog 6 #[.string a0] w fun e w' => e = .returned (.bool true) ∧ Below w.heap.size w w' := by
  by_cases h : a0.size ≤ 65536
  · exact walk_in a0 w h
  · exact walk_out a0 w w0 h

set_option maxRecDepth 100000 in
theorem lifted (os : Os) (started : os.Started) (H : Type) (enc : TypeId × Value → H) :
    ReturnsInHanded {} Trym.checked os 6 .any (Rows.fnReadNumberCanonicalAndStableSpec.pre6 enc Trym.prog Trym.f6 Rows.fnReadNumberCanonicalAndStableRow.domain false) (Rows.fnReadNumberCanonicalAndStableSpec.post enc Trym.prog Trym.f6 false true false false) := by
  refine returnsInHanded_of_change (C := Trym.checked) own started (by kernel_rfl) Trym.func6
    (ChangeSpec.witness6 (enc := enc) (C := Trym.checked) false ⟨#[], #[.string ByteArray.empty], []⟩ 8 (by kernel_rfl) (by kernel_rfl) (by kernel_rfl) (by kernel_rfl)) ?_
  intro W base args ds gs before hval0 hW hcnd _
  have hval : ∀ (j : Nat) t v, Trym.f6.params[j]? = some t → args[j]? = some v → Value.okWide Trym.prog W .any base t v := hval0
  have hW' := hW
  obtain ⟨p, q, hA0, hV, rfl, hfz, hnd⟩ := hW
  have hA : DataW.TrodAll enc Trym.prog W 0 (fun _ => true) true Trym.f6.params.toList args.toList ds p := hA0
  rw [Trym.params6] at hA hval
  obtain ⟨v0, vs0, d0, ds0, p0, q0, hargs, rfl, rfl, h0, r0⟩ := trodAll_cons hA
  obtain ⟨rfl, rfl, rfl⟩ := trodAll_nil r0
  obtain rfl : args = #[v0] := by cases args; simp_all
  obtain ⟨rfl, rfl⟩ := trodVars_none hV
  obtain ⟨a0, rfl, rfl, rfl, w0⟩ := open_string Trym.underlying9 (hval 0 9 v0 rfl rfl) h0
  clear hA0 hval0
  refine (walk a0 w0 W).mono fun e W' ⟨he, bel⟩ => ?_
  subst he
  exact ⟨_, rfl, _, _, _, [], _, [], hW', trodAll_mk1 (shut_bool Trym.underlying4 _), (trodAll_cons_mk (shut_string Trym.underlying9 w0) trodAll_mk0), rfl, bel.frame _, fun h => by cases h⟩

theorem over : Rows.fnReadNumberCanonicalAndStableRow.holds Trym.pinned (OpenSpec.ofChange Rows.fnReadNumberCanonicalAndStableSpec) :=
  OpenClaim.holds_of_wide 6 Trym.f6 rfl rfl rfl rfl rfl rfl rfl ⟨rfl, rfl, rfl, rfl, rfl⟩ rfl rfl rfl rfl rfl (by kernel_rfl) Trym.func6 (by kernel_rfl)
    (of_decide_eq_true (by kernel_rfl)) (by unfold Func.isWrapper; first | (rw [if_pos (by decide +kernel)]; kernel_rfl) | (rw [if_neg (by decide +kernel)]; exact ⟨rfl, rfl⟩))
    (fun os started H enc _ => lifted os started H enc)

/-- THE STATEMENT -/
theorem proved : Rows.FnReadNumberCanonicalAndStableSaid :=
  over
end fnReadNumberCanonicalAndStable
end Go.Proofs.Qxb6000021aMods
