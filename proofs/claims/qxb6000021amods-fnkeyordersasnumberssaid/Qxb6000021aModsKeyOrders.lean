/-
  THE STATEMENT 'FnKeyOrdersAsNumbers': the walk of the law out of the contracts; the row.
-/
import Derived.Test.Qxb6000021aModsKey
import Derived.Test.Qxb6000021aModsCompare
import Derived.Deep.RegionHeld3
import Derived.Deep.DrawnRows
import Derived.WalkKit
import Derived.ProofKit
import Derived.OpenShut
import Derived.ShutString
import Derived.ChangeOld
import Derived.Below
namespace Go.Proofs.Qxb6000021aMods
open Go.RowKit Pl
namespace fnKeyOrdersAsNumbers

theorem key_len (neg : Bool) (d : List UInt8) (ex : Int) (h : d.length ≤ 65536) : (keyT neg d ex).length ≤ 65539 := by
  unfold keyT
  split
  · simp
  · split <;> simp <;> omega

/-- The four calls, in whatever world: the keys, and one answer for both comparisons. -/
theorem calls_in (aN : Bool) (a : ByteArray) (aE : Int) (bN : Bool) (b : ByteArray) (bE : Int) (ha : a.size ≤ 65536) (hb : b.size ≤ 65536) (dA : InDom a.data.toList aE) (dB : InDom b.data.toList bE) :
    ∃ (ka kb : ByteArray) (R : Int), (∀ wx, Calls Trym.prog 23 #[.agg #[.bool aN, .string a, .int .i64 aE]] wx fun e w' => e = .returned (.string ka) ∧ Below wx.heap.size wx w') ∧
      (∀ wx, Calls Trym.prog 23 #[.agg #[.bool bN, .string b, .int .i64 bE]] wx fun e w' => e = .returned (.string kb) ∧ Below wx.heap.size wx w') ∧
      (∀ wx, Calls Trym.prog 22 #[.string ka, .string kb] wx fun e w' => e = .returned (.int .i64 R) ∧ Below wx.heap.size wx w') ∧
      (∀ wx, Calls Trym.prog 24 #[.bool aN, .string a, .int .i64 aE, .bool bN, .string b, .int .i64 bE] wx fun e w' => e = .returned (.int .i64 R) ∧ Below wx.heap.size wx w') := by
  have la : a.data.toList.length = a.size := by simp
  have lb : b.data.toList.length = b.size := by simp
  have pre : ∀ (s : ByteArray) (e : Int), InDom s.data.toList e → (s.size = 0 ∨ (-130 ≤ e ∧ e ≤ 125)) ∧ Dg s.data.toList := by
    intro s e h
    have ls : s.data.toList.length = s.size := by simp
    rcases h with h | ⟨h1, _, h3, h4⟩
    · rw [h] at ls; exact ⟨.inl (by simpa using ls.symm), by rw [h]; exact Dg.nil⟩
    · exact ⟨.inr ⟨h3, h4⟩, h1⟩
  refine ⟨⟨(keyT aN a.data.toList aE).toArray⟩, ⟨(keyT bN b.data.toList bE).toArray⟩, cmpN aN a.data.toList aE bN b.data.toList bE, fun wx => key_any aN a aE wx ha (pre a aE dA).1 (pre a aE dA).2, fun wx => key_any bN b bE wx hb (pre b bE dB).1 (pre b bE dB).2, fun wx => ?_, fun wx => ?_⟩
  · have h1 := key_len aN a.data.toList aE (by omega)
    have h2 := key_len bN b.data.toList bE (by omega)
    refine (cs_any ⟨(keyT aN a.data.toList aE).toArray⟩ ⟨(keyT bN b.data.toList bE).toArray⟩ wx (by show (keyT aN a.data.toList aE).toArray.size ≤ _; simp; omega) (by show (keyT bN b.data.toList bE).toArray.size ≤ _; simp; omega)).mono ?_
    rintro e w' ⟨rfl, n, rfl⟩
    exact ⟨ret_i (key_cmp dA dB), below_drewN (Below.refl _ _)⟩
  · refine (cnum_any aN a aE bN b bE wx (by omega) (by omega)).mono ?_
    rintro e w' ⟨rfl, rfl⟩
    exact ⟨rfl, Below.refl _ _⟩

theorem startS {w W wx : World} {aN : Bool} {a : ByteArray} {aE : Int} {bN : Bool} {b : ByteArray} {bE : Int} (hW : W = (w.alloc (.cells #[.bool aN, .string a, .int .i64 aE] 26)).alloc (.cells #[.bool bN, .string b, .int .i64 bE] 26)) (hb : Below W.heap.size W wx) :
    wx.cell? ⟨w.heap.size, 0, none⟩ = some (.bool aN) ∧ wx.cell? ⟨w.heap.size, 1, none⟩ = some (.string a) ∧ wx.cell? ⟨w.heap.size, 2, none⟩ = some (.int .i64 aE) ∧ wx.cell? ⟨w.heap.size + 1, 0, none⟩ = some (.bool bN) ∧ wx.cell? ⟨w.heap.size + 1, 1, none⟩ = some (.string b) ∧ wx.cell? ⟨w.heap.size + 1, 2, none⟩ = some (.int .i64 bE) ∧ Below W.heap.size W wx := by
  have e1 : W.heap[w.heap.size]? = some (.cells #[.bool aN, .string a, .int .i64 aE] 26 (0, 0)) := by
    rw [hW]; exact (Below.heap_alloc _ _ w.heap.size (by simp)).trans (heap_alloc_new w _)
  have e2 : W.heap[w.heap.size + 1]? = some (.cells #[.bool bN, .string b, .int .i64 bE] 26 (0, 0)) := by
    rw [hW]
    have := heap_alloc_new (w.alloc (.cells #[.bool aN, .string a, .int .i64 aE] 26)) (.cells #[.bool bN, .string b, .int .i64 bE] 26)
    rw [World.size_alloc] at this; exact this
  have f1 := (hb.block _ (heap_lt e1)).trans e1
  have f2 := (hb.block _ (heap_lt e2)).trans e2
  exact ⟨Lib.cell_of_heap f1 0, Lib.cell_of_heap f1 1, Lib.cell_of_heap f1 2, Lib.cell_of_heap f2 0, Lib.cell_of_heap f2 1, Lib.cell_of_heap f2 2, hb⟩
theorem fin_below {w W w2 : World} {o1 o2 : Obj} (hW : W = (w.alloc o1).alloc o2) (h : Below W.heap.size W w2) : Below w.heap.size w w2 := by
  subst hW
  exact (((Below.refl _ _).alloc (Nat.le_refl _) _).alloc (by simp) _).trans (h.mono (by simp; omega))

set_option maxRecDepth 100000 in
set_option maxHeartbeats 4000000 in
theorem walk_in (aN : Bool) (a : ByteArray) (aE : Int) (bN : Bool) (b : ByteArray) (bE : Int) (w : World) (ha : a.size ≤ 65536) (hb : b.size ≤ 65536) :
    Calls Trym.prog 8 #[.bool aN, .string a, .int .i64 aE, .bool bN, .string b, .int .i64 bE] w fun e w' => e = .returned (.bool true) ∧ Below w.heap.size w w' := by
  have hb12 : b12 a.size b.size = true := decide_eq_true (by omega)
  go_enter Trym.func8, Trym.ntmps8
  go_wp2_with fail
  refine (bytes20 aN a aE bN b bE _ (by unfold maxLen; omega) (by unfold maxLen; omega)).mono ?_
  rintro e w' ⟨rfl, hw⟩
  subst hw
  rw [hb12]
  clear hb12
  go_wp2_with fail
  refine (kd_any a aE _ (by omega)).mono ?_
  rintro e w' ⟨rfl, hw⟩
  subst hw
  cases hA : kdB a.data.toList aE
  · go_wp2
    go_ret
    exact ⟨rfl, Below.refl _ _⟩
  · go_wp2_with fail
    refine (kd_any b bE _ (by omega)).mono ?_
    rintro e w' ⟨rfl, hw⟩
    subst hw
    cases hB : kdB b.data.toList bE
    · go_wp2
      go_ret
      exact ⟨rfl, Below.refl _ _⟩
    · obtain ⟨ka, kb, R, KA, KB, CS, CN⟩ := calls_in aN a aE bN b bE ha hb (kd_dom hA) (kd_dom hB)
      clear hA hB
      have HKA : Hid _ := KA
      have HKB : Hid _ := KB
      have HCS : Hid _ := CS
      have HCN : Hid _ := CN
      clear KA KB CS CN
      go_wp2
      obtain ⟨W, hW⟩ : ∃ W, W = (w'.alloc (.cells #[.bool aN, .string a, .int .i64 aE] 26)).alloc (.cells #[.bool bN, .string b, .int .i64 bE] 26) := ⟨_, rfl⟩
      have HS := startS hW (Below.refl _ _)
      have HWW : Hid _ := hW
      rw [← hW]
      clear hW
      obtain ⟨s0, s1, s2, s3, s4, s5, s6⟩ := HS
      have hBW := (Below.refl W.heap.size W).drew
      go_region_held3 (fun wx => wx.cell? ⟨w'.heap.size, 0, none⟩ = some (.bool aN) ∧ wx.cell? ⟨w'.heap.size, 1, none⟩ = some (.string a) ∧ wx.cell? ⟨w'.heap.size, 2, none⟩ = some (.int .i64 aE) ∧ wx.cell? ⟨w'.heap.size + 1, 0, none⟩ = some (.bool bN) ∧ wx.cell? ⟨w'.heap.size + 1, 1, none⟩ = some (.string b) ∧ wx.cell? ⟨w'.heap.size + 1, 2, none⟩ = some (.int .i64 bE) ∧ Below W.heap.size W wx)
        (first | exact startS HWW.out hBW | go_keep)
        (first | (go_at_call_of 23 (Value.string a); refine (HKA.out _).mono ?_; rintro e w2 ⟨rfl, hb2⟩; have hBW := hBW.trans (hb2.mono hBW.size)) | (go_at_call_of 23 (Value.string b); refine (HKB.out _).mono ?_; rintro e w2 ⟨rfl, hb2⟩; have hBW := hBW.trans (hb2.mono hBW.size)) | (go_at_call 22; refine (HCS.out _).mono ?_; rintro e w2 ⟨rfl, hb2⟩; have hBW := hBW.trans (hb2.mono hBW.size)) | (go_at_call 24; refine (HCN.out _).mono ?_; rintro e w2 ⟨rfl, hb2⟩; have hBW := hBW.trans (hb2.mono hBW.size)))
      all_goals
        go_wp2
        go_ret
        exact ⟨rfl, fin_below HWW.out (by assumption)⟩


set_option maxRecDepth 100000 in
theorem walk_out (aN : Bool) (a : ByteArray) (aE : Int) (bN : Bool) (b : ByteArray) (bE : Int) (w : World) (ha : a.size ≤ maxLen) (hb : b.size ≤ maxLen) (h : ¬ (a.size ≤ 65536 ∧ b.size ≤ 65536)) :
    Calls Trym.prog 8 #[.bool aN, .string a, .int .i64 aE, .bool bN, .string b, .int .i64 bE] w fun e w' => e = .returned (.bool true) ∧ Below w.heap.size w w' := by
  have HH : Hid _ := h
  clear h
  go_enter Trym.func8, Trym.ntmps8
  go_wp2_with fail
  refine (bytes20 aN a aE bN b bE _ ha hb).mono ?_
  rintro e w' ⟨rfl, hw⟩
  subst hw
  unfold maxLen at ha hb
  cases hc : b12 a.size b.size
  · go_wp2
    go_ret
    exact ⟨rfl, Below.refl _ _⟩
  · clear hc
    have h : ¬ (a.size ≤ 65536 ∧ b.size ≤ 65536) := HH.out
    by_cases h2 : a.size ≤ 65536
    · have h3 : ¬ b.size ≤ 65536 := by omega
      clear h
      go_wp2
      go_ret
      exact ⟨rfl, Below.refl _ _⟩
    · clear h
      go_wp2
      go_ret
      exact ⟨rfl, Below.refl _ _⟩

open Go.ChangeShapes Go.WideShapes Go.ChangeAt
open Go.ChangeMaps (open_string shut_string)
set_option linter.unusedVariables false

theorem own : ownKnob Trym.prog.godebug = none := by kernel_rfl

theorem walk (a0 : Bool) (a1 : ByteArray) (a2 : Int) (a3 : Bool) (a4 : ByteArray) (a5 : Int) (w1 : a1.size ≤ maxLen) (w2 : (Lit.int .i64 a2).wf = true) (w4 : a4.size ≤ maxLen) (w5 : (Lit.int .i64 a5).wf = true) (w : World) :
    Calls Trym.prog 8 #[.bool a0, .string a1, .int .i64 a2, .bool a3, .string a4, .int .i64 a5] w fun e w' => e = .returned (.bool true) ∧ Below w.heap.size w w' := by
  by_cases h : a1.size ≤ 65536 ∧ a4.size ≤ 65536
  · exact walk_in a0 a1 a2 a3 a4 a5 w h.1 h.2
  · exact walk_out a0 a1 a2 a3 a4 a5 w w1 w4 h

set_option maxRecDepth 100000 in
theorem lifted (os : Os) (started : os.Started) (H : Type) (enc : TypeId × Value → H) :
    ReturnsInHanded {} Trym.checked os 8 .any (Rows.fnKeyOrdersAsNumbersSpec.pre6 enc Trym.prog Trym.f8 Rows.fnKeyOrdersAsNumbersRow.domain false) (Rows.fnKeyOrdersAsNumbersSpec.post enc Trym.prog Trym.f8 false true false false) := by
  refine returnsInHanded_of_change (C := Trym.checked) own started (by kernel_rfl) Trym.func8
    (ChangeSpec.witness6 (enc := enc) (C := Trym.checked) false ⟨#[], #[.bool false, .string ByteArray.empty, .int .i64 0, .bool false, .string ByteArray.empty, .int .i64 0], []⟩ 8 (by kernel_rfl) (by kernel_rfl) (by kernel_rfl) (by kernel_rfl)) ?_
  intro W base args ds gs before hval0 hW hcnd _
  have hval : ∀ (j : Nat) t v, Trym.f8.params[j]? = some t → args[j]? = some v → Value.okWide Trym.prog W .any base t v := hval0
  have hW' := hW
  obtain ⟨p, q, hA0, hV, rfl, hfz, hnd⟩ := hW
  have hA : DataW.TrodAll enc Trym.prog W 0 (fun _ => true) true Trym.f8.params.toList args.toList ds p := hA0
  rw [Trym.params8] at hA hval
  obtain ⟨v0, vs0, d0, ds0, p0, q0, hargs, rfl, rfl, h0, r0⟩ := trodAll_cons hA
  obtain ⟨v1, vs1, d1, ds1, p1, q1, rfl, rfl, rfl, h1, r1⟩ := trodAll_cons r0
  obtain ⟨v2, vs2, d2, ds2, p2, q2, rfl, rfl, rfl, h2, r2⟩ := trodAll_cons r1
  obtain ⟨v3, vs3, d3, ds3, p3, q3, rfl, rfl, rfl, h3, r3⟩ := trodAll_cons r2
  obtain ⟨v4, vs4, d4, ds4, p4, q4, rfl, rfl, rfl, h4, r4⟩ := trodAll_cons r3
  obtain ⟨v5, vs5, d5, ds5, p5, q5, rfl, rfl, rfl, h5, r5⟩ := trodAll_cons r4
  obtain ⟨rfl, rfl, rfl⟩ := trodAll_nil r5
  obtain rfl : args = #[v0, v1, v2, v3, v4, v5] := by cases args; simp_all
  obtain ⟨rfl, rfl⟩ := trodVars_none hV
  obtain ⟨a0, rfl, rfl, rfl⟩ := open_bool Trym.underlying4 (hval 0 4 v0 rfl rfl) h0
  obtain ⟨a1, rfl, rfl, rfl, w1⟩ := open_string Trym.underlying9 (hval 1 9 v1 rfl rfl) h1
  obtain ⟨a2, rfl, rfl, rfl, w2⟩ := open_int Trym.underlying3 (hval 2 3 v2 rfl rfl) h2
  obtain ⟨a3, rfl, rfl, rfl⟩ := open_bool Trym.underlying4 (hval 3 4 v3 rfl rfl) h3
  obtain ⟨a4, rfl, rfl, rfl, w4⟩ := open_string Trym.underlying9 (hval 4 9 v4 rfl rfl) h4
  obtain ⟨a5, rfl, rfl, rfl, w5⟩ := open_int Trym.underlying3 (hval 5 3 v5 rfl rfl) h5
  clear hA0 hval0
  refine (walk a0 a1 a2 a3 a4 a5 w1 w2 w4 w5 W).mono fun e W' ⟨he, bel⟩ => ?_
  subst he
  exact ⟨_, rfl, _, _, _, [], _, [], hW', trodAll_mk1 (shut_bool Trym.underlying4 _), (trodAll_cons_mk (shut_bool Trym.underlying4 _) (trodAll_cons_mk (shut_string Trym.underlying9 w1) (trodAll_cons_mk (shut_int Trym.underlying3 w2) (trodAll_cons_mk (shut_bool Trym.underlying4 _) (trodAll_cons_mk (shut_string Trym.underlying9 w4) (trodAll_cons_mk (shut_int Trym.underlying3 w5) trodAll_mk0)))))), rfl, bel.frame _, fun h => by cases h⟩

theorem over : Rows.fnKeyOrdersAsNumbersRow.holds Trym.pinned (OpenSpec.ofChange Rows.fnKeyOrdersAsNumbersSpec) :=
  OpenClaim.holds_of_wide 8 Trym.f8 rfl rfl rfl rfl rfl rfl rfl ⟨rfl, rfl, rfl, rfl, rfl⟩ rfl rfl rfl rfl rfl (by kernel_rfl) Trym.func8 (by kernel_rfl)
    (of_decide_eq_true (by kernel_rfl)) (by unfold Func.isWrapper; first | (rw [if_pos (by decide +kernel)]; kernel_rfl) | (rw [if_neg (by decide +kernel)]; exact ⟨rfl, rfl⟩))
    (fun os started H enc _ => lifted os started H enc)

/-- THE STATEMENT -/
theorem proved : Rows.FnKeyOrdersAsNumbersSaid :=
  over
end fnKeyOrdersAsNumbers
end Go.Proofs.Qxb6000021aMods
