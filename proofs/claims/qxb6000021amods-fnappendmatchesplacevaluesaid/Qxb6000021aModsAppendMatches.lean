/-
  THE STATEMENT 'FnAppendMatchesPlaceValue': the walk of the law out of the contracts; the row.
-/
import Derived.Test.Qxb6000021aModsAppend
import Derived.Test.Qxb6000021aModsPlainWalk
import Derived.Test.Qxb6000021aModsClone
import Derived.Deep.QuietTactic
import Derived.BigQuiet
import Derived.WalkKit
import Derived.ProofKit
import Derived.OpenShut
import Derived.ShutString
import Derived.ChangeOld
import Derived.Below
namespace Go.Proofs.Qxb6000021aMods
open Go.RowKit Pl
namespace fnAppendMatchesPlaceValue

/-- What stands once both clones are made. -/
structure Two (w wx : World) (v1 : Value) (a2 : Option Addr) (b2 : Nat) (bs : List UInt8) : Prop where
  own : wx.ownsRow w.heap.size 5 1 v1 bs.length (bc bs)
  below : Below w.heap.size w wx
  addr : 0 < bs.length → a2 = some ⟨b2, 0, none⟩
  block : 0 < bs.length → ∃ cur, wx.heap[b2]? = some (.cells cur 5 (0, 0)) ∧ cur.size ≤ bs.length ∧ cur.toList = bc bs
  apart : 0 < bs.length → v1.ownBlock ≠ some b2

theorem Two.mk' {w w1 w2 : World} {v1 v2 : Value} {bs : List UInt8} (c1 : Cloned w w1 v1 bs) (c2 : Cloned w1 w2 v2 bs) : ∃ a2 cap2, v2 = .slice a2 bs.length cap2 ∧ Two w w2 v1 a2 w1.heap.size bs := by
  have hb : Below w.heap.size w w2 := c1.below.trans (c2.below.mono c1.below.size)
  have ho : w2.ownsRow w.heap.size 5 1 v1 bs.length (bc bs) := own_below c1.own c2.below
  have hap : v1.ownBlock ≠ some w1.heap.size := fun e => by have := (c1.own.lt _ e).2; omega
  rcases c2.shape with ⟨rfl, rfl⟩ | rfl
  · exact ⟨none, 0, rfl, ho, hb, fun h => by simp at h, fun h => by simp at h, fun h => by simp at h⟩
  · refine ⟨_, _, rfl, ho, hb, fun _ => rfl, fun hp => ?_, fun _ => hap⟩
    rcases c2.own.2 with ⟨h1, _⟩ | ⟨g, cap, cur, h1, _, hg, _, _, hs, ht⟩
    · simp at h1
    · simp only [Value.slice.injEq, Option.some.injEq, Addr.mk.injEq, and_true, true_and] at h1
      obtain ⟨rfl, rfl⟩ := h1
      rw [Nat.mul_one] at hs ht
      exact ⟨cur, hg, by omega, by rw [← ht, List.take_of_length_le (by rw [Array.length_toList]; omega)]⟩

theorem cl_form {w w' : World} {v' : Value} {bs : List UInt8} (h : Cloned w w' v' bs) : ∃ a cap, v' = .slice a bs.length cap ∧ Bytes w' a cap bs := by
  rcases h.shape with ⟨e, rfl⟩ | e
  · subst e; exact ⟨_, _, rfl, .inl ⟨rfl, rfl, rfl⟩⟩
  · have o := h.own; subst e; exact ⟨_, _, rfl, (own_bytes o).2⟩

/-- Of both slices, behind Append's call and the model's. -/
structure Fin (w : World) (a2 : Option Addr) (b2 : Nat) (bs ts : List UInt8) (g3 g4 : Nat) : Prop where
  addr : 0 < bs.length → a2 = some ⟨b2, 0, none⟩
  orig : ∀ i (h : i < bs.length), w.cell? ⟨b2, i, none⟩ = some (.int .u8 (bs[i].toNat : Int))
  head : ∀ i (h : i < bs.length), w.cell? ⟨g3, i, none⟩ = some (.int .u8 (bs[i].toNat : Int))
  tail : ∀ i (h : i < ts.length), w.cell? ⟨g3, bs.length + i, none⟩ = some (.int .u8 (ts[i].toNat : Int))
  model : ∀ i (h : i < ts.length), w.cell? ⟨g4, i, none⟩ = some (.int .u8 (ts[i].toNat : Int))

theorem mp_pos (neg : Bool) (d : List UInt8) (ex : Int) : 0 < (mpT neg d ex).length := by
  rw [← ap_eq_mp]
  unfold apT
  by_cases hd : d = []
  · rw [if_pos hd]; simp
  · have := List.length_pos_iff.2 hd
    rw [if_neg hd]; unfold apB
    split
    · simp; omega
    · split
      · simp; omega
      · simp; omega

theorem mp_len (neg : Bool) (d : List UInt8) (ex : Int) (hd : d.length ≤ 65536) (h1 : -65536 ≤ ex) (h2 : ex ≤ 65536) : (mpT neg d ex).length ≤ 1000000 := by
  unfold mpT
  split
  · simp
  · have h3 := pl_len d ex (hiP ex - loP d ex + 1).toNat (hiP ex)
    have h4 : (sgT neg).length ≤ 1 := by cases neg <;> simp [sgT]
    have h5 : hiP ex ≤ 65536 := by unfold hiP; split <;> omega
    have h6 : -131072 ≤ loP d ex := by unfold loP; split <;> omega
    rw [List.length_append]; omega

theorem fin_of {w w2 w3 w4 : World} {v1 v3 v4 : Value} {a2 : Option Addr} {b2 : Nat} {bs : List UInt8} {neg : Bool} {dg : ByteArray} {ex : Int} {o : Obj}
    (h : Two w w2 v1 a2 b2 bs) (R : Row (w2.alloc o) w3 w.heap.size v1 v3 bs.length (bs ++ apT neg dg.data.toList ex)) (m : w4.ownsRow w3.heap.size 5 1 v4 (mpT neg dg.data.toList ex).length (bc (mpT neg dg.data.toList ex))) (mb : Below w3.heap.size w3 w4) :
    ∃ g3 c3 g4 c4, v3 = .slice (some ⟨g3, 0, none⟩) (bs.length + (mpT neg dg.data.toList ex).length) c3 ∧ v4 = .slice (some ⟨g4, 0, none⟩) (mpT neg dg.data.toList ex).length c4 ∧ Fin w4 a2 b2 bs (mpT neg dg.data.toList ex) g3 g4 ∧ Below w.heap.size w w4 := by
  have ho := R.own
  rw [ap_eq_mp] at ho
  have hp := mp_pos neg dg.data.toList ex
  obtain ⟨g3, c3, e3, h3⟩ := own_shape (own_below ho mb) (by rw [List.length_append]; omega)
  obtain ⟨g4, c4, e4, h4⟩ := own_shape m hp
  refine ⟨g3, c3, g4, c4, by rw [e3, List.length_append], e4, ⟨h.addr, ?_, ?_, ?_, h4⟩, ?_⟩
  · intro i hi
    obtain ⟨cur, hc, hs, ht⟩ := h.block (by omega)
    have e1 : (w2.alloc o).heap[b2]? = some (.cells cur 5 (0, 0)) := (Below.heap_alloc w2 o b2 (heap_lt hc)).trans hc
    have e2 := (R.keep b2 cur 5 (0, 0) e1 (.inr hs) (h.apart (by omega))).1.trans e1
    have e5 := (mb.block b2 (heap_lt e2)).trans e2
    rw [Lib.cell_of_heap e5 i]
    rw [← Array.getElem?_toList, ht]; simp [bc, hi]
  · intro i hi
    have := h3 i (by rw [List.length_append]; omega)
    rw [this, List.getElem_append_left hi]
  · intro i hi
    have := h3 (bs.length + i) (by rw [List.length_append]; omega)
    rw [this, List.getElem_append_right (by omega)]
    simp
  · exact ((h.below.alloc h.below.size o).trans R.below).trans (mb.mono (Nat.le_trans (Nat.le_trans h.below.size (by simp)) R.below.size))

set_option maxRecDepth 100000 in
set_option maxHeartbeats 4000000 in
theorem walk_in (a0 : Option Addr) (cap0 : Nat) (bs : List UInt8) (neg : Bool) (dg : ByteArray) (ex : Int) (w : World) (h0 : Bytes w a0 cap0 bs) (hn : bs.length ≤ 65536) (hd : dg.size ≤ 65536) (hx1 : -65536 ≤ ex) (hx2 : ex ≤ 65536) :
    Calls Trym.prog 4 #[.slice a0 bs.length cap0, .bool neg, .string dg, .int .i64 ex] w fun e w' => e = .returned (.bool true) ∧ Below w.heap.size w w' := by
  have H0 : Hid _ := h0
  clear h0
  have hb12 : b12 bs.length dg.size = true := decide_eq_true (by omega)
  go_enter Trym.func4, Trym.ntmps4
  go_wp2_with fail
  refine (bytes12 a0 bs.length cap0 neg dg ex _ (by unfold maxLen; omega) (by unfold maxLen; omega)).mono ?_
  rintro e w' ⟨rfl, hw⟩
  subst hw
  rw [hb12]
  clear hb12
  go_wp2_with fail
  refine (clone_any a0 cap0 bs _ (by omega) H0.out).mono ?_
  rintro e w1 ⟨v1, rfl, c1⟩
  go_wp2_with fail
  obtain ⟨a1, cap1, rfl, B1⟩ := cl_form c1
  refine (clone_any a1 cap1 bs _ (by omega) B1).mono ?_
  rintro e w2 ⟨v2, rfl, c2⟩
  obtain ⟨a2, cap2, rfl, T2⟩ := Two.mk' c1 c2
  generalize w1.heap.size = b2 at T2
  clear c1 c2 B1 H0
  go_wp2_with fail
  refine (ap_any neg dg ex _ bs _ _ (T2.own.alloc _) (by have := T2.below.size; simp; omega) (by omega) (by omega) (by omega) (by omega)).mono ?_
  rintro e w3 ⟨v3, rfl, R⟩
  go_wp2_with fail
  refine (mp_any neg dg ex _ (by omega) (by omega) (by omega)).mono ?_
  rintro e w4 ⟨v4, rfl, m1, m2⟩
  obtain ⟨g3, c3, g4, c4, rfl, rfl, F, hbel⟩ := fin_of T2 R m1 m2
  have hmp := mp_len neg dg.data.toList ex (by simpa using hd) hx1 hx2
  clear T2 R m1 m2
  obtain ⟨M, hM⟩ : ∃ M, M = (mpT neg dg.data.toList ex).length := ⟨_, rfl⟩
  generalize mpT neg dg.data.toList ex = ts at *
  clear hM
  go_wp2
  go_loopw [13] (fun i wx => ∃ k n : Nat, k ≤ bs.length ∧ i = .int .i64 k ∧ wx = w4.drewN n) (fun i _ => bs.length - (intOf i).toNat)
  case atStart => exact ⟨0, 0, Nat.zero_le _, rfl, rfl⟩
  case round =>
    obtain ⟨k, n, hk, rfl, rfl⟩ := hrel
    by_cases hlt : k < bs.length
    · have ha := F.addr (by omega)
      subst ha
      have f1 := F.orig k hlt
      have f2 := F.head k hlt
      have i1 : (k : Int) < (bs.length : Int) := by omega
      have i2 : (k : Int) < (bs.length : Int) + (ts.length : Int) := by omega
      go_wp2
      go_quiet (fail)
      go_wp2
      go_roundw
      case rel => exact ⟨k + 1, _, by omega, by go_num, rfl⟩
      case measure => simp [intOf]; omega
    · go_wp2
      go_loopw [14] (fun i wx => ∃ j n : Nat, j ≤ ts.length ∧ i = .int .i64 j ∧ wx = w4.drewN n) (fun i _ => ts.length - (intOf i).toNat)
      case atStart => exact ⟨0, n, Nat.zero_le _, rfl, rfl⟩
      case round =>
        obtain ⟨j, n2, hj, rfl, rfl⟩ := hrel
        by_cases hjl : j < ts.length
        · have f1 := F.tail j hjl
          have f2 := F.model j hjl
          have i1 : (j : Int) < (ts.length : Int) := by omega
          have i2 : (bs.length : Int) + (j : Int) < (bs.length : Int) + (ts.length : Int) := by omega
          have i3 : (0 : Int) ≤ (bs.length : Int) + (j : Int) := by omega
          have i4 : ((bs.length : Int) + (j : Int)).toNat = bs.length + j := by omega
          go_wp2
          go_quiet (fail)
          go_wp2
          go_roundw
          case rel => exact ⟨j + 1, _, by omega, by go_num, rfl⟩
          case measure => simp [intOf]; omega
        · go_wp2
          go_ret
          exact ⟨rfl, below_drewN hbel⟩

set_option maxRecDepth 100000 in
theorem walk_out (a0 : Option Addr) (n cap0 : Nat) (neg : Bool) (dg : ByteArray) (ex : Int) (w : World) (hn : n ≤ maxLen) (hd : dg.size ≤ maxLen) (hx0 : -9223372036854775808 ≤ ex) (hx3 : ex ≤ 9223372036854775807)
    (h : ¬ (n ≤ 65536 ∧ dg.size ≤ 65536 ∧ -65536 ≤ ex ∧ ex ≤ 65536)) :
    Calls Trym.prog 4 #[.slice a0 n cap0, .bool neg, .string dg, .int .i64 ex] w fun e w' => e = .returned (.bool true) ∧ Below w.heap.size w w' := by
  have HH : Hid _ := h
  clear h
  go_enter Trym.func4, Trym.ntmps4
  go_wp2_with fail
  refine (bytes12 a0 n cap0 neg dg ex _ hn hd).mono ?_
  rintro e w' ⟨rfl, hw⟩
  subst hw
  unfold maxLen at hn hd
  cases hb : b12 n dg.size
  · go_wp2
    go_ret
    exact ⟨rfl, Below.refl _ _⟩
  · have h : ¬ (n ≤ 65536 ∧ dg.size ≤ 65536 ∧ -65536 ≤ ex ∧ ex ≤ 65536) := HH.out
    by_cases h1 : n ≤ 65536
    · by_cases h2 : dg.size ≤ 65536
      · by_cases h3 : -65536 ≤ ex
        · have h4 : 65536 < ex := by omega
          clear h
          go_wp2
          go_ret
          exact ⟨rfl, Below.refl _ _⟩
        · clear h
          go_wp2
          go_ret
          exact ⟨rfl, Below.refl _ _⟩
      · clear h
        go_wp2
        go_ret
        exact ⟨rfl, Below.refl _ _⟩
    · clear h
      go_wp2
      go_ret
      exact ⟨rfl, Below.refl _ _⟩

open Go.ChangeShapes Go.WideShapes Go.ChangeAt
open Go.ChangeMaps (open_string shut_string)
set_option linter.unusedVariables false

theorem own : ownKnob Trym.prog.godebug = none := by kernel_rfl
theorem laidOut : laidOutB Trym.prog = true := by kernel_rfl

/-- WHAT THE WALK IS TOLD OF A SLICE OF INTEGERS THAT CAME IN: it is nil; or it leads to a row of 'cap' cells, the numbers 'zs' (the first 'len' are its elements, the rest its spare room), each fitting its kind. -/
def IsRow (k : IntKind) (w : World) (a : Option Addr) (len cap : Nat) (zs : List Int) : Prop :=
  (a = none ∧ len = 0 ∧ cap = 0 ∧ zs = []) ∨
  ∃ x, a = some x ∧ len ≤ cap ∧ cap ≤ maxLen ∧ zs.length = cap ∧ (∀ i, i < zs.length → w.cell? (x.add i) = some (.int k (zs.getD i 0))) ∧ ∀ n ∈ zs, (Lit.int k n).wf = true

theorem len_of_row {k : IntKind} {w : World} {a : Option Addr} {len cap : Nat} {zs : List Int} (h : IsRow k w a len cap zs) : len ≤ maxLen := by
  rcases h with ⟨_, h, _⟩ | ⟨x, _, h1, h2, _⟩
  · unfold maxLen; omega
  · exact Nat.le_trans h1 h2
theorem bytes_of_row {w : World} {a : Option Addr} {len cap : Nat} {zs : List Int} (h : IsRow .u8 w a len cap zs) : ∃ bs : List UInt8, len = bs.length ∧ Bytes w a cap bs := by
  rcases h with ⟨rfl, rfl, rfl, rfl⟩ | ⟨x, rfl, h1, h2, h3, h4, h5⟩
  · exact ⟨[], rfl, .inl ⟨rfl, rfl, rfl⟩⟩
  · by_cases h0 : len = 0
    · subst h0; exact ⟨[], rfl, .inr (.inl ⟨x, rfl, rfl⟩)⟩
    · obtain ⟨b, off, spot⟩ := x
      have hspot : spot = none := by simpa [Addr.add] using World.cell?_spot (h4 0 (by omega))
      subst hspot
      refine ⟨(zs.take len).map fun n => UInt8.ofNat n.toNat, by simp; omega, .inr (.inr ⟨b, off, rfl, World.block_lt_of_cell? w _ (h4 0 (by omega)), fun i hi => ?_⟩)⟩
      have hi' : i < len := by simp at hi; omega
      have hiz : i < zs.length := by omega
      have e := h4 i hiz
      rw [add_plain] at e
      rw [e]
      have hw := h5 zs[i] (List.getElem_mem hiz)
      have hr : 0 ≤ zs[i] ∧ zs[i] ≤ 255 := bounds_u8 hw
      have e2 : (((zs.take len).map fun n => UInt8.ofNat n.toNat)[i].toNat : Int) = zs.getD i 0 := by
        simp only [List.getElem_map, List.getElem_take, List.getD_eq_getElem?_getD, List.getElem?_eq_getElem hiz, Option.getD_some]
        rw [UInt8.toNat_ofNat']
        omega
      rw [e2]

theorem walk (a0 : Option Addr) (len0 cap0 : Nat) (z0 : List Int) (a1 : Bool) (a2 : ByteArray) (a3 : Int) (w : World) (w0 : IsRow .u8 w a0 len0 cap0 z0) (w2 : a2.size ≤ maxLen) (w3 : (Lit.int .i64 a3).wf = true) :
    Calls Trym.prog 4 #[.slice a0 len0 cap0, .bool a1, .string a2, .int .i64 a3] w fun e w' => e = .returned (.bool true) ∧ Below w.heap.size w w' := by
  have hx : -9223372036854775808 ≤ a3 ∧ a3 ≤ 9223372036854775807 := bounds_i64 w3
  by_cases h : len0 ≤ 65536 ∧ a2.size ≤ 65536 ∧ -65536 ≤ a3 ∧ a3 ≤ 65536
  · obtain ⟨bs, hbs, hB⟩ := bytes_of_row w0
    obtain ⟨h1, h2, h3, h4⟩ := h
    rw [hbs]
    exact walk_in a0 cap0 bs a1 a2 a3 w hB (by omega) h2 h3 h4
  · exact walk_out a0 len0 cap0 a1 a2 a3 w (len_of_row w0) w2 hx.1 hx.2 h

/-! ### THE ROW's STEP: WRITTEN OUT: LEAVE IT -/
set_option maxRecDepth 100000 in
theorem lifted (os : Os) (started : os.Started) (H : Type) (enc : TypeId × Value → H) :
    ReturnsInHanded {} Trym.checked os 4 .any (Rows.fnAppendMatchesPlaceValueSpec.pre6 enc Trym.prog Trym.f4 Rows.fnAppendMatchesPlaceValueRow.domain false) (Rows.fnAppendMatchesPlaceValueSpec.post enc Trym.prog Trym.f4 false true false false) := by
  refine returnsInHanded_of_change (C := Trym.checked) own started (by kernel_rfl) Trym.func4
    (ChangeSpec.witness6 (enc := enc) (C := Trym.checked) false ⟨#[], #[.slice none 0 0, .bool false, .string ByteArray.empty, .int .i64 0], []⟩ 8 (by kernel_rfl) (by kernel_rfl) (by kernel_rfl) (by kernel_rfl)) ?_
  intro W base args ds gs before hval0 hW hcnd _
  have hval : ∀ (j : Nat) t v, Trym.f4.params[j]? = some t → args[j]? = some v → Value.okWide Trym.prog W .any base t v := hval0
  have hW' := hW
  obtain ⟨p, q, hA0, hV, rfl, hfz, hnd⟩ := hW
  have hA : DataW.TrodAll enc Trym.prog W 0 (fun _ => true) true Trym.f4.params.toList args.toList ds p := hA0
  rw [Trym.params4] at hA hval
  obtain ⟨v0, vs0, d0, ds0, p0, q0, hargs, rfl, rfl, h0, r0⟩ := trodAll_cons hA
  obtain ⟨v1, vs1, d1, ds1, p1, q1, rfl, rfl, rfl, h1, r1⟩ := trodAll_cons r0
  obtain ⟨v2, vs2, d2, ds2, p2, q2, rfl, rfl, rfl, h2, r2⟩ := trodAll_cons r1
  obtain ⟨v3, vs3, d3, ds3, p3, q3, rfl, rfl, rfl, h3, r3⟩ := trodAll_cons r2
  obtain ⟨rfl, rfl, rfl⟩ := trodAll_nil r3
  obtain rfl : args = #[v0, v1, v2, v3] := by cases args; simp_all
  obtain ⟨rfl, rfl⟩ := trodVars_none hV
  obtain ⟨a0, len0, cap0, rfl⟩ := okWide_slice Trym.underlying29 (hval 0 29 v0 rfl rfl)
  have k0 := h0
  have lt0 : ∀ x ∈ p0, x.block < W.heap.size := by obtain ⟨m, hm⟩ := k0; exact DataW.trod_lt m _ _ _ hm
  obtain ⟨z0, w0⟩ : ∃ zs, IsRow .u8 W a0 len0 cap0 zs := by
    obtain ⟨fuel, hf⟩ := h0
    rcases open_ints Trym.underlying29 Trym.underlying5 (by kernel_rfl) hf with ⟨hcs, _⟩ | ⟨x, l, c, zs, hcs, _, hl, hm, hz, _, hcell, hwz⟩
    · simp [Value.cells] at hcs
      obtain ⟨rfl, rfl, rfl⟩ := hcs
      exact ⟨[], .inl ⟨rfl, rfl, rfl, rfl⟩⟩
    · simp [Value.cells] at hcs
      obtain ⟨rfl, rfl, rfl⟩ := hcs
      exact ⟨zs, .inr ⟨_, rfl, hl, hm, by simpa using hz, hcell, hwz⟩⟩
  obtain ⟨a1, rfl, rfl, rfl⟩ := open_bool Trym.underlying4 (hval 1 4 v1 rfl rfl) h1
  obtain ⟨a2, rfl, rfl, rfl, w2⟩ := open_string Trym.underlying9 (hval 2 9 v2 rfl rfl) h2
  obtain ⟨a3, rfl, rfl, rfl, w3⟩ := open_int Trym.underlying3 (hval 3 3 v3 rfl rfl) h3
  clear hA0 hval0
  refine (walk a0 len0 cap0 z0 a1 a2 a3 W w0 w2 w3).mono fun e W' ⟨he, bel⟩ => ?_
  subst he
  exact ⟨_, rfl, _, _, _, [], _, [], hW', trodAll_mk1 (shut_bool Trym.underlying4 _), (trodAll_cons_mk (Below.trod laidOut (by kernel_rfl) (of_decide_eq_true (by kernel_rfl)) k0 bel lt0) (trodAll_cons_mk (shut_bool Trym.underlying4 _) (trodAll_cons_mk (shut_string Trym.underlying9 w2) (trodAll_cons_mk (shut_int Trym.underlying3 w3) trodAll_mk0)))), rfl, bel.frame _, fun h => by cases h⟩

theorem over : Rows.fnAppendMatchesPlaceValueRow.holds Trym.pinned (OpenSpec.ofChange Rows.fnAppendMatchesPlaceValueSpec) :=
  OpenClaim.holds_of_wide 4 Trym.f4 rfl rfl rfl rfl rfl rfl rfl ⟨rfl, rfl, rfl, rfl, rfl⟩ rfl rfl rfl rfl rfl (by kernel_rfl) Trym.func4 (by kernel_rfl)
    (of_decide_eq_true (by kernel_rfl)) (by unfold Func.isWrapper; first | (rw [if_pos (by decide +kernel)]; kernel_rfl) | (rw [if_neg (by decide +kernel)]; exact ⟨rfl, rfl⟩))
    (fun os started H enc _ => lifted os started H enc)

/-- ████ THE STATEMENT ████ -/
theorem proved : Rows.FnAppendMatchesPlaceValueSaid := over

end fnAppendMatchesPlaceValue
end Go.Proofs.Qxb6000021aMods
