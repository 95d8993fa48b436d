/-
  CONTRACTS of (Number).Key (23), zzb1KeyDomain (21) and of zzBytes_FnKeyOrdersAsNumbers (20).
-/
import Derived.Test.Qxb6000021aModsRowBytes
import Derived.Test.Qxb6000021aModsClone
import Derived.Test.Qxb6000021aModsCanon
import Derived.Test.Qxb6000021aModsKeyLaw
import Derived.Deep.DeepCutAuto
import Derived.Lib.Builder
namespace Go.Proofs.Qxb6000021aMods
open Go.RowKit Pl

/-- What Key leaves. -/
def KeySaid (neg : Bool) (dg : ByteArray) (ex : Int) (w : World) (e : Ending) (w' : World) : Prop :=
  e = .returned (.string ⟨(keyT neg dg.data.toList ex).toArray⟩) ∧ Below w.heap.size w w'

abbrev boxK (neg : Bool) (dg : ByteArray) (ex : Int) : Obj := .cells #[.bool neg, .string dg, .int .i64 ex] 26

theorem own_pair {w : World} {base H : Nat} {i j : Int} {p q : UInt8} (hi : i = (p.toNat : Int)) (hj : j = (q.toNat : Int)) (hH : H = w.heap.size) (hb : base ≤ w.heap.size) :
    (w.alloc (.cells #[.int .u8 i, .int .u8 j] 5)).ownsRow base 5 1 (.slice (some ⟨H, 0, none⟩) 2 2) 2 (bc [p, q]) := by
  subst hi hj hH
  exact World.ownsRow_lit w #[.int .u8 (p.toNat : Int), .int .u8 (q.toNat : Int)] 2 hb (by unfold maxLen; omega) rfl

section
variable {ops : Array Oper} {rest : List Oper} {o : Oper} {a : Act} {Q : Exit → Act → World → Prop}

/-- 'b = append(b, p, q)'. -/
theorem wpl_two {w0 w : World} {base : Nat} {v0 v : Value} {n0 : Nat} {bs : List UInt8} (R : Row w0 w base v0 v n0 bs) (hgd : o.guard = none) (s x : Operand)
    (ho : o.op = .call { callee := .builtin .append, args := #[s, x], argTypes := #[29, 29] }) (hs : a.eval s = v) (p q : UInt8) (i j : Int) (hi : i = (p.toNat : Int)) (hj : j = (q.toNat : Int))
    (H : Nat) (hx : a.eval x = .slice (some ⟨H, 0, none⟩) 2 2) (hH : H = w.heap.size) (hl : bs.length ≤ 1000000000)
    (h : ∀ v' w', Row w0 w' base v0 v' n0 (bs ++ [p, q]) → wpList Trym.prog ops Q rest (a.put o.dst v') w') : wpList Trym.prog ops Q (o :: rest) a (w.alloc (.cells #[.int .u8 i, .int .u8 j] 5)) := by
  obtain ⟨i0, hi0, hz0, hz1, hz2⟩ := info_parts Trym.info5
  subst hi hj hH
  refine wpList_append_own (P := Trym.prog) _ hgd s x 29 ho base 5 i0 (.int .u8 0) 1 1 Trym.underlying29 hi0 hz0 hz1 hz2 rfl (by decide) v bs.length (bc bs) hs (R.own.alloc _) ⟨w.heap.size, 0, none⟩ 2 2 (bc [p, q]) hx rfl ?_ ?_ (by unfold maxLen; omega) (by omega) ?_ ?_
  · intro k u hu
    have hb : (w.alloc (.cells #[.int .u8 (p.toNat : Int), .int .u8 (q.toNat : Int)] 5)).heap[w.heap.size]? = some (.cells #[.int .u8 (p.toNat : Int), .int .u8 (q.toNat : Int)] 5 (0, 0)) := heap_alloc_new w _
    have e : (⟨w.heap.size, 0, none⟩ : Addr).add k = ⟨w.heap.size, k, none⟩ := by unfold Addr.add; split <;> simp_all
    rw [e, Lib.cell_of_heap hb k, ← hu]
    match k with
    | 0 => rfl
    | 1 => rfl
    | k + 2 => rfl
  · intro u hu; simp [bc] at hu; rcases hu with rfl | rfl <;> rfl
  · have := R.size; simp; omega
  · intro v' w' h1 h2 _
    exact h v' w' ((R.alloc _).step (ns := [p, q]) (by simp) h1 h2)
end

theorem Row.boxAt {w0 w' : World} {base : Nat} {v v' : Value} {n : Nat} {bs : List UInt8} {B : Nat} {neg : Bool} {dg : ByteArray} {ex : Int} (h : Row w0 w' base v v' n bs) (hb : w0.heap[B]? = some (.cells #[.bool neg, .string dg, .int .i64 ex] 26 (0, 0))) (hv : v.ownBlock ≠ some B) :
    w'.cell? ⟨B, 0, none⟩ = some (.bool neg) ∧ w'.cell? ⟨B, 1, none⟩ = some (.string dg) ∧ w'.cell? ⟨B, 2, none⟩ = some (.int .i64 ex) := by
  have e := ((h.keep _ _ _ _ hb (.inl (by decide)) hv).1).trans hb
  exact ⟨Lib.cell_of_heap e 0, Lib.cell_of_heap e 1, Lib.cell_of_heap e 2⟩
theorem Row.to' {w0 w : World} {base : Nat} {v0 v : Value} {n0 : Nat} {bs cs : List UInt8} (h : Row w0 w base v0 v n0 bs) (e : bs = cs) : Row w0 w base v0 v n0 cs := e ▸ h
theorem key_step {d : List UInt8} {k : Nat} {A : List UInt8} (h : k < d.length) : A ++ (d.take k).map comp ++ [comp d[k]] = A ++ (d.take (k + 1)).map comp := by
  rw [List.take_succ_eq_append_getElem h, List.map_append, List.append_assoc]; rfl

theorem key_end {neg : Bool} {dg : ByteArray} {ex : Int} {w w0 w' : World} {base : Nat} {v0 v : Value} {n0 : Nat} {bs : List UInt8} (hb : base = w.heap.size) (h0 : Below w.heap.size w w0) (R : Row w0 w' base v0 v n0 bs) (h : keyT neg dg.data.toList ex = bs) : KeySaid neg dg ex w (.returned (.string ⟨bs.toArray⟩)) w' := by
  subst hb
  exact ⟨by rw [h], h0.trans R.below⟩

set_option maxRecDepth 100000 in
set_option maxHeartbeats 1000000 in
theorem key_any (neg : Bool) (dg : ByteArray) (ex : Int) (w : World) (hd : dg.size ≤ 65536) (hx : dg.size = 0 ∨ (-130 ≤ ex ∧ ex ≤ 125)) (hdg : Dg dg.data.toList) :
    Calls Trym.prog 23 #[.agg #[.bool neg, .string dg, .int .i64 ex]] w fun e w' => KeySaid neg dg ex w e w' := by
  have HG : Hid _ := hdg
  clear hdg
  by_cases hd0 : dg.size = 0
  · have := empty_of hd0
    subst this
    clear hx
    go_enter Trym.func23, Trym.ntmps23
    go_wp2
    go_ret
    exact ⟨rfl, (Below.refl _ _).alloc (Nat.le_refl _) _⟩
  · have hx' : -130 ≤ ex ∧ ex ≤ 125 := by omega
    obtain ⟨hx1, hx2⟩ := hx'
    clear hx
    have hne := tl_ne (s := dg) (by omega)
    have HD : Hid (dg.data.toList ≠ []) := list_ne (by omega)
    cases neg
    · have R0 : Row ((w.alloc (boxK false dg ex)).alloc (.cells #[.int .u8 2, .int .u8 (ex + 130)] 5)) ((w.alloc (boxK false dg ex)).alloc (.cells #[.int .u8 2, .int .u8 (ex + 130)] 5)) w.heap.size (.slice (some ⟨w.heap.size + 1, 0, none⟩) 2 2) (.slice (some ⟨w.heap.size + 1, 0, none⟩) 2 2) 2 [2, expB ex] :=
        Row.start (bs := [2, expB ex]) (own_pair (p := 2) (q := expB ex) rfl (by rw [exp_nat hx1 hx2]; omega) (by simp) (by simp)) (by simp; omega)
      have HK : Hid (keyT false dg.data.toList ex = [2, expB ex] ++ dg.data.toList) := if_neg HD.out
      go_enter Trym.func23, Trym.ntmps23
      go_wp2_with (at_builtin; refine wpl_str R0 rfl (.tmp 17) (.tmp 19) rfl rfl dg rfl (by omega) (by simp; omega) ?_; intro v1 w1 R1; obtain ⟨bs1, hbs1⟩ : ∃ bs1, bs1 = [2, expB ex] ++ dg.data.toList := ⟨_, rfl⟩; rw [← hbs1] at R1 HK; have hp1 : 0 < bs1.length := (by rw [hbs1]; exact Nat.succ_pos _); clear hbs1; obtain ⟨g, cap, rfl, hc⟩ := own_shape R1.own hp1; have hcv := conv_own (cap := cap) hc; clear hc)
      go_ret
      exact key_end rfl (((Below.refl _ _).alloc (Nat.le_refl _) _).alloc (by simp) _) R1 HK.out
    · obtain ⟨i0, hi, hz0, hz1, hz2⟩ := info_parts Trym.info5
      have HK : Hid (keyT true dg.data.toList ex = [0, 255 - expB ex] ++ dg.data.toList.map comp ++ [58]) := if_neg HD.out
      have hdl : dg.data.toList.length = dg.size := by simp
      have HL : Hid _ := hdl
      clear hdl
      go_enter Trym.func23, Trym.ntmps23
      go_wp2_with (first | (at_make; refine wpList_make_own _ rfl _ _ 29 rfl w.heap.size 5 i0 (.int .u8 0) 1 Trym.underlying29 hi hz0 hz1 _ _ _ (dg.size + 3) rfl rfl (by omega) (by rw [hz2]; omega) (by unfold maxLen; omega) (by simp) ?_; intro w1 hown hgrow; rw [World.size_alloc] at hown; have RS : Row w1 w1 w.heap.size (.slice (some ⟨w.heap.size + 1, 0, none⟩) 0 (dg.size + 3)) (.slice (some ⟨w.heap.size + 1, 0, none⟩) 0 (dg.size + 3)) 0 [] := Row.start (bs := []) hown (Nat.le_trans (by simp) hgrow.size)) | (at_builtin; refine wpl_two RS rfl (.tmp 26) (.tmp 29) rfl rfl 0 (255 - expB ex) _ _ rfl (by rw [nexp_nat hx1 hx2]; omega) _ rfl (by simp) (by simp) ?_; intro v2 w2 R2))
      have hbx : w1.heap[w.heap.size]? = some (.cells #[.bool true, .string dg, .int .i64 ex] 26 (0, 0)) := (hgrow.block w.heap.size (by simp) (by simp)).trans (heap_alloc_new w _)
      have hbel : Below w.heap.size w w1 := ((Below.refl _ _).alloc (Nat.le_refl _) _).grown hgrow (by simp) (fun k h => by cases h)
      have HBX : Hid _ := hbx
      clear hown hgrow RS hbx
      go_loopw [4, 5] (fun b i wx => ∃ k : Nat, k ≤ dg.size ∧ i = .int .i64 k ∧ Row w1 wx w.heap.size (.slice (some ⟨w.heap.size + 1, 0, none⟩) 0 (dg.size + 3)) b 0 ([0, 255 - expB ex] ++ (dg.data.toList.take k).map comp)) (fun _ i _ => dg.size - (intOf i).toNat)
      case atStart => exact ⟨0, Nat.zero_le _, rfl, R2⟩
      case round =>
        obtain ⟨k, hk, rfl, R3⟩ := hrel
        clear R2
        obtain ⟨n0, n1, n2⟩ := R3.boxAt HBX.out (by simp [Value.ownBlock])
        have hl3 : ([0, 255 - expB ex] ++ (dg.data.toList.take k).map comp).length ≤ 100000 := by simp; omega
        by_cases hlt : k < dg.size
        · have hkl : k < dg.data.toList.length := by rw [HL.out]; exact hlt
          have hdk := HG.out dg[k] (List.getElem_mem hkl)
          obtain ⟨g1, g2⟩ := hdk
          have g3 : (dg[k].toNat : Int) ≤ 57 := by omega
          have g4 : 48 ≤ (dg[k].toNat : Int) := by omega
          go_wp2_with (at_builtin; refine wpl_byte R3 rfl _ _ rfl rfl (comp dg[k]) _ (by rw [comp_nat ⟨g1, g2⟩]; omega) _ rfl (by simp) (by omega) ?_; intro v4 w4 R4)
          go_roundw
          case rel => exact ⟨k + 1, by omega, by go_num, R4.to' (key_step hkl)⟩
          case measure => simp [intOf]; omega
        · have hks : k = dg.size := by omega
          have HK2 : Hid (keyT true dg.data.toList ex = [0, 255 - expB ex] ++ (dg.data.toList.take k).map comp ++ [58]) := by
            show keyT _ _ _ = _
            rw [HK.out, List.take_of_length_le (by rw [HL.out]; omega)]
          clear hks
          generalize [0, 255 - expB ex] ++ (dg.data.toList.take k).map comp = bs3 at *
          go_wp2_with (at_builtin; refine wpl_byte R3 rfl (.tmp 46) (.tmp 47) rfl rfl 58 58 rfl _ rfl (by simp) (by omega) ?_; intro v4 w4 R4; obtain ⟨bs4, hbs4⟩ : ∃ bs4, bs4 = bs3 ++ [58] := ⟨_, rfl⟩; rw [← hbs4] at R4 HK2; have hp4 : 0 < bs4.length := (by rw [hbs4]; simp); clear hbs4; obtain ⟨g, cap, rfl, hc⟩ := own_shape R4.own hp4; have hcv := conv_own (cap := cap) hc; clear hc)
          go_ret
          exact key_end rfl hbel R4 HK2.out

/-- What zzb1KeyDomain says. -/
def Pl.kdB (d : List UInt8) (e : Int) : Bool := if d = [] then true else cdB d && (decide (-130 ≤ e) && decide (e ≤ 125))
theorem kd_dom {d : List UInt8} {e : Int} (h : kdB d e = true) : InDom d e := by
  unfold kdB at h
  by_cases hd : d = []
  · exact .inl hd
  · rw [if_neg hd] at h
    simp only [Bool.and_eq_true, decide_eq_true_eq] at h
    obtain ⟨h1, h2, h3⟩ := h
    obtain ⟨h4, h5⟩ := (cdB_iff d).1 h1
    exact .inr ⟨h4, h5, h2, h3⟩

set_option maxRecDepth 100000 in
theorem kd_any (s : ByteArray) (ex : Int) (w : World) (hs : s.size ≤ 4294967296) :
    Calls Trym.prog 21 #[.string s, .int .i64 ex] w fun e w' => e = .returned (.bool (kdB s.data.toList ex)) ∧ w' = w := by
  by_cases h0 : 0 < s.size
  · have hne := tl_ne h0
    have E : Hid (kdB s.data.toList ex = (cdB s.data.toList && (decide (-130 ≤ ex) && decide (ex ≤ 125)))) := if_neg (list_ne h0)
    have HC : Hid (Calls Trym.prog 26 #[.string s] w fun e w' => e = .returned (.bool (cdB s.data.toList)) ∧ w' = w) := cd_any s w hs
    generalize cdB s.data.toList = c at *
    go_enter Trym.func21, Trym.ntmps21
    go_wp2_with fail
    refine HC.out.mono ?_
    rintro e w' ⟨rfl, hw⟩
    subst hw
    cases c
    · go_wp2
      go_ret
      exact ⟨by rw [E.out]; rfl, rfl⟩
    · by_cases h1 : -130 ≤ ex
      · by_cases h2 : ex ≤ 125
        · have E2 : Hid ((true && (decide (-130 ≤ ex) && decide (ex ≤ 125))) = true) := by show (_ && _) = _; rw [decide_eq_true h1, decide_eq_true h2]; rfl
          go_wp2
          go_ret
          exact ⟨by rw [E.out, E2.out]; rfl, rfl⟩
        · have E2 : Hid ((true && (decide (-130 ≤ ex) && decide (ex ≤ 125))) = false) := by show (_ && _) = _; rw [decide_eq_true h1, decide_eq_false h2]; rfl
          go_wp2
          go_ret
          exact ⟨by rw [E.out, E2.out]; first | rfl | exact congrArg (fun b => Ending.returned (Value.bool b)) (decide_eq_false (by omega)), rfl⟩
      · have E2 : Hid ((true && (decide (-130 ≤ ex) && decide (ex ≤ 125))) = false) := by show (_ && _) = _; rw [decide_eq_false h1]; rfl
        go_wp2
        go_ret
        exact ⟨by rw [E.out, E2.out]; rfl, rfl⟩
  · have := empty_of (s := s) (by omega)
    subst this
    go_enter Trym.func21, Trym.ntmps21
    go_wp2
    go_ret
    exact ⟨rfl, rfl⟩

theorem bytes20 (aN : Bool) (a : ByteArray) (aE : Int) (bN : Bool) (b : ByteArray) (bE : Int) (w : World) (ha : a.size ≤ maxLen) (hb : b.size ≤ maxLen) :
    Calls Trym.prog 20 #[.bool aN, .string a, .int .i64 aE, .bool bN, .string b, .int .i64 bE] w fun e w' => e = .returned (.bool (b12 a.size b.size)) ∧ w' = w := by
  unfold maxLen at ha hb
  by_cases h1 : a.size ≤ 1048576
  · by_cases h2 : b.size ≤ 1048576
    · by_cases h3 : a.size + b.size ≤ 1048576
      · have e : Hid (b12 a.size b.size = true) := decide_eq_true h3
        go_enter Trym.func20, Trym.ntmps20
        go_wp2
        go_ret
        exact ⟨by rw [e.out]; rfl, rfl⟩
      · have e : Hid (b12 a.size b.size = false) := decide_eq_false h3
        go_enter Trym.func20, Trym.ntmps20
        go_wp2
        go_ret
        exact ⟨by rw [e.out]; rfl, rfl⟩
    · have e : Hid (b12 a.size b.size = false) := decide_eq_false (by omega)
      go_enter Trym.func20, Trym.ntmps20
      go_wp2
      go_ret
      exact ⟨by rw [e.out]; rfl, rfl⟩
  · have e : Hid (b12 a.size b.size = false) := decide_eq_false (by omega)
    go_enter Trym.func20, Trym.ntmps20
    go_wp2
    go_ret
    exact ⟨by rw [e.out]; rfl, rfl⟩
end Go.Proofs.Qxb6000021aMods
