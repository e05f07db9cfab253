/-
  The walks of absentTooBig, Answer.excludes, ZZexcludes.
-/
import Derived.Test.Qxb6612635aRows
import Derived.Test.Qxb6612635aKit
namespace Go.Proofs.Qxb6612635a.Excl
open Go.ChangeShapes Go.WideShapes Go.ChangeAt Go.RowKit
open Go.Proofs.Qxb6612635a.Kit

theorem Try.cells9 : Try.prog.cellsOf 9 = 1 := by kernel_rfl
theorem Try.cells25 : Try.prog.cellsOf 25 = 1 := by kernel_rfl

/-- Does one of the strings lie among the keys? -/
def exB (n : Nat) (S : Nat → ByteArray) (has : ByteArray → Bool) : Bool := (List.range n).any fun i => has (S i)

/-- The call returned a bool. -/
def IsBool (e : Ending) : Prop := ∃ b, e = .returned (.bool b)

set_option maxHeartbeats 400000 in
theorem tooBig_any (v : Value) (n : Nat) (S : Nat → ByteArray) (w : World) (hv : IsStrs w v n S) :
    Calls Try.prog 7 #[v, .int .i64 0] w fun e w' => IsBool e ∧ w' = w := by
  obtain ⟨o, cap, rfl, hn, hc, ho⟩ := hv
  unfold maxLen at hc
  have HO := hide ho
  clear ho
  by_cases c0 : (n : Int) > 65536
  · go_enter Try.func7, Try.ntmps7
    go_wp2
    go_ret
    exact ⟨⟨_, rfl⟩, rfl⟩
  · go_enter Try.func7, Try.ntmps7
    go_wp2
    go_loop [5, 6] (fun t k => ∃ (q : Int) (j : Nat), j ≤ n ∧ t = .int .i64 q ∧ k = .int .i64 j) (fun _ k => n - (intOf k).toNat)
    case atStart => exact ⟨0, 0, Nat.zero_le _, rfl, rfl⟩
    case round =>
      obtain ⟨q, j, hj, rfl, rfl⟩ := hrel
      by_cases hlt : j < n
      · rcases HO.out with ⟨_, h0, _⟩ | ⟨b, off, rfl, _, hcell⟩
        · omega
        have hcj := (hcell j hlt).1
        have hsj := (hcell j hlt).2
        clear HO hcell
        go_wp2
        · go_ret
          exact ⟨⟨_, rfl⟩, rfl⟩
        · go_round
          case rel => exact ⟨_, j + 1, by omega, rfl, by go_num⟩
          case measure => simp [intOf]; omega
      · go_wp2
        go_ret
        exact ⟨⟨_, rfl⟩, rfl⟩


theorem exB_step (k : Nat) (S : Nat → ByteArray) (has : ByteArray → Bool) (h : exB k S has = false) (h' : has (S k) = false) : exB (k + 1) S has = false := by
  unfold exB at *
  rw [List.range_succ, List.any_append, h]
  simp [h']

theorem exB_found (n k : Nat) (S : Nat → ByteArray) (has : ByteArray → Bool) (h : k < n) (h' : has (S k) = true) : exB n S has = true := by
  unfold exB
  rw [List.any_eq_true]
  exact ⟨k, by simpa using h, h'⟩

set_option maxHeartbeats 400000 in
theorem excludes_any (m1 m v : Value) (n l : Nat) (S : Nat → ByteArray) (has : ByteArray → Bool) (w : World) (hv : IsStrs w v n S) (hm : IsMap Try.prog [24, 30] w m l has) :
    Calls Try.prog 9 #[.agg #[m1, v, .nilFunc], m] w fun e w' => e = .returned (.bool (exB n S has)) ∧ Below w.heap.size w w' := by
  obtain ⟨o, cap, rfl, hn, hc, ho⟩ := hv
  unfold maxLen at hc
  have HO := hide ho
  have HM := hide hm.2
  clear ho hm
  go_enter Try.func9, Try.ntmps9
  go_wp2
  go_loop [12] (fun k => ∃ (j : Nat), j ≤ n ∧ k = .int .i64 j ∧ Hid (exB j S has = false)) (fun k => n - (intOf k).toNat)
  case atStart => exact ⟨0, Nat.zero_le _, rfl, rfl⟩
  case round =>
    obtain ⟨j, hj, rfl, HX⟩ := hrel
    by_cases hlt : j < n
    · rcases HO.out with ⟨_, h0, _⟩ | ⟨b, off, rfl, hb, hcell⟩
      · omega
      have hb' : b < w.heap.size := by omega
      have hcj := (hcell j hlt).1
      have hsj := (hcell j hlt).2
      clear HO hcell
      obtain ⟨z, hz⟩ := (HM.out (w.alloc (.cells #[m1, .slice (some ⟨b, off, none⟩) n cap, .nilFunc] 34)) ((Below.refl _ _).alloc (Nat.le_refl _) _) 30 (by simp)).2 (S j) hsj
      cases hh : has (S j)
      · rw [hh] at hz
        have HH := hide hh
        clear hh
        go_wp2
        go_round
        case rel => exact ⟨j + 1, by omega, by go_num, exB_step j S has HX.out HH.out⟩
        case measure => simp [intOf]; omega
      · rw [hh] at hz
        have HH := hide hh
        clear hh
        go_wp2
        go_ret
        exact ⟨ret_bool (exB_found n j S has hlt HH.out).symm, (Below.refl _ _).alloc (Nat.le_refl _) _⟩
    · obtain rfl : j = n := by omega
      go_wp2
      go_ret
      exact ⟨ret_bool HX.out.symm, (Below.refl _ _).alloc (Nat.le_refl _) _⟩

set_option maxHeartbeats 400000 in
theorem zz_any (o1 : Option Nat) (m v : Value) (n l : Nat) (S : Nat → ByteArray) (has : ByteArray → Bool) (w : World) (hv : IsStrs w v n S) (hm : IsMap Try.prog [24, 30] w m l has) :
    Calls Try.prog 8 #[.map o1, v, m] w fun e w' => e = .returned (.bool (exB n S has)) ∧ Below w.heap.size w w' := by
  have HV := hide hv
  have HM := hide hm
  obtain ⟨o, cap, rfl, _⟩ := hv
  clear hm
  go_enter Try.func8, Try.ntmps8
  go_wp2_with fail
  refine (excludes_any _ _ _ _ _ _ _ _ HV.out HM.out).mono ?_
  rintro e w' ⟨rfl, hb⟩
  go_wp2
  go_ret
  exact ⟨rfl, hb⟩

/-! ### The plain law -/
theorem exB_split (n i : Nat) (S : Nat → ByteArray) (has : ByteArray → Bool) (h : i ≤ n) : exB n S has = (exB i S has || exB (n - i) (fun j => S (i + j)) has) := by
  unfold exB
  obtain ⟨k, rfl⟩ : ∃ k, n = i + k := ⟨n - i, by omega⟩
  rw [Nat.add_sub_cancel_left, List.range_add, List.any_append, List.any_map]
  rfl

theorem exB_zero (S : Nat → ByteArray) (has : ByteArray → Bool) : exB 0 S has = false := rfl

theorem isMap_mono {P : Program} {ts : List TypeId} {W w : World} {m : Value} {n : Nat} {has : ByteArray → Bool} (h : IsMap P ts W m n has) (hb : Below W.heap.size W w) : IsMap P ts w m n has :=
  ⟨h.1, fun w' hw' => h.2 w' (hb.trans (hw'.mono hb.size))⟩

theorem isStrs_mono {W w : World} {v : Value} {n : Nat} {S : Nat → ByteArray} (h : IsStrs W v n S) (hb : Below W.heap.size W w) : IsStrs w v n S := by
  obtain ⟨o, cap, rfl, hn, hc, ho⟩ := h
  refine ⟨o, cap, rfl, hn, hc, ?_⟩
  rcases ho with ho | ⟨b, off, rfl, hlt, hcell⟩
  · exact Or.inl ho
  · refine Or.inr ⟨b, off, rfl, ?_, fun i hi => ⟨?_, (hcell i hi).2⟩⟩
    · rcases hlt with h | h
      · exact Or.inl h
      · exact Or.inr (Nat.lt_of_lt_of_le h hb.size)
    · rcases hlt with h | h
      · omega
      · rw [hb.cell (p := ⟨b, off + i, none⟩) h]
        exact (hcell i hi).1

set_option maxHeartbeats 800000 in
theorem walk (o0 o1 : Option Nat) (v m : Value) (n l0 l1 l : Nat) (S : Nat → ByteArray) (has0 has1 has : ByteArray → Bool) (i : Int) (w : World)
    (h0 : IsMap Try.prog [24, 30] w (.map o0) l0 has0) (h1 : IsMap Try.prog [24, 30] w (.map o1) l1 has1) (hv : IsStrs w v n S) (hm : IsMap Try.prog [24, 30] w m l has) (hi : (Lit.int .i64 i).wf = true) :
    Calls Try.prog 4 #[.map o0, .map o1, v, m, .int .i64 i] w fun e w' => e = .returned (.bool true) ∧ Below w.heap.size w w' := by
  have e0 := (h0.2 w (Below.refl _ _) 24 (by simp)).1
  have e1 := (h1.2 w (Below.refl _ _) 24 (by simp)).1
  have e2 := (hm.2 w (Below.refl _ _) 24 (by simp)).1
  have HV := hide hv
  have HM := hide hm
  obtain ⟨o, cap, rfl, hn, hc, ho⟩ := hv
  have HO := hide ho
  clear hm h0 h1 ho
  by_cases c0 : 65536 < (l0 : Int)
  · go_enter Try.func4, Try.ntmps4
    go_wp2
    go_ret
    exact ⟨rfl, Below.refl _ _⟩
  by_cases c1 : 65536 < (l1 : Int)
  · go_enter Try.func4, Try.ntmps4
    go_wp2
    go_ret
    exact ⟨rfl, Below.refl _ _⟩
  by_cases c2 : 65536 < (l : Int)
  · go_enter Try.func4, Try.ntmps4
    go_wp2
    go_ret
    exact ⟨rfl, Below.refl _ _⟩
  go_enter Try.func4, Try.ntmps4
  go_wp2_with fail
  refine (tooBig_any _ _ _ _ HV.out).mono ?_
  rintro e w' ⟨⟨big, rfl⟩, rfl⟩
  cases big
  case true =>
    go_wp2
    go_ret
    exact ⟨rfl, Below.refl _ _⟩
  by_cases c3 : i < 0
  · go_wp2
    go_ret
    exact ⟨rfl, Below.refl _ _⟩
  obtain ⟨k, rfl⟩ := Int.eq_ofNat_of_zero_le (by omega : 0 ≤ i)
  by_cases c4 : (n : Int) < k
  · go_wp2
    go_ret
    exact ⟨rfl, Below.refl _ _⟩
  have hk : k ≤ n := by omega
  go_wp2_with fail
  refine (zz_any _ _ _ _ _ _ _ _ HV.out HM.out).mono ?_
  rintro e w1 ⟨rfl, hb1⟩
  have HB1 := hide hb1
  have HV1 := hide (isStrs_mono HV.out hb1)
  have HM1 := hide (isMap_mono HM.out hb1)
  clear hb1
  rcases HO.out with ⟨rfl, h0, rfl⟩ | ⟨b, off, rfl, hlt, hcell⟩
  · obtain rfl : k = 0 := by omega
    obtain rfl : n = 0 := by omega
    go_wp2_with fail
    refine (zz_any _ _ _ _ _ _ _ _ HV1.out HM1.out).mono ?_
    rintro e w2 ⟨rfl, hb2⟩
    have HB2 := hide (HB1.out.trans (hb2.mono HB1.out.size))
    have HV2 := hide (isStrs_mono HV1.out hb2)
    have HM2 := hide (isMap_mono HM1.out hb2)
    clear hb2
    go_wp2_with fail
    refine (zz_any _ _ _ _ _ _ _ _ HV2.out HM2.out).mono ?_
    rintro e w3 ⟨rfl, hb3⟩
    have HB3 := hide (HB2.out.trans (hb3.mono HB2.out.size))
    clear hb3
    rw [exB_zero]
    go_wp2
    go_ret
    exact ⟨rfl, HB3.out⟩
  · have HL := hide hlt
    have HC := hide hcell
    clear hlt hcell HO
    unfold maxLen at hc
    have hleft : IsStrs w' (.slice (some ⟨b, off, none⟩) k cap) k S := ⟨_, cap, rfl, by omega, hc, Or.inr ⟨b, off, rfl, by have := HL.out; omega, fun i hi => HC.out i (by omega)⟩⟩
    have HVl := hide (isStrs_mono hleft HB1.out)
    clear hleft
    go_wp2_with fail
    refine (zz_any _ _ _ _ _ _ _ _ HVl.out HM1.out).mono ?_
    rintro e w2 ⟨rfl, hb2⟩
    have HB2 := hide (HB1.out.trans (hb2.mono HB1.out.size))
    have HM2 := hide (isMap_mono HM1.out hb2)
    clear hb2
    have hsp := exB_split n k S has hk
    have hzz : k = 0 → exB k S has = false := by rintro rfl; rfl
    have hfd : k < n → has (S k) = true → exB (n - k) (fun j => S (k + j)) has = true := fun h1 h2 => exB_found _ 0 _ _ (by omega) h2
    by_cases hcap : k = cap
    · subst hcap
      have hright : IsStrs w' (.slice (some ⟨b, off, none⟩) 0 0) 0 S := ⟨_, 0, rfl, by omega, by simp [maxLen], Or.inr ⟨b, off, rfl, Or.inl (by omega), fun i hi => by omega⟩⟩
      have HVr := hide (isStrs_mono hright HB2.out)
      clear hright hfd
      have hnk : n - k = 0 := by omega
      rw [hnk, exB_zero, Bool.or_false] at hsp
      clear hnk
      generalize exB n S has = whole at *
      generalize exB k S has = left at *
      subst hsp
      have HZZ := hide hzz
      clear hzz
      go_wp2_with fail
      refine (zz_any _ _ _ _ _ _ _ _ HVr.out HM2.out).mono ?_
      rintro e w3 ⟨rfl, hb3⟩
      have HB3 := hide (HB2.out.trans (hb3.mono HB2.out.size))
      clear hb3
      rw [exB_zero]
      by_cases hk0 : k = 0
      · have hl0 := HZZ.out hk0
        subst hl0
        subst hk0
        go_wp2
        all_goals
          go_ret
          exact ⟨by simp, HB3.out⟩
      · have hk1 : ((k : Int) == 0) = false := by simp; omega
        cases whole
        all_goals
          go_wp2
          all_goals
            go_ret
            exact ⟨by simp, HB3.out⟩
    · have hright : IsStrs w' (.slice (some ⟨b, off + k, none⟩) (n - k) (cap - k)) (n - k) (fun j => S (k + j)) :=
        ⟨_, cap - k, rfl, by omega, by simp [maxLen]; omega, Or.inr ⟨b, off + k, rfl, by have := HL.out; omega, fun i hi => by have := HC.out (k + i) (by omega); rw [Nat.add_assoc]; exact this⟩⟩
      have HVr := hide (isStrs_mono hright HB2.out)
      clear hright
      generalize exB n S has = whole at *
      generalize exB k S has = left at *
      have HSP := hide hsp
      have HZZ := hide hzz
      have HFD := hide hfd
      clear hsp hzz hfd
      go_wp2_with fail
      refine (zz_any _ _ _ _ _ _ _ _ HVr.out HM2.out).mono ?_
      rintro e w3 ⟨rfl, hb3⟩
      have HB3 := hide (HB2.out.trans (hb3.mono HB2.out.size))
      have HM3 := hide (isMap_mono HM2.out hb3)
      clear hb3
      have hsp := HSP.out
      have hzz := HZZ.out
      have hfd := HFD.out
      generalize exB (n - k) (fun j => S (k + j)) has = right at *
      clear HSP HZZ HFD
      by_cases hkn : k < n
      · have hb' : b < w'.heap.size := by have := HL.out; omega
        have hck : w3.cell? ⟨b, off + k, none⟩ = some (.string (S k)) := by rw [HB3.out.cell (p := ⟨b, off + k, none⟩) hb']; exact (HC.out k hkn).1
        obtain ⟨z, hz⟩ := (HM3.out.2 w3 (Below.refl _ _) 24 (by simp)).2 (S k) (HC.out k hkn).2
        have hfd' := hfd hkn
        clear hfd
        by_cases hk0 : k = 0
        · have hl0 := hzz hk0
          subst hl0
          subst hk0
          simp only [Bool.false_or] at hsp
          subst hsp
          simp only [Nat.add_zero] at hck
          cases hh : has (S 0)
          · rw [hh] at hz
            clear hfd' hh hzz
            go_wp2
            all_goals
              go_ret
              exact ⟨by simp, HB3.out⟩
          · rw [hh] at hz
            have hr := hfd' hh
            subst hr
            clear hfd' hh hzz
            go_wp2
            all_goals
              go_ret
              exact ⟨by simp, HB3.out⟩
        · have hk1 : ((k : Int) == 0) = false := by simp; omega
          clear hzz
          cases hh : has (S k)
          · rw [hh] at hz
            clear hfd' hh
            subst hsp
            cases left
            all_goals
              go_wp2
              all_goals
                go_ret
                exact ⟨by simp, HB3.out⟩
          · rw [hh] at hz
            have hr := hfd' hh
            subst hr
            clear hfd' hh
            subst hsp
            cases left
            all_goals
              go_wp2
              all_goals
                go_ret
                exact ⟨by simp, HB3.out⟩
      · have hnk : ¬ (k : Int) < n := by omega
        have hkn' : n - k = 0 := by omega
        by_cases hk0 : k = 0
        · have hl0 := hzz hk0
          subst hl0
          subst hk0
          simp only [Bool.false_or] at hsp
          subst hsp
          clear hzz
          go_wp2
          all_goals
            go_ret
            exact ⟨by simp, HB3.out⟩
        · have hk1 : ((k : Int) == 0) = false := by simp; omega
          clear hzz
          subst hsp
          cases left
          all_goals
            go_wp2
            all_goals
              go_ret
              exact ⟨by simp, HB3.out⟩

end Go.Proofs.Qxb6612635a.Excl
