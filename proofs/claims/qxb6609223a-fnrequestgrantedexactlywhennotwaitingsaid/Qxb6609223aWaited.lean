/-
  The walk of waitedBy, for a transaction that is not queued.
-/
import Derived.Test.Qxb6609223aWaits
namespace Go.Proofs.Qxb6609223a
open Go.RowKit
open Go.Proofs.Qxb6609223a.Kit

theorem own9_kept {w w' : World} {base : Nat} {v : Value} {n : Nat} {xs : List Value} (h : w.ownsRow base 9 1 v n xs) (hm : Mod (fun _ => False) w w') : w'.ownsRow base 9 1 v n xs :=
  h.kept hm.grown (by cases hv : v.ownBlock <;> simp)

/-- A slice of names that is read. -/
theorem own9_read {w : World} {base : Nat} {v : Value} {ns : List ByteArray} (h : w.ownsRow base 9 1 v ns.length (ns.map .string)) : ∃ p cap, v = .slice p ns.length cap ∧ ∀ (j : Nat) (n : ByteArray), ns[j]? = some n → ∃ gb : Nat, p = some ⟨gb, 0, none⟩ ∧ gb < w.heap.size ∧ w.cell? ⟨gb, j, none⟩ = some (.string n) := by
  rcases h.2 with ⟨rfl, h2⟩ | ⟨gb, cap, cur, rfl, _, hg, _⟩
  · refine ⟨none, 0, by rw [h2], fun j n hj => ?_⟩
    have := (List.getElem?_eq_some_iff.1 hj).1
    omega
  · refine ⟨some ⟨gb, 0, none⟩, cap, rfl, fun j n hj => ⟨gb, rfl, (Array.getElem?_eq_some_iff.1 hg).1, ?_⟩⟩
    have := h.cells (g := gb) rfl j (.string n) (by rw [List.getElem?_map, hj]; rfl)
    rw [addr_add, Nat.zero_add] at this
    exact this

theorem Rd_read {w : World} {v : Value} {X : List En} (h : Rd w v X) : ∃ p cap, v = .slice p X.length cap ∧ ∀ (j : Nat) (x : En), X[j]? = some x → ∃ gb : Nat, p = some ⟨gb, 0, none⟩ := by
  rcases h with ⟨rfl, rfl⟩ | ⟨gb, cap, rfl, _⟩
  · exact ⟨none, 0, rfl, fun j n hj => by simp at hj⟩
  · exact ⟨_, cap, rfl, fun j n hj => ⟨gb, rfl⟩⟩

set_option maxRecDepth 10000 in
set_option maxHeartbeats 8000000 in
theorem waitedBy_any (w : World) {T : Nat} {tag : Nat → Own} {g : Gh} {N : Nat} (h : TI w T tag g N) (hi : Inv g) (t : ByteArray) (ht : t.size ≤ maxLen) (hN : N ≤ 100000) (hq : g.que t = none) :
    Calls Try.prog 38 #[.pointer (some ⟨T, 0, none⟩), .string t, .pointer none] w fun e w' => ∃ v, e = .returned v ∧ WS w w' v (wbOf g t) := by
  obtain ⟨i9, hi9, hz9, hs9, hb9⟩ := info_parts info9
  have HI := hide (And.intro hi9 (And.intro hz9 (And.intro hs9 hb9)))
  clear hi9 hz9 hs9 hb9
  obtain ⟨bq, c2, tq, sq⟩ := h.qm
  obtain ⟨br, c0, tr, sr⟩ := h.rm
  obtain ⟨bh, c1, th, sh⟩ := h.hm
  have hT := h.blk.lt
  have hof := h.heldOf t
  obtain ⟨L, HL⟩ : ∃ L, Hid (L = (g.heldOf t).2) := ⟨_, rfl⟩
  rw [← HL.out] at hof
  obtain ⟨p, cap, hV, hcell⟩ := own9_read hof.own
  have hVz : ((g.held t).map Prod.fst).getD (.slice none 0 0) = .slice p L.length cap := by
    rw [← hV]
    unfold Gh.heldOf
    cases g.held t <;> rfl
  have lkh : (Instr.lookup 57 (.map (some bh)) (.string t) false).run Try.prog w = .ok (.slice p L.length cap) w := by
    have := (sh.look Try.underlying9 Try.underlying57 (zero22 _) ht).2
    rw [hVz] at this
    exact this
  obtain ⟨ln, HLN⟩ : ∃ ln, Hid (ln = L.length) := ⟨_, rfl⟩
  have hln : ln ≤ 100000 := by rw [HLN.out]; have := hof.len; omega
  rw [← HLN.out] at lkh
  have HCELL := hide hcell
  have HSZ := hide hof.size
  have HHOLD : Hid (∀ n ∈ L, HoldsG g n t) := by
    intro n hn
    rw [HL.out] at hn
    unfold Gh.heldOf at hn
    cases hq : g.held t with
    | none => rw [hq] at hn; simp at hn
    | some y => rw [hq] at hn; exact hi.held t y.1 y.2 hq n hn
  have H := hide h
  have HINV := hide hi
  have HQ := hide hq
  have HSR := hide sr
  have HSQ := hide sq
  clear h hi hq sr sq sh tq tr th hof hV hVz hcell
  go_enter Try.func38, Try.ntmps38
  go_wp2_with (first | (at_lookup; refine wpList_lookup_run _ rfl _ _ _ _ rfl _ lkh ?_))
  clear lkh c1
  go_loopg [29, 7] ln (fun gk s29 v wr => ∃ j : Nat, j ≤ ln ∧ gk = ln - j ∧ s29 = .int .i64 j ∧ Hid (WS w wr v ((L.take j).flatMap (wbN g t)) ∧ ((L.take j).flatMap (wbN g t)).length ≤ j * 300000))
  case atStart => exact ⟨0, Nat.zero_le _, rfl, rfl, ⟨Mod.refl _ _, by simpa using World.ownsRow_nil w _ _ _⟩, by simp⟩
  case round =>
    obtain ⟨j, hj, rfl, rfl, HW⟩ := hrel
    have hTr : T < wr.heap.size := Nat.lt_of_lt_of_le hT HW.out.1.mod.size
    have d0 : wr.cell? ⟨T, 0, none⟩ = some (.map (some br)) := by rw [HW.out.1.mod.cell hT (fun h => h)]; exact c0
    have d2 : wr.cell? ⟨T, 2, none⟩ = some (.map (some bq)) := by rw [HW.out.1.mod.cell hT (fun h => h)]; exact c2
    by_cases hlt : j < ln
    · obtain ⟨n, hn⟩ : ∃ n, L[j]? = some n := ⟨L[j]'(by rw [← HLN.out]; exact hlt), List.getElem?_eq_getElem _⟩
      obtain ⟨gb, rfl, hgb, hc⟩ := HCELL.out j n hn
      have cc : wr.cell? ⟨gb, j, none⟩ = some (.string n) := by rw [HW.out.1.mod.cell hgb (fun h => h)]; exact hc
      have hmem : n ∈ L := List.mem_of_getElem? hn
      obtain ⟨r, hr, k, hk, e, he, et⟩ := HHOLD.out n hmem
      have hti := H.out.kept HW.out.1.mod
      have hri := hti.res n r hr
      have lkr : (Instr.lookup 56 (.map (some br)) (.string n) false).run Try.prog wr = .ok (.pointer (some ⟨r.blk, 0, none⟩)) wr := by
        have := ((HSR.out.kept (HW.out.1.mod.block br HSR.out.lt (fun h => h))).look Try.underlying9 Try.underlying56 (zero63 _) (HSZ.out n hmem)).2
        rw [this, hr]
        rfl
      have HG := hide (get_some wr hri.hold hk he (by rw [et]; exact ht))
      rw [et] at HG
      have HMODE : Hid (modeOf r.H t = k) := by rw [← et]; exact modeOf_eq hri.hold hk he
      have HN := hide hn
      have HR := hide hr
      have HRI := hide hri
      obtain ⟨sq, HSEQ⟩ : ∃ sq : Nat, Hid (entA k e = .agg #[.string t, .int .u8 k, .int .u64 sq]) := ⟨e.seq, by rw [← et]; rfl⟩
      rw [HSEQ.out] at HG
      obtain ⟨R, hR⟩ : ∃ R, r.blk = R := ⟨_, rfl⟩
      have HRB := hide hR
      rw [hR] at HG lkr
      clear hn hc hmem hr he et hti hri hR
      go_wp2_with (first | (at_lookup; refine wpList_lookup_run _ rfl _ _ _ _ rfl _ lkr ?_))
      refine HG.out.mono ?_
      rintro e1 w1 ⟨rfl, hm1⟩
      obtain ⟨wq, HWQ⟩ : ∃ wq, Hid (wq = w1.alloc (.cells #[.string t, .int .u8 k, .int .u64 sq] 77)) := ⟨_, rfl⟩
      have HM1 : Hid (Mod (fun _ => False) wr wq) := by
        rw [HWQ.out]
        exact hm1.trans (Mod.alloc (fun _ => False) w1 _) (fun _ _ h => h)
      clear hm1 d0 lkr cc
      obtain ⟨X, HX⟩ : ∃ X, Hid (X = srtE (fndTo k r.Q 3)) := ⟨_, rfl⟩
      obtain ⟨xl, HXL⟩ : ∃ xl, Hid (xl = X.length) := ⟨_, rfl⟩
      have hxl : xl ≤ 300000 := by
        rw [HXL.out, HX.out]
        exact srtE_fnd_len (fun k hk => Nat.le_trans (HRI.out.que.len k hk) (Nat.le_trans HRI.out.jq hN))
      have HCF : Hid (Calls Try.prog 50 #[.pointer (some ⟨R, 17, none⟩), .string t, .int .u8 k, .int .u64 18446744073709551615, .bool true, .pointer none] (w1.alloc (.cells #[.string t, .int .u8 k, .int .u64 sq] 77)).drew fun e w' => ∃ p2 cap2, e = .returned (.slice p2 xl cap2) ∧
          Hid (Mod (fun _ => False) wr w' ∧ Rd w' (.slice p2 xl cap2) X ∧ ∀ b, (Value.slice p2 xl cap2).ownBlock = some b → wr.heap.size ≤ b)) := by
        have hT2 := (H.out.kept (HW.out.1.mod.trans HM1.out (fun _ _ h => h))).drew
        have hr2 := hT2.res n r HR.out
        have := confl_any wq.drew (m := k) hr2.blk hr2.que (Nat.le_trans hr2.jq hN) t (fun k' hk' e' he' c => by
          have := HINV.out.que n r HR.out k' hk' e' he'
          rw [c] at this
          exact this HQ.out)
        rw [HRB.out, HWQ.out] at this
        refine this.mono ?_
        rintro e1 w' ⟨v, rfl, hrd, hmd, hnew⟩
        rw [← HX.out] at hrd
        obtain ⟨p2, cap2, rfl, _⟩ := Rd_read hrd
        rw [← HXL.out] at hrd hnew ⊢
        have hm2 : Mod (fun _ => False) wr w' := by
          have a := HM1.out
          rw [HWQ.out] at a
          exact (a.trans (Mod.drewN (fun _ => False) _ 1) (fun _ _ h => h)).trans hmd (fun _ _ h => h)
        refine ⟨p2, cap2, rfl, hm2, hrd, fun b hb => Nat.le_trans ?_ (hnew b hb)⟩
        have a := HM1.out.size
        rw [HWQ.out] at a
        exact a
      go_upto_region 7 with fail
      go_cut [54, 55, 56] from 47 to 56 (fun s54 s55 s56 wx => ∃ p2 cap2, s54 = .slice p2 xl cap2 ∧ s55 = .int .i64 xl ∧ s56 = .int .i64 0 ∧ Hid (Mod (fun _ => False) wr wx ∧ Rd wx (.slice p2 xl cap2) X ∧ ∀ b, (Value.slice p2 xl cap2).ownBlock = some b → wr.heap.size ≤ b))
      case first =>
        go_region_with (go_at_call 50; refine HCF.out.mono ?_; rintro e2 w2 ⟨p2, cap2, rfl, HF⟩)
        all_goals
          go_wp2_with fail
          go_meet
          exact ⟨_, _, rfl, rfl, rfl, HF.out⟩
      case rest =>
        obtain ⟨p2, cap2, rfl, rfl, rfl, HC⟩ := hcut
        clear HCF
        obtain ⟨ys, HYS⟩ : ∃ ys, Hid (ys = (L.take j).flatMap (wbN g t)) := ⟨_, rfl⟩
        rw [← HYS.out] at HW
        go_wp2
        go_loopg [56, 7] xl (fun gk s56 v wr2 => ∃ i : Nat, i ≤ xl ∧ gk = xl - i ∧ s56 = .int .i64 i ∧ Hid (IS w wr2 v (ys ++ (X.take i).map (·.1)) (.slice p2 xl cap2) X))
        case atStart =>
          refine ⟨0, Nat.zero_le _, rfl, rfl, ⟨⟨HW.out.1.mod.trans HC.out.1 (fun _ _ h => h), ?_⟩, HC.out.2.1, fun b hb c => ?_⟩⟩
          · simpa using own9_kept HW.out.1.own HC.out.1
          · have := HC.out.2.2 b hb
            have := (HW.out.1.own.lt b c).2
            omega
        case round =>
          obtain ⟨i, hi, rfl, rfl, HIS⟩ := hrel
          by_cases hil : i < xl
          · obtain ⟨x, hx⟩ : ∃ x, X[i]? = some x := ⟨X[i]'(by rw [← HXL.out]; exact hil), List.getElem?_eq_getElem _⟩
            obtain ⟨gb2, hp2, hg2, a0, a1, a2⟩ : ∃ gb2, p2 = some ⟨gb2, 0, none⟩ ∧ gb2 < wr.heap.size ∧ wr.cell? ⟨gb2, i * 3, none⟩ = some (.string x.1) ∧ wr.cell? ⟨gb2, i * 3 + 1, none⟩ = some (.int .u8 x.2.1) ∧ wr.cell? ⟨gb2, i * 3 + 2, none⟩ = some (.int .u64 x.2.2) := by
              rcases HIS.out.rd with ⟨_, h2⟩ | ⟨gb2, cp, h1, h2, h3⟩
              · rw [h2] at hx; simp at hx
              · obtain ⟨b0, b1, b2⟩ := h3 i x hx
                simp only [Value.slice.injEq] at h1
                exact ⟨gb2, h1.1, h2, b0, b1, b2⟩
            subst hp2
            have HX1 := hide hx
            clear hx
            have HYL : Hid ((ys ++ (X.take i).map (·.1)).length ≤ 40000000000) := by
              have a1 := HW.out.2
              have a3 : j * 300000 ≤ 100000 * 300000 := Nat.mul_le_mul_right _ (by omega)
              show _ ≤ _
              rw [List.length_append, List.length_map, List.length_take]
              omega
            obtain ⟨zs, HZS⟩ : ∃ zs, Hid (zs = ys ++ (X.take i).map (·.1)) := ⟨_, rfl⟩
            rw [← HZS.out] at HYL HIS
            go_wp2_with (first | (at_builtin; refine wpList_append_own_at _ rfl _ _ 22 rfl w.heap.size 9 i9 (.string ⟨#[]⟩) 1 16 Try.underlying22 HI.out.1 HI.out.2.1 HI.out.2.2.1 HI.out.2.2.2 rfl (by decide) u7 zs.length (zs.map .string) rfl (by exact (HIS.out.ws.own.alloc _).alloc _) ⟨wr.heap.size + 1, 0, none⟩ 1 1 [.string x.1] rfl rfl ?c1 ?c2 ?c3 ?c4 ?c5 ?_))
            case c1 => intro q u hu; rw [addr_add, Nat.zero_add, cell_of_row _ _ q #[.string x.1] 9 (0, 0) (alloc_at (by simp) _)]; simpa using hu
            case c2 => intro u hu; simp at hu; subst hu; rfl
            case c3 => have := HYL.out; unfold maxLen; omega
            case c4 => have := HYL.out; omega
            case c5 => have := HIS.out.ws.mod.size; go_simp; omega
            intro v' w3 hown' hgr hnil hat
            have HS1 := hide (HIS.out.step (y := x.1) hgr hown' (hat.imp id (fun h => by rw [h]; simp)))
            clear hown' hgr hnil hat
            go_wp2
            go_roundg (xl - (i + 1))
            case measure => omega
            case rel =>
              refine ⟨i + 1, by omega, rfl, by go_num, ?_⟩
              have := HS1.out
              rw [HZS.out, List.append_assoc] at this
              have e2 : X.take (i + 1) = X.take i ++ [x] := by rw [List.take_add_one, HX1.out]; rfl
              show IS w _ _ (ys ++ (X.take (i + 1)).map (·.1)) _ X
              rw [e2, List.map_append]
              exact this
          · go_wp2
            go_roundg (ln - (j + 1))
            case measure => omega
            case rel =>
              have hX : (X.take i).map (·.1) = wbN g t n := by
                rw [List.take_of_length_le (by rw [← HXL.out]; omega)]
                unfold wbN
                rw [HR.out, HX.out]
                simp only [HMODE.out]
              have e2 : (L.take (j + 1)).flatMap (wbN g t) = ys ++ (X.take i).map (·.1) := by
                rw [List.take_add_one, HN.out, List.flatMap_append, ← HYS.out, hX]
                simp
              refine ⟨j + 1, by omega, rfl, by go_num, ?_, ?_⟩
              · rw [e2]
                exact HIS.out.ws
              · rw [e2, List.length_append, List.length_map, List.length_take]
                have := HW.out.2
                rw [Nat.add_mul]
                omega
    · have lkq : (Instr.lookup 58 (.map (some bq)) (.string t) true).run Try.prog wr = .ok (.tuple #[.string ⟨#[]⟩, .bool false]) wr := by
        have := ((HSQ.out.kept (HW.out.1.mod.block bq HSQ.out.lt (fun h => h))).look Try.underlying9 Try.underlying58 (zero9 _) ht).1
        rw [HQ.out] at this
        exact this
      go_wp2_with (first | (at_lookup; refine wpList_lookup_run _ rfl _ _ _ _ rfl _ lkq ?_))
      go_ret
      refine ⟨_, rfl, ?_⟩
      have := HW.out.1
      rw [List.take_of_length_le (by rw [← HLN.out]; omega)] at this
      unfold wbOf
      rw [← HL.out]
      exact this

theorem waitedBy_nil (w : World) {T : Nat} {tag : Nat → Own} {g : Gh} {N : Nat} (h : TI w T tag g N) (hi : Inv g) (t : ByteArray) (ht : t.size ≤ maxLen) (hN : N ≤ 100000) (hq : g.que t = none) :
    Calls Try.prog 15 #[.pointer (some ⟨T, 0, none⟩), .string t] w fun e w' => ∃ v, e = .returned v ∧ WS w w' v (wbOf g t) := by
  have HC := hide (waitedBy_any w h hi t ht hN hq)
  clear h hi hq
  go_enter Try.func15, Try.ntmps15
  go_wp2_with (go_at_call 38; refine HC.out.mono ?_; rintro e w1 ⟨v, rfl, hws⟩; have HWS := hide hws; clear hws)
  go_ret
  exact ⟨_, rfl, HWS.out⟩

end Go.Proofs.Qxb6609223a
