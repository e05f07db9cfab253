/-
  The walk of the law.
-/
import Derived.Test.Qxb6609223aLawEq
namespace Go.Proofs.Qxb6609223a
open Go.RowKit
open Go.Proofs.Qxb6609223a.Kit

/-- A slice of n bytes that is read. -/
def Byts (w : World) (v : Value) (n : Nat) (M : Nat → Nat) : Prop :=
  ∃ (o : Option Addr) (cap : Nat), v = .slice o n cap ∧ ∀ i, i < n → ∃ b off, o = some ⟨b, off, none⟩ ∧ b < w.heap.size ∧ w.cell? ⟨b, off + i, none⟩ = some (.int .u8 (M i))

/-- The relation of the loop. -/
def LR (w wr : World) (T : Nat) (v0 v1 v2 v3 : Value) (i : Nat) : Prop :=
  ∃ tag g N l0 l1 l2 l3, LS w wr T tag g N v0 v1 v2 v3 l0 l1 l2 l3 ∧ LQ g l0 l1 l2 l3 i ∧ N ≤ 2 * i

theorem LR.start {w w1 : World} (h : TI w1 (w.heap.size + 3) (tag0 w.heap.size) g0 0) (hm : Mod (fun _ => False) w w1) : LR w w1 (w.heap.size + 3) (.slice none 0 0) (.slice none 0 0) (.slice none 0 0) (.slice none 0 0) 0 := by
  have o : ∀ k, Ow w w1 (tag0 w.heap.size) k (.slice none 0 0) [] := fun k => ⟨by simpa using World.ownsRow_nil w1 _ _ _, fun b hb => by simp [Value.ownBlock] at hb, by simp⟩
  exact ⟨_, g0, 0, [], [], [], [], ⟨hm, h, inv0, fun b hb => by simp [tag0, hb], o 0, o 1, o 2, o 3⟩, ⟨by simp [g0], by simp [g0], rfl, by simp, by simp, by simp, by simp⟩, by omega⟩

/-- The Bool that says that another holds. -/
def OH (g : Gh) (r t : ByteArray) (v : Value) : Prop := ∃ b, v = .bool b ∧ (b = true → ∃ t', HoldsG g r t' ∧ t' ≠ t)

theorem LQ.mono {g : Gh} {l0 l1 l2 l3 : List ByteArray} {i : Nat} (h : LQ g l0 l1 l2 l3 i) : LQ g l0 l1 l2 l3 (i + 1) :=
  ⟨h.que, h.res, h.len, h.grants, Nat.le_succ_of_le h.b0, Nat.le_succ_of_le h.b1, Nat.le_succ_of_le h.b2⟩

set_option maxRecDepth 10000 in
set_option maxHeartbeats 8000000 in
theorem law_walk (v0 v1 v2 : Value) (n0 n1 n2 : Nat) (S0 S1 : Nat → ByteArray) (M : Nat → Nat) (w : World) (h0 : Strs w v0 n0 S0) (h1 : Strs w v1 n1 S1) (h2 : Byts w v2 n2 M) (hn0 : n0 ≤ maxLen) (hn1 : n1 ≤ maxLen) (hn2 : n2 ≤ maxLen) :
    Calls Try.prog 3 #[v0, v1, v2] w fun e w' => e = .returned (.bool true) ∧ Below w.heap.size w w' := by
  have H0 := hide h0
  have H1 := hide h1
  obtain ⟨o0, cap0, rfl, hc0⟩ := h0
  obtain ⟨o1, cap1, rfl, hc1⟩ := h1
  obtain ⟨o2, cap2, rfl, hc2⟩ := h2
  have HC0 := hide hc0
  have HC1 := hide hc1
  have HC2 := hide hc2
  clear hc0 hc1 hc2
  obtain ⟨i9, hi9, hz9, hs9, hb9⟩ := info_parts info9
  have HI := hide (And.intro hi9 (And.intro hz9 (And.intro hs9 hb9)))
  clear hi9 hz9 hs9 hb9
  have HZ := hide (zz_any (.slice o0 n0 cap0) (.slice o1 n1 cap1) n0 n1 n2 cap2 o2 S0 S1 w H0.out H1.out hn0 hn1 hn2)
  have g0 : (n0 : Int) ≤ 9223372036854775807 := by unfold maxLen at hn0; omega
  have g1 : (n1 : Int) ≤ 9223372036854775807 := by unfold maxLen at hn1; omega
  have g2 : (n2 : Int) ≤ 9223372036854775807 := by unfold maxLen at hn2; omega
  go_enter Try.func3, Try.ntmps3
  go_wp2_with fail
  refine HZ.out.mono ?_
  rintro e w0 ⟨⟨b, rfl⟩, rfl⟩
  cases b
  · go_wp2
    go_ret
    exact ⟨rfl, Below.refl _ _⟩
  · by_cases a0 : (n0 : Int) > 4096
    · go_wp2
      go_ret
      exact ⟨rfl, Below.refl _ _⟩
    · by_cases a1 : (n1 : Int) > 4096
      · go_wp2
        go_ret
        exact ⟨rfl, Below.refl _ _⟩
      · by_cases a2 : (n2 : Int) > 4096
        · go_wp2
          go_ret
          exact ⟨rfl, Below.refl _ _⟩
        · go_wp2_with fail
          refine (strBytes_any _ n0 S0 _ H0.out (by omega)).mono ?_
          rintro e w1 ⟨x0, rfl, rfl, hx0⟩
          go_wp2_with fail
          refine (strBytes_any _ n1 S1 _ H1.out (by omega)).mono ?_
          rintro e w2 ⟨x1, rfl, rfl, hx1⟩
          by_cases a3 : (x0 : Int) + x1 + n2 > 1048576
          · go_wp2
            go_ret
            exact ⟨rfl, Below.refl _ _⟩
          · go_wp2_with fail
            refine (min_any n0 n1 n2 n2 _).mono ?_
            rintro e w3 ⟨n, rfl, rfl, hx, hy, hz⟩
            go_wp2_with fail
            refine (newTable_any _).mono ?_
            rintro e w4 ⟨rfl, hti, hmod, hsize⟩
            have HS := hide (LR.start hti hmod)
            clear hti hmod
            go_wp2
            obtain ⟨T, HT⟩ : ∃ T, Hid (T = w3.heap.size + 3) := ⟨_, rfl⟩
            have hn4 : n ≤ 4096 := by omega
            rw [← HT.out] at HS
            rw [← HT.out]
            clear hx0 hx1 HZ hsize
            go_loopg [13, 9, 10, 11, 12] n (fun gk s13 a9 a10 a11 a12 wr => ∃ i : Nat, i ≤ n ∧ gk = n - i ∧ s13 = .int .i64 i ∧ Hid (LR w3 wr T a9 a10 a11 a12 i))
            case atStart => exact ⟨0, Nat.zero_le _, rfl, rfl, HS.out⟩
            case round =>
              clear HS
              obtain ⟨i, hi, rfl, rfl, HR⟩ := hrel
              obtain ⟨tag, g, N, l0, l1, l2, l3, hls, hlq, hN⟩ := HR.out
              by_cases hlt : i < n
              · obtain ⟨b0, f0, rfl, hb0, c0, hs0⟩ := HC0.out i (by omega)
                obtain ⟨b1, f1, rfl, hb1, c1, hs1⟩ := HC1.out i (by omega)
                obtain ⟨b2, f2, rfl, hb2, c2⟩ := HC2.out i (by omega)
                rw [← hls.mod.cell hb0 (fun h => h)] at c0
                rw [← hls.mod.cell hb1 (fun h => h)] at c1
                rw [← hls.mod.cell hb2 (fun h => h)] at c2
                obtain ⟨t, ht⟩ : ∃ t, S0 i = t := ⟨_, rfl⟩
                obtain ⟨r, hr⟩ : ∃ r, S1 i = r := ⟨_, rfl⟩
                obtain ⟨m, hm⟩ : ∃ m, M i = m := ⟨_, rfl⟩
                rw [ht] at c0 hs0
                rw [hr] at c1 hs1
                rw [hm] at c2
                have HLS := hide hls
                have HLQ := hide hlq
                clear hls hlq HC0 HC1 HC2 H0 H1 ht hr hm HR
                have NEXT : Hid (LR w3 wr T u9 u10 u11 u12 (i + 1)) := ⟨tag, g, N, l0, l1, l2, l3, HLS.out, HLQ.out.mono, by omega⟩
                by_cases hm2 : (m : Int) > 2
                · go_wp2
                  go_roundg (n - (i + 1))
                  case measure => omega
                  case rel => exact ⟨i + 1, by omega, rfl, by go_num, NEXT.out⟩
                · have hl0 := HLQ.out.b0
                  have hl1 := HLQ.out.b1
                  have hl2 := HLQ.out.b2
                  go_wp2_with fail
                  refine (index_any u9 l0.length _ t wr HLS.out.o0.strs (by omega)).mono ?_
                  rintro e w5 ⟨k, rfl, rfl, hk⟩
                  rw [mem_getD, HLQ.out.que] at hk
                  have HK := hide hk
                  clear hk
                  by_cases hk0 : k ≥ 0
                  · go_wp2
                    go_roundg (n - (i + 1))
                    case measure => omega
                    case rel => exact ⟨i + 1, by omega, rfl, by go_num, NEXT.out⟩
                  · have HQ : Hid (g.que t = none) := Classical.byContradiction fun c => hk0 (HK.out.2 c)
                    clear NEXT
                    go_wp2_with fail
                    refine (index_any u10 l1.length _ r w5 HLS.out.o1.strs (by omega)).mono ?_
                    rintro e w6 ⟨k2, rfl, rfl, hk2⟩
                    rw [mem_getD] at hk2
                    have HK2 := hide hk2
                    clear hk2
                    obtain ⟨p11, q11, e11, hr11⟩ := own9_read HLS.out.o2.own
                    obtain ⟨p12, q12, e12, hr12⟩ := own9_read HLS.out.o3.own
                    subst e11
                    subst e12
                    have HR11 := hide hr11
                    have HR12 := hide hr12
                    clear hr11 hr12
                    go_wp2
                    obtain ⟨sn, HSN⟩ : ∃ sn, Hid (sn = decide (0 ≤ k2)) := ⟨_, rfl⟩
                    rw [← HSN.out]
                    go_loop [18, 17] (fun k oh => ∃ j : Nat, j ≤ l2.length ∧ k = .int .i64 j ∧ OH g r t oh) (fun k _ => l2.length - (intOf k).toNat)
                    case atStart => exact ⟨0, Nat.zero_le _, rfl, false, rfl, fun h => by cases h⟩
                    case round =>
                      obtain ⟨j, hj, rfl, b, rfl, hoh⟩ := hrel
                      have HOH := hide hoh
                      clear hoh
                      by_cases hjl : j < l2.length
                      · obtain ⟨a, ha⟩ : ∃ a, l2[j]? = some a := ⟨l2[j], List.getElem?_eq_getElem hjl⟩
                        obtain ⟨c, hc⟩ : ∃ c, l3[j]? = some c := ⟨l3[j]'(by rw [← HLQ.out.len]; exact hjl), List.getElem?_eq_getElem _⟩
                        obtain ⟨gb, rfl, hgb, d1⟩ := HR11.out j a ha
                        obtain ⟨gb2, rfl, hgb2, d2⟩ := HR12.out j c hc
                        have hj3 : j < l3.length := by rw [← HLQ.out.len]; exact hjl
                        have HGR := hide (HLQ.out.grants j a c ha hc)
                        clear ha hc
                        by_cases e1 : a = r
                        · have q1 : (a.toList == r.toList) = true := by rw [e1]; exact str_eq r
                          have E1 := hide e1
                          clear e1
                          by_cases e2 : c = t
                          · have q2 : (c.toList == t.toList) = true := by rw [e2]; exact str_eq t
                            clear e2
                            go_wp2
                            go_round
                            case rel => exact ⟨j + 1, by omega, by go_num, b, rfl, HOH.out⟩
                            case measure => simp [intOf]; omega
                          · have q2 := str_ne e2
                            have E2 := hide e2
                            clear e2
                            go_wp2
                            go_round
                            case rel => exact ⟨j + 1, by omega, by go_num, true, rfl, fun _ => ⟨c, by rw [← E1.out]; exact HGR.out, E2.out⟩⟩
                            case measure => simp [intOf]; omega
                        · have q1 := str_ne e1
                          clear e1
                          go_wp2
                          go_round
                          case rel => exact ⟨j + 1, by omega, by go_num, b, rfl, HOH.out⟩
                          case measure => simp [intOf]; omega
                      · go_wp2_with fail
                        refine (request_any w6 HLS.out.ti HLS.out.inv (m := m) (by omega) (by omega) hs0 hs1 HQ.out).mono ?_
                        rintro e w7 ⟨got, g', rfl, hst, hreq⟩
                        obtain ⟨tag', hls'⟩ := HLS.out.step hst hreq.inv
                        have d2 : w7.cell? ⟨b2, f2 + i, none⟩ = some (.int .u8 m) := by
                          rw [hls'.mod.cell hb2 (fun h => h), ← HLS.out.mod.cell hb2 (fun h => h)]
                          exact c2
                        have hb27 : b2 < w7.heap.size := Nat.lt_of_lt_of_le hb2 hls'.mod.size
                        have HLS' := hide hls'
                        have HREQ := hide hreq
                        have HSR : Hid (sn = true ↔ g.res r ≠ none) := by
                          rw [HSN.out, decide_eq_true_iff, HK2.out, HLQ.out.res]
                          exact Iff.rfl
                        clear hst hreq hls' c0 c1 c2 HR11 HR12 HK2 HSN hjl hj
                        cases got
                        · have hsn : sn = true := by
                            refine HSR.out.2 (fun c => ?_)
                            have := HREQ.out.fresh c
                            cases this
                          have hwq : (g'.que t).isSome = true := by rw [(HREQ.out.no rfl).1]; rfl
                          have HWQ := hide hwq
                          have HMEM := hide ((HLQ.out.res r).2 (HSR.out.1 hsn))
                          clear hwq HSR
                          subst hsn
                          go_upto_region 32 with (go_at_call 14; refine (waiting_any w7 HLS'.out.ti t hs0).mono ?_; rintro e2 w8 ⟨rfl, hw8⟩; subst w8; rw [HWQ.out])
                          go_cut [137] from 127 to 137 (fun s137 wx => s137 = .bool false ∧ wx = w7)
                          case first =>
                            cases b
                            · go_wp2
                              go_meet
                              exact ⟨rfl, rfl⟩
                            · by_cases m1 : m = 1
                              · subst m1
                                go_wp2
                                go_meet
                                exact ⟨rfl, rfl⟩
                              · have m1' : ((m : Int) == 1) = false := by simp; omega
                                go_wp2
                                go_meet
                                exact ⟨rfl, rfl⟩
                          case rest =>
                            obtain ⟨rfl, hwc⟩ := hcut
                            subst wc
                            have FQ := hide (HLQ.out.no HREQ.out HMEM.out)
                            have hl0' : l0.length ≤ 4096 := by omega
                            go_wp2_with (first | (at_builtin; refine wpList_append_own_at _ rfl _ _ 22 rfl w3.heap.size 9 i9 (.string ⟨#[]⟩) 1 16 Try.underlying22 HI.out.1 HI.out.2.1 HI.out.2.2.1 HI.out.2.2.2 rfl (by decide) u9 l0.length (l0.map .string) rfl (by exact HLS'.out.o0.own.alloc _) ⟨w7.heap.size, 0, none⟩ 1 1 [.string t] rfl rfl ?c1 ?c2 ?c3 ?c4 ?c5 ?_))
                            case c1 => exact one_new _ _ 9
                            case c2 => intro u hu; simp at hu; subst hu; rfl
                            case c3 => unfold maxLen; omega
                            case c4 => omega
                            case c5 => have := HLS'.out.mod.size; go_simp; omega
                            intro v' w9 hown' hgr hnil hat
                            obtain ⟨f1', f2', f3', f4', f5'⟩ := app_facts HLS'.out HLS'.out.o0 hs0 hgr hown' (by simpa using hat)
                            have FIN : Hid (LR w3 w9 T v' u10 (.slice p11 l2.length q11) (.slice p12 l3.length q12) (i + 1)) :=
                              ⟨_, g', N + 1, l0 ++ [t], l1, l2, l3, ⟨f1', f2', HLS'.out.inv, f3', f4', f5' 1 (by omega) _ _ HLS'.out.o1, f5' 2 (by omega) _ _ HLS'.out.o2, f5' 3 (by omega) _ _ HLS'.out.o3⟩, FQ.out, by omega⟩
                            clear hown' hgr hnil hat f1' f2' f3' f4' f5'
                            go_wp2
                            go_roundg (n - (i + 1))
                            case measure => omega
                            case rel => exact ⟨i + 1, by omega, rfl, by go_num, FIN.out⟩
                        · have hq' : g'.que t = none := by rw [(HREQ.out.yes rfl).1]; exact HQ.out
                          have HQ' := hide hq'
                          have hwq : (g'.que t).isSome = false := by rw [hq']; rfl
                          have HWQ := hide hwq
                          clear hwq hq'
                          go_upto_region 30 with (go_at_call 14; refine (waiting_any w7 HLS'.out.ti t hs0).mono ?_; rintro e2 w8 ⟨rfl, hw8⟩; subst w8; rw [HWQ.out])
                          go_cut [126] from 121 to 126 (fun s126 wx => s126 = .bool false ∧ wx = w7)
                          case first =>
                            cases sn
                            · go_wp2
                              go_meet
                              exact ⟨rfl, rfl⟩
                            · go_wp2
                              go_meet
                              exact ⟨rfl, rfl⟩
                          case rest =>
                            obtain ⟨rfl, hwc⟩ := hcut
                            subst wc
                            go_upto_region 32 with fail
                            go_cut [137] from 127 to 137 (fun s137 wx => s137 = .bool false ∧ wx = w7)
                            case first =>
                              cases b
                              · go_wp2
                                go_meet
                                exact ⟨rfl, rfl⟩
                              · by_cases m1 : m = 1
                                · subst m1
                                  go_wp2
                                  go_meet
                                  exact ⟨rfl, rfl⟩
                                · exfalso
                                  obtain ⟨t', ht', hne⟩ := HOH.out rfl
                                  exact hne (HREQ.out.other rfl m1 t' ht')
                            case rest =>
                              obtain ⟨rfl, hwc⟩ := hcut
                              subst wc
                              go_upto_if 139 with fail
                              go_cut [10] from 140 to 143 (fun s10 wx => ∃ tag2 l1', Hid (LS w3 wx T tag2 g' (N + 1) u9 s10 (.slice p11 l2.length q11) (.slice p12 l3.length q12) l0 l1' l2 l3 ∧ ((l1' = l1 ∧ r ∈ l1) ∨ l1' = l1 ++ [r])))
                              case first =>
                                cases sn
                                · have hl1' : l1.length ≤ 4096 := by omega
                                  go_wp2_with (first | (at_builtin; refine wpList_append_own_at _ rfl _ _ 22 rfl w3.heap.size 9 i9 (.string ⟨#[]⟩) 1 16 Try.underlying22 HI.out.1 HI.out.2.1 HI.out.2.2.1 HI.out.2.2.2 rfl (by decide) u10 l1.length (l1.map .string) rfl (by exact HLS'.out.o1.own.alloc _) ⟨w7.heap.size, 0, none⟩ 1 1 [.string r] rfl rfl ?c1 ?c2 ?c3 ?c4 ?c5 ?_))
                                  case c1 => exact one_new _ _ 9
                                  case c2 => intro u hu; simp at hu; subst hu; rfl
                                  case c3 => unfold maxLen; omega
                                  case c4 => omega
                                  case c5 => have := HLS'.out.mod.size; go_simp; omega
                                  intro v' w9 hown' hgr hnil hat
                                  obtain ⟨f1', f2', f3', f4', f5'⟩ := app_facts HLS'.out HLS'.out.o1 hs1 hgr hown' (by simpa using hat)
                                  have FIN : Hid (LS w3 w9 T (ext w7 tag' (.law 1)) g' (N + 1) u9 v' (.slice p11 l2.length q11) (.slice p12 l3.length q12) l0 (l1 ++ [r]) l2 l3) :=
                                    ⟨f1', f2', HLS'.out.inv, f3', f5' 0 (by omega) _ _ HLS'.out.o0, f4', f5' 2 (by omega) _ _ HLS'.out.o2, f5' 3 (by omega) _ _ HLS'.out.o3⟩
                                  clear hown' hgr hnil hat f1' f2' f3' f4' f5'
                                  go_wp2
                                  go_meet
                                  exact ⟨_, _, FIN.out, Or.inr rfl⟩
                                · have HMEM := hide ((HLQ.out.res r).2 (HSR.out.1 (by trivial)))
                                  go_wp2
                                  go_meet
                                  exact ⟨_, _, HLS'.out, Or.inl ⟨rfl, HMEM.out⟩⟩
                              case rest =>
                                obtain ⟨tag2, l1', HL2⟩ := hcut
                                have FQ := hide (HLQ.out.yes HREQ.out HL2.out.2)
                                have hl3 : l3.length ≤ 4096 := by rw [← HLQ.out.len]; omega
                                have hl2' : l2.length ≤ 4096 := by omega
                                go_wp2_with (first | (at_builtin; refine wpList_append_own_at _ rfl _ _ 22 rfl w3.heap.size 9 i9 (.string ⟨#[]⟩) 1 16 Try.underlying22 HI.out.1 HI.out.2.1 HI.out.2.2.1 HI.out.2.2.2 rfl (by decide) (.slice p11 l2.length q11) l2.length (l2.map .string) rfl (by exact HL2.out.1.o2.own.alloc _) ⟨wc.heap.size, 0, none⟩ 1 1 [.string r] rfl rfl ?c1 ?c2 ?c3 ?c4 ?c5 ?_))
                                case c1 => exact one_new _ _ 9
                                case c2 => intro u hu; simp at hu; subst hu; rfl
                                case c3 => unfold maxLen; omega
                                case c4 => omega
                                case c5 => have := HL2.out.1.mod.size; go_simp; omega
                                intro v2' w9 hown' hgr hnil hat
                                obtain ⟨tag3, HL3⟩ : ∃ tag3, Hid (LS w3 w9 T tag3 g' (N + 1) u9 u10 v2' (.slice p12 l3.length q12) l0 l1' (l2 ++ [r]) l3) := by
                                  obtain ⟨f1', f2', f3', f4', f5'⟩ := app_facts HL2.out.1 HL2.out.1.o2 hs1 hgr hown' (by simpa using hat)
                                  exact ⟨_, ⟨f1', f2', HL2.out.1.inv, f3', f5' 0 (by omega) _ _ HL2.out.1.o0, f5' 1 (by omega) _ _ HL2.out.1.o1, f4', f5' 3 (by omega) _ _ HL2.out.1.o3⟩⟩
                                clear hown' hgr hnil hat
                                go_wp2_with (first | (at_builtin; refine wpList_append_own_at _ rfl _ _ 22 rfl w3.heap.size 9 i9 (.string ⟨#[]⟩) 1 16 Try.underlying22 HI.out.1 HI.out.2.1 HI.out.2.2.1 HI.out.2.2.2 rfl (by decide) (.slice p12 l3.length q12) l3.length (l3.map .string) rfl (by exact HL3.out.o3.own.alloc _) ⟨w9.heap.size, 0, none⟩ 1 1 [.string t] rfl rfl ?c1 ?c2 ?c3 ?c4 ?c5 ?_))
                                case c1 => exact one_new _ _ 9
                                case c2 => intro u hu; simp at hu; subst hu; rfl
                                case c3 => unfold maxLen; omega
                                case c4 => omega
                                case c5 => have := HL3.out.mod.size; go_simp; omega
                                intro v3' w10 hown' hgr hnil hat
                                obtain ⟨tag4, HL4⟩ : ∃ tag4, Hid (LS w3 w10 T tag4 g' (N + 1) u9 u10 v2' v3' l0 l1' (l2 ++ [r]) (l3 ++ [t])) := by
                                  obtain ⟨f1', f2', f3', f4', f5'⟩ := app_facts HL3.out HL3.out.o3 hs0 hgr hown' (by simpa using hat)
                                  exact ⟨_, ⟨f1', f2', HL3.out.inv, f3', f5' 0 (by omega) _ _ HL3.out.o0, f5' 1 (by omega) _ _ HL3.out.o1, f5' 2 (by omega) _ _ HL3.out.o2, f4'⟩⟩
                                clear hown' hgr hnil hat
                                go_wp2_with fail
                                refine (waitedBy_nil w10 HL4.out.ti HL4.out.inv t hs0 (by omega) HQ'.out).mono ?_
                                rintro e1 w11 ⟨vb, rfl, hws⟩
                                have HWS := hide hws
                                have HL5 := hide (HL4.out.still hws.mod)
                                clear hws
                                go_wp2_with fail
                                refine (request_again_t w11 HL5.out.ti (m := m) (by omega) hs0 hs1 HQ'.out (HREQ.out.yes rfl).2).mono ?_
                                rintro e2 w12 ⟨rfl, hst⟩
                                obtain ⟨tag6, hl6⟩ := HL5.out.step hst HL5.out.inv
                                have HST := hide hst
                                have HL6 := hide hl6
                                clear hst hl6
                                go_wp2_with (first | (go_at_call 14; refine (waiting_any w12 HL6.out.ti t hs0).mono ?_; rintro e3 w13 ⟨rfl, hw13⟩; subst w13; rw [HWQ.out]) | (go_at_call 15; refine (waitedBy_nil w12 HL6.out.ti HL6.out.inv t hs0 (by omega) HQ'.out).mono ?_; rintro e4 w14 ⟨vb2, rfl, hws2⟩; have HW2 := hide hws2; clear hws2) | (go_at_call 16; refine (eq_own vb vb2 w10.heap.size w12.heap.size _ w14 (own_over HWS.out HST.out HW2.out.mod) HW2.out.own).mono ?_; rintro e5 w15 ⟨rfl, hm15⟩; have HM15 := hide hm15; clear hm15))
                                go_roundg (n - (i + 1))
                                case measure => omega
                                case rel => exact ⟨i + 1, by omega, rfl, by go_num, ⟨_, g', N + 1 + 1, l0, l1', _, _, HL6.out.quiet (HW2.out.mod.trans HM15.out (fun _ _ h => h)), FQ.out, by omega⟩⟩
              · go_wp2
                go_ret
                exact ⟨rfl, hls.mod.extends⟩

end Go.Proofs.Qxb6609223a
