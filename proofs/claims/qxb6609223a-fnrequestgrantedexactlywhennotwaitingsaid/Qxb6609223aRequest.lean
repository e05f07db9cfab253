/-
  The walk of Request.
-/
import Derived.Test.Qxb6609223aReq
namespace Go.Proofs.Qxb6609223a
open Go.RowKit
open Go.Proofs.Qxb6609223a.Kit

theorem fin_queue (w : World) {T : Nat} {tag : Nat → Own} {g1 : Gh} {N : Nat} (h : TI w T tag g1 N) {n t : ByteArray} {r : RS} {m : Nat} (hr : g1.res n = some r) (hm : m < 3) (hN : N ≤ 100000) (ht : t.size ≤ maxLen)
    (hno : ∀ k, k < 3 → ∀ e ∈ r.Q k, e.txn ≠ t) (hJ : r.JQ + 1 ≤ N) :
    Calls Try.prog 37 #[.pointer (some ⟨r.blk, 17, none⟩), .string t, .int .u8 m] w fun e w' => e = .returned (.tuple #[]) ∧ ∃ b, w'.cell? ⟨T, 2, none⟩ = some (.map (some b)) ∧ ∃ w'', (Instr.mapUpdate 58 (.map (some b)) (.string t) (.string n)).run Try.prog w' = .ok () w'' ∧
      ∃ x, St w w'' T tag ((g1.setRes n { r with Q := fun k => if k = m then r.Q m ++ [⟨x, t, r.JQ + 1⟩] else r.Q k, JQ := r.JQ + 1 }).setQue t n) N := by
  have hri := h.res n r hr
  refine (add_LU w hri.blk (by omega) hri.que (by rw [hri.tg]; simp) hm t ht (by have := hri.jq; omega) hno).mono ?_
  rintro e w' ⟨rfl, x, hx, hl⟩
  have s := St.queue h hr hl hJ
  obtain ⟨tag1, h1, e1⟩ := s.ti
  obtain ⟨b, c2, tb, sm⟩ := h1.qm
  obtain ⟨w'', r2, s2, m2⟩ := sm.update Try.underlying9 Try.underlying58 ht (.string n)
  refine ⟨rfl, b, c2, w'', r2, x, St.comp e1 s.mod ⟨⟨tag1, h1.setQ c2 s2 m2, fun _ _ => rfl⟩, m2.mono (fun i _ e => by subst e; rw [tb]; trivial)⟩⟩

/-- Behind the first part of Request: the resource is there. -/
structure Mid (w wx : World) (T : Nat) (tag : Nat → Own) (g g1 : Gh) (n : ByteArray) (r1 : RS) (N : Nat) : Prop where
  st : St w wx T tag g1 (N + 1)
  pre : Pre g g1 n r1
  jh : r1.JH ≤ N
  jq : r1.JQ ≤ N
  new : g.res n = none → wx.cell? ⟨r1.blk, 17 + 15, none⟩ = some (.map none)

theorem Mid.old {w wx : World} {T : Nat} {tag : Nat → Own} {g : Gh} {n : ByteArray} {r : RS} {N : Nat} (h : TI w T tag g N) (hx : TI wx T tag g (N + 1)) (hm : Mod (fun b => (tag b).isTab) w wx) (hr : g.res n = some r) : Mid w wx T tag g g n r N :=
  ⟨⟨⟨tag, hx, fun _ _ => rfl⟩, hm⟩, ⟨hr, Or.inl rfl⟩, (h.res n r hr).jh, (h.res n r hr).jq, fun e => by rw [hr] at e; cases e⟩

theorem Mid.made {w wx w2 : World} {T b : Nat} {tag : Nat → Own} {g : Gh} {n : ByteArray} {N : Nat} (hx : TI wx T tag g (N + 1)) (hm : Mod (fun b => (tag b).isTab) w wx) (hn : g.res n = none) (hb : wx.cell? ⟨T, 0, none⟩ = some (.map (some b)))
    (hs : SM w2 b (fun s => if s = n then some (.pointer (some ⟨wx.heap.size, 0, none⟩)) else (g.res s).map fun r => .pointer (some ⟨r.blk, 0, none⟩))) (hm2 : Mod (fun i => i = b) (wx.alloc (.cells z75 75)) w2) :
    Mid w w2 T tag g (g.setRes n ⟨wx.heap.size, fun _ => [], 0, fun _ => [], 0⟩) n ⟨wx.heap.size, fun _ => [], 0, fun _ => [], 0⟩ N := by
  obtain ⟨b', hb', ht, hsm⟩ := hx.rm
  have : b' = b := by rw [hb'] at hb; simpa using hb
  subst this
  have hbl := hsm.lt
  refine ⟨St.comp (tag1 := tag) (fun _ _ => rfl) hm ⟨⟨_, hx.newRes hn hb hs hm2, fun b hb => ext_old hb⟩, ?_⟩, ⟨by simp [Gh.setRes], Or.inr ⟨hn, rfl, fun _ => rfl, fun _ => rfl⟩⟩, Nat.zero_le _, Nat.zero_le _, fun _ => ?_⟩
  · exact (Mod.alloc _ wx _).trans (G := fun i => i = b') hm2 (fun i _ e => by subst e; rw [ht]; trivial)
  · have hnew : w2.heap[wx.heap.size]? = some (.cells z75 75 (0, 0)) := by
      rw [hm2.block _ (by simp) (by omega)]
      exact heap_alloc_new wx _
    exact cell_of_row w2 wx.heap.size 32 z75 75 (0, 0) hnew

/-- What the last part of Request calls. -/
structure Tail (w wx : World) (T R : Nat) (tag : Nat → Own) (g : Gh) (n t : ByteArray) (m N : Nat) (adm : Bool) : Prop where
  len : Calls Try.prog 34 #[.pointer (some ⟨R, 17, none⟩)] wx fun r w' => ∃ nq : Nat, r = .returned (.int .i64 nq) ∧ w' = wx ∧ (g.res n = none → nq = 0)
  admC : Calls Try.prog 35 #[.pointer (some ⟨R, 0, none⟩), .string t, .int .u8 m] wx fun r w' => r = .returned (.bool adm) ∧ Mod (fun _ => False) wx w'
  fresh : g.res n = none → adm = true
  que : g.res n ≠ none → ∀ wy, Mod (fun _ => False) wx wy → Calls Try.prog 37 #[.pointer (some ⟨R, 17, none⟩), .string t, .int .u8 m] wy fun e w' => e = .returned (.tuple #[]) ∧ ∃ b, w'.cell? ⟨T, 2, none⟩ = some (.map (some b)) ∧
    ∃ w'', (Instr.mapUpdate 58 (.map (some b)) (.string t) (.string n)).run Try.prog w' = .ok () w'' ∧ ∃ g', Hid (St w w'' T tag g' (N + 1) ∧ Req g g' n t m false)
  grant : adm = true → ∀ wy, Mod (fun _ => False) wx wy → Calls Try.prog 36 #[.pointer (some ⟨T, 0, none⟩), .string n, .pointer (some ⟨R, 0, none⟩), .string t, .int .u8 m] wy fun e w' => e = .returned (.tuple #[]) ∧ ∃ g', Hid (St w w' T tag g' (N + 1) ∧ Req g g' n t m true)

theorem Tail.mk' {w wc wx : World} {T : Nat} {tag tag1 : Nat → Own} {g g1 : Gh} {n t : ByteArray} {r1 : RS} {m N : Nat} {hb : Bool} {km ys : Nat} {xs : ByteArray} (hmid : Mid w wc T tag g g1 n r1 N) (h1 : TI wc T tag1 g1 (N + 1)) (e1 : ∀ b, b < w.heap.size → tag1 b = tag b) (hm1 : Mod (fun _ => False) wc wx)
    (hi : Inv g) (hm : m < 3) (hN : N ≤ 50000) (ht : t.size ≤ maxLen) (hq : g.que t = none)
    (hget : Calls Try.prog 33 #[.pointer (some ⟨r1.blk, 0, none⟩), .string t] wx fun r w' => r = .returned (.tuple #[.agg #[.string xs, .int .u8 km, .int .u64 ys], .bool hb]) ∧ Mod (fun _ => False) wx w')
    (hgrant : admB r1.H hb km m = true → ∀ wy, TI wy T tag1 g1 (N + 1) → Calls Try.prog 36 #[.pointer (some ⟨T, 0, none⟩), .string n, .pointer (some ⟨r1.blk, 0, none⟩), .string t, .int .u8 m] wy fun e w' => e = .returned (.tuple #[]) ∧ ∃ g', St wy w' T tag1 g' (N + 1) ∧ Req g g' n t m true) :
    Tail w wx T r1.blk tag g n t m N (admB r1.H hb km m) := by
  have hx := h1.kept hm1
  have hri := hx.res n r1 hmid.pre.res
  have hcR := (h1.res n r1 hmid.pre.res).blk.lt
  refine ⟨?_, ?_, ?_, ?_, ?_⟩
  · refine (len_any wx hri.que).mono ?_
    rintro r w' ⟨nq, rfl, rfl, hz⟩
    exact ⟨nq, rfl, rfl, fun hn => hz (by rw [hm1.cell hcR (fun h => h)]; exact hmid.new hn)⟩
  · refine admits_gen wx r1.blk 0 m r1.H t hb km xs ys hri.blk.lt (fun k hk => (hri.hold.ll k hk).len) (fun k hk => ?_) hget
    have := hri.hold.len k hk
    have := hri.jh
    omega
  · intro hn
    rcases hmid.pre.ways with e | ⟨_, _, hH, _⟩
    · have := hmid.pre.res
      rw [e, hn] at this
      cases this
    · refine admB_yes.2 (fun k _ => Or.inl ?_)
      simp only [cntOf, hH k, List.length_nil]
      split <;> omega
  · intro hn wy hy
    have hty := hx.kept hy
    refine (fin_queue wy hty hmid.pre.res hm (by omega) ht (fun k hk e he => ?_) (by have := hmid.jq; omega)).mono ?_
    · intro c
      have := (hmid.pre.inv hi).que n r1 hmid.pre.res k hk e he
      rw [hmid.pre.que, c] at this
      exact this hq
    · rintro e w' ⟨rfl, b, c2, w'', r2, x, hst⟩
      exact ⟨rfl, b, c2, w'', r2, _, St.comp e1 hmid.st.mod (St.comp (tag1 := tag1) (fun _ _ => rfl) ((hm1.trans hy (fun _ _ h => h)).mono (fun _ _ h => h.elim)) hst), Req.queued hmid.pre hi hn x (r1.JQ + 1)⟩
  · intro ha wy hy
    refine (hgrant ha wy (hx.kept hy)).mono ?_
    rintro e w' ⟨rfl, g', hst, hreq⟩
    exact ⟨rfl, g', St.comp e1 hmid.st.mod (St.comp (tag1 := tag1) (fun _ _ => rfl) ((hm1.trans hy (fun _ _ h => h)).mono (fun _ _ h => h.elim)) hst), hreq⟩

theorem tail_held {w wc wx : World} {T : Nat} {tag tag1 : Nat → Own} {g g1 : Gh} {n : ByteArray} {r1 : RS} {m N k : Nat} {e : Ent} (hmid : Mid w wc T tag g g1 n r1 N) (h1 : TI wc T tag1 g1 (N + 1)) (e1 : ∀ b, b < w.heap.size → tag1 b = tag b) (hm1 : Mod (fun _ => False) wc wx)
    (hi : Inv g) (hm : m < 3) (hN : N ≤ 50000) (ht : e.txn.size ≤ maxLen) (hq : g.que e.txn = none) (hk : k < 3) (he : e ∈ r1.H k) (hne : k ≠ m) : Tail w wx T r1.blk tag g n e.txn m N (admB r1.H true k m) := by
  refine Tail.mk' (xs := e.txn) (ys := e.seq) hmid h1 e1 hm1 hi hm hN ht hq (get_some wx ((h1.kept hm1).res n r1 hmid.pre.res).hold hk he ht) (fun ha wy hy => ?_)
  obtain ⟨s1, s0⟩ := sole ((hmid.pre.inv hi).alone n r1 hmid.pre.res) hk he hne ha
  refine (grant_up wy hy hmid.pre.res hm (by omega) ht hk s1 s0 (by have := hmid.jh; omega)).mono ?_
  rintro e2 w' ⟨rfl, x, hst⟩
  exact ⟨rfl, _, hst, Req.raised hmid.pre hi hm hk s1 s0 x (r1.JH + 1)⟩

theorem tail_new {w wc wx : World} {T : Nat} {tag tag1 : Nat → Own} {g g1 : Gh} {n t : ByteArray} {r1 : RS} {m N : Nat} (h : TI w T tag g N) (hmid : Mid w wc T tag g g1 n r1 N) (h1 : TI wc T tag1 g1 (N + 1)) (e1 : ∀ b, b < w.heap.size → tag1 b = tag b) (hm1 : Mod (fun _ => False) wc wx)
    (hi : Inv g) (hm : m < 3) (hN : N ≤ 50000) (ht : t.size ≤ maxLen) (hn : n.size ≤ maxLen) (hq : g.que t = none) (hno : ∀ k, k < 3 → ∀ e ∈ r1.H k, e.txn ≠ t) : Tail w wx T r1.blk tag g n t m N (admB r1.H false 0 m) := by
  refine Tail.mk' (xs := ⟨#[]⟩) (ys := 0) hmid h1 e1 hm1 hi hm hN ht hq (get_none wx ((h1.kept hm1).res n r1 hmid.pre.res).hold t ht hno) (fun ha wy hy => ?_)
  have hl : (g1.heldOf t).2.length + 1 ≤ N + 1 := by
    have := (h.heldOf t).len
    unfold Gh.heldOf at this ⊢
    rw [hmid.pre.held]
    omega
  refine (grant_new wy hy hmid.pre.res hm (by omega) ht hn hno hl (by have := hmid.jh; omega)).mono ?_
  rintro e2 w' ⟨rfl, v', x, hst⟩
  exact ⟨rfl, _, hst, Req.newly hmid.pre hi hm ha v' x (r1.JH + 1)⟩

set_option maxRecDepth 10000 in
set_option maxHeartbeats 4000000 in
theorem request_any (w : World) {T : Nat} {tag : Nat → Own} {g : Gh} {N : Nat} (h : TI w T tag g N) (hi : Inv g) {n t : ByteArray} {m : Nat} (hm : m < 3) (hN : N ≤ 50000) (ht : t.size ≤ maxLen) (hn : n.size ≤ maxLen) (hq : g.que t = none) :
    Calls Try.prog 13 #[.pointer (some ⟨T, 0, none⟩), .string t, .string n, .int .u8 m] w fun e w' => ∃ got g', e = .returned (.bool got) ∧ St w w' T tag g' (N + 1) ∧ Req g g' n t m got := by
  have H := hide h
  have HINV := hide hi
  have HQ := hide hq
  obtain ⟨bq, c2, tq, sq⟩ := h.qm
  obtain ⟨br, c0, tr, sr⟩ := h.rm
  obtain ⟨c, c3, hc⟩ := h.ch
  have f3 := h.blk.frozen 3
  have hT := h.blk.lt
  have lkq : (Instr.lookup 58 (.map (some bq)) (.string t) true).run Try.prog w = .ok (.tuple #[.string ⟨#[]⟩, .bool false]) w := by
    have := (sq.look Try.underlying9 Try.underlying58 (zero9 _) ht).1
    rw [hq] at this
    exact this
  have HB : Hid (TI (w.setCell ⟨T, 3, none⟩ (.int .u64 ((c : Int) + 1))) T tag g (N + 1)) := h.bump (c + 1) (by omega)
  have HBM : Hid (Mod (fun b => (tag b).isTab) w (w.setCell ⟨T, 3, none⟩ (.int .u64 ((c : Int) + 1)))) := Mod.setCell w ⟨T, 3, none⟩ _ (by show (tag T).isTab; rw [h.tg]; trivial)
  obtain ⟨pv, HP⟩ : ∃ pv : Option Addr, Hid (pv = (g.res n).map fun r => ⟨r.blk, 0, none⟩) := ⟨_, rfl⟩
  have SR : SM (w.setCell ⟨T, 3, none⟩ (.int .u64 ((c : Int) + 1))) br (fun n => (g.res n).map fun r => .pointer (some ⟨r.blk, 0, none⟩)) := sr.kept (Below.heap_setCell _ _ _ _ (fun e => by
    change br = T at e
    rw [e, h.tg] at tr
    cases tr))
  have lkr : (Instr.lookup 56 (.map (some br)) (.string n) false).run Try.prog (w.setCell ⟨T, 3, none⟩ (.int .u64 ((c : Int) + 1))) = .ok (.pointer pv) (w.setCell ⟨T, 3, none⟩ (.int .u64 ((c : Int) + 1))) := by
    have := (SR.look Try.underlying9 Try.underlying56 (zero63 _) hn).2
    rw [this, HP.out]
    cases g.res n <;> rfl
  have HSR := hide SR
  have tok : True := trivial
  clear h hi hq sq sr SR tr tq
  go_enter Try.func13, Try.ntmps13
  go_upto_if 47 with (first | (at_lookup; have _t := tok; refine wpList_lookup_run _ rfl _ _ _ _ rfl _ lkq ?_; clear tok) | (at_lookup; refine wpList_lookup_run _ rfl _ _ _ _ rfl _ lkr ?_))
  obtain ⟨wb, HWB⟩ : ∃ wb, Hid (wb = w.setCell ⟨T, 3, none⟩ (.int .u64 ((c : Int) + 1))) := ⟨_, rfl⟩
  have b0 : wb.cell? ⟨T, 0, none⟩ = some (.map (some br)) := by
    rw [HWB.out, cell_set_ne _ _ _ (by simp)]
    exact c0
  have hTb : T < wb.heap.size := by
    rw [HWB.out]
    simp only [World.setCell, Array.size_modify]
    exact hT
  rw [← HWB.out] at HB HBM HSR
  rw [← HWB.out]
  clear lkq lkr HWB c0 c2 c3 f3 hT
  go_cut [11] from 46 to 55 (fun s11 wx => ∃ g1 r1, s11 = .pointer (some ⟨r1.blk, 0, none⟩) ∧ Hid (Mid w wx T tag g g1 n r1 N))
  case first =>
    cases hr : g.res n with
    | none =>
      have hpv : pv = none := by rw [HP.out, hr]; rfl
      subst hpv
      have HR := hide hr
      clear hr
      have HS2 : Hid (SM (wb.alloc (.cells z75 75)) br (fun n => (g.res n).map fun r => .pointer (some ⟨r.blk, 0, none⟩))) := HSR.out.kept (Below.heap_alloc _ _ _ HSR.out.lt)
      obtain ⟨w2, r2, s2, m2⟩ := HS2.out.update Try.underlying9 Try.underlying56 hn (.pointer (some ⟨wb.heap.size, 0, none⟩))
      have HMID := hide (Mid.made HB.out HBM.out HR.out b0 s2 m2)
      clear s2 m2
      go_wp2_with (first | (at_mapUpdate; refine wpList_mapUpdate_run _ rfl _ _ _ _ rfl w2 r2 ?_))
      go_meet
      exact ⟨_, _, rfl, HMID.out⟩
    | some r =>
      have hpv : pv = some ⟨r.blk, 0, none⟩ := by rw [HP.out, hr]; rfl
      subst hpv
      have HR := hide hr
      clear hr
      go_wp2
      go_meet
      exact ⟨g, r, rfl, Mid.old H.out HB.out HBM.out HR.out⟩
  case rest =>
    obtain ⟨g1, r1, rfl, HMID⟩ := hcut
    obtain ⟨tag1, h1, e1⟩ := HMID.out.st.ti
    have HRI := hide (h1.res n r1 HMID.out.pre.res)
    have HX := hide (And.intro h1 e1)
    have hRlt := HRI.out.blk.lt
    clear h1 e1 HP HSR HB HBM b0 hTb
    by_cases hh : ∃ k, k < 3 ∧ ∃ e ∈ r1.H k, e.txn = t
    · obtain ⟨k, hk, e, he, rfl⟩ := hh
      have HE := hide he
      have HG := hide (get_some wc HRI.out.hold hk he ht)
      clear he
      obtain ⟨R, hR⟩ : ∃ R, r1.blk = R := ⟨_, rfl⟩
      have HRB := hide hR
      rw [hR] at HG hRlt ⊢
      clear hR
      go_wp2_with fail
      refine HG.out.mono ?_
      rintro e1 w1 ⟨rfl, hm1⟩
      unfold entA
      have HM1 := hide (hm1.trans (Mod.alloc (fun _ => False) w1 (.cells #[.string e.txn, .int .u8 k, .int .u64 e.seq] 77)) (fun _ _ h => h))
      clear hm1
      by_cases hk2 : k = 2
      · subst hk2
        go_wp2
        go_ret
        exact ⟨true, g1, rfl, St.comp HX.out.2 HMID.out.st.mod (St.quiet HX.out.1 HM1.out), Req.serves HMID.out.pre HINV.out hk HE.out (Or.inl rfl)⟩
      · by_cases hkm : k = m
        · subst hkm
          have hk2' : ((k : Int) == 2) = false := by simp; omega
          go_wp2
          go_ret
          exact ⟨true, g1, rfl, St.comp HX.out.2 HMID.out.st.mod (St.quiet HX.out.1 HM1.out), Req.serves HMID.out.pre HINV.out hk HE.out (Or.inr rfl)⟩
        · have hk2' : ((k : Int) == 2) = false := by simp; omega
          have hkm' : ((k : Int) == m) = false := by simp; omega
          have HKM := hide hkm
          have HK2 := hide hk2
          clear hk2 hkm
          have HTL := hide (tail_held HMID.out HX.out.1 HX.out.2 HM1.out HINV.out hm hN ht HQ.out hk HE.out HKM.out)
          rw [HRB.out] at HTL
          generalize admB r1.H true k m = adm at HTL
          go_wp2_with fail
          refine HTL.out.len.mono ?_
          rintro e1 w2 ⟨nq, rfl, rfl, hz⟩
          have HZ := hide hz
          clear hz
          by_cases hq0 : nq = 0
          · subst hq0
            have tok2 : True := trivial
            cases adm
            · have hne : g.res n ≠ none := fun c => by have := HTL.out.fresh c; cases this
              have HNE := hide hne
              clear hne
              go_wp2_with (first | (go_at_call 35; refine HTL.out.admC.mono ?_; rintro e2 w3 ⟨rfl, hm3⟩; have HM3 := hide hm3; clear hm3) | (go_at_call 37; refine (HTL.out.que HNE.out _ HM3.out).mono ?_; rintro e3 w4 ⟨rfl, b, c2, w5, r5, g', HF⟩) | (at_mapUpdate; refine wpList_mapUpdate_run _ rfl _ _ _ _ rfl w5 r5 ?_))
              go_ret
              exact ⟨false, g', rfl, HF.out.1, HF.out.2⟩
            · go_wp2_with (first | (go_at_call 35; refine HTL.out.admC.mono ?_; rintro e2 w3 ⟨rfl, hm3⟩; have HM3 := hide hm3; clear hm3) | (go_at_call 36; refine (HTL.out.grant rfl _ HM3.out).mono ?_; rintro e3 w4 ⟨rfl, g', HF⟩))
              go_ret
              exact ⟨true, g', rfl, HF.out.1, HF.out.2⟩
          · have hne : g.res n ≠ none := fun c => hq0 (HZ.out c)
            have HNE := hide hne
            have hq1 : ((nq : Int) == 0) = false := by simp; omega
            clear hne
            go_wp2_with (first | (go_at_call 37; refine (HTL.out.que HNE.out _ (Mod.refl _ _)).mono ?_; rintro e3 w4 ⟨rfl, b, c2, w5, r5, g', HF⟩) | (at_mapUpdate; refine wpList_mapUpdate_run _ rfl _ _ _ _ rfl w5 r5 ?_))
            go_ret
            exact ⟨false, g', rfl, HF.out.1, HF.out.2⟩
    · have hno : ∀ k, k < 3 → ∀ e ∈ r1.H k, e.txn ≠ t := fun k hk e he c => hh ⟨k, hk, e, he, c⟩
      have HNO := hide hno
      have HG := hide (get_none wc HRI.out.hold t ht hno)
      clear hh hno
      obtain ⟨R, hR⟩ : ∃ R, r1.blk = R := ⟨_, rfl⟩
      have HRB := hide hR
      rw [hR] at HG hRlt ⊢
      clear hR
      go_wp2_with fail
      refine HG.out.mono ?_
      rintro e1 w1 ⟨rfl, hm1⟩
      have HM1 := hide (hm1.trans (Mod.alloc (fun _ => False) w1 (.cells #[.string ⟨#[]⟩, .int .u8 0, .int .u64 0] 77)) (fun _ _ h => h))
      clear hm1
      have HTL := hide (tail_new H.out HMID.out HX.out.1 HX.out.2 HM1.out HINV.out hm hN ht hn HQ.out HNO.out)
      rw [HRB.out] at HTL
      generalize admB r1.H false 0 m = adm at HTL
      go_wp2_with fail
      refine HTL.out.len.mono ?_
      rintro e1 w2 ⟨nq, rfl, rfl, hz⟩
      have HZ := hide hz
      clear hz
      by_cases hq0 : nq = 0
      · subst hq0
        have tok2 : True := trivial
        cases adm
        · have hne : g.res n ≠ none := fun c => by have := HTL.out.fresh c; cases this
          have HNE := hide hne
          clear hne
          go_wp2_with (first | (go_at_call 35; refine HTL.out.admC.mono ?_; rintro e2 w3 ⟨rfl, hm3⟩; have HM3 := hide hm3; clear hm3) | (go_at_call 37; refine (HTL.out.que HNE.out _ HM3.out).mono ?_; rintro e3 w4 ⟨rfl, b, c2, w5, r5, g', HF⟩) | (at_mapUpdate; refine wpList_mapUpdate_run _ rfl _ _ _ _ rfl w5 r5 ?_))
          go_ret
          exact ⟨false, g', rfl, HF.out.1, HF.out.2⟩
        · go_wp2_with (first | (go_at_call 35; refine HTL.out.admC.mono ?_; rintro e2 w3 ⟨rfl, hm3⟩; have HM3 := hide hm3; clear hm3) | (go_at_call 36; refine (HTL.out.grant rfl _ HM3.out).mono ?_; rintro e3 w4 ⟨rfl, g', HF⟩))
          go_ret
          exact ⟨true, g', rfl, HF.out.1, HF.out.2⟩
      · have hne : g.res n ≠ none := fun c => hq0 (HZ.out c)
        have HNE := hide hne
        have hq1 : ((nq : Int) == 0) = false := by simp; omega
        clear hne
        go_wp2_with (first | (go_at_call 37; refine (HTL.out.que HNE.out _ (Mod.refl _ _)).mono ?_; rintro e3 w4 ⟨rfl, b, c2, w5, r5, g', HF⟩) | (at_mapUpdate; refine wpList_mapUpdate_run _ rfl _ _ _ _ rfl w5 r5 ?_))
        go_ret
        exact ⟨false, g', rfl, HF.out.1, HF.out.2⟩

end Go.Proofs.Qxb6609223a
