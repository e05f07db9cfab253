/-
  For the law's last part: the comparison of two slices, Request again, what a quiet step leaves.
-/
import Derived.Test.Qxb6609223aLawSt
namespace Go.Proofs.Qxb6609223a
open Go.RowKit
open Go.Proofs.Qxb6609223a.Kit

theorem own_len {w : World} {base n : Nat} {v : Value} {xs : List Value} (h : w.ownsRow base 9 1 v n xs) : n ≤ maxLen := by
  rcases h.2 with ⟨_, rfl⟩ | ⟨_, cap, _, _, _, _, h1, h2, _⟩
  · exact Nat.zero_le _
  · omega

set_option maxHeartbeats 1000000 in
theorem eq_own (v v' : Value) (base base' : Nat) (l : List ByteArray) (w : World) (h : w.ownsRow base 9 1 v l.length (l.map .string)) (h' : w.ownsRow base' 9 1 v' l.length (l.map .string)) :
    Calls Try.prog 16 #[v, v'] w fun e w' => e = .returned (.bool true) ∧ Mod (fun _ => False) w w' := by
  have hn := own_len h
  obtain ⟨o, cap, rfl, hc⟩ := own9_read h
  obtain ⟨o', cap', rfl, hc'⟩ := own9_read h'
  have HC := hide hc
  have HC' := hide hc'
  obtain ⟨n, HN⟩ : ∃ n, Hid (n = l.length) := ⟨_, rfl⟩
  rw [← HN.out] at hn ⊢
  have hn2 : (n : Int) ≤ 9223372036854775807 := by unfold maxLen at hn; omega
  clear hc hc' h h' hn
  go_enter Try.func16, Try.ntmps16
  go_wp2
  go_loopw [5] (fun k wr => ∃ j : Nat, j ≤ n ∧ k = .int .i64 j ∧ Hid (Mod (fun _ => False) w wr)) (fun k _ => n - (intOf k).toNat)
  case atStart => exact ⟨0, Nat.zero_le _, rfl, Mod.refl _ _⟩
  case round =>
    obtain ⟨j, hj, rfl, HM⟩ := hrel
    by_cases hlt : j < n
    · obtain ⟨s, hs⟩ : ∃ s, l[j]? = some s := ⟨l[j]'(by rw [← HN.out]; exact hlt), List.getElem?_eq_getElem _⟩
      obtain ⟨b, rfl, hb, hcell⟩ := HC.out j s hs
      obtain ⟨b', rfl, hb', hcell'⟩ := HC'.out j s hs
      rw [← HM.out.cell hb (fun h => h)] at hcell
      rw [← HM.out.cell hb' (fun h => h)] at hcell'
      have he := str_eq s
      clear hs
      go_wp2
      go_quiet (fail)
      go_wp2
      go_roundw
      case rel => exact ⟨j + 1, by omega, by go_num, HM.out.trans (Mod.drewN (fun _ => False) _ _) (fun _ _ h => h)⟩
      case measure => simp [intOf]; omega
    · go_wp2
      go_ret
      exact ⟨rfl, HM.out⟩

theorem request_again_t (w : World) {T : Nat} {tag : Nat → Own} {g : Gh} {N : Nat} (h : TI w T tag g N) {n t : ByteArray} {m : Nat} (hN : N ≤ 50000) (ht : t.size ≤ maxLen) (hn : n.size ≤ maxLen) (hq : g.que t = none)
    (hr : ∃ r, g.res n = some r ∧ ∃ k, k < 3 ∧ ∃ e ∈ r.H k, e.txn = t ∧ (k = 2 ∨ k = m)) :
    Calls Try.prog 13 #[.pointer (some ⟨T, 0, none⟩), .string t, .string n, .int .u8 m] w fun e1 w' => e1 = .returned (.bool true) ∧ St w w' T tag g (N + 1) := by
  obtain ⟨r, hr, k, hk, e, he, rfl, hkm⟩ := hr
  exact request_again w h hN ht hn hq hr hk he hkm

/-- Behind a step that only lays new blocks: they are nobody's. -/
theorem LS.still {w wr w1 : World} {T : Nat} {tag : Nat → Own} {g : Gh} {N : Nat} {v0 v1 v2 v3 : Value} {l0 l1 l2 l3 : List ByteArray} (h : LS w wr T tag g N v0 v1 v2 v3 l0 l1 l2 l3) (hm : Mod (fun _ => False) wr w1) : LS w w1 T (ext wr tag (.law 9)) g N v0 v1 v2 v3 l0 l1 l2 l3 := by
  have kp : ∀ k b, b < wr.heap.size → tag b = .law k → w1.heap[b]? = wr.heap[b]? ∧ ext wr tag (.law 9) b = tag b := fun k b hb _ => ⟨hm.block b hb (fun h => h), ext_old hb⟩
  exact ⟨h.mod.trans hm (fun _ _ h => h), h.ti.congr (fun b hb _ => ⟨hm.block b hb (fun h => h), ext_old hb⟩) (Nat.le_refl _), h.inv, fun b hb => (ext_old (Nat.lt_of_lt_of_le hb h.mod.size)).trans (h.free b hb), h.o0.kept (kp 0), h.o1.kept (kp 1), h.o2.kept (kp 2), h.o3.kept (kp 3)⟩

/-- The first answer of WaitedBy stands behind the second Request and the second WaitedBy. -/
theorem own_over {w1 w2 w3 w4 : World} {T : Nat} {tag : Nat → Own} {g : Gh} {N : Nat} {v : Value} {l : List ByteArray} (h : WS w1 w2 v l) (hs : St w2 w3 T (ext w1 tag (.law 9)) g N) (hm : Mod (fun _ => False) w3 w4) : w4.ownsRow w1.heap.size 9 1 v l.length (l.map .string) := by
  refine own9_kept ?_ hm
  rcases h.own with ⟨h1, h2 | ⟨gb, cap, cur, rfl, hb0, hg, rest⟩⟩
  · exact ⟨h1, Or.inl h2⟩
  · exact ⟨h1, Or.inr ⟨gb, cap, cur, rfl, hb0, by
      rw [hs.mod.block gb (Array.getElem?_eq_some_iff.1 hg).1 (by rw [ext_new hb0]; exact fun h => h)]
      exact hg, rest⟩⟩

end Go.Proofs.Qxb6609223a
