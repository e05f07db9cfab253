/-
  The walk of grant where the transaction holds a lock, alone.
-/
import Derived.Test.Qxb6609223aGrant2
namespace Go.Proofs.Qxb6609223a
open Go.RowKit
open Go.Proofs.Qxb6609223a.Kit

set_option maxRecDepth 10000 in
set_option maxHeartbeats 4000000 in
theorem grant_up (w : World) {T : Nat} {tag : Nat → Own} {g : Gh} {N : Nat} (h : TI w T tag g N) {n : ByteArray} {r : RS} {m k0 : Nat} {e : Ent} (hr : g.res n = some r) (hm : m < 3) (hN : N ≤ 100000) (ht : e.txn.size ≤ maxLen)
    (hk : k0 < 3) (h1 : r.H k0 = [e]) (h0 : ∀ k, k < 3 → k ≠ k0 → r.H k = []) (hJ : r.JH + 1 ≤ N) :
    Calls Try.prog 36 #[.pointer (some ⟨T, 0, none⟩), .string n, .pointer (some ⟨r.blk, 0, none⟩), .string e.txn, .int .u8 m] w fun e1 w' => e1 = .returned (.tuple #[]) ∧
      ∃ x, St w w' T tag (g.setRes n { r with H := fun k => if k = m then [⟨x, e.txn, r.JH + 1⟩] else [], JH := r.JH + 1 }) N := by
  have H := hide h
  have HR := hide hr
  have H1 := hide h1
  have H0 := hide h0
  have he : e ∈ r.H k0 := by rw [h1]; simp
  have HE := hide he
  obtain ⟨R, hR⟩ : ∃ R, r.blk = R := ⟨_, rfl⟩
  have HRB := hide hR
  have HG := hide (get_some w (h.res n r hr).hold hk he ht)
  rw [hR] at HG ⊢
  clear h hr h1 h0 he hR
  go_enter Try.func36, Try.ntmps36
  go_wp2_with fail
  refine HG.out.mono ?_
  rintro e1 w1 ⟨rfl, hm1⟩
  unfold entA
  obtain ⟨wa, HWA⟩ : ∃ wa, Hid (wa = w1.alloc (.cells #[.string e.txn, .int .u8 k0, .int .u64 e.seq] 77)) := ⟨_, rfl⟩
  have HM : Hid (Mod (fun _ => False) w wa) := by
    rw [HWA.out]
    exact hm1.trans (Mod.alloc (fun _ => False) w1 _) (fun _ _ h => h)
  clear hm1
  have HT : Hid (TI wa T tag g N) := H.out.kept HM.out
  have HRI := hide (HT.out.res n r HR.out)
  have HC : Hid (Calls Try.prog 48 #[.pointer (some ⟨R, 0, none⟩), .string e.txn] (w1.alloc (.cells #[.string e.txn, .int .u8 k0, .int .u64 e.seq] 77)) fun r1 w' => r1 = .returned (.tuple #[]) ∧ LUs wa w' (fun b => tag b = .hold n) r.blk 0 (fun _ => []) r.JH) := by
    rw [← HWA.out, ← HRB.out]
    exact remove_LU wa HRI.out.blk (by omega) HRI.out.hold hk H1.out H0.out ht
  have HD : Hid (∀ w2, LUs wa w2 (fun b => tag b = .hold n) r.blk 0 (fun _ => []) r.JH → Calls Try.prog 37 #[.pointer (some ⟨R, 0, none⟩), .string e.txn, .int .u8 m] w2 fun r1 w' => r1 = .returned (.tuple #[]) ∧ ∃ x, LUs wa w' (fun b => tag b = .hold n) r.blk 0 (fun k => if k = m then [⟨x, e.txn, r.JH + 1⟩] else []) (r.JH + 1)) := by
    intro w2 hl
    have hF : ¬ (tag r.blk = .hold n ∨ wa.heap.size ≤ r.blk) := by
      rintro (c | c)
      · rw [HRI.out.tg] at c
        cases c
      · have := HRI.out.blk.lt
        omega
    have := add_LU w2 hl.blk (by omega) hl.lu hF hm e.txn ht (by omega) (fun k _ x hx => by simp at hx)
    rw [HRB.out] at this
    refine this.mono ?_
    rintro r1 w' ⟨rfl, x, hx, hl2⟩
    refine ⟨rfl, x, hl.trans ?_⟩
    rw [HRB.out]
    simpa using hl2
  clear HWA
  go_wp2_with (first | (go_at_call 48; refine HC.out.mono ?_; rintro r1 w2 ⟨rfl, hl⟩; have HL := hide hl; clear hl) | (go_at_call 37; refine (HD.out _ HL.out).mono ?_; rintro r1 w3 ⟨rfl, x, hl3⟩; have HL3 := hide hl3; clear hl3))
  go_end0
  refine ⟨rfl, x, ?_⟩
  rw [← HRB.out]
  exact St.comp (fun _ _ => rfl) (HM.out.mono (fun _ _ h => h.elim)) (St.hold HT.out HR.out HL3.out hJ)

end Go.Proofs.Qxb6609223a
