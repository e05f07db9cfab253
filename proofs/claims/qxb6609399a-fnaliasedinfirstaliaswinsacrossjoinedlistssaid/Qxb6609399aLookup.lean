/-
  The walks of ZZaliasedIn and aliasLookup.
-/
import Derived.Test.Qxb6609399aFind
namespace Go.Proofs.Qxb6609399a
open Go.RowKit
open Go.Proofs.Qxb6609399a.Kit

theorem Cols.mono {W w : World} {L : List Item} {v : Value} (h : Cols W L v) (hb : Below W.heap.size W w) : Cols w L v := by
  rcases h with h | ⟨rest, h1, h2, h3⟩
  · exact Or.inl h
  · exact Or.inr ⟨rest, h1, h2, h3.mono hb⟩

theorem look_nil {L : List Item} {s : ByteArray} (h : L.length = 0) : look L s = none := by
  rw [List.eq_nil_of_length_eq_zero h]; rfl

theorem find_any (L : List Item) (v : Value) (s : ByteArray) (w : World) (hL : L.length ≤ 262144) (hc : Cols w L v) :
    Calls Try.prog 12 #[v, .agg #[.string ⟨#[]⟩, .nilIface, .int .i64 1, .string s, .string ⟨#[]⟩, .slice none 0 0]] w fun e w' =>
      e = .returned (res (look L s)) ∧ Below w.heap.size w w' := by
  rcases hc with ⟨h, rfl⟩ | ⟨rest, rfl, h2, h3⟩
  · rw [look_nil h]; exact find_none s w
  · exact find_some L rest s w hL h2 h3

/-- The subject and the bool of a search, apart. -/
theorem res_cases (o : Option Item) : ∃ (n : Int) (p : ByteArray) (ok : Bool), res o = .tuple #[.agg #[.string ⟨#[]⟩, .nilIface, .int .i64 n, .string p, .string ⟨#[]⟩, .slice none 0 0], .bool ok] := by
  cases o with
  | none => exact ⟨0, ⟨#[]⟩, false, rfl⟩
  | some x => exact ⟨1, x.what, true, rfl⟩

/-- What aliasLookup gives. -/
def ans (o : Option Item) : Value :=
  match o with
  | some x => .tuple #[.string x.what, .int .i64 1, .bool true, .bool true]
  | none => .tuple #[.string ⟨#[]⟩, .int .i64 0, .bool false, .bool true]

theorem ans_of {o : Option Item} {n : Int} {p : ByteArray} {ok : Bool} (h : res o = .tuple #[.agg #[.string ⟨#[]⟩, .nilIface, .int .i64 n, .string p, .string ⟨#[]⟩, .slice none 0 0], .bool ok]) :
    ans o = .tuple #[.string p, .int .i64 n, .bool ok, .bool true] := by
  cases o with
  | none =>
    simp [res] at h
    obtain ⟨⟨rfl, rfl⟩, rfl⟩ := h
    rfl
  | some x =>
    simp [res] at h
    obtain ⟨⟨rfl, rfl⟩, rfl⟩ := h
    rfl

theorem Cols.shape {W : World} {L : List Item} {v : Value} (h : Cols W L v) : ∃ (c0 : Value) (ro : Option Addr) (m rcap : Nat) (fl : Bool), v = .agg #[c0, .slice ro m rcap, .bool fl] ∧ (c0 = .nilIface ∨ ∃ t y, c0 = .iface t y) := by
  rcases h with ⟨h, rfl⟩ | ⟨rest, rfl, h2, ⟨ro, rcap, rfl, _⟩⟩
  · exact ⟨_, _, _, _, _, rfl, Or.inl rfl⟩
  · exact ⟨_, _, _, _, _, rfl, Or.inr (colVal_iface _)⟩

set_option maxHeartbeats 1000000 in
theorem zzfind_any (L : List Item) (v : Value) (s : ByteArray) (w : World) (hL : L.length ≤ 262144) (hc : Cols w L v) :
    Calls Try.prog 8 #[v, .agg #[.string ⟨#[]⟩, .nilIface, .int .i64 1, .string s, .string ⟨#[]⟩, .slice none 0 0]] w fun e w' =>
      e = .returned (res (look L s)) ∧ Below w.heap.size w w' := by
  have HC := hide hc
  obtain ⟨c0, ro, m, rcap, fl, rfl, hc0⟩ := hc.shape
  clear hc
  obtain ⟨n, p, ok, hres⟩ := res_cases (look L s)
  have HR := hide hres
  clear hres
  rcases hc0 with rfl | ⟨t, y, rfl⟩
  all_goals
    go_enter Try.func8, Try.ntmps8
    go_wp2_with fail
    refine (find_any L _ s _ hL (by exact HC.out.mono (three_below _ _ _ _))).mono ?_
    rintro e w1 ⟨rfl, hb⟩
    rw [HR.out]
    obtain ⟨_, _, ⟨z0, z1, z2, z3, z4, z5⟩, ⟨f0, f1, f2, f3, f4, f5⟩, hs⟩ := (Fr.start w _ _ _ s).mono hb
    have HB := hide (after (three_below _ _ _ _) hb)
    clear hb
    go_wp2
    refine bodyPost_ret (v := .tuple #[.agg #[.string ⟨#[]⟩, .nilIface, .int .i64 n, .string p, .string ⟨#[]⟩, .slice none 0 0], .bool ok]) (by simp [results, Try.results8, go_sem, z0, z1, z2, z3, z4, z5]) rfl ⟨by rw [HR.out], ?_⟩
    exact six_below HB.out (by omega) _ _ _ _ _ _

set_option maxHeartbeats 1000000 in
theorem lookup_any (L : List Item) (v : Value) (s : ByteArray) (w : World) (hL : L.length ≤ 262144) (hv : IsItems w v L) :
    Calls Try.prog 6 #[v, .string s] w fun e w' =>
      e = .returned (ans (look L s)) ∧ Below w.heap.size w w' := by
  have HV := hide hv
  obtain ⟨o, cap, rfl, hrest⟩ := hv
  clear hrest
  obtain ⟨n, p, ok, hres⟩ := res_cases (look L s)
  have HR := hide hres
  clear hres
  go_enter Try.func6, Try.ntmps6
  go_wp2_with fail
  refine (split_any _ L _ HV.out hL).mono ?_
  rintro e w1 ⟨g0, g1, g2, rfl, hb1, k0, k1, k2⟩
  have HB1 := hide hb1
  have K0 := hide k0
  have K1 := hide k1
  have K2 := hide k2
  clear hb1 k0 k1 k2
  go_wp2_with fail
  refine (cols_any g0 g1 g2 L _ hL K0.out K1.out K2.out).mono ?_
  rintro e w2 ⟨cv, rfl, hcv, hb2⟩
  have HCV := hide hcv
  have HB2 := hide hb2
  clear hcv hb2
  obtain ⟨c0, ro, m, rcap, fl, hshape, hc0⟩ := HCV.out.shape
  have hg : w2.heap.size < (w2.alloc (.cells #[.string s] 9)).heap.size := by simp
  rw [hshape] at HCV
  rw [hshape]
  clear hshape
  rcases hc0 with rfl | ⟨ct, cy, rfl⟩
  all_goals
    go_wp2_with fail
    refine (key_any w2.heap.size s _ (by exact hg) (by go_simp)).mono ?_
    rintro e w3 ⟨rfl, hb3⟩
    have HB3 := hide (after ((Below.refl _ _).alloc (Nat.le_refl _) _) hb3)
    clear hb3
    go_wp2_with fail
    refine (zzfind_any L _ s _ hL (by exact HCV.out.mono HB3.out)).mono ?_
    rintro e w4 ⟨rfl, hb4⟩
    have HB4 := hide hb4
    clear hb4
    rw [HR.out]
    go_wp2_with fail
    refine (parts_any _ _ _ _ _).mono ?_
    rintro e w5 ⟨rfl, hb5⟩
    have HB5 := hide hb5
    clear hb5
    go_wp2
    refine bodyPost_ret (v := .tuple #[.string p, .int .i64 n, .bool ok, .bool true]) (by simp [results, Try.results6, go_sem]) rfl ⟨by rw [ans_of HR.out], ?_⟩
    exact after (after (after (after (after HB1.out HB2.out) HB3.out) HB4.out) ((Below.refl _ _).alloc (Nat.le_refl _) _)) HB5.out

end Go.Proofs.Qxb6609399a
