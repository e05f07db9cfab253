/-
  Program-independent helpers for a law that only reads: what a call leaves (law_post), a slice of strings, a map with string keys.
-/
import Derived.WalkKit
import Derived.ProofKit
import Derived.Carry
import Derived.SliceStrings
import Derived.Laws.IdiomMaps
namespace Go.Proofs.Qxb6612635a.Kit
open Go.ChangeShapes Go.WideShapes Go.ChangeAt Go.WideMaps Go.WideElems Go.RowKit

theorem hide {p : Prop} (h : p) : Hid p := h
theorem ret_bool {a b : Bool} (h : a = b) : Ending.returned (.bool a) = .returned (.bool b) := by rw [h]

section
variable {H : Type} {enc : TypeId × Value → H} {P : Program}

theorem trodAll_stays (hl : laidOutB P = true) {W W' : World} {sp : Nat → Bool} : ∀ {ts : List TypeId} {vs : List Value} {ds : List (DataW H)} {ps : List MemPlace},
    (∀ t ∈ ts, P.readableRec t = true ∧ t < P.types.size) → DataW.TrodAll enc P W 0 (fun _ => true) true ts vs ds ps → (∀ p ∈ ps, W.sameAt W' p) → (∀ p ∈ ps, sp p.block = true) →
    DataW.TrodAll enc P W' 0 sp true ts vs ds ps
  | [], [], [], _, _, h, _, _ => h
  | _ :: _, _ :: _, _ :: _, _, hT, ⟨p, q, h1, h2, e⟩, hs, hb =>
    ⟨p, q, Trod_stays hl (hT _ (List.mem_cons.2 (Or.inl rfl))).1 (hT _ (List.mem_cons.2 (Or.inl rfl))).2 h1 (fun x hx => hs x (by rw [e]; exact List.mem_append_left _ hx)) (fun x hx => hb x (by rw [e]; exact List.mem_append_left _ hx)),
      trodAll_stays hl (fun t ht => hT t (List.mem_cons.2 (Or.inr ht))) h2 (fun x hx => hs x (by rw [e]; exact List.mem_append_right _ hx)) (fun x hx => hb x (by rw [e]; exact List.mem_append_right _ hx)), e⟩

/-- What a law that only reads leaves: below the old heap nothing has turned, the answer is true: so the row's word. -/
theorem law_post {f : Func} {s : ChangeSpec} {W W' : World} {args : Array Value} {ds gs : List (DataW H)} {before : List MemPlace} {tb : TypeId}
    (hl : laidOutB P = true) (hr : (f.params.toList.all fun t => P.readableRec t && decide (t < P.types.size)) = true) (hv : s.vars = []) (hres : f.resultTypes = #[tb]) (htb : P.underlying tb = some .bool)
    (hW : DataW.Whole enc P f.params.toList s.vars false W args.toList ds gs before)
    (hfn : gs = [] → (s.fn H (ds ++ gs)).results = [.lit (.bool true)] ∧ (s.fn H (ds ++ gs)).args = ds ∧ (s.fn H (ds ++ gs)).vars = [])
    (hb : Below W.heap.size W W') : s.post enc P f false true false false W args (.bool true) W' := by
  have hlt := hW.lt
  have hW' := hW
  obtain ⟨p, q, hA, hV, rfl, hfz, hnd⟩ := hW
  rw [hv] at hV
  obtain ⟨rfl, rfl⟩ := trodVars_none hV
  obtain ⟨e1, e2, e3⟩ := hfn rfl
  refine ⟨ds, [], p ++ [], [], p, [], hW', ?_, ?_, ?_, hb.frame _, fun h => by cases h⟩
  · rw [e1, hres]
    exact ⟨[], [], shut_bool htb _, rfl, rfl⟩
  · rw [e2]
    refine trodAll_stays hl (fun t ht => ?_) hA (fun x hx => hb.same (hlt x (by simpa using hx))) (fun x hx => by simpa using hlt x (by simpa using hx))
    have := List.all_eq_true.1 hr t ht
    simp only [Bool.and_eq_true, decide_eq_true_eq] at this
    exact this
  · rw [e3, hv]; rfl
end

/-- A value that is a map with string keys in W and in whatever world has grown out of W: its length, and which keys are there. -/
def IsMap (P : Program) (ts : List TypeId) (W : World) (m : Value) (n : Nat) (has : ByteArray → Bool) : Prop :=
  n ≤ maxLen ∧ ∀ w, Below W.heap.size W w → ∀ t ∈ ts,
    (∀ ty, (Builtin.len_ #[t] ty #[m]).run P w = .ok (.int .i64 n) w) ∧
    ∀ s : ByteArray, s.size ≤ maxLen → ∃ z, (Instr.lookup t m (.string s) true).run P w = .ok (.tuple #[z, .bool (has s)]) w


/-- Is the key there? -/
def hasKey (es : Array MapEntry) (s : ByteArray) : Bool := es.toList.any fun x => match x.key with | .string s' => decide (s' = s) | _ => false

/-- A map that came in is such a value. -/
theorem isMap_of {H : Type} {enc : TypeId × Value → H} {P : Program} {t k e : TypeId} {ts : List TypeId} {W : World} {v : Value} {d : DataW H} {ps : List MemPlace} {z : Value}
    (hk : P.underlying k = some .string) (ht : P.underlying t = some (.map k e)) (hts : ∀ t' ∈ ts, P.underlying t' = some (.map k e)) (hz : ∀ w : World, (zeroValue e).run P w = .ok z w)
    (hv : ∃ o, v = .map o) (h : DataW.Trod enc P W 0 (fun _ => true) true t v d ps) (hlt : ∀ p ∈ ps, p.block < W.heap.size) : ∃ n has, IsMap P ts W v n has := by
  have law : KeyLaw P k := string_law hk
  obtain ⟨a0, rfl⟩ := hv
  obtain ⟨fuel, hf⟩ := h
  have mo : ∀ t' ∈ ts, P.underlying t' = some (.map (P.mapKeyOf t') (P.mapElemOf t')) := fun t' h' => by simp [Program.mapKeyOf, Program.mapElemOf, hts t' h']
  rcases open_map ht hf with ⟨hcs, hx⟩ | ⟨bm, es, clock, m, rfl, hcs, hb, _, F, hx⟩
  · simp [Value.cells] at hcs
    subst hcs
    refine ⟨0, fun _ => false, Nat.zero_le _, fun w _ t' h' => ⟨fun ty => ?_, fun s hs => ⟨z, ?_⟩⟩⟩
    · rw [run_len_nilMap w t' ty (mo t' h')]; rfl
    · have hkey := keyOf_string_mk hk hs
      rcases law.find w hkey [] (by simp) with ⟨f1, _⟩ | ⟨j, e0, _, f2, _⟩
      · simp [Instr.lookup, run_underlying (hts t' h'), law.check w _ hkey, f1, hz, Result.andThen]
      · simp at f2
  · simp [Value.cells] at hcs
    subst hcs
    simp only [Prod.mk.injEq] at hx
    obtain ⟨rfl, rfl⟩ := hx
    have hbm : bm < W.heap.size := hlt (.map bm) (by simp)
    refine ⟨es.size, hasKey es, F.size, fun w hw t' h' => ⟨fun ty => ?_, fun s hs => ?_⟩⟩
    · have hb' : w.heap[bm]? = some (.map es clock) := by rw [hw.block bm hbm]; exact hb
      rw [run_len_map w t' ty bm es clock (mo t' h') hb']; rfl
    · have hb' : w.heap[bm]? = some (.map es clock) := by rw [hw.block bm hbm]; exact hb
      have hkey := keyOf_string_mk hk hs
      rcases law.find w hkey es.toList F.keys with ⟨h1, h2⟩ | ⟨j, e0, h1, h2, h3⟩
      · have hn : hasKey es s = false := by
          unfold hasKey
          rw [List.any_eq_false]
          intro x hx hc
          have := h2 x hx
          split at hc
          · rename_i s' e'
            exact this (by rw [e']; simp at hc; rw [hc])
          · cases hc
        refine ⟨z, ?_⟩
        rw [hn]
        simp [Instr.lookup, run_underlying (hts t' h'), MapKept.run_getObj_map hb', law.check w _ hkey, h1, hz, Result.andThen]
      · have hm0 : e0 ∈ es.toList := List.mem_of_getElem? h2
        have hy : hasKey es s = true := by
          unfold hasKey
          rw [List.any_eq_true]
          exact ⟨e0, hm0, by rw [h3]; simp⟩
        refine ⟨e0.val, ?_⟩
        rw [hy]
        simp [Instr.lookup, run_underlying (hts t' h'), MapKept.run_getObj_map hb', law.check w _ hkey, h1, Result.andThen]

/-- A slice of strings in W: its value 'v', its strings 'S 0', .., 'S (n - 1)'. -/
def IsStrs (W : World) (v : Value) (n : Nat) (S : Nat → ByteArray) : Prop :=
  ∃ (o : Option Addr) (cap : Nat), v = .slice o n cap ∧ n ≤ cap ∧ cap ≤ maxLen ∧ ((o = none ∧ n = 0 ∧ cap = 0) ∨ ∃ b off, o = some ⟨b, off, none⟩ ∧ (n = 0 ∨ b < W.heap.size) ∧ ∀ i, i < n → W.cell? ⟨b, off + i, none⟩ = some (.string (S i)) ∧ (S i).size ≤ maxLen)

theorem addr_add (b off i : Nat) : (⟨b, off, none⟩ : Addr).add i = ⟨b, off + i, none⟩ := by
  unfold Addr.add
  split
  · rename_i h; subst h; rfl
  · rfl

theorem spot_of {P : Program} {t e : TypeId} {W : World} {r : Reach} {base : Nat} {o : Option Addr} {n cap : Nat} (ht : P.underlying t = some (.slice e)) (hok : Value.okWide P W r base t (.slice o n cap)) : ∀ a, o = some a → a.spot = none := by
  rintro a rfl
  simp only [Value.okWide, ht, Cell.okWide, Cell.ok, World.has] at hok
  exact hok.2.2.2.1

theorem isStrs_of {H : Type} {enc : TypeId × Value → H} {P : Program} {t e : TypeId} {W : World} {v : Value} {d : DataW H} {ps : List MemPlace}
    (ht : P.underlying t = some (.slice e)) (he : P.underlying e = some .string) (hc : P.cellsOf e = 1)
    {base : Nat} (hok : Value.okWide P W .any base t v) (h : DataW.Trod enc P W 0 (fun _ => true) true t v d ps) (hlt : ∀ p ∈ ps, p.block < W.heap.size) : ∃ n S, IsStrs W v n S := by
  obtain ⟨o, n, cap, rfl⟩ := okWide_slice ht hok
  have hw := spot_of ht hok
  obtain ⟨fuel, hf⟩ := h
  rcases open_strings ht he hc hf with ⟨hcs, hx⟩ | ⟨a, len', cap', ss, hcs, _, hl, hm, hz, hx, hcell, hsz⟩
  · simp [Value.cells] at hcs
    obtain ⟨rfl, rfl, rfl⟩ := hcs
    exact ⟨0, fun _ => ByteArray.empty, none, 0, rfl, Nat.le_refl _, Nat.zero_le _, Or.inl ⟨rfl, rfl, rfl⟩⟩
  · simp [Value.cells] at hcs
    obtain ⟨rfl, rfl, rfl⟩ := hcs
    obtain ⟨b, off, wn⟩ := a
    obtain rfl : wn = none := hw _ rfl
    simp only [Prod.mk.injEq] at hx
    obtain ⟨rfl, rfl⟩ := hx
    simp only [if_true] at hz
    refine ⟨n, fun i => ss.getD i ByteArray.empty, _, cap, rfl, hl, hm, Or.inr ⟨b, off, rfl, ?_, fun i hi => ⟨by rw [← addr_add]; exact hcell i (by omega), ?_⟩⟩⟩
    · by_cases h0 : n = 0
      · exact Or.inl h0
      · refine Or.inr (hlt (.cell b off) ?_)
        exact MemPlace.mem_row.2 ⟨0, by omega, rfl⟩
    · have : i < ss.length := by omega
      show (ss.getD i ByteArray.empty).size ≤ maxLen
      rw [List.getD_eq_getElem?_getD, List.getElem?_eq_getElem this]
      exact hsz _ (List.getElem_mem this)

end Go.Proofs.Qxb6612635a.Kit
