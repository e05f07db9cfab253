/-
  Memory: what a step may turn (Mod), blocks of cells (Blk), maps with string keys (SM).
-/
import Derived.Test.Qxb6609223aRows
import Derived.Test.Qxb6609223aKit
import Derived.Laws.IdiomMaps
import Derived.Deep.QuietTactic
import Derived.BigQuiet
import Derived.Deep.RegionWith
namespace Go.Proofs.Qxb6609223a
open Go.RowKit Go.WideMaps Go.ChangeMaps
open Go.Proofs.Qxb6609223a.Kit

/-- From w to w' nothing that was there has turned but blocks of F; the streams are as they were. -/
structure Mod (F : Nat → Prop) (w w' : World) : Prop where
  os : w'.os = w.os
  tape : w'.tape = w.tape
  output : w'.output = w.output
  size : w.heap.size ≤ w'.heap.size
  block : ∀ k, k < w.heap.size → ¬ F k → w'.heap[k]? = w.heap[k]?

theorem Mod.refl (F : Nat → Prop) (w : World) : Mod F w w := ⟨rfl, rfl, rfl, Nat.le_refl _, fun _ _ _ => rfl⟩

/-- Two steps; the second may also turn what the first has laid. -/
theorem Mod.trans {F G : Nat → Prop} {a b c : World} (h : Mod F a b) (k : Mod G b c) (hG : ∀ i, i < a.heap.size → G i → F i) : Mod F a c :=
  ⟨k.os.trans h.os, k.tape.trans h.tape, k.output.trans h.output, Nat.le_trans h.size k.size, fun i hi hn => (k.block i (Nat.lt_of_lt_of_le hi h.size) (fun g => hn (hG i hi g))).trans (h.block i hi hn)⟩

theorem Mod.mono {F G : Nat → Prop} {a b : World} (h : Mod F a b) (hG : ∀ i, i < a.heap.size → F i → G i) : Mod G a b :=
  ⟨h.os, h.tape, h.output, h.size, fun i hi hn => h.block i hi (fun g => hn (hG i hi g))⟩

theorem Mod.drewN (F : Nat → Prop) (w : World) (n : Nat) : Mod F w (w.drewN n) := ⟨rfl, rfl, rfl, Nat.le_refl _, fun _ _ _ => rfl⟩

theorem Mod.alloc (F : Nat → Prop) (w : World) (o : Obj) : Mod F w (w.alloc o) := ⟨rfl, rfl, rfl, by simp, fun k hk _ => Below.heap_alloc w o k hk⟩

theorem Mod.setCell {F : Nat → Prop} (w : World) (a : Addr) (v : Value) (h : F a.block) : Mod F w (w.setCell a v) :=
  ⟨rfl, rfl, rfl, by simp [World.setCell], fun k _ hn => Below.heap_setCell _ _ _ _ (fun e => hn (e ▸ h))⟩

theorem Mod.below {B : Nat} {w w' : World} (h : Mod (fun b => B ≤ b) w w') (hB : B ≤ w.heap.size) : Below B w w' :=
  ⟨h.os, h.tape, h.output, h.size, fun k hk => h.block k (by omega) (by omega)⟩

theorem Mod.of_below {B : Nat} {w w' : World} (h : Below B w w') : Mod (fun b => B ≤ b) w w' := ⟨h.os, h.tape, h.output, h.size, fun k _ hn => h.block k (by omega)⟩

theorem Mod.cell {F : Nat → Prop} {w w' : World} (h : Mod F w w') {b o : Nat} (hb : b < w.heap.size) (hn : ¬ F b) : w'.cell? ⟨b, o, none⟩ = w.cell? ⟨b, o, none⟩ :=
  World.cell?_of_block (a := ⟨b, o, none⟩) (h.block b hb hn)

theorem Mod.frozen {F : Nat → Prop} {w w' : World} (h : Mod F w w') {b o : Nat} (hb : b < w.heap.size) (hn : ¬ F b) : w'.frozen? ⟨b, o, none⟩ = w.frozen? ⟨b, o, none⟩ :=
  World.frozen?_of_block (a := ⟨b, o, none⟩) (h.block b hb hn)

/-- A block of n cells of type t, none of them frozen. -/
def Blk (w : World) (b : Nat) (t : TypeId) (n : Nat) : Prop := ∃ cur, w.heap[b]? = some (.cells cur t (0, 0)) ∧ cur.size = n

theorem Blk.lt {w : World} {b n : Nat} {t : TypeId} (h : Blk w b t n) : b < w.heap.size := by
  obtain ⟨cur, h, _⟩ := h
  exact (Array.getElem?_eq_some_iff.1 h).1

theorem Blk.frozen {w : World} {b n : Nat} {t : TypeId} (h : Blk w b t n) (o : Nat) : w.frozen? ⟨b, o, none⟩ = false := by
  obtain ⟨cur, h, _⟩ := h
  exact frozen_of_row w b o cur t h

theorem Blk.some {w : World} {b n : Nat} {t : TypeId} (h : Blk w b t n) {o : Nat} (ho : o < n) : ∃ v, w.cell? ⟨b, o, none⟩ = some v := by
  obtain ⟨cur, h, hs⟩ := h
  exact ⟨cur[o]'(by omega), by rw [cell_of_row w b o cur t (0, 0) h]; exact Array.getElem?_eq_getElem _⟩

theorem Blk.setCell {w : World} {b n : Nat} {t : TypeId} (h : Blk w b t n) (a : Addr) (v : Value) : Blk (w.setCell a v) b t n := by
  obtain ⟨cur, h, hs⟩ := h
  by_cases e : b = a.block
  · subst e
    simp only [Blk, World.setCell, Array.getElem?_modify]
    simp only [if_true, h, Option.map_some]
    by_cases hsp : a.spot.isSome = true
    · exact ⟨cur, by simp [hsp], hs⟩
    · exact ⟨cur.setIfInBounds a.off v, by simp [hsp], by simpa using hs⟩
  · exact ⟨cur, by rw [Below.heap_setCell _ _ _ _ e]; exact h, hs⟩

theorem Blk.kept {w w' : World} {b n : Nat} {t : TypeId} (h : Blk w b t n) (hb : w'.heap[b]? = w.heap[b]?) : Blk w' b t n := by
  obtain ⟨cur, h, hs⟩ := h
  exact ⟨cur, by rw [hb]; exact h, hs⟩

theorem Blk.new (w : World) (cur : Array Value) (t : TypeId) : Blk (w.alloc (.cells cur t)) w.heap.size t cur.size := ⟨cur, heap_alloc_new w _, rfl⟩

/-- A cell behind a store elsewhere. -/
theorem cell_set_ne (w : World) (a : Addr) (v : Value) {b o : Nat} (h : ¬ (b = a.block ∧ o = a.off)) : (w.setCell a v).cell? ⟨b, o, none⟩ = w.cell? ⟨b, o, none⟩ :=
  World.cell?_setCell_other w a ⟨b, o, none⟩ v (fun e => h (by subst e; exact ⟨rfl, rfl⟩))

theorem cell_set_same (w : World) {b o : Nat} (v : Value) {u : Value} (h : w.cell? ⟨b, o, none⟩ = some u) : (w.setCell ⟨b, o, none⟩ v).cell? ⟨b, o, none⟩ = some v :=
  World.cell?_setCell_same w ⟨b, o, none⟩ v h

/-! ### A map with string keys, as a function -/
/-- Block b is a map; f says what each string leads to. -/
def SM (w : World) (b : Nat) (f : ByteArray → Option Value) : Prop :=
  ∃ es clock, w.heap[b]? = some (.map es clock) ∧ (∀ x ∈ es.toList, ∃ s, x.key = .string s ∧ s.size ≤ maxLen ∧ f s = some x.val) ∧ (∀ s, f s ≠ none → ∃ x ∈ es.toList, x.key = .string s) ∧ es.toList.Pairwise (fun x y => x.key ≠ y.key)

theorem SM.lt {w : World} {b : Nat} {f : ByteArray → Option Value} (h : SM w b f) : b < w.heap.size := by
  obtain ⟨es, clock, h, _⟩ := h
  exact (Array.getElem?_eq_some_iff.1 h).1

theorem SM.kept {w w' : World} {b : Nat} {f : ByteArray → Option Value} (h : SM w b f) (hb : w'.heap[b]? = w.heap[b]?) : SM w' b f := by
  obtain ⟨es, clock, h, r⟩ := h
  exact ⟨es, clock, by rw [hb]; exact h, r⟩

theorem SM.new (w : World) : SM (w.alloc (.map #[] 0)) w.heap.size (fun _ => none) :=
  ⟨#[], 0, (MapKept.heap_alloc w _).1, by simp, by simp, by simp⟩

theorem SM.look {P : Program} {k e t : TypeId} {z : Value} (hk : P.underlying k = some .string) (ht : P.underlying t = some (.map k e)) {w : World} {b : Nat} {f : ByteArray → Option Value} (h : SM w b f) (hz : (zeroValue e).run P w = .ok z w) {s : ByteArray} (hs : s.size ≤ maxLen) :
    (Instr.lookup t (.map (some b)) (.string s) true).run P w = .ok (.tuple #[(f s).getD z, .bool (f s).isSome]) w ∧ (Instr.lookup t (.map (some b)) (.string s) false).run P w = .ok ((f s).getD z) w := by
  have law : KeyLaw P k := string_law hk
  obtain ⟨es, clock, hb, h1, h2, h3⟩ := h
  have hkey := keyOf_string_mk hk hs
  rcases law.find w hkey es.toList (fun x hx => by obtain ⟨s', e1, e2, _⟩ := h1 x hx; rw [e1]; exact ⟨_, keyOf_string_mk hk e2⟩) with ⟨g1, g2⟩ | ⟨j, e0, g1, g2, g3⟩
  · have hf : f s = none := by
      cases hf : f s with
      | none => rfl
      | some v =>
        obtain ⟨x, hx, hxk⟩ := h2 s (by rw [hf]; simp)
        exact absurd hxk (g2 x hx)
    rw [hf]
    exact ⟨by simp [Instr.lookup, run_underlying ht, MapKept.run_getObj_map hb, law.check w _ hkey, g1, hz, Result.andThen], by simp [Instr.lookup, run_underlying ht, MapKept.run_getObj_map hb, law.check w _ hkey, g1, hz, Result.andThen]⟩
  · have hm0 : e0 ∈ es.toList := List.mem_of_getElem? g2
    obtain ⟨s', e1, _, hfs⟩ := h1 e0 hm0
    rw [g3] at e1
    simp only [Value.string.injEq] at e1
    subst e1
    rw [hfs]
    exact ⟨by simp [Instr.lookup, run_underlying ht, MapKept.run_getObj_map hb, law.check w _ hkey, g1, Result.andThen], by simp [Instr.lookup, run_underlying ht, MapKept.run_getObj_map hb, law.check w _ hkey, g1, Result.andThen]⟩

theorem nil_look {P : Program} {k e t : TypeId} {z : Value} (hk : P.underlying k = some .string) (ht : P.underlying t = some (.map k e)) {w : World} (hz : (zeroValue e).run P w = .ok z w) {s : ByteArray} (hs : s.size ≤ maxLen) :
    (Instr.lookup t (.map none) (.string s) true).run P w = .ok (.tuple #[z, .bool false]) w ∧ (Instr.lookup t (.map none) (.string s) false).run P w = .ok z w := by
  have law : KeyLaw P k := string_law hk
  have hkey := keyOf_string_mk hk hs
  rcases law.find w hkey [] (by simp) with ⟨f1, _⟩ | ⟨j, e0, _, f2, _⟩
  · exact ⟨by simp [Instr.lookup, run_underlying ht, law.check w _ hkey, f1, hz, Result.andThen], by simp [Instr.lookup, run_underlying ht, law.check w _ hkey, f1, hz, Result.andThen]⟩
  · simp at f2

theorem Mod.setBlock {F : Nat → Prop} {w : World} {b : Nat} {es : Array MapEntry} {clock : Nat} (hb : w.heap[b]? = some (.map es clock)) (o : Obj) (h : F b) : Mod F w (setBlock w b o) :=
  ⟨rfl, rfl, rfl, by simp [ChangeMaps.setBlock], fun k _ hn => heap_setBlock_other hb o (fun e => hn (e ▸ h))⟩

theorem pair_ne {es : List MapEntry} (h : es.Pairwise (fun x y => x.key ≠ y.key)) {i j : Nat} (hij : i ≠ j) {x y : MapEntry} (hx : es[i]? = some x) (hy : es[j]? = some y) : x.key ≠ y.key := by
  obtain ⟨hi, ei⟩ := List.getElem?_eq_some_iff.1 hx
  obtain ⟨hj, ej⟩ := List.getElem?_eq_some_iff.1 hy
  rw [List.pairwise_iff_getElem] at h
  rcases Nat.lt_or_gt_of_ne hij with hl | hl
  · have := h i j hi hj hl
    rw [ei, ej] at this
    exact this
  · have := h j i hj hi hl
    rw [ei, ej] at this
    exact Ne.symm this

/-- m[s] = v. -/
theorem SM.update {P : Program} {k e t : TypeId} (hk : P.underlying k = some .string) (ht : P.underlying t = some (.map k e)) {w : World} {b : Nat} {f : ByteArray → Option Value} (h : SM w b f) {s : ByteArray} (hs : s.size ≤ maxLen) (v : Value) :
    ∃ w', (Instr.mapUpdate t (.map (some b)) (.string s) v).run P w = .ok () w' ∧ SM w' b (fun s' => if s' = s then some v else f s') ∧ Mod (fun i => i = b) w w' := by
  have law : KeyLaw P k := string_law hk
  obtain ⟨es, clock, hb, h1, h2, h3⟩ := h
  have hkey := keyOf_string_mk hk hs
  rcases law.find w hkey es.toList (fun x hx => by obtain ⟨s', e1, e2, _⟩ := h1 x hx; rw [e1]; exact ⟨_, keyOf_string_mk hk e2⟩) with ⟨g1, g2⟩ | ⟨j, e0, g1, g2, g3⟩
  · refine ⟨setBlock w b (.map (es.push ⟨.string s, v, clock⟩) (clock + 1)), by simp [Instr.mapUpdate, run_underlying ht, MapKept.run_getObj_map hb, law.check w false hkey, g1, MapKept.run_setObj_map _ hb, Result.andThen, ChangeMaps.setBlock], ⟨_, _, heap_setBlock_same hb _, ?_, ?_, ?_⟩, Mod.setBlock hb _ rfl⟩
    · intro x hx
      simp only [Array.toList_push, List.mem_append, List.mem_singleton] at hx
      rcases hx with hx | rfl
      · obtain ⟨s', e1, e2, e3⟩ := h1 x hx
        refine ⟨s', e1, e2, ?_⟩
        have : s' ≠ s := fun e => g2 x hx (by rw [e1, e])
        simp [this, e3]
      · exact ⟨s, rfl, hs, by simp⟩
    · intro s' hs'
      by_cases e : s' = s
      · subst e
        exact ⟨⟨.string s', v, clock⟩, by simp, rfl⟩
      · simp only [e, if_false] at hs'
        obtain ⟨x, hx, hxk⟩ := h2 s' hs'
        exact ⟨x, by simp [hx], hxk⟩
    · rw [Array.toList_push, List.pairwise_append]
      exact ⟨h3, by simp, fun x hx y hy => by simp at hy; subst hy; exact g2 x hx⟩
  · have hj : es[j]? = some e0 := by simpa using g2
    refine ⟨setBlock w b (.map (es.modify j fun x => { x with key := .string s, val := v }) clock), ?_, ⟨_, _, heap_setBlock_same hb _, ?_, ?_, ?_⟩, Mod.setBlock hb _ rfl⟩
    · have hst := law.stays w hkey
      simp [Instr.mapUpdate, run_underlying ht, MapKept.run_getObj_map hb, law.check w false hkey, g1, hj, g3, hst, MapKept.run_setObj_map _ hb, Result.andThen, ChangeMaps.setBlock]
    · intro x hx
      rw [Array.toList_modify] at hx
      obtain ⟨i, hi⟩ := List.mem_iff_getElem?.1 hx
      rw [List.getElem?_modify] at hi
      by_cases e : j = i
      · subst e
        rw [g2] at hi
        simp at hi
        subst hi
        exact ⟨s, rfl, hs, by simp⟩
      · have hxm : es.toList[i]? = some x := by
          cases hq : es.toList[i]? with
          | none => rw [hq] at hi; simp at hi
          | some y => rw [hq] at hi; simp [e] at hi; rw [hi]
        obtain ⟨s', e1, e2, e3⟩ := h1 x (List.mem_of_getElem? hxm)
        refine ⟨s', e1, e2, ?_⟩
        have : s' ≠ s := fun e' => by
          subst e'
          exact pair_ne h3 e g2 hxm (g3.trans e1.symm)
        simp [this, e3]
    · intro s' hs'
      rw [Array.toList_modify]
      by_cases e : s' = s
      · subst e
        refine ⟨{ e0 with key := .string s', val := v }, List.mem_iff_getElem?.2 ⟨j, ?_⟩, rfl⟩
        rw [List.getElem?_modify, g2]
        simp
      · simp only [e, if_false] at hs'
        obtain ⟨x, hx, hxk⟩ := h2 s' hs'
        obtain ⟨i, hi⟩ := List.mem_iff_getElem?.1 hx
        have hne : j ≠ i := fun e' => by
          subst e'
          rw [g2] at hi
          cases hi
          rw [g3] at hxk
          exact e (by simpa using hxk.symm)
        refine ⟨x, List.mem_iff_getElem?.2 ⟨i, ?_⟩, hxk⟩
        rw [List.getElem?_modify, hi]
        simp [hne]
    · have hkeys : (es.modify j fun x => { x with key := .string s, val := v }).toList.map (·.key) = es.toList.map (·.key) := by
        rw [Array.toList_modify]
        apply List.ext_getElem?
        intro i
        rw [List.getElem?_map, List.getElem?_map, List.getElem?_modify]
        by_cases e : j = i
        · subst e
          rw [g2]
          simp [g3]
        · cases es.toList[i]? <;> simp [e]
      have hp : (es.toList.map (·.key)).Pairwise (· ≠ ·) := List.pairwise_map.2 h3
      rw [← hkeys] at hp
      exact List.pairwise_map.1 hp

/-- delete(m, s). -/
theorem SM.delete {P : Program} {k e t tk : TypeId} (hk : P.underlying k = some .string) (ht : P.underlying t = some (.map k e)) {w : World} {b : Nat} {f : ByteArray → Option Value} (h : SM w b f) {s : ByteArray} (hs : s.size ≤ maxLen) (ty : TypeId) :
    ∃ w', (Builtin.delete_ #[t, tk] ty #[.map (some b), .string s]).run P w = .ok (.tuple #[]) w' ∧ SM w' b (fun s' => if s' = s then none else f s') ∧ Mod (fun i => i = b) w w' := by
  have law : KeyLaw P k := string_law hk
  obtain ⟨es, clock, hb, h1, h2, h3⟩ := h
  have hkey := keyOf_string_mk hk hs
  rcases law.find w hkey es.toList (fun x hx => by obtain ⟨s', e1, e2, _⟩ := h1 x hx; rw [e1]; exact ⟨_, keyOf_string_mk hk e2⟩) with ⟨g1, g2⟩ | ⟨j, e0, g1, g2, g3⟩
  · refine ⟨setBlock w b (.map es clock), by simp [Builtin.delete_, run_underlying ht, MapKept.run_getObj_map hb, law.check w _ hkey, g1, MapKept.run_setObj_map _ hb, Result.andThen, ChangeMaps.setBlock], ⟨_, _, heap_setBlock_same hb _, ?_, ?_, h3⟩, Mod.setBlock hb _ rfl⟩
    · intro x hx
      obtain ⟨s', e1, e2, e3⟩ := h1 x hx
      refine ⟨s', e1, e2, ?_⟩
      have : s' ≠ s := fun e => g2 x hx (by rw [e1, e])
      simp [this, e3]
    · intro s' hs'
      by_cases e : s' = s
      · simp [e] at hs'
      · simp only [e, if_false] at hs'
        exact h2 s' hs'
  · refine ⟨setBlock w b (.map (es.eraseIdxIfInBounds j) clock), by simp [Builtin.delete_, run_underlying ht, MapKept.run_getObj_map hb, law.check w _ hkey, g1, MapKept.run_setObj_map _ hb, Result.andThen, ChangeMaps.setBlock], ⟨_, _, heap_setBlock_same hb _, ?_, ?_, ?_⟩, Mod.setBlock hb _ rfl⟩
    all_goals rw [Array.toList_eraseIdxIfInBounds]
    · intro x hx
      obtain ⟨i, hij, hi⟩ := List.mem_eraseIdx_iff_getElem?.1 hx
      obtain ⟨s', e1, e2, e3⟩ := h1 x (List.mem_of_getElem? hi)
      refine ⟨s', e1, e2, ?_⟩
      have : s' ≠ s := fun e' => by
        subst e'
        exact pair_ne h3 (Ne.symm hij) g2 hi (g3.trans e1.symm)
      simp [this, e3]
    · intro s' hs'
      by_cases e : s' = s
      · simp [e] at hs'
      · simp only [e, if_false] at hs'
        obtain ⟨x, hx, hxk⟩ := h2 s' hs'
        obtain ⟨i, hi⟩ := List.mem_iff_getElem?.1 hx
        refine ⟨x, List.mem_eraseIdx_iff_getElem?.2 ⟨i, fun e' => ?_, hi⟩, hxk⟩
        subst e'
        rw [g2] at hi
        cases hi
        rw [g3] at hxk
        exact e (by simpa using hxk.symm)
    · exact h3.sublist (List.eraseIdx_sublist _ _)

end Go.Proofs.Qxb6609223a
