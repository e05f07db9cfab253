/-
  A list of entries in memory (LL): what a push at its back and the removal of its one element do to it.
-/
import Derived.Test.Qxb6609223aRemove
namespace Go.Proofs.Qxb6609223a
open Go.RowKit
open Go.Proofs.Qxb6609223a.Kit

/-- An element of a list: its block, its transaction, its number. -/
structure Ent where
  blk : Nat
  txn : ByteArray
  seq : Nat

/-- What an element of mode k holds. -/
def entV (k : Nat) (e : Ent) : Value := .iface 77 (.agg #[.string e.txn, .int .u8 k, .int .u64 e.seq])

/-- The pointer to a node. -/
def np (x : Nat × Nat) : Value := .pointer (some ⟨x.1, x.2, none⟩)

/-- From the node x the next pointers lead through l to z. -/
def Nx (w : World) (x : Nat × Nat) : List Ent → Nat × Nat → Prop
  | [], z => w.cell? ⟨x.1, x.2, none⟩ = some (np z)
  | e :: l, z => w.cell? ⟨x.1, x.2, none⟩ = some (np (e.blk, 0)) ∧ Nx w (e.blk, 0) l z

/-- The last node. -/
def lastN (x : Nat × Nat) : List Ent → Nat × Nat
  | [] => x
  | e :: l => lastN (e.blk, 0) l

theorem lastN_cases (x : Nat × Nat) (l : List Ent) : (l = [] ∧ lastN x l = x) ∨ ∃ e ∈ l, lastN x l = (e.blk, 0) := by
  induction l generalizing x with
  | nil => exact Or.inl ⟨rfl, rfl⟩
  | cons e l ih =>
    right
    rcases ih (e.blk, 0) with ⟨rfl, h⟩ | ⟨e', he', h⟩
    · exact ⟨e, by simp, h⟩
    · exact ⟨e', by simp [he'], h⟩

theorem lastN_append (x : Nat × Nat) (l : List Ent) (e : Ent) : lastN x (l ++ [e]) = (e.blk, 0) := by
  induction l generalizing x with
  | nil => rfl
  | cons a l ih => exact ih (a.blk, 0)

/-- The list at (R, o) holds the entries l, all of mode k. -/
structure LL (w : World) (R o k : Nat) (l : List Ent) : Prop where
  each : ∀ e ∈ l, Blk w e.blk 67 4 ∧ e.blk ≠ R ∧ w.cell? ⟨e.blk, 2, none⟩ = some (np (R, o)) ∧ w.cell? ⟨e.blk, 3, none⟩ = some (entV k e)
  nodup : (l.map (·.blk)).Nodup
  len : w.cell? ⟨R, o + 4, none⟩ = some (.int .i64 l.length)
  shape : (l = [] ∧ w.cell? ⟨R, o, none⟩ = some (.pointer none)) ∨
    (Nx w (R, o) l (R, o) ∧ w.cell? ⟨R, o + 1, none⟩ = some (np (lastN (R, o) l)) ∧ ∀ e r, l = e :: r → w.cell? ⟨e.blk, 1, none⟩ = some (np (R, o)))

theorem Nx.congr {w w' : World} {x z : Nat × Nat} {l : List Ent} (h : Nx w x l z) (hx : w'.cell? ⟨x.1, x.2, none⟩ = w.cell? ⟨x.1, x.2, none⟩) (hl : ∀ e ∈ l, w'.cell? ⟨e.blk, 0, none⟩ = w.cell? ⟨e.blk, 0, none⟩) : Nx w' x l z := by
  induction l generalizing x with
  | nil => unfold Nx at *; rw [hx]; exact h
  | cons e l ih =>
    obtain ⟨h1, h2⟩ := h
    exact ⟨by rw [hx]; exact h1, ih h2 (hl e (by simp)) (fun e' he' => hl e' (by simp [he']))⟩

theorem LL.congr {w w' : World} {R o k : Nat} {l : List Ent} (h : LL w R o k l) (hR : ∀ j, (j = o ∨ j = o + 1 ∨ j = o + 4) → w'.cell? ⟨R, j, none⟩ = w.cell? ⟨R, j, none⟩) (hl : ∀ e ∈ l, w'.heap[e.blk]? = w.heap[e.blk]?) : LL w' R o k l := by
  have c : ∀ e ∈ l, ∀ j, w'.cell? ⟨e.blk, j, none⟩ = w.cell? ⟨e.blk, j, none⟩ := fun e he j => World.cell?_of_block (a := ⟨e.blk, j, none⟩) (hl e he)
  refine ⟨fun e he => ?_, h.nodup, by rw [hR _ (Or.inr (Or.inr rfl))]; exact h.len, ?_⟩
  · obtain ⟨a, b, c2, c3⟩ := h.each e he
    exact ⟨a.kept (hl e he), b, by rw [c e he]; exact c2, by rw [c e he]; exact c3⟩
  · rcases h.shape with ⟨h1, h2⟩ | ⟨h1, h2, h3⟩
    · exact Or.inl ⟨h1, by rw [hR _ (Or.inl rfl)]; exact h2⟩
    · exact Or.inr ⟨h1.congr (hR _ (Or.inl rfl)) (fun e he => c e he 0), by rw [hR _ (Or.inr (Or.inl rfl))]; exact h2, fun e r he => by rw [c e (by rw [he]; simp)]; exact h3 e r he⟩

/-! ### A push -/
section
variable {w : World} {R o a ao : Nat} {v : Value} {n : Int}

theorem pushed_size (w : World) (R o a ao : Nat) (v : Value) (n : Int) : (pushed w R o a ao v n).heap.size = w.heap.size + 1 := by simp [pushed, World.setCell]

theorem alloc_at {w : World} {n : Nat} (h : w.heap.size = n) (o : Obj) : (w.alloc o).heap[n]? = some o := by
  subst h
  exact heap_alloc_new w o

theorem pushed_new (w : World) (R o a ao : Nat) (v : Value) (n : Int) : (pushed w R o a ao v n).heap[w.heap.size]? = some (.cells #[.pointer (some ⟨R, o, none⟩), .pointer (some ⟨a, ao, none⟩), .pointer (some ⟨R, o, none⟩), v] 67) := by
  unfold pushed
  exact alloc_at (by simp [World.setCell]) _

theorem pushed_old (w : World) (R o a ao : Nat) (v : Value) (n : Int) {b j : Nat} (hb : b < w.heap.size) (h1 : ¬ (b = R ∧ j = o + 4)) (h2 : ¬ (b = R ∧ j = o + 1)) (h3 : ¬ (b = a ∧ j = ao)) :
    (pushed w R o a ao v n).cell? ⟨b, j, none⟩ = w.cell? ⟨b, j, none⟩ := by
  unfold pushed
  rw [World.cell?_of_block (a := ⟨b, j, none⟩) (Below.heap_alloc _ _ b (by simp [World.setCell]; exact hb))]
  rw [cell_set_ne _ ⟨R, o + 4, none⟩ _ h1, cell_set_ne _ ⟨R, o + 1, none⟩ _ h2, cell_set_ne _ ⟨a, ao, none⟩ _ h3]

theorem pushed_at (w : World) (R o a ao : Nat) (v : Value) (n : Int) (hR : Blk w R 75 34) (ho : o + 4 < 34) (ha : a < w.heap.size) {u : Value} (hu : w.cell? ⟨a, ao, none⟩ = some u) (h1 : ¬ (a = R ∧ ao = o + 4)) (h2 : ¬ (a = R ∧ ao = o + 1)) :
    (pushed w R o a ao v n).cell? ⟨a, ao, none⟩ = some (np (w.heap.size, 0)) ∧ (pushed w R o a ao v n).cell? ⟨R, o + 1, none⟩ = some (np (w.heap.size, 0)) ∧ (pushed w R o a ao v n).cell? ⟨R, o + 4, none⟩ = some (.int .i64 (n + 1)) := by
  have al : ∀ b j, b < w.heap.size → (pushed w R o a ao v n).cell? ⟨b, j, none⟩ = (((w.setCell ⟨a, ao, none⟩ (.pointer (some ⟨w.heap.size, 0, none⟩))).setCell ⟨R, o + 1, none⟩ (.pointer (some ⟨w.heap.size, 0, none⟩))).setCell ⟨R, o + 4, none⟩ (.int .i64 (n + 1))).cell? ⟨b, j, none⟩ := fun b j hb => by
    unfold pushed
    rw [World.cell?_of_block (a := ⟨b, j, none⟩) (Below.heap_alloc _ _ b (by simp [World.setCell]; exact hb))]
  obtain ⟨u1, k1⟩ := (hR.setCell ⟨a, ao, none⟩ (.pointer (some ⟨w.heap.size, 0, none⟩))).some (o := o + 1) (by omega)
  obtain ⟨u4, k4⟩ := ((hR.setCell ⟨a, ao, none⟩ (.pointer (some ⟨w.heap.size, 0, none⟩))).setCell ⟨R, o + 1, none⟩ (.pointer (some ⟨w.heap.size, 0, none⟩))).some (o := o + 4) (by omega)
  refine ⟨?_, ?_, ?_⟩
  · rw [al _ _ ha, cell_set_ne _ ⟨R, o + 4, none⟩ _ h1, cell_set_ne _ ⟨R, o + 1, none⟩ _ h2]
    exact cell_set_same _ _ hu
  · rw [al _ _ hR.lt, cell_set_ne _ ⟨R, o + 4, none⟩ _ (by simp)]
    exact cell_set_same _ _ k1
  · rw [al _ _ hR.lt]
    exact cell_set_same _ _ k4

theorem pushed_mod (w : World) (R o a ao : Nat) (v : Value) (n : Int) {F : Nat → Prop} (hR : F R) (ha : F a) : Mod F w (pushed w R o a ao v n) := by
  unfold pushed
  refine Mod.trans (F := F) (G := F) ?_ (Mod.alloc F _ _) (fun _ _ h => h)
  refine Mod.trans (F := F) (G := F) ?_ (Mod.setCell _ _ _ hR) (fun _ _ h => h)
  refine Mod.trans (F := F) (G := F) ?_ (Mod.setCell _ _ _ hR) (fun _ _ h => h)
  exact Mod.setCell _ _ _ ha

end

/-! ### The list behind a push -/
/-- The places of the nodes. -/
def nodes (l : List Ent) : List (Nat × Nat) := l.map fun e => (e.blk, 0)

theorem lastN_mem (x : Nat × Nat) (l : List Ent) : lastN x l ∈ x :: nodes l := by
  induction l generalizing x with
  | nil => simp [lastN]
  | cons e l ih => exact List.mem_cons_of_mem _ (ih (e.blk, 0))

theorem Nx.push {w w' : World} {x z : Nat × Nat} {l : List Ent} {e : Ent} (h : Nx w x l z) (nd : (x :: nodes l).Nodup) (hl : w'.cell? ⟨(lastN x l).1, (lastN x l).2, none⟩ = some (np (e.blk, 0)))
    (hk : ∀ y ∈ x :: nodes l, y ≠ lastN x l → w'.cell? ⟨y.1, y.2, none⟩ = w.cell? ⟨y.1, y.2, none⟩) (hz : w'.cell? ⟨e.blk, 0, none⟩ = some (np z)) : Nx w' x (l ++ [e]) z := by
  induction l generalizing x with
  | nil => exact ⟨hl, hz⟩
  | cons e' l ih =>
    obtain ⟨h1, h2⟩ := h
    have nd' := List.nodup_cons.1 nd
    refine ⟨?_, ih h2 nd'.2 hl (fun y hy hn => hk y (List.mem_cons_of_mem _ hy) hn)⟩
    show w'.cell? ⟨x.1, x.2, none⟩ = some (np (e'.blk, 0))
    rw [hk x (by simp) (fun he => nd'.1 (by
      have := lastN_mem (e'.blk, 0) l
      have e2 : lastN x (e' :: l) = lastN (e'.blk, 0) l := rfl
      rw [he, e2]
      exact this))]
    exact h1

theorem Nx.last {w : World} {x z : Nat × Nat} {l : List Ent} (h : Nx w x l z) : w.cell? ⟨(lastN x l).1, (lastN x l).2, none⟩ = some (np z) := by
  induction l generalizing x with
  | nil => exact h
  | cons e l ih => exact ih h.2

theorem nodes_nodup {R o : Nat} {l : List Ent} (nd : (l.map (·.blk)).Nodup) (hR : ∀ e ∈ l, e.blk ≠ R) : ((R, o) :: nodes l).Nodup := by
  refine List.nodup_cons.2 ⟨fun h => ?_, ?_⟩
  · obtain ⟨e, he, h⟩ := List.mem_map.1 h
    simp only [Prod.mk.injEq] at h
    exact hR e he h.1
  · have : (nodes l).map Prod.fst = l.map (·.blk) := by simp [nodes]
    exact List.Pairwise.of_map (S := (· ≠ ·)) Prod.fst (fun a b h e => h (by rw [e])) (by rw [this]; exact nd)

/-- A push on a list that is ready. -/
theorem LL.pushed {w : World} {R o k : Nat} {l : List Ent} (hB : Blk w R 75 34) (ho : o + 4 < 34) (h : LL w R o k l)
    (hs : Nx w (R, o) l (R, o) ∧ w.cell? ⟨R, o + 1, none⟩ = some (np (lastN (R, o) l)) ∧ ∀ e r, l = e :: r → w.cell? ⟨e.blk, 1, none⟩ = some (np (R, o))) (t : ByteArray) (q : Nat) :
    LL (pushed w R o (lastN (R, o) l).1 (lastN (R, o) l).2 (entV k ⟨w.heap.size, t, q⟩) l.length) R o k (l ++ [⟨w.heap.size, t, q⟩]) := by
  have hlt : ∀ e ∈ l, e.blk < w.heap.size := fun e he => (h.each e he).1.lt
  have hne : ∀ e ∈ l, e.blk ≠ R := fun e he => (h.each e he).2.1
  have hRlt := hB.lt
  obtain ⟨n1, n2, n3⟩ := hs
  have la : (lastN (R, o) l).1 < w.heap.size ∧ ¬ ((lastN (R, o) l).1 = R ∧ (lastN (R, o) l).2 = o + 4) ∧ ¬ ((lastN (R, o) l).1 = R ∧ (lastN (R, o) l).2 = o + 1) := by
    rcases lastN_cases (R, o) l with ⟨_, e⟩ | ⟨e, he, e2⟩
    · rw [e]; simp only; omega
    · rw [e2]; exact ⟨hlt e he, fun c => hne e he c.1, fun c => hne e he c.1⟩
  obtain ⟨c1, c2, c3⟩ := pushed_at w R o (lastN (R, o) l).1 (lastN (R, o) l).2 (entV k ⟨w.heap.size, t, q⟩) l.length hB ho la.1 n1.last la.2.1 la.2.2
  have cn := pushed_new w R o (lastN (R, o) l).1 (lastN (R, o) l).2 (entV k ⟨w.heap.size, t, q⟩) l.length
  have old : ∀ e ∈ l, ∀ j, j ≠ 0 → (Qxb6609223a.pushed w R o (lastN (R, o) l).1 (lastN (R, o) l).2 (entV k ⟨w.heap.size, t, q⟩) l.length).cell? ⟨e.blk, j, none⟩ = w.cell? ⟨e.blk, j, none⟩ := fun e he j hj => by
    refine pushed_old _ _ _ _ _ _ _ (hlt e he) (fun c => hne e he c.1) (fun c => hne e he c.1) (fun c => ?_)
    rcases lastN_cases (R, o) l with ⟨_, e1⟩ | ⟨e', he', e2⟩
    · rw [e1] at c; exact hne e he c.1
    · rw [e2] at c; exact hj c.2
  have blk : ∀ e ∈ l, Blk (Qxb6609223a.pushed w R o (lastN (R, o) l).1 (lastN (R, o) l).2 (entV k ⟨w.heap.size, t, q⟩) l.length) e.blk 67 4 := fun e he => by
    have b := (((h.each e he).1.setCell ⟨(lastN (R, o) l).1, (lastN (R, o) l).2, none⟩ (.pointer (some ⟨w.heap.size, 0, none⟩))).setCell ⟨R, o + 1, none⟩ (.pointer (some ⟨w.heap.size, 0, none⟩))).setCell ⟨R, o + 4, none⟩ (.int .i64 ((l.length : Int) + 1))
    exact b.kept (Below.heap_alloc _ _ _ b.lt)
  generalize hw : Qxb6609223a.pushed w R o (lastN (R, o) l).1 (lastN (R, o) l).2 (entV k ⟨w.heap.size, t, q⟩) l.length = w' at *
  have cnw : ∀ j v, (#[.pointer (some ⟨R, o, none⟩), .pointer (some ⟨(lastN (R, o) l).1, (lastN (R, o) l).2, none⟩), .pointer (some ⟨R, o, none⟩), entV k ⟨w.heap.size, t, q⟩] : Array Value)[j]? = some v → w'.cell? ⟨w.heap.size, j, none⟩ = some v := fun j v hj => by
    rw [cell_of_row w' w.heap.size j _ 67 (0, 0) cn]
    exact hj
  refine ⟨?_, ?_, ?_, Or.inr ⟨?_, ?_, ?_⟩⟩
  · intro e he
    rcases List.mem_append.1 he with he | he
    · exact ⟨blk e he, hne e he, by rw [old e he 2 (by omega)]; exact (h.each e he).2.2.1, by rw [old e he 3 (by omega)]; exact (h.each e he).2.2.2⟩
    · simp only [List.mem_singleton] at he
      subst he
      exact ⟨⟨_, cn, rfl⟩, by simp only; omega, cnw 2 _ rfl, cnw 3 _ rfl⟩
  · rw [List.map_append, List.map_singleton]
    refine List.nodup_append.2 ⟨h.nodup, by simp, fun a ha b hb => ?_⟩
    simp only [List.mem_singleton] at hb
    obtain ⟨e, he, rfl⟩ := List.mem_map.1 ha
    have := hlt e he
    omega
  · rw [c3]
    simp
  · refine n1.push (nodes_nodup h.nodup hne) c1 (fun y hy hn => ?_) (cnw 0 _ rfl)
    rw [← hw]
    rcases List.mem_cons.1 hy with rfl | hy
    · exact pushed_old _ _ _ _ _ _ _ hRlt (by simp) (by simp) (fun c => hn (Prod.ext c.1 c.2))
    · obtain ⟨e, he, rfl⟩ := List.mem_map.1 hy
      exact pushed_old _ _ _ _ _ _ _ (hlt e he) (fun c => hne e he c.1) (fun c => hne e he c.1) (fun c => hn (Prod.ext c.1 c.2))
  · rw [lastN_append]
    exact c2
  · intro e r he
    cases l with
    | nil =>
      simp only [List.nil_append, List.cons.injEq] at he
      obtain ⟨rfl, _⟩ := he
      exact cnw 1 _ rfl
    | cons e0 l0 =>
      simp only [List.cons_append, List.cons.injEq] at he
      obtain ⟨rfl, _⟩ := he
      rw [old e0 (by simp) 1 (by omega)]
      exact n3 e0 l0 rfl

/-- PushBack. -/
theorem push_LL (R o k : Nat) (l : List Ent) (t : ByteArray) (q : Nat) (w : World) (hB : Blk w R 75 34) (ho : o + 4 < 34) (h : LL w R o k l) (hn : l.length ≤ 1000000000) :
    Calls Try.prog 49 #[.pointer (some ⟨R, o, none⟩), entV k ⟨w.heap.size, t, q⟩] w fun r w' => r = .returned (.pointer (some ⟨w.heap.size, 0, none⟩)) ∧ LL w' R o k (l ++ [⟨w.heap.size, t, q⟩]) ∧ Blk w' R 75 34 ∧
      w'.heap.size = w.heap.size + 1 ∧ Mod (fun b => b = R ∨ ∃ e ∈ l, e.blk = b) w w' ∧ ∀ j, ¬ (o ≤ j ∧ j ≤ o + 4) → w'.cell? ⟨R, j, none⟩ = w.cell? ⟨R, j, none⟩ := by
  have fin : ∀ (u : World), Blk u R 75 34 → LL u R o k l → u.heap.size = w.heap.size → Mod (fun b => b = R ∨ ∃ e ∈ l, e.blk = b) w u → (∀ j, ¬ (o ≤ j ∧ j ≤ o + 4) → u.cell? ⟨R, j, none⟩ = w.cell? ⟨R, j, none⟩) →
      (Nx u (R, o) l (R, o) ∧ u.cell? ⟨R, o + 1, none⟩ = some (np (lastN (R, o) l)) ∧ ∀ e r, l = e :: r → u.cell? ⟨e.blk, 1, none⟩ = some (np (R, o))) →
      LL (pushed u R o (lastN (R, o) l).1 (lastN (R, o) l).2 (entV k ⟨w.heap.size, t, q⟩) l.length) R o k (l ++ [⟨w.heap.size, t, q⟩]) ∧ Blk (pushed u R o (lastN (R, o) l).1 (lastN (R, o) l).2 (entV k ⟨w.heap.size, t, q⟩) l.length) R 75 34 ∧
      (pushed u R o (lastN (R, o) l).1 (lastN (R, o) l).2 (entV k ⟨w.heap.size, t, q⟩) l.length).heap.size = w.heap.size + 1 ∧ Mod (fun b => b = R ∨ ∃ e ∈ l, e.blk = b) w (pushed u R o (lastN (R, o) l).1 (lastN (R, o) l).2 (entV k ⟨w.heap.size, t, q⟩) l.length) ∧
      ∀ j, ¬ (o ≤ j ∧ j ≤ o + 4) → (pushed u R o (lastN (R, o) l).1 (lastN (R, o) l).2 (entV k ⟨w.heap.size, t, q⟩) l.length).cell? ⟨R, j, none⟩ = w.cell? ⟨R, j, none⟩ := by
    intro u hBu hLu hsz hM hc hs
    have p := hLu.pushed hBu ho hs t q
    rw [hsz] at p
    refine ⟨p, ?_, by rw [pushed_size, hsz], ?_, ?_⟩
    · have b := ((hBu.setCell ⟨(lastN (R, o) l).1, (lastN (R, o) l).2, none⟩ (.pointer (some ⟨u.heap.size, 0, none⟩))).setCell ⟨R, o + 1, none⟩ (.pointer (some ⟨u.heap.size, 0, none⟩))).setCell ⟨R, o + 4, none⟩ (.int .i64 ((l.length : Int) + 1))
      exact b.kept (Below.heap_alloc _ _ _ b.lt)
    · refine Mod.trans hM (pushed_mod (F := fun b => b = R ∨ ∃ e ∈ l, e.blk = b) _ _ _ _ _ _ _ (Or.inl rfl) ?_) (fun _ _ x => x)
      rcases lastN_cases (R, o) l with ⟨_, e1⟩ | ⟨e', he', e2⟩
      · rw [e1]; exact Or.inl rfl
      · rw [e2]; exact Or.inr ⟨e', he', rfl⟩
    · intro j hj
      rw [← hc j hj]
      refine pushed_old _ _ _ _ _ _ _ hBu.lt (by omega) (by omega) (fun c => ?_)
      rcases lastN_cases (R, o) l with ⟨_, e1⟩ | ⟨e', he', e2⟩
      · rw [e1] at c; simp only at c; omega
      · rw [e2] at c; exact (hLu.each e' he').2.1 c.1.symm
  rcases h.shape with ⟨rfl, h0⟩ | hs
  · obtain ⟨b, c0, c1, c4⟩ := inited_facts hB ho
    refine (push_first R o 77 _ w hB ho h0).mono ?_
    rintro r w' ⟨rfl, rfl⟩
    refine ⟨rfl, ?_⟩
    refine fin (inited w R o) b ⟨by simp, by simp, c4, Or.inr ⟨c0, c1, by simp⟩⟩ (by simp [inited, World.setCell]) ?_ ?_ ⟨c0, c1, by simp⟩
    · unfold inited
      refine Mod.trans (F := fun b => b = R ∨ ∃ e ∈ ([] : List Ent), e.blk = b) (G := fun b => b = R ∨ ∃ e ∈ ([] : List Ent), e.blk = b) ?_ (Mod.setCell _ _ _ (Or.inl rfl)) (fun _ _ h => h)
      refine Mod.trans (F := fun b => b = R ∨ ∃ e ∈ ([] : List Ent), e.blk = b) (G := fun b => b = R ∨ ∃ e ∈ ([] : List Ent), e.blk = b) ?_ (Mod.setCell _ _ _ (Or.inl rfl)) (fun _ _ h => h)
      exact Mod.setCell _ _ _ (Or.inl rfl)
    · intro j hj
      unfold inited
      rw [cell_set_ne _ ⟨R, o + 4, none⟩ _ (by simp only; omega), cell_set_ne _ ⟨R, o + 1, none⟩ _ (by simp only; omega), cell_set_ne _ ⟨R, o, none⟩ _ (by simp only; omega)]
  · have f := fin w hB h rfl (Mod.refl _ _) (fun _ _ => rfl) hs
    have hlen := h.len
    rcases lastN_cases (R, o) l with ⟨rfl, e1⟩ | ⟨e', he', e2⟩
    · refine (push_root R o 77 _ 0 w hB ho (by omega) (by omega) hs.1 hs.2.1 hlen).mono ?_
      rintro r w' ⟨rfl, rfl⟩
      exact ⟨rfl, f⟩
    · rw [e2] at f
      have hl := hs.1.last
      have h1 := hs.2.1
      rw [e2] at hl h1
      have : ∃ x, w.cell? ⟨R, o, none⟩ = some (.pointer (some x)) := by
        cases l with
        | nil => simp at he'
        | cons e0 l0 => exact ⟨_, hs.1.1⟩
      obtain ⟨x, hx⟩ := this
      refine (push_elem R o e'.blk 77 _ l.length x w hB (h.each e' he').1 ho (by omega) (by omega) hx h1 hl hlen).mono ?_
      rintro r w' ⟨rfl, rfl⟩
      exact ⟨rfl, f⟩

theorem Blk.drew2 {w : World} {b n : Nat} {t : TypeId} (h : Blk w b t n) : Blk w.drew.drew b t n := h.kept rfl

theorem Mod.drew2 {F : Nat → Prop} {w w' : World} (h : Mod F w w') : Mod F w w'.drew.drew := ⟨h.os, h.tape, h.output, h.size, h.block⟩

theorem unlinked_blk {w : World} {R o e : Nat} {n : Int} (hB : Blk w R 75 34) : Blk (unlinked w R o e n) R 75 34 := by
  unfold unlinked
  refine Blk.drew2 ?_
  refine Blk.setCell ?_ _ _
  refine Blk.setCell ?_ _ _
  refine Blk.setCell ?_ _ _
  refine Blk.setCell ?_ _ _
  refine Blk.setCell ?_ _ _
  exact hB.setCell _ _

/-- Remove of the one element. -/
theorem remove_LL (R o k : Nat) (e : Ent) (w : World) (hB : Blk w R 75 34) (ho : o + 4 < 34) (h : LL w R o k [e]) :
    Calls Try.prog 58 #[.pointer (some ⟨R, o, none⟩), .pointer (some ⟨e.blk, 0, none⟩)] w fun r w' => r = .returned (entV k e) ∧ LL w' R o k [] ∧ Blk w' R 75 34 ∧
      w'.heap.size = w.heap.size ∧ Mod (fun b => b = R ∨ b = e.blk) w w' ∧ ∀ j, ¬ (o ≤ j ∧ j ≤ o + 4) → w'.cell? ⟨R, j, none⟩ = w.cell? ⟨R, j, none⟩ := by
  obtain ⟨eB, eR, e2, e3⟩ := h.each e (by simp)
  have hs : Nx w (R, o) [e] (R, o) ∧ w.cell? ⟨R, o + 1, none⟩ = some (np (lastN (R, o) [e])) ∧ ∀ e' r, [e] = e' :: r → w.cell? ⟨e'.blk, 1, none⟩ = some (np (R, o)) := by
    rcases h.shape with ⟨h1, _⟩ | h1
    · cases h1
    · exact h1
  have hlen := h.len
  refine (remove_one R o e.blk w 1 77 _ hB eB eR ho (by omega) (by omega) hs.1.2 (hs.2.2 e [] rfl) e2 e3 hlen).mono ?_
  rintro r w' ⟨rfl, rfl⟩
  obtain ⟨u0, k0⟩ := hB.some (o := o) (by omega)
  obtain ⟨u1, k1⟩ := hB.some (o := o + 1) (by omega)
  obtain ⟨u4, k4⟩ := hB.some (o := o + 4) (by omega)
  have far : ∀ j, (unlinked w R o e.blk 1).cell? ⟨R, j, none⟩ = (((w.setCell ⟨R, o, none⟩ (.pointer (some ⟨R, o, none⟩))).setCell ⟨R, o + 1, none⟩ (.pointer (some ⟨R, o, none⟩))).setCell ⟨R, o + 4, none⟩ (.int .i64 (1 - 1))).cell? ⟨R, j, none⟩ := fun j => by
    unfold unlinked
    simp only [World.cell?_drew]
    by_cases hj : j = o + 4
    · subst hj
      rw [cell_set_same (u := u4) _ _ (by
        rw [cell_set_ne _ ⟨e.blk, 2, none⟩ _ (fun c => eR c.1.symm), cell_set_ne _ ⟨e.blk, 1, none⟩ _ (fun c => eR c.1.symm), cell_set_ne _ ⟨e.blk, 0, none⟩ _ (fun c => eR c.1.symm), cell_set_ne _ ⟨R, o + 1, none⟩ _ (by simp), cell_set_ne _ ⟨R, o, none⟩ _ (by simp)]
        exact k4)]
      rw [cell_set_same (u := u4) _ _ (by rw [cell_set_ne _ ⟨R, o + 1, none⟩ _ (by simp), cell_set_ne _ ⟨R, o, none⟩ _ (by simp)]; exact k4)]
    · rw [cell_set_ne _ ⟨R, o + 4, none⟩ _ (fun c => hj c.2), cell_set_ne _ ⟨e.blk, 2, none⟩ _ (fun c => eR c.1.symm), cell_set_ne _ ⟨e.blk, 1, none⟩ _ (fun c => eR c.1.symm), cell_set_ne _ ⟨e.blk, 0, none⟩ _ (fun c => eR c.1.symm), cell_set_ne _ ⟨R, o + 4, none⟩ _ (fun c => hj c.2)]
  have far' : ∀ j, (unlinked w R o e.blk 1).cell? ⟨R, j, none⟩ = (inited w R o).cell? ⟨R, j, none⟩ := far
  obtain ⟨b, c0, c1, c4⟩ := inited_facts hB ho
  refine ⟨rfl, ⟨by simp, by simp, by rw [far']; exact c4, Or.inr ⟨?_, by rw [far']; exact c1, by simp⟩⟩, ?_, ?_, ?_, ?_⟩
  · show (unlinked w R o e.blk 1).cell? ⟨R, o, none⟩ = _
    rw [far']
    exact c0
  · exact unlinked_blk hB
  · simp [unlinked, World.setCell]
  · unfold unlinked
    have st : ∀ (u : World) (a : Addr) (v : Value), (a.block = R ∨ a.block = e.blk) → Mod (fun b => b = R ∨ b = e.blk) w u → Mod (fun b => b = R ∨ b = e.blk) w (u.setCell a v) := fun u a v ha hu => hu.trans (Mod.setCell (F := fun b => b = R ∨ b = e.blk) u a v ha) (fun _ _ h => h)
    refine Mod.drew2 ?_
    exact st _ _ _ (Or.inl rfl) (st _ _ _ (Or.inr rfl) (st _ _ _ (Or.inr rfl) (st _ _ _ (Or.inr rfl) (st _ _ _ (Or.inl rfl) (st _ _ _ (Or.inl rfl) (Mod.refl _ _))))))
  · intro j hj
    rw [far']
    unfold inited
    rw [cell_set_ne _ ⟨R, o + 4, none⟩ _ (by simp only; omega), cell_set_ne _ ⟨R, o + 1, none⟩ _ (by simp only; omega), cell_set_ne _ ⟨R, o, none⟩ _ (by simp only; omega)]

end Go.Proofs.Qxb6609223a
