/- The buckets: what the map holds behind h nodes, and what one node more does to it. -/
import Derived.Test.YbulkyyuCMap
namespace Go.Proofs.Ybulkyyu.CMap
open Go.RowKit

/-- The nodes below h whose cell is k, ascending. -/
def mem (K : Nat → Int × Int) (h : Nat) (k : Int × Int) : List Nat := (List.range h).filter fun j => decide (K j = k)
theorem mem_succ (K : Nat → Int × Int) (h : Nat) (k : Int × Int) : mem K (h + 1) k = mem K h k ++ (if K h = k then [h] else []) := by
  unfold mem
  rw [List.range_succ, List.filter_append]
  by_cases e : K h = k <;> simp [e]
theorem mem_len (K : Nat → Int × Int) (h : Nat) (k : Int × Int) : (mem K h k).length ≤ h := Nat.le_trans (List.length_filter_le _ _) (by simp)
theorem mem_none (K : Nat → Int × Int) (h : Nat) (k : Int × Int) (hk : ∀ j, j < h → K j ≠ k) : mem K h k = [] := by
  unfold mem
  rw [List.filter_eq_nil_iff]
  intro j hj
  simpa using hk j (by simpa using hj)
def irow (l : List Nat) : List Value := l.map fun (j : Nat) => Value.int .i64 (j : Int)

structure Bk (w : World) (mb base h : Nat) (K : Nat → Int × Int) (N : Nat) (key : Nat → Int × Int) (val : Nat → Value) : Prop where
  obj : w.heap[mb]? = some (.map (ents N key val) N)
  lt : mb < base
  inj : ∀ s t, s < N → t < N → key s = key t → s = t
  row : ∀ t, t < N → w.ownsRow base 3 1 (val t) (mem K h (key t)).length (irow (mem K h (key t)))
  apart : ∀ s t g, s < N → t < N → s ≠ t → (val s).ownBlock = some g → (val t).ownBlock ≠ some g
  all : ∀ j, j < h → ∃ t, t < N ∧ key t = K j

theorem Bk.size {w : World} {mb base h : Nat} {K : Nat → Int × Int} {N : Nat} {key : Nat → Int × Int} {val : Nat → Value} (b : Bk w mb base h K N key val) : mb < w.heap.size := by
  rcases Nat.lt_or_ge mb w.heap.size with hlt | hge
  · exact hlt
  · have := b.obj; rw [Array.getElem?_eq_none hge] at this; cases this

/-- It stands where neither the map nor a row of its own is touched. -/
theorem Bk.kept {w w' : World} {mb base h : Nat} {K : Nat → Int × Int} {N : Nat} {key : Nat → Int × Int} {val : Nat → Value} {r : Option Nat} (b : Bk w mb base h K N key val) (hg : w.grownBy w' r) (hr : ∀ g, r = some g → g ≠ mb ∧ (g < base ∨ w.heap.size ≤ g)) : Bk w' mb base h K N key val :=
  ⟨(hg.block mb b.size (fun e => (hr mb e.symm).1 rfl)).trans b.obj, b.lt, b.inj, fun t ht => (b.row t ht).kept hg (by
    cases e : (val t).ownBlock with
    | none => exact .inl rfl
    | some g =>
      refine .inr fun e2 => ?_
      have := (b.row t ht).lt g e
      have := hr g e2.symm
      omega), b.apart, b.all⟩

theorem Bk.start (w : World) (mb base : Nat) (K : Nat → Int × Int) (h : w.heap[mb]? = some (.map #[] 0)) (hlt : mb < base) : Bk w mb base 0 K 0 (fun _ => (0, 0)) (fun _ => undef) :=
  ⟨by simpa [ents] using h, hlt, fun s t h => by omega, fun t h => by omega, fun s t g h => by omega, fun j h => by omega⟩

/-- m[k]: the entry, found or made. -/
theorem Bk.entry {w : World} {mb base h : Nat} {K : Nat → Int × Int} {N : Nat} {key : Nat → Int × Int} {val : Nat → Value} (b : Bk w mb base h K N key val) (k : Int × Int) :
    ∃ (t N1 : Nat) (key1 : Nat → Int × Int) (val1 : Nat → Value) (w1 : World), (Instr.mapEntry 91 (.map (some mb)) (kv k)).run Yba.prog w = .ok (.tuple #[val1 t, goInt t]) w1 ∧ w.grownBy w1 (some mb) ∧ w1.heap.size = w.heap.size ∧ t < N1 ∧ key1 t = k ∧ Bk w1 mb base h K N1 key1 val1 := by
  rcases find_kv k N key val w with ⟨h1, h2⟩ | ⟨t, h1, h2, h3⟩
  · refine ⟨N, N + 1, upd key N k, upd val N (.slice none 0 0), putB w mb (.map (ents (N + 1) (upd key N k) (upd val N (.slice none 0 0))) (N + 1)), ?_, putB_grown w mb _, putB_size .., by omega, upd_same .., ?_⟩
    · rw [upd_same]; exact entry_new k N key val mb w b.obj h2
    · have hg := putB_grown w mb (.map (ents (N + 1) (upd key N k) (upd val N (.slice none 0 0))) (N + 1))
      refine ⟨putB_get w mb _ b.size, b.lt, fun s t hs ht e => ?_, fun t ht => ?_, fun s t g hs ht hne e => ?_, fun j hj => ?_⟩
      · by_cases es : s = N <;> by_cases et : t = N
        · omega
        · rw [es, upd_same, upd_ne _ _ _ _ et] at e
          exact absurd e.symm (h1 t (by omega))
        · rw [et, upd_same, upd_ne _ _ _ _ es] at e
          exact absurd e (h1 s (by omega))
        · rw [upd_ne _ _ _ _ es, upd_ne _ _ _ _ et] at e
          exact b.inj s t (by omega) (by omega) e
      · by_cases et : t = N
        · rw [et, upd_same, upd_same, mem_none K h k (fun j hj e => by
            obtain ⟨s, hs, e2⟩ := b.all j hj
            exact h1 s hs (e2.trans e))]
          exact World.ownsRow_nil _ _ _ _
        · rw [upd_ne _ _ _ _ et, upd_ne _ _ _ _ et]
          refine (b.row t (by omega)).kept hg ?_
          cases e : (val t).ownBlock with
          | none => exact .inl rfl
          | some g =>
            refine .inr fun e2 => ?_
            have := (b.row t (by omega)).lt g e
            have := b.lt
            cases e2
            omega
      · by_cases es : s = N
        · rw [es, upd_same] at e; cases e
        · rw [upd_ne _ _ _ _ es] at e
          by_cases et : t = N
          · rw [et, upd_same]; exact fun x => by cases x
          · rw [upd_ne _ _ _ _ et]; exact b.apart s t g (by omega) (by omega) hne e
      · obtain ⟨t, ht, e⟩ := b.all j hj
        exact ⟨t, by omega, by rw [upd_ne _ _ _ _ (by omega)]; exact e⟩
  · subst h2
    exact ⟨t, N, key, val, w, entry_found t N key val mb N w b.obj h1 h3, ⟨rfl, rfl, rfl, Nat.le_refl _, fun _ _ _ => rfl⟩, rfl, h1, rfl, b⟩

/-- Behind the append: the entry takes the longer slice. -/
theorem Bk.store {w w2 : World} {mb base h : Nat} {K : Nat → Int × Int} {N : Nat} {key : Nat → Int × Int} {val : Nat → Value} (b : Bk w mb base h K N key val) (t : Nat) (ht : t < N) (hk : key t = K h) (v : Value)
    (hown : w2.ownsRow base 3 1 v ((mem K h (key t)).length + 1) (irow (mem K h (key t)) ++ [.int .i64 (h : Int)])) (hg : w.grownBy w2 (val t).ownBlock)
    (hat : v.ownBlock = (val t).ownBlock ∨ v.ownBlock = some w.heap.size) :
    (Instr.entryStore 91 (.map (some mb)) (goInt t) v).run Yba.prog w2 = .ok () (putB w2 mb (.map (ents N key (upd val t v)) N)) ∧ Bk (putB w2 mb (.map (ents N key (upd val t v)) N)) mb base (h + 1) K N key (upd val t v) := by
  have hmb : w2.heap[mb]? = some (.map (ents N key val) N) := (hg.block mb b.size (fun e => by
    have := (b.row t ht).lt mb e.symm
    have := b.lt
    omega)).trans b.obj
  have hmb2 : mb < w2.heap.size := Nat.lt_of_lt_of_le b.size hg.size
  have hgp := putB_grown w2 mb (.map (ents N key (upd val t v)) N)
  refine ⟨store_kv t N key val mb N v w2 hmb ht, ⟨putB_get w2 mb _ hmb2, b.lt, b.inj, fun s hs => ?_, fun s s' g hs hs' hne e => ?_, fun j hj => ?_⟩⟩
  · skip
    by_cases es : s = t
    · subst es
      rw [upd_same, mem_succ, if_pos hk.symm, List.length_append]
      have e1 : irow (mem K h (key s) ++ [h]) = irow (mem K h (key s)) ++ [.int .i64 (h : Int)] := by simp [irow]
      rw [e1]
      refine hown.kept hgp ?_
      cases e : v.ownBlock with
      | none => exact .inl rfl
      | some g =>
        refine .inr fun e2 => ?_
        have := hown.lt g e
        have := b.lt
        cases e2
        omega
    · rw [upd_ne _ _ _ _ es, mem_succ, if_neg (fun e => es (b.inj s t hs ht (e.symm.trans hk.symm))), List.append_nil]
      have r1 := (b.row s hs).kept hg (by
        cases e : (val s).ownBlock with
        | none => exact .inl rfl
        | some g => exact .inr (fun e2 => b.apart s t g hs ht es e e2.symm))
      refine r1.kept hgp ?_
      cases e : (val s).ownBlock with
      | none => exact .inl rfl
      | some g =>
        refine .inr fun e2 => ?_
        have := (b.row s hs).lt g e
        have := b.lt
        cases e2
        omega
  · by_cases es : s = t
    · subst es
      rw [upd_same] at e
      rw [upd_ne _ _ _ _ (Ne.symm hne)]
      rcases hat with h1 | h1
      · exact b.apart s s' g hs hs' hne (h1 ▸ e)
      · intro e2
        have := ((b.row s' hs').lt g e2).2
        rw [h1] at e
        cases e
        omega
    · rw [upd_ne _ _ _ _ es] at e
      by_cases et : s' = t
      · subst et
        rw [upd_same]
        rcases hat with h1 | h1
        · rw [h1]; exact b.apart s s' g hs hs' hne e
        · rw [h1]
          intro e2
          have := ((b.row s hs).lt g e).2
          cases e2
          omega
      · rw [upd_ne _ _ _ _ et]; exact b.apart s s' g hs hs' hne e
  · by_cases ej : j = h
    · exact ⟨t, ht, by rw [ej]; exact hk⟩
    · exact b.all j (by omega)

/-- The look-up behind it all: the nodes of the cell. -/
theorem Bk.find {w : World} {mb base h : Nat} {K : Nat → Int × Int} {N : Nat} {key : Nat → Int × Int} {val : Nat → Value} (b : Bk w mb base h K N key val) (k : Int × Int) :
    ∃ v, (Instr.lookup 91 (.map (some mb)) (kv k) false).run Yba.prog w = .ok v w ∧ w.ownsRow base 3 1 v (mem K h k).length (irow (mem K h k)) := by
  obtain ⟨v, h1, h2⟩ := lookup_kv k N key val mb N w b.obj
  refine ⟨v, h1, ?_⟩
  rcases h2 with ⟨rfl, h2⟩ | ⟨t, ht, e, rfl⟩
  · rw [mem_none K h k (fun j hj e => by
      obtain ⟨s, hs, e2⟩ := b.all j hj
      exact h2 s hs (e2.trans e))]
    exact World.ownsRow_nil _ _ _ _
  · rw [← e]; exact b.row t ht
end Go.Proofs.Ybulkyyu.CMap
