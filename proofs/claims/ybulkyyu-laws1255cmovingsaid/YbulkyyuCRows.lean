/- Between the two words for a row of int32: the sort's and the append's. The look-up, in whatever world keeps the map. -/
import Derived.Test.YbulkyyuCColl
import Derived.Test.YbulkyyuCSort
import Derived.Test.YbulkyyuCBuild
namespace Go.Proofs.Ybulkyyu.CMap
open Go.RowKit Go.Sort
open Go.Proofs.Ybulkyyu.CLaw (sel ms row)
open Go.Proofs.Ybulkyyu.CSort (Row)

theorem Bk.find2 {w : World} {mb base h : Nat} {K : Nat → Int × Int} {N : Nat} {key : Nat → Int × Int} {val : Nat → Value} (b : Bk w mb base h K N key val) (k : Int × Int) :
    ∃ v, (∀ w' : World, w'.heap[mb]? = w.heap[mb]? → (Instr.lookup 91 (.map (some mb)) (kv k) false).run Yba.prog w' = .ok v w') ∧ w.ownsRow base 3 1 v (mem K h k).length (irow (mem K h k)) := by
  by_cases hk : ∃ t, t < N ∧ key t = k
  · obtain ⟨t, ht, e⟩ := hk
    refine ⟨val t, fun w' hw => ?_, by rw [← e]; exact b.row t ht⟩
    obtain ⟨v, h1, h2⟩ := lookup_kv k N key val mb N w' (hw.trans b.obj)
    rcases h2 with ⟨_, h2⟩ | ⟨s, hs, e2, rfl⟩
    · exact absurd e (h2 t ht)
    · rw [h1, b.inj s t hs ht (e2.trans e.symm)]
  · refine ⟨.slice none 0 0, fun w' hw => ?_, ?_⟩
    · obtain ⟨v, h1, h2⟩ := lookup_kv k N key val mb N w' (hw.trans b.obj)
      rcases h2 with ⟨rfl, _⟩ | ⟨s, hs, e2, _⟩
      · exact h1
      · exact absurd ⟨s, hs, e2⟩ hk
    · rw [mem_none K h k (fun j hj e => by
        obtain ⟨s, hs, e2⟩ := b.all j hj
        exact hk ⟨s, hs, e2.trans e⟩)]
      exact World.ownsRow_nil _ _ _ _

theorem form3 {w : World} {base n : Nat} {v : Value} {l : List Nat} (h : w.ownsRow base 3 1 v l.length (irow l)) (hn : n = l.length) :
    ∃ a c, v = .slice a n c ∧ (0 < n → ∃ g, a = some ⟨g, 0, none⟩ ∧ ∀ (i : Nat) (hi : i < l.length), w.cell? ⟨g, i, none⟩ = some (.int .i64 (l[i] : Int))) := by
  subst hn
  by_cases hl : 0 < l.length
  · obtain ⟨g, cap, rfl, hb, hlt⟩ := h.form hl
    refine ⟨_, cap, rfl, fun _ => ⟨g, rfl, fun i hi => ?_⟩⟩
    rw [h.cellAt i (by omega)]
    simp [irow, hi]
  · rcases h.2 with ⟨rfl, h0⟩ | ⟨g, cap, cur, rfl, _⟩
    · exact ⟨none, 0, by rw [h0], fun h => absurd h hl⟩
    · exact ⟨_, cap, rfl, fun h => absurd h hl⟩

theorem row_of_owns {w : World} {base g cap : Nat} {l : List Nat} (h : w.ownsRow base 21 1 (.slice (some ⟨g, 0, none⟩) l.length cap) l.length (row l)) : Row w g cap (l.map (fun (j : Nat) => (j : Int))).toArray ∧ base ≤ g ∧ cap ≤ maxLen := by
  rcases h.2 with ⟨h', _⟩ | ⟨g', cap', cur, h', hb, hg, hc, hm, hs, htake⟩
  · simp at h'
  · simp only [Value.slice.injEq, Option.some.injEq, Addr.mk.injEq, and_true, true_and] at h'
    obtain ⟨rfl, rfl⟩ := h'
    refine ⟨⟨cur, hg, by omega, by simpa using hc, fun j hj => ?_⟩, hb, hm⟩
    have hj' : j < l.length := by simpa using hj
    have e1 : cur[j]? = (cur.toList.take (l.length * 1))[j]? := by rw [List.getElem?_take_of_lt (by omega)]; simp
    rw [e1, htake]
    have e2 : (l.map (fun (j : Nat) => (j : Int))).toArray[j]! = (l[j] : Int) := by
      rw [getElem!_pos _ j (by simpa using hj')]; simp
    rw [e2]
    simp [row, hj']

theorem owns_of_row {w : World} {base g cap : Nat} {d : Array Int} {q : List Nat} (h : Row w g cap d) (hd : d.toList = q.map (fun (j : Nat) => (j : Int))) (hb : base ≤ g) (hm : cap ≤ maxLen) : w.ownsRow base 21 1 (.slice (some ⟨g, 0, none⟩) q.length cap) q.length (row q) := by
  obtain ⟨cur, hg, hs, hc, hcell⟩ := h
  have hsz : d.size = q.length := by rw [← Array.length_toList, hd]; simp
  refine ⟨by simp [row], .inr ⟨g, cap, cur, rfl, hb, hg, by omega, hm, by omega, ?_⟩⟩
  apply List.ext_getElem?
  intro i
  by_cases hi : i < q.length
  · rw [List.getElem?_take_of_lt (by omega), ← Array.getElem?_toList.symm, hcell i (by omega)]
    have e : d[i]! = (q[i] : Int) := by
      rw [getElem!_pos d i (by omega)]
      have h1 : d.toList[i]? = some (q[i] : Int) := by rw [hd]; simp [hi]
      rw [Array.getElem?_toList, Array.getElem?_eq_getElem (by omega)] at h1
      simpa using h1
    rw [e]
    simp [row, hi]
  · rw [List.getElem?_eq_none (by simp; omega), List.getElem?_eq_none (by simp [row]; omega)]
end Go.Proofs.Ybulkyyu.CMap
