/- LawS1255BModel returns true on every input and leaves its arguments alone: the frame after the guide's program, the walk in YbulkyyuBModelLaw. -/
import Derived.Test.YbulkyyuRows
import Derived.WalkKit
import Derived.ProofKit
import Derived.OpenShut
import Derived.ShutString
import Derived.ChangeOld
import Derived.Below
import Derived.Deep.Slices
import Derived.Test.YbulkyyuBModelLaw
namespace Go.Proofs.Ybulkyyu.lawS1255BModel
open Go.ChangeShapes Go.WideShapes Go.ChangeAt Go.RowKit
open Go.ChangeMaps (open_string shut_string)
open Go.Proofs.Ybulkyyu.BSpans (Pre)
set_option linter.unusedVariables false

theorem own : ownKnob Yba.prog.godebug = none := by kernel_rfl
theorem laidOut : laidOutB Yba.prog = true := by kernel_rfl
theorem cells47 : Yba.prog.cellsOf 47 = 4 := by kernel_rfl
theorem cells28 : Yba.prog.cellsOf 28 = 1 := by kernel_rfl
theorem cells45 : Yba.prog.cellsOf 45 = 1 := by kernel_rfl
theorem cells27 : Yba.prog.cellsOf 27 = 1 := by kernel_rfl

theorem four_of {l : List Value} (h : l.length = 4) : ∃ a b c d, l = [a, b, c, d] := by
  match l, h with
  | [a, b, c, d], _ => exact ⟨a, b, c, d, rfl⟩

/-- A span that came in is four numbers. -/
theorem span_cells {H : Type} {enc : TypeId × Value → H} {W : World} {base : Nat} {spare : Nat → Bool} {held : Bool} {fuel : Nat} {cs : List Value} {x : DataW H × List MemPlace}
    (h : DataW.trod enc Yba.prog W base spare held fuel 47 cs = some x) : ∃ a b c d : Int, cs = [.int .u32 a, .int .u32 b, .int .u32 c, .int .u32 d] := by
  obtain ⟨xs, n, _, _, hl, hlen, hf⟩ := DataW.trod_struct Yba.underlying47 h
  rw [cells47] at hl
  have f0 : DataW.trod enc Yba.prog W base spare held n 28 ((cs.drop 0).take (Yba.prog.cellsOf 28)) = xs[0]? := hf 0 _ rfl
  have f1 : DataW.trod enc Yba.prog W base spare held n 45 ((cs.drop 1).take (Yba.prog.cellsOf 45)) = xs[1]? := hf 1 _ rfl
  have f2 : DataW.trod enc Yba.prog W base spare held n 27 ((cs.drop 2).take (Yba.prog.cellsOf 27)) = xs[2]? := hf 2 _ rfl
  have f3 : DataW.trod enc Yba.prog W base spare held n 27 ((cs.drop 3).take (Yba.prog.cellsOf 27)) = xs[3]? := hf 3 _ rfl
  rw [cells28] at f0
  rw [cells45] at f1
  rw [cells27] at f2 f3
  simp only [List.size_toArray, List.length_cons, List.length_nil] at hlen
  rw [List.getElem?_eq_getElem (by omega)] at f0 f1 f2 f3
  obtain ⟨a, ha, _⟩ := DataW.trod_int Yba.underlying28 f0
  obtain ⟨b, hb, _⟩ := DataW.trod_int Yba.underlying45 f1
  obtain ⟨c, hc, _⟩ := DataW.trod_int Yba.underlying27 f2
  obtain ⟨d, hd, _⟩ := DataW.trod_int Yba.underlying27 f3
  refine ⟨a, b, c, d, ?_⟩
  obtain ⟨c0, c1, c2, c3, rfl⟩ := four_of hl
  clear hf f0 f1 f2 f3 h
  simp at ha hb hc hd
  simp [ha, hb, hc, hd]

theorem pre_of_trod {H : Type} {enc : TypeId × Value → H} {W : World} {base : Nat} {spare : Nat → Bool} {held : Bool} {fuel : Nat} {a : Option Addr} {len cap : Nat} {x : DataW H × List MemPlace}
    (hf : DataW.trod enc Yba.prog W base spare held fuel 42 [.slice a len cap] = some x) : ∃ p, Pre W a len cap p := by
  rcases Deep.open_slice Yba.underlying42 hf with ⟨hcs, _⟩ | ⟨a', len', cap', m, n, D, Pl, hcs, hb, hl, hm, hmm, _, hel⟩
  · simp at hcs
    exact ⟨fun _ => 0, .inl hcs⟩
  · simp at hcs
    obtain ⟨rfl, rfl, rfl⟩ := hcs
    have hlm : len ≤ m := by rw [hmm]; split <;> omega
    have key : ∀ j, j < len * 4 → ∃ v : Int, W.cell? (a'.add j) = some (.int .u32 v) := fun j hj => by
      obtain ⟨cs', h1, h2⟩ := hel (j / 4) (by omega)
      rw [cells47] at h1
      obtain ⟨a, b, c, d, rfl⟩ := span_cells h2
      obtain ⟨_, _, hc⟩ := World.cells?_some h1
      have e : a'.add j = (a'.add (j / 4 * 4)).add (j % 4) := by rw [Deep.add_add, show j / 4 * 4 + j % 4 = j by omega]
      rw [e]
      have hj4 : j % 4 < 4 := Nat.mod_lt _ (by omega)
      rw [hc (j % 4) hj4]
      rcases (show j % 4 = 0 ∨ j % 4 = 1 ∨ j % 4 = 2 ∨ j % 4 = 3 by omega) with h | h | h | h <;> rw [h] <;> exact ⟨_, rfl⟩
    obtain ⟨p, hp⟩ := Deep.choose_lt (α := Int) key
    exact ⟨p, .inr ⟨a', rfl, hp⟩⟩

def IsRow (k : IntKind) (w : World) (a : Option Addr) (len cap : Nat) (zs : List Int) : Prop :=
  (a = none ∧ len = 0 ∧ cap = 0 ∧ zs = []) ∨
  ∃ x, a = some x ∧ len ≤ cap ∧ cap ≤ maxLen ∧ zs.length = cap ∧ (∀ i, i < zs.length → w.cell? (x.add i) = some (.int k (zs.getD i 0))) ∧ ∀ n ∈ zs, (Lit.int k n).wf = true

theorem walk (a0 : Option Addr) (len0 cap0 : Nat) (p : Nat → Int) (a1 : Int) (a2 : Option Addr) (len2 cap2 : Nat) (z2 : List Int) (w : World) (w0 : Pre w a0 len0 cap0 p) (w2 : IsRow .u32 w a2 len2 cap2 z2) :
    Calls Yba.prog 5 #[.slice a0 len0 cap0, .int .u64 a1, .slice a2 len2 cap2] w fun e w' => e = .returned (.bool true) ∧ Below w.heap.size w w' := by
  by_cases h : 1024 < len0 ∨ 1024 < len2
  · exact BSpans.model_big a0 len0 cap0 a1 a2 len2 cap2 w h
  · exact BSpans.model_small a0 len0 cap0 p a1 a2 len2 cap2 _ w (by omega) (by omega) w0 (BSpans.came_of w2)

set_option maxRecDepth 100000 in
theorem lifted (os : Os) (started : os.Started) (H : Type) (enc : TypeId × Value → H) :
    ReturnsInHanded {} Yba.checked os 5 .any (Rows.lawS1255BModelSpec.pre6 enc Yba.prog Yba.f5 Rows.lawS1255BModelRow.domain false) (Rows.lawS1255BModelSpec.post enc Yba.prog Yba.f5 false true false false) := by
  refine returnsInHanded_of_change (C := Yba.checked) own started (by kernel_rfl) Yba.func5
    (ChangeSpec.witness6 (enc := enc) (C := Yba.checked) false ⟨#[], #[.slice none 0 0, .int .u64 0, .slice none 0 0], []⟩ 8 (by kernel_rfl) (by kernel_rfl) (by kernel_rfl) (by kernel_rfl)) ?_
  intro W base args ds gs before hval0 hW hcnd _
  have hval : ∀ (j : Nat) t v, Yba.f5.params[j]? = some t → args[j]? = some v → Value.okWide Yba.prog W .any base t v := hval0
  have hW' := hW
  obtain ⟨p, q, hA0, hV, rfl, hfz, hnd⟩ := hW
  have hA : DataW.TrodAll enc Yba.prog W 0 (fun _ => true) true Yba.f5.params.toList args.toList ds p := hA0
  rw [Yba.params5] at hA hval
  obtain ⟨v0, vs0, d0, ds0, p0, q0, hargs, rfl, rfl, h0, r0⟩ := trodAll_cons hA
  obtain ⟨v1, vs1, d1, ds1, p1, q1, rfl, rfl, rfl, h1, r1⟩ := trodAll_cons r0
  obtain ⟨v2, vs2, d2, ds2, p2, q2, rfl, rfl, rfl, h2, r2⟩ := trodAll_cons r1
  obtain ⟨rfl, rfl, rfl⟩ := trodAll_nil r2
  obtain rfl : args = #[v0, v1, v2] := by cases args; simp_all
  obtain ⟨rfl, rfl⟩ := trodVars_none hV
  obtain ⟨a0, len0, cap0, rfl⟩ := okWide_slice Yba.underlying42 (hval 0 42 v0 rfl rfl)
  have k0 := h0
  have lt0 : ∀ x ∈ p0, x.block < W.heap.size := by obtain ⟨m, hm⟩ := k0; exact DataW.trod_lt m _ _ _ hm
  obtain ⟨pn, w0⟩ : ∃ pn, Pre W a0 len0 cap0 pn := by
    obtain ⟨fuel, hf⟩ := h0
    exact pre_of_trod (by simpa [Value.cells] using hf)
  obtain ⟨a1, rfl, rfl, rfl, w1⟩ := open_int Yba.underlying43 (hval 1 43 v1 rfl rfl) h1
  obtain ⟨a2, len2, cap2, rfl⟩ := okWide_slice Yba.underlying23 (hval 2 23 v2 rfl rfl)
  have k2 := h2
  have lt2 : ∀ x ∈ p2, x.block < W.heap.size := by obtain ⟨m, hm⟩ := k2; exact DataW.trod_lt m _ _ _ hm
  obtain ⟨z2, w2⟩ : ∃ zs, IsRow .u32 W a2 len2 cap2 zs := by
    obtain ⟨fuel, hf⟩ := h2
    rcases open_ints Yba.underlying23 Yba.underlying27 (by kernel_rfl) hf with ⟨hcs, _⟩ | ⟨x, l, c, zs, hcs, _, hl, hm, hz, _, hcell, hwz⟩
    · simp [Value.cells] at hcs
      obtain ⟨rfl, rfl, rfl⟩ := hcs
      exact ⟨[], .inl ⟨rfl, rfl, rfl, rfl⟩⟩
    · simp [Value.cells] at hcs
      obtain ⟨rfl, rfl, rfl⟩ := hcs
      exact ⟨zs, .inr ⟨_, rfl, hl, hm, by simpa using hz, hcell, hwz⟩⟩
  clear hA0 hval0
  refine (walk a0 len0 cap0 pn a1 a2 len2 cap2 z2 W w0 w2).mono fun e W' ⟨he, bel⟩ => ?_
  subst he
  exact ⟨_, rfl, _, _, _, [], _, [], hW', trodAll_mk1 (shut_bool Yba.underlying4 _), (trodAll_cons_mk (Below.trod laidOut (by kernel_rfl) (of_decide_eq_true (by kernel_rfl)) k0 bel lt0) (trodAll_cons_mk (shut_int Yba.underlying43 w1) (trodAll_cons_mk (Below.trod laidOut (by kernel_rfl) (of_decide_eq_true (by kernel_rfl)) k2 bel lt2) trodAll_mk0))), rfl, bel.frame _, fun h => by cases h⟩

theorem over : Rows.lawS1255BModelRow.holds Yba.pinned (OpenSpec.ofChange Rows.lawS1255BModelSpec) :=
  OpenClaim.holds_of_wide 5 Yba.f5 rfl rfl rfl rfl rfl rfl rfl ⟨rfl, rfl, rfl, rfl, rfl⟩ rfl rfl rfl rfl rfl (by kernel_rfl) Yba.func5 (by kernel_rfl)
    (of_decide_eq_true (by kernel_rfl)) (by unfold Func.isWrapper; first | (rw [if_pos (by decide +kernel)]; kernel_rfl) | (rw [if_neg (by decide +kernel)]; exact ⟨rfl, rfl⟩))
    (fun os started H enc _ => lifted os started H enc)

/-- THE STATEMENT. -/
theorem proved : Rows.LawS1255BModelSaid := over
end Go.Proofs.Ybulkyyu.lawS1255BModel
