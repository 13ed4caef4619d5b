/- LawS1255CMoving returns true on every input and leaves its arguments alone: the frame after the guide's program, the walk in YbulkyyuCMoving. -/
import Derived.Test.YbulkyyuRows
import Derived.WalkKit
import Derived.ProofKit
import Derived.OpenShut
import Derived.ShutString
import Derived.ChangeOld
import Derived.Below
import Derived.Deep.Slices
import Derived.Test.YbulkyyuCMoving
namespace Go.Proofs.Ybulkyyu.lawS1255CMoving
open Go.ChangeShapes Go.WideShapes Go.ChangeAt Go.RowKit
open Go.ChangeMaps (open_string shut_string)
open Go.Proofs.Ybulkyyu.CLaw (Nodes)
set_option linter.unusedVariables false

theorem own : ownKnob Yba.prog.godebug = none := by kernel_rfl
theorem laidOut : laidOutB Yba.prog = true := by kernel_rfl
theorem cells109 : Yba.prog.cellsOf 109 = 2 := by kernel_rfl
theorem cells5 : Yba.prog.cellsOf 5 = 1 := by kernel_rfl

theorem byte_of {a : Int} (h : (Lit.int .u8 a).wf = true) : 0 ≤ a ∧ a ≤ 255 := by
  have h1 : IntKind.u8.min = 0 := by decide
  have h2 : IntKind.u8.max = 255 := by decide
  simp [Lit.wf, h1, h2] at h
  exact h
theorem word_of {a : Int} (h : (Lit.int .u32 a).wf = true) : 0 ≤ a ∧ a ≤ 4294967295 := by
  have h1 : IntKind.u32.min = 0 := by decide
  have h2 : IntKind.u32.max = 4294967295 := by decide
  simp [Lit.wf, h1, h2] at h
  exact h
theorem two_of {l : List Value} (h : l.length = 2) : ∃ a b, l = [a, b] := by
  match l, h with
  | [a, b], _ => exact ⟨a, b, rfl⟩

/-- A node that came in is two bytes. -/
theorem node_cells {H : Type} {enc : TypeId × Value → H} {W : World} {base : Nat} {spare : Nat → Bool} {held : Bool} {fuel : Nat} {cs : List Value} {x : DataW H × List MemPlace}
    (h : DataW.trod enc Yba.prog W base spare held fuel 109 cs = some x) : ∃ a b : Int, cs = [.int .u8 a, .int .u8 b] ∧ (0 ≤ a ∧ a ≤ 255) ∧ 0 ≤ b ∧ b ≤ 255 := by
  obtain ⟨xs, n, _, _, hl, hlen, hf⟩ := DataW.trod_struct Yba.underlying109 h
  rw [cells109] at hl
  have f0 : DataW.trod enc Yba.prog W base spare held n 5 ((cs.drop 0).take (Yba.prog.cellsOf 5)) = xs[0]? := hf 0 _ rfl
  have f1 : DataW.trod enc Yba.prog W base spare held n 5 ((cs.drop 1).take (Yba.prog.cellsOf 5)) = xs[1]? := hf 1 _ rfl
  rw [cells5] at f0 f1
  simp only [List.size_toArray, List.length_cons, List.length_nil] at hlen
  rw [List.getElem?_eq_getElem (by omega)] at f0 f1
  obtain ⟨a, ha, wa⟩ := DataW.trod_int Yba.underlying5 f0
  obtain ⟨b, hb, wb⟩ := DataW.trod_int Yba.underlying5 f1
  obtain ⟨c0, c1, rfl⟩ := two_of hl
  clear hf f0 f1 h
  simp at ha hb
  exact ⟨a, b, by rw [ha, hb], byte_of wa.2, byte_of wb.2⟩

theorem nodes_of_trod {H : Type} {enc : TypeId × Value → H} {W : World} {base : Nat} {spare : Nat → Bool} {held : Bool} {fuel : Nat} {a : Option Addr} {len cap : Nat} {x : DataW H × List MemPlace}
    (hf : DataW.trod enc Yba.prog W base spare held fuel 56 [.slice a len cap] = some x) : (len = 0) ∨ ∃ (X Y : Nat → Int) (ad : Addr), a = some ad ∧ ∀ j, j < len → (W.cell? (ad.add (j * 2)) = some (.int .u8 (X j)) ∧ W.cell? (ad.add (j * 2 + 1)) = some (.int .u8 (Y j))) ∧ (0 ≤ X j ∧ X j ≤ 255) ∧ 0 ≤ Y j ∧ Y j ≤ 255 := by
  rcases Deep.open_slice Yba.underlying56 hf with ⟨hcs, _⟩ | ⟨a', len', cap', m, n, D, Pl, hcs, hb, hl, hm, hmm, _, hel⟩
  · simp at hcs
    exact .inl hcs.2.1
  · simp at hcs
    obtain ⟨rfl, rfl, rfl⟩ := hcs
    have hlm : len ≤ m := by rw [hmm]; split <;> omega
    have key : ∀ j, j < len → ∃ v : Int × Int, (W.cell? (a'.add (j * 2)) = some (.int .u8 v.1) ∧ W.cell? (a'.add (j * 2 + 1)) = some (.int .u8 v.2)) ∧ (0 ≤ v.1 ∧ v.1 ≤ 255) ∧ 0 ≤ v.2 ∧ v.2 ≤ 255 := fun j hj => by
      obtain ⟨cs', h1, h2⟩ := hel j (by omega)
      rw [cells109] at h1
      obtain ⟨a, b, rfl, h3⟩ := node_cells h2
      obtain ⟨_, _, hc⟩ := World.cells?_some h1
      refine ⟨(a, b), ⟨?_, ?_⟩, h3⟩
      · have := hc 0 (by omega)
        rw [Deep.add_add] at this
        simpa using this
      · have := hc 1 (by omega)
        rw [Deep.add_add] at this
        simpa using this
    obtain ⟨p, hp⟩ := Deep.choose_lt (α := Int × Int) key
    exact .inr ⟨fun j => (p j).1, fun j => (p j).2, a', rfl, hp⟩

theorem walk (a0 : Option Addr) (len0 cap0 : Nat) (r t : Int) (hr : 0 ≤ r ∧ r ≤ 255) (ht : 0 ≤ t ∧ t ≤ 4294967295) (w : World) (w0 : (len0 = 0) ∨ ∃ (X Y : Nat → Int) (ad : Addr), a0 = some ad ∧ ∀ j, j < len0 → (w.cell? (ad.add (j * 2)) = some (.int .u8 (X j)) ∧ w.cell? (ad.add (j * 2 + 1)) = some (.int .u8 (Y j))) ∧ (0 ≤ X j ∧ X j ≤ 255) ∧ 0 ≤ Y j ∧ Y j ≤ 255) :
    Calls Yba.prog 8 #[.slice a0 len0 cap0, .int .u8 r, .int .u32 t] w fun e w' => e = .returned (.bool true) ∧ Below w.heap.size w w' := by
  by_cases h : 1024 < len0 ∨ len0 = 0
  · exact CLaw.moving_big a0 len0 cap0 r t w h
  · rcases w0 with h0 | ⟨X, Y, ad, rfl, hc⟩
    · omega
    · obtain ⟨R, rfl⟩ : ∃ R : Nat, r = R := ⟨r.toNat, by omega⟩
      obtain ⟨b, off, spot⟩ := ad
      have hc0 := (hc 0 (by omega)).1.1
      have hspot : spot = none := by simpa [Addr.add] using World.cell?_spot hc0
      subst hspot
      have e : ∀ j, (⟨b, off, none⟩ : Addr).add j = ⟨b, off + j, none⟩ := fun j => by
        by_cases h0 : j = 0 <;> simp [Addr.add, h0]
      refine CLaw.moving_small (some ⟨b, off, none⟩) len0 cap0 X Y R t w (by omega) (by omega) (by omega) ht.1 ht.2 ⟨b, off, rfl, ?_, fun j hj => ?_⟩
      · have := block_lt_of_cell hc0
        rwa [e] at this
      · have := hc j hj
        rw [e, e] at this
        exact this

set_option maxRecDepth 100000 in
theorem lifted (os : Os) (started : os.Started) (H : Type) (enc : TypeId × Value → H) :
    ReturnsInHanded {} Yba.checked os 8 .any (Rows.lawS1255CMovingSpec.pre6 enc Yba.prog Yba.f8 Rows.lawS1255CMovingRow.domain false) (Rows.lawS1255CMovingSpec.post enc Yba.prog Yba.f8 false true false false) := by
  refine returnsInHanded_of_change (C := Yba.checked) own started (by kernel_rfl) Yba.func8
    (ChangeSpec.witness6 (enc := enc) (C := Yba.checked) false ⟨#[], #[.slice none 0 0, .int .u8 0, .int .u32 0], []⟩ 8 (by kernel_rfl) (by kernel_rfl) (by kernel_rfl) (by kernel_rfl)) ?_
  intro W base args ds gs before hval0 hW hcnd _
  have hval : ∀ (j : Nat) t v, Yba.f8.params[j]? = some t → args[j]? = some v → Value.okWide Yba.prog W .any base t v := hval0
  have hW' := hW
  obtain ⟨p, q, hA0, hV, rfl, hfz, hnd⟩ := hW
  have hA : DataW.TrodAll enc Yba.prog W 0 (fun _ => true) true Yba.f8.params.toList args.toList ds p := hA0
  rw [Yba.params8] at hA hval
  obtain ⟨v0, vs0, d0, ds0, p0, q0, hargs, rfl, rfl, h0, r0⟩ := trodAll_cons hA
  obtain ⟨v1, vs1, d1, ds1, p1, q1, rfl, rfl, rfl, h1, r1⟩ := trodAll_cons r0
  obtain ⟨v2, vs2, d2, ds2, p2, q2, rfl, rfl, rfl, h2, r2⟩ := trodAll_cons r1
  obtain ⟨rfl, rfl, rfl⟩ := trodAll_nil r2
  obtain rfl : args = #[v0, v1, v2] := by cases args; simp_all
  obtain ⟨rfl, rfl⟩ := trodVars_none hV
  obtain ⟨a0, len0, cap0, rfl⟩ := okWide_slice Yba.underlying56 (hval 0 56 v0 rfl rfl)
  have k0 := h0
  have lt0 : ∀ x ∈ p0, x.block < W.heap.size := by obtain ⟨m, hm⟩ := k0; exact DataW.trod_lt m _ _ _ hm
  have w0 : (len0 = 0) ∨ ∃ (X Y : Nat → Int) (ad : Addr), a0 = some ad ∧ ∀ j, j < len0 → (W.cell? (ad.add (j * 2)) = some (.int .u8 (X j)) ∧ W.cell? (ad.add (j * 2 + 1)) = some (.int .u8 (Y j))) ∧ (0 ≤ X j ∧ X j ≤ 255) ∧ 0 ≤ Y j ∧ Y j ≤ 255 := by
    obtain ⟨fuel, hf⟩ := h0
    exact nodes_of_trod (by simpa [Value.cells] using hf)
  obtain ⟨a1, rfl, rfl, rfl, w1⟩ := open_int Yba.underlying5 (hval 1 5 v1 rfl rfl) h1
  obtain ⟨a2, rfl, rfl, rfl, w2⟩ := open_int Yba.underlying27 (hval 2 27 v2 rfl rfl) h2
  clear hA0 hval0
  refine (walk a0 len0 cap0 a1 a2 (byte_of w1) (word_of w2) W w0).mono fun e W' ⟨he, bel⟩ => ?_
  subst he
  exact ⟨_, rfl, _, _, _, [], _, [], hW', trodAll_mk1 (shut_bool Yba.underlying4 _), (trodAll_cons_mk (Below.trod laidOut (by kernel_rfl) (of_decide_eq_true (by kernel_rfl)) k0 bel lt0) (trodAll_cons_mk (shut_int Yba.underlying5 w1) (trodAll_cons_mk (shut_int Yba.underlying27 w2) trodAll_mk0))), rfl, bel.frame _, fun h => by cases h⟩

theorem over : Rows.lawS1255CMovingRow.holds Yba.pinned (OpenSpec.ofChange Rows.lawS1255CMovingSpec) :=
  OpenClaim.holds_of_wide 8 Yba.f8 rfl rfl rfl rfl rfl rfl rfl ⟨rfl, rfl, rfl, rfl, rfl⟩ rfl rfl rfl rfl rfl (by kernel_rfl) Yba.func8 (by kernel_rfl)
    (of_decide_eq_true (by kernel_rfl)) (by unfold Func.isWrapper; first | (rw [if_pos (by decide +kernel)]; kernel_rfl) | (rw [if_neg (by decide +kernel)]; exact ⟨rfl, rfl⟩))
    (fun os started H enc _ => lifted os started H enc)

/-- THE STATEMENT. -/
theorem proved : Rows.LawS1255CMovingSaid := over
end Go.Proofs.Ybulkyyu.lawS1255CMoving
