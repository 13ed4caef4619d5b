/- The law's own model (ascending list of the others within reach), and slices.Equal at int32. -/
import Derived.Test.YbulkyyuCWithin
import Derived.Test.YbulkyyuCSift
import Derived.Deep.RegionHeld3
import Derived.Deep.AppendLies
namespace Go.Proofs.Ybulkyyu.CLaw
open Go.RowKit

theorem info21 : (Yba.prog.info? 21).map (fun i => (i.zero, i.size, i.bytes)) = some (some (.int .i32 0), 1, 4) := by kernel_rfl

/-- n nodes that came in, below block B: X j, Y j. -/
def Nodes (B : Nat) (w : World) (a : Option Addr) (n : Nat) (X Y : Nat → Int) : Prop :=
  ∃ b off, a = some ⟨b, off, none⟩ ∧ b < B ∧ ∀ j, j < n → (w.cell? ⟨b, off + j * 2, none⟩ = some (.int .u8 (X j)) ∧ w.cell? ⟨b, off + j * 2 + 1, none⟩ = some (.int .u8 (Y j))) ∧ (0 ≤ X j ∧ X j ≤ 255) ∧ 0 ≤ Y j ∧ Y j ≤ 255

/-- j is another node, within reach of i. -/
def sel (X Y : Nat → Int) (r : Int) (i j : Nat) : Bool := decide (j ≠ i) && decide ((X i - X j) * (X i - X j) + (Y i - Y j) * (Y i - Y j) ≤ r * r)
def ms (X Y : Nat → Int) (r : Int) (i h : Nat) : List Nat := (List.range h).filter (sel X Y r i)
theorem ms_succ (X Y : Nat → Int) (r : Int) (i h : Nat) : ms X Y r i (h + 1) = ms X Y r i h ++ (if sel X Y r i h then [h] else []) := by
  unfold ms
  rw [List.range_succ, List.filter_append]
  by_cases e : sel X Y r i h = true <;> simp [e]
theorem ms_len (X Y : Nat → Int) (r : Int) (i h : Nat) : (ms X Y r i h).length ≤ h := by
  unfold ms
  exact Nat.le_trans (List.length_filter_le _ _) (by simp)
def row (l : List Nat) : List Value := l.map fun (j : Nat) => Value.int .i32 (j : Int)
theorem row_len (l : List Nat) : (row l).length = l.length := by simp [row]

theorem sq255 {a : Int} (h : a.natAbs ≤ 255) : 0 ≤ a * a ∧ a * a ≤ 65025 := by
  have h1 : a * a = ((a.natAbs * a.natAbs : Nat) : Int) := Int.natAbs_mul_self.symm
  have h2 : a.natAbs * a.natAbs ≤ 255 * 255 := Nat.mul_le_mul h h
  omega

set_option maxRecDepth 100000 in
set_option maxHeartbeats 4000000 in
theorem model_any (a : Option Addr) (n c : Nat) (X Y : Nat → Int) (i : Nat) (r : Int) (w : World) (hn : n ≤ 1024) (hi : i < n) (hr : 0 ≤ r ∧ r ≤ 255) (hN : Nodes w.heap.size w a n X Y) :
    Calls Yba.prog 23 #[.slice a n c, .int .i64 i, .int .u8 r] w fun e w' => ∃ v', e = .returned v' ∧ w'.ownsRow w.heap.size 21 1 v' (ms X Y r i n).length (row (ms X Y r i n)) ∧ Below w.heap.size w w' := by
  obtain ⟨i0, hi0, hz0, hz1, hz2⟩ := info_parts info21
  obtain ⟨b, off, rfl, hb, hcell⟩ := hN
  obtain ⟨⟨ci1, ci2⟩, ⟨bi1, bi2⟩, bi3, bi4⟩ := hcell i hi
  obtain ⟨xi, hxi⟩ : ∃ xi, xi = X i := ⟨_, rfl⟩
  obtain ⟨yi, hyi⟩ : ∃ yi, yi = Y i := ⟨_, rfl⟩
  rw [← hxi] at ci1 bi1 bi2
  rw [← hyi] at ci2 bi3 bi4
  have HXI : Hid (xi = X i) := hxi
  have HYI : Hid (yi = Y i) := hyi
  clear hxi hyi
  obtain ⟨r1, r2⟩ := hr
  go_enter Yba.func23, Yba.ntmps23
  go_wp2
  go_loopw [7, 9] (fun v s wr => ∃ h : Nat, h ≤ n ∧ s = .int .i64 h ∧ wr.ownsRow w.heap.size 21 1 v (ms X Y r i h).length (row (ms X Y r i h)) ∧ Below w.heap.size w wr) (fun _ s _ => n - (intOf s).toNat)
  case atStart => exact ⟨0, Nat.zero_le _, rfl, by simpa [ms, row] using World.ownsRow_nil w w.heap.size 21 1, Below.refl _ _⟩
  case round =>
    obtain ⟨h, hh, rfl, how, hbel⟩ := hrel
    by_cases hlt : h < n
    · have hs := ms_succ X Y r i h
      by_cases hih : h = i
      · subst hih
        have hsel : sel X Y r h h = false := by simp [sel]
        rw [hsel] at hs
        have HS : Hid (ms X Y r h (h + 1) = ms X Y r h h) := (by simpa using hs : ms X Y r h (h + 1) = ms X Y r h h)
        clear hs hsel
        have e1 : ((h : Int) == (h : Int)) = true := by simp
        go_wp2
        go_roundw
        case rel => exact ⟨h + 1, by omega, by go_num, by rw [HS.out]; exact how, hbel⟩
        case measure => simp [intOf]; omega
      · obtain ⟨⟨c1, c2⟩, ⟨b1, b2⟩, b3, b4⟩ := hcell h hlt
        have d1 := (hbel.cell (p := ⟨b, off + i * 2, none⟩) hb).trans ci1
        have d2 := (hbel.cell (p := ⟨b, off + i * 2 + 1, none⟩) hb).trans ci2
        have d3 := (hbel.cell (p := ⟨b, off + h * 2, none⟩) hb).trans c1
        have d4 := (hbel.cell (p := ⟨b, off + h * 2 + 1, none⟩) hb).trans c2
        obtain ⟨xj, hxj⟩ : ∃ xj, xj = X h := ⟨_, rfl⟩
        obtain ⟨yj, hyj⟩ : ∃ yj, yj = Y h := ⟨_, rfl⟩
        rw [← hxj] at d3 b1 b2
        rw [← hyj] at d4 b3 b4
        have hsel : sel X Y r i h = decide ((xi - xj) * (xi - xj) + (yi - yj) * (yi - yj) ≤ r * r) := by
          simp [sel, hih, HXI.out, HYI.out, hxj, hyj]
        clear c1 c2 hxj hyj
        rw [hsel] at hs
        have e1 : ((h : Int) == (i : Int)) = false := beq_eq_false_iff_ne.2 (by omega)
        have e2 : (i : Int) < (n : Int) := by omega
        have e3 : (h : Int) < (n : Int) := by omega
        obtain ⟨dx, hdx⟩ : ∃ dx, dx = xi - xj := ⟨_, rfl⟩
        obtain ⟨dy, hdy⟩ : ∃ dy, dy = yi - yj := ⟨_, rfl⟩
        have f1 : xi - xj = dx := hdx.symm
        have f2 : yi - yj = dy := hdy.symm
        have f3 : -255 ≤ dx := by omega
        have f4 : dx ≤ 255 := by omega
        have f5 : -255 ≤ dy := by omega
        have f6 : dy ≤ 255 := by omega
        obtain ⟨sx, hsx⟩ : ∃ sx, dx * dx = sx := ⟨_, rfl⟩
        obtain ⟨sy, hsy⟩ : ∃ sy, dy * dy = sy := ⟨_, rfl⟩
        obtain ⟨sr, hsr⟩ : ∃ sr, r * r = sr := ⟨_, rfl⟩
        have q1 := sq255 (a := dx) (by omega)
        have q2 := sq255 (a := dy) (by omega)
        have q3 := sq255 (a := r) (by omega)
        rw [hsx] at q1
        rw [hsy] at q2
        rw [hsr] at q3
        rw [f1, f2, hsx, hsy, hsr] at hs
        have HS : Hid (ms X Y r i (h + 1) = ms X Y r i h ++ (if decide (sx + sy ≤ sr) = true then [h] else [])) := hs
        obtain ⟨q11, q12⟩ := q1
        obtain ⟨q21, q22⟩ := q2
        obtain ⟨q31, q32⟩ := q3
        have w1 : IntKind.i64.wrap (sx + sy) = sx + sy := CSort.wrap_small (by omega) (by omega)
        clear hs hsel hdx hdy
        go_wp2
        go_region
        go_wp2
        go_region
        by_cases hle : sx + sy ≤ sr
        · have hlen := ms_len X Y r i h
          go_wp2_with (at_builtin; refine wpList_append_own _ rfl _ _ 61 rfl w.heap.size 21 i0 _ 1 4 Yba.underlying61 hi0 hz0 hz1 hz2 rfl (by decide) u7 (ms X Y r i h).length (row (ms X Y r i h)) rfl (((how.alloc _).drew).drew) ⟨wr.heap.size, 0, none⟩ 1 1 [.int .i32 (h : Int)] rfl rfl (World.news_of_block (cs := #[.int .i32 (h : Int)]) (t := 21) (fr := (0, 0)) (heap_alloc_new wr _)) (by simp [Value.oneCell']) (by unfold maxLen; omega) (by omega) (by have := hbel.size; simp; omega) ?_; intro v' w1 hown hgrow _)
          have hb2 : Below w.heap.size w w1 := ((((hbel.alloc hbel.size _).drew).drew).grown hgrow (by have := hbel.size; simp; omega) (fun k e => (how.lt k e).1))
          go_roundw
          case rel => exact ⟨h + 1, by omega, by go_num, by rw [HS.out, decide_eq_true hle]; simpa [row] using hown, hb2⟩
          case measure => simp [intOf]; omega
        · have hle' : sr < sx + sy := by omega
          go_wp2
          go_roundw
          case rel => exact ⟨h + 1, by omega, by go_num, by rw [HS.out, decide_eq_false hle]; simpa using how.drew.drew, below_drewN hbel 2⟩
          case measure => simp [intOf]; omega
    · obtain rfl : h = n := by omega
      go_wp2
      go_ret
      exact ⟨_, rfl, how, hbel⟩
end Go.Proofs.Ybulkyyu.CLaw
