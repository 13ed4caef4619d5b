/- The law's own join of the paths, and the two laws of this seat. -/
import Derived.Test.YbulkzayRoom
import Derived.Lib.AppendStr
namespace Go.Proofs.Ybulkzay.Room
open Go.RowKit

theorem Yba.info5 : (Yba.prog.info? 5).map (fun i => (i.zero, i.size, i.bytes)) = some (some (.int .u8 0), 1, 1) := by kernel_rfl

theorem own_len {w : World} {base N : Nat} {v : Value} {xs : List Value} (h : w.ownsRow base 5 1 v N xs) : ∃ a c, v = .slice a N c := by
  rcases h.2 with ⟨rfl, h0⟩ | ⟨g, cap, cur, rfl, _⟩
  · exact ⟨none, 0, by rw [h0]⟩
  · exact ⟨_, cap, rfl⟩

set_option maxRecDepth 100000 in
set_option maxHeartbeats 1000000 in
theorem join_any (a : Option Addr) (n c : Nat) (s : Nat → ByteArray) (w : World) (hn : n ≤ 1024) (hs : ∀ j, j < n → (s j).size ≤ 1048576) (ha : StrAt w a n s) :
    Calls Yba.prog 6 #[.slice a n c] w fun e w' => ∃ v c, e = .returned (.slice v (room s n) c) ∧ Below w.heap.size w w' := by
  obtain ⟨i0, hi, hz0, hz1, hz2⟩ := info_parts Yba.info5
  go_enter Yba.func6, Yba.ntmps6
  go_wp2
  go_loopw [3, 4] (fun v i wr => ∃ (k : Nat) (xs : List Value), k ≤ n ∧ i = .int .i64 k ∧ wr.ownsRow w.heap.size 5 1 v (room s k) xs ∧ Below w.heap.size w wr) (fun _ i _ => n - (intOf i).toNat)
  case atStart => exact ⟨0, [], Nat.zero_le _, rfl, World.ownsRow_nil _ _ _ _, Below.refl _ _⟩
  case round =>
    obtain ⟨k, xs, hk, rfl, how, hbel⟩ := hrel
    have ht := tot_le s n hs k hk
    have hrm : room s k ≤ k + k * 1048576 := by unfold room; omega
    have hsz := hbel.size
    by_cases hlt : k < n
    · obtain ⟨b, off, rfl, hb, hc⟩ := ha (by omega)
      have hck : wr.cell? ⟨b, off + k, none⟩ = some (.string (s k)) := (hbel.cell hb).trans (hc k hlt)
      have hsk := hs k hlt
      have hrs : room s (k + 1) = if k = 0 then room s k + (s k).size else room s k + 1 + (s k).size := by
        unfold room
        rw [tot]
        split <;> omega
      have HR : Hid (room s (k + 1) = if k = 0 then room s k + (s k).size else room s k + 1 + (s k).size) := hrs
      clear hrs hc
      by_cases h0 : k = 0
      · have hd : (k : Int) < 1 := by omega
        have H0 : Hid (k = 0) := h0
        clear h0
        go_wp2_with (at_builtin; refine Lib.wpList_append_own_string _ rfl (.tmp 16) (.tmp 20) 24 9 rfl w.heap.size 5 i0 Yba.underlying24 Yba.underlying9 hi hz0 hz1 hz2 _ (room s k) xs rfl how (s k) rfl (by unfold maxLen; omega) (by omega) hsz ?_; intro v1 w1 how1 hgr1 _)
        have hb1 : Below w.heap.size w w1 := hbel.grown hgr1 hsz (fun k e => (how.lt k e).1)
        have e1 : room s (k + 1) = room s k + (s k).size := by rw [HR.out, if_pos H0.out]
        go_roundw
        case rel => exact ⟨k + 1, _, by omega, by go_num, by rw [e1]; exact how1, hb1⟩
        case measure => simp [intOf]; omega
      · have hd : (0 : Int) < (k : Int) := by omega
        have H0 : Hid (¬ k = 0) := h0
        clear h0
        go_wp2_with (first | (at_builtin; refine wpList_append_own _ rfl (.tmp 13) (.tmp 14) 24 rfl w.heap.size 5 i0 _ 1 1 Yba.underlying24 hi hz0 hz1 hz2 rfl (by decide) _ (room s k) xs rfl (how.alloc _) ⟨wr.heap.size, 0, none⟩ 1 1 [.int .u8 44] rfl rfl (cell_one_new _ _ _) (by simp [Value.oneCell']) (by unfold maxLen; omega) (by omega) (by simp; omega) ?_; intro v1 w1 how1 hgr1 _; have hb1 : Below w.heap.size w w1 := (hbel.alloc hsz _).grown hgr1 (by simp; omega) (fun k e => (how.lt k e).1); have hsz1 := hb1.size; have hck1 : w1.cell? ⟨b, off + k, none⟩ = some (.string (s k)) := (hb1.cell hb).trans ((hbel.cell hb).symm.trans hck)) | (at_builtin; refine Lib.wpList_append_own_string _ rfl (.tmp 16) (.tmp 20) 24 9 rfl w.heap.size 5 i0 Yba.underlying24 Yba.underlying9 hi hz0 hz1 hz2 _ (room s k + 1) _ rfl how1 (s k) rfl (by unfold maxLen; omega) (by omega) hsz1 ?_; intro v2 w2 how2 hgr2 _))
        have hb2 : Below w.heap.size w w2 := hb1.grown hgr2 hsz1 (fun k e => (how1.lt k e).1)
        have e1 : room s (k + 1) = room s k + 1 + (s k).size := by rw [HR.out, if_neg H0.out]
        go_roundw
        case rel => exact ⟨k + 1, _, by omega, by go_num, by rw [e1]; exact how2, hb2⟩
        case measure => simp [intOf]; omega
    · obtain rfl : k = n := by omega
      obtain ⟨v, c', rfl⟩ := own_len how
      go_wp2
      go_ret
      exact ⟨_, _, rfl, hbel⟩

theorem strAt_below {w w' : World} {a : Option Addr} {n : Nat} {s : Nat → ByteArray} (h : StrAt w a n s) (hb : Below w.heap.size w w') : StrAt w' a n s := by
  intro h0
  obtain ⟨b, off, rfl, hlt, hc⟩ := h h0
  exact ⟨b, off, rfl, Nat.lt_of_lt_of_le hlt hb.size, fun j hj => (hb.cell hlt).trans (hc j hj)⟩

set_option maxRecDepth 100000 in
set_option maxHeartbeats 1000000 in
theorem joined (a : Option Addr) (n c : Nat) (s : Nat → ByteArray) (w : World) (ha : StrAt w a n s) :
    Calls Yba.prog 3 #[.slice a n c] w fun e w' => e = .returned (.bool true) ∧ Below w.heap.size w w' := by
  by_cases hn : 1024 < n
  · go_enter Yba.func3, Yba.ntmps3
    go_wp2
    go_ret
    exact ⟨rfl, Below.refl _ _⟩
  · have hn' : n ≤ 1024 := by omega
    clear hn
    go_enter Yba.func3, Yba.ntmps3
    go_wp2
    go_loop [3] (fun i => ∃ k : Nat, k ≤ n ∧ i = .int .i64 k ∧ ∀ j, j < k → (s j).size ≤ 1048576) (fun i => n - (intOf i).toNat)
    case atStart => exact ⟨0, Nat.zero_le _, rfl, fun j hj => by omega⟩
    case round =>
      obtain ⟨k, hk, rfl, hs⟩ := hrel
      by_cases hlt : k < n
      · obtain ⟨b, off, rfl, hb, hc⟩ := ha (by omega)
        have hck := hc k hlt
        by_cases hbig : 1048576 < (s k).size
        · go_wp2
          go_ret
          exact ⟨rfl, Below.refl _ _⟩
        · have hsm : (s k).size ≤ 1048576 := by omega
          clear hbig
          go_wp2
          go_round
          case rel => exact ⟨k + 1, by omega, by go_num, fun j hj => by
            by_cases e : j = k
            · rw [e]; exact hsm
            · exact hs j (by omega)⟩
          case measure => simp [intOf]; omega
      · obtain rfl : k = n := by omega
        have c1 := room_any a k c s w (by omega) hs ha
        have c2 := join_any a k c s w hn' hs ha
        clear ha
        go_wp2_with fail
        refine c1.mono ?_
        rintro e w1 ⟨rfl, rfl⟩
        go_wp2_with fail
        refine c2.mono ?_
        rintro e w2 ⟨v, c', rfl, hb⟩
        go_wp2
        go_ret
        exact ⟨rfl, hb⟩

theorem Yba.info9 : (Yba.prog.info? 9).map (fun i => (i.zero, i.size, i.bytes)) = some (some (.string ByteArray.empty), 1, 16) := by kernel_rfl
def zer (z : Value) (size n : Nat) : Array Value := madeCells z.cells (n * size)
theorem make22 (n : Nat) (hn : n ≤ 1024) (W : World) :
    (Instr.makeSlice 22 (.int .i64 0) (.int .i64 ((n : Int) + 1))).run Yba.prog W = .ok (.slice (some ⟨W.heap.size, 0, none⟩) 0 (n + 1)) (W.alloc (.cells (zer (.string ByteArray.empty) 1 (n + 1)) 9)) := by
  obtain ⟨i, hi, hz0, hz1, hz2⟩ := info_parts Yba.info9
  have h := run_make (P := Yba.prog) W 22 9 i _ Yba.underlying22 hi hz0 .i64 .i64 0 ((n : Int) + 1) (by omega) (by omega) (by rw [hz2]; omega) (by omega)
  rw [hz1, show ((n : Int) + 1).toNat = n + 1 by omega] at h
  exact h
theorem owns22 (W : World) (n : Nat) (hn : n ≤ 1024) : (W.alloc (.cells (zer (.string ByteArray.empty) 1 (n + 1)) 9)).ownsRow W.heap.size 9 1 (.slice (some ⟨W.heap.size, 0, none⟩) 0 (n + 1)) 0 [] :=
  World.ownsRow_made W _ (n + 1) (Nat.le_refl _) (by unfold maxLen; omega) (by simp [zer, size_madeCells])

def row (s : Nat → ByteArray) (t : Nat) : List Value := (List.range t).map fun j => .string (s j)
theorem row_succ (s : Nat → ByteArray) (t : Nat) : row s (t + 1) = row s t ++ [.string (s t)] := by simp [row, List.range_succ]
theorem row_get (s : Nat → ByteArray) (t j : Nat) (h : j < t) : (row s t)[j]? = some (.string (s j)) := by simp [row, h]
theorem row_congr (s s' : Nat → ByteArray) (t : Nat) (h : ∀ j, j < t → s j = s' j) : row s t = row s' t := by
  unfold row
  exact List.map_congr_left fun j hj => by rw [h j (by simpa using hj)]

theorem strAt_own {w : World} {g t cap : Nat} {s : Nat → ByteArray} (h : w.ownsRow g 9 1 (.slice (some ⟨g, 0, none⟩) t cap) t (row s t)) : StrAt w (some ⟨g, 0, none⟩) t s := by
  intro h0
  refine ⟨g, 0, rfl, (h.lt g rfl).2, fun j hj => ?_⟩
  rw [Nat.zero_add, h.cellAt j (by omega)]
  exact row_get s t j hj

/-- s with the string x in place n. -/
def put (s : Nat → ByteArray) (n : Nat) (x : ByteArray) : Nat → ByteArray := fun j => if j = n then x else s j

theorem room_put (s : Nat → ByteArray) (n : Nat) (x : ByteArray) : room (put s n x) (n + 1) = n + tot s n + x.size := by
  unfold room
  rw [tot, tot_congr (put s n x) s n (fun j hj => by unfold put; rw [if_neg (by omega)])]
  unfold put
  rw [if_pos rfl]
  omega

set_option maxRecDepth 100000 in
set_option maxHeartbeats 1000000 in
theorem append_one (a : Option Addr) (n c : Nat) (s : Nat → ByteArray) (x : ByteArray) (w : World) (ha : StrAt w a n s) :
    Calls Yba.prog 4 #[.slice a n c, .string x] w fun e w' => e = .returned (.bool true) ∧ Below w.heap.size w w' := by
  by_cases hn : 1024 < n
  · go_enter Yba.func4, Yba.ntmps4
    go_wp2
    go_ret
    exact ⟨rfl, Below.refl _ _⟩
  by_cases hx : 1048576 < x.size
  · have hn' : n ≤ 1024 := by omega
    go_enter Yba.func4, Yba.ntmps4
    go_wp2
    go_ret
    exact ⟨rfl, Below.refl _ _⟩
  have hn' : n ≤ 1024 := by omega
  have hx' : x.size ≤ 1048576 := by omega
  clear hn hx
  obtain ⟨i0, hi, hz0, hz1, hz2⟩ := info_parts Yba.info9
  have mk := make22 n hn'
  go_enter Yba.func4, Yba.ntmps4
  go_wp2
  go_loop [5] (fun i => ∃ k : Nat, k ≤ n ∧ i = .int .i64 k ∧ ∀ j, j < k → (s j).size ≤ 1048576) (fun i => n - (intOf i).toNat)
  case atStart => exact ⟨0, Nat.zero_le _, rfl, fun j hj => by omega⟩
  case round =>
    obtain ⟨k, hk, rfl, hs⟩ := hrel
    by_cases hlt : k < n
    · obtain ⟨b, off, rfl, hb, hc⟩ := ha (by omega)
      have hck := hc k hlt
      by_cases hbig : 1048576 < (s k).size
      · go_wp2
        go_ret
        exact ⟨rfl, Below.refl _ _⟩
      · have hsm : (s k).size ≤ 1048576 := by omega
        clear hbig
        go_wp2
        go_round
        case rel => exact ⟨k + 1, by omega, by go_num, fun j hj => by
          by_cases e : j = k
          · rw [e]; exact hsm
          · exact hs j (by omega)⟩
        case measure => simp [intOf]; omega
    · obtain rfl : k = n := by omega
      clear hlt hk
      go_wp2
      go_loopw [6, 7] (fun v i wr => ∃ t : Nat, t ≤ k ∧ i = .int .i64 t ∧ v = .slice (some ⟨w.heap.size, 0, none⟩) t (k + 1) ∧ wr.ownsRow w.heap.size 9 1 (.slice (some ⟨w.heap.size, 0, none⟩) t (k + 1)) t (row s t) ∧ Below w.heap.size w wr) (fun _ i _ => k - (intOf i).toNat)
      case atStart => exact ⟨0, Nat.zero_le _, rfl, rfl, owns22 w k hn', (Below.refl _ _).alloc (Nat.le_refl _) _⟩
      case round =>
        obtain ⟨t, ht, rfl, rfl, how, hbel⟩ := hrel
        have hsz := hbel.size
        by_cases hlt : t < k
        · obtain ⟨b, off, rfl, hb, hc⟩ := ha (by omega)
          have hck : wr.cell? ⟨b, off + t, none⟩ = some (.string (s t)) := (hbel.cell hb).trans (hc t hlt)
          clear hc
          go_wp2_with (at_builtin; refine wpList_append_fits _ rfl _ _ 22 rfl w.heap.size 9 i0 1 Yba.underlying22 hi hz1 w.heap.size t (k + 1) (row s t) rfl (how.alloc _) ⟨wr.heap.size, 0, none⟩ 1 1 [.string (s t)] rfl rfl (cell_one_new _ _ _) (by simp [Value.oneCell']) (by omega) ?_; intro w1 how1 hgr)
          rw [← row_succ] at how1
          have hb1 : Below w.heap.size w w1 := (hbel.alloc hsz _).grown hgr (by simp; omega) (fun k e => by cases e; exact Nat.le_refl _)
          clear hgr how
          go_roundw
          case rel => exact ⟨t + 1, by omega, by go_num, rfl, how1, hb1⟩
          case measure => simp [intOf]; omega
        · obtain rfl : t = k := by omega
          clear hlt ht mk ha
          go_wp2_with fail
          have hput : ∀ j, j < t + 1 → (put s t x j).size ≤ 1048576 := fun j hj => by
            unfold put
            split
            · exact hx'
            · exact hs j (by omega)
          have hr1 : room s t = t - 1 + tot s t := rfl
          have hr2 := room_put s t x
          have htt := tot_le s t hs t (Nat.le_refl _)
          have hA : 0 < t → ((room (put s t x) (t + 1) : Int) == (room s t : Int) + 1 + (x.size : Int)) = true := fun h => beq_iff_eq.2 (by omega)
          have hB : t = 0 → ((room (put s t x) (t + 1) : Int) == (room s t : Int) + 0 + (x.size : Int)) = true := fun h => beq_iff_eq.2 (by omega)
          have hb1 : room s t ≤ 2147483648 := by omega
          have HA := hA
          replace HA : Hid (0 < t → ((room (put s t x) (t + 1) : Int) == (room s t : Int) + 1 + (x.size : Int)) = true) := hA
          have HB : Hid (t = 0 → ((room (put s t x) (t + 1) : Int) == (room s t : Int) + 0 + (x.size : Int)) = true) := hB
          clear hr1 hr2 htt hA hB
          refine (room_any _ t (t + 1) s wr (by omega) hs (strAt_own how)).mono ?_
          rintro e w0 ⟨rfl, rfl⟩
          go_wp2_with (at_builtin; refine wpList_append_fits _ rfl _ _ 22 rfl w.heap.size 9 i0 1 Yba.underlying22 hi hz1 w.heap.size t (t + 1) (row s t) rfl (how.alloc _) ⟨w0.heap.size, 0, none⟩ 1 1 [.string x] rfl rfl (cell_one_new _ _ _) (by simp [Value.oneCell']) (by omega) ?_; intro w1 how1 hgr)
          have er : row s t ++ [.string x] = row (put s t x) (t + 1) := by
            rw [row_succ, row_congr (put s t x) s t (fun j hj => by unfold put; rw [if_neg (by omega)])]
            simp [put]
          rw [er] at how1
          have hb2 : Below w.heap.size w w1 := (hbel.alloc hsz _).grown hgr (by simp; omega) (fun k e => by cases e; exact Nat.le_refl _)
          refine (room_any _ (t + 1) (t + 1) (put s t x) w1 (by omega) hput (strAt_own how1)).mono ?_
          rintro e w2 ⟨rfl, rfl⟩
          clear how how1 hgr hput er
          by_cases h0 : 0 < t
          · have hA := HA.out h0
            go_wp2
            go_ret
            exact ⟨rfl, hb2⟩
          · have hB := HB.out (by omega)
            rw [Int.add_zero] at hB
            have h1 : (t : Int) < 1 := by omega
            clear h0
            go_wp2
            go_ret
            exact ⟨rfl, hb2⟩
end Go.Proofs.Ybulkzay.Room
