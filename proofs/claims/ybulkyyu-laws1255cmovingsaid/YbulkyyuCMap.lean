/- The map of the grid: map[[2]int64][]int: what its operations do. -/
import Derived.Test.YbulkyyuCEqual
import Derived.WideKeyRuns
import Derived.Maps.Keyed
namespace Go.Proofs.Ybulkyyu.CMap
open Go.RowKit

def kv (k : Int × Int) : Value := .agg #[.int .i64 k.1, .int .i64 k.2]
theorem kv_inj {k l : Int × Int} (h : kv k = kv l) : k = l := by
  unfold kv at h
  simp at h
  exact Prod.ext h.1 h.2
theorem pk : Yba.prog.plainKey 2 = true := by kernel_rfl
theorem inf2 : ∃ i, Yba.prog.info? 2 = some i ∧ i.size = 1 := by
  have h : (Yba.prog.info? 2).map (·.size) = some 1 := by kernel_rfl
  cases e : Yba.prog.info? 2 with
  | none => rw [e] at h; cases h
  | some i => rw [e] at h; exact ⟨i, rfl, by simpa using h⟩
theorem cells2 : Yba.prog.cellsOf 2 = 1 := by kernel_rfl

theorem check_at (em : Bool) (n : Nat) (k : Int × Int) (w : World) : (Instr.checkKey em (n + 1 + 1) 126 (kv k)).run Yba.prog w = .ok () w := by
  obtain ⟨i, hi, hs⟩ := inf2
  have p0 : (part 2 #[.int .i64 k.1, .int .i64 k.2] 0).run Yba.prog w = .ok (.int .i64 k.1) w := run_part_plain w pk rfl
  have p1 : (part 2 #[.int .i64 k.1, .int .i64 k.2] 1).run Yba.prog w = .ok (.int .i64 k.2) w := run_part_plain w pk rfl
  have z : (sizeOf 2).run Yba.prog w = .ok 1 w := by have := run_sizeOf w hi; rwa [cells2] at this
  have c : ∀ x : Int, (Instr.checkKey em (n + 1) 2 (.int .i64 x)).run Yba.prog w = .ok () w := fun x => by
    simp [Instr.checkKey, run_underlying Yba.underlying2]
  unfold kv
  rw [Instr.checkKey]
  simp only [Sem.run_bind, run_underlying Yba.underlying126, Result.andThen_ok]
  simp only [Std.Legacy.Range.forIn_eq_forIn_range', Std.Legacy.Range.size, Nat.sub_zero, Nat.add_one_sub_one, Nat.div_one]
  simp [List.range', Sem.run_bind, z, p0, p1, c]
theorem check_kv (em : Bool) (k : Int × Int) (w : World) : (Instr.checkKey em 10000 126 (kv k)).run Yba.prog w = .ok () w := check_at em 9998 k w

theorem equal_at (n : Nat) (k l : Int × Int) (w : World) : (Op.equalIn (n + 1 + 1) 126 (kv k) (kv l)).run Yba.prog w = .ok (decide (k = l)) w := by
  obtain ⟨i, hi, hs⟩ := inf2
  have p0 : ∀ k : Int × Int, (part 2 #[.int .i64 k.1, .int .i64 k.2] 0).run Yba.prog w = .ok (.int .i64 k.1) w := fun k => run_part_plain w pk rfl
  have p1 : ∀ k : Int × Int, (part 2 #[.int .i64 k.1, .int .i64 k.2] 1).run Yba.prog w = .ok (.int .i64 k.2) w := fun k => run_part_plain w pk rfl
  have e : ∀ x y : Int, (Op.equalIn (n + 1) 2 (.int .i64 x) (.int .i64 y)).run Yba.prog w = .ok (x == y) w := fun x y => run_equalIn_int w n 2 .i64 .i64 x y Yba.underlying2
  unfold kv
  rw [run_equalIn_array w (n + 1) _ _ Yba.underlying126 hi, cells2]
  obtain ⟨k1, k2⟩ := k
  obtain ⟨l1, l2⟩ := l
  have q0 := p0 (k1, k2)
  have q1 := p1 (k1, k2)
  have q2 := p0 (l1, l2)
  have q3 := p1 (l1, l2)
  simp only at q0 q1 q2 q3 ⊢
  simp only [List.range, List.range.loop, Op.eqItems, Sem.run_bind, Nat.mul_one, q0, q2, e, Result.andThen_ok]
  by_cases h1 : k1 = l1
  · subst h1
    by_cases h2 : k2 = l2
    · subst h2; simp [q1, e]
    · simp [q1, q3, e, h2]
  · simp [h1]
theorem equal_kv (k l : Int × Int) (w : World) : (Op.equal 126 (kv k) (kv l)).run Yba.prog w = .ok (decide (k = l)) w := equal_at 9998 k l w

/-- The entries of the map: N of them, in the order of their making. -/
def ents (N : Nat) (key : Nat → Int × Int) (val : Nat → Value) : Array MapEntry := ((List.range N).map fun t => ⟨kv (key t), val t, t⟩).toArray
theorem ents_size (N : Nat) (key : Nat → Int × Int) (val : Nat → Value) : (ents N key val).size = N := by simp [ents]
theorem ents_get (N : Nat) (key : Nat → Int × Int) (val : Nat → Value) (t : Nat) (h : t < N) : (ents N key val)[t]? = some ⟨kv (key t), val t, t⟩ := by simp [ents, h]
theorem ents_list (N : Nat) (key : Nat → Int × Int) (val : Nat → Value) : (ents N key val).toList = (List.range N).map fun t => ⟨kv (key t), val t, t⟩ := by simp [ents]

theorem find_list (k : Int × Int) (key : Nat → Int × Int) (val : Nat → Value) (w : World) : ∀ (m s : Nat),
    ((∀ t, s ≤ t → t < s + m → key t ≠ k) ∧ (Instr.findAsking 126 (kv k) ((List.range' s m).map fun t => ⟨kv (key t), val t, t⟩) s).run Yba.prog w = .ok none w) ∨
    ∃ t, s ≤ t ∧ t < s + m ∧ key t = k ∧ (Instr.findAsking 126 (kv k) ((List.range' s m).map fun t => ⟨kv (key t), val t, t⟩) s).run Yba.prog w = .ok (some (t, val t)) w := by
  intro m
  induction m with
  | zero => intro s; exact .inl ⟨fun t h1 h2 => by omega, by simp [Instr.findAsking]⟩
  | succ m ih =>
    intro s
    by_cases h : k = key s
    · refine .inr ⟨s, Nat.le_refl _, by omega, h.symm, ?_⟩
      simp only [List.range'_succ, List.map_cons, Instr.findAsking, Sem.run_bind, equal_kv, Result.andThen_ok, decide_eq_true h, if_true, Sem.run_pure]
    · have e : (Instr.findAsking 126 (kv k) ((List.range' s (m + 1)).map fun t => ⟨kv (key t), val t, t⟩) s).run Yba.prog w = (Instr.findAsking 126 (kv k) ((List.range' (s + 1) m).map fun t => ⟨kv (key t), val t, t⟩) (s + 1)).run Yba.prog w := by
        simp only [List.range'_succ, List.map_cons, Instr.findAsking, Sem.run_bind, equal_kv, Result.andThen_ok, decide_eq_false h, Bool.false_eq_true, if_false]
      rcases ih (s + 1) with ⟨h1, h2⟩ | ⟨t, h1, h2, h3, h4⟩
      · refine .inl ⟨fun t t1 t2 => ?_, by rw [e]; exact h2⟩
        by_cases et : t = s
        · rw [et]; exact fun x => h x.symm
        · exact h1 t (by omega) (by omega)
      · exact .inr ⟨t, by omega, by omega, h3, by rw [e]; exact h4⟩

theorem find_kv (k : Int × Int) (N : Nat) (key : Nat → Int × Int) (val : Nat → Value) (w : World) :
    ((∀ t, t < N → key t ≠ k) ∧ (Instr.findKey 126 (kv k) (ents N key val).toList).run Yba.prog w = .ok none w) ∨
    ∃ t, t < N ∧ key t = k ∧ (Instr.findKey 126 (kv k) (ents N key val).toList).run Yba.prog w = .ok (some (t, val t)) w := by
  have hf : ∀ es, (Instr.findKey 126 (kv k) es).run Yba.prog w = (Instr.findAsking 126 (kv k) es).run Yba.prog w := fun es => run_findKey_eq w (by simp only [Yba.underlying126]) _ es
  rw [hf, ents_list, List.range_eq_range']
  rcases find_list k key val w N 0 with ⟨h1, h2⟩ | ⟨t, h1, h2, h3, h4⟩
  · exact .inl ⟨fun t ht => h1 t (Nat.zero_le _) (by omega), h2⟩
  · exact .inr ⟨t, by omega, h3, h4⟩

/-- A look-up: the value at the key, or nil. -/
theorem lookup_kv (k : Int × Int) (N : Nat) (key : Nat → Int × Int) (val : Nat → Value) (mb clock : Nat) (w : World) (hb : w.heap[mb]? = some (.map (ents N key val) clock)) :
    ∃ v, (Instr.lookup 91 (.map (some mb)) (kv k) false).run Yba.prog w = .ok v w ∧ ((v = .slice none 0 0 ∧ ∀ t, t < N → key t ≠ k) ∨ ∃ t, t < N ∧ key t = k ∧ v = val t) := by
  have hz : (zeroValue 74).run Yba.prog w = .ok (.slice none 0 0) w := by
    kernel_rfl
  rcases find_kv k N key val w with ⟨h1, h2⟩ | ⟨t, h1, h2, h3⟩
  · refine ⟨.slice none 0 0, ?_, .inl ⟨rfl, h1⟩⟩
    simp only [Instr.lookup, Sem.run_bind, run_underlying Yba.underlying91, MapKept.run_getObj_map hb, Sem.run_pure, Result.andThen_ok, check_kv, h2, hz]
    simp
  · refine ⟨val t, ?_, .inr ⟨t, h1, h2, rfl⟩⟩
    simp only [Instr.lookup, Sem.run_bind, run_underlying Yba.underlying91, MapKept.run_getObj_map hb, Sem.run_pure, Result.andThen_ok, check_kv, h3]
    simp

def putB (w : World) (b : Nat) (o : Obj) : World := { w with heap := w.heap.setIfInBounds b o }
theorem putB_same (w : World) (b : Nat) (o : Obj) (h : w.heap[b]? = some o) : putB w b o = w := by
  have e : w.heap.setIfInBounds b o = w.heap := by
    apply Array.ext_getElem?
    intro i
    by_cases hi : b = i
    · subst hi
      obtain ⟨hb, _⟩ := Array.getElem?_eq_some_iff.1 h
      rw [Array.getElem?_setIfInBounds_self_of_lt hb, h]
    · rw [Array.getElem?_setIfInBounds_ne hi]
  unfold putB
  rw [e]
theorem putB_get (w : World) (b : Nat) (o : Obj) (h : b < w.heap.size) : (putB w b o).heap[b]? = some o := Array.getElem?_setIfInBounds_self_of_lt h
theorem putB_ne (w : World) (b : Nat) (o : Obj) (i : Nat) (h : b ≠ i) : (putB w b o).heap[i]? = w.heap[i]? := Array.getElem?_setIfInBounds_ne h
theorem putB_size (w : World) (b : Nat) (o : Obj) : (putB w b o).heap.size = w.heap.size := Array.size_setIfInBounds ..
theorem putB_grown (w : World) (b : Nat) (o : Obj) : w.grownBy (putB w b o) (some b) :=
  ⟨rfl, rfl, rfl, by rw [putB_size]; exact Nat.le_refl _, fun k _ hne => putB_ne w b o k (fun e => hne (by rw [e]))⟩

def upd {α : Type} (f : Nat → α) (t : Nat) (x : α) : Nat → α := fun s => if s = t then x else f s
theorem upd_same {α : Type} (f : Nat → α) (t : Nat) (x : α) : upd f t x t = x := by simp [upd]
theorem upd_ne {α : Type} (f : Nat → α) (t : Nat) (x : α) (s : Nat) (h : s ≠ t) : upd f t x s = f s := by simp [upd, h]

theorem ents_push (N : Nat) (key : Nat → Int × Int) (val : Nat → Value) (k : Int × Int) (v : Value) : (ents N key val).push ⟨kv k, v, N⟩ = ents (N + 1) (upd key N k) (upd val N v) := by
  apply Array.ext_getElem?
  intro i
  by_cases hi : i < N
  · rw [Array.getElem?_push_lt (by rw [ents_size]; exact hi), ← Array.getElem?_eq_getElem, ents_get _ _ _ _ hi, ents_get _ _ _ _ (by omega), upd_ne _ _ _ _ (by omega), upd_ne _ _ _ _ (by omega)]
  · by_cases he : i = N
    · subst he
      rw [ents_get _ _ _ _ (by omega), upd_same, upd_same]
      have := Array.getElem?_push_size (xs := ents i key val) (x := (⟨kv k, v, i⟩ : MapEntry))
      rwa [ents_size] at this
    · rw [Array.getElem?_eq_none (by simp [ents_size]; omega), Array.getElem?_eq_none (by rw [ents_size]; omega)]

theorem ents_modify (N : Nat) (key : Nat → Int × Int) (val : Nat → Value) (t : Nat) (v : Value) : (ents N key val).modify t (fun e => { e with val := v }) = ents N key (upd val t v) := by
  apply Array.ext_getElem?
  intro i
  by_cases hi : i < N
  · rw [Array.getElem?_modify, ents_get _ _ _ _ hi, ents_get _ _ _ _ hi]
    by_cases he : t = i
    · subst he; simp [upd_same]
    · simp [he, upd_ne val t v i (fun e => he e.symm)]
  · rw [Array.getElem?_eq_none (by simp [ents_size]; omega), Array.getElem?_eq_none (by rw [ents_size]; omega)]
theorem ents_rekey (N : Nat) (key : Nat → Int × Int) (val : Nat → Value) (t : Nat) : (ents N key val).modify t (fun e => { e with key := kv (key t) }) = ents N key val := by
  apply Array.ext_getElem?
  intro i
  by_cases hi : i < N
  · rw [Array.getElem?_modify, ents_get _ _ _ _ hi]
    by_cases he : t = i
    · subst he; simp
    · simp [he]
  · rw [Array.getElem?_eq_none (by simp [ents_size]; omega), Array.getElem?_eq_none (by rw [ents_size]; omega)]

theorem stays_kv (k : Int × Int) (w : World) : (Instr.keyThatStays (kv k) (kv k)).run Yba.prog w = .ok (kv k) w := by
  have h : ∀ n, Instr.sameBits (n + 1) (kv k) (kv k) = true := fun n => by simp [kv, Instr.sameBits]
  unfold Instr.keyThatStays
  rw [if_pos (h 9999)]
  rfl

theorem entry_found (t N : Nat) (key : Nat → Int × Int) (val : Nat → Value) (mb clock : Nat) (w : World) (hb : w.heap[mb]? = some (.map (ents N key val) clock))
    (ht : t < N) (hf : (Instr.findKey 126 (kv (key t)) (ents N key val).toList).run Yba.prog w = .ok (some (t, val t)) w) :
    (Instr.mapEntry 91 (.map (some mb)) (kv (key t))).run Yba.prog w = .ok (.tuple #[val t, goInt t]) w := by
  have e := putB_same w mb _ hb
  simp only [Instr.mapEntry, Sem.run_bind, run_underlying Yba.underlying91, MapKept.run_getObj_map hb, Result.andThen_ok, check_kv, hf, ents_get _ _ _ _ ht, Option.map_some, Option.getD_some, stays_kv, ents_rekey, MapKept.run_setObj_map _ hb, Sem.run_pure]
  rw [show ({ w with heap := w.heap.setIfInBounds mb (.map (ents N key val) clock) } : World) = w from e]

theorem entry_new (k : Int × Int) (N : Nat) (key : Nat → Int × Int) (val : Nat → Value) (mb : Nat) (w : World) (hb : w.heap[mb]? = some (.map (ents N key val) N))
    (hf : (Instr.findKey 126 (kv k) (ents N key val).toList).run Yba.prog w = .ok none w) :
    (Instr.mapEntry 91 (.map (some mb)) (kv k)).run Yba.prog w = .ok (.tuple #[.slice none 0 0, goInt N]) (putB w mb (.map (ents (N + 1) (upd key N k) (upd val N (.slice none 0 0))) (N + 1))) := by
  have hz : (zeroValue 74).run Yba.prog w = .ok (.slice none 0 0) w := by kernel_rfl
  simp only [Instr.mapEntry, Sem.run_bind, run_underlying Yba.underlying91, MapKept.run_getObj_map hb, Result.andThen_ok, check_kv, hf, hz, ents_push, MapKept.run_setObj_map _ hb, Sem.run_pure]
  rfl

theorem store_kv (t N : Nat) (key : Nat → Int × Int) (val : Nat → Value) (mb clock : Nat) (v : Value) (w : World) (hb : w.heap[mb]? = some (.map (ents N key val) clock)) (ht : t < N) :
    (Instr.entryStore 91 (.map (some mb)) (goInt t) v).run Yba.prog w = .ok () (putB w mb (.map (ents N key (upd val t v)) clock)) := by
  have hf : (ents N key val).findIdx? (fun e => (e.born : Int) == (t : Int)) = some t := by
    rw [Array.findIdx?_eq_some_iff_getElem]
    refine ⟨by rw [ents_size]; exact ht, ?_, fun j hj => ?_⟩
    · simp [ents]
    · simp [ents]; omega
  have ha : (asInt (goInt t)).run Yba.prog w = .ok (t : Int) w := rfl
  simp only [Instr.entryStore, Sem.run_bind, MapKept.run_getObj_map hb, Result.andThen_ok, ha, hf, ents_modify, MapKept.run_setObj_map _ hb]
  rfl
end Go.Proofs.Ybulkyyu.CMap
