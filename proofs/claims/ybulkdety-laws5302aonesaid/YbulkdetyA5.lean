import Derived.Test.YbulkdetyA4
import Derived.Lib.AppendZerosOnto
import Derived.Lib.SliceRun
namespace Go.Proofs.Ybulkdety
open Go.RowKit Go.Lib

/-- A bucket's zero cells. -/
def bzero : Array Value := #[.int .u8 0, .int .u8 0, .int .u8 0, .int .u8 0, .int .u8 0, .int .u8 0, .int .u8 0, .int .u8 0, .int .i64 0, .int .i64 0, .int .i64 0, .int .i64 0, .int .i64 0, .int .i64 0, .int .i64 0, .int .i64 0, .int .i64 0, .int .i64 0, .int .i64 0, .int .i64 0, .int .i64 0, .int .i64 0, .int .i64 0, .int .i64 0]
theorem info50 : (Yba.prog.info? 50).map (fun i => (i.zero, i.size, i.bytes)) = some (some (.agg bzero), 24, 136) := by kernel_rfl
theorem bzero_top (c : Nat) (h : c < 8) : bzero[c]? = some (.int .u8 0) := by
  obtain rfl | rfl | rfl | rfl | rfl | rfl | rfl | rfl : c = 0 ∨ c = 1 ∨ c = 2 ∨ c = 3 ∨ c = 4 ∨ c = 5 ∨ c = 6 ∨ c = 7 := by omega
  all_goals rfl

theorem zeroCells_at (z : Array Value) (n k : Nat) (hk : k < n * z.size) : (Builtin.zeroCells z n)[k]? = z[k % z.size]? := by
  unfold Builtin.zeroCells
  have hz : 0 < z.size := by
    rcases Nat.eq_zero_or_pos z.size with h | h
    · rw [h] at hk; simp at hk
    · exact h
  have hm : k % z.size < z.size := Nat.mod_lt _ hz
  rw [Array.getElem?_eq_getElem (by simpa using hk), Array.getElem?_eq_getElem hm]
  simp [hm]
theorem zeroCells_size (z : Array Value) (n : Nat) : (Builtin.zeroCells z n).size = n * z.size := by simp [Builtin.zeroCells]

/-- A new page of n buckets and what lies behind them: bucket i's cell c. -/
theorem page_at (n m i c : Nat) (hi : i < n + m) (hc : c < 24) : (Builtin.zeroCells bzero n ++ Builtin.zeroCells bzero m)[i * 24 + c]? = bzero[c]? := by
  have hs : bzero.size = 24 := rfl
  by_cases h : i < n
  · rw [Array.getElem?_append_left (by rw [zeroCells_size, hs]; omega), zeroCells_at _ _ _ (by rw [hs]; omega), hs]
    congr 1
    omega
  · rw [Array.getElem?_append_right (by rw [zeroCells_size, hs]; omega), zeroCells_size, hs, zeroCells_at _ _ _ (by rw [hs]; omega), hs]
    congr 1
    omega

/-- A block of buckets that a call has made: 'cap' buckets, all zero. -/
structure NewPage (P cap : Nat) (w w' : World) : Prop where
  below : Below w.heap.size w w'
  at_ : P = w.heap.size
  size : w'.heap.size = w.heap.size + 1
  cell : ∀ i c, i < cap → c < 8 → w'.cell? ⟨P, i * 24 + c, none⟩ = some (.int .u8 0)
  frz : ∀ i, w'.frozen? ⟨P, i, none⟩ = false
  blk : ∃ cs, IsBlk w' P cs 50

theorem heap_new (w : World) (o : Obj) : (w.alloc o).heap[w.heap.size]? = some o := by
  show (w.heap.push o)[w.heap.size]? = some o
  simp
theorem cellOf {w : World} {b : Nat} {cs : Array Value} {t : TypeId} {f : Nat × Nat} (h : w.heap[b]? = some (.cells cs t f)) {i : Nat} : w.cell? ⟨b, i, none⟩ = cs[i]? := by
  simp [World.cell?, h]
theorem frozenOf {w : World} {b : Nat} {cs : Array Value} {t : TypeId} (h : w.heap[b]? = some (.cells cs t)) {i : Nat} : w.frozen? ⟨b, i, none⟩ = false := by
  simp [World.frozen?, h]
theorem newPage (n cap : Nat) (h : n ≤ cap) (w : World) : NewPage w.heap.size cap w (w.drew.alloc (.cells (Builtin.zeroCells bzero n ++ Builtin.zeroCells bzero (cap - n)) 50)) := by
  refine ⟨(Below.refl _ _).drew.alloc (Nat.le_refl _) _, rfl, by simp, fun i c hi hc => ?_, fun i => ?_, ⟨_, heap_new w.drew _⟩⟩
  · rw [← bzero_top c hc, ← page_at n (cap - n) i c (by omega) (by omega)]
    exact cellOf (heap_new w.drew _)
  · exact frozenOf (heap_new w.drew _)

set_option maxHeartbeats 400000 in
theorem grow_nil (n : Nat) (h1 : 1 ≤ n) (h2 : n ≤ 1024) (w : World) :
    Calls Yba.prog 18 #[.slice none 0 0, .int .i64 n] w fun e w' => ∃ cap P, n ≤ cap ∧ cap ≤ maxLen ∧ e = .returned (.slice (some ⟨P, 0, none⟩) 0 cap) ∧ NewPage P cap w w' := by
  obtain ⟨i0, hi, hz0, hz1, hz2⟩ := info_parts info50
  have hrz : ∀ ty, (Builtin.append_ #[51, 3] ty #[.slice none 0 0, .int .i64 n]).run Yba.prog w = _ := fun ty =>
    run_append_nil_zeros w 51 3 ty 50 i0 _ .i64 .i64 Yba.underlying51 Yba.underlying3 hi hz0 n (by omega) (by omega) (by omega) (by rw [hz2]; omega)
  have hP := newPage n (grownCap w n 0 50) (grownCap_ge w n 0 50) w
  have hge := grownCap_ge w n 0 50
  have hle := grownCap_le_maxLen w n 0 50 (by unfold maxLen; omega)
  generalize grownCap w n 0 50 = G at hrz hP hge hle
  have hle' : G ≤ 9223372036854775807 := by unfold maxLen at hle; omega
  have HP : Hid (∃ cap P, n ≤ cap ∧ cap ≤ maxLen ∧ Ending.returned (.slice (some ⟨w.heap.size, 0, none⟩) 0 G) = .returned (.slice (some ⟨P, 0, none⟩) 0 cap) ∧ NewPage P cap w (w.drew.alloc (.cells (Builtin.zeroCells bzero n ++ Builtin.zeroCells bzero (G - n)) 50))) := ⟨G, _, hge, hle, rfl, hP⟩
  clear hP hle hz0 hz1 hz2 hi
  go_enter Yba.func18, Yba.ntmps18
  go_wp2_with (at_builtin; refine Lib.wpList_append_run _ rfl _ _ _ _ rfl _ _ rfl rfl _ _ (hrz _) ?_)
  go_ret
  exact HP.out
end Go.Proofs.Ybulkdety
