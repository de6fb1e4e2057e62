import Derived.Test.YbulkdetyA8
import Derived.Test.YbulkdetyC1
import Derived.Test.YbulkdetyC2
namespace Go.Proofs.Ybulkdety
open Go.RowKit Go.Lib
set_option linter.unusedVariables false

set_option maxHeartbeats 400000 in
theorem linkHash_any (i : Nat) (hi : i ≤ 1000000) (w : World) :
    Calls Yba.prog 22 #[.int .i64 i] w fun e w' => e = .returned (.int .u64 (hashN i)) ∧ w' = w := by
  go_enter Yba.func22, Yba.ntmps22
  go_wp2
  go_ret
  exact ⟨rfl, rfl⟩

theorem hashN_lt (i : Nat) : hashN i < 18446744073709551616 := Nat.mod_lt _ (by decide)
theorem homeN_lt (i : Nat) : homeN i < 4294967296 := by
  have := hashN_lt i
  unfold homeN
  omega

theorem slot_wrap (h : Nat) (hh : h < 18446744073709551616) : wrap64 ((h : Int) / 4294967296) = ((h / 4294967296 : Nat) : Int) := by
  unfold wrap64
  omega

set_option maxHeartbeats 400000 in
theorem slotHash_core (h q : Nat) (hq : wrap64 ((h : Int) / 4294967296) = (q : Int)) (w : World) :
    Calls Yba.prog 26 #[.int .u64 h] w fun e w' => e = .returned (.int .i64 (q : Int)) ∧ w' = w := by
  have HQ : Hid (wrap64 ((h : Int) / 4294967296) = (q : Int)) := hq
  clear hq
  go_enter Yba.func26, Yba.ntmps26
  go_wp2
  go_ret
  exact ⟨ret_int HQ.out, rfl⟩
theorem slotHash_any (f : Nat) (w : World) :
    Calls Yba.prog 26 #[.int .u64 (hashN f)] w fun e w' => e = .returned (.int .i64 (homeN f)) ∧ w' = w :=
  slotHash_core (hashN f) (homeN f) (slot_wrap _ (hashN_lt f)) w

/-- A mask of a power of two is a remainder. -/
theorem and_mask (a p m : Nat) (hm : m = 2 ^ p) (ha : a < 9223372036854775808) (hp : p ≤ 20) : bits .and .i64 (a : Int) ((m : Int) - 1) = ((a % m : Nat) : Int) := by
  have hpos : 0 < 2 ^ p := Nat.two_pow_pos p
  have hle : 2 ^ p ≤ 2 ^ 20 := Nat.pow_le_pow_right (by decide) hp
  have h1 : ((m : Int) - 1) = ((2 ^ p - 1 : Nat) : Int) := by rw [hm]; omega
  rw [h1, i64_and_nat a (2 ^ p - 1) ha (by omega), Nat.and_two_pow_sub_one_eq_mod, hm]

/-- The table in memory: its slots' row lies in block L. -/
structure TabAt (w : World) (L m : Nat) (tab : Nat → Nat × Nat) : Prop where
  blk : ∃ ls, IsBlk w L ls 74
  from_ : ∀ s, s < m → w.cell? ⟨L, s * 2, none⟩ = some (.int .i64 (tab s).1)
  next : ∀ s, s < m → w.cell? ⟨L, s * 2 + 1, none⟩ = some (.int .i64 (tab s).2)

theorem TabAt.lt {w : World} {L m : Nat} {tab : Nat → Nat × Nat} (h : TabAt w L m tab) : L < w.heap.size := by obtain ⟨_, h⟩ := h.blk; exact h.lt
theorem TabAt.frozen {w : World} {L m : Nat} {tab : Nat → Nat × Nat} (h : TabAt w L m tab) (i : Nat) : w.frozen? ⟨L, i, none⟩ = false := by obtain ⟨_, h⟩ := h.blk; exact h.frozen i
theorem TabAt.turn {M : Nat → Prop} {w w' : World} {L m : Nat} {tab : Nat → Nat × Nat} (h : TabAt w L m tab) (k : Turn M w w') (hL : ¬ M L) : TabAt w' L m tab := by
  refine ⟨?_, fun s hs => ?_, fun s hs => ?_⟩
  · obtain ⟨ls, hb⟩ := h.blk; exact ⟨ls, hb.turn k hL⟩
  · rw [k.cell h.lt hL]; exact h.from_ s hs
  · rw [k.cell h.lt hL]; exact h.next s hs
theorem TabAt.ne {w : World} {L m : Nat} {tab : Nat → Nat × Nat} (h : TabAt w L m tab) {b : Nat} {cs : Array Value} {t : TypeId} (hb : IsBlk w b cs t) (ht : t ≠ 74) : b ≠ L := by
  obtain ⟨ls, hl⟩ := h.blk; exact hb.ne hl ht

/-- A link stored into a slot. -/
theorem TabAt.put {w : World} {L m : Nat} {tab : Nat → Nat × Nat} (h : TabAt w L m tab) (s f x : Nat) (hs : s < m) :
    TabAt ((w.setCell ⟨L, s * 2, none⟩ (.int .i64 f)).setCell ⟨L, s * 2 + 1, none⟩ (.int .i64 x)) L m (upd tab s (f, x)) := by
  refine ⟨?_, fun s' hs' => ?_, fun s' hs' => ?_⟩
  · obtain ⟨ls, hb⟩ := h.blk; exact ⟨_, (hb.set _ _).set _ _⟩
  · rw [World.cell?_setCell_other _ _ _ _ (by simp <;> omega)]
    by_cases e : s' = s
    · subst e; rw [upd_same]; exact World.cell?_setCell_same _ _ _ (h.from_ s' hs')
    · rw [World.cell?_setCell_other _ _ _ _ (by simp <;> omega), upd_other _ _ _ _ e]; exact h.from_ s' hs'
  · by_cases e : s' = s
    · subst e; rw [upd_same]
      exact World.cell?_setCell_same _ _ _ ((World.cell?_setCell_other _ _ _ _ (by simp)).trans (h.next s' hs'))
    · rw [World.cell?_setCell_other _ _ _ _ (by simp <;> omega), World.cell?_setCell_other _ _ _ _ (by simp <;> omega), upd_other _ _ _ _ e]; exact h.next s' hs'

theorem pr_succ (m H e : Nat) : (pr m H e + 1) % m = pr m H (e + 1) := by
  unfold pr
  rw [Nat.add_mod, Nat.mod_mod, ← Nat.add_mod]
  rfl

set_option maxHeartbeats 1000000 in
theorem put_core (L m p f x d H q : Nat) (tab : Nat → Nat × Nat) (w : World) (hH : H < 4294967296) (hS : ∀ w : World, Calls Yba.prog 26 #[.int .u64 q] w fun e w' => e = .returned (.int .i64 H) ∧ w' = w) (hm : m = 2 ^ p) (hp : p ≤ 10) (hT : TabAt w L m tab) (hdm : d < m) (hd : (tab (pr m H d)).2 = 0) (hlow : ∀ e, e < d → (tab (pr m H e)).2 ≠ 0)
    (hf : f ≤ 1000000) (hx : x ≤ 1000000) :
    Calls Yba.prog 23 #[.slice (some ⟨L, 0, none⟩) m m, .agg #[.int .i64 f, .int .i64 x], .int .u64 q] w fun e w' => e = .returned (.tuple #[]) ∧ TabAt w' L m (upd tab (pr m H d) (f, x)) ∧ Turn (· = L) w w' := by
  have hpos : 0 < m := by omega
  have hmb : m ≤ 1024 := by rw [hm]; exact Nat.pow_le_pow_right (n := 2) (i := p) (j := 10) (by decide) hp
  have hm0 := and_mask (H) p m hm (by omega) (by omega)
  have HM : Hid (∀ a : Nat, a < 9223372036854775808 → bits .and .i64 (a : Int) ((m : Int) - 1) = ((a % m : Nat) : Int)) := fun a ha => and_mask a p m hm ha (by omega)
  have e0 : H % m = pr m H 0 := by unfold pr; rw [Nat.add_zero]
  rw [e0] at hm0
  clear e0 hm
  go_enter Yba.func23, Yba.ntmps23
  go_wp2_with (go_at_call 26; refine (hS _).mono ?_; rintro e w' ⟨rfl, rfl⟩)
  have hB : Turn (· = L) w (w.alloc (.cells #[.int .i64 f, .int .i64 x] 74)) := (Turn.refl _ _).alloc _
  have hTa : TabAt (w.alloc (.cells #[.int .i64 f, .int .i64 x] 74)) L m tab := hT.turn ((Turn.refl (fun _ => False) _).alloc _) (by simp)
  have hne : L ≠ w.heap.size := by have := hT.lt; omega
  clear hT hm0
  go_loopg [7] d (fun k s wr => ∃ e : Nat, e ≤ d ∧ k = d - e ∧ s = .int .i64 (pr m H e) ∧ wr = w.alloc (.cells #[.int .i64 f, .int .i64 x] 74))
  case atStart => exact ⟨0, by omega, by omega, rfl, rfl⟩
  case round =>
    obtain ⟨e, hed, hgk, rfl, rfl⟩ := hrel
    have hpl : pr m H e < m := Nat.mod_lt _ hpos
    have hcn := hTa.next _ hpl
    by_cases hlt : e < d
    · have hnz := hlow e hlt
      have hnz' : (((tab (pr m H e)).2 : Int) != 0) = true := by simp; omega
      have hand := HM.out (pr m H e + 1) (by omega)
      rw [pr_succ] at hand
      have hand' : bits .and .i64 ((pr m H e : Int) + 1) ((m : Int) - 1) = ((pr m H (e + 1) : Nat) : Int) := by rw [← hand]; simp
      clear hand hnz hTa hB
      go_wp2
      go_roundg (d - (e + 1))
      case measure => omega
      case rel => exact ⟨e + 1, by omega, rfl, rfl, rfl⟩
    · obtain rfl : e = d := by omega
      have hz' : (((tab (pr m H e)).2 : Int) != 0) = false := by rw [hd]; rfl
      have hcf := hTa.from_ _ hpl
      have f1 := hTa.frozen (pr m H e * 2)
      have f2 := hTa.frozen (pr m H e * 2 + 1)
      have hP := hTa.put (pr m H e) f x hpl
      have HP : Hid (TabAt (((w.alloc (.cells #[.int .i64 f, .int .i64 x] 74)).setCell ⟨L, pr m H e * 2, none⟩ (.int .i64 f)).setCell ⟨L, pr m H e * 2 + 1, none⟩ (.int .i64 x)) L m (upd tab (pr m H e) (f, x)) ∧
        Turn (· = L) w (((w.alloc (.cells #[.int .i64 f, .int .i64 x] 74)).setCell ⟨L, pr m H e * 2, none⟩ (.int .i64 f)).setCell ⟨L, pr m H e * 2 + 1, none⟩ (.int .i64 x))) :=
        ⟨hP, (hB.setCell (p := ⟨L, pr m H e * 2, none⟩) (Or.inl rfl) _).setCell (p := ⟨L, pr m H e * 2 + 1, none⟩) (Or.inl rfl) _⟩
      clear hP hB hTa hd HM hlow
      go_wp2
      go_end0
      exact ⟨rfl, HP.out⟩

theorem put_any (L m p f x d : Nat) (tab : Nat → Nat × Nat) (w : World) (hm : m = 2 ^ p) (hp : p ≤ 10) (hT : TabAt w L m tab) (hdm : d < m) (hd : (tab (probe m f d)).2 = 0) (hlow : ∀ e, e < d → (tab (probe m f e)).2 ≠ 0)
    (hf : f ≤ 1000000) (hx : x ≤ 1000000) :
    Calls Yba.prog 23 #[.slice (some ⟨L, 0, none⟩) m m, .agg #[.int .i64 f, .int .i64 x], .int .u64 (hashN f)] w fun e w' => e = .returned (.tuple #[]) ∧ TabAt w' L m (upd tab (probe m f d) (f, x)) ∧ Turn (· = L) w w' :=
  put_core L m p f x d (homeN f) (hashN f) tab w (homeN_lt f) (slotHash_any f) hm hp hT hdm hd hlow hf hx
end Go.Proofs.Ybulkdety
