/- The two laws, walked. -/
import Derived.Test.YbulkdetkGreatDoorB18
import Derived.Maps.Own
namespace Go.Proofs.YbulkdetkGreatDoor
open Go.RowKit
set_option linter.unusedVariables false
set_option linter.unusedSimpArgs false

set_option maxRecDepth 100000 in
set_option maxHeartbeats 1000000 in
theorem new_walk (w : World) :
    Calls Ybaz.prog 5 #[] w fun e w' => ∃ A L M, e = .returned (.pointer (some ⟨A, 0, none⟩)) ∧ w.heap.size ≤ A ∧ w.heap.size ≤ L ∧ w.heap.size ≤ M ∧ L ≠ M ∧ IsBlk w' A (ltc 0 L M) 88 ∧ IsMap w' L #[] 0 ∧ IsMap w' M #[] 0 ∧ Grew w w' := by
  have hmm := @run_makeMap Ybaz.prog
  go_enter Ybaz.func5, Ybaz.ntmps5
  go_wp2_with fail
  go_ret
  have z := Turn.refl (fun _ => False)
  refine ⟨w.heap.size + 1 + 1, w.heap.size, w.heap.size + 1, rfl, by omega, by omega, by omega, by omega, ?_, ?_, ?_, (((z w).alloc _).alloc _).alloc _⟩
  · have := IsBlk.new ((w.alloc (.map #[] 0)).alloc (.map #[] 0)) (ltc 0 w.heap.size (w.heap.size + 1)) 88
    simpa using this
  · exact IsMap.turn (World.alloc_heap_new w (.map #[] 0)) (((z _).alloc _).alloc _) (by simp)
  · have h : IsMap ((w.alloc (.map #[] 0)).alloc (.map #[] 0)) (w.heap.size + 1) #[] 0 := by
      have := World.alloc_heap_new (w.alloc (.map #[] 0)) (.map #[] 0)
      rwa [World.size_alloc] at this
    exact h.turn ((z _).alloc _) (by simp)


theorem Ops.turn {N : Nat} {P : Nat → Prop} {w w' : World} {a : Option Addr} {len : Nat} {fm : Nat → Nat} {fg fi : Nat → Bool} (h : Ops N w a len fm fg fi) (k : Turn P w w') (hN : N ≤ w.heap.size) (hP : ∀ j, j < N → ¬ P j) : Ops N w' a len fm fg fi := by
  refine ⟨h.1, ?_⟩
  rcases h.2 with h0 | ⟨b, off, rfl, hb, hc⟩
  · exact .inl h0
  · refine .inr ⟨b, off, rfl, hb, fun j hj => ?_⟩
    obtain ⟨h1, h2, h3⟩ := hc j hj
    exact ⟨(k.cell (by omega) (hP b hb)).trans h1, (k.cell (by omega) (hP b hb)).trans h2, (k.cell (by omega) (hP b hb)).trans h3⟩

/-- The table is new, T is new: the script is played. -/
theorem start_run {N X A L M T : Nat} {w : World} (hN : 0 < N) (hNn : N ≤ w.heap.size) (hX : X < w.heap.size) (oa : Own N X A) (ol : Own N X L) (ot : Own N X T) (hLM : L ≠ M) (hC : Cov w) (hA : IsBlk w A (ltc 0 L M) 88) (hL : IsMap w L #[] 0) (hM : IsMap w M #[] 0) (hT : Txn w T (.slice none 0 0)) :
    Base N X A L M 0 T 0 w ∧ St N X L T false 0 false w :=
  ⟨⟨hA, hM, hC, oa, ol, ot, hLM, hX, hNn, hN⟩, .inl ⟨rfl, rfl, rfl, 0, hL, hT⟩⟩

set_option maxRecDepth 100000 in
set_option maxHeartbeats 4000000 in
theorem alone_walk (a : Option Addr) (len cap : Nat) (fm : Nat → Nat) (fg fi : Nat → Bool) (w : World) (hm : len ≤ 9223372036854775807) (hC : Cov w) (hO : Ops w.heap.size w a len fm fg fi) :
    Calls Ybaz.prog 3 #[.slice a len cap] w fun e w' => e = .returned (.bool true) ∧ Below w.heap.size w w' := by
  by_cases hl : len ≤ 1024
  · have hn0 := hC.1
    go_enter Ybaz.func3, Ybaz.ntmps3
    go_wp2_with fail
    refine (new_walk _).mono ?_
    rintro e w1 ⟨A, L, M, rfl, hA1, hL1, hM1, hLM, hA, hL, hM, h1⟩
    have hkey : ∀ cs : Array Value, cs[19]? = some (.slice none 0 0) → Calls Ybaz.prog 6 #[.pointer (some ⟨A, 0, none⟩), .pointer (some ⟨w1.heap.size, 0, none⟩), (.agg #[.string { data := #[116] }, .bool false, .int .u8 0, .int .i64 0, .string { data := #[] }]), .slice a len cap] (w1.alloc (.cells cs 65)) fun e w' => (∃ v2 v3 v4, e = .returned (.tuple #[.bool true, v2, v3, v4])) ∧ Below w.heap.size w w' := by
      intro cs h19
      have h2 : Grew w1 (w1.alloc (.cells cs 65)) := (Turn.refl _ _).alloc _
      have h12 := h1.trans h2
      have hsz := h1.size
      have hAlt := hA.lt
      obtain ⟨hB, hS⟩ := start_run (N := w.heap.size) (X := 0) (T := w1.heap.size) (by omega) h12.size (by simp) ⟨hA1, by omega⟩ ⟨hL1, by omega⟩ ⟨hsz, by omega⟩ hLM (hC.grew h12) (hA.turn h2 (by simp)) (hL.turn h2 (by simp)) (hM.turn h2 (by simp)) ⟨cs, IsBlk.new w1 cs 65, h19⟩
      refine (run_walk w.heap.size 0 A L M 0 w1.heap.size a len cap fm fg fi _ hl hB hS (hO.turn h12 (Nat.le_refl _) (fun _ _ h => h))).mono ?_
      rintro e w3 ⟨rfl, _, _, t3, _⟩
      exact ⟨⟨_, _, _, rfl⟩, ((Turn.of_grew (M := Own w.heap.size 0) h12).trans t3).below (Nat.le_refl _) (fun k h => h.1)⟩
    go_wp2_with fail
    refine (hkey _ rfl).mono ?_
    rintro e w3 ⟨⟨v2, v3, v4, rfl⟩, hb⟩
    go_wp2_with fail
    go_ret
    exact ⟨rfl, hb⟩
  · go_enter Ybaz.func3, Ybaz.ntmps3
    go_wp2_with fail
    go_ret
    exact ⟨rfl, Below.refl _ _⟩
end Go.Proofs.YbulkdetkGreatDoor
