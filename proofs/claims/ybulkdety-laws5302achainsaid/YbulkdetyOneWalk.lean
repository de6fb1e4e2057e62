import Derived.Test.YbulkdetyA8
namespace Go.Proofs.Ybulkdety
open Go.RowKit Go.Lib

theorem Tops.later {N : Nat} {w w' : World} {a : Option Addr} {len : Nat} {g : Nat → Int} (h : Tops N w a len g) (hB : Below N w w') : Tops N w' a len g := by
  obtain ⟨hg, h⟩ := h
  refine ⟨hg, ?_⟩
  rcases h with h | ⟨b, o, ha, hb, hc⟩
  · exact Or.inl h
  · exact Or.inr ⟨b, o, ha, hb, fun i hi => (hB.cell (p := ⟨b, o + i, none⟩) hb).trans (hc i hi)⟩

theorem pow8 (b : Nat) (hb : b < 8) : wrap64 (2 ^ b) = ((2 ^ b : Nat) : Int) ∧ 1 ≤ 2 ^ b ∧ 2 ^ b ≤ 128 := by
  obtain rfl | rfl | rfl | rfl | rfl | rfl | rfl | rfl : b = 0 ∨ b = 1 ∨ b = 2 ∨ b = 3 ∨ b = 4 ∨ b = 5 ∨ b = 6 ∨ b = 7 := by omega
  all_goals exact ⟨by unfold wrap64; decide, by decide, by decide⟩

set_option maxHeartbeats 1000000 in
theorem one_walk (a0 a1 a3 : Int) (a : Option Addr) (len cap2 : Nat) (g : Nat → Int) (w : World) (h0 : 0 ≤ a0) (h0' : a0 ≤ 255) (h1 : 0 ≤ a1) (hT : Tops w.heap.size w a len g) (hlen : len ≤ 4096) :
    Calls Yba.prog 3 #[.int .u8 a0, .int .u64 a1, .slice a len cap2, .int .i64 a3] w fun e w' => e = .returned (.bool true) ∧ Below w.heap.size w w' := by
  obtain ⟨b, hb⟩ : ∃ b : Nat, a0 % 8 = (b : Int) := ⟨(a0 % 8).toNat, by omega⟩
  have hb8 : b < 8 := by omega
  obtain ⟨hp1, hp2, hp3⟩ := pow8 b hb8
  generalize (2 ^ b : Nat) = n at hp1 hp2 hp3
  have HP : Hid (wrap64 (2 ^ b) = (n : Int)) := hp1
  have hg := hT.1
  have HT : Hid (Tops w.heap.size w a len g) := hT
  clear hp1 hT
  go_enter Yba.func3, Yba.ntmps3
  go_wp2_with fail
  refine (newArray_any b n hb8 HP.out hp2 hp3 _).mono ?_
  rintro e w1 ⟨A, S, P, cap, hc1, hc2, rfl, hN⟩
  have hI : ArrIs A S P cap n (topAt len g 0) w w1 := by
    have h := hN.is
    have e : topAt len g 0 = fun _ _ => 0 := by funext i c; unfold topAt; rw [if_neg (by omega)]
    rw [e]; exact h
  have a1c := hI.a1
  clear hN hc2 HP hb
  go_wp2_with fail
  go_loopw [11] (fun i wr => ∃ k : Nat, k ≤ n ∧ i = .int .i64 k ∧ ArrIs A S P cap n (topAt len g k) w wr) (fun i _ => n - (intOf i).toNat)
  case atStart => exact ⟨0, by omega, rfl, hI⟩
  case round =>
    obtain ⟨k, hk, rfl, hIr⟩ := hrel
    by_cases hlt : k < n
    · have HTr := HT.out.later hIr.below
      have e0 := hIr.a0
      have e1 := hIr.s0
      have hAP := hIr.hA
      have hAP2 := hIr.hAP
      clear a1c hI
      go_wp2_with fail
      refine (bucket_any A S P k cap _ e0 e1 (by omega) (by omega)).mono ?_
      rintro e w2 ⟨rfl, rfl⟩
      go_wp2_with fail
      rw [show ((k : Int) * 8) = ((k * 8 : Nat) : Int) from by omega]
      refine (fill_any w.heap.size P (k * 24) a len cap2 (k * 8) g _ HTr (by omega) (by omega) (fun c hc => ⟨_, hIr.p0 k c (by omega) hc⟩) (fun c _ => hIr.fp _) (by omega)).mono ?_
      rintro e w3 ⟨rfl, hF⟩
      have hI3 := hIr.filled (by omega) hF
      clear hF hIr e0 e1 HTr
      go_wp2_with fail
      go_roundw
      case rel => exact ⟨k + 1, by omega, by go_num, hI3⟩
      case measure => simp [intOf]; omega
    · obtain rfl : k = n := by omega
      clear hlt hk a1c hI
      obtain ⟨i, hin, hi⟩ : ∃ i : Nat, i < k ∧ wrap64 (a1 % (k : Int)) = (i : Int) := by
        have hpos : (0 : Int) < (k : Int) := by omega
        have q1 := Int.emod_nonneg a1 (show (k : Int) ≠ 0 by omega)
        have q2 := Int.emod_lt_of_pos a1 hpos
        refine ⟨(a1 % (k : Int)).toNat, by omega, ?_⟩
        unfold wrap64
        omega
      have hsum : chainSum (topAt len g k) [i] = cnt len g (i * 8) 8 := by
        simp only [chainSum, Nat.add_zero]
        exact tops5_eq len g k i 8 hin
      have HS : Hid (chainSum (topAt len g k) [i] = cnt len g (i * 8) 8) := hsum
      have hcl := cnt_le len g (i * 8) 8
      clear hsum
      go_wp2_with fail
      refine (entries_any (arr_chained hg w hc1 hp3) i [] ⟨hin, rfl, trivial⟩ (by simp) _ hIr).mono ?_
      rintro e w2 ⟨he, hI2, hB2⟩
      rw [HS.out] at he
      subst he
      have HT2 := HT.out.later hI2.below
      clear HS hIr hB2
      go_wp2_with fail
      rw [show ((i : Int) * 8) = ((i * 8 : Nat) : Int) from by omega]
      refine (count_any w.heap.size a len cap2 (i * 8) g _ HT2 (by omega) (by omega)).mono ?_
      rintro e w3 ⟨rfl, rfl⟩
      clear HT2
      have hB3 : Hid (Below w.heap.size w w3) := hI2.below
      by_cases hneg : a3 < 0
      · go_wp2_with fail
        refine (entries_neg A a3 _ hneg).mono ?_
        rintro e w4 ⟨rfl, rfl⟩
        go_wp2_with fail
        go_ret
        exact ⟨rfl, hB3.out⟩
      · have hd : decide (a3 < 0) = false := by simpa using hneg
        go_wp2_with fail
        go_ret
        exact ⟨rfl, hB3.out⟩

set_option maxHeartbeats 400000 in
theorem one_long (a0 a1 a3 : Int) (a : Option Addr) (len cap2 : Nat) (w : World) (hlen : ¬ len ≤ 4096) (hm : len ≤ 9223372036854775807) :
    Calls Yba.prog 3 #[.int .u8 a0, .int .u64 a1, .slice a len cap2, .int .i64 a3] w fun e w' => e = .returned (.bool true) ∧ Below w.heap.size w w' := by
  go_enter Yba.func3, Yba.ntmps3
  go_wp2_with fail
  go_ret
  exact ⟨rfl, Below.refl _ _⟩
end Go.Proofs.Ybulkdety
