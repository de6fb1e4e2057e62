import Derived.Test.YbulkdetyC3
import Derived.Deep.QuietTactic
import Derived.BigQuiet
namespace Go.Proofs.Ybulkdety
open Go.RowKit Go.Lib
set_option linter.unusedVariables false

theorem Turn.drewN {M : Nat → Prop} {a w : World} (h : Turn M a w) (n : Nat) : Turn M a (w.drewN n) := ⟨h.os, h.tape, h.output, h.size, h.block⟩

set_option maxHeartbeats 1000000 in
theorem lnext_core (A G L m p i d H q c : Nat) (res : Int) (tab : Nat → Nat × Nat) (w : World) (hi : i ≤ 1000) (hz : (q : Int) / 18446744073709551616 = 0) (hH : H < 4294967296) (hq : IntKind.u64.wrap ((i : Int) * 11400714819323198485) = (q : Int)) (hq2 : (q : Int) / 4294967296 = (H : Int))
    (a3 : w.cell? ⟨A, 3, none⟩ = some (.slice (some ⟨G, 0, none⟩) 1 1)) (a4 : w.cell? ⟨A, 4, none⟩ = some (.int .u8 64)) (a5 : w.cell? ⟨A, 5, none⟩ = some (.int .i64 c)) (hc : 1 ≤ c) (hc2 : c ≤ 1000)
    (g0 : w.cell? ⟨G, 0, none⟩ = some (.slice (some ⟨L, 0, none⟩) m m)) (hm : m = 2 ^ p) (hp : p ≤ 10) (hT : TabAt w L m tab) (hdm : d < m) (hlow : ∀ e, e < d → (tab (pr m H e)).2 ≠ 0 ∧ (tab (pr m H e)).1 ≠ i)
    (hend : ((tab (pr m H d)).2 = 0 ∧ res = -1) ∨ ((tab (pr m H d)).2 ≠ 0 ∧ (tab (pr m H d)).1 = i ∧ res = (tab (pr m H d)).2)) :
    Calls Yba.prog 20 #[.pointer (some ⟨A, 3, none⟩), .int .i64 i] w fun e w' => e = .returned (.int .i64 res) ∧ Turn (fun _ => False) w w' := by
  have hpos : 0 < m := by omega
  have hmb : m ≤ 1024 := by rw [hm]; exact Nat.pow_le_pow_right (n := 2) (i := p) (j := 10) (by decide) hp
  have HM : Hid (∀ a : Nat, a < 9223372036854775808 → bits .and .i64 (a : Int) ((m : Int) - 1) = ((a % m : Nat) : Int)) := fun a ha => and_mask a p m hm ha (by omega)
  clear hm
  go_enter Yba.func20, Yba.ntmps20
  go_wp2
  go_quiet (fail)
  go_wp2
  have hT0 : Turn (fun _ => False) w (w.drewN nq) := (Turn.refl _ _).drewN nq
  clear a3 a4 a5 g0 hq hz hc hc2
  go_loopg [7] d (fun k s wr => ∃ e : Nat, e ≤ d ∧ k = d - e ∧ s = .int .i64 ((H + e : Nat) : Int) ∧ Turn (fun _ => False) w wr)
  case atStart => exact ⟨0, by omega, by omega, by simp, hT0⟩
  case round =>
    obtain ⟨e, hed, hgk, rfl, hTr⟩ := hrel
    have hpl : pr m H e < m := Nat.mod_lt _ hpos
    have hTa := hT.turn hTr (by simp)
    have hcf := hTa.from_ _ hpl
    have hcn := hTa.next _ hpl
    have hand : bits .and .i64 ((H : Int) + (e : Int)) ((m : Int) - 1) = ((pr m H e : Nat) : Int) := by
      have := HM.out (H + e) (by omega)
      rw [← Int.natCast_add]
      exact this
    generalize hP : pr m H e = P at *
    have HPe : Hid (pr m H e = P) := hP
    generalize hX : tab P = X at *
    have HXe : Hid (tab P = X) := hX
    obtain ⟨xf, xn⟩ := X
    simp only at hcf hcn
    clear hTa hP hX hT0 hT
    have HT2 : Hid (Turn (fun _ => False) w (wr.alloc (.cells #[.int .i64 xf, .int .i64 xn] 74))) := hTr.alloc _
    clear hTr
    by_cases hlt : e < d
    · have hl := hlow e hlt
      rw [HPe.out, HXe.out] at hl
      obtain ⟨h1, h2⟩ := hl
      simp only at h1 h2
      have t1 : ((xn : Int) == 0) = false := by simp; omega
      have t2 : ((xf : Int) == (i : Int)) = false := by simp; omega
      clear hlow hend
      go_wp2
      go_roundg (d - (e + 1))
      case measure => omega
      case rel => exact ⟨e + 1, by omega, rfl, by go_num, HT2.out⟩
    · obtain rfl : e = d := by omega
      rw [HPe.out, HXe.out] at hend
      simp only at hend
      clear hlow
      rcases hend with ⟨h1, h2⟩ | ⟨h1, h2, h3⟩
      · subst h1 h2
        go_wp2
        go_ret
        exact ⟨rfl, HT2.out⟩
      · have t1 : ((xn : Int) == 0) = false := by simp; omega
        subst h2 h3
        go_wp2
        go_ret
        exact ⟨rfl, HT2.out⟩

theorem hash_wrap (i : Nat) : IntKind.u64.wrap ((i : Int) * 11400714819323198485) = (hashN i : Int) := by
  unfold hashN
  rw [IntKind.wrap_u64]
  omega

/-- Where a link leads to, as the Go text says it. -/
def leads (nx : Nat → Nat) (i : Nat) : Int := if nx i = 0 then -1 else (nx i : Int)

theorem lnext_any (A G L m p i c : Nat) (tab : Nat → Nat × Nat) (nx : Nat → Nat) (w : World) (hi : i ≤ 1000)
    (a3 : w.cell? ⟨A, 3, none⟩ = some (.slice (some ⟨G, 0, none⟩) 1 1)) (a4 : w.cell? ⟨A, 4, none⟩ = some (.int .u8 64)) (a5 : w.cell? ⟨A, 5, none⟩ = some (.int .i64 c)) (hc : 1 ≤ c) (hc2 : c ≤ 1000)
    (g0 : w.cell? ⟨G, 0, none⟩ = some (.slice (some ⟨L, 0, none⟩) m m)) (hm : m = 2 ^ p) (hp : p ≤ 10) (hT : TabAt w L m tab) (hL : Tab m tab nx c) (hcm : c < m) :
    Calls Yba.prog 20 #[.pointer (some ⟨A, 3, none⟩), .int .i64 i] w fun e w' => e = .returned (.int .i64 (leads nx i)) ∧ Turn (fun _ => False) w w' := by
  have hz : (hashN i : Int) / 18446744073709551616 = 0 := by have := hashN_lt i; omega
  have hq2 : (hashN i : Int) / 4294967296 = (homeN i : Int) := by unfold homeN; omega
  by_cases h : nx i = 0
  · obtain ⟨d, hd, h0, hlow⟩ := hL.free hcm i
    refine lnext_core A G L m p i d (homeN i) (hashN i) c _ tab w hi hz (homeN_lt i) (hash_wrap i) hq2 a3 a4 a5 hc hc2 g0 hm hp hT hd (fun e he => ⟨hlow e he, hL.absent (by omega) i h e (hlow e he)⟩) (Or.inl ⟨h0, ?_⟩)
    unfold leads; rw [if_pos h]
  · obtain ⟨d, hd, h0, hlow⟩ := hL.found i h
    refine lnext_core A G L m p i d (homeN i) (hashN i) c _ tab w hi hz (homeN_lt i) (hash_wrap i) hq2 a3 a4 a5 hc hc2 g0 hm hp hT hd hlow (Or.inr ?_)
    have h0' : tab (pr m (homeN i) d) = (i, nx i) := h0
    rw [h0']
    exact ⟨h, rfl, by unfold leads; rw [if_neg h]⟩
end Go.Proofs.Ybulkdety
