import Derived.Test.YbulkdetyC5
import Derived.BigRegion
namespace Go.Proofs.Ybulkdety
open Go.RowKit Go.Lib
set_option linter.unusedVariables false

theorem Turn.set1 (w : World) (b i : Nat) (v : Value) : Turn (· = b) w (w.setCell ⟨b, i, none⟩ v) := (Turn.refl (· = b) w).setCell (p := ⟨b, i, none⟩) (Or.inl rfl) v

/-- The array's header. -/
def hdr (S n cap : Nat) (sg : Value) (sh c : Int) (xp : Value) : Array Value := #[.slice (some ⟨S, 0, none⟩) 1 1, .int .i64 n, .int .i64 cap, sg, .int .u8 sh, .int .i64 c, xp, .int .u32 0]

/-- The links, where there are any: one segment at G, its fill at F, its slots at L. -/
structure Lk (G F L m p c : Nat) (tab : Nat → Nat × Nat) (nx : Nat → Nat) (w : World) : Prop where
  g : IsBlk w G #[.slice (some ⟨L, 0, none⟩) m m, .pointer (some ⟨F, 0, none⟩)] 69
  f : IsBlk w F #[.int .i64 c, .int .u8 0] 67
  t : TabAt w L m tab
  law : Tab m tab nx c
  hm : m = 2 ^ p
  p3 : 3 ≤ p
  p6 : p ≤ 6
  fit : 4 * c ≤ 3 * m
  small : ∀ f, nx f ≠ 0 → f ≤ 1000 ∧ nx f ≤ 1000

set_option maxHeartbeats 1000000 in
set_option maxRecDepth 100000 in
theorem add_more (A S n cap G F L m p c i x : Nat) (xp : Value) (tab : Nat → Nat × Nat) (nx : Nat → Nat) (w : World)
    (hA : IsBlk w A (hdr S n cap (.slice (some ⟨G, 0, none⟩) 1 1) 64 c xp) 37) (hK : Lk G F L m p c tab nx w) (hi : i ≤ 1000) (hx : x ≤ 1000) (hx0 : x ≠ 0) (hni : nx i = 0) (hc : c + 1 ≤ 47) :
    Calls Yba.prog 17 #[.pointer (some ⟨A, 3, none⟩), .int .i64 i, .int .i64 x] w fun e w' => e = .returned (.tuple #[]) ∧ ∃ L' m' p' tab', (L' = L ∨ w.heap.size ≤ L') ∧
      IsBlk w' A (hdr S n cap (.slice (some ⟨G, 0, none⟩) 1 1) 64 (c + 1 : Nat) xp) 37 ∧ Lk G F L' m' p' (c + 1) tab' (upd nx i x) w' ∧ Turn (fun k => k = A ∨ k = G ∨ k = F ∨ k = L) w w' := by
  have a3 : w.cell? ⟨A, 3, none⟩ = some (.slice (some ⟨G, 0, none⟩) 1 1) := (hA.cell 3).trans rfl
  have hz : (hashN i : Int) / 18446744073709551616 = 0 := by have := hashN_lt i; omega
  have hi2 : i ≤ 1000000 := by omega
  have hS := slotHash_any i
  have hH := homeN_lt i
  have hlh : ∀ w : World, Calls Yba.prog 22 #[.int .i64 i] w fun e w' => e = .returned (.int .u64 (hashN i)) ∧ w = w' := fun w => (linkHash_any i hi2 w).mono fun e w' h => ⟨h.1, h.2.symm⟩
  have HPR : Hid (∀ m d, probe m i d = pr m (homeN i) d) := fun m d => rfl
  generalize hashN i = q at *
  generalize homeN i = H at *
  have HA0 := hA
  have HK0 := hK
  go_enter Yba.func17, Yba.ntmps17
  go_wp2_with (go_at_call 22; refine (hlh _).mono ?_; rintro e w' ⟨rfl, rfl⟩)
  go_loopg [] 1 (fun k wr => ∃ L1 m1 p1 tab1, IsBlk wr A (hdr S n cap (.slice (some ⟨G, 0, none⟩) 1 1) 64 c xp) 37 ∧ Lk G F L1 m1 p1 c tab1 nx wr ∧ Turn (fun k => k = A ∨ k = G ∨ k = F ∨ k = L) w wr ∧ (L1 = L ∨ w.heap.size ≤ L1) ∧ k ≤ 1 ∧ (k = 0 → 4 * (c + 1) ≤ 3 * m1))
  case atStart => exact ⟨L, m, p, tab, hA, hK, Turn.refl _ _, Or.inl rfl, by omega, fun h => by omega⟩
  case round =>
    obtain ⟨L1, m1, p1, tab1, hAr, hKr, hTr, hL1, hk1, hk⟩ := hrel
    have b3 : wr.cell? ⟨A, 3, none⟩ = some (.slice (some ⟨G, 0, none⟩) 1 1) := (hAr.cell 3).trans rfl
    have b4 : wr.cell? ⟨A, 4, none⟩ = some (.int .u8 64) := (hAr.cell 4).trans rfl
    have b5 : wr.cell? ⟨A, 5, none⟩ = some (.int .i64 c) := (hAr.cell 5).trans rfl
    have bf := hAr.frozen 5
    have g0 : wr.cell? ⟨G, 0, none⟩ = some (.slice (some ⟨L1, 0, none⟩) m1 m1) := (hKr.g.cell 0).trans rfl
    have g1 : wr.cell? ⟨G, 1, none⟩ = some (.pointer (some ⟨F, 0, none⟩)) := (hKr.g.cell 1).trans rfl
    have f0 : wr.cell? ⟨F, 0, none⟩ = some (.int .i64 c) := (hKr.f.cell 0).trans rfl
    have ff := hKr.f.frozen 0
    have hFlt := hKr.f.lt
    have hAlt := hAr.lt
    have hGlt := hKr.g.lt
    have hmb : m1 ≤ 64 := by rw [hKr.hm]; exact Nat.pow_le_pow_right (n := 2) (i := p1) (j := 6) (by decide) hKr.p6
    have hm8 : 8 ≤ m1 := by rw [hKr.hm]; exact Nat.pow_le_pow_right (n := 2) (i := 3) (j := p1) (by decide) hKr.p3
    clear hA hK a3 HA0 HK0
    by_cases hfit : 4 * (c + 1) ≤ 3 * m1
    · obtain ⟨d, hd1, hd2, hd3⟩ := hKr.law.free (by have := hKr.fit; omega) i
      have hlaw := hKr.law.put (by have := hKr.fit; omega) i x d hni hx0 hd1 hd2 hd3
      rw [HPR.out] at hd2 hlaw
      have hd3' : ∀ e, e < d → (tab1 (pr m1 H e)).2 ≠ 0 := fun e he => by rw [← HPR.out]; exact hd3 e he
      go_wp2_with fail
      go_region
      go_wp2_with fail
      go_quiet (fail)
      go_wp2_with fail
      have hW : Turn (fun _ => False) wr ((wr.alloc (.cells #[.slice (some ⟨L1, 0, none⟩) m1 m1, .pointer (some ⟨F, 0, none⟩)] 69)).drewN (1 + nq)) := ((Turn.refl _ _).alloc _).drewN _
      have hbx : IsBlk ((wr.alloc (.cells #[.slice (some ⟨L1, 0, none⟩) m1 m1, .pointer (some ⟨F, 0, none⟩)] 69)).drewN (1 + nq)) wr.heap.size #[.slice (some ⟨L1, 0, none⟩) m1 m1, .pointer (some ⟨F, 0, none⟩)] 69 := (IsBlk.new wr _ _).same rfl
      generalize (wr.alloc (.cells #[.slice (some ⟨L1, 0, none⟩) m1 m1, .pointer (some ⟨F, 0, none⟩)] 69)).drewN (1 + nq) = W1 at *
      have hT1 := hKr.t.turn hW (by simp)
      have hA1 := hAr.turn hW (by simp)
      have hG1 := hKr.g.turn hW (by simp)
      have hF1 := hKr.f.turn hW (by simp)
      have nA := hT1.ne hA1 (by decide)
      have nG := hT1.ne hG1 (by decide)
      have nF := hT1.ne hF1 (by decide)
      have nB := hT1.ne hbx (by decide)
      refine (put_core L1 m1 p1 i x d H q tab1 W1 hH hS hKr.hm (by have := hKr.p6; omega) hT1 hd1 hd2 hd3' (by omega) (by omega)).mono ?_
      rintro e w3 ⟨rfl, hT3, hU3⟩
      have hA3 := hA1.turn hU3 nA
      have hG3 := hG1.turn hU3 nG
      have hF3 := hF1.turn hU3 nF
      have hb3 := hbx.turn hU3 nB
      have nAF := hA3.ne hF3 (by decide)
      have k1 : w3.cell? ⟨wr.heap.size, 1, none⟩ = some (.pointer (some ⟨F, 0, none⟩)) := (hb3.cell 1).trans rfl
      have k2 : w3.cell? ⟨F, 0, none⟩ = some (.int .i64 c) := (hF3.cell 0).trans rfl
      have k3 : w3.cell? ⟨A, 5, none⟩ = some (.int .i64 c) := (hA3.cell 5).trans rfl
      have k4 := hF3.frozen 0
      have k5 := hA3.frozen 5
      have HE : Hid (∃ L' m' p' tab', (L' = L ∨ w.heap.size ≤ L') ∧ IsBlk ((w3.setCell ⟨F, 0, none⟩ (.int .i64 ((c : Int) + 1))).setCell ⟨A, 5, none⟩ (.int .i64 ((c : Int) + 1))) A (hdr S n cap (.slice (some ⟨G, 0, none⟩) 1 1) 64 (c + 1 : Nat) xp) 37 ∧
          Lk G F L' m' p' (c + 1) tab' (upd nx i x) ((w3.setCell ⟨F, 0, none⟩ (.int .i64 ((c : Int) + 1))).setCell ⟨A, 5, none⟩ (.int .i64 ((c : Int) + 1))) ∧
          Turn (fun k => k = A ∨ k = G ∨ k = F ∨ k = L) w ((w3.setCell ⟨F, 0, none⟩ (.int .i64 ((c : Int) + 1))).setCell ⟨A, 5, none⟩ (.int .i64 ((c : Int) + 1)))) := by
        have s1 : Turn (· = F) w3 (w3.setCell ⟨F, 0, none⟩ (.int .i64 ((c : Int) + 1))) := Turn.set1 _ _ _ _
        have s2 : Turn (· = A) (w3.setCell ⟨F, 0, none⟩ (.int .i64 ((c : Int) + 1))) ((w3.setCell ⟨F, 0, none⟩ (.int .i64 ((c : Int) + 1))).setCell ⟨A, 5, none⟩ (.int .i64 ((c : Int) + 1))) := Turn.set1 _ _ _ _
        refine ⟨L1, m1, p1, upd tab1 (pr m1 H d) (i, x), hL1, ?_, ⟨?_, ?_, ?_, hlaw, hKr.hm, hKr.p3, hKr.p6, hfit, ?_⟩, ?_⟩
        · exact (hA3.turn s1 nAF).set 5 _
        · exact (hG3.turn s1 (hG3.ne hF3 (by decide))).turn s2 (hG3.ne hA3 (by decide))
        · exact (hF3.set 0 _).turn s2 (Ne.symm nAF)
        · exact (hT3.turn s1 (Ne.symm nF)).turn s2 (Ne.symm nA)
        · intro f hf
          by_cases e : f = i
          · subst e; rw [upd_same]; omega
          · rw [upd_other _ _ _ _ e] at hf ⊢; exact hKr.small f hf
        · have t1 : Turn (fun k => k = A ∨ k = G ∨ k = F ∨ k = L) w w3 := (hTr.then hW (fun k _ h => h.elim)).then hU3 (fun k hk e => by omega)
          exact (t1.then s1 (fun k _ e => Or.inr (Or.inr (Or.inl e)))).then s2 (fun k _ e => Or.inl e)
      clear hA3 hG3 hF3 hb3 hT3 hU3 hA1 hG1 hF1 hT1 hW hbx hlaw hKr hAr hTr b3 b4 b5 bf g0 g1 f0 ff hd2 hd3 hd3' hS hlh hz
      go_wp2_with fail
      refine bodyPost_ret (results_none rfl _ _ _) rfl ?_
      exact ⟨rfl, HE.out⟩
    · have hk0 : gk = 1 ∧ p1 ≤ 5 := by
        refine ⟨?_, ?_⟩
        · by_cases e : gk = 0
          · exact absurd (hk e) hfit
          · omega
        · by_cases e : p1 = 6
          · have := hKr.hm
            rw [e] at this
            omega
          · have := hKr.p6; omega
      have hfi : ¬ (4 * ((c : Int) + 1) ≤ 3 * (m1 : Int)) := by omega
      go_wp2_with fail
      go_region
      go_wp2_with fail
      go_quiet (fail)
      go_wp2_with fail
      have hW : Turn (fun _ => False) wr ((wr.alloc (.cells #[.slice (some ⟨L1, 0, none⟩) m1 m1, .pointer (some ⟨F, 0, none⟩)] 69)).drewN (1 + nq)) := ((Turn.refl _ _).alloc _).drewN _
      generalize (wr.alloc (.cells #[.slice (some ⟨L1, 0, none⟩) m1 m1, .pointer (some ⟨F, 0, none⟩)] 69)).drewN (1 + nq) = W1 at *
      have hT1 := hKr.t.turn hW (by simp)
      have hA1 := hAr.turn hW (by simp)
      have hG1 := hKr.g.turn hW (by simp)
      have hF1 := hKr.f.turn hW (by simp)
      refine (grow_core A G F L1 m1 p1 q c tab1 nx W1 hz ((hA1.cell 3).trans rfl) ((hA1.cell 4).trans rfl) hG1 hKr.hm hKr.p6 hT1 hKr.law (by have := hKr.fit; omega) hKr.small).mono ?_
      rintro e w3 ⟨rfl, L2, tab2, hL2, hG3, hT3, hlaw, hU3⟩
      have HE : Hid (IsBlk w3 A (hdr S n cap (.slice (some ⟨G, 0, none⟩) 1 1) 64 c xp) 37 ∧ Lk G F L2 (2 * m1) (p1 + 1) c tab2 nx w3 ∧ Turn (fun k => k = A ∨ k = G ∨ k = F ∨ k = L) w w3 ∧ w.heap.size ≤ L2 ∧ 4 * (c + 1) ≤ 3 * (2 * m1)) := by
        have z1 := hW.size
        have z2 := hTr.size
        refine ⟨hA1.turn hU3 (hA1.ne hG1 (by decide)), ⟨hG3, hF1.turn hU3 (hF1.ne hG1 (by decide)), hT3, hlaw, ?_, by have := hKr.p3; omega, by omega, ?_, hKr.small⟩, ?_, by omega, ?_⟩
        · rw [hKr.hm, Nat.pow_succ, Nat.mul_comm]
        · have := hKr.fit; omega
        · exact (hTr.then hW (fun k _ h => h.elim)).then hU3 (fun k hk e => Or.inr (Or.inl e))
        · have := hKr.fit; omega
      clear hG3 hT3 hlaw hU3 hA1 hG1 hF1 hT1 hW hKr hAr hTr b3 b4 b5 bf g0 g1 f0 ff hS hlh hz
      go_wp2_with fail
      go_roundg 0
      case measure => omega
      case rel =>
        obtain ⟨e1, e2, e3, e4, e5⟩ := HE.out
        exact ⟨L2, 2 * m1, p1 + 1, tab2, e1, e2, e3, Or.inr e4, by omega, fun _ => e5⟩
end Go.Proofs.Ybulkdety
