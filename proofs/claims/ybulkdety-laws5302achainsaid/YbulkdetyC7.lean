import Derived.Test.YbulkdetyC6
namespace Go.Proofs.Ybulkdety
open Go.RowKit Go.Lib
set_option linter.unusedVariables false

theorem first_world (A S n cap c : Nat) (hc0 : c = 0) (xp : Value) (w : World) (zs : Array Value) (hzs : zs = #[.int .i64 0, .int .i64 0, .int .i64 0, .int .i64 0, .int .i64 0, .int .i64 0, .int .i64 0, .int .i64 0, .int .i64 0, .int .i64 0, .int .i64 0, .int .i64 0, .int .i64 0, .int .i64 0, .int .i64 0, .int .i64 0])
    (hA : IsBlk w A (hdr S n cap (.slice none 0 0) 0 0 xp) 37) :
    IsBlk (((((w.setCell ⟨A, 3, none⟩ (.slice (some ⟨w.heap.size + 1 + 1, 0, none⟩) 1 1)).setCell ⟨A, 4, none⟩ (.int .u8 64)).alloc (.cells zs 74)).alloc (.cells #[.int .i64 0, .int .u8 0] 67)).alloc (.cells #[.slice (some ⟨w.heap.size, 0, none⟩) 8 8, .pointer (some ⟨w.heap.size + 1, 0, none⟩)] 69)) A (hdr S n cap (.slice (some ⟨w.heap.size + 1 + 1, 0, none⟩) 1 1) 64 (c : Nat) xp) 37 ∧
    Lk (w.heap.size + 1 + 1) (w.heap.size + 1) w.heap.size 8 3 c (fun _ => (0, 0)) (fun _ => 0) (((((w.setCell ⟨A, 3, none⟩ (.slice (some ⟨w.heap.size + 1 + 1, 0, none⟩) 1 1)).setCell ⟨A, 4, none⟩ (.int .u8 64)).alloc (.cells zs 74)).alloc (.cells #[.int .i64 0, .int .u8 0] 67)).alloc (.cells #[.slice (some ⟨w.heap.size, 0, none⟩) 8 8, .pointer (some ⟨w.heap.size + 1, 0, none⟩)] 69)) ∧
    Turn (fun k => k = A) w (((((w.setCell ⟨A, 3, none⟩ (.slice (some ⟨w.heap.size + 1 + 1, 0, none⟩) 1 1)).setCell ⟨A, 4, none⟩ (.int .u8 64)).alloc (.cells zs 74)).alloc (.cells #[.int .i64 0, .int .u8 0] 67)).alloc (.cells #[.slice (some ⟨w.heap.size, 0, none⟩) 8 8, .pointer (some ⟨w.heap.size + 1, 0, none⟩)] 69)) := by
  subst hc0
  have h1 := (hA.set 3 (.slice (some ⟨w.heap.size + 1 + 1, 0, none⟩) 1 1)).set 4 (.int .u8 64)
  have t1 : Turn (fun k => k = A) w ((w.setCell ⟨A, 3, none⟩ (.slice (some ⟨w.heap.size + 1 + 1, 0, none⟩) 1 1)).setCell ⟨A, 4, none⟩ (.int .u8 64)) := (Turn.set1 _ _ _ _).trans (Turn.set1 _ _ _ _)
  have z1 : ((w.setCell ⟨A, 3, none⟩ (.slice (some ⟨w.heap.size + 1 + 1, 0, none⟩) 1 1)).setCell ⟨A, 4, none⟩ (.int .u8 64)).heap.size = w.heap.size := by simp [World.setCell]
  generalize (w.setCell ⟨A, 3, none⟩ (.slice (some ⟨w.heap.size + 1 + 1, 0, none⟩) 1 1)).setCell ⟨A, 4, none⟩ (.int .u8 64) = W at *
  have n0 : Turn (fun _ => False) W (W.alloc (.cells zs 74)) := (Turn.refl _ _).alloc _
  have n1 : Turn (fun _ => False) (W.alloc (.cells zs 74)) ((W.alloc (.cells zs 74)).alloc (.cells #[.int .i64 0, .int .u8 0] 67)) := (Turn.refl _ _).alloc _
  have n2 : Turn (fun _ => False) ((W.alloc (.cells zs 74)).alloc (.cells #[.int .i64 0, .int .u8 0] 67)) (((W.alloc (.cells zs 74)).alloc (.cells #[.int .i64 0, .int .u8 0] 67)).alloc (.cells #[.slice (some ⟨w.heap.size, 0, none⟩) 8 8, .pointer (some ⟨w.heap.size + 1, 0, none⟩)] 69)) := (Turn.refl _ _).alloc _
  have b0 := IsBlk.new W zs 74
  have b1 := IsBlk.new (W.alloc (.cells zs 74)) #[.int .i64 0, .int .u8 0] 67
  have b2 := IsBlk.new ((W.alloc (.cells zs 74)).alloc (.cells #[.int .i64 0, .int .u8 0] 67)) #[.slice (some ⟨w.heap.size, 0, none⟩) 8 8, .pointer (some ⟨w.heap.size + 1, 0, none⟩)] 69
  have e1 : (W.alloc (.cells zs 74)).heap.size = w.heap.size + 1 := by simp [z1]
  have e2 : ((W.alloc (.cells zs 74)).alloc (.cells #[.int .i64 0, .int .u8 0] 67)).heap.size = w.heap.size + 1 + 1 := by simp [z1]
  rw [z1] at b0
  rw [e1] at b1
  rw [e2] at b2
  have b0' := (b0.turn n1 (by simp)).turn n2 (by simp)
  have b1' := b1.turn n2 (by simp)
  refine ⟨((h1.turn n0 (by simp)).turn n1 (by simp)).turn n2 (by simp), ⟨b2, b1', ⟨⟨_, b0'⟩, fun s hs => ?_, fun s hs => ?_⟩, Tab.empty 8, rfl, by omega, by omega, by omega, fun f hf => absurd rfl hf⟩, ((t1.alloc _).alloc _).alloc _⟩
  · rw [b0'.cell, hzs]
    obtain rfl | rfl | rfl | rfl | rfl | rfl | rfl | rfl : s = 0 ∨ s = 1 ∨ s = 2 ∨ s = 3 ∨ s = 4 ∨ s = 5 ∨ s = 6 ∨ s = 7 := by omega
    all_goals rfl
  · rw [b0'.cell, hzs]
    obtain rfl | rfl | rfl | rfl | rfl | rfl | rfl | rfl : s = 0 ∨ s = 1 ∨ s = 2 ∨ s = 3 ∨ s = 4 ∨ s = 5 ∨ s = 6 ∨ s = 7 := by omega
    all_goals rfl

set_option maxHeartbeats 1000000 in
set_option maxRecDepth 100000 in
theorem add_first (A S n cap i x c : Nat) (hc0 : Hid (c = 0)) (xp : Value) (w : World)
    (hA : IsBlk w A (hdr S n cap (.slice none 0 0) 0 0 xp) 37) (hi : i ≤ 1000) (hx : x ≤ 1000) (hx0 : x ≠ 0) :
    Calls Yba.prog 17 #[.pointer (some ⟨A, 3, none⟩), .int .i64 i, .int .i64 x] w fun e w' => e = .returned (.tuple #[]) ∧ ∃ G F L' m' p' tab', (w.heap.size ≤ L' ∧ w.heap.size ≤ F ∧ w.heap.size ≤ G) ∧
      IsBlk w' A (hdr S n cap (.slice (some ⟨G, 0, none⟩) 1 1) 64 (c + 1 : Nat) xp) 37 ∧ Lk G F L' m' p' (c + 1) tab' (upd (fun _ => 0) i x) w' ∧ Turn (fun k => k = A) w w' := by
  have a3 : w.cell? ⟨A, 3, none⟩ = some (.slice none 0 0) := (hA.cell 3).trans rfl
  have a4 : w.cell? ⟨A, 4, none⟩ = some (.int .u8 0) := (hA.cell 4).trans rfl
  have a3f := hA.frozen 3
  have a4f := hA.frozen 4
  have hAlt0 := hA.lt
  have hAlt1 : A < w.heap.size + 1 := by omega
  have hAlt2 : A < w.heap.size + 1 + 1 := by omega
  have hAlt3 : A < w.heap.size + 2 := by omega
  have hz : (hashN i : Int) / 18446744073709551616 = 0 := by have := hashN_lt i; omega
  have hi2 : i ≤ 1000000 := by omega
  have hS := slotHash_any i
  have hH := homeN_lt i
  have hlh : ∀ w : World, Calls Yba.prog 22 #[.int .i64 i] w fun e w' => e = .returned (.int .u64 (hashN i)) ∧ w = w' := fun w => (linkHash_any i hi2 w).mono fun e w' h => ⟨h.1, h.2.symm⟩
  have HPR : Hid (∀ m d, probe m i d = pr m (homeN i) d) := fun m d => rfl
  generalize hashN i = q at *
  generalize homeN i = H at *
  have hmk : ∀ w : World, (Instr.makeSlice 64 (.int .i64 8) (.int .i64 8)).run Yba.prog w = .ok (.slice (some ⟨w.heap.size, 0, none⟩) 8 8) (w.alloc (.cells #[.int .i64 0, .int .i64 0, .int .i64 0, .int .i64 0, .int .i64 0, .int .i64 0, .int .i64 0, .int .i64 0, .int .i64 0, .int .i64 0, .int .i64 0, .int .i64 0, .int .i64 0, .int .i64 0, .int .i64 0, .int .i64 0] 74)) := fun _ => by kernel_rfl
  go_enter Yba.func17, Yba.ntmps17
  go_wp2_with (go_at_call 22; refine (hlh _).mono ?_; rintro e w' ⟨rfl, rfl⟩)
  have hFW := first_world A S n cap c hc0.out xp w _ rfl hA
  obtain ⟨hA, hK, hTw⟩ := hFW
  have hni : (fun _ : Nat => 0) i = 0 := rfl
  have hcc : c + 1 ≤ 47 := by rw [hc0.out]; omega
  have hc1 : 4 * (c + 1) ≤ 3 * 8 := by rw [hc0.out]; omega
  clear hc0 hmk hAlt1 hAlt2 hAlt3 a3 a4 a3f a4f hlh
  go_loopg [] 0 (fun k wr => ∃ G F L1 m1 p1 tab1, IsBlk wr A (hdr S n cap (.slice (some ⟨G, 0, none⟩) 1 1) 64 c xp) 37 ∧ Lk G F L1 m1 p1 c tab1 (fun _ => 0) wr ∧ Turn (fun k => k = A) w wr ∧ (w.heap.size ≤ L1 ∧ w.heap.size ≤ F ∧ w.heap.size ≤ G) ∧ 4 * (c + 1) ≤ 3 * m1)
  case atStart => exact ⟨_, _, _, 8, 3, _, hA, hK, hTw, ⟨by omega, by omega, by omega⟩, hc1⟩
  case round =>
    obtain ⟨G, F, L1, m1, p1, tab1, hAr, hKr, hTr, hL1, hk⟩ := hrel
    have hfit0 : 4 * (c + 1) ≤ 3 * m1 := hk
    have b3 : wr.cell? ⟨A, 3, none⟩ = some (.slice (some ⟨G, 0, none⟩) 1 1) := (hAr.cell 3).trans rfl
    have b4 : wr.cell? ⟨A, 4, none⟩ = some (.int .u8 64) := (hAr.cell 4).trans rfl
    have b5 : wr.cell? ⟨A, 5, none⟩ = some (.int .i64 c) := (hAr.cell 5).trans rfl
    have bf := hAr.frozen 5
    have g0 : wr.cell? ⟨G, 0, none⟩ = some (.slice (some ⟨L1, 0, none⟩) m1 m1) := (hKr.g.cell 0).trans rfl
    have g1 : wr.cell? ⟨G, 1, none⟩ = some (.pointer (some ⟨F, 0, none⟩)) := (hKr.g.cell 1).trans rfl
    have f0 : wr.cell? ⟨F, 0, none⟩ = some (.int .i64 c) := (hKr.f.cell 0).trans rfl
    have ff := hKr.f.frozen 0
    have hFlt := hKr.f.lt
    have hAlt := hAr.lt
    have hGlt := hKr.g.lt
    have hmb : m1 ≤ 64 := by rw [hKr.hm]; exact Nat.pow_le_pow_right (n := 2) (i := p1) (j := 6) (by decide) hKr.p6
    have hm8 : 8 ≤ m1 := by rw [hKr.hm]; exact Nat.pow_le_pow_right (n := 2) (i := 3) (j := p1) (by decide) hKr.p3
    clear hA hK
    have hfit := hfit0
    · obtain ⟨d, hd1, hd2, hd3⟩ := hKr.law.free (by have := hKr.fit; omega) i
      have hlaw := hKr.law.put (by have := hKr.fit; omega) i x d hni hx0 hd1 hd2 hd3
      rw [HPR.out] at hd2 hlaw
      have hd3' : ∀ e, e < d → (tab1 (pr m1 H e)).2 ≠ 0 := fun e he => by rw [← HPR.out]; exact hd3 e he
      go_wp2_with fail
      go_region
      go_wp2_with fail
      go_quiet (fail)
      go_wp2_with fail
      have hW : Turn (fun _ => False) wr ((wr.alloc (.cells #[.slice (some ⟨L1, 0, none⟩) m1 m1, .pointer (some ⟨F, 0, none⟩)] 69)).drewN (1 + nq)) := ((Turn.refl _ _).alloc _).drewN _
      have hbx : IsBlk ((wr.alloc (.cells #[.slice (some ⟨L1, 0, none⟩) m1 m1, .pointer (some ⟨F, 0, none⟩)] 69)).drewN (1 + nq)) wr.heap.size #[.slice (some ⟨L1, 0, none⟩) m1 m1, .pointer (some ⟨F, 0, none⟩)] 69 := (IsBlk.new wr _ _).same rfl
      generalize (wr.alloc (.cells #[.slice (some ⟨L1, 0, none⟩) m1 m1, .pointer (some ⟨F, 0, none⟩)] 69)).drewN (1 + nq) = W1 at *
      have hT1 := hKr.t.turn hW (by simp)
      have hA1 := hAr.turn hW (by simp)
      have hG1 := hKr.g.turn hW (by simp)
      have hF1 := hKr.f.turn hW (by simp)
      have nA := hT1.ne hA1 (by decide)
      have nG := hT1.ne hG1 (by decide)
      have nF := hT1.ne hF1 (by decide)
      have nB := hT1.ne hbx (by decide)
      refine (put_core L1 m1 p1 i x d H q tab1 W1 hH hS hKr.hm (by have := hKr.p6; omega) hT1 hd1 hd2 hd3' (by omega) (by omega)).mono ?_
      rintro e w3 ⟨rfl, hT3, hU3⟩
      have hA3 := hA1.turn hU3 nA
      have hG3 := hG1.turn hU3 nG
      have hF3 := hF1.turn hU3 nF
      have hb3 := hbx.turn hU3 nB
      have nAF := hA3.ne hF3 (by decide)
      have k1 : w3.cell? ⟨wr.heap.size, 1, none⟩ = some (.pointer (some ⟨F, 0, none⟩)) := (hb3.cell 1).trans rfl
      have k2 : w3.cell? ⟨F, 0, none⟩ = some (.int .i64 c) := (hF3.cell 0).trans rfl
      have k3 : w3.cell? ⟨A, 5, none⟩ = some (.int .i64 c) := (hA3.cell 5).trans rfl
      have k4 := hF3.frozen 0
      have k5 := hA3.frozen 5
      have HE : Hid (∃ G' F' L' m' p' tab', (w.heap.size ≤ L' ∧ w.heap.size ≤ F' ∧ w.heap.size ≤ G') ∧ IsBlk ((w3.setCell ⟨F, 0, none⟩ (.int .i64 ((c : Int) + 1))).setCell ⟨A, 5, none⟩ (.int .i64 ((c : Int) + 1))) A (hdr S n cap (.slice (some ⟨G', 0, none⟩) 1 1) 64 (c + 1 : Nat) xp) 37 ∧
          Lk G' F' L' m' p' (c + 1) tab' (upd (fun _ => 0) i x) ((w3.setCell ⟨F, 0, none⟩ (.int .i64 ((c : Int) + 1))).setCell ⟨A, 5, none⟩ (.int .i64 ((c : Int) + 1))) ∧
          Turn (fun k => k = A) w ((w3.setCell ⟨F, 0, none⟩ (.int .i64 ((c : Int) + 1))).setCell ⟨A, 5, none⟩ (.int .i64 ((c : Int) + 1)))) := by
        have s1 : Turn (· = F) w3 (w3.setCell ⟨F, 0, none⟩ (.int .i64 ((c : Int) + 1))) := Turn.set1 _ _ _ _
        have s2 : Turn (· = A) (w3.setCell ⟨F, 0, none⟩ (.int .i64 ((c : Int) + 1))) ((w3.setCell ⟨F, 0, none⟩ (.int .i64 ((c : Int) + 1))).setCell ⟨A, 5, none⟩ (.int .i64 ((c : Int) + 1))) := Turn.set1 _ _ _ _
        refine ⟨G, F, L1, m1, p1, upd tab1 (pr m1 H d) (i, x), hL1, ?_, ⟨?_, ?_, ?_, hlaw, hKr.hm, hKr.p3, hKr.p6, hfit, ?_⟩, ?_⟩
        · exact (hA3.turn s1 nAF).set 5 _
        · exact (hG3.turn s1 (hG3.ne hF3 (by decide))).turn s2 (hG3.ne hA3 (by decide))
        · exact (hF3.set 0 _).turn s2 (Ne.symm nAF)
        · exact (hT3.turn s1 (Ne.symm nF)).turn s2 (Ne.symm nA)
        · intro f hf
          by_cases e : f = i
          · subst e; rw [upd_same]; omega
          · rw [upd_other _ _ _ _ e] at hf ⊢; exact hKr.small f hf
        · have t1 : Turn (fun k => k = A) w w3 := (hTr.then hW (fun k _ h => h.elim)).then hU3 (fun k hk e => by omega)
          exact (t1.then s1 (fun k hk e => by omega)).then s2 (fun k _ e => e)
      clear hA3 hG3 hF3 hb3 hT3 hU3 hA1 hG1 hF1 hT1 hW hbx hlaw hKr hAr hTr b3 b4 b5 bf g0 g1 f0 ff hd2 hd3 hd3' hS hz
      go_wp2_with fail
      refine bodyPost_ret (results_none rfl _ _ _) rfl ?_
      exact ⟨rfl, HE.out⟩
end Go.Proofs.Ybulkdety
