import Derived.Test.YbulkdetyC17
import Derived.Test.YbulkdetyOneWalk
namespace Go.Proofs.Ybulkdety
open Go.RowKit Go.Lib
set_option linter.unusedVariables false

theorem info3 : (Yba.prog.info? 3).map (fun i => (i.zero, i.size, i.bytes)) = some (some (.int .i64 0), 1, 8) := by kernel_rfl
/-- The chain's list behind s rounds. -/
def chainVals (n s : Nat) : List Value := (List.range s).map fun q => Value.int .i64 ((n + q : Nat) : Int)
theorem chainVals_succ (n s : Nat) : chainVals n (s + 1) = chainVals n s ++ [Value.int .i64 ((n + s : Nat) : Int)] := by
  simp [chainVals, List.range_succ]
theorem pow4 (b : Nat) (hb : b < 4) : wrap64 (2 ^ b) = ((2 ^ b : Nat) : Int) ∧ 1 ≤ 2 ^ b ∧ 2 ^ b ≤ 8 := by
  obtain rfl | rfl | rfl | rfl : b = 0 ∨ b = 1 ∨ b = 2 ∨ b = 3 := by omega
  all_goals exact ⟨by unfold wrap64; decide, by decide, by decide⟩

set_option maxHeartbeats 2000000 in
set_option maxRecDepth 100000 in
theorem chain_walk (a0 a1 a2 : Int) (a : Option Addr) (len cap2 : Nat) (g : Nat → Int) (w : World) (h0 : 0 ≤ a0) (h0' : a0 ≤ 255) (h1 : 0 ≤ a1) (h2 : 0 ≤ a2) (h2' : a2 ≤ 255) (hT : Tops w.heap.size w a len g) (hlen : len ≤ 8192) :
    Calls Yba.prog 4 #[.int .u8 a0, .int .u64 a1, .int .u8 a2, .slice a len cap2] w fun e w' => e = .returned (.bool true) ∧ Below w.heap.size w w' := by
  obtain ⟨b, hb⟩ : ∃ b : Nat, a0 % 4 = (b : Int) := ⟨(a0 % 4).toNat, by omega⟩
  have hb4 : b < 4 := by omega
  obtain ⟨k, hk⟩ : ∃ k : Nat, a2 % 40 = (k : Int) := ⟨(a2 % 40).toNat, by omega⟩
  have hk40 : k < 40 := by omega
  obtain ⟨hp1, hp2, hp3⟩ := pow4 b hb4
  generalize (2 ^ b : Nat) = n at hp1 hp2 hp3
  have HP : Hid (wrap64 (2 ^ b) = (n : Int)) := hp1
  have hg := hT.1
  have HT : Hid (Tops w.heap.size w a len g) := hT
  obtain ⟨h, hhn, hh⟩ : ∃ h : Nat, h < n ∧ wrap64 (a1 % (n : Int)) = (h : Int) := by
    have hpos : (0 : Int) < (n : Int) := by omega
    have q1 := Int.emod_nonneg a1 (show (n : Int) ≠ 0 by omega)
    have q2 := Int.emod_lt_of_pos a1 hpos
    refine ⟨(a1 % (n : Int)).toNat, by omega, ?_⟩
    unfold wrap64
    omega
  obtain ⟨i0, hi, hz0, hz1, hz2⟩ := info_parts info3
  have HLm : k ≤ maxLen := by unfold maxLen; omega
  clear hp1 hT
  go_enter Yba.func4, Yba.ntmps4
  go_wp2_with fail
  refine (newArray_any b n (by omega) HP.out hp2 (by omega) _).mono ?_
  rintro e w1 ⟨A, S, P, cap, hc1, hc2, rfl, hN⟩
  have a1c := hN.a1
  have HC2 : Hid (cap ≤ maxLen) := hc2
  have HN : Hid (ArrNew A S P cap n w w1) := hN
  clear HP hb hc2 hN
  go_wp2_with (at_make; refine wpList_make_own _ rfl _ _ 44 rfl w1.heap.size 3 i0 _ 1 Yba.underlying44 hi hz0 hz1 .i64 .i64 _ k rfl rfl ?c1 ?c2 ?c3 ?c4 ?c5)
  case c1 => first | exact hk | rfl
  case c2 => rw [hz2]; omega
  case c3 => exact HLm
  case c4 => exact Nat.le_refl _
  intro w2 hown2 hgr2
  have t2 : Turn (fun _ => False) w1 w2 := (Turn.refl _ _).grown hgr2 (fun k hk => by cases hk)
  have s2 := (HN.out.st hc1).quiet t2
  have HL : Hid (∃ zl bl, St A S n cap 0 (chainNx n h 0) zl bl w2 ∧ Turn (fun k => k = A ∨ S + 1 ≤ k) w1 w2 ∧ Keeps w1 w2 ∧ w2.ownsRow w1.heap.size 3 1 (.slice (some ⟨w1.heap.size, 0, none⟩) 0 k) 0 (chainVals n 0)) := by
    rw [Hid, chainNx_zero]
    exact ⟨[], [], s2, t2.mono (fun _ _ x => x.elim), Keeps.quiet t2, hown2⟩
  generalize hC : w1.heap.size = C at *
  clear s2 t2 hown2 hgr2
  go_wp2_with fail
  go_loopw [13, 14, 15] (fun last ch s wr => ∃ q : Nat, q ≤ k ∧ s = .int .i64 q ∧ last = .int .i64 (lastOf n h q) ∧ ch = .slice (some ⟨C, 0, none⟩) q k ∧ ∃ zl bl, St A S n cap q (chainNx n h q) zl bl wr ∧ Turn (fun k => k = A ∨ S + 1 ≤ k) w1 wr ∧ Keeps w1 wr ∧ wr.ownsRow C 3 1 (.slice (some ⟨C, 0, none⟩) q k) q (chainVals n q)) (fun _ _ s _ => k - (intOf s).toNat)
  case atStart => exact ⟨0, by omega, rfl, rfl, rfl, HL.out⟩
  case round =>
    obtain ⟨q, hqk, rfl, rfl, rfl, zl, bl, hSt, hTr, hKp, hOw⟩ := hrel
    clear HL
    by_cases hlt : q < k
    · have hll : lastOf n h q ≤ 1000 := by unfold lastOf; split <;> omega
      have hl0 := chainNx_last n h q hhn
      have hls := chainNx_succ n h q hhn
      have HLs : Hid (upd (chainNx n h q) (lastOf n h q) (n + q) = chainNx n h (q + 1)) := hls
      have HLast : Hid (lastOf n h (q + 1) = n + q) := by show lastOf n h (q + 1) = n + q; unfold lastOf; rw [if_neg (by omega)]; omega
      have HL0 : Hid (chainNx n h q (lastOf n h q) = 0) := hl0
      clear hls hl0
      generalize lastOf n h q = lst at *
      go_wp2_with fail
      refine (addOverflow_any A S n cap q lst (chainNx n h q) zl bl _ hSt hll HL0.out hp2 (by omega) HC2.out).mono ?_
      rintro e w3 ⟨rfl, zl', bl', g1, g2, g3⟩
      have hOw3 : w3.ownsRow C 3 1 (.slice (some ⟨C, 0, none⟩) q k) q (chainVals n q) := by
        obtain ⟨cs, hcs⟩ := owns_type hOw rfl
        refine ⟨hOw.1, ?_⟩
        rcases hOw.2 with ⟨x, _⟩ | ⟨g, cp, cur, hv, hb, hg, r⟩
        · cases x
        · refine Or.inr ⟨g, cp, cur, hv, hb, ?_, r⟩
          rw [g3 g cur 3 hg (by decide)]; exact hg
      have HW : Hid (∀ w5 : World, (w3.alloc (.cells #[.int .i64 ((n : Int) + (q : Int))] 3)).grownBy w5 (some C) → w5.ownsRow C 3 1 (.slice (some ⟨C, 0, none⟩) (q + 1) k) (q + 1) (chainVals n q ++ [.int .i64 ((n : Int) + (q : Int))]) →
          ∃ zl bl, St A S n cap (q + 1) (chainNx n h (q + 1)) zl bl w5 ∧ Turn (fun k => k = A ∨ S + 1 ≤ k) w1 w5 ∧ Keeps w1 w5 ∧ w5.ownsRow C 3 1 (.slice (some ⟨C, 0, none⟩) (q + 1) k) (q + 1) (chainVals n (q + 1))) := by
        intro w5 hg5 ho5
        have t5 : Turn (· = C) w3 w5 := ((Turn.refl _ _).alloc _).grown hg5 (fun k hk => by simp at hk; exact Or.inl hk.symm)
        obtain ⟨cs, hcs⟩ := owns_type hOw3 rfl
        have hM : OnlyTypes (· = C) w3 [3] := by rintro k rfl; exact ⟨cs, 3, hcs, by decide⟩
        refine ⟨zl', bl', ?_, ?_, ?_, ?_⟩
        · rw [← HLs.out]; exact g1.turn t5 hM
        · exact (hTr.trans g2).then t5 (fun k hk e => by have := hSt.hS; have := HN.out.hS; omega)
        · have k5 : Keeps w1 w3 := hKp.trans g3
          intro b cs t hb ht
          by_cases e : b = C
          · exfalso; have := hb.lt; omega
          · exact (t5.block b ((hb.same (k5 b cs t hb ht)).lt) e).trans (k5 b cs t hb ht)
        · rw [chainVals_succ, Int.natCast_add]; exact ho5
      have HO3 : Hid ((w3.alloc (.cells #[.int .i64 ((n : Int) + (q : Int))] 3)).ownsRow C 3 1 (.slice (some ⟨C, 0, none⟩) q k) q (chainVals n q)) := hOw3.alloc _
      clear g1 g2 g3 hOw3 hOw hSt hTr hKp HLs HL0
      go_wp2_with (at_builtin; refine wpList_append_fits _ rfl _ _ 44 rfl C 3 i0 1 Yba.underlying44 hi hz1 C q k (chainVals n q) rfl HO3.out ⟨w3.heap.size, 0, none⟩ 1 1 [.int .i64 ((n : Int) + (q : Int))] rfl rfl (cell_one_new _ _ _) ?d3 ?d4 ?d5)
      case d3 => simp [Value.oneCell']
      case d4 => omega
      intro w5 hown5 hgr5
      have HE := HW.out w5 hgr5 hown5
      have HE' : Hid (∃ zl bl, St A S n cap (q + 1) (chainNx n h (q + 1)) zl bl w5 ∧ Turn (fun k => k = A ∨ S + 1 ≤ k) w1 w5 ∧ Keeps w1 w5 ∧ w5.ownsRow C 3 1 (.slice (some ⟨C, 0, none⟩) (q + 1) k) (q + 1) (chainVals n (q + 1))) := HE
      clear HE HW HO3 hown5 hgr5
      go_wp2_with fail
      go_roundw
      case rel => exact ⟨q + 1, by omega, by go_num, by rw [HLast.out]; go_num, rfl, HE'.out⟩
      case measure => simp [intOf]; omega
    · obtain rfl : q = k := by omega
      have hFu := hSt.full HN.out hKp hTr (by omega)
      have HB : Hid (Below w.heap.size w wr) := HN.out.below.trans (hTr.below (by have := HN.out.below.size; omega) (fun j hj => by have := HN.out.hA; have := HN.out.hAP; have := HN.out.hPS; have := HN.out.hS; omega))
      have e0 : (fun _ _ => 0 : Nat → Nat → Int) = topAt len g 0 := by funext i c; unfold topAt; rw [if_neg (by omega)]
      rw [e0] at hFu
      have HF : Hid (Full A S P n cap q (chainNx n h q) zl bl (topAt len g 0) wr) := hFu
      have HO : Hid (wr.ownsRow C 3 1 (.slice (some ⟨C, 0, none⟩) q q) q (chainVals n q)) := hOw
      have hCge : w.heap.size ≤ C := by have := HN.out.below.size; omega
      have hSC : S < C := by have := HN.out.hS; omega
      clear hFu e0 hSt hTr hKp hOw hlt hqk
      have hNA := HN.out.hA
      have hAP := HN.out.hAP
      go_wp2_with fail
      obtain ⟨wa, rfl⟩ : ∃ wa : World, wa = wr := ⟨_, rfl⟩
      go_loopw [16] (fun i wr => ∃ m : Nat, m ≤ n ∧ i = .int .i64 m ∧ Full A S P n cap q (chainNx n h q) zl bl (topAt len g m) wr ∧ wr.ownsRow C 3 1 (.slice (some ⟨C, 0, none⟩) q q) q (chainVals n q) ∧ Below w.heap.size w wr) (fun i _ => n - (intOf i).toNat)
      case atStart => exact ⟨0, by omega, rfl, HF.out, HO.out, HB.out⟩
      case round =>
        obtain ⟨m, hmn, rfl, hFr, hOr, hBr⟩ := hrel
        clear HF HO HB
        by_cases hlt : m < n
        · have HTr := HT.out.later hBr
          have e0 := hFr.a0
          have e1 : wr.cell? ⟨S, 0, none⟩ = some (.slice (some ⟨P, 0, none⟩) cap cap) := (hFr.blkS.cell 0).trans rfl
          have hloc := loc_page P cap zl bl m (by omega)
          have hcl : ∀ c, c < 8 → ∃ v : Int, wr.cell? ⟨P, m * 24 + c, none⟩ = some (.int .u8 v) := fun c hc => by
            have := hFr.top m (by omega) c hc
            rw [hloc] at this
            exact ⟨_, this⟩
          have hfz : ∀ c, c < 8 → wr.frozen? ⟨P, m * 24 + c, none⟩ = false := fun c hc => by
            have := hFr.frz m (by omega) (m * 24 + c)
            rw [hloc] at this
            exact this
          have HS : Hid (∀ w3 : World, Filled P (m * 24) len (m * 8) 8 g wr w3 → Full A S P n cap q (chainNx n h q) zl bl (topAt len g (m + 1)) w3 ∧ w3.ownsRow C 3 1 (.slice (some ⟨C, 0, none⟩) q q) q (chainVals n q) ∧ Below w.heap.size w w3) := fun w3 hF => hFr.fillStep m (by omega) (by omega) hNA hOr hBr (by rw [hloc]; exact hF)
          have HC : Hid (∀ c, c < 8 → ∃ v : Int, wr.cell? ⟨P, m * 24 + c, none⟩ = some (.int .u8 v)) := hcl
          have HZ : Hid (∀ c, c < 8 → wr.frozen? ⟨P, m * 24 + c, none⟩ = false) := hfz
          clear hFr hOr hBr hloc hcl hfz
          go_wp2_with fail
          refine (bucket_any A S P m cap _ e0 e1 (by omega) (by omega)).mono ?_
          rintro e wz ⟨rfl, hwz⟩
          subst hwz
          go_wp2_with fail
          rw [show ((m : Int) * 8) = ((m * 8 : Nat) : Int) from by omega]
          refine (fill_any w.heap.size P (m * 24) a len cap2 (m * 8) g _ HTr (by omega) (by omega) HC.out HZ.out (by omega)).mono ?_
          rintro e w3 ⟨rfl, hF⟩
          have H3 := HS.out w3 hF
          have H3' : Hid (Full A S P n cap q (chainNx n h q) zl bl (topAt len g (m + 1)) w3 ∧ w3.ownsRow C 3 1 (.slice (some ⟨C, 0, none⟩) q q) q (chainVals n q) ∧ Below w.heap.size w w3) := H3
          clear H3 hF HS HC HZ HTr e0 e1
          go_wp2_with fail
          go_roundw
          case rel => exact ⟨m + 1, by omega, by go_num, H3'.out⟩
          case measure => simp [intOf]; omega
        · obtain rfl : m = n := by omega
          have HTr := HT.out.later hBr
          have hw0 := cnt_le len g (h * 8) 8
          clear hlt hmn
          go_wp2_with fail
          rw [show ((h : Int) * 8) = ((h * 8 : Nat) : Int) from by omega]
          refine (count_any w.heap.size a len cap2 (h * 8) g _ HTr (by omega) (by omega)).mono ?_
          rintro e wz ⟨rfl, hwz⟩
          subst hwz
          have HF : Hid (Full A S P m cap q (chainNx m h q) zl bl (topAt len g m) wz) := hFr
          have HO : Hid (wz.ownsRow C 3 1 (.slice (some ⟨C, 0, none⟩) q q) q (chainVals m q)) := hOr
          have HB : Hid (Below w.heap.size w wz) := hBr
          clear hFr hOr hBr HTr
          go_wp2_with fail
          go_loopw [17, 18] (fun wt i wr => ∃ p : Nat, p ≤ q ∧ i = .int .i64 p ∧ wt = .int .i64 (wantOf len g m h p) ∧ Full A S P m cap q (chainNx m h q) zl bl (topAt len g (m + p)) wr ∧ wr.ownsRow C 3 1 (.slice (some ⟨C, 0, none⟩) q q) q (chainVals m q) ∧ Below w.heap.size w wr) (fun _ i _ => q - (intOf i).toNat)
          case atStart => exact ⟨0, by omega, rfl, rfl, HF.out, HO.out, HB.out⟩
          case round =>
            obtain ⟨p, hpq, rfl, rfl, hFr, hOr, hBr⟩ := hrel
            clear HF HO HB
            have hwl := wantOf_le len g m h p
            by_cases hlt : p < q
            · have HTr := HT.out.later hBr
              have hcv : wr.cell? ⟨C, p, none⟩ = some (.int .i64 ((m : Int) + (p : Int))) := by
                rw [hOr.cellAt p (by omega)]
                unfold chainVals
                rw [List.getElem?_map, List.getElem?_range hlt]
                simp
              have hAt : Hid (Calls Yba.prog 11 #[.pointer (some ⟨A, 0, none⟩), .int .i64 ((m + p : Nat) : Int)] wr fun e w' => e = .returned (.pointer (some ⟨(loc P cap zl bl (m + p)).1, (loc P cap zl bl (m + p)).2, none⟩)) ∧ wr = w') := (at_full hFr (m + p) (by omega) (by omega)).mono fun e w' hh => ⟨hh.1, hh.2.symm⟩
              have hge : w.heap.size ≤ (loc P cap zl bl (m + p)).1 := by
                have h1 := hFr.hPS
                rcases hFr.kind (m + p) (by omega) (by omega) with ⟨_, e⟩ | ⟨_, _, hz, e⟩ | ⟨_, _, hb', e⟩
                · rw [e]; simp only; omega
                · rw [e]; have := (hFr.z _ (List.getElem_mem hz)).1; simp only; omega
                · rw [e]; have := (hFr.b _ (List.getElem_mem hb')).1; simp only; omega
              have HC : Hid (∀ c, c < 8 → ∃ v : Int, wr.cell? ⟨(loc P cap zl bl (m + p)).1, (loc P cap zl bl (m + p)).2 + c, none⟩ = some (.int .u8 v)) := fun c hc => ⟨_, hFr.top (m + p) (by omega) c hc⟩
              have HZ : Hid (∀ c, c < 8 → wr.frozen? ⟨(loc P cap zl bl (m + p)).1, (loc P cap zl bl (m + p)).2 + c, none⟩ = false) := fun c hc => hFr.frz (m + p) (by omega) _
              have HS : Hid (∀ w3 : World, Filled (loc P cap zl bl (m + p)).1 (loc P cap zl bl (m + p)).2 len ((m + p) * 8) 8 g wr w3 → Full A S P m cap q (chainNx m h q) zl bl (topAt len g (m + p + 1)) w3 ∧ w3.ownsRow C 3 1 (.slice (some ⟨C, 0, none⟩) q q) q (chainVals m q) ∧ Below w.heap.size w w3) := fun w3 hF => hFr.fillStep (m + p) (by omega) (by omega) hNA hOr hBr hF
              have HW1 : Hid (wantOf len g m h (p + 1) = wantOf len g m h p + cnt len g ((m + p) * 8) 8) := rfl
              have hcl2 := cnt_le len g ((m + p) * 8) 8
              clear hFr hOr hBr
              generalize loc P cap zl bl (m + p) = lc at *
              obtain ⟨lb, lo⟩ := lc
              simp only at hge
              go_wp2_with fail
              rw [show ((m : Int) + (p : Int)) = ((m + p : Nat) : Int) from by omega]
              refine (Calls.mono hAt.out ?_)
              rintro e wz ⟨rfl, rfl⟩
              go_wp2_with fail
              rw [show (((m : Int) + (p : Int)) * 8) = (((m + p) * 8 : Nat) : Int) from by omega]
              refine (fill_any w.heap.size lb lo a len cap2 ((m + p) * 8) g _ HTr (by omega) (by omega) HC.out HZ.out hge).mono ?_
              rintro e w3 ⟨rfl, hF⟩
              have H3 := HS.out w3 hF
              have HT3 := HT.out.later H3.2.2
              have H3' : Hid (Full A S P m cap q (chainNx m h q) zl bl (topAt len g (m + p + 1)) w3 ∧ w3.ownsRow C 3 1 (.slice (some ⟨C, 0, none⟩) q q) q (chainVals m q) ∧ Below w.heap.size w w3) := H3
              clear H3 hF HS HC HZ HTr hAt hcv
              go_wp2_with fail
              rw [show (((m : Int) + (p : Int)) * 8) = (((m + p) * 8 : Nat) : Int) from by omega]
              refine (count_any w.heap.size a len cap2 ((m + p) * 8) g _ HT3 (by omega) (by omega)).mono ?_
              rintro e w4 ⟨rfl, hw4⟩
              have hw4' : w3 = w4 := hw4.symm
              clear hw4 HT3
              subst hw4'
              go_wp2_with fail
              go_roundw
              case rel => exact ⟨p + 1, by omega, by go_num, by rw [HW1.out]; go_num, H3'.out⟩
              case measure => simp [intOf]; omega
            · obtain rfl : p = q := by omega
              have a5c := hFr.a5
              have hCh := full_chained A S P m cap p (chainNx m h p) zl bl (topAt len g (m + p)) (by omega) (topAt_rng len g hg (m + p))
              have hEn : Hid (Calls Yba.prog 8 #[.pointer (some ⟨A, 0, none⟩), .int .i64 (h : Int)] wr fun e w' => e = .returned (.int .i64 (wantOf len g m h p)) ∧ Full A S P m cap p (chainNx m h p) zl bl (topAt len g (m + p)) w' ∧ Below wr.heap.size wr w') := by
                have := entries_any hCh h (tailFrom m 0 p) (head_chain m h p hhn) (by rw [tailFrom_length]; omega) wr hFr
                rw [head_sum len g m h p hhn] at this
                exact this
              have HCh : Hid (Chained A (fun W => Full A S P m cap p (chainNx m h p) zl bl (topAt len g (m + p)) W) (fun j => j < m + p) (leads (chainNx m h p)) (loc P cap zl bl) (topAt len g (m + p))) := hCh
              have HB0 : Hid (Below w.heap.size w wr) := hBr
              have hBs := hBr.size
              clear hFr hOr hBr hCh hlt hpq
              go_wp2_with (go_at_call 12; refine (overflows_any A p _ a5c).mono ?_; rintro e wz ⟨rfl, rfl⟩)
              refine (Calls.mono hEn.out ?_)
              rintro e w5 ⟨rfl, hF5, hB5⟩
              have HF5 : Hid (Full A S P m cap p (chainNx m h p) zl bl (topAt len g (m + p)) w5) := hF5
              have HB5 : Hid (Below w.heap.size w w5) := HB0.out.trans (hB5.mono hBs)
              clear hF5 hB5 hEn a5c HB0 hBs
              go_wp2_with fail
              go_loopw [20] (fun i wr => ∃ j : Nat, j ≤ m ∧ i = .int .i64 j ∧ Full A S P m cap p (chainNx m h p) zl bl (topAt len g (m + p)) wr ∧ Below w.heap.size w wr) (fun i _ => m - (intOf i).toNat)
              case atStart => exact ⟨0, by omega, rfl, HF5.out, HB5.out⟩
              case round =>
                obtain ⟨j, hjm, rfl, hFr, hBr⟩ := hrel
                clear HF5 HB5
                by_cases hlt : j < m
                · by_cases hjh : j = h
                  · have hne : ((j : Int) != (h : Int)) = false := by simp [hjh]
                    have H6 : Hid (Full A S P m cap p (chainNx m h p) zl bl (topAt len g (m + p)) wr ∧ Below w.heap.size w wr) := ⟨hFr, hBr⟩
                    clear hFr hBr hjh
                    go_wp2_with fail
                    go_roundw
                    case rel => exact ⟨j + 1, by omega, by go_num, H6.out⟩
                    case measure => simp [intOf]; omega
                  · have hne : ((j : Int) != (h : Int)) = true := by simp; omega
                    have hEn : Hid (Calls Yba.prog 8 #[.pointer (some ⟨A, 0, none⟩), .int .i64 (j : Int)] wr fun e w' => e = .returned (.int .i64 (cnt len g (j * 8) 8)) ∧ Full A S P m cap p (chainNx m h p) zl bl (topAt len g (m + p)) w' ∧ Below wr.heap.size wr w') := by
                      have := entries_any HCh.out j [] (lone_chain m h p j hlt hjh) (by simp) wr hFr
                      rw [lone_sum len g (m + p) j (by omega)] at this
                      exact this
                    have HB6 : Hid (Below w.heap.size w wr) := hBr
                    have hBs := hBr.size
                    have hcj := cnt_le len g (j * 8) 8
                    clear hFr hBr hjh
                    go_wp2_with fail
                    refine (Calls.mono hEn.out ?_)
                    rintro e w6 ⟨rfl, hF6, hB6⟩
                    have HB7 : Hid (Below w.heap.size w w6) := HB6.out.trans (hB6.mono hBs)
                    have HT6 := HT.out.later HB7.out
                    have HF6 : Hid (Full A S P m cap p (chainNx m h p) zl bl (topAt len g (m + p)) w6) := hF6
                    clear hF6 hB6 hEn HB6 hBs
                    go_wp2_with fail
                    rw [show ((j : Int) * 8) = ((j * 8 : Nat) : Int) from by omega]
                    refine (count_any w.heap.size a len cap2 (j * 8) g _ HT6 (by omega) (by omega)).mono ?_
                    rintro e w7 ⟨rfl, hw7⟩
                    have hw7' : w6 = w7 := hw7.symm
                    clear hw7 HT6
                    subst hw7'
                    go_wp2_with fail
                    go_roundw
                    case rel => exact ⟨j + 1, by omega, by go_num, HF6.out, HB7.out⟩
                    case measure => simp [intOf]; omega
                · obtain rfl : j = m := by omega
                  have HB8 : Hid (Below w.heap.size w wr) := hBr
                  clear hFr hBr HCh
                  go_wp2_with fail
                  go_ret
                  exact ⟨rfl, HB8.out⟩

set_option maxHeartbeats 400000 in
theorem chain_long (a0 a1 a2 : Int) (a : Option Addr) (len cap2 : Nat) (w : World) (hlen : ¬ len ≤ 8192) (hm : len ≤ 9223372036854775807) :
    Calls Yba.prog 4 #[.int .u8 a0, .int .u64 a1, .int .u8 a2, .slice a len cap2] w fun e w' => e = .returned (.bool true) ∧ Below w.heap.size w w' := by
  go_enter Yba.func4, Yba.ntmps4
  go_wp2_with fail
  go_ret
  exact ⟨rfl, Below.refl _ _⟩
end Go.Proofs.Ybulkdety
