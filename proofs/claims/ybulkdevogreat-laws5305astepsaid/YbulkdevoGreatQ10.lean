/- 'precedingLocked'. -/
import Derived.Test.YbulkdevoGreatQ9
namespace Go.Proofs.YbulkdevoGreat
open Go.RowKit Go.Sort
set_option linter.unusedVariables false
set_option linter.unusedSimpArgs false

theorem know_step (s t : UInt8) (fl : List UInt8) (i : Nat) : knownOf s t (fl.take (i + 1)) = addO s t (knownOf s t (fl.take i)) fl[i]? := by
  cases h : fl[i]? with
  | none =>
    have hl : fl.length ≤ i := by simpa using h
    rw [List.take_of_length_le (by omega), List.take_of_length_le hl]
    rfl
  | some x =>
    rw [List.take_add_one, h, Option.toList_some, knownOf_snoc]
    rfl
theorem know_same (s t : UInt8) (fl : List UInt8) (i : Nat) (h : fl[i + 1]? = fl[i]?) : knownOf s t (fl.take (i + 2)) = knownOf s t (fl.take (i + 1)) := by
  rw [know_step s t fl (i + 1), h]
  cases hx : fl[i]? with
  | none => rfl
  | some x =>
    refine addK_again s t _ x ?_
    rw [List.take_add_one, hx]
    simp
theorem know_more (s t : UInt8) (fl cs : List UInt8) (j : Nat) (x : UInt8) (h : cs[j]? = some x) : knownOf s t (fl ++ cs.take (j + 1)) = addO s t (knownOf s t (fl ++ cs.take j)) (some x) := by
  rw [List.take_add_one, h, Option.toList_some, ← List.append_assoc, knownOf_snoc]
  rfl
theorem known_length (s t : UInt8) : ∀ xs : List UInt8, (knownOf s t xs).length ≤ xs.length := fun xs => by
  have : ∀ (xs ks : List UInt8), (xs.foldl (addK s t) ks).length ≤ ks.length + xs.length := fun xs => by
    induction xs with
    | nil => intro ks; simp
    | cons x r ih =>
      intro ks
      have h1 := ih (addK s t ks x)
      have h2 := length_addK_le s t ks x
      simp only [List.foldl_cons, List.length_cons]
      omega
  simpa [knownOf] using this xs []

set_option maxRecDepth 100000 in
theorem index27 {C : Array Value} (hs : C.size = 3360) (w : World) (i : Nat) (hi : i < 160) : (Instr.index 27 (.agg C) (.int .i64 i)).run Ybaz.prog w = .ok (.agg (C.extract (i * 21) (i * 21 + 21))) w := by
  unfold Instr.index
  simp only [Sem.run_bind, Ybaz.runUnderlying27, Result.andThen_ok, asIntOf, Sem.run_pure]
  rw [if_pos ⟨by omega, by omega⟩]
  simp only [Sem.run_bind, Ybaz.sizeOf26, Result.andThen_ok, part, Ybaz.isAgg26, Sem.run_pure, Int.toNat_natCast]
  rfl

theorem fing_at {w : World} {M o : Nat} {C : Array Value} (hs : C.size = 3360) (h : w.rangeAt M o C.toList) (i : Nat) (hi : i < 160) : w.rangeAt M (o + i * 21) (C.extract (i * 21) (i * 21 + 21)).toList := range_sub (i := i * 21) h _ fun j v hv => by
  have hj := (List.getElem?_eq_some_iff.1 hv).1
  simp only [Array.getElem?_toList, Array.length_toList] at hv hj ⊢
  rw [Array.getElem?_extract] at hv
  split at hv
  · exact hv
  · cases hv

theorem Turn.then2 {T T' : Nat → Prop} {a b c : World} (h : Turn T a b) (k : Turn T' b c) (hT : ∀ i, i < a.heap.size → T' i → T i) : Turn T a c := h.then k hT

section
attribute [local go_sem ↓] fold_ld24 fold_st24 fold_ld26 fold_st26 fold_bd24 fold_bd26 fold_bs29 fold_ld27
set_option maxHeartbeats 4000000 in
set_option maxRecDepth 100000 in
theorem precede_any {w : World} {M N ncap : Nat} {s t : UInt8} {pred : Option UInt8} {succ : UInt8} {C : Array Value} {fl ns : List UInt8} (h : Mem w M s pred succ (.slice (some ⟨N, 0, none⟩) ns.length ncap) C) (hN : w.rangeAt N 0 (flat ns)) (hNl : N < w.heap.size) (hl : ns.length ≤ 2000) (hfl : fl.length ≤ 160)
    (hCs : C.size = 3360) (hC : ∀ i, i < 160 → C.extract (i * 21) (i * 21 + 21) = pv fl[i]?) :
    Calls Ybaz.prog 20 #[.pointer (some ⟨M, 0, none⟩), .agg (idv t)] w fun e w' => ∃ v, e = .returned v ∧ Row w' v (sorted s (knownOf s t (fl ++ succ :: ns))) ∧ (∀ b, v.ownBlock = some b → w.heap.size ≤ b) ∧ Grew w w' := by
  have e0 : (w.alloc (.cells #[.pointer (some ⟨M, 0, none⟩)] 30)).heap.size = w.heap.size + 1 := by simp
  have e1 : ((w.alloc (.cells #[.pointer (some ⟨M, 0, none⟩)] 30)).alloc (.cells (idv t) 24)).heap.size = w.heap.size + 2 := by simp
  have e2 : (((w.alloc (.cells #[.pointer (some ⟨M, 0, none⟩)] 30)).alloc (.cells (idv t) 24)).alloc (.cells #[.slice none 0 0] 29)).heap.size = w.heap.size + 3 := by simp
  have hG : Grn w (((w.alloc (.cells #[.pointer (some ⟨M, 0, none⟩)] 30)).alloc (.cells (idv t) 24)).alloc (.cells #[.slice none 0 0] 29)) := (((Grn.refl w).alloc _).alloc _).alloc _
  have b1 : IsBlk (((w.alloc (.cells #[.pointer (some ⟨M, 0, none⟩)] 30)).alloc (.cells (idv t) 24)).alloc (.cells #[.slice none 0 0] 29)) w.heap.size #[.pointer (some ⟨M, 0, none⟩)] 30 := (IsBlk.new w _ _).grn (((Grn.refl _).alloc _).alloc _)
  have b2 : IsBlk (((w.alloc (.cells #[.pointer (some ⟨M, 0, none⟩)] 30)).alloc (.cells (idv t) 24)).alloc (.cells #[.slice none 0 0] 29)) (w.heap.size + 1) (idv t) 24 := by
    have := (IsBlk.new (w.alloc (.cells #[.pointer (some ⟨M, 0, none⟩)] 30)) (idv t) 24).grn ((Grn.refl _).alloc (.cells #[.slice none 0 0] 29))
    rwa [e0] at this
  have b3 : IsBlk (((w.alloc (.cells #[.pointer (some ⟨M, 0, none⟩)] 30)).alloc (.cells (idv t) 24)).alloc (.cells #[.slice none 0 0] 29)) (w.heap.size + 2) #[.slice none 0 0] 29 := by
    have := IsBlk.new ((w.alloc (.cells #[.pointer (some ⟨M, 0, none⟩)] 30)).alloc (.cells (idv t) 24)) #[.slice none 0 0] 29
    rwa [e1] at this
  generalize hw1 : ((w.alloc (.cells #[.pointer (some ⟨M, 0, none⟩)] 30)).alloc (.cells (idv t) 24)).alloc (.cells #[.slice none 0 0] 29) = w1 at hG b1 b2 b3 e2
  have hM1 := h.grn hG
  have c1 : w1.cell? ⟨w.heap.size, 0, none⟩ = some (.pointer (some ⟨M, 0, none⟩)) := b1.cell 0
  have l1 : (Ld 27 ⟨M, 90, none⟩).run Ybaz.prog w1 = .ok (.agg C) w1 := run_Ld27 hM1.fing hCs
  obtain ⟨mb, HMB⟩ : ∃ mb, Aside (w.heap.size = mb) := ⟨_, rfl⟩
  obtain ⟨tb, HTB⟩ : ∃ tb, Aside (w.heap.size + 1 = tb) := ⟨_, rfl⟩
  obtain ⟨kb, HKB⟩ : ∃ kb, Aside (w.heap.size + 1 + 1 = kb) := ⟨_, rfl⟩
  obtain ⟨bs, HBS⟩ : ∃ bs, Aside (w.heap.size + 3 = bs) := ⟨_, rfl⟩
  have HM : Aside (Mem w1 M s pred succ (.slice (some ⟨N, 0, none⟩) ns.length ncap) C) := hM1
  have HB1 : Aside (IsBlk w1 mb #[.pointer (some ⟨M, 0, none⟩)] 30) := HMB.out ▸ b1
  have HB2 : Aside (IsBlk w1 tb (idv t) 24) := HTB.out ▸ b2
  have HE : Aside (w1.heap.size = bs ∧ M < w.heap.size ∧ N < w.heap.size) := ⟨e2.trans HBS.out, h.lt, hNl⟩
  have HK0 : Aside (Known w1 kb bs (.slice none 0 0) []) := by
    rw [← HKB.out, ← HBS.out]
    exact ⟨b3, World.ownsRow_nil w1 _ _ _, by omega, by omega⟩
  have HC : Aside (∀ i, i < 160 → C.extract (i * 21) (i * 21 + 21) = pv fl[i]?) := hC
  have HN : Aside (w1.rangeAt N 0 (flat ns)) := hG.rangeAt hNl hN
  have HL : Aside (ns.length ≤ 2000 ∧ fl.length ≤ 160) := ⟨hl, hfl⟩
  have HCs : Aside (C.size = 3360) := hCs
  clear hM1 b1 b2 b3 e0 e1 e2 h hN hNl hC hl hfl hCs
  go_enter Ybaz.func20, Ybaz.ntmps20
  go_wp2_with fail
  clear hw1 c1 l1
  rw [HKB.out, HTB.out, HMB.out]
  go_loopg [7, 8, 16] 160 (fun gg _ _ s16 wr => ∃ i : Nat, i ≤ 160 ∧ 160 - i ≤ gg ∧ s16 = .int .i64 i ∧ Aside (∃ v, Known wr kb bs v (knownOf s t (fl.take i))) ∧ Aside (Turn (fun k => k = kb ∨ bs ≤ k) w1 wr))
  case atStart => exact ⟨0, by omega, by omega, rfl, ⟨_, HK0.out⟩, Turn.refl _ _⟩
  case round =>
    obtain ⟨i, hi, hgk, rfl, KN, TN⟩ := hrel
    by_cases hlt : i < 160
    · have hltz : (i : Int) < 160 := by omega
      have hix := index27 HCs.out wr i hlt
      rw [HC.out i hlt] at hix
      have HMr : Aside (Mem wr M s pred succ (.slice (some ⟨N, 0, none⟩) ns.length ncap) C) := HM.out.turn TN.out (by
        have h1 := HE.out; have h2 := HKB.out; have h3 := HBS.out
        omega)
      have HBr1 : Aside (IsBlk wr mb #[.pointer (some ⟨M, 0, none⟩)] 30) := HB1.out.turn TN.out (by
        have h1 := HMB.out; have h2 := HKB.out; have h3 := HBS.out
        omega)
      have HBr2 : Aside (IsBlk wr tb (idv t) 24) := HB2.out.turn TN.out (by
        have h1 := HTB.out; have h2 := HKB.out; have h3 := HBS.out
        omega)
      obtain ⟨p, hp⟩ : ∃ p, Aside (fl[i]? = p) := ⟨_, rfl⟩
      rw [hp.out] at hix
      have hst : (St 26 ⟨wr.heap.size, 0, none⟩ (.agg (pv p))).run Ybaz.prog (wr.alloc (.cells pz 26)) = .ok () (wr.alloc (.cells (pv p) 26)) := St_new wr pz (pv p) (by rw [info26, pv_size]) (by rw [pv_size]; rfl) (pv_one p)
      have HG2 : Aside (Grn wr (wr.alloc (.cells (pv p) 26))) := (Grn.refl wr).alloc _
      have HI2 : Aside (IsBlk (wr.alloc (.cells (pv p) 26)) wr.heap.size (pv p) 26) := IsBlk.new wr _ _
      simp only [pz] at hst
      generalize hw2 : wr.alloc (.cells (pv p) 26) = w2 at hst HG2 HI2
      clear hw2
      have stepK : ∀ W, Grn wr W → Calls Ybaz.prog 25 #[.agg (pv p), .pointer (some ⟨mb, 0, none⟩), .pointer (some ⟨tb, 0, none⟩), .pointer (some ⟨kb, 0, none⟩)] W fun e w' => e = .returned (.tuple #[]) ∧ Aside (∃ v, Known w' kb bs v (knownOf s t (fl.take (i + 1)))) ∧ Aside (Turn (fun k => k = kb ∨ bs ≤ k) w1 w') := fun W hW => by
        obtain ⟨v, hv⟩ := KN.out
        have hlen : (knownOf s t (fl.take i)).length ≤ 100000 := Nat.le_trans (known_length _ _ _) (by have := HL.out.2; simp; omega)
        refine (consider_any (HMr.out.grn hW) (HBr1.out.grn hW) (HBr2.out.grn hW) (hv.grn hW) hlen p).mono ?_
        rintro e w' ⟨rfl, v', hk, ht, _⟩
        refine ⟨rfl, ⟨v', by rw [know_step, hp.out]; exact hk⟩, (TN.out.then (Turn.of_grew hW.grew (M := fun _ => False)) (fun _ _ x => x.elim)).then ht ?_⟩
        rintro k _ (e | e)
        · exact .inl e
        · exact .inr (own_base hv.own e).1
      have skipK : ∀ W, Grn wr W → 1 ≤ i → fl[i]? = fl[i - 1]? → Aside (∃ v, Known W kb bs v (knownOf s t (fl.take (i + 1)))) ∧ Aside (Turn (fun k => k = kb ∨ bs ≤ k) w1 W) := fun W hW h1 he => by
        obtain ⟨v, hv⟩ := KN.out
        refine ⟨⟨v, ?_⟩, TN.out.then (Turn.of_grew hW.grew (M := fun _ => False)) (fun _ _ x => x.elim)⟩
        obtain ⟨j, rfl⟩ : ∃ j, i = j + 1 := ⟨i - 1, by omega⟩
        rw [know_same s t fl j (by simpa using he)]
        exact hv.grn hW
      have l2 : ∀ n os, (Ld 26 ⟨wr.heap.size, 0, none⟩).run Ybaz.prog (grow (w2.drewN n) os) = .ok (.agg (pv p)) (grow (w2.drewN n) os) := fun n os => run_Ld26 (HI2.out.grn ⟨n, os, rfl⟩).range (pv_size _)
      have SK : Aside (∀ W, Grn wr W → Calls Ybaz.prog 25 #[.agg (pv p), .pointer (some ⟨mb, 0, none⟩), .pointer (some ⟨tb, 0, none⟩), .pointer (some ⟨kb, 0, none⟩)] W fun e w' => e = .returned (.tuple #[]) ∧ Aside (∃ v, Known w' kb bs v (knownOf s t (fl.take (i + 1)))) ∧ Aside (Turn (fun k => k = kb ∨ bs ≤ k) w1 w')) := stepK
      have SP : Aside (∀ W, Grn wr W → 1 ≤ i → fl[i]? = fl[i - 1]? → Aside (∃ v, Known W kb bs v (knownOf s t (fl.take (i + 1)))) ∧ Aside (Turn (fun k => k = kb ∨ bs ≤ k) w1 W)) := skipK
      clear stepK skipK
      by_cases h0 : i = 0
      · subst h0
        have hix0 : (Instr.index 27 (.agg C) (.int .i64 0)).run Ybaz.prog wr = .ok (.agg (pv p)) wr := hix
        clear hix hltz
        go_wp2_with fail
        refine wp_region_quiet_grown mixedY (by kernel_rfl) ?_
        repeat (first | go_big_quiet_skip | quiet_step (fail))
        refine wpQuiet_nil ?_
        intro _ hw'
        obtain ⟨⟨nq, osq⟩, hw''⟩ := hw'
        subst hw''
        go_wp2_with fail
        refine (SK.out _ (HG2.out.trans ⟨nq, osq, rfl⟩)).mono ?_
        rintro e w3 ⟨rfl, K3, T3⟩
        go_wp2_with fail
        go_roundg (160 - 1)
        case measure => omega
        case rel => exact ⟨1, by omega, by omega, by rfl, K3, T3⟩
      · have h1 : 1 ≤ i := by omega
        have hz : ((i : Int) == 0) = false := by simpa using h0
        obtain ⟨j, hj⟩ : ∃ j, Aside (i = j + 1) := ⟨i - 1, (by omega : i = i - 1 + 1)⟩
        have hwr : IntKind.i64.wrap ((i : Int) - 1) = (j : Int) := by
          have := hj.out
          rw [show ((i : Int) - 1) = (j : Int) by omega]
          rw [IntKind.wrap_i64]; omega
        have hj2 : (j : Int) < 160 := by have := hj.out; omega
        have hj3 : j < 160 := by have := hj.out; omega
        have c2 : ∀ n os, (grow (w2.drewN n) os).cell? ⟨mb, 0, none⟩ = some (.pointer (some ⟨M, 0, none⟩)) := fun n os => ((HBr1.out.grn HG2.out).grn ⟨n, os, rfl⟩).cell 0
        obtain ⟨q, hq⟩ : ∃ q, Aside (fl[j]? = q) := ⟨_, rfl⟩
        have l3 : ∀ n os, (Ld 26 ⟨M, 90 + j * 21, none⟩).run Ybaz.prog (grow (w2.drewN n) os) = .ok (.agg (pv q)) (grow (w2.drewN n) os) := fun n os => by
          have := HC.out j hj3
          rw [hq.out] at this
          refine run_Ld26 ?_ (pv_size _)
          rw [← this]
          exact fing_at HCs.out (((HMr.out.grn HG2.out).grn ⟨n, os, rfl⟩).fing) j hj3
        have hn := neq_peer p q
        have H1 : Aside (1 ≤ i) := h1
        clear h0 h1
        by_cases hpq : p = q
        · have hn' : ∀ W, (binOp .neq 26 (.agg (pv p)) (.agg (pv q))).run Ybaz.prog W = .ok (.bool false) W := fun W => by rw [hn W]; simp [hpq]
          have EQ : Aside (fl[i]? = fl[i - 1]?) := by
            show fl[i]? = fl[i - 1]?
            rw [hp.out, show i - 1 = j by have := hj.out; omega, hq.out]; exact hpq
          clear hn hpq
          go_wp2_with fail
          refine wp_region_quiet_grown mixedY (by kernel_rfl) ?_
          repeat (first | go_big_quiet_skip | quiet_step (fail))
          refine wpQuiet_nil ?_
          intro _ hw'
          obtain ⟨⟨nq, osq⟩, hw''⟩ := hw'
          subst hw''
          obtain ⟨K3, T3⟩ := SP.out _ (HG2.out.trans ⟨nq, osq, rfl⟩) H1.out EQ.out
          generalize grow (w2.drewN nq) osq = w3 at K3 T3 ⊢
          go_wp2_with fail
          go_roundg (160 - (i + 1))
          case measure => omega
          case rel => exact ⟨i + 1, by omega, by omega, by go_num, K3, T3⟩
        · have hn' : ∀ W, (binOp .neq 26 (.agg (pv p)) (.agg (pv q))).run Ybaz.prog W = .ok (.bool true) W := fun W => by rw [hn W]; simp [hpq]
          clear hn hpq
          go_wp2_with fail
          refine wp_region_quiet_grown mixedY (by kernel_rfl) ?_
          repeat (first | go_big_quiet_skip | quiet_step (fail))
          refine wpQuiet_nil ?_
          intro _ hw'
          obtain ⟨⟨nq, osq⟩, hw''⟩ := hw'
          subst hw''
          go_wp2_with fail
          refine (SK.out _ (HG2.out.trans ⟨nq, osq, rfl⟩)).mono ?_
          rintro e w3 ⟨rfl, K3, T3⟩
          go_wp2_with fail
          go_roundg (160 - (i + 1))
          case measure => omega
          case rel => exact ⟨i + 1, by omega, by omega, by go_num, K3, T3⟩
    · have hge : ¬ (i : Int) < 160 := by omega
      have HMr : Aside (Mem wr M s pred succ (.slice (some ⟨N, 0, none⟩) ns.length ncap) C) := HM.out.turn TN.out (by
        have h1 := HE.out; have h2 := HKB.out; have h3 := HBS.out
        omega)
      have HBr1 : Aside (IsBlk wr mb #[.pointer (some ⟨M, 0, none⟩)] 30) := HB1.out.turn TN.out (by
        have h1 := HMB.out; have h2 := HKB.out; have h3 := HBS.out
        omega)
      have HBr2 : Aside (IsBlk wr tb (idv t) 24) := HB2.out.turn TN.out (by
        have h1 := HTB.out; have h2 := HKB.out; have h3 := HBS.out
        omega)
      have HNr : Aside (wr.rangeAt N 0 (flat ns) ∧ N < wr.heap.size) := by
        have h1 := HE.out; have h2 := HKB.out; have h3 := HBS.out
        exact ⟨rangeAt_same HN.out (TN.out.block N (by omega) (by omega)), Nat.lt_of_lt_of_le (by omega) TN.out.size⟩
      have HBE : Aside (bs ≤ wr.heap.size) := by have := TN.out.size; have := HE.out.1; show bs ≤ wr.heap.size; omega
      have c1 : wr.cell? ⟨mb, 0, none⟩ = some (.pointer (some ⟨M, 0, none⟩)) := HBr1.out.cell 0
      have KF : Aside (∃ v, Known wr kb bs v (knownOf s t fl)) := by
        obtain ⟨v, hv⟩ := KN.out
        rw [List.take_of_length_le (by have := HL.out.2; omega)] at hv
        exact ⟨v, hv⟩
      have k28 := chain_any HMr.out HNr.out.1 HNr.out.2 (Nat.le_trans HL.out.1 (by decide))
      clear KN hi hgk hlt
      go_wp2_with fail
      refine k28.mono ?_
      rintro e w2 ⟨vc, rfl, hown, hgrew⟩
      clear k28 c1
      rcases hown.open with ⟨_, h⟩ | ⟨Cg, cc, rfl, hcb, hclt, _, hcr, _⟩
      · cases h
      have LC : Aside (Lies w2 Cg 0 (succ :: ns)) := lies_of_flat hcr
      have CB : Aside (wr.heap.size ≤ Cg ∧ Cg < w2.heap.size) := ⟨hcb, hclt⟩
      have T2 : Aside (Turn (fun k => k = kb ∨ bs ≤ k) w1 w2) := TN.out.then hgrew (fun _ _ x => x.elim)
      have K2 : Aside (∃ v, Known w2 kb bs v (knownOf s t fl) ∧ v.ownBlock ≠ some Cg) := by
        obtain ⟨v, hv⟩ := KF.out
        refine ⟨v, hv.turn hgrew id (fun _ _ => id), fun e => ?_⟩
        have := (own_base hv.own e).2
        omega
      obtain ⟨n, hn⟩ : ∃ n, Aside ((succ :: ns).length = n) := ⟨_, rfl⟩
      have hnn : n ≤ 3000 := by have h1 := hn.out; have h2 := HL.out.1; simp at h1; omega
      rw [hn.out]
      clear hown hcb hclt hcr hgrew KF
      go_wp2_with fail
      go_loopg [10, 40] n (fun gg _ s40 wq => ∃ j : Nat, j ≤ n ∧ n - j ≤ gg ∧ s40 = .int .i64 j ∧ Aside (∃ v, Known wq kb bs v (knownOf s t (fl ++ (succ :: ns).take j)) ∧ v.ownBlock ≠ some Cg) ∧ Aside (Turn (fun k => k = kb ∨ bs ≤ k) w1 wq) ∧ Aside (Lies wq Cg 0 (succ :: ns) ∧ Cg < wq.heap.size))
      case atStart => exact ⟨0, by omega, by omega, rfl, (by rw [List.take_zero, List.append_nil]; exact K2), T2, LC.out, CB.out.2⟩
      case round =>
        obtain ⟨j, hj, hgj, rfl, KN2, TN2, LN2⟩ := hrel
        by_cases hlt2 : j < n
        · have hltz2 : (j : Int) < (n : Int) := by omega
          obtain ⟨x, hx⟩ : ∃ x, Aside ((succ :: ns)[j]? = some x) := ⟨_, List.getElem?_eq_getElem (by rw [hn.out]; exact hlt2)⟩
          have l4 : (Ld 26 ⟨Cg, j * 21, none⟩).run Ybaz.prog wr = .ok (.agg (pv (some x))) wr := run_Ld26 (by
            have := LN2.out.1 j x hx.out
            rwa [Nat.zero_add] at this) (pv_size _)
          have HMq : Aside (Mem wr M s pred succ (.slice (some ⟨N, 0, none⟩) ns.length ncap) C) := HM.out.turn TN2.out (by
            have h1 := HE.out; have h2 := HKB.out; have h3 := HBS.out
            omega)
          have HBq1 : Aside (IsBlk wr mb #[.pointer (some ⟨M, 0, none⟩)] 30) := HB1.out.turn TN2.out (by
            have h1 := HMB.out; have h2 := HKB.out; have h3 := HBS.out
            omega)
          have HBq2 : Aside (IsBlk wr tb (idv t) 24) := HB2.out.turn TN2.out (by
            have h1 := HTB.out; have h2 := HKB.out; have h3 := HBS.out
            omega)
          have hst : (St 26 ⟨wr.heap.size, 0, none⟩ (.agg (pv (some x)))).run Ybaz.prog (wr.alloc (.cells pz 26)) = .ok () (wr.alloc (.cells (pv (some x)) 26)) := St_new wr pz (pv (some x)) info26 rfl (pv_one _)
          have HG4 : Aside (Grn wr (wr.alloc (.cells (pv (some x)) 26))) := (Grn.refl wr).alloc _
          have HI4 : IsBlk (wr.alloc (.cells (pv (some x)) 26)) wr.heap.size (pv (some x)) 26 := IsBlk.new wr _ _
          have l5 : (Ld 26 ⟨wr.heap.size, 0, none⟩).run Ybaz.prog (wr.alloc (.cells (pv (some x)) 26)) = .ok (.agg (pv (some x))) (wr.alloc (.cells (pv (some x)) 26)) := run_Ld26 HI4.range (pv_size _)
          simp only [pz] at hst
          clear HI4
          generalize hw4 : wr.alloc (.cells (pv (some x)) 26) = w4 at hst HG4 l5
          clear hw4
          have stepK : Calls Ybaz.prog 25 #[.agg (pv (some x)), .pointer (some ⟨mb, 0, none⟩), .pointer (some ⟨tb, 0, none⟩), .pointer (some ⟨kb, 0, none⟩)] w4 fun e w' => e = .returned (.tuple #[]) ∧ Aside (∃ v, Known w' kb bs v (knownOf s t (fl ++ (succ :: ns).take (j + 1))) ∧ v.ownBlock ≠ some Cg) ∧ Aside (Turn (fun k => k = kb ∨ bs ≤ k) w1 w') ∧ Aside (Lies w' Cg 0 (succ :: ns) ∧ Cg < w'.heap.size) := by
            obtain ⟨v, hv, hvc⟩ := KN2.out
            have hW := HG4.out
            have hlen : (knownOf s t (fl ++ (succ :: ns).take j)).length ≤ 100000 := Nat.le_trans (known_length _ _ _) (by have := HL.out.2; simp only [List.length_append, List.length_take]; omega)
            refine (consider_any (HMq.out.grn hW) (HBq1.out.grn hW) (HBq2.out.grn hW) (hv.grn hW) hlen (some x)).mono ?_
            rintro e w' ⟨rfl, v', hk, ht, hfr⟩
            have hCg4 : Cg < w4.heap.size := Nat.lt_of_lt_of_le LN2.out.2 hW.grew.size
            have hkc : Cg ≠ kb := by
              have h1 := CB.out.1; have h2 := HKB.out; have h3 := HBS.out; have h4 := HBE.out
              omega
            refine ⟨rfl, ⟨v', by rw [know_more s t fl _ j x hx.out]; exact hk, fun e => ?_⟩, (TN2.out.then (Turn.of_grew hW.grew (M := fun _ => False)) (fun _ _ x => x.elim)).then ht ?_, (LN2.out.1.grn LN2.out.2 hW).same (ht.block Cg hCg4 ?_), Nat.lt_of_lt_of_le hCg4 ht.size⟩
            · rcases hfr Cg e with e' | e'
              · exact hvc e'
              · omega
            · rintro k _ (e | e)
              · exact .inl e
              · exact .inr (own_base hv.own e).1
            · rintro (e | e)
              · exact hkc e
              · exact hvc e
          go_wp2_with fail
          refine stepK.mono ?_
          rintro e w5 ⟨rfl, K5, T5, L5⟩
          clear stepK
          go_wp2_with fail
          go_roundg (n - (j + 1))
          case measure => omega
          case rel => exact ⟨j + 1, by omega, by omega, by go_num, K5, T5, L5⟩
        · have hge2 : ¬ (j : Int) < (n : Int) := by omega
          have hjn : j = n := by omega
          obtain ⟨v, hv, hvc⟩ := KN2.out
          rw [List.take_of_length_le (by rw [hn.out, hjn]; exact Nat.le_refl _)] at hv
          have c6 : wr.cell? ⟨kb, 0, none⟩ = some v := hv.box.cell 0
          have hlen : (knownOf s t (fl ++ succ :: ns)).length ≤ 100000 := Nat.le_trans (known_length _ _ _) (by have := HL.out.2; have := hn.out; simp only [List.length_append]; omega)
          have HMq : Mem wr M s pred succ (.slice (some ⟨N, 0, none⟩) ns.length ncap) C := HM.out.turn TN2.out (by
            have h1 := HE.out; have h2 := HKB.out; have h3 := HBS.out
            omega)
          have HBq1 : IsBlk wr mb #[.pointer (some ⟨M, 0, none⟩)] 30 := HB1.out.turn TN2.out (by
            have h1 := HMB.out; have h2 := HKB.out; have h3 := HBS.out
            omega)
          have fin : Calls Ybaz.prog 29 #[v, .func (.func 30) #[] #[.pointer (some ⟨mb, 0, none⟩)]] wr fun e w' => e = .returned (.tuple #[]) ∧ w'.cell? ⟨kb, 0, none⟩ = some v ∧ Aside (Row w' v (sorted s (knownOf s t (fl ++ succ :: ns))) ∧ (∀ b, v.ownBlock = some b → w.heap.size ≤ b) ∧ Grew w w') := by
            have gr : Grew w wr := hG.grew.then TN2.out (fun k hk e => by
              have h2 := HKB.out; have h3 := HBS.out
              omega)
            rcases hv.own.open with ⟨rfl, hnil⟩ | ⟨g, cap, hvg, hbg, hgl, hcap, hrg, hth⟩
            · refine (sort_none none 0 _ wr).mono ?_
              rintro e w' ⟨rfl, rfl⟩
              exact ⟨rfl, c6, .inl ⟨none, 0, rfl, by rw [hnil]; simp [sorted]⟩, fun b e => by simp [Value.ownBlock] at e, gr⟩
            · subst hvg
              have hMg : M ≠ g := by have h1 := HE.out; have h3 := HBS.out; omega
              have hbg2 : mb ≠ g := by have h1 := HMB.out; have h3 := HBS.out; omega
              have hkg : kb ≠ g := by have h1 := hv.kb_lt; omega
              refine (sort_row HMq HBq1 hrg hth hgl hMg hbg2 hlen).mono ?_
              rintro e w' ⟨rfl, hls, htu⟩
              refine ⟨rfl, (htu.cell hv.box.lt hkg).trans c6, .inr ⟨g, 0, cap, ?_, Nat.lt_of_lt_of_le hgl htu.size, hls⟩, fun b e => ?_, gr.then htu (fun k hk e => ?_)⟩
              · simp [sorted]
              · simp [Value.ownBlock] at e
                have h3 := HBS.out
                omega
              · have h3 := HBS.out
                omega
          clear hv HMq HBq1 hvc hlen
          go_wp2_with fail
          refine fin.mono ?_
          rintro e w6 ⟨rfl, c7, F⟩
          go_wp2_with fail
          go_ret
          exact ⟨v, rfl, F.out⟩
end
end Go.Proofs.YbulkdevoGreat
