/- '(*Member).Step'. -/
import Derived.Test.YbulkdevoGreatQ10
import Derived.Test.YbulkdevoGreatLocks
import Derived.Conc.MuLone
namespace Go.Proofs.YbulkdevoGreat
open Go.RowKit Go.Sort Go.MuLone
set_option linter.unusedVariables false
set_option linter.unusedSimpArgs false

theorem range_set {w : World} {b o : Nat} {cs : List Value} (h : w.rangeAt b o cs) (i : Nat) (u : Value) (hi : i < o ∨ o + cs.length ≤ i) : (w.setCell ⟨b, i, none⟩ u).rangeAt b o cs := fun j v hv => by
  have hj := (List.getElem?_eq_some_iff.1 hv).1
  rw [World.cell?_setCell_other _ _ _ _ (by
    intro e
    have : i = o + j := by injection e
    omega)]
  exact h j v hv
theorem Mem.lock {w : World} {M : Nat} {s : UInt8} {pred : Option UInt8} {succ : UInt8} {nv : Value} {C : Array Value} (h : Mem w M s pred succ nv C) (u : Value) : Mem (w.setCell ⟨M, 42, none⟩ u) M s pred succ nv C :=
  ⟨by simpa [World.setCell] using h.lt, range_set h.self 42 u (by simp [pv_size]), range_set h.pred 42 u (by simp), range_set h.succ 42 u (by simp), by
    rw [World.cell?_setCell_other _ _ _ _ (by intro e; have : (42 : Nat) = 86 := by injection e
                                              omega)]
    exact h.next, range_set h.fing 42 u (by simp)⟩

/-- What a step answers. -/
def stepL (s : UInt8) (pred : Option UInt8) (succ t : UInt8) (fl ns : List UInt8) : List UInt8 :=
  if ownsB s pred succ t then [s] else if btw t s succ then [succ] else sorted s (knownOf s t (fl ++ succ :: ns))
def stepB (s : UInt8) (pred : Option UInt8) (succ t : UInt8) : Bool := ownsB s pred succ t || btw t s succ

theorem row_one {w : World} {g : Nat} {x : UInt8} (h : IsBlk w g (pv (some x)) 26) : Row w (.slice (some ⟨g, 0, none⟩) 1 1) [x] := by
  refine .inr ⟨g, 0, 1, rfl, h.lt, lies_of_flat ?_⟩
  have := h.range
  simpa [flat] using this

section
attribute [local go_sem ↓] fold_ld24 fold_st24 fold_ld26 fold_st26 fold_bd24 fold_bd26 fold_bs29
set_option maxHeartbeats 4000000 in
set_option maxRecDepth 100000 in
theorem step_any {w : World} {M N ncap : Nat} {s t : UInt8} {pred : Option UInt8} {succ : UInt8} {C : Array Value} {fl ns : List UInt8} (h : Mem w M s pred succ (.slice (some ⟨N, 0, none⟩) ns.length ncap) C) (hN : w.rangeAt N 0 (flat ns)) (hNl : N < w.heap.size) (hNM : N ≠ M) (hl : ns.length ≤ 2000) (hfl : fl.length ≤ 160)
    (hCs : C.size = 3360) (hC : ∀ i, i < 160 → C.extract (i * 21) (i * 21 + 21) = pv fl[i]?) (m0 : w.cell? ⟨M, 42, none⟩ = some (.int .i32 0)) (mf : w.frozen? ⟨M, 42, none⟩ = false) :
    Calls Ybaz.prog 13 #[.pointer (some ⟨M, 0, none⟩), .agg (idv t)] w fun e w' => ∃ v, e = .returned (.tuple #[v, .bool (stepB s pred succ t)]) ∧ Row w' v (stepL s pred succ t fl ns) ∧ (∀ b, v.ownBlock = some b → w.heap.size ≤ b) ∧ Turn (· = M) w w' := by
  have hG : Grn w (w.alloc (.cells (idv t) 24)) := (Grn.refl w).alloc _
  have b1 : IsBlk (w.alloc (.cells (idv t) 24)) w.heap.size (idv t) 24 := IsBlk.new w _ _
  generalize hw0 : w.alloc (.cells (idv t) 24) = w0 at hG b1
  have a0 : w0.cell? ⟨M, 42, none⟩ = some (.int .i32 0) := (World.cell?_of_block (a := ⟨M, 42, none⟩) (hG.block h.lt)).trans m0
  have af : w0.frozen? ⟨M, 42, none⟩ = false := (World.frozen?_of_block (a := ⟨M, 42, none⟩) (hG.block h.lt)).trans mf
  have hMt : w.heap.size ≠ M := by have := h.lt; omega
  have HT1 : Aside (Turn (· = M) w (w0.setCell ⟨M, 42, none⟩ (.int .i32 1))) := (Turn.of_grew hG.grew).then (Turn.set1 w0 M 42 _) (fun _ _ e => e)
  have HM1 : Aside (Mem (w0.setCell ⟨M, 42, none⟩ (.int .i32 1)) M s pred succ (.slice (some ⟨N, 0, none⟩) ns.length ncap) C) := (h.grn hG).lock _
  have HB1 : Aside (IsBlk (w0.setCell ⟨M, 42, none⟩ (.int .i32 1)) w.heap.size (idv t) 24) := b1.turn (Turn.set1 w0 M 42 _) hMt
  have HN1 : Aside ((w0.setCell ⟨M, 42, none⟩ (.int .i32 1)).rangeAt N 0 (flat ns)) := rangeAt_same (hG.rangeAt hNl hN) ((Turn.set1 w0 M 42 _).block N (Nat.lt_of_lt_of_le hNl hG.grew.size) hNM)
  have HL1 : Aside ((w0.setCell ⟨M, 42, none⟩ (.int .i32 1)).cell? ⟨M, 42, none⟩ = some (.int .i32 1) ∧ (w0.setCell ⟨M, 42, none⟩ (.int .i32 1)).frozen? ⟨M, 42, none⟩ = false) := ⟨World.cell?_setCell_same _ _ _ a0, by simpa using af⟩
  have HS : Aside (w.heap.size ≤ (w0.setCell ⟨M, 42, none⟩ (.int .i32 1)).heap.size ∧ M < w.heap.size ∧ N < w.heap.size) := ⟨HT1.out.size, h.lt, hNl⟩
  have HP : Aside (ns.length ≤ 2000 ∧ fl.length ≤ 160 ∧ C.size = 3360 ∧ (∀ i, i < 160 → C.extract (i * 21) (i * 21 + 21) = pv fl[i]?)) := ⟨hl, hfl, hCs, hC⟩
  clear h hN hNl hl hfl hCs hC m0 mf b1 hNM
  go_enter_defers Ybaz.func13, Ybaz.ntmps13
  go_wp2_with fail
  refine (lock_free Ybaz.muLib ⟨M, 42, none⟩ _ a0 af).mono ?_
  rintro e w' ⟨rfl, rfl⟩
  clear a0 af hw0
  generalize w0.setCell ⟨M, 42, none⟩ (.int .i32 1) = w1 at *
  have l1 : (Ld 26 ⟨M, 65, none⟩).run Ybaz.prog w1 = .ok (.agg (pv (some succ))) w1 := run_Ld26 HM1.out.succ (pv_size _)
  have hst : (St 26 ⟨w1.heap.size, 0, none⟩ (.agg (pv (some succ)))).run Ybaz.prog (w1.alloc (.cells pz 26)) = .ok () (w1.alloc (.cells (pv (some succ)) 26)) := St_new w1 pz (pv (some succ)) info26 rfl (pv_one _)
  have HG2 : Aside (Grn w1 (w1.alloc (.cells (pv (some succ)) 26))) := (Grn.refl w1).alloc _
  have HI2 : Aside (IsBlk (w1.alloc (.cells (pv (some succ)) 26)) w1.heap.size (pv (some succ)) 26) := IsBlk.new w1 _ _
  simp only [pz] at hst
  generalize hw2 : w1.alloc (.cells (pv (some succ)) 26) = w2 at hst HG2 HI2
  have l2 : (Ld 24 ⟨w.heap.size, 0, none⟩).run Ybaz.prog w2 = .ok (.agg (idv t)) w2 := run_Ld24 (HB1.out.grn HG2.out).range rfl
  have k18 := owns_any (HM1.out.grn HG2.out) t
  go_wp2_with fail
  refine k18.mono ?_
  rintro e w3 ⟨rfl, j3⟩
  have HG3 : Aside (Grn w1 w3) := HG2.out.trans j3
  have HI3 : Aside (IsBlk w3 w1.heap.size (pv (some succ)) 26) := HI2.out.grn j3
  have HM3 : Aside (Mem w3 M s pred succ (.slice (some ⟨N, 0, none⟩) ns.length ncap) C) := HM1.out.grn HG3.out
  clear l1 l2 hst k18 hw2 j3
  -- what lies at the end
  have FIN : Aside (∀ (w' : World) (v : Value), Grew w3 w' → Row w' v (stepL s pred succ t fl ns) → (∀ b, v.ownBlock = some b → w3.heap.size ≤ b) → w'.cell? ⟨M, 42, none⟩ = some (.int .i32 1) ∧ w'.frozen? ⟨M, 42, none⟩ = false ∧ Row (w'.setCell ⟨M, 42, none⟩ (.int .i32 0)) v (stepL s pred succ t fl ns) ∧ (∀ b, v.ownBlock = some b → w.heap.size ≤ b) ∧ Turn (· = M) w (w'.setCell ⟨M, 42, none⟩ (.int .i32 0))) := by
    intro w' v gr hrow hfr
    have hMlt1 : M < w1.heap.size := HM1.out.lt
    have hMlt3 : M < w3.heap.size := HM3.out.lt
    have e : w'.heap[M]? = w1.heap[M]? := (gr.block M hMlt3 id).trans (HG3.out.block hMlt1)
    have c1 := (World.cell?_of_block (a := ⟨M, 42, none⟩) e).trans HL1.out.1
    have f1 := (World.frozen?_of_block (a := ⟨M, 42, none⟩) e).trans HL1.out.2
    have ts := Turn.set1 w' M 42 (.int .i32 0)
    refine ⟨c1, f1, ?_, fun b e => ?_, ((HT1.out.then HG3.out.grew (fun _ _ x => x.elim)).then gr (fun _ _ x => x.elim)).then ts (fun _ _ x => x)⟩
    · rcases hrow with hr | ⟨g, o, c, rfl, hg, hl⟩
      · exact .inl hr
      · have := hfr g rfl
        exact .inr ⟨g, o, c, rfl, Nat.lt_of_lt_of_le hg ts.size, hl.same (ts.block g hg (by omega))⟩
    · have h1 := hfr b e
      have h2 := HG3.out.grew.size
      have h3 := HS.out.1
      omega
  have l3 : (Ld 26 ⟨M, 0, none⟩).run Ybaz.prog w3 = .ok (.agg (pv (some s))) w3 := run_Ld26 HM3.out.self (pv_size _)
  cases ho : ownsB s pred succ t with
  | true =>
    have hbs := bs29 (some s) w3
    obtain ⟨c5, f5, r5, fr5, t5⟩ := FIN.out (w3.alloc (.cells (pv (some s)) 26)) (.slice (some ⟨w3.heap.size, 0, none⟩) 1 1) ((Grn.refl w3).alloc _).grew (by rw [stepL, ho]; exact row_one (IsBlk.new w3 _ _)) (fun b e => by simp [Value.ownBlock] at e; omega)
    have R5 : Aside (Row ((w3.alloc (.cells (pv (some s)) 26)).setCell ⟨M, 42, none⟩ (.int .i32 0)) (.slice (some ⟨w3.heap.size, 0, none⟩) 1 1) (stepL s pred succ t fl ns)) := r5
    have E5 : Aside (stepB s pred succ t = true) := by rw [stepB, ho]; rfl
    clear r5 ho
    go_wp2_with fail
    refine leaves_cons (f := 17) (args := #[.pointer (some ⟨M, 42, none⟩)]) (by simp) (by simp [go_sem]) ?_
    refine (unlock_deferred Ybaz.muLib ⟨M, 42, none⟩ .returning _ c5 f5).mono ?_
    rintro e u' w'' ⟨rfl, rfl, rfl⟩
    refine ⟨.tuple #[.slice (some ⟨w3.heap.size, 0, none⟩) 1 1, .bool true], ?_, .slice (some ⟨w3.heap.size, 0, none⟩) 1 1, by rw [E5.out], R5.out, fr5, t5⟩
    simp [results, Ybaz.f13, go_sem]
  | false =>
    have HO : Aside (ownsB s pred succ t = false) := ho
    clear ho l3
    have r1 : ∀ n os, (Ld 24 ⟨w.heap.size, 0, none⟩).run Ybaz.prog (grow (w3.drewN n) os) = .ok (.agg (idv t)) (grow (w3.drewN n) os) := fun n os => run_Ld24 ((HB1.out.grn HG3.out).grn ⟨n, os, rfl⟩).range rfl
    have r2 : ∀ n os, (Ld 24 ⟨M, 0, none⟩).run Ybaz.prog (grow (w3.drewN n) os) = .ok (.agg (idv s)) (grow (w3.drewN n) os) := fun n os => run_Ld24 (range_id (p := some s) (HM3.out.grn ⟨n, os, rfl⟩).self) rfl
    have r3 : ∀ n os, (Ld 24 ⟨w1.heap.size, 0, none⟩).run Ybaz.prog (grow (w3.drewN n) os) = .ok (.agg (idv succ)) (grow (w3.drewN n) os) := fun n os => run_Ld24 (range_id (p := some succ) (HI3.out.grn ⟨n, os, rfl⟩).range) rfl
    have k19 := between_any t s succ
    cases hb : btw t s succ with
    | true =>
      rw [hb] at k19
      have HB : Aside (btw t s succ = true) := hb
      clear hb
      go_wp2_with fail
      refine wp_region_quiet_grown mixedY (by kernel_rfl) ?_
      repeat (first | go_big_quiet_skip | quiet_step (first | (go_at_call 19; refine Calls.grown_of (k19 _))))
      refine wpQuiet_nil ?_
      intro _ hw'
      obtain ⟨⟨nq, osq⟩, hw''⟩ := hw'
      subst hw''
      have g4 : Grn w3 (grow (w3.drewN nq) osq) := ⟨nq, osq, rfl⟩
      generalize grow (w3.drewN nq) osq = w4 at g4 ⊢
      clear r1 r2 r3 k19
      have l4 : (Ld 26 ⟨w1.heap.size, 0, none⟩).run Ybaz.prog w4 = .ok (.agg (pv (some succ))) w4 := run_Ld26 (HI3.out.grn g4).range (pv_size _)
      have hbs := bs29 (some succ) w4
      obtain ⟨c5, f5, r5, fr5, t5⟩ := FIN.out (w4.alloc (.cells (pv (some succ)) 26)) (.slice (some ⟨w4.heap.size, 0, none⟩) 1 1) (g4.alloc _).grew (by rw [stepL, HO.out, HB.out]; exact row_one (IsBlk.new w4 _ _)) (fun b e => by have := g4.grew.size; simp [Value.ownBlock] at e; omega)
      have R5 : Aside (Row ((w4.alloc (.cells (pv (some succ)) 26)).setCell ⟨M, 42, none⟩ (.int .i32 0)) (.slice (some ⟨w4.heap.size, 0, none⟩) 1 1) (stepL s pred succ t fl ns)) := r5
      have E5 : Aside (stepB s pred succ t = true) := by rw [stepB, HO.out, HB.out]; rfl
      clear r5
      go_wp2_with fail
      refine leaves_cons (f := 17) (args := #[.pointer (some ⟨M, 42, none⟩)]) (by simp) (by simp [go_sem]) ?_
      refine (unlock_deferred Ybaz.muLib ⟨M, 42, none⟩ .returning _ c5 f5).mono ?_
      rintro e u' w'' ⟨rfl, rfl, rfl⟩
      refine ⟨.tuple #[.slice (some ⟨w4.heap.size, 0, none⟩) 1 1, .bool true], ?_, .slice (some ⟨w4.heap.size, 0, none⟩) 1 1, by rw [E5.out], R5.out, fr5, t5⟩
      simp [results, Ybaz.f13, go_sem]
    | false =>
      rw [hb] at k19
      have HB : Aside (btw t s succ = false) := hb
      clear hb
      go_wp2_with fail
      refine wp_region_quiet_grown mixedY (by kernel_rfl) ?_
      repeat (first | go_big_quiet_skip | quiet_step (first | (go_at_call 19; refine Calls.grown_of (k19 _))))
      refine wpQuiet_nil ?_
      intro _ hw'
      obtain ⟨⟨nq, osq⟩, hw''⟩ := hw'
      subst hw''
      have g4 : Grn w3 (grow (w3.drewN nq) osq) := ⟨nq, osq, rfl⟩
      have l4 := r1 nq osq
      generalize grow (w3.drewN nq) osq = w4 at g4 l4 ⊢
      clear r1 r2 r3 k19
      have k20 := precede_any (t := t) (HM3.out.grn g4) ((HG3.out.trans g4).rangeAt (by have := HS.out; omega) HN1.out) (by have := HS.out; have := (HG3.out.trans g4).grew.size; omega) HP.out.1 HP.out.2.1 HP.out.2.2.1 HP.out.2.2.2
      go_wp2_with fail
      refine k20.mono ?_
      rintro e w5 ⟨v5, rfl, hrow5, hfr5, hgr5⟩
      obtain ⟨c5, f5, r5, fr5, t5⟩ := FIN.out w5 v5 (g4.grew.grew hgr5) (by rw [stepL, HO.out, HB.out]; exact hrow5) (fun b e => by have := g4.grew.size; have := hfr5 b e; omega)
      have E5 : Aside (stepB s pred succ t = false) := by rw [stepB, HO.out, HB.out]; rfl
      clear k20 l4
      go_wp2_with fail
      refine leaves_cons (f := 17) (args := #[.pointer (some ⟨M, 42, none⟩)]) (by simp) (by simp [go_sem]) ?_
      refine (unlock_deferred Ybaz.muLib ⟨M, 42, none⟩ .returning _ c5 f5).mono ?_
      rintro e u' w'' ⟨rfl, rfl, rfl⟩
      refine ⟨.tuple #[v5, .bool false], ?_, v5, by rw [E5.out], r5, fr5, t5⟩
      simp [results, Ybaz.f13, go_sem]
end
end Go.Proofs.YbulkdevoGreat
