import Derived.Test.YbulkdetyC4
import Derived.Deep.RegionWith
namespace Go.Proofs.Ybulkdety
open Go.RowKit Go.Lib
set_option linter.unusedVariables false

theorem info74 : (Yba.prog.info? 74).map (fun i => (i.zero, i.size, i.bytes)) = some (some (.agg #[.int .i64 0, .int .i64 0]), 2, 16) := by kernel_rfl

theorem made74 (n j : Nat) (h : j < n) : (madeCells (Value.agg #[.int .i64 0, .int .i64 0]).cells n).toList[j]? = some (.int .i64 0) := by
  have h2 : j % 2 < 2 := Nat.mod_lt _ (by decide)
  have : (madeCells (Value.agg #[.int .i64 0, .int .i64 0]).cells n)[j]? = some (.int .i64 0) := by
    unfold madeCells
    rw [Array.getElem?_eq_getElem (by simpa using h)]
    have e : (Value.agg #[.int .i64 0, .int .i64 0]).cells = #[.int .i64 0, .int .i64 0] := rfl
    simp only [e]
    obtain h3 | h3 : j % 2 = 0 ∨ j % 2 = 1 := by omega
    all_goals simp [h3]
  simpa using this

/-- A table that has just been made. -/
theorem TabAt.made {w w' : World} {L m : Nat} (h : w'.ownsRow w.heap.size 74 2 (.slice (some ⟨L, 0, none⟩) m m) m (madeCells (Value.agg #[.int .i64 0, .int .i64 0]).cells (m * 2)).toList) : TabAt w' L m (fun _ => (0, 0)) := by
  refine ⟨?_, fun s hs => ?_, fun s hs => ?_⟩
  · rcases h.2 with ⟨h, _⟩ | ⟨g, cap, cur, hv, _, hg, _⟩
    · cases h
    · simp only [Value.slice.injEq, Option.some.injEq, Addr.mk.injEq] at hv
      obtain ⟨⟨rfl, _⟩, _⟩ := hv
      exact ⟨cur, hg⟩
  · rw [h.cellAt (s * 2) (by omega)]; exact made74 _ _ (by omega)
  · rw [h.cellAt (s * 2 + 1) (by omega)]; exact made74 _ _ (by omega)

theorem Turn.then {M M' : Nat → Prop} {a b c : World} (h : Turn M a b) (k : Turn M' b c) (hM : ∀ i, i < a.heap.size → M' i → M i) : Turn M a c :=
  ⟨k.os.trans h.os, k.tape.trans h.tape, k.output.trans h.output, Nat.le_trans h.size k.size, fun i hi hn => (k.block i (Nat.lt_of_lt_of_le hi h.size) (fun x => hn (hM i hi x))).trans (h.block i hi hn)⟩

set_option maxHeartbeats 1000000 in
set_option maxRecDepth 100000 in
theorem grow_core (A G F L m p q c : Nat) (tab : Nat → Nat × Nat) (nx : Nat → Nat) (w : World) (hz : (q : Int) / 18446744073709551616 = 0)
    (a3 : w.cell? ⟨A, 3, none⟩ = some (.slice (some ⟨G, 0, none⟩) 1 1)) (a4 : w.cell? ⟨A, 4, none⟩ = some (.int .u8 64))
    (hG : IsBlk w G #[.slice (some ⟨L, 0, none⟩) m m, .pointer (some ⟨F, 0, none⟩)] 69) (hm : m = 2 ^ p) (hp : p ≤ 6) (hT : TabAt w L m tab) (hL : Tab m tab nx c) (hcm : c < m) (hsm : ∀ f, nx f ≠ 0 → f ≤ 1000 ∧ nx f ≤ 1000) :
    Calls Yba.prog 24 #[.pointer (some ⟨A, 3, none⟩), .int .u64 q] w fun e w' => e = .returned (.tuple #[]) ∧ ∃ L' tab', w.heap.size ≤ L' ∧ IsBlk w' G #[.slice (some ⟨L', 0, none⟩) (2 * m) (2 * m), .pointer (some ⟨F, 0, none⟩)] 69 ∧ TabAt w' L' (2 * m) tab' ∧ Tab (2 * m) tab' nx c ∧ Turn (· = G) w w' := by
  have hpos : 0 < m := by omega
  have hmb : m ≤ 64 := by rw [hm]; exact Nat.pow_le_pow_right (n := 2) (i := p) (j := 6) (by decide) hp
  have HM : Hid (m = 2 ^ p) := hm
  have g0 := hG.cell 0
  have g1 := hG.cell 1
  simp only [List.getElem?_toArray, List.getElem?_cons_zero, List.getElem?_cons_succ] at g0 g1
  obtain ⟨i0, hi, hz0, hz1, hz2⟩ := info_parts info74
  clear hm
  go_enter Yba.func24, Yba.ntmps24
  go_wp2_with (at_make; refine wpList_make_full _ rfl _ _ 64 rfl w.heap.size 74 i0 _ 2 Yba.underlying64 hi hz0 hz1 .i64 .i64 _ _ (2 * m) rfl rfl ?c1 ?c2 ?c3 ?c4 ?c5 ?c6)
  case c1 => simp
  case c2 => simp
  case c3 => rw [hz2]; omega
  case c4 => unfold maxLen; omega
  case c5 => simp
  intro w1 hown hgr
  have hT1 := TabAt.made (w := w) hown
  have hTu : Turn (fun _ => False) w w1 := ((Turn.refl _ _).alloc _).grown hgr (fun k hk => by cases hk)
  have hTold := hT.turn hTu (by simp)
  have hGb := hG.turn hTu (by simp)
  have ha3 : w1.cell? ⟨A, 3, none⟩ = some (.slice (some ⟨G, 0, none⟩) 1 1) := (hTu.cell (World.block_lt_of_cell? w ⟨A, 3, none⟩ a3) (by simp)).trans a3
  have hbx : w1.cell? ⟨w.heap.size, 0, none⟩ = some (.slice (some ⟨L, 0, none⟩) m m) := hgr.cell (a := ⟨w.heap.size, 0, none⟩) (by simp) (by simp)
  have hsz : w.heap.size + 1 < w1.heap.size := by
    exact hT1.lt
  have hT0 := hT
  have hG0 := hG
  have a30 := a3
  clear hown hgr a3 a4 hi hz0 hz1 hz2 hz g0 g1 hT hG
  go_wp2_with fail
  have hcnt : taken tab m = c := hL.count
  go_loopw [48] (fun ix wr => ∃ i : Nat, i ≤ m ∧ ix = .int .i64 i ∧ Turn (fun _ => False) w wr ∧ ∃ tab', TabAt wr (w.heap.size + 1) (2 * m) tab' ∧ Tab (2 * m) tab' (said tab i) (taken tab i)) (fun ix _ => m - (intOf ix).toNat)
  case atStart => exact ⟨0, by omega, rfl, hTu, fun _ => (0, 0), hT1, Tab.empty _⟩
  case round =>
    obtain ⟨i, him, rfl, hTr, tab', hTn, hLn⟩ := hrel
    by_cases hlt : i < m
    · have hLr : TabAt wr L m tab := hT0.turn hTr (by simp)
      have hcf := hLr.from_ i hlt
      have hcn := hLr.next i hlt
      by_cases hnz : (tab i).2 = 0
      · have HS : Hid (said tab (i + 1) = said tab i ∧ taken tab (i + 1) = taken tab i) := by
          refine ⟨?_, ?_⟩
          · simp only [said]; rw [if_pos hnz]
          · simp only [taken]; rw [if_pos hnz]; omega
        have t1 : (((tab i).2 : Int) != 0) = false := by rw [hnz]; rfl
        have HT2 : Hid (Turn (fun _ => False) w (wr.alloc (.cells #[.int .i64 (tab i).1, .int .i64 (tab i).2] 74)) ∧ TabAt (wr.alloc (.cells #[.int .i64 (tab i).1, .int .i64 (tab i).2] 74)) (w.heap.size + 1) (2 * m) tab') := ⟨hTr.alloc _, hTn.turn ((Turn.refl (fun _ => False) _).alloc _) (by simp)⟩
        clear hLr hTn hTr hTu hT1 hTold hGb ha3 hbx hL hcnt hnz a30 hG0
        go_wp2
        go_roundw
        case rel => exact ⟨i + 1, by omega, by go_num, HT2.out.1, tab', HT2.out.2, by rw [HS.out.1, HS.out.2]; exact hLn⟩
        case measure => simp [intOf]; omega
      · have t1 : (((tab i).2 : Int) != 0) = true := by simp; omega
        have hs0 := said_new hL i hlt hnz
        have hlt2 : taken tab i < 2 * m := by have := taken_le tab i m him; omega
        obtain ⟨d, hd1, hd2, hd3⟩ := hLn.free hlt2 (tab i).1
        have hsml := hsm (tab i).1 (by rw [hL.right i hlt hnz]; exact hnz)
        rw [hL.right i hlt hnz] at hsml
        have hput : Hid (Tab (2 * m) (upd tab' (probe (2 * m) (tab i).1 d) ((tab i).1, (tab i).2)) (said tab (i + 1)) (taken tab (i + 1))) := by
          have h := hLn.put (by omega) (tab i).1 (tab i).2 d hs0 hnz hd1 hd2 hd3
          have e1 : said tab (i + 1) = upd (said tab i) (tab i).1 (tab i).2 := by simp only [said]; rw [if_neg hnz]
          have e2 : taken tab (i + 1) = taken tab i + 1 := by simp only [taken]; rw [if_neg hnz]
          show Tab _ _ _ _
          rw [e1, e2]; exact h
        have HT2 : Hid (Turn (fun _ => False) w (wr.alloc (.cells #[.int .i64 (tab i).1, .int .i64 (tab i).2] 74)) ∧ TabAt (wr.alloc (.cells #[.int .i64 (tab i).1, .int .i64 (tab i).2] 74)) (w.heap.size + 1) (2 * m) tab') := ⟨hTr.alloc _, hTn.turn ((Turn.refl (fun _ => False) _).alloc _) (by simp)⟩
        clear hLr hTn hTr hTu hT1 hTold hGb ha3 hbx hL hcnt hLn hs0 a30 hG0
        have HM2 : Hid (2 * m = 2 ^ (p + 1)) := by show 2 * m = 2 ^ (p + 1); rw [HM.out, Nat.pow_succ, Nat.mul_comm]
        have hp1 : p + 1 ≤ 10 := by omega
        have hs1 : (tab i).1 ≤ 1000000 := by omega
        have hs2 : (tab i).2 ≤ 1000000 := by omega
        have HTd : Hid (TabAt (wr.alloc (.cells #[.int .i64 (tab i).1, .int .i64 (tab i).2] 74)).drew (w.heap.size + 1) (2 * m) tab') := HT2.out.2.turn ((Turn.refl (fun _ => False) _).drew) (by simp)
        go_wp2_with fail
        go_region_with (first | (go_at_call 22; refine (linkHash_any (tab i).1 hs1 _).mono ?_; rintro e w2 ⟨rfl, rfl⟩) | (go_at_call 23; refine (put_any (w.heap.size + 1) (2 * m) (p + 1) (tab i).1 (tab i).2 d tab' _ HM2.out hp1 HTd.out hd1 hd2 hd3 hs1 hs2).mono ?_; rintro e w3 ⟨rfl, hTp, hTu3⟩))
        all_goals
          have HT4 : Hid (Turn (fun _ => False) w w3) := HT2.out.1.drew.then hTu3 (fun k hk e => by omega)
          clear hTu3
          go_wp2
          go_roundw
          case rel => exact ⟨i + 1, by omega, by go_num, HT4.out, _, hTp, hput.out⟩
          case measure => simp [intOf]; omega
    · obtain rfl : i = m := by omega
      have hGr := hG0.turn hTr (by simp)
      have a3r : wr.cell? ⟨A, 3, none⟩ = some (.slice (some ⟨G, 0, none⟩) 1 1) := (hTr.cell (World.block_lt_of_cell? w ⟨A, 3, none⟩ a30) (by simp)).trans a30
      have g0r := hGr.cell 0
      have gfz := hGr.frozen 0
      simp only [List.getElem?_toArray, List.getElem?_cons_zero] at g0r
      have HE : Hid (∃ L' tab', w.heap.size ≤ L' ∧ IsBlk (wr.setCell ⟨G, 0, none⟩ (.slice (some ⟨w.heap.size + 1, 0, none⟩) (2 * i) (2 * i))) G #[.slice (some ⟨L', 0, none⟩) (2 * i) (2 * i), .pointer (some ⟨F, 0, none⟩)] 69 ∧
          TabAt (wr.setCell ⟨G, 0, none⟩ (.slice (some ⟨w.heap.size + 1, 0, none⟩) (2 * i) (2 * i))) L' (2 * i) tab' ∧ Tab (2 * i) tab' nx c ∧ Turn (· = G) w (wr.setCell ⟨G, 0, none⟩ (.slice (some ⟨w.heap.size + 1, 0, none⟩) (2 * i) (2 * i)))) := by
        refine ⟨w.heap.size + 1, tab', by omega, ?_, ?_, ?_, ?_⟩
        · exact hGr.set 0 _
        · exact hTn.turn ((Turn.refl (· = G) _).setCell (p := ⟨G, 0, none⟩) (Or.inl rfl) _) (by have := hG0.lt; omega)
        · have h1 := said_all hL hpos
          rw [h1, hL.count] at hLn
          exact hLn
        · exact (hTr.mono (M' := (· = G)) (fun k _ h => h.elim)).setCell (p := ⟨G, 0, none⟩) (Or.inl rfl) _
      clear hGr hTn hTr hTu hT1 hTold hGb ha3 hbx hL hcnt hLn a30 hG0 hT0
      go_wp2_with fail
      first | go_end0 | refine bodyPost_ret (results_none rfl _ _ _) rfl ?_
      exact ⟨rfl, HE.out⟩
end Go.Proofs.Ybulkdety
