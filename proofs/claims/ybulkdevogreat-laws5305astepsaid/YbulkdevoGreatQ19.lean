/- The law, walked. -/
import Derived.Test.YbulkdevoGreatQ17
import Derived.Test.YbulkdevoGreatQ18
import Derived.Laws.MakeOwn
import Derived.Test.YbulkdevoGreatQ21
import Derived.Deep.RegionHeld2
import Derived.Deep.CutBlock
import Derived.Deep.CutRange
import Derived.Deep.DeepCutAuto
namespace Go.Proofs.YbulkdevoGreat
open Go.RowKit Go.Sort
set_option linter.unusedVariables false
set_option linter.unusedSimpArgs false

section
attribute [local go_sem ↓] fold_ld24 fold_st24 fold_ld26 fold_st26 fold_bd24 fold_bd26 fold_bs29 fold_ld27 fold_bd32 fold_bd74
set_option maxHeartbeats 8000000 in
set_option maxRecDepth 100000 in
theorem law_walk {w : World} (s succ pred : UInt8) (hp : Bool) (fa na : Option Addr) (fc nc : Nat) (f n : List UInt8) (t : UInt8) (addr : ByteArray) (mode : UInt8) (hf : U8 w fa f) (hn : U8 w na n) :
    Calls Ybaz.prog 3 #[.int .u8 s.toNat, .int .u8 succ.toNat, .int .u8 pred.toNat, .bool hp, .slice fa f.length fc, .slice na n.length nc, .int .u8 t.toNat, .string addr, .int .u8 mode.toNat] w fun e w' => e = .returned (.bool true) ∧ Below w.heap.size w w' := by
  obtain ⟨fm, FM⟩ : ∃ fm, Aside (f.length = fm) := ⟨_, rfl⟩
  obtain ⟨nm, NM⟩ : ∃ nm, Aside (n.length = nm) := ⟨_, rfl⟩
  rw [FM.out, NM.out]
  have HF : Aside (U8 w fa f) := hf
  have HN : Aside (U8 w na n) := hn
  clear hf hn
  by_cases h1 : (1024 : Int) < (fm : Int)
  · go_enter Ybaz.func3, Ybaz.ntmps3
    go_wp2_with fail
    go_ret
    exact ⟨rfl, Below.refl _ _⟩
  by_cases h2 : (1024 : Int) < (nm : Int)
  · go_enter Ybaz.func3, Ybaz.ntmps3
    go_wp2_with fail
    go_ret
    exact ⟨rfl, Below.refl _ _⟩
  have hG : Grn w (w.alloc (.cells Ybaz.zeroCells27 27)) := (Grn.refl w).alloc _
  have b1 : Aside (IsBlk (w.alloc (.cells Ybaz.zeroCells27 27)) w.heap.size Ybaz.zeroCells27 27) := IsBlk.new w _ _
  generalize hw1 : w.alloc (.cells Ybaz.zeroCells27 27) = w1 at hG b1
  obtain ⟨F, HFB⟩ : ∃ F, Aside (w.heap.size = F) := ⟨_, rfl⟩
  go_enter Ybaz.func3, Ybaz.ntmps3
  go_upto_block 0 with fail
  clear hw1
  rw [HFB.out]
  go_cut [20] from 46 to 62 (fun _ wx => Aside (∃ C, IsBlk wx F C 27 ∧ Fing C (f.take 160)) ∧ Aside (Turn (fun k => F ≤ k) w wx))
  case first =>
    go_wp2_with fail
    go_loopg [20] fm (fun gg s20 wr => ∃ i : Nat, i ≤ fm ∧ i ≤ 160 ∧ fm - i ≤ gg ∧ s20 = .int .i64 i ∧ Aside (∃ C, IsBlk wr F C 27 ∧ Fing C (f.take i)) ∧ Aside (Turn (fun k => F ≤ k) w wr))
    case atStart => exact ⟨0, by omega, by omega, by omega, rfl, ⟨_, by rw [← HFB.out]; exact b1.out, by rw [List.take_zero]; exact fing_zero⟩, Turn.of_grew hG.grew⟩
    case round =>
      obtain ⟨i, hi1, hi2, hgi, rfl, IC, IT⟩ := hrel
      by_cases hlt : i < fm ∧ i < 160
      · have g1 : (i : Int) < (fm : Int) := by omega
        have g2 : (i : Int) < 160 := by omega
        have h4 := FM.out
        obtain ⟨x, hx⟩ : ∃ x, Aside (f[i]? = some x) := ⟨_, List.getElem?_eq_getElem (by omega)⟩
        have IU : U8 wr fa f := HF.out.turn IT.out (fun b hb => by have := HFB.out; omega)
        obtain ⟨b, o, rfl, hb, hc⟩ := IU i x hx.out
        have hfm : fm ≤ 9223372036854775807 := by omega
        have k4 := peer_any x wr
        obtain ⟨C, hC, hCf⟩ := IC.out
        have HC : Aside (IsBlk wr F C 27 ∧ Fing C (f.take i)) := ⟨hC, hCf⟩
        clear IU h4 hb hC hCf IC
        go_wp2_with fail
        refine k4.mono ?_
        rintro e w3 ⟨rfl, j3⟩
        clear k4 hc
        have hst := St26_mid (o := i * 21) (HC.out.1.grn j3) (by rw [HC.out.2.1]; omega) (some x)
        have NX : Aside ((∃ C, IsBlk (w3.setCells F (i * 21) (pv (some x)).toList) F C 27 ∧ Fing C (f.take (i + 1))) ∧ Turn (fun k => F ≤ k) w (w3.setCells F (i * 21) (pv (some x)).toList)) :=
          ⟨⟨_, IsBlk.setCells _ _ (HC.out.1.grn j3), fing_step HC.out.2 (by omega) hx.out⟩, (IT.out.then j3.grew (fun _ _ x => x.elim)).then (turn_setCells F _ w3 _) (fun k _ e => by omega)⟩
        generalize w3.setCells F (i * 21) (pv (some x)).toList = w4 at hst NX
        go_wp2_with fail
        go_roundg (fm - (i + 1))
        case measure => omega
        case rel => exact ⟨i + 1, by omega, by omega, by omega, by go_num, NX.out.1, NX.out.2⟩
      · have IC2 : Aside (∃ C, IsBlk wr F C 27 ∧ Fing C (f.take 160)) := by
          obtain ⟨C, h5, h6⟩ := IC.out
          have h4 := FM.out
          refine ⟨C, h5, ?_⟩
          by_cases e : i = 160
          · rw [e] at h6; exact h6
          · rw [List.take_of_length_le (by omega)] at h6 ⊢; exact h6
        by_cases hlt1 : i < fm
        · have g1 : (i : Int) < (fm : Int) := by omega
          have g2 : ¬ (i : Int) < 160 := by omega
          go_wp2_with fail
          go_meet
          case rel => exact ⟨IC2, IT⟩
        · have g1 : ¬ (i : Int) < (fm : Int) := by omega
          go_wp2_with fail
          go_meet
          case rel => exact ⟨IC2, IT⟩
  case rest =>
  obtain ⟨IC, IT⟩ := hcut
  obtain ⟨C, hC0, hCf0⟩ := IC.out
  obtain ⟨i26, hi26, hz, hsz, hby⟩ := info26x
  obtain ⟨wm, hmk, hown0, hgr0⟩ := run_make_own (P := Ybaz.prog) wc wc.heap.size 29 26 i26 _ 21 Ybaz.underlying29 hi26 hz hsz .i64 .i64 nm (by rw [hby]; omega) (by simp only [maxLen]; omega) (Nat.le_refl _)
  obtain ⟨B0, HB0⟩ : ∃ B0, Aside (wc.heap.size = B0) := ⟨_, rfl⟩
  rw [HB0.out] at hown0 hmk
  have HCm : Aside (IsBlk wm F C 27 ∧ Fing C (f.take 160)) := ⟨hC0.turn (Turn.of_grownBy (v := .slice none 0 0) hgr0) (by simp [Value.ownBlock]), hCf0⟩
  have HTm : Aside (Turn (fun k => F ≤ k) w wm ∧ F < B0 ∧ B0 ≤ wm.heap.size) := ⟨IT.out.then (Turn.of_grownBy (v := .slice none 0 0) hgr0) (by simp [Value.ownBlock]), by rw [← HB0.out]; exact hC0.lt, by rw [← HB0.out]; exact hgr0.size⟩
  have HOm : Aside (Own wm B0 (.slice (some ⟨B0, 0, none⟩) 0 nm) []) := hown0
  clear IC IT hC0 hCf0 hown0 hgr0
  go_wp2_with fail
  clear hmk
  go_loopg [21, 23, 68] nm (fun gg s21 _ s68 wr => ∃ j : Nat, j ≤ nm ∧ nm - j ≤ gg ∧ s68 = .int .i64 j ∧ Aside (Own wr B0 s21 (n.take j) ∧ s21 ≠ .slice none 0 0) ∧ Aside (Turn (fun k => B0 ≤ k) wm wr))
  case atStart => exact ⟨0, by omega, by omega, rfl, ⟨HOm.out, by simp⟩, Turn.refl _ _⟩
  case round =>
    obtain ⟨j, hj, hgj, rfl, JO, JT⟩ := hrel
    by_cases hlt : j < nm
    · have g1 : (j : Int) < (nm : Int) := by omega
      have h4 := NM.out
      obtain ⟨x, hx⟩ : ∃ x, Aside (n[j]? = some x) := ⟨_, List.getElem?_eq_getElem (by omega)⟩
      have IU : U8 wr na n := HN.out.turn (HTm.out.1.then JT.out (fun k _ e => by have := HTm.out.2.1; omega)) (fun b hb => by have := HFB.out; omega)
      obtain ⟨b, o, rfl, hb, hc⟩ := IU j x hx.out
      have hfm : nm ≤ 9223372036854775807 := by omega
      have k4 := peer_any x wr
      have hl4 : (n.take j).length = j := by simp; omega
      have HL4 : Aside ((n.take j).length = j) := hl4
      clear IU h4 hb hl4
      go_wp2_with fail
      refine k4.mono ?_
      rintro e w3 ⟨rfl, j3⟩
      clear k4 hc
      have hbs := bs29 (some x) w3
      have OW3 : Aside ((w3.alloc (.cells (pv (some x)) 26)).ownsRow B0 26 21 u21 (n.take j).length (flat (n.take j))) := World.ownsRow.alloc (owns_turn JO.out.1 j3.grew (fun _ _ => id)) _
      have NW : Aside (∀ j u, (pv (some x)).toList[j]? = some u → (w3.alloc (.cells (pv (some x)) 26)).cell? ((⟨w3.heap.size, 0, none⟩ : Addr).add j) = some u) := fun j u hu => by
        rw [Addr.add_mid]
        exact (IsBlk.new w3 (pv (some x)) 26).range j u hu
      have N1 : Aside (∀ u ∈ (pv (some x)).toList, u.oneCell' = true) := fun u hu => (Array.all_eq_true_iff_forall_mem.1 (pv_one (some x))) u (by simpa using hu)
      have B1 : Aside ((n.take j).length + 1 ≤ maxLen) := by show (n.take j).length + 1 ≤ maxLen; rw [HL4.out]; simp only [maxLen]; omega
      have B2 : Aside (((n.take j).length + 1) * 40 ≤ 140737488355328) := by show ((n.take j).length + 1) * 40 ≤ 140737488355328; rw [HL4.out]; omega
      have B3 : Aside (B0 ≤ (w3.alloc (.cells (pv (some x)) 26)).heap.size) := by
        have q1 := HTm.out.2.2; have q2 := JT.out.size; have q3 := j3.grew.size
        show B0 ≤ _
        simp; omega
      go_wp2_with (at_builtin; refine wpList_append_own _ rfl _ _ 29 rfl B0 26 i26 _ 21 40 Ybaz.underlying29 hi26 hz hsz hby rfl (by decide) u21 (n.take j).length (flat (n.take j)) rfl OW3.out ⟨w3.heap.size, 0, none⟩ 1 1 (pv (some x)).toList rfl rfl NW.out N1.out B1.out B2.out B3.out ?_; intro v5 w5 hown5 hgr5 hnil5)
      go_roundg (nm - (j + 1))
      case measure => omega
      case rel =>
        refine ⟨j + 1, by omega, by omega, by go_num, ⟨?_, fun e => ?_⟩, ?_⟩
        · show w5.ownsRow B0 26 21 v5 (n.take (j + 1)).length (flat (n.take (j + 1)))
          rw [List.take_add_one, hx.out, Option.toList_some, List.length_append, List.length_singleton, flat_snoc]
          exact hown5
        · have := (hnil5.1 e).2
          omega
        · exact (JT.out.then (j3.alloc (.cells (pv (some x)) 26)).grew (fun _ _ x => x.elim)).then (Turn.of_grownBy hgr5) (fun k _ e => (own_base JO.out.1 e).1)
    · have g1 : ¬ (j : Int) < (nm : Int) := by omega
      have h4 := NM.out
      obtain ⟨hO, hne⟩ := JO.out
      rw [List.take_of_length_le (by omega)] at hO
      rcases hO.open with ⟨e, _⟩ | ⟨N, ncap, hv, hbN, hNl, hNc, hNr, _⟩
      · exact absurd e hne
      subst hv
      have HNr : Aside (wr.rangeAt N 0 (flat n) ∧ N < wr.heap.size ∧ B0 ≤ N) := ⟨hNr, hNl, hbN⟩
      have HCr : Aside (IsBlk wr F C 27 ∧ Fing C (f.take 160)) := ⟨HCm.out.1.turn JT.out (by have := HTm.out; omega), HCm.out.2⟩
      have HTr : Aside (Turn (fun k => F ≤ k) w wr ∧ F < wr.heap.size) := ⟨HTm.out.1.then JT.out (fun k _ e => by have := HTm.out.2.1; omega), by have h1 := HTm.out; have h2 := JT.out.size; omega⟩
      rw [h4]
      clear JO JT hO hne hNr hNl hbN hNc HCm HTm HOm h4
      go_upto_region 14 with fail
      obtain ⟨Cl, hCl⟩ : ∃ Cl : List Value, C = Cl.toArray := ⟨C.toList, by simp⟩
      subst hCl
      have hcl : Cl.length = 3360 := by have := HCr.out.2.1; simpa using this
      obtain ⟨ZZ, HZZ⟩ : ∃ ZZ, Aside (memC Ybaz.zeroCells74 s succ Cl.toArray (.slice (some ⟨N, 0, none⟩) nm ncap) = ZZ) := ⟨_, rfl⟩
      have hb32 := bd32 succ
      have hb74 := fun V => bd74 s succ Cl.toArray HCr.out.2.1 (some ⟨N, 0, none⟩) nm ncap V
      rw [HZZ.out] at hb74
      have hu27 := Ybaz.underlying27
      have hi27 : (Ybaz.prog.info? 27).map (·.size) = some Cl.length := by rw [info27, hcl]
      have hr0 : wr.rangeAt F 0 Cl := by have := HCr.out.1.range; simpa using this
      have HRG : Aside (∀ V, Grn wr V → V.rangeAt F 0 Cl) := fun V h => h.rangeAt HTr.out.2 hr0
      have ks := peer_any s
      have kq := peer_any succ
      have hgr : Grn wr wr := Grn.refl wr
      have hsf : ∀ X V : World, Grn (X.alloc (.cells #[.pointer none] 30)) V → V.frozen? ⟨X.heap.size, 0, none⟩ = false := fun X V h => ((IsBlk.new X #[.pointer none] 30).grn h).frozen 0
      have hgx : ∀ X, Grn X X := Grn.refl
      have hga : ∀ (X V : World) (o : Obj), Grn X V → Grn X (V.alloc o) := fun X V o h => h.alloc o
      have hsc : ∀ X V : World, Grn (X.alloc (.cells #[.pointer none] 30)) V → V.cell? ⟨X.heap.size, 0, none⟩ = some (.pointer none) := fun X V h => ((IsBlk.new X #[.pointer none] 30).grn h).cell 0
      clear hcl hr0
      go_cut [24] from 78 to 86 (fun s24 wx => ∃ M mb, s24 = .pointer (some ⟨mb, 0, none⟩) ∧ Aside (IsBlk wx mb #[.pointer (some ⟨M, 0, none⟩)] 30 ∧ IsBlk wx M ZZ 74 ∧ wr.heap.size ≤ M ∧ wr.heap.size ≤ mb ∧ M ≠ mb ∧ Grew wr wx))
      case first =>
        have hkp : ∀ V, Grn wr V → Grn wr V ∧ V.rangeAt F 0 Cl := fun V h => ⟨h, HRG.out V h⟩
        have hsz : ∀ X, Grn wr X → wr.heap.size ≤ X.heap.size := fun X h => h.grew.size
        go_region_held2 (fun V => Grn wr V ∧ V.rangeAt F 0 Cl) (first | (refine hkp _ ?_; repeat (first | exact hgr | exact hgr.drew | exact And.left (b := World.rangeAt _ F 0 Cl) (by assumption) | refine Grn.alloc ?_ _ | refine Grn.trans ?_ jA | refine Grn.trans ?_ jC | refine Grn.drew ?_ | refine Grn.setCell ?_ ?_ _ | exact Nat.le_refl _ | exact zA | exact zB | exact hsz _ (And.left (b := World.rangeAt _ F 0 Cl) (by assumption))))) (first | (go_at_call 4; refine (ks _).mono ?_; rintro e wA ⟨rfl, jA⟩; have zA : wr.heap.size ≤ wA.heap.size := hsz _ (Grn.trans (And.left (b := World.rangeAt _ F 0 Cl) (by assumption)) jA); (try have jB : Grn (wr.alloc (.cells #[.pointer none] 30)) wA := Grn.trans (by first | exact (Grn.refl _).drew | exact Grn.refl _) jA)) | (go_at_call 4; refine (kq _).mono ?_; rintro e wB ⟨rfl, jC⟩; have zB : wr.heap.size ≤ wB.heap.size := hsz _ (Grn.trans (And.left (b := World.rangeAt _ F 0 Cl) (by assumption)) jC); (try have jD : Grn (wr.alloc (.cells #[.pointer none] 30)) wB := Grn.trans (by assumption) jC)))
        all_goals
          go_wp2_with fail
          go_meet
          case rel => first | exact ⟨_, _, rfl, born1 (Grn.trans (hgr.drew.trans jA) jC)⟩ | exact ⟨_, _, rfl, born2 (Grn.trans (hgr.drew.trans jA) jC)⟩ | exact ⟨_, _, rfl, born3 (hgr.drew.trans jA) jC⟩ | exact ⟨_, _, rfl, born3 hgr jD⟩
      case rest =>
      obtain ⟨M, mb, rfl, BN⟩ := hcut
      obtain ⟨nv, HNV⟩ : ∃ nv, Aside (Value.slice (some ⟨N, 0, none⟩) n.length ncap = nv) := ⟨_, rfl⟩
      have MB : Aside (Mem wc M s none succ nv Cl.toArray ∧ wc.cell? ⟨M, 42, none⟩ = some (.int .i32 0) ∧ wc.frozen? ⟨M, 42, none⟩ = false) := by
        have h1 := BN.out.2.1
        rw [← HZZ.out, ← NM.out, HNV.out] at h1
        exact mem_built h1 HCr.out.2.1
      have TH : Aside (∀ V, Grn wc V → V.there M 44 21) := fun V h => IsBlk.there (BN.out.2.1.grn h) 44 21 (by rw [← HZZ.out, memC, setL_size, setL_size, setL_size, setL_size]; have := z74size.2; omega)
      have WW : Aside (Turn (fun k => F ≤ k) w wc ∧ wr.heap.size ≤ wc.heap.size) := ⟨HTr.out.1.then BN.out.2.2.2.2.2 (fun _ _ x => x.elim), BN.out.2.2.2.2.2.size⟩
      clear hb32 hb74 hu27 hi27 ks kq hgr hgx hga hsc hsf HRG
      go_upto_if 87 with fail
      go_cut [] from 87 to 93 (fun wx => Aside (Mem wx M s (if hp then some pred else none) succ nv Cl.toArray ∧ wx.cell? ⟨M, 42, none⟩ = some (.int .i32 0) ∧ wx.frozen? ⟨M, 42, none⟩ = false) ∧ Aside (Turn (fun k => k = M) wc wx))
      case first =>
        cases hp with
        | false =>
          go_wp2_with fail
          go_meet
          case rel => exact ⟨MB, Turn.refl _ _⟩
        | true =>
          have hgc : Grn wc wc.drew := (Grn.refl wc).drew
          have kp := peer_any pred
          have hcw : ∀ V, Grn wc V → V.cell? ⟨mb, 0, none⟩ = some (.pointer (some ⟨M, 0, none⟩)) := fun V h => (BN.out.1.grn h).cell 0
          have hcw0 : wc.cell? ⟨mb, 0, none⟩ = some (.pointer (some ⟨M, 0, none⟩)) := BN.out.1.cell 0
          have hstp : ∀ V, Grn wc V → (St 26 ⟨M, 44, none⟩ (.agg (pv (some pred)))).run Ybaz.prog V = .ok () (V.setCells M 44 (pv (some pred)).toList) := fun V h =>
            run_storeVar_mid (P := Ybaz.prog) V M 44 26 (pv (some pred)) (by rw [pv_size]; exact TH.out V h) (by rw [info26, pv_size]) (pv_one _)
          go_wp2_with fail
          go_region_with (first | (go_at_call 4; refine (kp _).mono ?_; rintro e wP ⟨rfl, jP⟩; have jP' : Grn wc wP := Grn.trans hgc jP))
          all_goals
            go_wp2_with fail
            go_meet
            case rel =>
              exact ⟨mem_pred (MB.out.1.grn jP') ((World.cell?_of_block (a := ⟨M, 42, none⟩) (jP'.block MB.out.1.lt)).trans MB.out.2.1) ((World.frozen?_of_block (a := ⟨M, 42, none⟩) (jP'.block MB.out.1.lt)).trans MB.out.2.2) (TH.out _ jP') pred, (Turn.of_grew jP'.grew).then (turn_setCells M _ _ _) (fun _ _ e => e)⟩
      case rest =>
      obtain ⟨MB2, TC⟩ := hcut
      have HM1 : Aside (F ≤ M ∧ M < wc.heap.size ∧ N < wc.heap.size ∧ N ≠ M ∧ M ≠ mb ∧ mb < wc.heap.size) := by
        have h1 := HTr.out.1.size; have h2 := HFB.out; have h3 := BN.out; have h4 := TC.out.size; have h5 := HNr.out; have h6 := h3.2.1.lt; have h7 := h3.1.lt; have h8 := h3.2.2.2.2.2.size
        exact ⟨by omega, by omega, by omega, by omega, h3.2.2.2.2.1, by omega⟩
      have HB : Aside (IsBlk wc mb #[.pointer (some ⟨M, 0, none⟩)] 30) := BN.out.1.turn TC.out (fun e => HM1.out.2.2.2.2.1 e.symm)
      have HT : Aside (Turn (fun k => F ≤ k) w wc) := WW.out.1.then TC.out (fun k _ e => by have := HM1.out; omega)
      have HR : Aside (Ready wc wc.heap.size M s (if hp then some pred else none) succ (f.take 160) n) := by
        refine ⟨N, ncap, Cl.toArray, by rw [HNV.out]; exact MB2.out.1, ?_, HM1.out.2.2.1, HM1.out.2.1, Nat.le_refl _, HM1.out.2.2.2.1, by have := NM.out; omega, by simp; omega, HCr.out.2.1, HCr.out.2.2, MB2.out.2⟩
        have h5 := HNr.out
        have h8 := BN.out.2.2.2.2.2
        exact rangeAt_same (rangeAt_same h5.1 (h8.block N h5.2.1 id)) (TC.out.block N (Nat.lt_of_lt_of_le h5.2.1 h8.size) HM1.out.2.2.2.1)
      clear BN MB MB2 TC TH WW HZZ HNr HCr HTr
      go_wp2_with fail
      refine (errNew _ _).mono ?_
      rintro e w5 ⟨rfl, rfl⟩
      go_wp2_with fail
      refine (background _).mono ?_
      rintro e w6 ⟨⟨cx, rfl⟩, hw6⟩
      replace hw6 := hw6.symm
      subst hw6
      go_wp2_with fail
      obtain ⟨k, HK⟩ : ∃ k : Int, Aside ((mode.toNat : Int) % 3 = k) := ⟨_, rfl⟩
      have hk3 : k = 0 ∨ k = 1 ∨ k = 2 := by have := HK.out; omega
      rw [HK.out]
      obtain ⟨hG7, hB7⟩ := lay7_boxes (w := wc) k HB.out HM1.out.2.2.2.2.1 HM1.out.2.1
      obtain ⟨sb, H1⟩ : ∃ x, Aside (wc.heap.size + 1 = x) := ⟨_, rfl⟩
      obtain ⟨kb, H2⟩ : ∃ x, Aside (wc.heap.size + 1 + 1 = x) := ⟨_, rfl⟩
      obtain ⟨cb, H3⟩ : ∃ x, Aside (wc.heap.size + 1 + 1 + 1 = x) := ⟨_, rfl⟩
      obtain ⟨vb, H4⟩ : ∃ x, Aside (wc.heap.size + 1 + 1 + 1 + 1 = x) := ⟨_, rfl⟩
      obtain ⟨ob, H5⟩ : ∃ x, Aside (wc.heap.size + 1 + 1 + 1 + 1 + 1 = x) := ⟨_, rfl⟩
      obtain ⟨eb, H6⟩ : ∃ x, Aside (wc.heap.size + 1 + 1 + 1 + 1 + 1 + 1 = x) := ⟨_, rfl⟩
      rw [H6.out, H5.out, H4.out, H3.out, H2.out, H1.out]
      have hB8 : Boxes (lay7 wc k) M mb sb kb cb vb ob eb (.iface 88 (.pointer (some ⟨wc.heap.size, 0, none⟩))) k 0 0 ⟨#[]⟩ := by
        rw [← H6.out, ← H5.out, ← H4.out, ← H3.out, ← H2.out, ← H1.out]
        exact hB7
      clear hB7
      have hR8 := HR.out.grn hG7
      have HT8 : Aside (Turn (fun k => F ≤ k) w (lay7 wc k)) := HT.out.then hG7.grew (fun _ _ x => x.elim)
      have hSB : wc.heap.size ≤ sb := by rw [← H1.out]; omega
      change Calls Ybaz.prog 9 _ (lay7 wc k) _
      obtain ⟨X, HX⟩ : ∃ X, Aside (wc.heap.size = X) := ⟨_, rfl⟩
      rw [HX.out] at hB8 hR8 hSB ⊢
      generalize lay7 wc k = w7 at hB8 hR8 HT8 hG7 ⊢
      refine (id_any t _).mono ?_
      rintro e w8 ⟨rfl, j8⟩
      have hB9 := hB8.grn j8
      have hR9 := hR8.grn j8
      have HT9 : Aside (Turn (fun k => F ≤ k) w w8) := HT8.out.then j8.grew (fun _ _ x => x.elim)
      have HM9 : Aside (F ≤ M ∧ F ≤ sb) := ⟨HM1.out.1, by have := HM1.out; have := HX.out; omega⟩
      clear hB8 hR8 HT8 hG7 j8
      have GO : Aside (∀ w' : World, Turn (fun i => i = M ∨ (sb ≤ i ∧ i ≤ eb)) w8 w' → Turn (fun k => F ≤ k) w w') := fun w' h => HT9.out.then h (fun i _ e => by have := HM9.out; omega)
      have BE : Aside (∀ w' : World, Turn (fun k => F ≤ k) w w' → Below w.heap.size w w') := fun w' h => h.below (Nat.le_refl _) (fun k e => by have := HFB.out; omega)
      by_cases hk0 : k = 0
      · subst hk0
        have k7 := cstep_zero (t := t) hB9 hR9 hSB cx addr
        clear hB9 hR9 hSB hk3
        go_wp2_with fail
        refine k7.mono ?_
        rintro e w9 ⟨v, rfl, hB10, hrow, hfr, ht10⟩
        clear k7
        obtain ⟨va, vc, rfl⟩ := hrow.len
        have c1 : w9.cell? ⟨cb, 0, none⟩ = some (.int .i64 1) := hB10.bc.cell 0
        have c2 : w9.cell? ⟨ob, 0, none⟩ = some (.string addr) := hB10.bo.cell 0
        have c3 : w9.cell? ⟨eb, 0, none⟩ = some .nilIface := hB10.be.cell 0
        have c4 : w9.cell? ⟨kb, 0, none⟩ = some (.int .u8 0) := hB10.bk.cell 0
        have c5 : w9.cell? ⟨vb, 0, none⟩ = some (.int .i64 1) := hB10.bv.cell 0
        have HT10 : Aside (Turn (fun k => F ≤ k) w w9) := GO.out _ ht10
        have U1 : U8 w9 fa f := HF.out.turn HT10.out (fun b hb => by have := HFB.out; omega)
        have U2 : U8 w9 na n := HN.out.turn HT10.out (fun b hb => by have := HFB.out; omega)
        have k10 := model_any s succ pred hp fa na fc nc f n t U1 U2 (by have := FM.out; omega) (by have := NM.out; omega)
        rw [← (step_model s succ pred hp f n t).1, ← (step_model s succ pred hp f n t).2, FM.out, NM.out] at k10
        have HLEN := stepL_length s (if hp then some pred else none) succ t (f.take 160) n
        have HL0 : Aside ((stepL s (if hp then some pred else none) succ t (f.take 160) n).length ≤ 2000) := by
          have h1 := NM.out
          have h2 : (f.take 160).length ≤ 160 := by simp; omega
          show _ ≤ 2000
          omega
        have HROW : Aside (Row w9 (.slice va (stepL s (if hp then some pred else none) succ t (f.take 160) n).length vc) (stepL s (if hp then some pred else none) succ t (f.take 160) n)) := hrow
        clear hB10 hrow hfr ht10 U1 U2 HLEN
        generalize hLL : stepL s (if hp then some pred else none) succ t (f.take 160) n = LL at k10 HROW HL0 ⊢
        generalize hBB : stepB s (if hp then some pred else none) succ t = bb at k10 ⊢
        clear hLL hBB
        obtain ⟨ln, LN⟩ : ∃ ln, Aside (LL.length = ln) := ⟨_, rfl⟩
        rw [LN.out]
        rw [LN.out] at HROW HL0
        have hln : ln ≤ 2000 := HL0.out
        go_wp2_with fail
        refine k10.mono ?_
        rintro e w10 ⟨v2, rfl, hrow2, _, hgr2⟩
        clear k10 c1 c2 c3 c4 c5
        obtain ⟨va2, vc2, rfl⟩ := hrow2.len
        rw [LN.out] at hrow2 ⊢
        have R1 : Aside (Row w10 (.slice va ln vc) LL) := HROW.out.turn hgr2 (fun _ _ => id)
        have R2 : Aside (Row w10 (.slice va2 ln vc2) LL) := hrow2
        have HT11 : Aside (Turn (fun k => F ≤ k) w w10) := HT10.out.then hgr2 (fun _ _ x => x.elim)
        have hbb : (bb != bb) = false := by simp
        clear hrow2 hgr2
        go_wp2_with fail
        go_loopg [37, 161] ln (fun gg _ s161 wr => ∃ i : Nat, i ≤ ln ∧ ln - i ≤ gg ∧ s161 = .int .i64 i ∧ Aside (Grn w10 wr))
        case atStart => exact ⟨0, by omega, by omega, rfl, Grn.refl _⟩
        case round =>
          obtain ⟨i, hi, hgi, rfl, JG⟩ := hrel
          by_cases hlt : i < ln
          · have g1 : (i : Int) < (ln : Int) := by omega
            obtain ⟨x, hx⟩ : ∃ x, Aside (LL[i]? = some x) := ⟨_, List.getElem?_eq_getElem (by rw [LN.out]; exact hlt)⟩
            obtain ⟨ga, oa, ha, hga, hra⟩ := R1.out.elem hx.out
            obtain ⟨gb, ob2, hb2, hgb, hrb⟩ := R2.out.elem hx.out
            subst ha
            subst hb2
            have l1 : ∀ m, (Ld 26 ⟨ga, oa + i * 21, none⟩).run Ybaz.prog (wr.drewN m) = .ok (.agg (pv (some x))) (wr.drewN m) := fun m => run_Ld26 ((JG.out.drewN m).rangeAt hga hra) (pv_size _)
            have l2 : ∀ m, (Ld 26 ⟨gb, ob2 + i * 21, none⟩).run Ybaz.prog (wr.drewN m) = .ok (.agg (pv (some x))) (wr.drewN m) := fun m => run_Ld26 ((JG.out.drewN m).rangeAt hgb hrb) (pv_size _)
            have hne : ∀ W, (binOp .neq 26 (.agg (pv (some x))) (.agg (pv (some x)))).run Ybaz.prog W = .ok (.bool false) W := fun W => by rw [neq_peer]; simp
            have hfm : ln ≤ 9223372036854775807 := by omega
            clear hra hrb
            go_wp2_with fail
            go_quiet (fail)
            go_wp2_with fail
            go_roundg (ln - (i + 1))
            case measure => omega
            case rel => exact ⟨i + 1, by omega, by omega, by go_num, JG.out.drewN _⟩
          · have g1 : ¬ (i : Int) < (ln : Int) := by omega
            go_wp2_with fail
            go_ret
            exact ⟨rfl, BE.out _ (HT11.out.then JG.out.grew (fun _ _ x => x.elim))⟩
      · have k7 := cstep_fail (t := t) (by omega) hB9 hR9 hSB cx addr
        clear hB9 hR9 hSB
        go_wp2_with fail
        refine k7.mono ?_
        rintro e w9 ⟨rfl, ⟨sd, hB10⟩, ht10⟩
        clear k7
        have c1 : w9.cell? ⟨cb, 0, none⟩ = some (.int .i64 1) := hB10.bc.cell 0
        have c2 : w9.cell? ⟨ob, 0, none⟩ = some (.string addr) := hB10.bo.cell 0
        have c3 : w9.cell? ⟨eb, 0, none⟩ = some .nilIface := hB10.be.cell 0
        have c4 : w9.cell? ⟨kb, 0, none⟩ = some (.int .u8 k) := hB10.bk.cell 0
        have c5 : w9.cell? ⟨sb, 0, none⟩ = some (.iface 88 (.pointer (some ⟨X, 0, none⟩))) := hB10.bs.cell 0
        have he := eql_err X
        have hsl := eql_nil29
        have hkb : (k != 0) = true := by simpa using hk0
        clear hB10
        go_wp2_with fail
        go_ret
        exact ⟨rfl, BE.out _ (GO.out _ ht10)⟩
end
end Go.Proofs.YbulkdevoGreat
