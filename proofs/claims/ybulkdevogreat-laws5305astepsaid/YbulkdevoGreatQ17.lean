/- The model of the law, whole. -/
import Derived.Test.YbulkdevoGreatQ16
namespace Go.Proofs.YbulkdevoGreat
open Go.RowKit Go.Sort
set_option linter.unusedVariables false
set_option linter.unusedSimpArgs false

def mOwn (s succ pred : UInt8) (hp : Bool) (t : UInt8) : Bool := if hp then mbtw t pred s else succ == s
def mB (s succ pred : UInt8) (hp : Bool) (t : UInt8) : Bool := mOwn s succ pred hp t || mbtw t s succ
def mL (s succ pred : UInt8) (hp : Bool) (f n : List UInt8) (t : UInt8) : List UInt8 :=
  if mOwn s succ pred hp t then [s] else if mbtw t s succ then [succ] else outTo s (fun d => (f.take 160 ++ succ :: n).contains (s + UInt8.ofNat d)) (limOf s t) 255

section
attribute [local go_sem ↓] fold_ld24 fold_st24 fold_ld26 fold_st26 fold_bd24 fold_bd26 fold_bs29
set_option maxHeartbeats 8000000 in
set_option maxRecDepth 100000 in
theorem model_any {w : World} (s succ pred : UInt8) (hp : Bool) (fa na : Option Addr) (fc nc : Nat) (f n : List UInt8) (t : UInt8) (hf : U8 w fa f) (hn : U8 w na n) (hfl : f.length ≤ 1024) (hnl : n.length ≤ 1024) :
    Calls Ybaz.prog 10 #[.int .u8 s.toNat, .int .u8 succ.toNat, .int .u8 pred.toNat, .bool hp, .slice fa f.length fc, .slice na n.length nc, .int .u8 t.toNat] w fun e w' => ∃ v, e = .returned (.tuple #[v, .bool (mB s succ pred hp t)]) ∧ Row w' v (mL s succ pred hp f n t) ∧ (∀ b, v.ownBlock = some b → w.heap.size ≤ b) ∧ Grew w w' := by
  have HF : Aside (U8 w fa f ∧ f.length ≤ 1024) := ⟨hf, hfl⟩
  have HN : Aside (U8 w na n ∧ n.length ≤ 1024) := ⟨hn, hnl⟩
  obtain ⟨fm, FM⟩ : ∃ fm, Aside (f.length = fm) := ⟨_, rfl⟩
  obtain ⟨nm, NM⟩ : ∃ nm, Aside (n.length = nm) := ⟨_, rfl⟩
  rw [FM.out, NM.out]
  clear hf hfl hn hnl
  have k14 := mbetween_any t pred s
  have k14b := mbetween_any t s succ
  have ks := peer_any s
  have kq := peer_any succ
  have bs := bs29 (some s)
  have bq := bs29 (some succ)
  cases hp with
  | true =>
    cases hq : mbtw t pred s with
    | true =>
      have OW : Aside (mOwn s succ pred true t = true) := by show mOwn s succ pred true t = true; rw [mOwn, hq]; rfl
      rw [hq] at k14
      go_enter Ybaz.func10, Ybaz.ntmps10
      go_wp2_with fail
      refine (k14 _).mono ?_
      rintro e w' ⟨rfl, hww⟩; replace hww := hww.symm; subst hww
      go_wp2_with fail
      refine (ks _).mono ?_
      rintro e w1 ⟨rfl, j1⟩
      go_wp2_with fail
      refine bodyPost_ret (v := .tuple #[.slice (some ⟨w1.heap.size, 0, none⟩) 1 1, .bool true]) ?_ rfl ⟨_, by rw [mB, OW.out]; rfl, by rw [mL, OW.out]; exact row_one (IsBlk.new w1 _ _), fun b e => by have := j1.grew.size; simp [Value.ownBlock] at e; omega, (j1.alloc _).grew⟩
      simp [results, Ybaz.f10, go_sem]
    | false =>
      have OW : Aside (mOwn s succ pred true t = false) := by show mOwn s succ pred true t = false; rw [mOwn, hq]; rfl
      rw [hq] at k14
      go_enter Ybaz.func10, Ybaz.ntmps10
      go_wp2_with fail
      refine (k14 _).mono ?_
      rintro e w' ⟨rfl, hww⟩; replace hww := hww.symm; subst hww
      clear k14 hq
      go_wp2_with fail
      refine (k14b _).mono ?_
      rintro e w' ⟨rfl, hww⟩; replace hww := hww.symm; subst hww
      clear k14b
      cases hq2 : mbtw t s succ with
      | true =>
        have HQ : Aside (mbtw t s succ = true) := hq2
        go_wp2_with fail
        refine (kq _).mono ?_
        rintro e w1 ⟨rfl, j1⟩
        go_wp2_with fail
        refine bodyPost_ret (v := .tuple #[.slice (some ⟨w1.heap.size, 0, none⟩) 1 1, .bool true]) ?_ rfl ⟨_, by rw [mB, OW.out, HQ.out]; rfl, by rw [mL, OW.out, HQ.out]; exact row_one (IsBlk.new w1 _ _), fun b e => by have := j1.grew.size; simp [Value.ownBlock] at e; omega, (j1.alloc _).grew⟩
        simp [results, Ybaz.f10, go_sem]
      | false =>
        have HQ : Aside (mbtw t s succ = false) := hq2
        clear hq2 ks kq bs bq
        have hG : Grn w (w.alloc (.cells Ybaz.zeroCells101 101)) := (Grn.refl w).alloc _
        have b1 : Aside (IsBlk (w.alloc (.cells Ybaz.zeroCells101 101)) w.heap.size (prOf s []) 101) := by rw [prOf_nil]; exact IsBlk.new w _ _
        generalize hw1 : w.alloc (.cells Ybaz.zeroCells101 101) = w1 at hG b1
        go_wp2_with fail
        clear hw1
        obtain ⟨P, HP⟩ : ∃ P, Aside (w.heap.size = P) := ⟨_, rfl⟩
        rw [HP.out]
        go_loopg [18] fm (fun gg s18 wr => ∃ i : Nat, i ≤ fm ∧ i ≤ 160 ∧ fm - i ≤ gg ∧ s18 = .int .i64 i ∧ Aside (IsBlk wr P (prOf s (f.take i)) 101) ∧ Aside (Turn (· = P) w1 wr))
        case atStart => exact ⟨0, by omega, by omega, by omega, rfl, (by rw [← HP.out]; exact b1), Turn.refl _ _⟩
        case round =>
          obtain ⟨i, hi1, hi2, hgi, rfl, IP, IT⟩ := hrel
          by_cases hlt : i < fm ∧ i < 160
          · have h1 : (i : Int) < (fm : Int) := by omega
            have h2 : (i : Int) < 160 := by omega
            have h3 := HF.out.2
            have h4 := FM.out
            obtain ⟨x, hx⟩ : ∃ x, Aside (f[i]? = some x) := ⟨_, List.getElem?_eq_getElem (by omega)⟩
            have IU : U8 wr fa f := HF.out.1.turn ((Turn.of_grew hG.grew).then IT.out (fun k _ e => e)) (fun b hb => by have := HP.out; omega)
            obtain ⟨b, o, rfl, hb, hc⟩ := IU i x hx.out
            have hw := wrap_sub x s
            obtain ⟨u, hu⟩ : ∃ u, Aside ((x - s).toNat = u) := ⟨_, rfl⟩
            rw [hu.out] at hw
            have hul : u < 256 := by rw [← hu.out]; exact u8_lt256 _
            have hul2 : (u : Int) < 256 := by omega
            obtain ⟨q, hcq⟩ : ∃ q, wr.cell? ⟨P, u, none⟩ = some q := ⟨_, (IP.out.cell u).trans (prOf_get s _ u hul)⟩
            have hfq := IP.out.frozen u
            have hfm : fm ≤ 9223372036854775807 := by omega
            have NX : Aside (IsBlk (wr.setCell ⟨P, u, none⟩ (.bool true)) P (prOf s (f.take (i + 1))) 101 ∧ Turn (· = P) w1 (wr.setCell ⟨P, u, none⟩ (.bool true))) := by
              have := IP.out.set u (.bool true)
              rw [← hu.out, prOf_set, hu.out] at this
              rw [List.take_add_one, hx.out]
              exact ⟨this, IT.out.then (Turn.set1 wr P u (.bool true)) (fun _ _ e => e)⟩
            clear IU h3 h4 hb hul
            go_wp2_with fail
            go_roundg (fm - (i + 1))
            case measure => omega
            case rel => exact ⟨i + 1, by omega, by omega, by omega, by go_num, NX.out.1, NX.out.2⟩
          · have IP2 : Aside (IsBlk wr P (prOf s (f.take 160)) 101) := by
              have := IP.out
              have h4 := FM.out
              by_cases e : i = 160
              · rw [e] at this; exact this
              · rw [List.take_of_length_le (by omega)] at this ⊢; exact this
            by_cases hlt1 : i < fm
            · have h1 : (i : Int) < (fm : Int) := by omega
              have h2 : ¬ (i : Int) < 160 := by omega
              have IT1 := IT
              obtain ⟨fl, FL⟩ : ∃ fl, Aside (f.take 160 = fl) := ⟨_, rfl⟩
              rw [FL.out] at IP2
              clear IP IT hgi
              have hw := wrap_sub succ s
              obtain ⟨u, hu⟩ : ∃ u, Aside ((succ - s).toNat = u) := ⟨_, rfl⟩
              rw [hu.out] at hw
              have hul : u < 256 := by rw [← hu.out]; exact u8_lt256 _
              have hul2 : (u : Int) < 256 := by omega
              obtain ⟨q, hcq⟩ : ∃ q, wr.cell? ⟨P, u, none⟩ = some q := ⟨_, (IP2.out.cell u).trans (prOf_get s _ u hul)⟩
              have hfq := IP2.out.frozen u
              have I3 : Aside (IsBlk (wr.setCell ⟨P, u, none⟩ (.bool true)) P (prOf s (fl ++ [succ])) 101 ∧ Turn (· = P) w1 (wr.setCell ⟨P, u, none⟩ (.bool true))) := by
                have := IP2.out.set u (.bool true)
                rw [← hu.out, prOf_set, hu.out] at this
                exact ⟨this, IT1.out.then (Turn.set1 wr P u (.bool true)) (fun _ _ e => e)⟩
              generalize hw2 : wr.setCell ⟨P, u, none⟩ (.bool true) = w2 at I3
              clear IP2 IT1
              go_wp2_with fail
              clear hw2 hcq hfq
              go_loopg [20, 66] nm (fun gg _ s66 wr => ∃ i : Nat, i ≤ nm ∧ nm - i ≤ gg ∧ s66 = .int .i64 i ∧ Aside (IsBlk wr P (prOf s (fl ++ succ :: n.take i)) 101) ∧ Aside (Turn (· = P) w1 wr))
              case atStart => exact ⟨0, by omega, by omega, rfl, (by rw [List.take_zero]; exact I3.out.1), I3.out.2⟩
              case round =>
                obtain ⟨j, hj, hgj, rfl, JP, JT⟩ := hrel
                by_cases hlt2 : j < nm
                · have h1 : (j : Int) < (nm : Int) := by omega
                  have h3 := HN.out.2
                  have h4 := NM.out
                  obtain ⟨x, hx⟩ : ∃ x, Aside (n[j]? = some x) := ⟨_, List.getElem?_eq_getElem (by omega)⟩
                  have IU : U8 wr na n := HN.out.1.turn ((Turn.of_grew hG.grew).then JT.out (fun k _ e => e)) (fun b hb => by have := HP.out; omega)
                  obtain ⟨b, o, rfl, hb, hc⟩ := IU j x hx.out
                  have hw := wrap_sub x s
                  obtain ⟨u, hu⟩ : ∃ u, Aside ((x - s).toNat = u) := ⟨_, rfl⟩
                  rw [hu.out] at hw
                  have hul : u < 256 := by rw [← hu.out]; exact u8_lt256 _
                  have hul2 : (u : Int) < 256 := by omega
                  obtain ⟨q, hcq⟩ : ∃ q, wr.cell? ⟨P, u, none⟩ = some q := ⟨_, (JP.out.cell u).trans (prOf_get s _ u hul)⟩
                  have hfq := JP.out.frozen u
                  have hfm : nm ≤ 9223372036854775807 := by omega
                  have NX : Aside (IsBlk (wr.setCell ⟨P, u, none⟩ (.bool true)) P (prOf s (fl ++ succ :: n.take (j + 1))) 101 ∧ Turn (· = P) w1 (wr.setCell ⟨P, u, none⟩ (.bool true))) := by
                    have := JP.out.set u (.bool true)
                    rw [← hu.out, prOf_set, hu.out] at this
                    rw [List.take_add_one, hx.out]
                    refine ⟨?_, JT.out.then (Turn.set1 wr P u (.bool true)) (fun _ _ e => e)⟩
                    simpa using this
                  clear IU h3 h4 hb hul
                  go_wp2_with fail
                  go_roundg (nm - (j + 1))
                  case measure => omega
                  case rel => exact ⟨j + 1, by omega, by omega, by go_num, NX.out.1, NX.out.2⟩
                · have JP2 : Aside (IsBlk wr P (prOf s (fl ++ succ :: n)) 101) := by
                    have := JP.out
                    have h4 := NM.out
                    rw [List.take_of_length_le (by omega)] at this; exact this
                  have h1 : ¬ (j : Int) < (nm : Int) := by omega
                  have JT2 := JT
                  clear JP JT hgj
                  obtain ⟨L, hL⟩ : ∃ L, Aside ((t - s).toNat = L) := ⟨_, rfl⟩
                  have hwt := wrap_sub t s
                  rw [hL.out] at hwt
                  have hL256 : L < 256 := by rw [← hL.out]; exact u8_lt256 _
                  have hcv : IntKind.i64.wrap (L : Int) = (L : Int) := by rw [IntKind.wrap_i64]; omega
                  obtain ⟨i26, hi26, hz, hsz, hby⟩ := info26x
                  have HPL : Aside (P < wr.heap.size ∧ w.heap.size ≤ wr.heap.size) := ⟨JP2.out.lt, ((Turn.of_grew hG.grew (M := fun k => k = P)).then JT2.out (fun k _ e => e)).size⟩
                  have HTW : Aside (Grew w wr) := hG.grew.then JT2.out (fun k hk e => by have := HP.out; omega)
                  by_cases hz0 : L = 0
                  · have LM : Aside (limOf s t = 256) := by show limOf s t = 256; rw [limOf, hL.out, if_pos hz0]
                    have hz1 : (L : Int) = 0 := by omega
                    go_wp2_with fail
                    obtain ⟨Z, HZ⟩ : ∃ Z, Aside (wr.heap.size = Z) := ⟨_, rfl⟩
                    obtain ⟨pr, HPR⟩ : ∃ pr : Nat → Bool, Aside (pr = fun d => (fl ++ succ :: n).contains (s + UInt8.ofNat d)) := ⟨_, rfl⟩
                    have W0 : Aside (Grew w wr ∧ w.heap.size ≤ Z ∧ P < Z) := ⟨HTW.out, by rw [← HZ.out]; exact HPL.out.2, by rw [← HZ.out]; exact HPL.out.1⟩
                    have TW0 : ∃ wz, Aside (wz = wr) := ⟨_, rfl⟩
                    obtain ⟨wz, WZ⟩ := TW0
                    go_loopg [22, 23] 255 (fun gg s22 s23 wr => ∃ m : Nat, m ≤ 255 ∧ 255 - m ≤ gg ∧ s23 = .int .i64 ((255 - m : Nat) : Int) ∧ Aside (Own wr Z s22 (outTo s pr 256 m)) ∧ Aside (Turn (fun k => Z ≤ k) wz wr))
                    case atStart => exact ⟨0, by omega, by omega, rfl, World.ownsRow_nil wr _ _ _, by rw [WZ.out]; exact Turn.refl _ _⟩
                    case round =>
                      obtain ⟨m, hm, hgm, rfl, OWN, TWZ⟩ := hrel
                      have HZP : Aside (wz.heap.size = Z ∧ IsBlk wz P (prOf s (fl ++ succ :: n)) 101) := by rw [WZ.out]; exact ⟨HZ.out, JP2.out⟩
                      by_cases hm2 : m < 255
                      · obtain ⟨d, hd⟩ : ∃ d, Aside (255 - m = d) := ⟨_, rfl⟩
                        have hd1 : (1 : Int) ≤ (d : Int) := by have := hd.out; omega
                        have hd2 : d < 256 := by have := hd.out; omega
                        have hd3 : (d : Int) < 256 := by omega
                        have hd4 : IntKind.i64.wrap ((d : Int) - 1) = ((255 - (m + 1) : Nat) : Int) := by
                          have := hd.out
                          rw [IntKind.wrap_i64]; omega
                        rw [hd.out]
                        have PB : Aside (IsBlk wr P (prOf s (fl ++ succ :: n)) 101) := HZP.out.2.turn TWZ.out (by have := W0.out; omega)
                        have cP : wr.cell? ⟨P, d, none⟩ = some (.bool (pr d)) := by rw [PB.out.cell, prOf_get s _ d hd2, HPR.out]
                        have ON : Aside (outTo s pr 256 (m + 1) = outTo s pr 256 m ++ if decide (d < 256) && pr d then [s + UInt8.ofNat d] else []) := by show outTo s pr 256 (m + 1) = _; rw [outTo, hd.out]
                        by_cases hdl : d < 256
                        · have hdl2 : (d : Int) < (256 : Int) := by omega
                          cases hpd : pr d with
                          | true =>
                            rw [hpd] at cP
                            obtain ⟨y, hy⟩ : ∃ y, Aside (s + UInt8.ofNat d = y) := ⟨_, rfl⟩
                            have ON2 : Aside (outTo s pr 256 (m + 1) = outTo s pr 256 m ++ [y]) := by
                              show outTo s pr 256 (m + 1) = _
                              rw [ON.out, hpd, hy.out, if_pos (by simp [hdl])]
                            have hc5 : IntKind.u8.wrap (d : Int) = ((UInt8.ofNat d).toNat : Int) := by
                              rw [UInt8.toNat_ofNat']
                              simp only [IntKind.wrap, IntKind.bits, IntKind.signed]
                              simp
                            have hc6 := wrap_add s (UInt8.ofNat d)
                            rw [hy.out] at hc6
                            have k4 := peer_any y wr
                            generalize ((UInt8.ofNat d).toNat : Int) = z5 at hc5 hc6
                            clear hpd
                            go_wp2_with fail
                            refine k4.mono ?_
                            rintro e w3 ⟨rfl, j3⟩
                            clear k4 cP
                            have hbs := bs29 (some y) w3
                            have hlen := outTo_length s pr 256 m
                            have OW3 : Aside ((w3.alloc (.cells (pv (some y)) 26)).ownsRow Z 26 21 u22 (outTo s pr 256 m).length (flat (outTo s pr 256 m))) := World.ownsRow.alloc (owns_turn OWN.out j3.grew (fun _ _ => id)) _
                            have NW : Aside (∀ j u, (pv (some y)).toList[j]? = some u → (w3.alloc (.cells (pv (some y)) 26)).cell? ((⟨w3.heap.size, 0, none⟩ : Addr).add j) = some u) := fun j u hu => by
                              rw [Addr.add_mid]
                              exact (IsBlk.new w3 (pv (some y)) 26).range j u hu
                            have N1 : Aside (∀ u ∈ (pv (some y)).toList, u.oneCell' = true) := fun u hu => (Array.all_eq_true_iff_forall_mem.1 (pv_one (some y))) u (by simpa using hu)
                            have B1 : Aside ((outTo s pr 256 m).length + 1 ≤ maxLen) := by show (outTo s pr 256 m).length + 1 ≤ maxLen; simp only [maxLen]; omega
                            have B2 : Aside (((outTo s pr 256 m).length + 1) * 40 ≤ 140737488355328) := by show ((outTo s pr 256 m).length + 1) * 40 ≤ 140737488355328; omega
                            have B3 : Aside (Z ≤ (w3.alloc (.cells (pv (some y)) 26)).heap.size) := by
                              have h1 := HZP.out.1; have h2 := TWZ.out.size; have h3 := j3.grew.size
                              show Z ≤ _
                              simp; omega
                            clear hlen
                            go_wp2_with (at_builtin; refine wpList_append_own _ rfl _ _ 29 rfl Z 26 i26 _ 21 40 Ybaz.underlying29 hi26 hz hsz hby rfl (by decide) u22 (outTo s pr 256 m).length (flat (outTo s pr 256 m)) rfl OW3.out ⟨w3.heap.size, 0, none⟩ 1 1 (pv (some y)).toList rfl rfl NW.out N1.out B1.out B2.out B3.out ?_; intro v5 w5 hown5 hgr5 _)
                            go_roundg (255 - (m + 1))
                            case measure => omega
                            case rel =>
                              refine ⟨m + 1, by omega, by omega, (by rw [show 255 - (m + 1) = 254 - m by omega]), ?_, ?_⟩
                              · show w5.ownsRow Z 26 21 v5 (outTo s pr 256 (m + 1)).length (flat (outTo s pr 256 (m + 1)))
                                rw [ON2.out, List.length_append, List.length_singleton, flat_snoc]
                                exact hown5
                              · exact (TWZ.out.then (j3.alloc (.cells (pv (some y)) 26)).grew (fun _ _ x => x.elim)).then (Turn.of_grownBy hgr5) (fun k _ e => (own_base OWN.out e).1)
                          | false =>
                            rw [hpd] at cP
                            have ON2 : Aside (outTo s pr 256 (m + 1) = outTo s pr 256 m) := by
                              show outTo s pr 256 (m + 1) = _
                              rw [ON.out, hpd, if_neg (by simp), List.append_nil]
                            clear hpd
                            go_wp2_with fail
                            go_roundg (255 - (m + 1))
                            case measure => omega
                            case rel => exact ⟨m + 1, by omega, by omega, (by rw [show 255 - (m + 1) = 254 - m by omega]), (by rw [ON2.out]; exact OWN), TWZ⟩
                        · exact absurd hd2 hdl
                      · have hme : m = 255 := by omega
                        have OE : Aside (Own wr Z u22 (outTo s pr 256 255)) := by rw [hme] at OWN; exact OWN
                        have z0 : ((255 - m : Nat) : Int) = 0 := by omega
                        rw [z0]
                        go_wp2_with fail
                        refine bodyPost_ret (v := .tuple #[u22, .bool false]) ?_ rfl ⟨u22, by rw [mB, OW.out, HQ.out]; rfl, ?_, fun b e => ?_, ?_⟩
                        · simp [results, Ybaz.f10, go_sem]
                        · rw [mL, OW.out, HQ.out, LM.out, FL.out, ← HPR.out]
                          exact OE.out.row
                        · have h1 := (own_base OE.out e).1
                          have h2 := W0.out
                          omega
                        · have h3 : Grew w wz := by rw [WZ.out]; exact W0.out.1
                          refine h3.then TWZ.out (fun k hk e => ?_)
                          have h2 := W0.out
                          omega
                  · have LM : Aside (limOf s t = L) := by show limOf s t = L; rw [limOf, hL.out, if_neg hz0]
                    have hz1 : ¬ (L : Int) = 0 := by omega
                    go_wp2_with fail
                    obtain ⟨Z, HZ⟩ : ∃ Z, Aside (wr.heap.size = Z) := ⟨_, rfl⟩
                    obtain ⟨pr, HPR⟩ : ∃ pr : Nat → Bool, Aside (pr = fun d => (fl ++ succ :: n).contains (s + UInt8.ofNat d)) := ⟨_, rfl⟩
                    have W0 : Aside (Grew w wr ∧ w.heap.size ≤ Z ∧ P < Z) := ⟨HTW.out, by rw [← HZ.out]; exact HPL.out.2, by rw [← HZ.out]; exact HPL.out.1⟩
                    have TW0 : ∃ wz, Aside (wz = wr) := ⟨_, rfl⟩
                    obtain ⟨wz, WZ⟩ := TW0
                    go_loopg [22, 23] 255 (fun gg s22 s23 wr => ∃ m : Nat, m ≤ 255 ∧ 255 - m ≤ gg ∧ s23 = .int .i64 ((255 - m : Nat) : Int) ∧ Aside (Own wr Z s22 (outTo s pr L m)) ∧ Aside (Turn (fun k => Z ≤ k) wz wr))
                    case atStart => exact ⟨0, by omega, by omega, rfl, World.ownsRow_nil wr _ _ _, by rw [WZ.out]; exact Turn.refl _ _⟩
                    case round =>
                      obtain ⟨m, hm, hgm, rfl, OWN, TWZ⟩ := hrel
                      have HZP : Aside (wz.heap.size = Z ∧ IsBlk wz P (prOf s (fl ++ succ :: n)) 101) := by rw [WZ.out]; exact ⟨HZ.out, JP2.out⟩
                      by_cases hm2 : m < 255
                      · obtain ⟨d, hd⟩ : ∃ d, Aside (255 - m = d) := ⟨_, rfl⟩
                        have hd1 : (1 : Int) ≤ (d : Int) := by have := hd.out; omega
                        have hd2 : d < 256 := by have := hd.out; omega
                        have hd3 : (d : Int) < 256 := by omega
                        have hd4 : IntKind.i64.wrap ((d : Int) - 1) = ((255 - (m + 1) : Nat) : Int) := by
                          have := hd.out
                          rw [IntKind.wrap_i64]; omega
                        rw [hd.out]
                        have PB : Aside (IsBlk wr P (prOf s (fl ++ succ :: n)) 101) := HZP.out.2.turn TWZ.out (by have := W0.out; omega)
                        have cP : wr.cell? ⟨P, d, none⟩ = some (.bool (pr d)) := by rw [PB.out.cell, prOf_get s _ d hd2, HPR.out]
                        have ON : Aside (outTo s pr L (m + 1) = outTo s pr L m ++ if decide (d < L) && pr d then [s + UInt8.ofNat d] else []) := by show outTo s pr L (m + 1) = _; rw [outTo, hd.out]
                        by_cases hdl : d < L
                        · have hdl2 : (d : Int) < (L : Int) := by omega
                          cases hpd : pr d with
                          | true =>
                            rw [hpd] at cP
                            obtain ⟨y, hy⟩ : ∃ y, Aside (s + UInt8.ofNat d = y) := ⟨_, rfl⟩
                            have ON2 : Aside (outTo s pr L (m + 1) = outTo s pr L m ++ [y]) := by
                              show outTo s pr L (m + 1) = _
                              rw [ON.out, hpd, hy.out, if_pos (by simp [hdl])]
                            have hc5 : IntKind.u8.wrap (d : Int) = ((UInt8.ofNat d).toNat : Int) := by
                              rw [UInt8.toNat_ofNat']
                              simp only [IntKind.wrap, IntKind.bits, IntKind.signed]
                              simp
                            have hc6 := wrap_add s (UInt8.ofNat d)
                            rw [hy.out] at hc6
                            have k4 := peer_any y wr
                            generalize ((UInt8.ofNat d).toNat : Int) = z5 at hc5 hc6
                            clear hpd
                            go_wp2_with fail
                            refine k4.mono ?_
                            rintro e w3 ⟨rfl, j3⟩
                            clear k4 cP
                            have hbs := bs29 (some y) w3
                            have hlen := outTo_length s pr L m
                            have OW3 : Aside ((w3.alloc (.cells (pv (some y)) 26)).ownsRow Z 26 21 u22 (outTo s pr L m).length (flat (outTo s pr L m))) := World.ownsRow.alloc (owns_turn OWN.out j3.grew (fun _ _ => id)) _
                            have NW : Aside (∀ j u, (pv (some y)).toList[j]? = some u → (w3.alloc (.cells (pv (some y)) 26)).cell? ((⟨w3.heap.size, 0, none⟩ : Addr).add j) = some u) := fun j u hu => by
                              rw [Addr.add_mid]
                              exact (IsBlk.new w3 (pv (some y)) 26).range j u hu
                            have N1 : Aside (∀ u ∈ (pv (some y)).toList, u.oneCell' = true) := fun u hu => (Array.all_eq_true_iff_forall_mem.1 (pv_one (some y))) u (by simpa using hu)
                            have B1 : Aside ((outTo s pr L m).length + 1 ≤ maxLen) := by show (outTo s pr L m).length + 1 ≤ maxLen; simp only [maxLen]; omega
                            have B2 : Aside (((outTo s pr L m).length + 1) * 40 ≤ 140737488355328) := by show ((outTo s pr L m).length + 1) * 40 ≤ 140737488355328; omega
                            have B3 : Aside (Z ≤ (w3.alloc (.cells (pv (some y)) 26)).heap.size) := by
                              have h1 := HZP.out.1; have h2 := TWZ.out.size; have h3 := j3.grew.size
                              show Z ≤ _
                              simp; omega
                            clear hlen
                            go_wp2_with (at_builtin; refine wpList_append_own _ rfl _ _ 29 rfl Z 26 i26 _ 21 40 Ybaz.underlying29 hi26 hz hsz hby rfl (by decide) u22 (outTo s pr L m).length (flat (outTo s pr L m)) rfl OW3.out ⟨w3.heap.size, 0, none⟩ 1 1 (pv (some y)).toList rfl rfl NW.out N1.out B1.out B2.out B3.out ?_; intro v5 w5 hown5 hgr5 _)
                            go_roundg (255 - (m + 1))
                            case measure => omega
                            case rel =>
                              refine ⟨m + 1, by omega, by omega, (by rw [show 255 - (m + 1) = 254 - m by omega]), ?_, ?_⟩
                              · show w5.ownsRow Z 26 21 v5 (outTo s pr L (m + 1)).length (flat (outTo s pr L (m + 1)))
                                rw [ON2.out, List.length_append, List.length_singleton, flat_snoc]
                                exact hown5
                              · exact (TWZ.out.then (j3.alloc (.cells (pv (some y)) 26)).grew (fun _ _ x => x.elim)).then (Turn.of_grownBy hgr5) (fun k _ e => (own_base OWN.out e).1)
                          | false =>
                            rw [hpd] at cP
                            have ON2 : Aside (outTo s pr L (m + 1) = outTo s pr L m) := by
                              show outTo s pr L (m + 1) = _
                              rw [ON.out, hpd, if_neg (by simp), List.append_nil]
                            clear hpd
                            go_wp2_with fail
                            go_roundg (255 - (m + 1))
                            case measure => omega
                            case rel => exact ⟨m + 1, by omega, by omega, (by rw [show 255 - (m + 1) = 254 - m by omega]), (by rw [ON2.out]; exact OWN), TWZ⟩
                        · have hdl2 : ¬ (d : Int) < (L : Int) := by omega
                          have ON2 : Aside (outTo s pr L (m + 1) = outTo s pr L m) := by
                            show outTo s pr L (m + 1) = _
                            rw [ON.out, if_neg (by simp [hdl]), List.append_nil]
                          go_wp2_with fail
                          go_roundg (255 - (m + 1))
                          case measure => omega
                          case rel => exact ⟨m + 1, by omega, by omega, (by rw [show 255 - (m + 1) = 254 - m by omega]), (by rw [ON2.out]; exact OWN), TWZ⟩
                      · have hme : m = 255 := by omega
                        have OE : Aside (Own wr Z u22 (outTo s pr L 255)) := by rw [hme] at OWN; exact OWN
                        have z0 : ((255 - m : Nat) : Int) = 0 := by omega
                        rw [z0]
                        go_wp2_with fail
                        refine bodyPost_ret (v := .tuple #[u22, .bool false]) ?_ rfl ⟨u22, by rw [mB, OW.out, HQ.out]; rfl, ?_, fun b e => ?_, ?_⟩
                        · simp [results, Ybaz.f10, go_sem]
                        · rw [mL, OW.out, HQ.out, LM.out, FL.out, ← HPR.out]
                          exact OE.out.row
                        · have h1 := (own_base OE.out e).1
                          have h2 := W0.out
                          omega
                        · have h3 : Grew w wz := by rw [WZ.out]; exact W0.out.1
                          refine h3.then TWZ.out (fun k hk e => ?_)
                          have h2 := W0.out
                          omega
            · have h1 : ¬ (i : Int) < (fm : Int) := by omega
              have IT1 := IT
              obtain ⟨fl, FL⟩ : ∃ fl, Aside (f.take 160 = fl) := ⟨_, rfl⟩
              rw [FL.out] at IP2
              clear IP IT hgi
              have hw := wrap_sub succ s
              obtain ⟨u, hu⟩ : ∃ u, Aside ((succ - s).toNat = u) := ⟨_, rfl⟩
              rw [hu.out] at hw
              have hul : u < 256 := by rw [← hu.out]; exact u8_lt256 _
              have hul2 : (u : Int) < 256 := by omega
              obtain ⟨q, hcq⟩ : ∃ q, wr.cell? ⟨P, u, none⟩ = some q := ⟨_, (IP2.out.cell u).trans (prOf_get s _ u hul)⟩
              have hfq := IP2.out.frozen u
              have I3 : Aside (IsBlk (wr.setCell ⟨P, u, none⟩ (.bool true)) P (prOf s (fl ++ [succ])) 101 ∧ Turn (· = P) w1 (wr.setCell ⟨P, u, none⟩ (.bool true))) := by
                have := IP2.out.set u (.bool true)
                rw [← hu.out, prOf_set, hu.out] at this
                exact ⟨this, IT1.out.then (Turn.set1 wr P u (.bool true)) (fun _ _ e => e)⟩
              generalize hw2 : wr.setCell ⟨P, u, none⟩ (.bool true) = w2 at I3
              clear IP2 IT1
              go_wp2_with fail
              clear hw2 hcq hfq
              go_loopg [20, 66] nm (fun gg _ s66 wr => ∃ i : Nat, i ≤ nm ∧ nm - i ≤ gg ∧ s66 = .int .i64 i ∧ Aside (IsBlk wr P (prOf s (fl ++ succ :: n.take i)) 101) ∧ Aside (Turn (· = P) w1 wr))
              case atStart => exact ⟨0, by omega, by omega, rfl, (by rw [List.take_zero]; exact I3.out.1), I3.out.2⟩
              case round =>
                obtain ⟨j, hj, hgj, rfl, JP, JT⟩ := hrel
                by_cases hlt2 : j < nm
                · have h1 : (j : Int) < (nm : Int) := by omega
                  have h3 := HN.out.2
                  have h4 := NM.out
                  obtain ⟨x, hx⟩ : ∃ x, Aside (n[j]? = some x) := ⟨_, List.getElem?_eq_getElem (by omega)⟩
                  have IU : U8 wr na n := HN.out.1.turn ((Turn.of_grew hG.grew).then JT.out (fun k _ e => e)) (fun b hb => by have := HP.out; omega)
                  obtain ⟨b, o, rfl, hb, hc⟩ := IU j x hx.out
                  have hw := wrap_sub x s
                  obtain ⟨u, hu⟩ : ∃ u, Aside ((x - s).toNat = u) := ⟨_, rfl⟩
                  rw [hu.out] at hw
                  have hul : u < 256 := by rw [← hu.out]; exact u8_lt256 _
                  have hul2 : (u : Int) < 256 := by omega
                  obtain ⟨q, hcq⟩ : ∃ q, wr.cell? ⟨P, u, none⟩ = some q := ⟨_, (JP.out.cell u).trans (prOf_get s _ u hul)⟩
                  have hfq := JP.out.frozen u
                  have hfm : nm ≤ 9223372036854775807 := by omega
                  have NX : Aside (IsBlk (wr.setCell ⟨P, u, none⟩ (.bool true)) P (prOf s (fl ++ succ :: n.take (j + 1))) 101 ∧ Turn (· = P) w1 (wr.setCell ⟨P, u, none⟩ (.bool true))) := by
                    have := JP.out.set u (.bool true)
                    rw [← hu.out, prOf_set, hu.out] at this
                    rw [List.take_add_one, hx.out]
                    refine ⟨?_, JT.out.then (Turn.set1 wr P u (.bool true)) (fun _ _ e => e)⟩
                    simpa using this
                  clear IU h3 h4 hb hul
                  go_wp2_with fail
                  go_roundg (nm - (j + 1))
                  case measure => omega
                  case rel => exact ⟨j + 1, by omega, by omega, by go_num, NX.out.1, NX.out.2⟩
                · have JP2 : Aside (IsBlk wr P (prOf s (fl ++ succ :: n)) 101) := by
                    have := JP.out
                    have h4 := NM.out
                    rw [List.take_of_length_le (by omega)] at this; exact this
                  have h1 : ¬ (j : Int) < (nm : Int) := by omega
                  have JT2 := JT
                  clear JP JT hgj
                  obtain ⟨L, hL⟩ : ∃ L, Aside ((t - s).toNat = L) := ⟨_, rfl⟩
                  have hwt := wrap_sub t s
                  rw [hL.out] at hwt
                  have hL256 : L < 256 := by rw [← hL.out]; exact u8_lt256 _
                  have hcv : IntKind.i64.wrap (L : Int) = (L : Int) := by rw [IntKind.wrap_i64]; omega
                  obtain ⟨i26, hi26, hz, hsz, hby⟩ := info26x
                  have HPL : Aside (P < wr.heap.size ∧ w.heap.size ≤ wr.heap.size) := ⟨JP2.out.lt, ((Turn.of_grew hG.grew (M := fun k => k = P)).then JT2.out (fun k _ e => e)).size⟩
                  have HTW : Aside (Grew w wr) := hG.grew.then JT2.out (fun k hk e => by have := HP.out; omega)
                  by_cases hz0 : L = 0
                  · have LM : Aside (limOf s t = 256) := by show limOf s t = 256; rw [limOf, hL.out, if_pos hz0]
                    have hz1 : (L : Int) = 0 := by omega
                    go_wp2_with fail
                    obtain ⟨Z, HZ⟩ : ∃ Z, Aside (wr.heap.size = Z) := ⟨_, rfl⟩
                    obtain ⟨pr, HPR⟩ : ∃ pr : Nat → Bool, Aside (pr = fun d => (fl ++ succ :: n).contains (s + UInt8.ofNat d)) := ⟨_, rfl⟩
                    have W0 : Aside (Grew w wr ∧ w.heap.size ≤ Z ∧ P < Z) := ⟨HTW.out, by rw [← HZ.out]; exact HPL.out.2, by rw [← HZ.out]; exact HPL.out.1⟩
                    have TW0 : ∃ wz, Aside (wz = wr) := ⟨_, rfl⟩
                    obtain ⟨wz, WZ⟩ := TW0
                    go_loopg [22, 23] 255 (fun gg s22 s23 wr => ∃ m : Nat, m ≤ 255 ∧ 255 - m ≤ gg ∧ s23 = .int .i64 ((255 - m : Nat) : Int) ∧ Aside (Own wr Z s22 (outTo s pr 256 m)) ∧ Aside (Turn (fun k => Z ≤ k) wz wr))
                    case atStart => exact ⟨0, by omega, by omega, rfl, World.ownsRow_nil wr _ _ _, by rw [WZ.out]; exact Turn.refl _ _⟩
                    case round =>
                      obtain ⟨m, hm, hgm, rfl, OWN, TWZ⟩ := hrel
                      have HZP : Aside (wz.heap.size = Z ∧ IsBlk wz P (prOf s (fl ++ succ :: n)) 101) := by rw [WZ.out]; exact ⟨HZ.out, JP2.out⟩
                      by_cases hm2 : m < 255
                      · obtain ⟨d, hd⟩ : ∃ d, Aside (255 - m = d) := ⟨_, rfl⟩
                        have hd1 : (1 : Int) ≤ (d : Int) := by have := hd.out; omega
                        have hd2 : d < 256 := by have := hd.out; omega
                        have hd3 : (d : Int) < 256 := by omega
                        have hd4 : IntKind.i64.wrap ((d : Int) - 1) = ((255 - (m + 1) : Nat) : Int) := by
                          have := hd.out
                          rw [IntKind.wrap_i64]; omega
                        rw [hd.out]
                        have PB : Aside (IsBlk wr P (prOf s (fl ++ succ :: n)) 101) := HZP.out.2.turn TWZ.out (by have := W0.out; omega)
                        have cP : wr.cell? ⟨P, d, none⟩ = some (.bool (pr d)) := by rw [PB.out.cell, prOf_get s _ d hd2, HPR.out]
                        have ON : Aside (outTo s pr 256 (m + 1) = outTo s pr 256 m ++ if decide (d < 256) && pr d then [s + UInt8.ofNat d] else []) := by show outTo s pr 256 (m + 1) = _; rw [outTo, hd.out]
                        by_cases hdl : d < 256
                        · have hdl2 : (d : Int) < (256 : Int) := by omega
                          cases hpd : pr d with
                          | true =>
                            rw [hpd] at cP
                            obtain ⟨y, hy⟩ : ∃ y, Aside (s + UInt8.ofNat d = y) := ⟨_, rfl⟩
                            have ON2 : Aside (outTo s pr 256 (m + 1) = outTo s pr 256 m ++ [y]) := by
                              show outTo s pr 256 (m + 1) = _
                              rw [ON.out, hpd, hy.out, if_pos (by simp [hdl])]
                            have hc5 : IntKind.u8.wrap (d : Int) = ((UInt8.ofNat d).toNat : Int) := by
                              rw [UInt8.toNat_ofNat']
                              simp only [IntKind.wrap, IntKind.bits, IntKind.signed]
                              simp
                            have hc6 := wrap_add s (UInt8.ofNat d)
                            rw [hy.out] at hc6
                            have k4 := peer_any y wr
                            generalize ((UInt8.ofNat d).toNat : Int) = z5 at hc5 hc6
                            clear hpd
                            go_wp2_with fail
                            refine k4.mono ?_
                            rintro e w3 ⟨rfl, j3⟩
                            clear k4 cP
                            have hbs := bs29 (some y) w3
                            have hlen := outTo_length s pr 256 m
                            have OW3 : Aside ((w3.alloc (.cells (pv (some y)) 26)).ownsRow Z 26 21 u22 (outTo s pr 256 m).length (flat (outTo s pr 256 m))) := World.ownsRow.alloc (owns_turn OWN.out j3.grew (fun _ _ => id)) _
                            have NW : Aside (∀ j u, (pv (some y)).toList[j]? = some u → (w3.alloc (.cells (pv (some y)) 26)).cell? ((⟨w3.heap.size, 0, none⟩ : Addr).add j) = some u) := fun j u hu => by
                              rw [Addr.add_mid]
                              exact (IsBlk.new w3 (pv (some y)) 26).range j u hu
                            have N1 : Aside (∀ u ∈ (pv (some y)).toList, u.oneCell' = true) := fun u hu => (Array.all_eq_true_iff_forall_mem.1 (pv_one (some y))) u (by simpa using hu)
                            have B1 : Aside ((outTo s pr 256 m).length + 1 ≤ maxLen) := by show (outTo s pr 256 m).length + 1 ≤ maxLen; simp only [maxLen]; omega
                            have B2 : Aside (((outTo s pr 256 m).length + 1) * 40 ≤ 140737488355328) := by show ((outTo s pr 256 m).length + 1) * 40 ≤ 140737488355328; omega
                            have B3 : Aside (Z ≤ (w3.alloc (.cells (pv (some y)) 26)).heap.size) := by
                              have h1 := HZP.out.1; have h2 := TWZ.out.size; have h3 := j3.grew.size
                              show Z ≤ _
                              simp; omega
                            clear hlen
                            go_wp2_with (at_builtin; refine wpList_append_own _ rfl _ _ 29 rfl Z 26 i26 _ 21 40 Ybaz.underlying29 hi26 hz hsz hby rfl (by decide) u22 (outTo s pr 256 m).length (flat (outTo s pr 256 m)) rfl OW3.out ⟨w3.heap.size, 0, none⟩ 1 1 (pv (some y)).toList rfl rfl NW.out N1.out B1.out B2.out B3.out ?_; intro v5 w5 hown5 hgr5 _)
                            go_roundg (255 - (m + 1))
                            case measure => omega
                            case rel =>
                              refine ⟨m + 1, by omega, by omega, (by rw [show 255 - (m + 1) = 254 - m by omega]), ?_, ?_⟩
                              · show w5.ownsRow Z 26 21 v5 (outTo s pr 256 (m + 1)).length (flat (outTo s pr 256 (m + 1)))
                                rw [ON2.out, List.length_append, List.length_singleton, flat_snoc]
                                exact hown5
                              · exact (TWZ.out.then (j3.alloc (.cells (pv (some y)) 26)).grew (fun _ _ x => x.elim)).then (Turn.of_grownBy hgr5) (fun k _ e => (own_base OWN.out e).1)
                          | false =>
                            rw [hpd] at cP
                            have ON2 : Aside (outTo s pr 256 (m + 1) = outTo s pr 256 m) := by
                              show outTo s pr 256 (m + 1) = _
                              rw [ON.out, hpd, if_neg (by simp), List.append_nil]
                            clear hpd
                            go_wp2_with fail
                            go_roundg (255 - (m + 1))
                            case measure => omega
                            case rel => exact ⟨m + 1, by omega, by omega, (by rw [show 255 - (m + 1) = 254 - m by omega]), (by rw [ON2.out]; exact OWN), TWZ⟩
                        · exact absurd hd2 hdl
                      · have hme : m = 255 := by omega
                        have OE : Aside (Own wr Z u22 (outTo s pr 256 255)) := by rw [hme] at OWN; exact OWN
                        have z0 : ((255 - m : Nat) : Int) = 0 := by omega
                        rw [z0]
                        go_wp2_with fail
                        refine bodyPost_ret (v := .tuple #[u22, .bool false]) ?_ rfl ⟨u22, by rw [mB, OW.out, HQ.out]; rfl, ?_, fun b e => ?_, ?_⟩
                        · simp [results, Ybaz.f10, go_sem]
                        · rw [mL, OW.out, HQ.out, LM.out, FL.out, ← HPR.out]
                          exact OE.out.row
                        · have h1 := (own_base OE.out e).1
                          have h2 := W0.out
                          omega
                        · have h3 : Grew w wz := by rw [WZ.out]; exact W0.out.1
                          refine h3.then TWZ.out (fun k hk e => ?_)
                          have h2 := W0.out
                          omega
                  · have LM : Aside (limOf s t = L) := by show limOf s t = L; rw [limOf, hL.out, if_neg hz0]
                    have hz1 : ¬ (L : Int) = 0 := by omega
                    go_wp2_with fail
                    obtain ⟨Z, HZ⟩ : ∃ Z, Aside (wr.heap.size = Z) := ⟨_, rfl⟩
                    obtain ⟨pr, HPR⟩ : ∃ pr : Nat → Bool, Aside (pr = fun d => (fl ++ succ :: n).contains (s + UInt8.ofNat d)) := ⟨_, rfl⟩
                    have W0 : Aside (Grew w wr ∧ w.heap.size ≤ Z ∧ P < Z) := ⟨HTW.out, by rw [← HZ.out]; exact HPL.out.2, by rw [← HZ.out]; exact HPL.out.1⟩
                    have TW0 : ∃ wz, Aside (wz = wr) := ⟨_, rfl⟩
                    obtain ⟨wz, WZ⟩ := TW0
                    go_loopg [22, 23] 255 (fun gg s22 s23 wr => ∃ m : Nat, m ≤ 255 ∧ 255 - m ≤ gg ∧ s23 = .int .i64 ((255 - m : Nat) : Int) ∧ Aside (Own wr Z s22 (outTo s pr L m)) ∧ Aside (Turn (fun k => Z ≤ k) wz wr))
                    case atStart => exact ⟨0, by omega, by omega, rfl, World.ownsRow_nil wr _ _ _, by rw [WZ.out]; exact Turn.refl _ _⟩
                    case round =>
                      obtain ⟨m, hm, hgm, rfl, OWN, TWZ⟩ := hrel
                      have HZP : Aside (wz.heap.size = Z ∧ IsBlk wz P (prOf s (fl ++ succ :: n)) 101) := by rw [WZ.out]; exact ⟨HZ.out, JP2.out⟩
                      by_cases hm2 : m < 255
                      · obtain ⟨d, hd⟩ : ∃ d, Aside (255 - m = d) := ⟨_, rfl⟩
                        have hd1 : (1 : Int) ≤ (d : Int) := by have := hd.out; omega
                        have hd2 : d < 256 := by have := hd.out; omega
                        have hd3 : (d : Int) < 256 := by omega
                        have hd4 : IntKind.i64.wrap ((d : Int) - 1) = ((255 - (m + 1) : Nat) : Int) := by
                          have := hd.out
                          rw [IntKind.wrap_i64]; omega
                        rw [hd.out]
                        have PB : Aside (IsBlk wr P (prOf s (fl ++ succ :: n)) 101) := HZP.out.2.turn TWZ.out (by have := W0.out; omega)
                        have cP : wr.cell? ⟨P, d, none⟩ = some (.bool (pr d)) := by rw [PB.out.cell, prOf_get s _ d hd2, HPR.out]
                        have ON : Aside (outTo s pr L (m + 1) = outTo s pr L m ++ if decide (d < L) && pr d then [s + UInt8.ofNat d] else []) := by show outTo s pr L (m + 1) = _; rw [outTo, hd.out]
                        by_cases hdl : d < L
                        · have hdl2 : (d : Int) < (L : Int) := by omega
                          cases hpd : pr d with
                          | true =>
                            rw [hpd] at cP
                            obtain ⟨y, hy⟩ : ∃ y, Aside (s + UInt8.ofNat d = y) := ⟨_, rfl⟩
                            have ON2 : Aside (outTo s pr L (m + 1) = outTo s pr L m ++ [y]) := by
                              show outTo s pr L (m + 1) = _
                              rw [ON.out, hpd, hy.out, if_pos (by simp [hdl])]
                            have hc5 : IntKind.u8.wrap (d : Int) = ((UInt8.ofNat d).toNat : Int) := by
                              rw [UInt8.toNat_ofNat']
                              simp only [IntKind.wrap, IntKind.bits, IntKind.signed]
                              simp
                            have hc6 := wrap_add s (UInt8.ofNat d)
                            rw [hy.out] at hc6
                            have k4 := peer_any y wr
                            generalize ((UInt8.ofNat d).toNat : Int) = z5 at hc5 hc6
                            clear hpd
                            go_wp2_with fail
                            refine k4.mono ?_
                            rintro e w3 ⟨rfl, j3⟩
                            clear k4 cP
                            have hbs := bs29 (some y) w3
                            have hlen := outTo_length s pr L m
                            have OW3 : Aside ((w3.alloc (.cells (pv (some y)) 26)).ownsRow Z 26 21 u22 (outTo s pr L m).length (flat (outTo s pr L m))) := World.ownsRow.alloc (owns_turn OWN.out j3.grew (fun _ _ => id)) _
                            have NW : Aside (∀ j u, (pv (some y)).toList[j]? = some u → (w3.alloc (.cells (pv (some y)) 26)).cell? ((⟨w3.heap.size, 0, none⟩ : Addr).add j) = some u) := fun j u hu => by
                              rw [Addr.add_mid]
                              exact (IsBlk.new w3 (pv (some y)) 26).range j u hu
                            have N1 : Aside (∀ u ∈ (pv (some y)).toList, u.oneCell' = true) := fun u hu => (Array.all_eq_true_iff_forall_mem.1 (pv_one (some y))) u (by simpa using hu)
                            have B1 : Aside ((outTo s pr L m).length + 1 ≤ maxLen) := by show (outTo s pr L m).length + 1 ≤ maxLen; simp only [maxLen]; omega
                            have B2 : Aside (((outTo s pr L m).length + 1) * 40 ≤ 140737488355328) := by show ((outTo s pr L m).length + 1) * 40 ≤ 140737488355328; omega
                            have B3 : Aside (Z ≤ (w3.alloc (.cells (pv (some y)) 26)).heap.size) := by
                              have h1 := HZP.out.1; have h2 := TWZ.out.size; have h3 := j3.grew.size
                              show Z ≤ _
                              simp; omega
                            clear hlen
                            go_wp2_with (at_builtin; refine wpList_append_own _ rfl _ _ 29 rfl Z 26 i26 _ 21 40 Ybaz.underlying29 hi26 hz hsz hby rfl (by decide) u22 (outTo s pr L m).length (flat (outTo s pr L m)) rfl OW3.out ⟨w3.heap.size, 0, none⟩ 1 1 (pv (some y)).toList rfl rfl NW.out N1.out B1.out B2.out B3.out ?_; intro v5 w5 hown5 hgr5 _)
                            go_roundg (255 - (m + 1))
                            case measure => omega
                            case rel =>
                              refine ⟨m + 1, by omega, by omega, (by rw [show 255 - (m + 1) = 254 - m by omega]), ?_, ?_⟩
                              · show w5.ownsRow Z 26 21 v5 (outTo s pr L (m + 1)).length (flat (outTo s pr L (m + 1)))
                                rw [ON2.out, List.length_append, List.length_singleton, flat_snoc]
                                exact hown5
                              · exact (TWZ.out.then (j3.alloc (.cells (pv (some y)) 26)).grew (fun _ _ x => x.elim)).then (Turn.of_grownBy hgr5) (fun k _ e => (own_base OWN.out e).1)
                          | false =>
                            rw [hpd] at cP
                            have ON2 : Aside (outTo s pr L (m + 1) = outTo s pr L m) := by
                              show outTo s pr L (m + 1) = _
                              rw [ON.out, hpd, if_neg (by simp), List.append_nil]
                            clear hpd
                            go_wp2_with fail
                            go_roundg (255 - (m + 1))
                            case measure => omega
                            case rel => exact ⟨m + 1, by omega, by omega, (by rw [show 255 - (m + 1) = 254 - m by omega]), (by rw [ON2.out]; exact OWN), TWZ⟩
                        · have hdl2 : ¬ (d : Int) < (L : Int) := by omega
                          have ON2 : Aside (outTo s pr L (m + 1) = outTo s pr L m) := by
                            show outTo s pr L (m + 1) = _
                            rw [ON.out, if_neg (by simp [hdl]), List.append_nil]
                          go_wp2_with fail
                          go_roundg (255 - (m + 1))
                          case measure => omega
                          case rel => exact ⟨m + 1, by omega, by omega, (by rw [show 255 - (m + 1) = 254 - m by omega]), (by rw [ON2.out]; exact OWN), TWZ⟩
                      · have hme : m = 255 := by omega
                        have OE : Aside (Own wr Z u22 (outTo s pr L 255)) := by rw [hme] at OWN; exact OWN
                        have z0 : ((255 - m : Nat) : Int) = 0 := by omega
                        rw [z0]
                        go_wp2_with fail
                        refine bodyPost_ret (v := .tuple #[u22, .bool false]) ?_ rfl ⟨u22, by rw [mB, OW.out, HQ.out]; rfl, ?_, fun b e => ?_, ?_⟩
                        · simp [results, Ybaz.f10, go_sem]
                        · rw [mL, OW.out, HQ.out, LM.out, FL.out, ← HPR.out]
                          exact OE.out.row
                        · have h1 := (own_base OE.out e).1
                          have h2 := W0.out
                          omega
                        · have h3 : Grew w wz := by rw [WZ.out]; exact W0.out.1
                          refine h3.then TWZ.out (fun k hk e => ?_)
                          have h2 := W0.out
                          omega
  | false =>
    by_cases he : succ = s
    · have OW : Aside (mOwn s succ pred false t = true) := by show mOwn s succ pred false t = true; rw [mOwn]; simp [he]
      have he' : (succ.toNat : Int) = s.toNat := by rw [he]
      clear he
      go_enter Ybaz.func10, Ybaz.ntmps10
      go_wp2_with fail
      refine (ks _).mono ?_
      rintro e w1 ⟨rfl, j1⟩
      go_wp2_with fail
      refine bodyPost_ret (v := .tuple #[.slice (some ⟨w1.heap.size, 0, none⟩) 1 1, .bool true]) ?_ rfl ⟨_, by rw [mB, OW.out]; rfl, by rw [mL, OW.out]; exact row_one (IsBlk.new w1 _ _), fun b e => by have := j1.grew.size; simp [Value.ownBlock] at e; omega, (j1.alloc _).grew⟩
      simp [results, Ybaz.f10, go_sem]
    · have OW : Aside (mOwn s succ pred false t = false) := by show mOwn s succ pred false t = false; rw [mOwn]; simp [he]
      have he' : ¬ (succ.toNat : Int) = s.toNat := fun e => he ((u8_eq _ _).2 (by omega))
      clear he k14
      go_enter Ybaz.func10, Ybaz.ntmps10
      go_wp2_with fail
      refine (k14b _).mono ?_
      rintro e w' ⟨rfl, hww⟩; replace hww := hww.symm; subst hww
      clear k14b
      cases hq2 : mbtw t s succ with
      | true =>
        have HQ : Aside (mbtw t s succ = true) := hq2
        go_wp2_with fail
        refine (kq _).mono ?_
        rintro e w1 ⟨rfl, j1⟩
        go_wp2_with fail
        refine bodyPost_ret (v := .tuple #[.slice (some ⟨w1.heap.size, 0, none⟩) 1 1, .bool true]) ?_ rfl ⟨_, by rw [mB, OW.out, HQ.out]; rfl, by rw [mL, OW.out, HQ.out]; exact row_one (IsBlk.new w1 _ _), fun b e => by have := j1.grew.size; simp [Value.ownBlock] at e; omega, (j1.alloc _).grew⟩
        simp [results, Ybaz.f10, go_sem]
      | false =>
        have HQ : Aside (mbtw t s succ = false) := hq2
        clear hq2 ks kq bs bq
        have hG : Grn w (w.alloc (.cells Ybaz.zeroCells101 101)) := (Grn.refl w).alloc _
        have b1 : Aside (IsBlk (w.alloc (.cells Ybaz.zeroCells101 101)) w.heap.size (prOf s []) 101) := by rw [prOf_nil]; exact IsBlk.new w _ _
        generalize hw1 : w.alloc (.cells Ybaz.zeroCells101 101) = w1 at hG b1
        go_wp2_with fail
        clear hw1
        obtain ⟨P, HP⟩ : ∃ P, Aside (w.heap.size = P) := ⟨_, rfl⟩
        rw [HP.out]
        go_loopg [18] fm (fun gg s18 wr => ∃ i : Nat, i ≤ fm ∧ i ≤ 160 ∧ fm - i ≤ gg ∧ s18 = .int .i64 i ∧ Aside (IsBlk wr P (prOf s (f.take i)) 101) ∧ Aside (Turn (· = P) w1 wr))
        case atStart => exact ⟨0, by omega, by omega, by omega, rfl, (by rw [← HP.out]; exact b1), Turn.refl _ _⟩
        case round =>
          obtain ⟨i, hi1, hi2, hgi, rfl, IP, IT⟩ := hrel
          by_cases hlt : i < fm ∧ i < 160
          · have h1 : (i : Int) < (fm : Int) := by omega
            have h2 : (i : Int) < 160 := by omega
            have h3 := HF.out.2
            have h4 := FM.out
            obtain ⟨x, hx⟩ : ∃ x, Aside (f[i]? = some x) := ⟨_, List.getElem?_eq_getElem (by omega)⟩
            have IU : U8 wr fa f := HF.out.1.turn ((Turn.of_grew hG.grew).then IT.out (fun k _ e => e)) (fun b hb => by have := HP.out; omega)
            obtain ⟨b, o, rfl, hb, hc⟩ := IU i x hx.out
            have hw := wrap_sub x s
            obtain ⟨u, hu⟩ : ∃ u, Aside ((x - s).toNat = u) := ⟨_, rfl⟩
            rw [hu.out] at hw
            have hul : u < 256 := by rw [← hu.out]; exact u8_lt256 _
            have hul2 : (u : Int) < 256 := by omega
            obtain ⟨q, hcq⟩ : ∃ q, wr.cell? ⟨P, u, none⟩ = some q := ⟨_, (IP.out.cell u).trans (prOf_get s _ u hul)⟩
            have hfq := IP.out.frozen u
            have hfm : fm ≤ 9223372036854775807 := by omega
            have NX : Aside (IsBlk (wr.setCell ⟨P, u, none⟩ (.bool true)) P (prOf s (f.take (i + 1))) 101 ∧ Turn (· = P) w1 (wr.setCell ⟨P, u, none⟩ (.bool true))) := by
              have := IP.out.set u (.bool true)
              rw [← hu.out, prOf_set, hu.out] at this
              rw [List.take_add_one, hx.out]
              exact ⟨this, IT.out.then (Turn.set1 wr P u (.bool true)) (fun _ _ e => e)⟩
            clear IU h3 h4 hb hul
            go_wp2_with fail
            go_roundg (fm - (i + 1))
            case measure => omega
            case rel => exact ⟨i + 1, by omega, by omega, by omega, by go_num, NX.out.1, NX.out.2⟩
          · have IP2 : Aside (IsBlk wr P (prOf s (f.take 160)) 101) := by
              have := IP.out
              have h4 := FM.out
              by_cases e : i = 160
              · rw [e] at this; exact this
              · rw [List.take_of_length_le (by omega)] at this ⊢; exact this
            by_cases hlt1 : i < fm
            · have h1 : (i : Int) < (fm : Int) := by omega
              have h2 : ¬ (i : Int) < 160 := by omega
              have IT1 := IT
              obtain ⟨fl, FL⟩ : ∃ fl, Aside (f.take 160 = fl) := ⟨_, rfl⟩
              rw [FL.out] at IP2
              clear IP IT hgi
              have hw := wrap_sub succ s
              obtain ⟨u, hu⟩ : ∃ u, Aside ((succ - s).toNat = u) := ⟨_, rfl⟩
              rw [hu.out] at hw
              have hul : u < 256 := by rw [← hu.out]; exact u8_lt256 _
              have hul2 : (u : Int) < 256 := by omega
              obtain ⟨q, hcq⟩ : ∃ q, wr.cell? ⟨P, u, none⟩ = some q := ⟨_, (IP2.out.cell u).trans (prOf_get s _ u hul)⟩
              have hfq := IP2.out.frozen u
              have I3 : Aside (IsBlk (wr.setCell ⟨P, u, none⟩ (.bool true)) P (prOf s (fl ++ [succ])) 101 ∧ Turn (· = P) w1 (wr.setCell ⟨P, u, none⟩ (.bool true))) := by
                have := IP2.out.set u (.bool true)
                rw [← hu.out, prOf_set, hu.out] at this
                exact ⟨this, IT1.out.then (Turn.set1 wr P u (.bool true)) (fun _ _ e => e)⟩
              generalize hw2 : wr.setCell ⟨P, u, none⟩ (.bool true) = w2 at I3
              clear IP2 IT1
              go_wp2_with fail
              clear hw2 hcq hfq
              go_loopg [20, 66] nm (fun gg _ s66 wr => ∃ i : Nat, i ≤ nm ∧ nm - i ≤ gg ∧ s66 = .int .i64 i ∧ Aside (IsBlk wr P (prOf s (fl ++ succ :: n.take i)) 101) ∧ Aside (Turn (· = P) w1 wr))
              case atStart => exact ⟨0, by omega, by omega, rfl, (by rw [List.take_zero]; exact I3.out.1), I3.out.2⟩
              case round =>
                obtain ⟨j, hj, hgj, rfl, JP, JT⟩ := hrel
                by_cases hlt2 : j < nm
                · have h1 : (j : Int) < (nm : Int) := by omega
                  have h3 := HN.out.2
                  have h4 := NM.out
                  obtain ⟨x, hx⟩ : ∃ x, Aside (n[j]? = some x) := ⟨_, List.getElem?_eq_getElem (by omega)⟩
                  have IU : U8 wr na n := HN.out.1.turn ((Turn.of_grew hG.grew).then JT.out (fun k _ e => e)) (fun b hb => by have := HP.out; omega)
                  obtain ⟨b, o, rfl, hb, hc⟩ := IU j x hx.out
                  have hw := wrap_sub x s
                  obtain ⟨u, hu⟩ : ∃ u, Aside ((x - s).toNat = u) := ⟨_, rfl⟩
                  rw [hu.out] at hw
                  have hul : u < 256 := by rw [← hu.out]; exact u8_lt256 _
                  have hul2 : (u : Int) < 256 := by omega
                  obtain ⟨q, hcq⟩ : ∃ q, wr.cell? ⟨P, u, none⟩ = some q := ⟨_, (JP.out.cell u).trans (prOf_get s _ u hul)⟩
                  have hfq := JP.out.frozen u
                  have hfm : nm ≤ 9223372036854775807 := by omega
                  have NX : Aside (IsBlk (wr.setCell ⟨P, u, none⟩ (.bool true)) P (prOf s (fl ++ succ :: n.take (j + 1))) 101 ∧ Turn (· = P) w1 (wr.setCell ⟨P, u, none⟩ (.bool true))) := by
                    have := JP.out.set u (.bool true)
                    rw [← hu.out, prOf_set, hu.out] at this
                    rw [List.take_add_one, hx.out]
                    refine ⟨?_, JT.out.then (Turn.set1 wr P u (.bool true)) (fun _ _ e => e)⟩
                    simpa using this
                  clear IU h3 h4 hb hul
                  go_wp2_with fail
                  go_roundg (nm - (j + 1))
                  case measure => omega
                  case rel => exact ⟨j + 1, by omega, by omega, by go_num, NX.out.1, NX.out.2⟩
                · have JP2 : Aside (IsBlk wr P (prOf s (fl ++ succ :: n)) 101) := by
                    have := JP.out
                    have h4 := NM.out
                    rw [List.take_of_length_le (by omega)] at this; exact this
                  have h1 : ¬ (j : Int) < (nm : Int) := by omega
                  have JT2 := JT
                  clear JP JT hgj
                  obtain ⟨L, hL⟩ : ∃ L, Aside ((t - s).toNat = L) := ⟨_, rfl⟩
                  have hwt := wrap_sub t s
                  rw [hL.out] at hwt
                  have hL256 : L < 256 := by rw [← hL.out]; exact u8_lt256 _
                  have hcv : IntKind.i64.wrap (L : Int) = (L : Int) := by rw [IntKind.wrap_i64]; omega
                  obtain ⟨i26, hi26, hz, hsz, hby⟩ := info26x
                  have HPL : Aside (P < wr.heap.size ∧ w.heap.size ≤ wr.heap.size) := ⟨JP2.out.lt, ((Turn.of_grew hG.grew (M := fun k => k = P)).then JT2.out (fun k _ e => e)).size⟩
                  have HTW : Aside (Grew w wr) := hG.grew.then JT2.out (fun k hk e => by have := HP.out; omega)
                  by_cases hz0 : L = 0
                  · have LM : Aside (limOf s t = 256) := by show limOf s t = 256; rw [limOf, hL.out, if_pos hz0]
                    have hz1 : (L : Int) = 0 := by omega
                    go_wp2_with fail
                    obtain ⟨Z, HZ⟩ : ∃ Z, Aside (wr.heap.size = Z) := ⟨_, rfl⟩
                    obtain ⟨pr, HPR⟩ : ∃ pr : Nat → Bool, Aside (pr = fun d => (fl ++ succ :: n).contains (s + UInt8.ofNat d)) := ⟨_, rfl⟩
                    have W0 : Aside (Grew w wr ∧ w.heap.size ≤ Z ∧ P < Z) := ⟨HTW.out, by rw [← HZ.out]; exact HPL.out.2, by rw [← HZ.out]; exact HPL.out.1⟩
                    have TW0 : ∃ wz, Aside (wz = wr) := ⟨_, rfl⟩
                    obtain ⟨wz, WZ⟩ := TW0
                    go_loopg [22, 23] 255 (fun gg s22 s23 wr => ∃ m : Nat, m ≤ 255 ∧ 255 - m ≤ gg ∧ s23 = .int .i64 ((255 - m : Nat) : Int) ∧ Aside (Own wr Z s22 (outTo s pr 256 m)) ∧ Aside (Turn (fun k => Z ≤ k) wz wr))
                    case atStart => exact ⟨0, by omega, by omega, rfl, World.ownsRow_nil wr _ _ _, by rw [WZ.out]; exact Turn.refl _ _⟩
                    case round =>
                      obtain ⟨m, hm, hgm, rfl, OWN, TWZ⟩ := hrel
                      have HZP : Aside (wz.heap.size = Z ∧ IsBlk wz P (prOf s (fl ++ succ :: n)) 101) := by rw [WZ.out]; exact ⟨HZ.out, JP2.out⟩
                      by_cases hm2 : m < 255
                      · obtain ⟨d, hd⟩ : ∃ d, Aside (255 - m = d) := ⟨_, rfl⟩
                        have hd1 : (1 : Int) ≤ (d : Int) := by have := hd.out; omega
                        have hd2 : d < 256 := by have := hd.out; omega
                        have hd3 : (d : Int) < 256 := by omega
                        have hd4 : IntKind.i64.wrap ((d : Int) - 1) = ((255 - (m + 1) : Nat) : Int) := by
                          have := hd.out
                          rw [IntKind.wrap_i64]; omega
                        rw [hd.out]
                        have PB : Aside (IsBlk wr P (prOf s (fl ++ succ :: n)) 101) := HZP.out.2.turn TWZ.out (by have := W0.out; omega)
                        have cP : wr.cell? ⟨P, d, none⟩ = some (.bool (pr d)) := by rw [PB.out.cell, prOf_get s _ d hd2, HPR.out]
                        have ON : Aside (outTo s pr 256 (m + 1) = outTo s pr 256 m ++ if decide (d < 256) && pr d then [s + UInt8.ofNat d] else []) := by show outTo s pr 256 (m + 1) = _; rw [outTo, hd.out]
                        by_cases hdl : d < 256
                        · have hdl2 : (d : Int) < (256 : Int) := by omega
                          cases hpd : pr d with
                          | true =>
                            rw [hpd] at cP
                            obtain ⟨y, hy⟩ : ∃ y, Aside (s + UInt8.ofNat d = y) := ⟨_, rfl⟩
                            have ON2 : Aside (outTo s pr 256 (m + 1) = outTo s pr 256 m ++ [y]) := by
                              show outTo s pr 256 (m + 1) = _
                              rw [ON.out, hpd, hy.out, if_pos (by simp [hdl])]
                            have hc5 : IntKind.u8.wrap (d : Int) = ((UInt8.ofNat d).toNat : Int) := by
                              rw [UInt8.toNat_ofNat']
                              simp only [IntKind.wrap, IntKind.bits, IntKind.signed]
                              simp
                            have hc6 := wrap_add s (UInt8.ofNat d)
                            rw [hy.out] at hc6
                            have k4 := peer_any y wr
                            generalize ((UInt8.ofNat d).toNat : Int) = z5 at hc5 hc6
                            clear hpd
                            go_wp2_with fail
                            refine k4.mono ?_
                            rintro e w3 ⟨rfl, j3⟩
                            clear k4 cP
                            have hbs := bs29 (some y) w3
                            have hlen := outTo_length s pr 256 m
                            have OW3 : Aside ((w3.alloc (.cells (pv (some y)) 26)).ownsRow Z 26 21 u22 (outTo s pr 256 m).length (flat (outTo s pr 256 m))) := World.ownsRow.alloc (owns_turn OWN.out j3.grew (fun _ _ => id)) _
                            have NW : Aside (∀ j u, (pv (some y)).toList[j]? = some u → (w3.alloc (.cells (pv (some y)) 26)).cell? ((⟨w3.heap.size, 0, none⟩ : Addr).add j) = some u) := fun j u hu => by
                              rw [Addr.add_mid]
                              exact (IsBlk.new w3 (pv (some y)) 26).range j u hu
                            have N1 : Aside (∀ u ∈ (pv (some y)).toList, u.oneCell' = true) := fun u hu => (Array.all_eq_true_iff_forall_mem.1 (pv_one (some y))) u (by simpa using hu)
                            have B1 : Aside ((outTo s pr 256 m).length + 1 ≤ maxLen) := by show (outTo s pr 256 m).length + 1 ≤ maxLen; simp only [maxLen]; omega
                            have B2 : Aside (((outTo s pr 256 m).length + 1) * 40 ≤ 140737488355328) := by show ((outTo s pr 256 m).length + 1) * 40 ≤ 140737488355328; omega
                            have B3 : Aside (Z ≤ (w3.alloc (.cells (pv (some y)) 26)).heap.size) := by
                              have h1 := HZP.out.1; have h2 := TWZ.out.size; have h3 := j3.grew.size
                              show Z ≤ _
                              simp; omega
                            clear hlen
                            go_wp2_with (at_builtin; refine wpList_append_own _ rfl _ _ 29 rfl Z 26 i26 _ 21 40 Ybaz.underlying29 hi26 hz hsz hby rfl (by decide) u22 (outTo s pr 256 m).length (flat (outTo s pr 256 m)) rfl OW3.out ⟨w3.heap.size, 0, none⟩ 1 1 (pv (some y)).toList rfl rfl NW.out N1.out B1.out B2.out B3.out ?_; intro v5 w5 hown5 hgr5 _)
                            go_roundg (255 - (m + 1))
                            case measure => omega
                            case rel =>
                              refine ⟨m + 1, by omega, by omega, (by rw [show 255 - (m + 1) = 254 - m by omega]), ?_, ?_⟩
                              · show w5.ownsRow Z 26 21 v5 (outTo s pr 256 (m + 1)).length (flat (outTo s pr 256 (m + 1)))
                                rw [ON2.out, List.length_append, List.length_singleton, flat_snoc]
                                exact hown5
                              · exact (TWZ.out.then (j3.alloc (.cells (pv (some y)) 26)).grew (fun _ _ x => x.elim)).then (Turn.of_grownBy hgr5) (fun k _ e => (own_base OWN.out e).1)
                          | false =>
                            rw [hpd] at cP
                            have ON2 : Aside (outTo s pr 256 (m + 1) = outTo s pr 256 m) := by
                              show outTo s pr 256 (m + 1) = _
                              rw [ON.out, hpd, if_neg (by simp), List.append_nil]
                            clear hpd
                            go_wp2_with fail
                            go_roundg (255 - (m + 1))
                            case measure => omega
                            case rel => exact ⟨m + 1, by omega, by omega, (by rw [show 255 - (m + 1) = 254 - m by omega]), (by rw [ON2.out]; exact OWN), TWZ⟩
                        · exact absurd hd2 hdl
                      · have hme : m = 255 := by omega
                        have OE : Aside (Own wr Z u22 (outTo s pr 256 255)) := by rw [hme] at OWN; exact OWN
                        have z0 : ((255 - m : Nat) : Int) = 0 := by omega
                        rw [z0]
                        go_wp2_with fail
                        refine bodyPost_ret (v := .tuple #[u22, .bool false]) ?_ rfl ⟨u22, by rw [mB, OW.out, HQ.out]; rfl, ?_, fun b e => ?_, ?_⟩
                        · simp [results, Ybaz.f10, go_sem]
                        · rw [mL, OW.out, HQ.out, LM.out, FL.out, ← HPR.out]
                          exact OE.out.row
                        · have h1 := (own_base OE.out e).1
                          have h2 := W0.out
                          omega
                        · have h3 : Grew w wz := by rw [WZ.out]; exact W0.out.1
                          refine h3.then TWZ.out (fun k hk e => ?_)
                          have h2 := W0.out
                          omega
                  · have LM : Aside (limOf s t = L) := by show limOf s t = L; rw [limOf, hL.out, if_neg hz0]
                    have hz1 : ¬ (L : Int) = 0 := by omega
                    go_wp2_with fail
                    obtain ⟨Z, HZ⟩ : ∃ Z, Aside (wr.heap.size = Z) := ⟨_, rfl⟩
                    obtain ⟨pr, HPR⟩ : ∃ pr : Nat → Bool, Aside (pr = fun d => (fl ++ succ :: n).contains (s + UInt8.ofNat d)) := ⟨_, rfl⟩
                    have W0 : Aside (Grew w wr ∧ w.heap.size ≤ Z ∧ P < Z) := ⟨HTW.out, by rw [← HZ.out]; exact HPL.out.2, by rw [← HZ.out]; exact HPL.out.1⟩
                    have TW0 : ∃ wz, Aside (wz = wr) := ⟨_, rfl⟩
                    obtain ⟨wz, WZ⟩ := TW0
                    go_loopg [22, 23] 255 (fun gg s22 s23 wr => ∃ m : Nat, m ≤ 255 ∧ 255 - m ≤ gg ∧ s23 = .int .i64 ((255 - m : Nat) : Int) ∧ Aside (Own wr Z s22 (outTo s pr L m)) ∧ Aside (Turn (fun k => Z ≤ k) wz wr))
                    case atStart => exact ⟨0, by omega, by omega, rfl, World.ownsRow_nil wr _ _ _, by rw [WZ.out]; exact Turn.refl _ _⟩
                    case round =>
                      obtain ⟨m, hm, hgm, rfl, OWN, TWZ⟩ := hrel
                      have HZP : Aside (wz.heap.size = Z ∧ IsBlk wz P (prOf s (fl ++ succ :: n)) 101) := by rw [WZ.out]; exact ⟨HZ.out, JP2.out⟩
                      by_cases hm2 : m < 255
                      · obtain ⟨d, hd⟩ : ∃ d, Aside (255 - m = d) := ⟨_, rfl⟩
                        have hd1 : (1 : Int) ≤ (d : Int) := by have := hd.out; omega
                        have hd2 : d < 256 := by have := hd.out; omega
                        have hd3 : (d : Int) < 256 := by omega
                        have hd4 : IntKind.i64.wrap ((d : Int) - 1) = ((255 - (m + 1) : Nat) : Int) := by
                          have := hd.out
                          rw [IntKind.wrap_i64]; omega
                        rw [hd.out]
                        have PB : Aside (IsBlk wr P (prOf s (fl ++ succ :: n)) 101) := HZP.out.2.turn TWZ.out (by have := W0.out; omega)
                        have cP : wr.cell? ⟨P, d, none⟩ = some (.bool (pr d)) := by rw [PB.out.cell, prOf_get s _ d hd2, HPR.out]
                        have ON : Aside (outTo s pr L (m + 1) = outTo s pr L m ++ if decide (d < L) && pr d then [s + UInt8.ofNat d] else []) := by show outTo s pr L (m + 1) = _; rw [outTo, hd.out]
                        by_cases hdl : d < L
                        · have hdl2 : (d : Int) < (L : Int) := by omega
                          cases hpd : pr d with
                          | true =>
                            rw [hpd] at cP
                            obtain ⟨y, hy⟩ : ∃ y, Aside (s + UInt8.ofNat d = y) := ⟨_, rfl⟩
                            have ON2 : Aside (outTo s pr L (m + 1) = outTo s pr L m ++ [y]) := by
                              show outTo s pr L (m + 1) = _
                              rw [ON.out, hpd, hy.out, if_pos (by simp [hdl])]
                            have hc5 : IntKind.u8.wrap (d : Int) = ((UInt8.ofNat d).toNat : Int) := by
                              rw [UInt8.toNat_ofNat']
                              simp only [IntKind.wrap, IntKind.bits, IntKind.signed]
                              simp
                            have hc6 := wrap_add s (UInt8.ofNat d)
                            rw [hy.out] at hc6
                            have k4 := peer_any y wr
                            generalize ((UInt8.ofNat d).toNat : Int) = z5 at hc5 hc6
                            clear hpd
                            go_wp2_with fail
                            refine k4.mono ?_
                            rintro e w3 ⟨rfl, j3⟩
                            clear k4 cP
                            have hbs := bs29 (some y) w3
                            have hlen := outTo_length s pr L m
                            have OW3 : Aside ((w3.alloc (.cells (pv (some y)) 26)).ownsRow Z 26 21 u22 (outTo s pr L m).length (flat (outTo s pr L m))) := World.ownsRow.alloc (owns_turn OWN.out j3.grew (fun _ _ => id)) _
                            have NW : Aside (∀ j u, (pv (some y)).toList[j]? = some u → (w3.alloc (.cells (pv (some y)) 26)).cell? ((⟨w3.heap.size, 0, none⟩ : Addr).add j) = some u) := fun j u hu => by
                              rw [Addr.add_mid]
                              exact (IsBlk.new w3 (pv (some y)) 26).range j u hu
                            have N1 : Aside (∀ u ∈ (pv (some y)).toList, u.oneCell' = true) := fun u hu => (Array.all_eq_true_iff_forall_mem.1 (pv_one (some y))) u (by simpa using hu)
                            have B1 : Aside ((outTo s pr L m).length + 1 ≤ maxLen) := by show (outTo s pr L m).length + 1 ≤ maxLen; simp only [maxLen]; omega
                            have B2 : Aside (((outTo s pr L m).length + 1) * 40 ≤ 140737488355328) := by show ((outTo s pr L m).length + 1) * 40 ≤ 140737488355328; omega
                            have B3 : Aside (Z ≤ (w3.alloc (.cells (pv (some y)) 26)).heap.size) := by
                              have h1 := HZP.out.1; have h2 := TWZ.out.size; have h3 := j3.grew.size
                              show Z ≤ _
                              simp; omega
                            clear hlen
                            go_wp2_with (at_builtin; refine wpList_append_own _ rfl _ _ 29 rfl Z 26 i26 _ 21 40 Ybaz.underlying29 hi26 hz hsz hby rfl (by decide) u22 (outTo s pr L m).length (flat (outTo s pr L m)) rfl OW3.out ⟨w3.heap.size, 0, none⟩ 1 1 (pv (some y)).toList rfl rfl NW.out N1.out B1.out B2.out B3.out ?_; intro v5 w5 hown5 hgr5 _)
                            go_roundg (255 - (m + 1))
                            case measure => omega
                            case rel =>
                              refine ⟨m + 1, by omega, by omega, (by rw [show 255 - (m + 1) = 254 - m by omega]), ?_, ?_⟩
                              · show w5.ownsRow Z 26 21 v5 (outTo s pr L (m + 1)).length (flat (outTo s pr L (m + 1)))
                                rw [ON2.out, List.length_append, List.length_singleton, flat_snoc]
                                exact hown5
                              · exact (TWZ.out.then (j3.alloc (.cells (pv (some y)) 26)).grew (fun _ _ x => x.elim)).then (Turn.of_grownBy hgr5) (fun k _ e => (own_base OWN.out e).1)
                          | false =>
                            rw [hpd] at cP
                            have ON2 : Aside (outTo s pr L (m + 1) = outTo s pr L m) := by
                              show outTo s pr L (m + 1) = _
                              rw [ON.out, hpd, if_neg (by simp), List.append_nil]
                            clear hpd
                            go_wp2_with fail
                            go_roundg (255 - (m + 1))
                            case measure => omega
                            case rel => exact ⟨m + 1, by omega, by omega, (by rw [show 255 - (m + 1) = 254 - m by omega]), (by rw [ON2.out]; exact OWN), TWZ⟩
                        · have hdl2 : ¬ (d : Int) < (L : Int) := by omega
                          have ON2 : Aside (outTo s pr L (m + 1) = outTo s pr L m) := by
                            show outTo s pr L (m + 1) = _
                            rw [ON.out, if_neg (by simp [hdl]), List.append_nil]
                          go_wp2_with fail
                          go_roundg (255 - (m + 1))
                          case measure => omega
                          case rel => exact ⟨m + 1, by omega, by omega, (by rw [show 255 - (m + 1) = 254 - m by omega]), (by rw [ON2.out]; exact OWN), TWZ⟩
                      · have hme : m = 255 := by omega
                        have OE : Aside (Own wr Z u22 (outTo s pr L 255)) := by rw [hme] at OWN; exact OWN
                        have z0 : ((255 - m : Nat) : Int) = 0 := by omega
                        rw [z0]
                        go_wp2_with fail
                        refine bodyPost_ret (v := .tuple #[u22, .bool false]) ?_ rfl ⟨u22, by rw [mB, OW.out, HQ.out]; rfl, ?_, fun b e => ?_, ?_⟩
                        · simp [results, Ybaz.f10, go_sem]
                        · rw [mL, OW.out, HQ.out, LM.out, FL.out, ← HPR.out]
                          exact OE.out.row
                        · have h1 := (own_base OE.out e).1
                          have h2 := W0.out
                          omega
                        · have h3 : Grew w wz := by rw [WZ.out]; exact W0.out.1
                          refine h3.then TWZ.out (fun k hk e => ?_)
                          have h2 := W0.out
                          omega
            · have h1 : ¬ (i : Int) < (fm : Int) := by omega
              have IT1 := IT
              obtain ⟨fl, FL⟩ : ∃ fl, Aside (f.take 160 = fl) := ⟨_, rfl⟩
              rw [FL.out] at IP2
              clear IP IT hgi
              have hw := wrap_sub succ s
              obtain ⟨u, hu⟩ : ∃ u, Aside ((succ - s).toNat = u) := ⟨_, rfl⟩
              rw [hu.out] at hw
              have hul : u < 256 := by rw [← hu.out]; exact u8_lt256 _
              have hul2 : (u : Int) < 256 := by omega
              obtain ⟨q, hcq⟩ : ∃ q, wr.cell? ⟨P, u, none⟩ = some q := ⟨_, (IP2.out.cell u).trans (prOf_get s _ u hul)⟩
              have hfq := IP2.out.frozen u
              have I3 : Aside (IsBlk (wr.setCell ⟨P, u, none⟩ (.bool true)) P (prOf s (fl ++ [succ])) 101 ∧ Turn (· = P) w1 (wr.setCell ⟨P, u, none⟩ (.bool true))) := by
                have := IP2.out.set u (.bool true)
                rw [← hu.out, prOf_set, hu.out] at this
                exact ⟨this, IT1.out.then (Turn.set1 wr P u (.bool true)) (fun _ _ e => e)⟩
              generalize hw2 : wr.setCell ⟨P, u, none⟩ (.bool true) = w2 at I3
              clear IP2 IT1
              go_wp2_with fail
              clear hw2 hcq hfq
              go_loopg [20, 66] nm (fun gg _ s66 wr => ∃ i : Nat, i ≤ nm ∧ nm - i ≤ gg ∧ s66 = .int .i64 i ∧ Aside (IsBlk wr P (prOf s (fl ++ succ :: n.take i)) 101) ∧ Aside (Turn (· = P) w1 wr))
              case atStart => exact ⟨0, by omega, by omega, rfl, (by rw [List.take_zero]; exact I3.out.1), I3.out.2⟩
              case round =>
                obtain ⟨j, hj, hgj, rfl, JP, JT⟩ := hrel
                by_cases hlt2 : j < nm
                · have h1 : (j : Int) < (nm : Int) := by omega
                  have h3 := HN.out.2
                  have h4 := NM.out
                  obtain ⟨x, hx⟩ : ∃ x, Aside (n[j]? = some x) := ⟨_, List.getElem?_eq_getElem (by omega)⟩
                  have IU : U8 wr na n := HN.out.1.turn ((Turn.of_grew hG.grew).then JT.out (fun k _ e => e)) (fun b hb => by have := HP.out; omega)
                  obtain ⟨b, o, rfl, hb, hc⟩ := IU j x hx.out
                  have hw := wrap_sub x s
                  obtain ⟨u, hu⟩ : ∃ u, Aside ((x - s).toNat = u) := ⟨_, rfl⟩
                  rw [hu.out] at hw
                  have hul : u < 256 := by rw [← hu.out]; exact u8_lt256 _
                  have hul2 : (u : Int) < 256 := by omega
                  obtain ⟨q, hcq⟩ : ∃ q, wr.cell? ⟨P, u, none⟩ = some q := ⟨_, (JP.out.cell u).trans (prOf_get s _ u hul)⟩
                  have hfq := JP.out.frozen u
                  have hfm : nm ≤ 9223372036854775807 := by omega
                  have NX : Aside (IsBlk (wr.setCell ⟨P, u, none⟩ (.bool true)) P (prOf s (fl ++ succ :: n.take (j + 1))) 101 ∧ Turn (· = P) w1 (wr.setCell ⟨P, u, none⟩ (.bool true))) := by
                    have := JP.out.set u (.bool true)
                    rw [← hu.out, prOf_set, hu.out] at this
                    rw [List.take_add_one, hx.out]
                    refine ⟨?_, JT.out.then (Turn.set1 wr P u (.bool true)) (fun _ _ e => e)⟩
                    simpa using this
                  clear IU h3 h4 hb hul
                  go_wp2_with fail
                  go_roundg (nm - (j + 1))
                  case measure => omega
                  case rel => exact ⟨j + 1, by omega, by omega, by go_num, NX.out.1, NX.out.2⟩
                · have JP2 : Aside (IsBlk wr P (prOf s (fl ++ succ :: n)) 101) := by
                    have := JP.out
                    have h4 := NM.out
                    rw [List.take_of_length_le (by omega)] at this; exact this
                  have h1 : ¬ (j : Int) < (nm : Int) := by omega
                  have JT2 := JT
                  clear JP JT hgj
                  obtain ⟨L, hL⟩ : ∃ L, Aside ((t - s).toNat = L) := ⟨_, rfl⟩
                  have hwt := wrap_sub t s
                  rw [hL.out] at hwt
                  have hL256 : L < 256 := by rw [← hL.out]; exact u8_lt256 _
                  have hcv : IntKind.i64.wrap (L : Int) = (L : Int) := by rw [IntKind.wrap_i64]; omega
                  obtain ⟨i26, hi26, hz, hsz, hby⟩ := info26x
                  have HPL : Aside (P < wr.heap.size ∧ w.heap.size ≤ wr.heap.size) := ⟨JP2.out.lt, ((Turn.of_grew hG.grew (M := fun k => k = P)).then JT2.out (fun k _ e => e)).size⟩
                  have HTW : Aside (Grew w wr) := hG.grew.then JT2.out (fun k hk e => by have := HP.out; omega)
                  by_cases hz0 : L = 0
                  · have LM : Aside (limOf s t = 256) := by show limOf s t = 256; rw [limOf, hL.out, if_pos hz0]
                    have hz1 : (L : Int) = 0 := by omega
                    go_wp2_with fail
                    obtain ⟨Z, HZ⟩ : ∃ Z, Aside (wr.heap.size = Z) := ⟨_, rfl⟩
                    obtain ⟨pr, HPR⟩ : ∃ pr : Nat → Bool, Aside (pr = fun d => (fl ++ succ :: n).contains (s + UInt8.ofNat d)) := ⟨_, rfl⟩
                    have W0 : Aside (Grew w wr ∧ w.heap.size ≤ Z ∧ P < Z) := ⟨HTW.out, by rw [← HZ.out]; exact HPL.out.2, by rw [← HZ.out]; exact HPL.out.1⟩
                    have TW0 : ∃ wz, Aside (wz = wr) := ⟨_, rfl⟩
                    obtain ⟨wz, WZ⟩ := TW0
                    go_loopg [22, 23] 255 (fun gg s22 s23 wr => ∃ m : Nat, m ≤ 255 ∧ 255 - m ≤ gg ∧ s23 = .int .i64 ((255 - m : Nat) : Int) ∧ Aside (Own wr Z s22 (outTo s pr 256 m)) ∧ Aside (Turn (fun k => Z ≤ k) wz wr))
                    case atStart => exact ⟨0, by omega, by omega, rfl, World.ownsRow_nil wr _ _ _, by rw [WZ.out]; exact Turn.refl _ _⟩
                    case round =>
                      obtain ⟨m, hm, hgm, rfl, OWN, TWZ⟩ := hrel
                      have HZP : Aside (wz.heap.size = Z ∧ IsBlk wz P (prOf s (fl ++ succ :: n)) 101) := by rw [WZ.out]; exact ⟨HZ.out, JP2.out⟩
                      by_cases hm2 : m < 255
                      · obtain ⟨d, hd⟩ : ∃ d, Aside (255 - m = d) := ⟨_, rfl⟩
                        have hd1 : (1 : Int) ≤ (d : Int) := by have := hd.out; omega
                        have hd2 : d < 256 := by have := hd.out; omega
                        have hd3 : (d : Int) < 256 := by omega
                        have hd4 : IntKind.i64.wrap ((d : Int) - 1) = ((255 - (m + 1) : Nat) : Int) := by
                          have := hd.out
                          rw [IntKind.wrap_i64]; omega
                        rw [hd.out]
                        have PB : Aside (IsBlk wr P (prOf s (fl ++ succ :: n)) 101) := HZP.out.2.turn TWZ.out (by have := W0.out; omega)
                        have cP : wr.cell? ⟨P, d, none⟩ = some (.bool (pr d)) := by rw [PB.out.cell, prOf_get s _ d hd2, HPR.out]
                        have ON : Aside (outTo s pr 256 (m + 1) = outTo s pr 256 m ++ if decide (d < 256) && pr d then [s + UInt8.ofNat d] else []) := by show outTo s pr 256 (m + 1) = _; rw [outTo, hd.out]
                        by_cases hdl : d < 256
                        · have hdl2 : (d : Int) < (256 : Int) := by omega
                          cases hpd : pr d with
                          | true =>
                            rw [hpd] at cP
                            obtain ⟨y, hy⟩ : ∃ y, Aside (s + UInt8.ofNat d = y) := ⟨_, rfl⟩
                            have ON2 : Aside (outTo s pr 256 (m + 1) = outTo s pr 256 m ++ [y]) := by
                              show outTo s pr 256 (m + 1) = _
                              rw [ON.out, hpd, hy.out, if_pos (by simp [hdl])]
                            have hc5 : IntKind.u8.wrap (d : Int) = ((UInt8.ofNat d).toNat : Int) := by
                              rw [UInt8.toNat_ofNat']
                              simp only [IntKind.wrap, IntKind.bits, IntKind.signed]
                              simp
                            have hc6 := wrap_add s (UInt8.ofNat d)
                            rw [hy.out] at hc6
                            have k4 := peer_any y wr
                            generalize ((UInt8.ofNat d).toNat : Int) = z5 at hc5 hc6
                            clear hpd
                            go_wp2_with fail
                            refine k4.mono ?_
                            rintro e w3 ⟨rfl, j3⟩
                            clear k4 cP
                            have hbs := bs29 (some y) w3
                            have hlen := outTo_length s pr 256 m
                            have OW3 : Aside ((w3.alloc (.cells (pv (some y)) 26)).ownsRow Z 26 21 u22 (outTo s pr 256 m).length (flat (outTo s pr 256 m))) := World.ownsRow.alloc (owns_turn OWN.out j3.grew (fun _ _ => id)) _
                            have NW : Aside (∀ j u, (pv (some y)).toList[j]? = some u → (w3.alloc (.cells (pv (some y)) 26)).cell? ((⟨w3.heap.size, 0, none⟩ : Addr).add j) = some u) := fun j u hu => by
                              rw [Addr.add_mid]
                              exact (IsBlk.new w3 (pv (some y)) 26).range j u hu
                            have N1 : Aside (∀ u ∈ (pv (some y)).toList, u.oneCell' = true) := fun u hu => (Array.all_eq_true_iff_forall_mem.1 (pv_one (some y))) u (by simpa using hu)
                            have B1 : Aside ((outTo s pr 256 m).length + 1 ≤ maxLen) := by show (outTo s pr 256 m).length + 1 ≤ maxLen; simp only [maxLen]; omega
                            have B2 : Aside (((outTo s pr 256 m).length + 1) * 40 ≤ 140737488355328) := by show ((outTo s pr 256 m).length + 1) * 40 ≤ 140737488355328; omega
                            have B3 : Aside (Z ≤ (w3.alloc (.cells (pv (some y)) 26)).heap.size) := by
                              have h1 := HZP.out.1; have h2 := TWZ.out.size; have h3 := j3.grew.size
                              show Z ≤ _
                              simp; omega
                            clear hlen
                            go_wp2_with (at_builtin; refine wpList_append_own _ rfl _ _ 29 rfl Z 26 i26 _ 21 40 Ybaz.underlying29 hi26 hz hsz hby rfl (by decide) u22 (outTo s pr 256 m).length (flat (outTo s pr 256 m)) rfl OW3.out ⟨w3.heap.size, 0, none⟩ 1 1 (pv (some y)).toList rfl rfl NW.out N1.out B1.out B2.out B3.out ?_; intro v5 w5 hown5 hgr5 _)
                            go_roundg (255 - (m + 1))
                            case measure => omega
                            case rel =>
                              refine ⟨m + 1, by omega, by omega, (by rw [show 255 - (m + 1) = 254 - m by omega]), ?_, ?_⟩
                              · show w5.ownsRow Z 26 21 v5 (outTo s pr 256 (m + 1)).length (flat (outTo s pr 256 (m + 1)))
                                rw [ON2.out, List.length_append, List.length_singleton, flat_snoc]
                                exact hown5
                              · exact (TWZ.out.then (j3.alloc (.cells (pv (some y)) 26)).grew (fun _ _ x => x.elim)).then (Turn.of_grownBy hgr5) (fun k _ e => (own_base OWN.out e).1)
                          | false =>
                            rw [hpd] at cP
                            have ON2 : Aside (outTo s pr 256 (m + 1) = outTo s pr 256 m) := by
                              show outTo s pr 256 (m + 1) = _
                              rw [ON.out, hpd, if_neg (by simp), List.append_nil]
                            clear hpd
                            go_wp2_with fail
                            go_roundg (255 - (m + 1))
                            case measure => omega
                            case rel => exact ⟨m + 1, by omega, by omega, (by rw [show 255 - (m + 1) = 254 - m by omega]), (by rw [ON2.out]; exact OWN), TWZ⟩
                        · exact absurd hd2 hdl
                      · have hme : m = 255 := by omega
                        have OE : Aside (Own wr Z u22 (outTo s pr 256 255)) := by rw [hme] at OWN; exact OWN
                        have z0 : ((255 - m : Nat) : Int) = 0 := by omega
                        rw [z0]
                        go_wp2_with fail
                        refine bodyPost_ret (v := .tuple #[u22, .bool false]) ?_ rfl ⟨u22, by rw [mB, OW.out, HQ.out]; rfl, ?_, fun b e => ?_, ?_⟩
                        · simp [results, Ybaz.f10, go_sem]
                        · rw [mL, OW.out, HQ.out, LM.out, FL.out, ← HPR.out]
                          exact OE.out.row
                        · have h1 := (own_base OE.out e).1
                          have h2 := W0.out
                          omega
                        · have h3 : Grew w wz := by rw [WZ.out]; exact W0.out.1
                          refine h3.then TWZ.out (fun k hk e => ?_)
                          have h2 := W0.out
                          omega
                  · have LM : Aside (limOf s t = L) := by show limOf s t = L; rw [limOf, hL.out, if_neg hz0]
                    have hz1 : ¬ (L : Int) = 0 := by omega
                    go_wp2_with fail
                    obtain ⟨Z, HZ⟩ : ∃ Z, Aside (wr.heap.size = Z) := ⟨_, rfl⟩
                    obtain ⟨pr, HPR⟩ : ∃ pr : Nat → Bool, Aside (pr = fun d => (fl ++ succ :: n).contains (s + UInt8.ofNat d)) := ⟨_, rfl⟩
                    have W0 : Aside (Grew w wr ∧ w.heap.size ≤ Z ∧ P < Z) := ⟨HTW.out, by rw [← HZ.out]; exact HPL.out.2, by rw [← HZ.out]; exact HPL.out.1⟩
                    have TW0 : ∃ wz, Aside (wz = wr) := ⟨_, rfl⟩
                    obtain ⟨wz, WZ⟩ := TW0
                    go_loopg [22, 23] 255 (fun gg s22 s23 wr => ∃ m : Nat, m ≤ 255 ∧ 255 - m ≤ gg ∧ s23 = .int .i64 ((255 - m : Nat) : Int) ∧ Aside (Own wr Z s22 (outTo s pr L m)) ∧ Aside (Turn (fun k => Z ≤ k) wz wr))
                    case atStart => exact ⟨0, by omega, by omega, rfl, World.ownsRow_nil wr _ _ _, by rw [WZ.out]; exact Turn.refl _ _⟩
                    case round =>
                      obtain ⟨m, hm, hgm, rfl, OWN, TWZ⟩ := hrel
                      have HZP : Aside (wz.heap.size = Z ∧ IsBlk wz P (prOf s (fl ++ succ :: n)) 101) := by rw [WZ.out]; exact ⟨HZ.out, JP2.out⟩
                      by_cases hm2 : m < 255
                      · obtain ⟨d, hd⟩ : ∃ d, Aside (255 - m = d) := ⟨_, rfl⟩
                        have hd1 : (1 : Int) ≤ (d : Int) := by have := hd.out; omega
                        have hd2 : d < 256 := by have := hd.out; omega
                        have hd3 : (d : Int) < 256 := by omega
                        have hd4 : IntKind.i64.wrap ((d : Int) - 1) = ((255 - (m + 1) : Nat) : Int) := by
                          have := hd.out
                          rw [IntKind.wrap_i64]; omega
                        rw [hd.out]
                        have PB : Aside (IsBlk wr P (prOf s (fl ++ succ :: n)) 101) := HZP.out.2.turn TWZ.out (by have := W0.out; omega)
                        have cP : wr.cell? ⟨P, d, none⟩ = some (.bool (pr d)) := by rw [PB.out.cell, prOf_get s _ d hd2, HPR.out]
                        have ON : Aside (outTo s pr L (m + 1) = outTo s pr L m ++ if decide (d < L) && pr d then [s + UInt8.ofNat d] else []) := by show outTo s pr L (m + 1) = _; rw [outTo, hd.out]
                        by_cases hdl : d < L
                        · have hdl2 : (d : Int) < (L : Int) := by omega
                          cases hpd : pr d with
                          | true =>
                            rw [hpd] at cP
                            obtain ⟨y, hy⟩ : ∃ y, Aside (s + UInt8.ofNat d = y) := ⟨_, rfl⟩
                            have ON2 : Aside (outTo s pr L (m + 1) = outTo s pr L m ++ [y]) := by
                              show outTo s pr L (m + 1) = _
                              rw [ON.out, hpd, hy.out, if_pos (by simp [hdl])]
                            have hc5 : IntKind.u8.wrap (d : Int) = ((UInt8.ofNat d).toNat : Int) := by
                              rw [UInt8.toNat_ofNat']
                              simp only [IntKind.wrap, IntKind.bits, IntKind.signed]
                              simp
                            have hc6 := wrap_add s (UInt8.ofNat d)
                            rw [hy.out] at hc6
                            have k4 := peer_any y wr
                            generalize ((UInt8.ofNat d).toNat : Int) = z5 at hc5 hc6
                            clear hpd
                            go_wp2_with fail
                            refine k4.mono ?_
                            rintro e w3 ⟨rfl, j3⟩
                            clear k4 cP
                            have hbs := bs29 (some y) w3
                            have hlen := outTo_length s pr L m
                            have OW3 : Aside ((w3.alloc (.cells (pv (some y)) 26)).ownsRow Z 26 21 u22 (outTo s pr L m).length (flat (outTo s pr L m))) := World.ownsRow.alloc (owns_turn OWN.out j3.grew (fun _ _ => id)) _
                            have NW : Aside (∀ j u, (pv (some y)).toList[j]? = some u → (w3.alloc (.cells (pv (some y)) 26)).cell? ((⟨w3.heap.size, 0, none⟩ : Addr).add j) = some u) := fun j u hu => by
                              rw [Addr.add_mid]
                              exact (IsBlk.new w3 (pv (some y)) 26).range j u hu
                            have N1 : Aside (∀ u ∈ (pv (some y)).toList, u.oneCell' = true) := fun u hu => (Array.all_eq_true_iff_forall_mem.1 (pv_one (some y))) u (by simpa using hu)
                            have B1 : Aside ((outTo s pr L m).length + 1 ≤ maxLen) := by show (outTo s pr L m).length + 1 ≤ maxLen; simp only [maxLen]; omega
                            have B2 : Aside (((outTo s pr L m).length + 1) * 40 ≤ 140737488355328) := by show ((outTo s pr L m).length + 1) * 40 ≤ 140737488355328; omega
                            have B3 : Aside (Z ≤ (w3.alloc (.cells (pv (some y)) 26)).heap.size) := by
                              have h1 := HZP.out.1; have h2 := TWZ.out.size; have h3 := j3.grew.size
                              show Z ≤ _
                              simp; omega
                            clear hlen
                            go_wp2_with (at_builtin; refine wpList_append_own _ rfl _ _ 29 rfl Z 26 i26 _ 21 40 Ybaz.underlying29 hi26 hz hsz hby rfl (by decide) u22 (outTo s pr L m).length (flat (outTo s pr L m)) rfl OW3.out ⟨w3.heap.size, 0, none⟩ 1 1 (pv (some y)).toList rfl rfl NW.out N1.out B1.out B2.out B3.out ?_; intro v5 w5 hown5 hgr5 _)
                            go_roundg (255 - (m + 1))
                            case measure => omega
                            case rel =>
                              refine ⟨m + 1, by omega, by omega, (by rw [show 255 - (m + 1) = 254 - m by omega]), ?_, ?_⟩
                              · show w5.ownsRow Z 26 21 v5 (outTo s pr L (m + 1)).length (flat (outTo s pr L (m + 1)))
                                rw [ON2.out, List.length_append, List.length_singleton, flat_snoc]
                                exact hown5
                              · exact (TWZ.out.then (j3.alloc (.cells (pv (some y)) 26)).grew (fun _ _ x => x.elim)).then (Turn.of_grownBy hgr5) (fun k _ e => (own_base OWN.out e).1)
                          | false =>
                            rw [hpd] at cP
                            have ON2 : Aside (outTo s pr L (m + 1) = outTo s pr L m) := by
                              show outTo s pr L (m + 1) = _
                              rw [ON.out, hpd, if_neg (by simp), List.append_nil]
                            clear hpd
                            go_wp2_with fail
                            go_roundg (255 - (m + 1))
                            case measure => omega
                            case rel => exact ⟨m + 1, by omega, by omega, (by rw [show 255 - (m + 1) = 254 - m by omega]), (by rw [ON2.out]; exact OWN), TWZ⟩
                        · have hdl2 : ¬ (d : Int) < (L : Int) := by omega
                          have ON2 : Aside (outTo s pr L (m + 1) = outTo s pr L m) := by
                            show outTo s pr L (m + 1) = _
                            rw [ON.out, if_neg (by simp [hdl]), List.append_nil]
                          go_wp2_with fail
                          go_roundg (255 - (m + 1))
                          case measure => omega
                          case rel => exact ⟨m + 1, by omega, by omega, (by rw [show 255 - (m + 1) = 254 - m by omega]), (by rw [ON2.out]; exact OWN), TWZ⟩
                      · have hme : m = 255 := by omega
                        have OE : Aside (Own wr Z u22 (outTo s pr L 255)) := by rw [hme] at OWN; exact OWN
                        have z0 : ((255 - m : Nat) : Int) = 0 := by omega
                        rw [z0]
                        go_wp2_with fail
                        refine bodyPost_ret (v := .tuple #[u22, .bool false]) ?_ rfl ⟨u22, by rw [mB, OW.out, HQ.out]; rfl, ?_, fun b e => ?_, ?_⟩
                        · simp [results, Ybaz.f10, go_sem]
                        · rw [mL, OW.out, HQ.out, LM.out, FL.out, ← HPR.out]
                          exact OE.out.row
                        · have h1 := (own_base OE.out e).1
                          have h2 := W0.out
                          omega
                        · have h3 : Grew w wz := by rw [WZ.out]; exact W0.out.1
                          refine h3.then TWZ.out (fun k hk e => ?_)
                          have h2 := W0.out
                          omega
end
end Go.Proofs.YbulkdevoGreat
