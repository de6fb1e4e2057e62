/- 'carried' and '(Carrier).Step'. -/
import Derived.Test.YbulkdevoGreatQ13
namespace Go.Proofs.YbulkdevoGreat
open Go.RowKit Go.Sort
set_option linter.unusedVariables false
set_option linter.unusedSimpArgs false

/-- The carrier that fails, before or behind the serving. -/
theorem carrier_fail {w : World} {B M mb sb kb cb vb ob eb tb ab gb : Nat} {sv : Value} {s t : UInt8} {pred : Option UInt8} {succ : UInt8} {fl ns : List UInt8} {k : Int} (hk : k = 1 ∨ k = 2) (h : Boxes w M mb sb kb cb vb ob eb sv k 0 0 ⟨#[]⟩) (hR : Ready w B M s pred succ fl ns) (hb : IsBlk w tb (idv t) 24) (ha : IsBlk w ab #[.func (.func 12) #[] #[.pointer (some ⟨tb, 0, none⟩)]] 96) (hg : IsBlk w gb #[.slice none 0 0, .bool false] 92) (ho : B ≤ sb ∧ eb < tb ∧ eb < ab ∧ eb < gb) (cx : Value) (addr : ByteArray) :
    Calls Ybaz.prog 6 #[cx, .string addr, .func (.func 15) #[] #[.pointer (some ⟨ab, 0, none⟩), .pointer (some ⟨gb, 0, none⟩)], .pointer (some ⟨cb, 0, none⟩), .pointer (some ⟨ob, 0, none⟩), .pointer (some ⟨kb, 0, none⟩), .pointer (some ⟨sb, 0, none⟩), .pointer (some ⟨mb, 0, none⟩), .pointer (some ⟨eb, 0, none⟩), .pointer (some ⟨vb, 0, none⟩)] w fun e w' =>
      e = .returned sv ∧ (∃ sd, Boxes w' M mb sb kb cb vb ob eb sv k 1 sd addr) ∧ Turn (fun i => i = M ∨ i = gb ∨ (sb ≤ i ∧ i ≤ eb)) w w' := by
  have o := h.ord
  rcases hk with rfl | rfl
  · refine (carrier_one h cx _ addr).mono ?_
    rintro e w' ⟨he, hB, ht⟩
    exact ⟨he, ⟨0, hB⟩, ht.mono (fun i _ e => by omega)⟩
  · refine (carrier_two h hR hb ha hg ho cx addr).mono ?_
    rintro e w' ⟨he, hB, _, ht⟩
    exact ⟨he, ⟨1, hB⟩, ht⟩

theorem boxes_carried (w : World) (f : Value) : Grn w (((w.alloc (.cells #[f] 96)).alloc (.cells #[.slice none 0 0, .bool false] 92)).alloc (.cells #[.slice none 0 0, .bool false] 92))
    ∧ IsBlk (((w.alloc (.cells #[f] 96)).alloc (.cells #[.slice none 0 0, .bool false] 92)).alloc (.cells #[.slice none 0 0, .bool false] 92)) w.heap.size #[f] 96
    ∧ IsBlk (((w.alloc (.cells #[f] 96)).alloc (.cells #[.slice none 0 0, .bool false] 92)).alloc (.cells #[.slice none 0 0, .bool false] 92)) (w.heap.size + 1) #[.slice none 0 0, .bool false] 92
    ∧ IsBlk (((w.alloc (.cells #[f] 96)).alloc (.cells #[.slice none 0 0, .bool false] 92)).alloc (.cells #[.slice none 0 0, .bool false] 92)) (w.heap.size + 1 + 1) #[.slice none 0 0, .bool false] 92 := by
  refine ⟨(((Grn.refl w).alloc _).alloc _).alloc _, (IsBlk.new w _ _).grn (((Grn.refl _).alloc _).alloc _), ?_, ?_⟩
  · have := (IsBlk.new (w.alloc (.cells #[f] 96)) #[.slice none 0 0, .bool false] 92).grn ((Grn.refl _).alloc (.cells #[.slice none 0 0, .bool false] 92))
    rwa [show (w.alloc (.cells #[f] 96)).heap.size = w.heap.size + 1 by simp] at this
  · have := IsBlk.new ((w.alloc (.cells #[f] 96)).alloc (.cells #[.slice none 0 0, .bool false] 92)) #[.slice none 0 0, .bool false] 92
    rwa [show ((w.alloc (.cells #[f] 96)).alloc (.cells #[.slice none 0 0, .bool false] 92)).heap.size = w.heap.size + 1 + 1 by simp] at this

set_option maxHeartbeats 4000000 in
set_option maxRecDepth 100000 in
theorem carried_zero {w : World} {B M mb sb kb cb vb ob eb tb : Nat} {sv : Value} {s t : UInt8} {pred : Option UInt8} {succ : UInt8} {fl ns : List UInt8} (h : Boxes w M mb sb kb cb vb ob eb sv 0 0 0 ⟨#[]⟩) (hR : Ready w B M s pred succ fl ns) (hb : IsBlk w tb (idv t) 24) (ho : B ≤ sb ∧ eb < tb) (cx : Value) (addr : ByteArray) :
    Calls Ybaz.prog 11 #[.func (.func 6) #[] #[.pointer (some ⟨cb, 0, none⟩), .pointer (some ⟨ob, 0, none⟩), .pointer (some ⟨kb, 0, none⟩), .pointer (some ⟨sb, 0, none⟩), .pointer (some ⟨mb, 0, none⟩), .pointer (some ⟨eb, 0, none⟩), .pointer (some ⟨vb, 0, none⟩)], cx, .string addr, .func (.func 12) #[] #[.pointer (some ⟨tb, 0, none⟩)]] w fun e w' =>
      ∃ v, e = .returned (.tuple #[.agg #[v, .bool (stepB s pred succ t)], .nilIface]) ∧ Boxes w' M mb sb kb cb vb ob eb sv 0 1 1 addr ∧ Row w' v (stepL s pred succ t fl ns) ∧ (∀ b, v.ownBlock = some b → w.heap.size ≤ b) ∧ Turn (fun i => i = M ∨ (sb ≤ i ∧ i ≤ eb)) w w' := by
  obtain ⟨hG, b1, b2, b3⟩ := boxes_carried w (.func (.func 12) #[] #[.pointer (some ⟨tb, 0, none⟩)])
  have htl := hb.lt
  have hel := h.be.lt
  generalize hw1 : ((w.alloc (.cells #[.func (.func 12) #[] #[.pointer (some ⟨tb, 0, none⟩)]] 96)).alloc (.cells #[.slice none 0 0, .bool false] 92)).alloc (.cells #[.slice none 0 0, .bool false] 92) = w1 at hG b1 b2 b3
  have k6 := carrier_zero (h.grn hG) (hR.grn hG) (hb.grn hG) b1 b3 (by omega) cx addr
  have HO : Aside ((M ≠ mb ∧ M < sb ∧ mb < sb ∧ sb < kb ∧ kb < cb ∧ cb < vb ∧ vb < ob ∧ ob < eb) ∧ eb < w.heap.size ∧ M < w.heap.size ∧ w1.heap.size = w.heap.size + 3) := ⟨h.ord, hel, by have := hR.lt; have := h.ord; omega, by rw [← hw1]; simp⟩
  have HB2 : Aside (IsBlk w1 (w.heap.size + 1) #[.slice none 0 0, .bool false] 92) := b2
  clear h hR hb ho b1 b2 b3 htl hel
  go_enter Ybaz.func11, Ybaz.ntmps11
  go_wp2_with fail
  refine k6.mono ?_
  rintro e w2 ⟨rfl, hB, ⟨v, hgb, hrow, hfr⟩, htu⟩
  clear k6 hw1
  obtain ⟨va, vn, vc, rfl⟩ := hrow.slice
  have c0 := hgb.cell 0
  have c1 := hgb.cell 1
  simp at c0 c1
  have B2 := HB2.out.turn htu (by have := HO.out; omega)
  have c2 := B2.cell 0
  have c3 := B2.cell 1
  have f2 := B2.frozen 0
  have f3 := B2.frozen 1
  simp at c2 c3
  have B4 := B2.set2 (u := .slice va vn vc) (v := .bool (stepB s pred succ t))
  have T4 := turn_set2 w2 (w.heap.size + 1) (.slice va vn vc) (.bool (stepB s pred succ t))
  have FIN : Aside (Boxes ((w2.setCell ⟨w.heap.size + 1, 0, none⟩ (.slice va vn vc)).setCell ⟨w.heap.size + 1, 1, none⟩ (.bool (stepB s pred succ t))) M mb sb kb cb vb ob eb sv 0 1 1 addr ∧ Row ((w2.setCell ⟨w.heap.size + 1, 0, none⟩ (.slice va vn vc)).setCell ⟨w.heap.size + 1, 1, none⟩ (.bool (stepB s pred succ t))) (.slice va vn vc) (stepL s pred succ t fl ns) ∧ (∀ b, (Value.slice va vn vc).ownBlock = some b → w.heap.size ≤ b) ∧ Turn (fun i => i = M ∨ (sb ≤ i ∧ i ≤ eb)) w ((w2.setCell ⟨w.heap.size + 1, 0, none⟩ (.slice va vn vc)).setCell ⟨w.heap.size + 1, 1, none⟩ (.bool (stepB s pred succ t)))) := by
    have oo := HO.out
    refine ⟨hB.turn T4 (by omega), hrow.turn T4 (fun b e => by have := hfr b e; omega), fun b e => by have := hfr b e; omega, ((Turn.of_grew hG.grew).then htu (fun i _ e => by omega)).then T4 (fun i _ e => by omega)⟩
  have Z : Aside (IsBlk ((w2.setCell ⟨w.heap.size + 1, 0, none⟩ (.slice va vn vc)).setCell ⟨w.heap.size + 1, 1, none⟩ (.bool (stepB s pred succ t))) (w.heap.size + 1) #[.slice va vn vc, .bool (stepB s pred succ t)] 92) := B4
  clear hB hrow hfr hgb htu T4 B4 B2
  go_wp2_with fail
  refine bodyPost_ret (v := .tuple #[.agg #[.slice va vn vc, .bool (stepB s pred succ t)], .nilIface]) ?_ rfl ⟨_, rfl, FIN.out⟩
  rw [results_cell_tmp rfl]
  have z0 := Z.out.cell 0
  have z1 := Z.out.cell 1
  simp at z0 z1
  simp [asAddr, Result.andThen, go_sem, z0, z1]

set_option maxHeartbeats 4000000 in
set_option maxRecDepth 100000 in
theorem carried_fail {w : World} {B M mb sb kb cb vb ob eb tb : Nat} {ty : TypeId} {val : Value} {s t : UInt8} {pred : Option UInt8} {succ : UInt8} {fl ns : List UInt8} {k : Int} (hk : k = 1 ∨ k = 2) (h : Boxes w M mb sb kb cb vb ob eb (.iface ty val) k 0 0 ⟨#[]⟩) (hR : Ready w B M s pred succ fl ns) (hb : IsBlk w tb (idv t) 24) (ho : B ≤ sb ∧ eb < tb) (cx : Value) (addr : ByteArray) :
    Calls Ybaz.prog 11 #[.func (.func 6) #[] #[.pointer (some ⟨cb, 0, none⟩), .pointer (some ⟨ob, 0, none⟩), .pointer (some ⟨kb, 0, none⟩), .pointer (some ⟨sb, 0, none⟩), .pointer (some ⟨mb, 0, none⟩), .pointer (some ⟨eb, 0, none⟩), .pointer (some ⟨vb, 0, none⟩)], cx, .string addr, .func (.func 12) #[] #[.pointer (some ⟨tb, 0, none⟩)]] w fun e w' =>
      e = .returned (.tuple #[.agg #[.slice none 0 0, .bool false], .iface ty val]) ∧ (∃ sd, Boxes w' M mb sb kb cb vb ob eb (.iface ty val) k 1 sd addr) ∧ Turn (fun i => i = M ∨ (sb ≤ i ∧ i ≤ eb)) w w' := by
  obtain ⟨hG, b1, b2, b3⟩ := boxes_carried w (.func (.func 12) #[] #[.pointer (some ⟨tb, 0, none⟩)])
  have htl := hb.lt
  have hel := h.be.lt
  generalize hw1 : ((w.alloc (.cells #[.func (.func 12) #[] #[.pointer (some ⟨tb, 0, none⟩)]] 96)).alloc (.cells #[.slice none 0 0, .bool false] 92)).alloc (.cells #[.slice none 0 0, .bool false] 92) = w1 at hG b1 b2 b3
  have k6 := carrier_fail hk (h.grn hG) (hR.grn hG) (hb.grn hG) b1 b3 (by omega) cx addr
  have HO : Aside ((M ≠ mb ∧ M < sb ∧ mb < sb ∧ sb < kb ∧ kb < cb ∧ cb < vb ∧ vb < ob ∧ ob < eb) ∧ eb < w.heap.size ∧ M < w.heap.size ∧ w1.heap.size = w.heap.size + 3) := ⟨h.ord, hel, by have := hR.lt; have := h.ord; omega, by rw [← hw1]; simp⟩
  have HB2 : Aside (IsBlk w1 (w.heap.size + 1) #[.slice none 0 0, .bool false] 92) := b2
  clear h hR hb ho b1 b2 b3 htl hel hk
  go_enter Ybaz.func11, Ybaz.ntmps11
  go_wp2_with fail
  refine k6.mono ?_
  rintro e w2 ⟨rfl, ⟨sd, hB⟩, htu⟩
  clear k6 hw1
  have HB : Aside (Boxes w2 M mb sb kb cb vb ob eb (.iface ty val) k 1 sd addr) := hB
  have B2 : Aside (IsBlk w2 (w.heap.size + 1) #[.slice none 0 0, .bool false] 92) := HB2.out.turn htu (by have := HO.out; omega)
  have g3 : Grn w2 (w2.alloc (.cells #[.slice none 0 0, .bool false] 92)) := (Grn.refl w2).alloc _
  have b5 : IsBlk (w2.alloc (.cells #[.slice none 0 0, .bool false] 92)) w2.heap.size #[.slice none 0 0, .bool false] 92 := IsBlk.new w2 _ _
  generalize hw3 : w2.alloc (.cells #[.slice none 0 0, .bool false] 92) = w3 at g3 b5
  have c0 := b5.cell 0
  have c1 := b5.cell 1
  simp at c0 c1
  have B3 := B2.out.grn g3
  have c2 := B3.cell 0
  have c3 := B3.cell 1
  have f2 := B3.frozen 0
  have f3 := B3.frozen 1
  simp at c2 c3
  have B4 := B3.set2 (u := .slice none 0 0) (v := .bool false)
  have T4 := turn_set2 w3 (w.heap.size + 1) (.slice none 0 0) (.bool false)
  have FIN : Aside (Boxes ((w3.setCell ⟨w.heap.size + 1, 0, none⟩ (.slice none 0 0)).setCell ⟨w.heap.size + 1, 1, none⟩ (.bool false)) M mb sb kb cb vb ob eb (.iface ty val) k 1 sd addr ∧ Turn (fun i => i = M ∨ (sb ≤ i ∧ i ≤ eb)) w ((w3.setCell ⟨w.heap.size + 1, 0, none⟩ (.slice none 0 0)).setCell ⟨w.heap.size + 1, 1, none⟩ (.bool false))) := by
    have oo := HO.out
    exact ⟨(HB.out.grn g3).turn T4 (by omega), (((Turn.of_grew hG.grew).then htu (fun i _ e => by omega)).grew g3.grew).then T4 (fun i _ e => by omega)⟩
  have Z : Aside (IsBlk ((w3.setCell ⟨w.heap.size + 1, 0, none⟩ (.slice none 0 0)).setCell ⟨w.heap.size + 1, 1, none⟩ (.bool false)) (w.heap.size + 1) #[.slice none 0 0, .bool false] 92) := B4
  clear hB htu T4 B4 B3 b5
  go_wp2_with fail
  refine bodyPost_ret (v := .tuple #[.agg #[.slice none 0 0, .bool false], .iface ty val]) ?_ rfl ⟨rfl, ⟨sd, FIN.out.1⟩, FIN.out.2⟩
  rw [results_cell_tmp rfl]
  have z0 := Z.out.cell 0
  have z1 := Z.out.cell 1
  simp at z0 z1
  simp [asAddr, Result.andThen, go_sem, z0, z1]
end Go.Proofs.YbulkdevoGreat
