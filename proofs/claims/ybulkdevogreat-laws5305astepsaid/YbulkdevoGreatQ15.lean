/- '(Carrier).Step'. -/
import Derived.Test.YbulkdevoGreatQ14
namespace Go.Proofs.YbulkdevoGreat
open Go.RowKit Go.Sort
set_option linter.unusedVariables false
set_option linter.unusedSimpArgs false

/-- A cell stored anew with what it holds. -/
theorem setCell_same {w : World} {b i : Nat} {v : Value} (h : w.cell? ⟨b, i, none⟩ = some v) : w.setCell ⟨b, i, none⟩ v = w := by
  have this : (w.setCell ⟨b, i, none⟩ v).heap = w.heap := by
    apply Array.ext_getElem?
    intro k
    by_cases e : b = k
    · subst e
      cases hb : w.heap[b]? with
      | none => simp only [World.setCell, Array.getElem?_modify, hb]; simp
      | some o =>
        simp only [World.cell?, hb] at h
        cases o <;> simp at h
        · rename_i c el fr
          simp only [World.setCell, Array.getElem?_modify, hb, if_pos, Option.map_some]
          congr 2
          apply Array.ext_getElem?
          intro m
          simp only [Option.isSome_none, Bool.false_eq_true, if_false]
          rw [Array.getElem?_setIfInBounds]
          by_cases em : i = m
          · subst em
            have hi := (Array.getElem?_eq_some_iff.1 h).1
            rw [if_pos rfl, if_pos hi, h]
          · rw [if_neg em]
    · simp only [World.setCell, Array.getElem?_modify]
      rw [if_neg e]
  have e2 : w.setCell ⟨b, i, none⟩ v = { w with heap := (w.setCell ⟨b, i, none⟩ v).heap } := rfl
  rw [e2, this]

set_option maxHeartbeats 4000000 in
set_option maxRecDepth 100000 in
theorem cstep_zero {w : World} {B M mb sb kb cb vb ob eb : Nat} {sv : Value} {s t : UInt8} {pred : Option UInt8} {succ : UInt8} {fl ns : List UInt8} (h : Boxes w M mb sb kb cb vb ob eb sv 0 0 0 ⟨#[]⟩) (hR : Ready w B M s pred succ fl ns) (ho : B ≤ sb) (cx : Value) (addr : ByteArray) :
    Calls Ybaz.prog 7 #[.func (.func 6) #[] #[.pointer (some ⟨cb, 0, none⟩), .pointer (some ⟨ob, 0, none⟩), .pointer (some ⟨kb, 0, none⟩), .pointer (some ⟨sb, 0, none⟩), .pointer (some ⟨mb, 0, none⟩), .pointer (some ⟨eb, 0, none⟩), .pointer (some ⟨vb, 0, none⟩)], cx, .string addr, .agg (idv t)] w fun e w' =>
      ∃ v, e = .returned (.tuple #[v, .bool (stepB s pred succ t), .nilIface]) ∧ Boxes w' M mb sb kb cb vb ob eb sv 0 1 1 addr ∧ Row w' v (stepL s pred succ t fl ns) ∧ (∀ b, v.ownBlock = some b → w.heap.size ≤ b) ∧ Turn (fun i => i = M ∨ (sb ≤ i ∧ i ≤ eb)) w w' := by
  have hG : Grn w (w.alloc (.cells (idv t) 24)) := (Grn.refl w).alloc _
  have b1 : IsBlk (w.alloc (.cells (idv t) 24)) w.heap.size (idv t) 24 := IsBlk.new w _ _
  generalize hw1 : w.alloc (.cells (idv t) 24) = w1 at hG b1
  have hel := h.be.lt
  have k11 := carried_zero (h.grn hG) (hR.grn hG) b1 ⟨ho, hel⟩ cx addr
  have HS : Aside (w.heap.size ≤ w1.heap.size) := hG.grew.size
  clear h hR b1 hel
  go_enter Ybaz.func7, Ybaz.ntmps7
  go_wp2_with fail
  refine k11.mono ?_
  rintro e w2 ⟨v, rfl, hB, hrow, hfr, htu⟩
  clear k11 hw1
  obtain ⟨va, vn, vc, rfl⟩ := hrow.slice
  have g3 : Grn w2 (w2.alloc (.cells #[.slice va vn vc, .bool (stepB s pred succ t)] 92)) := (Grn.refl w2).alloc _
  have b3 : IsBlk (w2.alloc (.cells #[.slice va vn vc, .bool (stepB s pred succ t)] 92)) w2.heap.size #[.slice va vn vc, .bool (stepB s pred succ t)] 92 := IsBlk.new w2 _ _
  generalize hw3 : w2.alloc (.cells #[.slice va vn vc, .bool (stepB s pred succ t)] 92) = w3 at g3 b3
  have c0 : ∀ n, (w3.drewN n).cell? ⟨w2.heap.size, 0, none⟩ = some (.slice va vn vc) := fun n => (b3.grn ((Grn.refl w3).drewN n)).cell 0
  have c1 : ∀ n, (w3.drewN n).cell? ⟨w2.heap.size, 1, none⟩ = some (.bool (stepB s pred succ t)) := fun n => (b3.grn ((Grn.refl w3).drewN n)).cell 1
  have FIN : Aside (∀ n, Boxes (w3.drewN n) M mb sb kb cb vb ob eb sv 0 1 1 addr ∧ Row (w3.drewN n) (.slice va vn vc) (stepL s pred succ t fl ns) ∧ (∀ b, (Value.slice va vn vc).ownBlock = some b → w.heap.size ≤ b) ∧ Turn (fun i => i = M ∨ (sb ≤ i ∧ i ≤ eb)) w (w3.drewN n)) := fun n =>
    ⟨hB.grn (g3.drewN n), hrow.grn (g3.drewN n), fun b e => Nat.le_trans HS.out (hfr b e), (((Turn.of_grew hG.grew).then htu (fun i _ e => e)).grew (g3.drewN n).grew)⟩
  clear hB hrow hfr htu b3 g3
  go_wp2_with fail
  clear hw3
  go_quiet (fail)
  go_wp2_with fail
  refine bodyPost_ret (v := .tuple #[.slice va vn vc, .bool (stepB s pred succ t), .nilIface]) ?_ rfl ⟨_, rfl, FIN.out _⟩
  simp [results, Ybaz.f7, go_sem]

set_option maxHeartbeats 4000000 in
set_option maxRecDepth 100000 in
theorem cstep_fail {w : World} {B M mb sb kb cb vb ob eb : Nat} {ty : TypeId} {val : Value} {s t : UInt8} {pred : Option UInt8} {succ : UInt8} {fl ns : List UInt8} {k : Int} (hk : k = 1 ∨ k = 2) (h : Boxes w M mb sb kb cb vb ob eb (.iface ty val) k 0 0 ⟨#[]⟩) (hR : Ready w B M s pred succ fl ns) (ho : B ≤ sb) (cx : Value) (addr : ByteArray) :
    Calls Ybaz.prog 7 #[.func (.func 6) #[] #[.pointer (some ⟨cb, 0, none⟩), .pointer (some ⟨ob, 0, none⟩), .pointer (some ⟨kb, 0, none⟩), .pointer (some ⟨sb, 0, none⟩), .pointer (some ⟨mb, 0, none⟩), .pointer (some ⟨eb, 0, none⟩), .pointer (some ⟨vb, 0, none⟩)], cx, .string addr, .agg (idv t)] w fun e w' =>
      e = .returned (.tuple #[.slice none 0 0, .bool false, .iface ty val]) ∧ (∃ sd, Boxes w' M mb sb kb cb vb ob eb (.iface ty val) k 1 sd addr) ∧ Turn (fun i => i = M ∨ (sb ≤ i ∧ i ≤ eb)) w w' := by
  have hG : Grn w (w.alloc (.cells (idv t) 24)) := (Grn.refl w).alloc _
  have b1 : IsBlk (w.alloc (.cells (idv t) 24)) w.heap.size (idv t) 24 := IsBlk.new w _ _
  generalize hw1 : w.alloc (.cells (idv t) 24) = w1 at hG b1
  have hel := h.be.lt
  have k11 := carried_fail hk (h.grn hG) (hR.grn hG) b1 ⟨ho, hel⟩ cx addr
  clear h hR b1 hel hk
  go_enter Ybaz.func7, Ybaz.ntmps7
  go_wp2_with fail
  refine k11.mono ?_
  rintro e w2 ⟨rfl, ⟨sd, hB⟩, htu⟩
  clear k11 hw1
  have g3 : Grn w2 (w2.alloc (.cells #[.slice none 0 0, .bool false] 92)) := (Grn.refl w2).alloc _
  have b3 : IsBlk (w2.alloc (.cells #[.slice none 0 0, .bool false] 92)) w2.heap.size #[.slice none 0 0, .bool false] 92 := IsBlk.new w2 _ _
  generalize hw3 : w2.alloc (.cells #[.slice none 0 0, .bool false] 92) = w3 at g3 b3
  have s0 : w3.setCell ⟨w2.heap.size, 0, none⟩ (.slice none 0 0) = w3 := setCell_same (b3.cell 0)
  have s1 : w3.setCell ⟨w2.heap.size, 1, none⟩ (.bool false) = w3 := setCell_same (b3.cell 1)
  have c0 : ∀ n, (w3.drewN n).cell? ⟨w2.heap.size, 0, none⟩ = some (.slice none 0 0) := fun n => (b3.grn ((Grn.refl w3).drewN n)).cell 0
  have c1 : ∀ n, (w3.drewN n).cell? ⟨w2.heap.size, 1, none⟩ = some (.bool false) := fun n => (b3.grn ((Grn.refl w3).drewN n)).cell 1
  have d0 : w3.cell? ⟨w2.heap.size, 0, none⟩ = some (.slice none 0 0) := b3.cell 0
  have d1 : w3.cell? ⟨w2.heap.size, 1, none⟩ = some (.bool false) := b3.cell 1
  have e0 := b3.frozen 0
  have e1 := b3.frozen 1
  have FIN : Aside (∀ n, Boxes (w3.drewN n) M mb sb kb cb vb ob eb (.iface ty val) k 1 sd addr ∧ Turn (fun i => i = M ∨ (sb ≤ i ∧ i ≤ eb)) w (w3.drewN n)) := fun n =>
    ⟨hB.grn (g3.drewN n), (((Turn.of_grew hG.grew).then htu (fun i _ e => e)).grew (g3.drewN n).grew)⟩
  clear hB htu b3 g3
  go_wp2_with fail
  clear hw3
  go_quiet (fail)
  go_wp2_with fail
  refine bodyPost_ret (v := .tuple #[.slice none 0 0, .bool false, .iface ty val]) ?_ rfl ⟨rfl, ⟨sd, (FIN.out _).1⟩, (FIN.out _).2⟩
  simp [results, Ybaz.f7, go_sem]

end Go.Proofs.YbulkdevoGreat
