/- The carrier of the law, and 'carried'. -/
import Derived.Test.YbulkdevoGreatQ12
namespace Go.Proofs.YbulkdevoGreat
open Go.RowKit Go.Sort
set_option linter.unusedVariables false
set_option linter.unusedSimpArgs false

/-- The variables that the carrier captures, in the order in which they are laid. -/
structure Boxes (w : World) (M mb sb kb cb vb ob eb : Nat) (sv : Value) (k calls served : Int) (addr : ByteArray) : Prop where
  bm : IsBlk w mb #[.pointer (some ⟨M, 0, none⟩)] 30
  bs : IsBlk w sb #[sv] 66
  bk : IsBlk w kb #[.int .u8 k] 5
  bc : IsBlk w cb #[.int .i64 calls] 3
  bv : IsBlk w vb #[.int .i64 served] 3
  bo : IsBlk w ob #[.string addr] 9
  be : IsBlk w eb #[.nilIface] 66
  ord : M ≠ mb ∧ M < sb ∧ mb < sb ∧ sb < kb ∧ kb < cb ∧ cb < vb ∧ vb < ob ∧ ob < eb

theorem Boxes.turn {w w' : World} {M mb sb kb cb vb ob eb : Nat} {sv : Value} {k calls served : Int} {addr : ByteArray} (h : Boxes w M mb sb kb cb vb ob eb sv k calls served addr) {T : Nat → Prop} (t : Turn T w w') (hT : ∀ i, (i = mb ∨ (sb ≤ i ∧ i ≤ eb)) → ¬ T i) : Boxes w' M mb sb kb cb vb ob eb sv k calls served addr := by
  have o := h.ord
  exact ⟨h.bm.turn t (hT _ (by omega)), h.bs.turn t (hT _ (by omega)), h.bk.turn t (hT _ (by omega)), h.bc.turn t (hT _ (by omega)), h.bv.turn t (hT _ (by omega)), h.bo.turn t (hT _ (by omega)), h.be.turn t (hT _ (by omega)), o⟩
theorem Boxes.grn {w w' : World} {M mb sb kb cb vb ob eb : Nat} {sv : Value} {k calls served : Int} {addr : ByteArray} (h : Boxes w M mb sb kb cb vb ob eb sv k calls served addr) (t : Grn w w') : Boxes w' M mb sb kb cb vb ob eb sv k calls served addr := h.turn t.grew (fun _ _ => id)
theorem Boxes.call {w : World} {M mb sb kb cb vb ob eb : Nat} {sv : Value} {k calls served : Int} {addr : ByteArray} (h : Boxes w M mb sb kb cb vb ob eb sv k calls served addr) (c' : Int) (a' : ByteArray) :
    Boxes ((w.setCell ⟨cb, 0, none⟩ (.int .i64 c')).setCell ⟨ob, 0, none⟩ (.string a')) M mb sb kb cb vb ob eb sv k c' served a' ∧ Turn (fun i => i = cb ∨ i = ob) w ((w.setCell ⟨cb, 0, none⟩ (.int .i64 c')).setCell ⟨ob, 0, none⟩ (.string a')) := by
  have o := h.ord
  have t1 := Turn.set1 w cb 0 (.int .i64 c')
  have t2 := Turn.set1 (w.setCell ⟨cb, 0, none⟩ (.int .i64 c')) ob 0 (.string a')
  refine ⟨⟨(h.bm.turn t1 (by omega)).turn t2 (by omega), (h.bs.turn t1 (by omega)).turn t2 (by omega), (h.bk.turn t1 (by omega)).turn t2 (by omega), ?_, (h.bv.turn t1 (by omega)).turn t2 (by omega), ?_, (h.be.turn t1 (by omega)).turn t2 (by omega), o⟩, (t1.mono (fun _ _ e => .inl e)).then t2 (fun _ _ e => .inr e)⟩
  · have := (h.bc.set 0 (.int .i64 c')).turn t2 (by omega)
    simpa using this
  · have := (h.bo.turn t1 (by omega)).set 0 (.string a')
    simpa using this
theorem Boxes.served {w : World} {M mb sb kb cb vb ob eb : Nat} {sv : Value} {k calls served : Int} {addr : ByteArray} (h : Boxes w M mb sb kb cb vb ob eb sv k calls served addr) (c' : Int) :
    Boxes ((w.setCell ⟨eb, 0, none⟩ .nilIface).setCell ⟨vb, 0, none⟩ (.int .i64 c')) M mb sb kb cb vb ob eb sv k calls c' addr ∧ Turn (fun i => i = eb ∨ i = vb) w ((w.setCell ⟨eb, 0, none⟩ .nilIface).setCell ⟨vb, 0, none⟩ (.int .i64 c')) := by
  have o := h.ord
  have t1 := Turn.set1 w eb 0 .nilIface
  have t2 := Turn.set1 (w.setCell ⟨eb, 0, none⟩ .nilIface) vb 0 (.int .i64 c')
  refine ⟨⟨(h.bm.turn t1 (by omega)).turn t2 (by omega), (h.bs.turn t1 (by omega)).turn t2 (by omega), (h.bk.turn t1 (by omega)).turn t2 (by omega), (h.bc.turn t1 (by omega)).turn t2 (by omega), ?_, (h.bo.turn t1 (by omega)).turn t2 (by omega), ?_, o⟩, (t1.mono (fun _ _ e => .inl e)).then t2 (fun _ _ e => .inr e)⟩
  · have := (h.bv.turn t1 (by omega)).set 0 (.int .i64 c')
    simpa using this
  · have := (h.be.set 0 .nilIface).turn t2 (by omega)
    simpa using this

set_option maxHeartbeats 4000000 in
set_option maxRecDepth 100000 in
/-- The carrier that refuses. -/
theorem carrier_one {w : World} {M mb sb kb cb vb ob eb : Nat} {sv : Value} (h : Boxes w M mb sb kb cb vb ob eb sv 1 0 0 ⟨#[]⟩) (cx sf : Value) (addr : ByteArray) :
    Calls Ybaz.prog 6 #[cx, .string addr, sf, .pointer (some ⟨cb, 0, none⟩), .pointer (some ⟨ob, 0, none⟩), .pointer (some ⟨kb, 0, none⟩), .pointer (some ⟨sb, 0, none⟩), .pointer (some ⟨mb, 0, none⟩), .pointer (some ⟨eb, 0, none⟩), .pointer (some ⟨vb, 0, none⟩)] w fun e w' =>
      e = .returned sv ∧ Boxes w' M mb sb kb cb vb ob eb sv 1 1 0 addr ∧ Turn (fun i => i = cb ∨ i = ob) w w' := by
  have o := h.ord
  obtain ⟨h1, t1⟩ := h.call 1 addr
  have c1 : w.cell? ⟨cb, 0, none⟩ = some (.int .i64 0) := h.bc.cell 0
  have f1 := h.bc.frozen 0
  have hbo := h.bo.turn (Turn.set1 w cb 0 (.int .i64 1)) (by omega)
  have c2 : (w.setCell ⟨cb, 0, none⟩ (.int .i64 1)).cell? ⟨ob, 0, none⟩ = some (.string ⟨#[]⟩) := hbo.cell 0
  have f2 := hbo.frozen 0
  have hf2 := h.bo.frozen 0
  generalize hw1 : (w.setCell ⟨cb, 0, none⟩ (.int .i64 1)).setCell ⟨ob, 0, none⟩ (.string addr) = w1 at h1 t1
  have c3 : w1.cell? ⟨kb, 0, none⟩ = some (.int .u8 1) := h1.bk.cell 0
  have c4 : w1.cell? ⟨sb, 0, none⟩ = some sv := h1.bs.cell 0
  have H1 : Aside (Boxes w1 M mb sb kb cb vb ob eb sv 1 1 0 addr) := h1
  clear h h1 hbo o
  go_enter Ybaz.func6, Ybaz.ntmps6
  go_wp2_with fail
  go_ret
  exact ⟨rfl, H1.out, t1⟩

set_option maxHeartbeats 4000000 in
set_option maxRecDepth 100000 in
theorem carrier_zero {w : World} {B M mb sb kb cb vb ob eb tb ab gb : Nat} {sv : Value} {s t : UInt8} {pred : Option UInt8} {succ : UInt8} {fl ns : List UInt8} (h : Boxes w M mb sb kb cb vb ob eb sv 0 0 0 ⟨#[]⟩) (hR : Ready w B M s pred succ fl ns) (hb : IsBlk w tb (idv t) 24) (ha : IsBlk w ab #[.func (.func 12) #[] #[.pointer (some ⟨tb, 0, none⟩)]] 96) (hg : IsBlk w gb #[.slice none 0 0, .bool false] 92) (ho : B ≤ sb ∧ eb < tb ∧ eb < ab ∧ eb < gb) (cx : Value) (addr : ByteArray) :
    Calls Ybaz.prog 6 #[cx, .string addr, .func (.func 15) #[] #[.pointer (some ⟨ab, 0, none⟩), .pointer (some ⟨gb, 0, none⟩)], .pointer (some ⟨cb, 0, none⟩), .pointer (some ⟨ob, 0, none⟩), .pointer (some ⟨kb, 0, none⟩), .pointer (some ⟨sb, 0, none⟩), .pointer (some ⟨mb, 0, none⟩), .pointer (some ⟨eb, 0, none⟩), .pointer (some ⟨vb, 0, none⟩)] w fun e w' =>
      e = .returned .nilIface ∧ Boxes w' M mb sb kb cb vb ob eb sv 0 1 1 addr ∧ (∃ v, IsBlk w' gb #[v, .bool (stepB s pred succ t)] 92 ∧ Row w' v (stepL s pred succ t fl ns) ∧ (∀ b, v.ownBlock = some b → w.heap.size ≤ b)) ∧ Turn (fun i => i = M ∨ i = gb ∨ (sb ≤ i ∧ i ≤ eb)) w w' := by
  have o := h.ord
  have hlt := hR.lt
  obtain ⟨h1, t1⟩ := h.call 1 addr
  have c1 : w.cell? ⟨cb, 0, none⟩ = some (.int .i64 0) := h.bc.cell 0
  have f1 := h.bc.frozen 0
  have hbo := h.bo.turn (Turn.set1 w cb 0 (.int .i64 1)) (by omega)
  have c2 : (w.setCell ⟨cb, 0, none⟩ (.int .i64 1)).cell? ⟨ob, 0, none⟩ = some (.string ⟨#[]⟩) := hbo.cell 0
  have f2 := hbo.frozen 0
  have hf2 := h.bo.frozen 0
  generalize hw1 : (w.setCell ⟨cb, 0, none⟩ (.int .i64 1)).setCell ⟨ob, 0, none⟩ (.string addr) = w1 at h1 t1
  have c3 : w1.cell? ⟨kb, 0, none⟩ = some (.int .u8 0) := h1.bk.cell 0
  have c4 : w1.cell? ⟨mb, 0, none⟩ = some (.pointer (some ⟨M, 0, none⟩)) := h1.bm.cell 0
  have HEL : Aside (eb < w1.heap.size ∧ w.heap.size ≤ w1.heap.size) := ⟨h1.be.lt, t1.size⟩
  have k15 := serve_any (hR.turn t1 (by omega)) (hb.turn t1 (by omega)) (ha.turn t1 (by omega)) (hg.turn t1 (by omega)) (by omega) cx
  have H1 : Aside (Boxes w1 M mb sb kb cb vb ob eb sv 0 1 0 addr) := h1
  have HO : Aside ((M ≠ mb ∧ M < sb ∧ mb < sb ∧ sb < kb ∧ kb < cb ∧ cb < vb ∧ vb < ob ∧ ob < eb) ∧ (B ≤ sb ∧ eb < tb ∧ eb < ab ∧ eb < gb)) := ⟨o, ho⟩
  clear h h1 hbo o hR hb ha hg ho hlt
  go_enter Ybaz.func6, Ybaz.ntmps6
  go_wp2_with fail
  refine k15.mono ?_
  rintro e w2 ⟨rfl, v, hgb, hrow, hfr, htu⟩
  clear k15 c1 c2 c3 c4 f1 f2 hf2 hw1
  have h2 := H1.out.turn htu (by have := HO.out; omega)
  obtain ⟨h3, t3⟩ := h2.served 1
  have c5 : w2.cell? ⟨eb, 0, none⟩ = some .nilIface := h2.be.cell 0
  have f5 := h2.be.frozen 0
  have hbv := h2.bv.turn (Turn.set1 w2 eb 0 .nilIface) (by have := HO.out; omega)
  have c6 : (w2.setCell ⟨eb, 0, none⟩ .nilIface).cell? ⟨vb, 0, none⟩ = some (.int .i64 0) := hbv.cell 0
  have f6 := hbv.frozen 0
  have f7 := h2.bv.frozen 0
  generalize hw3 : (w2.setCell ⟨eb, 0, none⟩ .nilIface).setCell ⟨vb, 0, none⟩ (.int .i64 1) = w3 at h3 t3
  have c7 : w3.cell? ⟨kb, 0, none⟩ = some (.int .u8 0) := h3.bk.cell 0
  have c8 : w3.cell? ⟨sb, 0, none⟩ = some sv := h3.bs.cell 0
  have c9 : w3.cell? ⟨eb, 0, none⟩ = some .nilIface := h3.be.cell 0
  have F : Aside (Boxes w3 M mb sb kb cb vb ob eb sv 0 1 1 addr ∧ (∃ v, IsBlk w3 gb #[v, .bool (stepB s pred succ t)] 92 ∧ Row w3 v (stepL s pred succ t fl ns) ∧ (∀ b, v.ownBlock = some b → w.heap.size ≤ b)) ∧ Turn (fun i => i = M ∨ i = gb ∨ (sb ≤ i ∧ i ≤ eb)) w w3) := by
    have oo := HO.out
    have el := HEL.out
    refine ⟨h3, ⟨v, hgb.turn t3 (by omega), hrow.turn t3 (fun b e => by have := hfr b e; omega), fun b e => Nat.le_trans el.2 (hfr b e)⟩, ((t1.mono (fun i _ e => ?_)).then htu (fun i _ e => ?_)).then t3 (fun i _ e => ?_)⟩
    · omega
    · omega
    · omega
  clear h2 h3 hgb hrow hfr htu hbv
  go_wp2_with fail
  go_ret
  exact ⟨rfl, F.out⟩

set_option maxHeartbeats 4000000 in
set_option maxRecDepth 100000 in
theorem carrier_two {w : World} {B M mb sb kb cb vb ob eb tb ab gb : Nat} {sv : Value} {s t : UInt8} {pred : Option UInt8} {succ : UInt8} {fl ns : List UInt8} (h : Boxes w M mb sb kb cb vb ob eb sv 2 0 0 ⟨#[]⟩) (hR : Ready w B M s pred succ fl ns) (hb : IsBlk w tb (idv t) 24) (ha : IsBlk w ab #[.func (.func 12) #[] #[.pointer (some ⟨tb, 0, none⟩)]] 96) (hg : IsBlk w gb #[.slice none 0 0, .bool false] 92) (ho : B ≤ sb ∧ eb < tb ∧ eb < ab ∧ eb < gb) (cx : Value) (addr : ByteArray) :
    Calls Ybaz.prog 6 #[cx, .string addr, .func (.func 15) #[] #[.pointer (some ⟨ab, 0, none⟩), .pointer (some ⟨gb, 0, none⟩)], .pointer (some ⟨cb, 0, none⟩), .pointer (some ⟨ob, 0, none⟩), .pointer (some ⟨kb, 0, none⟩), .pointer (some ⟨sb, 0, none⟩), .pointer (some ⟨mb, 0, none⟩), .pointer (some ⟨eb, 0, none⟩), .pointer (some ⟨vb, 0, none⟩)] w fun e w' =>
      e = .returned sv ∧ Boxes w' M mb sb kb cb vb ob eb sv 2 1 1 addr ∧ (∃ v, IsBlk w' gb #[v, .bool (stepB s pred succ t)] 92 ∧ Row w' v (stepL s pred succ t fl ns) ∧ (∀ b, v.ownBlock = some b → w.heap.size ≤ b)) ∧ Turn (fun i => i = M ∨ i = gb ∨ (sb ≤ i ∧ i ≤ eb)) w w' := by
  have o := h.ord
  have hlt := hR.lt
  obtain ⟨h1, t1⟩ := h.call 1 addr
  have c1 : w.cell? ⟨cb, 0, none⟩ = some (.int .i64 0) := h.bc.cell 0
  have f1 := h.bc.frozen 0
  have hbo := h.bo.turn (Turn.set1 w cb 0 (.int .i64 1)) (by omega)
  have c2 : (w.setCell ⟨cb, 0, none⟩ (.int .i64 1)).cell? ⟨ob, 0, none⟩ = some (.string ⟨#[]⟩) := hbo.cell 0
  have f2 := hbo.frozen 0
  have hf2 := h.bo.frozen 0
  generalize hw1 : (w.setCell ⟨cb, 0, none⟩ (.int .i64 1)).setCell ⟨ob, 0, none⟩ (.string addr) = w1 at h1 t1
  have c3 : w1.cell? ⟨kb, 0, none⟩ = some (.int .u8 2) := h1.bk.cell 0
  have c4 : w1.cell? ⟨mb, 0, none⟩ = some (.pointer (some ⟨M, 0, none⟩)) := h1.bm.cell 0
  have HEL : Aside (eb < w1.heap.size ∧ w.heap.size ≤ w1.heap.size) := ⟨h1.be.lt, t1.size⟩
  have k15 := serve_any (hR.turn t1 (by omega)) (hb.turn t1 (by omega)) (ha.turn t1 (by omega)) (hg.turn t1 (by omega)) (by omega) cx
  have H1 : Aside (Boxes w1 M mb sb kb cb vb ob eb sv 2 1 0 addr) := h1
  have HO : Aside ((M ≠ mb ∧ M < sb ∧ mb < sb ∧ sb < kb ∧ kb < cb ∧ cb < vb ∧ vb < ob ∧ ob < eb) ∧ (B ≤ sb ∧ eb < tb ∧ eb < ab ∧ eb < gb)) := ⟨o, ho⟩
  clear h h1 hbo o hR hb ha hg ho hlt
  go_enter Ybaz.func6, Ybaz.ntmps6
  go_wp2_with fail
  refine k15.mono ?_
  rintro e w2 ⟨rfl, v, hgb, hrow, hfr, htu⟩
  clear k15 c1 c2 c3 c4 f1 f2 hf2 hw1
  have h2 := H1.out.turn htu (by have := HO.out; omega)
  obtain ⟨h3, t3⟩ := h2.served 1
  have c5 : w2.cell? ⟨eb, 0, none⟩ = some .nilIface := h2.be.cell 0
  have f5 := h2.be.frozen 0
  have hbv := h2.bv.turn (Turn.set1 w2 eb 0 .nilIface) (by have := HO.out; omega)
  have c6 : (w2.setCell ⟨eb, 0, none⟩ .nilIface).cell? ⟨vb, 0, none⟩ = some (.int .i64 0) := hbv.cell 0
  have f6 := hbv.frozen 0
  have f7 := h2.bv.frozen 0
  generalize hw3 : (w2.setCell ⟨eb, 0, none⟩ .nilIface).setCell ⟨vb, 0, none⟩ (.int .i64 1) = w3 at h3 t3
  have c7 : w3.cell? ⟨kb, 0, none⟩ = some (.int .u8 2) := h3.bk.cell 0
  have c8 : w3.cell? ⟨sb, 0, none⟩ = some sv := h3.bs.cell 0
  have c9 : w3.cell? ⟨eb, 0, none⟩ = some .nilIface := h3.be.cell 0
  have F : Aside (Boxes w3 M mb sb kb cb vb ob eb sv 2 1 1 addr ∧ (∃ v, IsBlk w3 gb #[v, .bool (stepB s pred succ t)] 92 ∧ Row w3 v (stepL s pred succ t fl ns) ∧ (∀ b, v.ownBlock = some b → w.heap.size ≤ b)) ∧ Turn (fun i => i = M ∨ i = gb ∨ (sb ≤ i ∧ i ≤ eb)) w w3) := by
    have oo := HO.out
    have el := HEL.out
    refine ⟨h3, ⟨v, hgb.turn t3 (by omega), hrow.turn t3 (fun b e => by have := hfr b e; omega), fun b e => Nat.le_trans el.2 (hfr b e)⟩, ((t1.mono (fun i _ e => ?_)).then htu (fun i _ e => ?_)).then t3 (fun i _ e => ?_)⟩
    · omega
    · omega
    · omega
  clear h2 h3 hgb hrow hfr htu hbv
  go_wp2_with fail
  go_ret
  exact ⟨rfl, F.out⟩

end Go.Proofs.YbulkdevoGreat
