/- The successor and its list in one row. -/
import Derived.Test.YbulkdevoGreatQ7
import Derived.Deep.RegionLaw
namespace Go.Proofs.YbulkdevoGreat
open Go.RowKit Go.Sort
set_option linter.unusedVariables false
set_option linter.unusedSimpArgs false

/-- An append onto a row of the call's own, as one step of a region that draws its order. -/
theorem step_append_own {P : Program} {ops : Array Oper} {o : Oper} {a : Act} {w : World} {K : Act → World → Prop} {Q : Exit → Act → World → Prop} {E : Prop}
    (hg : o.guard = none) (s x : Operand) (t : TypeId) (hop : o.op = Op.call { callee := Callee.builtin Builtin.append, args := #[s, x], argTypes := #[t, t] })
    (base : Nat) (e : TypeId) (i : TypeInfo) (z : Value) (size bytes : Nat) (h1 : P.underlying t = some (.slice e)) (h2 : P.info? e = some i) (h3 : i.zero = some z) (h4 : i.size = size) (h5 : i.bytes = bytes) (h6 : z.cells.size = size) (h7 : 0 < size)
    (v : Value) (n : Nat) (xs : List Value) (hs : a.eval s = v) (hown : w.ownsRow base e size v n xs)
    (ad : Addr) (m c : Nat) (news : List Value) (hx : a.eval x = .slice (some ad) m c) (hn : news.length = m * size) (hc : ∀ j u, news[j]? = some u → w.cell? (ad.add j) = some u) (h1c : ∀ u ∈ news, u.oneCell' = true)
    (b1 : n + m ≤ maxLen) (b2 : (n + m) * bytes ≤ 140737488355328) (b3 : base ≤ w.heap.size)
    (hK : ∀ v' w', w'.ownsRow base e size v' (n + m) (xs ++ news) → w.grownBy w' v.ownBlock → K (a.put o.dst v') w') :
    if Region.wanted o (yielded ops a.tmps) = true then Oper.wp P o a w K Q else E := by
  have hw : Region.wanted o (yielded ops a.tmps) = true := by simp [Region.wanted, hg]
  rw [if_pos hw]
  obtain ⟨v', w', hrun, r1, r2, _⟩ := run_append_own (P := P) w base t o.type e i z size bytes h1 h2 h3 h4 h5 h6 h7 v n xs hown ad m c news hn hc h1c b1 b2 b3
  unfold Oper.wp
  simp [execOp, hop, resolve, invoke, builtin, hs, hx, hrun, Result.andThen]
  exact hK _ _ r1 r2

section
attribute [local go_sem ↓] fold_ld24 fold_st24 fold_ld26 fold_st26 fold_bd24 fold_bd26 fold_bs29
set_option maxHeartbeats 2000000 in
set_option maxRecDepth 100000 in
theorem chain_any {w : World} {M N cap : Nat} {s : UInt8} {pred : Option UInt8} {succ : UInt8} {C : Array Value} {ns : List UInt8} (h : Mem w M s pred succ (.slice (some ⟨N, 0, none⟩) ns.length cap) C) (hN : w.rangeAt N 0 (flat ns)) (hNl : N < w.heap.size) (hl : ns.length ≤ 100000) :
    Calls Ybaz.prog 28 #[.pointer (some ⟨M, 0, none⟩)] w fun e w' => ∃ v, e = .returned v ∧ Own w' w.heap.size v (succ :: ns) ∧ Grew w w' := by
  have r1 : (Ld 26 ⟨M, 65, none⟩).run Ybaz.prog w.drew = .ok (.agg (pv (some succ))) w.drew := run_Ld26 (h.grn (Grn.refl w).drew).succ (pv_size _)
  have c1 : w.drew.cell? ⟨M, 86, none⟩ = some (.slice (some ⟨N, 0, none⟩) ns.length cap) := h.next
  have hbs := bs29 (some succ) w.drew
  have r1' : (Ld 26 ⟨M, 65, none⟩).run Ybaz.prog (w.alloc (.cells (pv (some succ)) 26)).drew = .ok (.agg (pv (some succ))) (w.alloc (.cells (pv (some succ)) 26)).drew := run_Ld26 (h.grn ((Grn.refl w).drew.alloc _)).succ (pv_size _)
  have c1' : (w.alloc (.cells (pv (some succ)) 26)).cell? ⟨M, 86, none⟩ = some (.slice (some ⟨N, 0, none⟩) ns.length cap) := (h.grn ((Grn.refl w).drew.alloc _)).next
  obtain ⟨i26, hi, hz, hsz, hby⟩ := info26x
  have OW : Aside ((w.drew.alloc (.cells (pv (some succ)) 26)).ownsRow w.heap.size 26 21 (.slice (some ⟨w.heap.size, 0, none⟩) 1 1) 1 (pv (some succ)).toList) := by
    refine ⟨by simp [pv_size], .inr ⟨w.heap.size, 1, pv (some succ), rfl, Nat.le_refl _, IsBlk.new w.drew _ _, Nat.le_refl _, by decide, by simp [pv_size], ?_⟩⟩
    rw [List.take_of_length_le (by simp [pv_size])]
  have NW : Aside (∀ j u, (flat ns)[j]? = some u → (w.drew.alloc (.cells (pv (some succ)) 26)).cell? ((⟨N, 0, none⟩ : Addr).add j) = some u) := fun j u hu => by
    rw [Addr.add_mid]
    exact (((Grn.refl w).drew.alloc _).rangeAt hNl hN) j u hu
  have N1 : Aside ((flat ns).length = ns.length * 21) := flat_length ns
  have N2 : Aside (∀ u ∈ flat ns, u.oneCell' = true) := flat_one ns
  have B1 : Aside (1 + ns.length ≤ maxLen) := by show 1 + ns.length ≤ maxLen; simp only [maxLen]; omega
  have B2 : Aside ((1 + ns.length) * 40 ≤ 140737488355328) := by show (1 + ns.length) * 40 ≤ 140737488355328; omega
  have B3 : Aside (w.heap.size ≤ (w.drew.alloc (.cells (pv (some succ)) 26)).heap.size) := by show w.heap.size ≤ _; simp
  clear h hN hNl hl
  generalize hfl : flat ns = fl at NW N1 N2
  have FL : Aside (flat ns = fl) := hfl
  clear hfl
  generalize hnl : ns.length = nl at c1 c1' N1 B1 B2
  have NL : Aside (ns.length = nl) := hnl
  clear hnl
  go_enter Ybaz.func28, Ybaz.ntmps28
  go_wp2_with fail
  go_region_law (refine step_append_own rfl _ _ 29 rfl w.heap.size 26 i26 _ 21 40 Ybaz.underlying29 hi hz hsz hby rfl (by decide) (.slice (some ⟨w.heap.size, 0, none⟩) 1 1) 1 (pv (some succ)).toList rfl OW.out ⟨N, 0, none⟩ nl cap fl rfl N1.out NW.out N2.out B1.out B2.out B3.out ?_; intro v5 w5 hown5 hgr5)
  all_goals
    go_wp2_with fail
    go_ret
    refine ⟨v5, rfl, ?_, (((Turn.refl _ w).alloc _).drew).grown hgr5 (fun k hk => .inr (by simp [Value.ownBlock] at hk; omega))⟩
    show w5.ownsRow w.heap.size 26 21 v5 (succ :: ns).length (flat (succ :: ns))
    rw [show (succ :: ns).length = 1 + nl by rw [List.length_cons, NL.out]; omega, show flat (succ :: ns) = (pv (some succ)).toList ++ fl by rw [← FL.out]; rfl]
    exact hown5
end
end Go.Proofs.YbulkdevoGreat
