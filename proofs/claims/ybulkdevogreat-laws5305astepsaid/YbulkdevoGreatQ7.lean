/- The two closures of 'precedingLocked'. -/
import Derived.Test.YbulkdevoGreatQ6
import Derived.Laws.AppendOwn
namespace Go.Proofs.YbulkdevoGreat
open Go.RowKit Go.Sort
set_option linter.unusedVariables false
set_option linter.unusedSimpArgs false

theorem boxes2 (w : World) (A B : Array Value) (t : TypeId) : Grn w ((w.alloc (.cells A t)).alloc (.cells B t)) ∧ IsBlk ((w.alloc (.cells A t)).alloc (.cells B t)) w.heap.size A t
    ∧ IsBlk ((w.alloc (.cells A t)).alloc (.cells B t)) (w.heap.size + 1) B t := by
  refine ⟨((Grn.refl w).alloc _).alloc _, (IsBlk.new w A t).grn ((Grn.refl _).alloc _), ?_⟩
  have := IsBlk.new (w.alloc (.cells A t)) B t
  rwa [show (w.alloc (.cells A t)).heap.size = w.heap.size + 1 by simp] at this

section
attribute [local go_sem ↓] fold_ld24 fold_st24 fold_ld26 fold_st26 fold_bd24 fold_bd26 fold_bs29
set_option maxHeartbeats 2000000 in
set_option maxRecDepth 100000 in
theorem cmpclo {w : World} {M mb : Nat} {s : UInt8} {pred : Option UInt8} {succ : UInt8} {nv : Value} {C : Array Value} (h : Mem w M s pred succ nv C) (hb : IsBlk w mb #[.pointer (some ⟨M, 0, none⟩)] 30) (x y : UInt8) :
    Calls Ybaz.prog 30 #[.agg (pv (some x)), .agg (pv (some y)), .pointer (some ⟨mb, 0, none⟩)] w fun e w' => e = .returned (.int .i64 (cf s x y)) ∧ Grn w w' := by
  obtain ⟨hG, h1, h2⟩ := boxes2 w (pv (some x)) (pv (some y)) 26
  generalize hw1 : (w.alloc (.cells (pv (some x)) 26)).alloc (.cells (pv (some y)) 26) = w1 at hG h1 h2
  have hM := h.grn hG
  have hB := hb.grn hG
  have r1 : ∀ n os, (Ld 24 ⟨w.heap.size, 0, none⟩).run Ybaz.prog (grow (w1.drewN n) os) = .ok (.agg (idv x)) (grow (w1.drewN n) os) := fun n os => run_Ld24 (range_id (p := some x) (h1.grn ⟨n, os, rfl⟩).range) rfl
  have r2 : ∀ n os, (Ld 24 ⟨w.heap.size + 1, 0, none⟩).run Ybaz.prog (grow (w1.drewN n) os) = .ok (.agg (idv y)) (grow (w1.drewN n) os) := fun n os => run_Ld24 (range_id (p := some y) (h2.grn ⟨n, os, rfl⟩).range) rfl
  have r3 : ∀ n os, (Ld 24 ⟨M, 0, none⟩).run Ybaz.prog (grow (w1.drewN n) os) = .ok (.agg (idv s)) (grow (w1.drewN n) os) := fun n os => run_Ld24 (range_id (p := some s) (hM.grn ⟨n, os, rfl⟩).self) rfl
  have c1 : ∀ n os, (grow (w1.drewN n) os).cell? ⟨mb, 0, none⟩ = some (.pointer (some ⟨M, 0, none⟩)) := fun n os => (hB.grn ⟨n, os, rfl⟩).cell 0
  have gg : ∀ n os, Grn w1 (grow (w1.drewN n) os) := fun n os => ⟨n, os, rfl⟩
  have k1 := compareUp_any s y x
  have e0 : cf s x y = cmpUp s y x := rfl
  rw [e0]
  generalize cmpUp s y x = r at k1 ⊢
  have mixed : Ybaz.prog.follows .mixedOrders = true := mixedY
  clear h hb h1 h2 hM hB e0
  go_enter Ybaz.func30, Ybaz.ntmps30
  go_wp2_with fail
  clear hw1
  go_quiet_grown (first | (go_at_call 31; refine Calls.grown_of (k1 _)))
  go_wp2_with fail
  go_ret
  exact ⟨rfl, hG.trans (gg _ _)⟩
end

/-- 'consider', on lists: the zero Peer is passed over. -/
def addO (s t : UInt8) (ks : List UInt8) : Option UInt8 → List UInt8
  | none => ks
  | some x => addK s t ks x

theorem info26x : ∃ i, Ybaz.prog.info? 26 = some i ∧ i.zero = some (.agg pz) ∧ i.size = 21 ∧ i.bytes = 40 := by
  obtain ⟨i, hi⟩ : ∃ i, Ybaz.prog.info? 26 = some i := Option.isSome_iff_exists.1 (by kernel_rfl)
  have h1 : (Ybaz.prog.info? 26).map (fun i => (i.zero, i.size, i.bytes)) = some (some (.agg pz), 21, 40) := by kernel_rfl
  rw [hi] at h1
  simp only [Option.map_some, Option.some.injEq, Prod.mk.injEq] at h1
  exact ⟨i, hi, h1.1, h1.2.1, h1.2.2⟩

/-- What 'known' is in memory: a slice in the box kb, its row apart from all that lay below base. -/
structure Known (w : World) (kb base : Nat) (v : Value) (ks : List UInt8) : Prop where
  box : IsBlk w kb #[v] 29
  own : Own w base v ks
  kb_lt : kb < base
  base_le : base ≤ w.heap.size

theorem Known.turn {w w' : World} {kb base : Nat} {v : Value} {ks : List UInt8} (h : Known w kb base v ks) {T : Nat → Prop} (k : Turn T w w') (hk : ¬ T kb) (hv : ∀ b, v.ownBlock = some b → ¬ T b) : Known w' kb base v ks :=
  ⟨h.box.turn k hk, owns_turn h.own k hv, h.kb_lt, Nat.le_trans h.base_le k.size⟩
theorem Known.grn {w w' : World} {kb base : Nat} {v : Value} {ks : List UInt8} (h : Known w kb base v ks) (k : Grn w w') : Known w' kb base v ks := h.turn k.grew id (fun _ _ => id)

theorem own_base {w : World} {base : Nat} {v : Value} {ks : List UInt8} (h : Own w base v ks) {b : Nat} (hb : v.ownBlock = some b) : base ≤ b ∧ b < w.heap.size := by
  rcases h.open with ⟨rfl, _⟩ | ⟨g, cap, rfl, h1, h2, _⟩
  · simp [Value.ownBlock] at hb
  · simp [Value.ownBlock] at hb
    subst hb
    exact ⟨h1, h2⟩

section
attribute [local go_sem ↓] fold_ld24 fold_st24 fold_ld26 fold_st26 fold_bd24 fold_bd26 fold_bs29
set_option maxHeartbeats 2000000 in
set_option maxRecDepth 100000 in
theorem consider_skip {w : World} {M mb tb kb base : Nat} {s t : UInt8} {pred : Option UInt8} {succ : UInt8} {nv : Value} {C : Array Value} {v : Value} {ks : List UInt8} (h : Mem w M s pred succ nv C) (hb : IsBlk w mb #[.pointer (some ⟨M, 0, none⟩)] 30) (ht : IsBlk w tb (idv t) 24)
    (hk : Known w kb base v ks) (hl : ks.length ≤ maxLen) (p : Option UInt8) (hp : ∀ x, p = some x → (ins x s t && !ks.contains x) = false) :
    Calls Ybaz.prog 25 #[.agg (pv p), .pointer (some ⟨mb, 0, none⟩), .pointer (some ⟨tb, 0, none⟩), .pointer (some ⟨kb, 0, none⟩)] w fun e w' => e = .returned (.tuple #[]) ∧ Grn w w' := by
  have hG : Grn w (w.alloc (.cells (pv p) 26)) := (Grn.refl w).alloc _
  have h1 : IsBlk (w.alloc (.cells (pv p) 26)) w.heap.size (pv p) 26 := IsBlk.new w _ _
  generalize hw1 : w.alloc (.cells (pv p) 26) = w1 at hG h1
  have hM := h.grn hG
  have hB := hb.grn hG
  have hT := ht.grn hG
  have hK := hk.grn hG
  have r1 : ∀ n os, (Ld 26 ⟨w.heap.size, 0, none⟩).run Ybaz.prog (grow (w1.drewN n) os) = .ok (.agg (pv p)) (grow (w1.drewN n) os) := fun n os => run_Ld26 (h1.grn ⟨n, os, rfl⟩).range (pv_size _)
  have r2 : ∀ n os, (Ld 24 ⟨w.heap.size, 0, none⟩).run Ybaz.prog (grow (w1.drewN n) os) = .ok (.agg (idv (p.getD 0))) (grow (w1.drewN n) os) := fun n os => run_Ld24 (range_id (h1.grn ⟨n, os, rfl⟩).range) rfl
  have r3 : ∀ n os, (Ld 24 ⟨M, 0, none⟩).run Ybaz.prog (grow (w1.drewN n) os) = .ok (.agg (idv s)) (grow (w1.drewN n) os) := fun n os => run_Ld24 (range_id (p := some s) (hM.grn ⟨n, os, rfl⟩).self) rfl
  have r4 : ∀ n os, (Ld 24 ⟨tb, 0, none⟩).run Ybaz.prog (grow (w1.drewN n) os) = .ok (.agg (idv t)) (grow (w1.drewN n) os) := fun n os => run_Ld24 (hT.grn ⟨n, os, rfl⟩).range rfl
  have c1 : ∀ n os, (grow (w1.drewN n) os).cell? ⟨mb, 0, none⟩ = some (.pointer (some ⟨M, 0, none⟩)) := fun n os => (hB.grn ⟨n, os, rfl⟩).cell 0
  have c2 : ∀ n os, (grow (w1.drewN n) os).cell? ⟨kb, 0, none⟩ = some v := fun n os => (hK.grn ⟨n, os, rfl⟩).box.cell 0
  have gg : ∀ n os, Grn w1 (grow (w1.drewN n) os) := fun n os => ⟨n, os, rfl⟩
  have hbz := bd26z
  have mixed : Ybaz.prog.follows .mixedOrders = true := mixedY
  cases p with
  | none =>
    have hnz : ∀ W, (binOp .neq 26 (.agg (pv none)) (.agg (pv none))).run Ybaz.prog W = .ok (.bool false) W := fun W => by rw [neq_peer]; rfl
    clear h hb ht hk h1 hM hB hT hK hp hl
    go_enter Ybaz.func25, Ybaz.ntmps25
    go_wp2_with fail
    clear hw1
    refine wp_region_quiet_grown mixedY (by kernel_rfl) ?_
    repeat (first | go_big_quiet_skip | quiet_step (fail))
    refine wpQuiet_nil ?_
    intro _ hw'
    obtain ⟨⟨nq, osq⟩, hw''⟩ := hw'
    subst hw''
    go_wp2_with fail
    go_end0
    exact ⟨rfl, hG.trans (gg _ _)⟩
  | some x =>
    have hnz : ∀ W, (binOp .neq 26 (.agg (pv (some x))) (.agg (pv none))).run Ybaz.prog W = .ok (.bool true) W := fun W => by rw [neq_peer]; rfl
    have k1 := inside_any x s t
    have k2 := fun n os => contains_any (w := grow (w1.drewN n) os) (hK.grn ⟨n, os, rfl⟩).own.row x hl
    have hq := hp x rfl
    generalize ins x s t = q1 at k1 hq
    generalize ks.contains x = q2 at k2 hq
    simp only [Option.getD_some] at r2
    clear h hb ht hk h1 hM hB hT hK hp hl
    cases q1
    · clear hq
      go_enter Ybaz.func25, Ybaz.ntmps25
      go_wp2_with fail
      clear hw1
      refine wp_region_quiet_grown mixedY (by kernel_rfl) ?_
      repeat (first | go_big_quiet_skip | quiet_step (first | (go_at_call 26; refine Calls.grown_of (k1 _))))
      refine wpQuiet_nil ?_
      intro _ hw'
      obtain ⟨⟨nq, osq⟩, hw''⟩ := hw'
      subst hw''
      go_wp2_with fail
      go_end0
      exact ⟨rfl, hG.trans (gg _ _)⟩
    · cases q2
      · simp at hq
      · clear hq
        go_enter Ybaz.func25, Ybaz.ntmps25
        go_wp2_with fail
        clear hw1
        refine wp_region_quiet_grown mixedY (by kernel_rfl) ?_
        repeat (first | go_big_quiet_skip | quiet_step (first | (go_at_call 26; refine Calls.grown_of (k1 _)) | (go_at_call 27; refine Calls.grown_of (k2 _ _))))
        refine wpQuiet_nil ?_
        intro _ hw'
        obtain ⟨⟨nq, osq⟩, hw''⟩ := hw'
        subst hw''
        go_wp2_with fail
        go_end0
        exact ⟨rfl, hG.trans (gg _ _)⟩
end

theorem append_where {P : Program} (w : World) (base : Nat) (t ty e : TypeId) (i : TypeInfo) (z : Value) (size bytes : Nat) (ht : P.underlying t = some (.slice e)) (hi : P.info? e = some i) (hz : i.zero = some z)
    (hsize : i.size = size) (hby : i.bytes = bytes) (hzs : z.cells.size = size) (hsz : 0 < size)
    (v : Value) (n : Nat) (xs : List Value) (hown : w.ownsRow base e size v n xs)
    (a : Addr) (m c : Nat) (news : List Value) (hl : news.length = m * size) (hnews : ∀ j u, news[j]? = some u → w.cell? (a.add j) = some u) (h1 : ∀ u ∈ news, u.oneCell' = true)
    (h63 : n + m ≤ maxLen) (hbytes : (n + m) * bytes ≤ 140737488355328) (hbase : base ≤ w.heap.size) :
    ∃ v' w', (Builtin.append_ #[t, t] ty #[v, .slice (some a) m c]).run P w = .ok v' w' ∧ w'.ownsRow base e size v' (n + m) (xs ++ news) ∧ w.grownBy w' v.ownBlock ∧ (∀ b, v'.ownBlock = some b → v.ownBlock = some b ∨ w.heap.size ≤ b) := by
  obtain ⟨v', w', hr, h2, h3, _⟩ := run_append_own (P := P) w base t ty e i z size bytes ht hi hz hsize hby hzs hsz v n xs hown a m c news hl hnews h1 h63 hbytes hbase
  refine ⟨v', w', hr, h2, h3, ?_⟩
  rcases hown.2 with ⟨rfl, hn⟩ | ⟨g, cap, cur, rfl, hb, hg, hnc, hcm, hs, htk⟩
  · obtain ⟨v2, w2, hr2, h22, _⟩ := run_append_own (P := P) w w.heap.size t ty e i z size bytes ht hi hz hsize hby hzs hsz (.slice none 0 0) n xs ⟨hown.1, .inl ⟨rfl, hn⟩⟩ a m c news hl hnews h1 h63 hbytes (Nat.le_refl _)
    rw [hr] at hr2
    simp only [Result.ok.injEq] at hr2
    obtain ⟨rfl, rfl⟩ := hr2
    intro b hb
    rcases h22.2 with ⟨rfl, _⟩ | ⟨g, cap, cur, rfl, hbg, _⟩
    · simp [Value.ownBlock] at hb
    · simp [Value.ownBlock] at hb
      subst hb
      exact .inr hbg
  · by_cases hroom : n + m ≤ cap
    · have hr2 := run_append_room (P := P) w t ty e i ht hi g n cap cur hg a m c news (by rw [hl, hsize]) hnews h1 hroom (by rw [hl, hs, hsize, ← Nat.add_mul]; exact Nat.mul_le_mul_right _ hroom)
      rw [hr] at hr2
      simp only [Result.ok.injEq] at hr2
      obtain ⟨rfl, rfl⟩ := hr2
      intro b hb
      exact .inl hb
    · have hr2 := run_append_grow (P := P) w t ty e i z ht hi hz ⟨g, 0, none⟩ n cap xs (by rw [hown.1, hsize]) (hown.cells (g := g) rfl) a m c news (by rw [hl, hsize]) hnews (by omega) (by simp only [maxLen] at h63; omega) (growslice_fits (by omega) (by rw [hby]; exact hbytes))
      rw [hr] at hr2
      simp only [Result.ok.injEq] at hr2
      obtain ⟨rfl, rfl⟩ := hr2
      intro b hb
      simp [Value.ownBlock] at hb
      subst hb
      exact .inr (Nat.le_refl _)

theorem wpList_append_where {P : Program} (w : World) {ops : Array Oper} {rest : List Oper} {o : Oper} {ac : Act} {Q : Exit → Act → World → Prop} (hgd : o.guard = none) (s x : Operand) (t : TypeId)
    (ho : o.op = .call { callee := .builtin .append, args := #[s, x], argTypes := #[t, t] })
    (base : Nat) (e : TypeId) (i : TypeInfo) (z : Value) (size bytes : Nat) (ht : P.underlying t = some (.slice e)) (hi : P.info? e = some i) (hz : i.zero = some z)
    (hsize : i.size = size) (hby : i.bytes = bytes) (hzs : z.cells.size = size) (hsz : 0 < size)
    (v : Value) (n : Nat) (xs : List Value) (hs : ac.eval s = v) (hown : w.ownsRow base e size v n xs)
    (ad : Addr) (m c : Nat) (news : List Value) (hx : ac.eval x = .slice (some ad) m c) (hl : news.length = m * size) (hnews : ∀ j u, news[j]? = some u → w.cell? (ad.add j) = some u) (h1 : ∀ u ∈ news, u.oneCell' = true)
    (h63 : n + m ≤ maxLen) (hbytes : (n + m) * bytes ≤ 140737488355328) (hbase : base ≤ w.heap.size)
    (h : ∀ v' w', w'.ownsRow base e size v' (n + m) (xs ++ news) → w.grownBy w' v.ownBlock → (∀ b, v'.ownBlock = some b → v.ownBlock = some b ∨ w.heap.size ≤ b) → wpList P ops Q rest (ac.put o.dst v') w') : wpList P ops Q (o :: rest) ac w := by
  obtain ⟨v', w', hr, h2, h3, h4⟩ := append_where (P := P) w base t o.type e i z size bytes ht hi hz hsize hby hzs hsz v n xs hown ad m c news hl hnews h1 h63 hbytes hbase
  refine wpList_plain hgd fun K hK => ?_
  unfold Oper.wp
  simp [execOp, ho, resolve, invoke, builtin, hs, hx, hr, Result.andThen]
  exact hK _ _ (h v' w' h2 h3 h4)

theorem owns_succ {w : World} {base : Nat} {e : TypeId} {size : Nat} {v : Value} {n : Nat} {xs : List Value} (h : w.ownsRow base e size v (n + 1) xs) : ∃ g cap, v = .slice (some ⟨g, 0, none⟩) (n + 1) cap := by
  rcases h.2 with ⟨_, h⟩ | ⟨g, cap, _, rfl, _⟩
  · omega
  · exact ⟨g, cap, rfl⟩
theorem Turn.of_grownBy {w w' : World} {v : Value} (h : w.grownBy w' v.ownBlock) : Turn (fun k => v.ownBlock = some k) w w' := (Turn.refl _ w).grown h (fun k hk => .inl hk)

section
attribute [local go_sem ↓] fold_ld24 fold_st24 fold_ld26 fold_st26 fold_bd24 fold_bd26 fold_bs29
set_option maxHeartbeats 2000000 in
set_option maxRecDepth 100000 in
theorem consider_add {w : World} {M mb tb kb base : Nat} {s t : UInt8} {pred : Option UInt8} {succ : UInt8} {nv : Value} {C : Array Value} {v : Value} {ks : List UInt8} (h : Mem w M s pred succ nv C) (hb : IsBlk w mb #[.pointer (some ⟨M, 0, none⟩)] 30) (ht : IsBlk w tb (idv t) 24)
    (hk : Known w kb base v ks) (hl : ks.length ≤ 100000) (x : UInt8) (hp : ins x s t = true) (hp2 : ks.contains x = false) :
    Calls Ybaz.prog 25 #[.agg (pv (some x)), .pointer (some ⟨mb, 0, none⟩), .pointer (some ⟨tb, 0, none⟩), .pointer (some ⟨kb, 0, none⟩)] w fun e w' => e = .returned (.tuple #[]) ∧ ∃ v', Known w' kb base v' (ks ++ [x]) ∧ Turn (fun k => k = kb ∨ v.ownBlock = some k) w w' ∧ (∀ b, v'.ownBlock = some b → v.ownBlock = some b ∨ w.heap.size ≤ b) := by
  have hG : Grn w (w.alloc (.cells (pv (some x)) 26)) := (Grn.refl w).alloc _
  have h1 : IsBlk (w.alloc (.cells (pv (some x)) 26)) w.heap.size (pv (some x)) 26 := IsBlk.new w _ _
  generalize hw1 : w.alloc (.cells (pv (some x)) 26) = w1 at hG h1
  have hM := h.grn hG
  have hB := hb.grn hG
  have hT := ht.grn hG
  have hK := hk.grn hG
  have r1 : ∀ n os, (Ld 26 ⟨w.heap.size, 0, none⟩).run Ybaz.prog (grow (w1.drewN n) os) = .ok (.agg (pv (some x))) (grow (w1.drewN n) os) := fun n os => run_Ld26 (h1.grn ⟨n, os, rfl⟩).range (pv_size _)
  have r2 : ∀ n os, (Ld 24 ⟨w.heap.size, 0, none⟩).run Ybaz.prog (grow (w1.drewN n) os) = .ok (.agg (idv x)) (grow (w1.drewN n) os) := fun n os => run_Ld24 (range_id (p := some x) (h1.grn ⟨n, os, rfl⟩).range) rfl
  have r3 : ∀ n os, (Ld 24 ⟨M, 0, none⟩).run Ybaz.prog (grow (w1.drewN n) os) = .ok (.agg (idv s)) (grow (w1.drewN n) os) := fun n os => run_Ld24 (range_id (p := some s) (hM.grn ⟨n, os, rfl⟩).self) rfl
  have r4 : ∀ n os, (Ld 24 ⟨tb, 0, none⟩).run Ybaz.prog (grow (w1.drewN n) os) = .ok (.agg (idv t)) (grow (w1.drewN n) os) := fun n os => run_Ld24 (hT.grn ⟨n, os, rfl⟩).range rfl
  have c1 : ∀ n os, (grow (w1.drewN n) os).cell? ⟨mb, 0, none⟩ = some (.pointer (some ⟨M, 0, none⟩)) := fun n os => (hB.grn ⟨n, os, rfl⟩).cell 0
  have c2 : ∀ n os, (grow (w1.drewN n) os).cell? ⟨kb, 0, none⟩ = some v := fun n os => (hK.grn ⟨n, os, rfl⟩).box.cell 0
  have gg : ∀ n os, Grn w1 (grow (w1.drewN n) os) := fun n os => ⟨n, os, rfl⟩
  have hbz := bd26z
  have hnz : ∀ W, (binOp .neq 26 (.agg (pv (some x))) (.agg (pv none))).run Ybaz.prog W = .ok (.bool true) W := fun W => by rw [neq_peer]; rfl
  have k1 := inside_any x s t
  have k2 := fun n os => contains_any (w := grow (w1.drewN n) os) (hK.grn ⟨n, os, rfl⟩).own.row x (Nat.le_trans hl (by decide))
  rw [hp] at k1
  rw [hp2] at k2
  obtain ⟨i26, hi, hz, hsz, hby⟩ := info26x
  have HK : Aside (Known w1 kb base v ks) := hK
  have HL : Aside (ks.length ≤ 100000) := hl
  have HH : Aside (IsBlk w1 w.heap.size (pv (some x)) 26) := h1
  have HV : Aside (∀ b, v.ownBlock = some b → b < w.heap.size) := fun b e => (own_base hk.own e).2
  clear h hb ht h1 hM hB hT hK hp hp2 hl hk
  go_enter Ybaz.func25, Ybaz.ntmps25
  go_wp2_with fail
  clear hw1
  refine wp_region_quiet_grown mixedY (by kernel_rfl) ?_
  repeat (first | go_big_quiet_skip | quiet_step (first | (go_at_call 26; refine Calls.grown_of (k1 _)) | (go_at_call 27; refine Calls.grown_of (k2 _ _))))
  refine wpQuiet_nil ?_
  intro _ hw'
  obtain ⟨⟨nq, osq⟩, hw''⟩ := hw'
  subst hw''
  have g2 := gg nq osq
  have KK : Aside (Known (grow (w1.drewN nq) osq) kb base v ks) := HK.out.grn g2
  have rr := r1 nq osq
  have cc := c2 nq osq
  have hs2 : w.heap.size < (grow (w1.drewN nq) osq).heap.size := (HH.out.grn g2).lt
  generalize grow (w1.drewN nq) osq = w2 at g2 KK rr cc hs2 ⊢
  have HS : Aside (w.heap.size < w2.heap.size) := hs2
  clear r1 r2 r3 r4 c1 c2 k1 k2 gg hs2 hnz hbz
  have hbs := bs29 (some x) w2
  have OW : Aside ((w2.alloc (.cells (pv (some x)) 26)).ownsRow base 26 21 v ks.length (flat ks)) := World.ownsRow.alloc KK.out.own _
  have NW : Aside (∀ j u, (pv (some x)).toList[j]? = some u → (w2.alloc (.cells (pv (some x)) 26)).cell? ((⟨w2.heap.size, 0, none⟩ : Addr).add j) = some u) := fun j u hu => by
    rw [Addr.add_mid]
    exact (IsBlk.new w2 (pv (some x)) 26).range j u hu
  have N1 : Aside (∀ u ∈ (pv (some x)).toList, u.oneCell' = true) := fun u hu => (Array.all_eq_true_iff_forall_mem.1 (pv_one (some x))) u (by simpa using hu)
  have B1 : Aside (ks.length + 1 ≤ maxLen) := by have := HL.out; show ks.length + 1 ≤ maxLen; simp only [maxLen]; omega
  have B2 : Aside ((ks.length + 1) * 40 ≤ 140737488355328) := by have := HL.out; show (ks.length + 1) * 40 ≤ 140737488355328; omega
  have B3 : Aside (base ≤ (w2.alloc (.cells (pv (some x)) 26)).heap.size) := by show base ≤ _; have := KK.out.base_le; simp; omega
  have HF : Aside (∀ w' : World, (w2.alloc (.cells (pv (some x)) 26)).grownBy w' v.ownBlock → w'.cell? ⟨kb, 0, none⟩ = some v ∧ w'.frozen? ⟨kb, 0, none⟩ = false) := fun w' hg => by
    have hkb : IsBlk w' kb #[v] 29 := (KK.out.box.grn ((Grn.refl w2).alloc _)).turn (Turn.of_grownBy hg) (fun e => by
      have := (own_base KK.out.own e).1
      have := KK.out.kb_lt
      omega)
    exact ⟨hkb.cell 0, hkb.frozen 0⟩
  go_wp2_with (at_builtin; refine wpList_append_where _ rfl _ _ 29 rfl base 26 i26 _ 21 40 Ybaz.underlying29 hi hz hsz hby rfl (by decide) v ks.length (flat ks) rfl OW.out ⟨w2.heap.size, 0, none⟩ 1 1 (pv (some x)).toList rfl rfl NW.out N1.out B1.out B2.out B3.out ?_; intro v5 w5 hown5 hgr5 hwh5; obtain ⟨G5, c5, rfl⟩ := owns_succ hown5; obtain ⟨q5, f5⟩ := HF.out w5 hgr5)
  go_end0
  have hO5 : Own w5 base (.slice (some ⟨G5, 0, none⟩) (ks.length + 1) c5) (ks ++ [x]) := by
    show w5.ownsRow base 26 21 _ (ks ++ [x]).length (flat (ks ++ [x]))
    rw [List.length_append, List.length_singleton, flat_snoc]
    exact hown5
  have hb5 := own_base hO5 (b := G5) rfl
  have hkb5 : IsBlk w5 kb #[v] 29 := (KK.out.box.grn ((Grn.refl w2).alloc _)).turn (Turn.of_grownBy hgr5) (fun e => by
      have := (own_base KK.out.own e).1
      have := KK.out.kb_lt
      omega)
  have t1 : Turn (fun k => k = kb ∨ v.ownBlock = some k) w w5 := (Turn.of_grew ((hG.trans g2).trans ((Grn.refl w2).alloc (.cells (pv (some x)) 26))).grew).then (Turn.of_grownBy hgr5) (fun _ _ e => .inr e)
  have hkl := KK.out.kb_lt
  refine ⟨rfl, .slice (some ⟨G5, 0, none⟩) (ks.length + 1) c5, ⟨?_, ?_, hkl, ?_⟩, t1.setCell (p := ⟨kb, 0, none⟩) (.inl (.inl rfl)) _, ?_⟩
  · have := hkb5.set 0 (.slice (some ⟨G5, 0, none⟩) (ks.length + 1) c5)
    simpa using this
  · exact owns_turn hO5 (Turn.set1 w5 kb 0 _) (fun b e => by
      have := (own_base hO5 e).1
      omega)
  · have h5 : w2.heap.size ≤ w5.heap.size := by have := hgr5.size; simp at this; omega
    have := KK.out.base_le
    simp [World.setCell]
    omega
  · intro b e
    rcases hwh5 b e with e' | e'
    · exact .inl e'
    · right
      have := HS.out
      simp at e'
      omega
end

/-- 'consider', whatever it is shown. -/
theorem consider_any {w : World} {M mb tb kb base : Nat} {s t : UInt8} {pred : Option UInt8} {succ : UInt8} {nv : Value} {C : Array Value} {v : Value} {ks : List UInt8} (h : Mem w M s pred succ nv C) (hb : IsBlk w mb #[.pointer (some ⟨M, 0, none⟩)] 30) (ht : IsBlk w tb (idv t) 24)
    (hk : Known w kb base v ks) (hl : ks.length ≤ 100000) (p : Option UInt8) :
    Calls Ybaz.prog 25 #[.agg (pv p), .pointer (some ⟨mb, 0, none⟩), .pointer (some ⟨tb, 0, none⟩), .pointer (some ⟨kb, 0, none⟩)] w fun e w' => e = .returned (.tuple #[]) ∧ ∃ v', Known w' kb base v' (addO s t ks p) ∧ Turn (fun k => k = kb ∨ v.ownBlock = some k) w w' ∧ (∀ b, v'.ownBlock = some b → v.ownBlock = some b ∨ w.heap.size ≤ b) := by
  have skip : (∀ x, p = some x → (ins x s t && !ks.contains x) = false) → addO s t ks p = ks → _ := fun h1 h2 => (consider_skip h hb ht hk (Nat.le_trans hl (by decide)) p h1).mono (R' := fun e w' => e = .returned (.tuple #[]) ∧ ∃ v', Known w' kb base v' (addO s t ks p) ∧ Turn (fun k => k = kb ∨ v.ownBlock = some k) w w' ∧ (∀ b, v'.ownBlock = some b → v.ownBlock = some b ∨ w.heap.size ≤ b)) fun e w' ⟨he, hg⟩ => ⟨he, v, (by rw [h2]; exact hk.grn hg), Turn.of_grew hg.grew, fun b e => .inl e⟩
  cases p with
  | none => exact skip (fun x e => by cases e) rfl
  | some x =>
    cases hq : ins x s t && !ks.contains x with
    | false => exact skip (fun y e => by cases e; exact hq) (by simp only [addO, addK, hq]; rfl)
    | true =>
      simp only [Bool.and_eq_true, Bool.not_eq_true'] at hq
      have := consider_add h hb ht hk hl x hq.1 hq.2
      have e : addO s t ks (some x) = ks ++ [x] := by simp only [addO, addK, hq.1, hq.2]; rfl
      rw [e]
      exact this
end Go.Proofs.YbulkdevoGreat
