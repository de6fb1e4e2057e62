/- Ids compared. -/
import Derived.Test.YbulkdevoGreatQ2
import Derived.Lib.BytesEntry
import Derived.Laws.StructEq
namespace Go.Proofs.YbulkdevoGreat
open Go.RowKit Go.Sort
set_option linter.unusedVariables false
set_option linter.unusedSimpArgs false

/-- The bytes of an id, as numbers. -/
def idn (b : UInt8) : List Int := (b.toNat : Int) :: List.replicate 19 0
theorem idn_cells (b : UInt8) : (idv b).toList = (idn b).map (Value.int .u8 ·) := rfl

theorem bytesOf_slice (a : Addr) (n c : Nat) : Extern.Bytes.bytesOf (.slice (some a) n c) = Extern.Bytes.loadBytes a n .empty := rfl
theorem compare_two (a b : Value) : Extern.BytealgCompare.compare #[a, b] = (do pure (goInt (Extern.BytealgCompare.cmp (← Extern.Bytes.bytesOf a) (← Extern.Bytes.bytesOf b)))) := rfl
theorem idn_length (x : UInt8) : (idn x).length = 20 := rfl

theorem run_bytes_id {w : World} {b : Nat} {x : UInt8} (h : w.rangeAt b 0 (idv x).toList) (c : Nat) : (Extern.Bytes.bytesOf (.slice (some ⟨b, 0, none⟩) 20 c)).run Ybaz.prog w = .ok ⟨(Lib.bytesOf (idn x)).toArray⟩ w := by
  have := Lib.run_loadBytesX (P := Ybaz.prog) w (idn x) ⟨b, 0, none⟩ .empty (fun j v hv => by
    rw [Addr.add_mid, Nat.zero_add]
    have := h j (.int .u8 v) (by rw [idn_cells, List.getElem?_map, hv]; rfl)
    rwa [Nat.zero_add] at this)
  rw [idn_length] at this
  rw [bytesOf_slice, this]
  simp [ByteArray.empty, ByteArray.emptyWithCapacity]
  rfl

theorem compareBytes_id (x y : UInt8) : Lib.compareBytes (Lib.bytesOf (idn x)) (Lib.bytesOf (idn y)) = cmp8 x y := by
  have hx : Lib.bytesOf (idn x) = x :: List.replicate 19 0 := by simp [Lib.bytesOf, idn]
  have hy : Lib.bytesOf (idn y) = y :: List.replicate 19 0 := by simp [Lib.bytesOf, idn]
  rw [hx, hy]
  unfold Lib.compareBytes cmp8
  by_cases h1 : x < y
  · rw [if_pos h1, if_pos h1]
  · rw [if_neg h1, if_neg h1]
    by_cases h2 : y < x
    · rw [if_pos h2, if_neg (fun e => by subst e; exact absurd h2 (by simp))]
    · rw [if_neg h2, if_pos (by
        rw [u8_eq]; rw [u8_lt] at h1 h2; omega)]
      decide

theorem run_cmp_id {w : World} {b b' : Nat} {x y : UInt8} (h : w.rangeAt b 0 (idv x).toList) (h' : w.rangeAt b' 0 (idv y).toList) :
    (Extern.BytealgCompare.compare #[.slice (some ⟨b, 0, none⟩) 20 20, .slice (some ⟨b', 0, none⟩) 20 20]).run Ybaz.prog w = .ok (.int .i64 (cmp8 x y)) w := by
  rw [compare_two]
  simp only [Sem.run_bind, run_bytes_id h, run_bytes_id h', Result.andThen, Sem.run_pure, Lib.cmp_eq]
  rw [compareBytes_id]
  rfl

theorem call_cmp {w : World} {b b' : Nat} {x y : UInt8} (h : w.rangeAt b 0 (idv x).toList) (h' : w.rangeAt b' 0 (idv y).toList) :
    (callFunc 52 #[.slice (some ⟨b, 0, none⟩) 20 20, .slice (some ⟨b', 0, none⟩) 20 20]).run Ybaz.prog w = .ok (.value (.int .i64 (cmp8 x y))) w := by
  rw [run_callFunc_extern Ybaz.func52 (by kernel_rfl) (by kernel_rfl) (by kernel_rfl) (e := Extern.BytealgCompare.compare) (by kernel_rfl), run_cmp_id h h']
  rfl

set_option maxRecDepth 100000 in
theorem bytesCompare_any {w : World} {b b' : Nat} {x y : UInt8} (h : w.rangeAt b 0 (idv x).toList) (h' : w.rangeAt b' 0 (idv y).toList) :
    Calls Ybaz.prog 41 #[.slice (some ⟨b, 0, none⟩) 20 20, .slice (some ⟨b', 0, none⟩) 20 20] w fun e w' => e = .returned (.int .i64 (cmp8 x y)) ∧ w' = w := by
  have hc := call_cmp h h'
  clear h h'
  go_enter Ybaz.func41, Ybaz.ntmps41
  go_wp2_with fail
  go_ret
  exact ⟨rfl, rfl⟩

section
attribute [local go_sem ↓] fold_ld24 fold_st24
set_option maxRecDepth 100000 in
theorem compare_any (x y : UInt8) (w : World) : Calls Ybaz.prog 24 #[.agg (idv x), .agg (idv y)] w fun e w' => e = .returned (.int .i64 (cmp8 x y)) ∧ Grn w w' := by
  have hG : Grn w ((w.alloc (.cells (idv x) 24)).alloc (.cells (idv y) 24)) := ((Grn.refl w).alloc _).alloc _
  have h1 : IsBlk ((w.alloc (.cells (idv x) 24)).alloc (.cells (idv y) 24)) w.heap.size (idv x) 24 := heap_alloc2_old w _ _
  have h2 : IsBlk ((w.alloc (.cells (idv x) 24)).alloc (.cells (idv y) 24)) (w.heap.size + 1) (idv y) 24 := heap_alloc2_new w _ _
  generalize hw1 : (w.alloc (.cells (idv x) 24)).alloc (.cells (idv y) 24) = w1 at hG h1 h2
  have r1 : ∀ n, (w1.drewN n).rangeAt w.heap.size 0 (idv x).toList := fun n => h1.range
  have r2 : ∀ n, (w1.drewN n).rangeAt (w.heap.size + 1) 0 (idv y).toList := fun n => h2.range
  clear h1 h2
  go_enter Ybaz.func24, Ybaz.ntmps24
  go_wp2_with fail
  clear hw1
  go_quiet (first | (go_at_call 41; exact Calls.quiet_of_same (bytesCompare_any (r1 _) (r2 _))))
  go_wp2_with fail
  go_ret
  exact ⟨rfl, hG.drewN _⟩

theorem mixedY : Ybaz.prog.follows .mixedOrders = true := by kernel_rfl

theorem boxes3 (w : World) (A B C : Array Value) (t : TypeId) : Grn w (((w.alloc (.cells A t)).alloc (.cells B t)).alloc (.cells C t)) ∧ IsBlk (((w.alloc (.cells A t)).alloc (.cells B t)).alloc (.cells C t)) w.heap.size A t
    ∧ IsBlk (((w.alloc (.cells A t)).alloc (.cells B t)).alloc (.cells C t)) (w.heap.size + 1) B t ∧ IsBlk (((w.alloc (.cells A t)).alloc (.cells B t)).alloc (.cells C t)) (w.heap.size + 2) C t := by
  refine ⟨(((Grn.refl w).alloc _).alloc _).alloc _, (IsBlk.new w A t).grn (((Grn.refl _).alloc _).alloc _), ?_, ?_⟩
  · have := (IsBlk.new (w.alloc (.cells A t)) B t).grn ((Grn.refl _).alloc (.cells C t))
    rwa [show (w.alloc (.cells A t)).heap.size = w.heap.size + 1 by simp] at this
  · have := IsBlk.new ((w.alloc (.cells A t)).alloc (.cells B t)) C t
    rwa [show ((w.alloc (.cells A t)).alloc (.cells B t)).heap.size = w.heap.size + 2 by simp] at this

theorem btw_cmp (x a b : UInt8) : btw x a b = if cmp8 a b = -1 then decide (cmp8 a x < 0) && decide (cmp8 x b ≤ 0) else if cmp8 a b = 1 then decide (cmp8 a x < 0) || decide (cmp8 x b ≤ 0) else true := by
  have lt : ∀ u v : UInt8, (cmp8 u v < 0) = (u < v) := fun u v => by
    unfold cmp8
    by_cases h : u < v
    · simp [h]
    · by_cases h2 : u = v <;> simp [h, h2]
  have le : ∀ u v : UInt8, (cmp8 u v ≤ 0) = (u ≤ v) := fun u v => by
    unfold cmp8
    by_cases h : u < v
    · simp [h]; rw [u8_le]; rw [u8_lt] at h; omega
    · by_cases h2 : u = v
      · simp [h2]
      · simp [h, h2]; rw [u8_lt]; rw [u8_lt] at h; rw [u8_eq] at h2; omega
  simp only [lt, le]
  unfold btw
  by_cases h : a = b
  · subst h; simp [cmp8]
  · by_cases h2 : a < b
    · simp [h, h2, cmp8]
    · simp [h, h2, cmp8]

theorem cmpUp_cmp (s x y : UInt8) : cmpUp s x y = if 0 < cmp8 x s ∧ ¬ 0 < cmp8 y s then -1 else if 0 < cmp8 y s ∧ ¬ 0 < cmp8 x s then 1 else cmp8 x y := by
  have gt : ∀ u v : UInt8, (0 < cmp8 u v) = (v < u) := fun u v => by
    unfold cmp8
    by_cases h : u < v
    · simp [h]; rw [u8_le]; rw [u8_lt] at h; omega
    · by_cases h2 : u = v
      · simp [h2]
      · simp [h, h2]; rw [u8_lt]; rw [u8_lt] at h; rw [u8_eq] at h2; omega
  simp only [gt]
  rfl

set_option maxRecDepth 100000 in
theorem between_any (x a b : UInt8) (w : World) : Calls Ybaz.prog 19 #[.agg (idv x), .agg (idv a), .agg (idv b)] w fun e w' => e = .returned (.bool (btw x a b)) ∧ Grn w w' := by
  obtain ⟨hG, h1, h2, h3⟩ := boxes3 w (idv x) (idv a) (idv b) 24
  generalize hw1 : ((w.alloc (.cells (idv x) 24)).alloc (.cells (idv a) 24)).alloc (.cells (idv b) 24) = w1 at hG h1 h2 h3
  have r1 : ∀ W, Grn w1 W → (Ld 24 ⟨w.heap.size, 0, none⟩).run Ybaz.prog W = .ok (.agg (idv x)) W := fun W h => run_Ld24 (h1.grn h).range rfl
  have r2 : ∀ W, Grn w1 W → (Ld 24 ⟨w.heap.size + 1, 0, none⟩).run Ybaz.prog W = .ok (.agg (idv a)) W := fun W h => run_Ld24 (h2.grn h).range rfl
  have r3 : ∀ W, Grn w1 W → (Ld 24 ⟨w.heap.size + 2, 0, none⟩).run Ybaz.prog W = .ok (.agg (idv b)) W := fun W h => run_Ld24 (h3.grn h).range rfl
  have g1 : Grn w1 w1 := Grn.refl w1
  have k1 := compare_any a b
  have k2 := compare_any a x
  have k3 := compare_any x b
  rw [btw_cmp]
  clear h1 h2 h3
  generalize cmp8 a b = c1 at k1 ⊢
  generalize cmp8 a x = c2 at k2 ⊢
  generalize cmp8 x b = c3 at k3 ⊢
  by_cases e1 : c1 = -1
  · subst e1
    by_cases e2 : c2 < 0
    · by_cases e3 : c3 ≤ 0
      all_goals
        go_enter Ybaz.func19, Ybaz.ntmps19
        go_wp2_with fail
        refine (k1 _).mono ?_
        rintro e w2 ⟨rfl, j2⟩
        have g2 : Grn w1 w2 := g1.trans j2
        go_wp2_with fail
        refine (k2 _).mono ?_
        rintro e w3 ⟨rfl, j3⟩
        have g3 : Grn w1 w3 := g2.trans j3
        go_wp2_with fail
        refine (k3 _).mono ?_
        rintro e w4 ⟨rfl, j4⟩
        have g4 : Grn w1 w4 := g3.trans j4
        go_wp2_with fail
        go_ret
        exact ⟨by first | (simp [e2, e3]; done) | (simp; omega), hG.trans g4⟩
    · go_enter Ybaz.func19, Ybaz.ntmps19
      go_wp2_with fail
      refine (k1 _).mono ?_
      rintro e w2 ⟨rfl, j2⟩
      have g2 : Grn w1 w2 := g1.trans j2
      go_wp2_with fail
      refine (k2 _).mono ?_
      rintro e w3 ⟨rfl, j3⟩
      have g3 : Grn w1 w3 := g2.trans j3
      go_wp2_with fail
      go_ret
      exact ⟨by first | (simp [e2]; done) | (simp; omega), hG.trans g3⟩
  · by_cases e1' : c1 = 1
    · subst e1'
      by_cases e2 : c2 < 0
      · go_enter Ybaz.func19, Ybaz.ntmps19
        go_wp2_with fail
        refine (k1 _).mono ?_
        rintro e w2 ⟨rfl, j2⟩
        have g2 : Grn w1 w2 := g1.trans j2
        go_wp2_with fail
        refine (k2 _).mono ?_
        rintro e w3 ⟨rfl, j3⟩
        have g3 : Grn w1 w3 := g2.trans j3
        go_wp2_with fail
        go_ret
        exact ⟨by first | (simp [e2]; done) | (simp; omega), hG.trans g3⟩
      · by_cases e3 : c3 ≤ 0
        all_goals
          go_enter Ybaz.func19, Ybaz.ntmps19
          go_wp2_with fail
          refine (k1 _).mono ?_
          rintro e w2 ⟨rfl, j2⟩
          have g2 : Grn w1 w2 := g1.trans j2
          go_wp2_with fail
          refine (k2 _).mono ?_
          rintro e w3 ⟨rfl, j3⟩
          have g3 : Grn w1 w3 := g2.trans j3
          go_wp2_with fail
          refine (k3 _).mono ?_
          rintro e w4 ⟨rfl, j4⟩
          have g4 : Grn w1 w4 := g3.trans j4
          go_wp2_with fail
          go_ret
          exact ⟨by first | (simp [e2, e3]; done) | (simp; omega), hG.trans g4⟩
    · go_enter Ybaz.func19, Ybaz.ntmps19
      go_wp2_with fail
      refine (k1 _).mono ?_
      rintro e w2 ⟨rfl, j2⟩
      have g2 : Grn w1 w2 := g1.trans j2
      go_wp2_with fail
      go_ret
      exact ⟨by simp [e1, e1'], hG.trans g2⟩

set_option maxRecDepth 100000 in
theorem compareUp_any (s x y : UInt8) (w : World) : Calls Ybaz.prog 31 #[.agg (idv s), .agg (idv x), .agg (idv y)] w fun e w' => e = .returned (.int .i64 (cmpUp s x y)) ∧ Grn w w' := by
  obtain ⟨hG, h1, h2, h3⟩ := boxes3 w (idv s) (idv x) (idv y) 24
  generalize hw1 : ((w.alloc (.cells (idv s) 24)).alloc (.cells (idv x) 24)).alloc (.cells (idv y) 24) = w1 at hG h1 h2 h3
  have r1 : ∀ W, Grn w1 W → (Ld 24 ⟨w.heap.size, 0, none⟩).run Ybaz.prog W = .ok (.agg (idv s)) W := fun W h => run_Ld24 (h1.grn h).range rfl
  have r2 : ∀ W, Grn w1 W → (Ld 24 ⟨w.heap.size + 1, 0, none⟩).run Ybaz.prog W = .ok (.agg (idv x)) W := fun W h => run_Ld24 (h2.grn h).range rfl
  have r3 : ∀ W, Grn w1 W → (Ld 24 ⟨w.heap.size + 2, 0, none⟩).run Ybaz.prog W = .ok (.agg (idv y)) W := fun W h => run_Ld24 (h3.grn h).range rfl
  have gg : ∀ n os, Grn w1 (grow (w1.drewN n) os) := fun n os => ⟨n, os, rfl⟩
  have k1 := compare_any x s
  have k2 := compare_any y s
  have k3 := compare_any x y
  rw [cmpUp_cmp]
  clear h1 h2 h3
  generalize cmp8 x s = c1 at k1 ⊢
  generalize cmp8 y s = c2 at k2 ⊢
  generalize cmp8 x y = c3 at k3 ⊢
  go_enter Ybaz.func31, Ybaz.ntmps31
  go_wp2_with fail
  clear hw1
  have mixed : Ybaz.prog.follows .mixedOrders = true := mixedY
  go_quiet_grown (first | (go_at_call 24; refine Calls.grown_of (k1 _)) | (go_at_call 24; refine Calls.grown_of (k2 _)))
  have g1 : Grn w1 (grow (w1.drewN nq) osq) := gg _ _
  generalize grow (w1.drewN nq) osq = w2 at g1 ⊢
  by_cases e1 : 0 < c1 <;> by_cases e2 : 0 < c2
  · go_wp2_with fail
    refine (k3 _).mono ?_
    rintro e w3 ⟨rfl, j3⟩
    go_wp2_with fail
    go_ret
    exact ⟨by simp [e1, e2], hG.trans (g1.trans j3)⟩
  · go_wp2_with fail
    go_ret
    exact ⟨by first | (simp [e1, e2]; done) | (simp; omega), hG.trans g1⟩
  · go_wp2_with fail
    go_ret
    exact ⟨by first | (simp [e1, e2]; done) | (simp; omega), hG.trans g1⟩
  · go_wp2_with fail
    refine (k3 _).mono ?_
    rintro e w3 ⟨rfl, j3⟩
    go_wp2_with fail
    go_ret
    exact ⟨by first | (simp [e1, e2]; done) | (simp; omega), hG.trans (g1.trans j3)⟩
end
end Go.Proofs.YbulkdevoGreat
