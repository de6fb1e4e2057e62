/- The model of the law: its arc, its table of who is present. -/
import Derived.Test.YbulkdevoGreatQ11
namespace Go.Proofs.YbulkdevoGreat
open Go.RowKit Go.Sort
set_option linter.unusedVariables false
set_option linter.unusedSimpArgs false

theorem wrap_sub (x a : UInt8) : IntKind.u8.wrap ((x.toNat : Int) - (a.toNat : Int)) = ((x - a).toNat : Int) := by
  have h1 := u8_lt256 x; have h2 := u8_lt256 a
  rw [u8_sub]
  simp only [IntKind.wrap, IntKind.bits, IntKind.signed]
  simp
  omega
theorem wrap_add (x a : UInt8) : IntKind.u8.wrap ((x.toNat : Int) + (a.toNat : Int)) = ((x + a).toNat : Int) := by
  have h1 := u8_lt256 x; have h2 := u8_lt256 a
  rw [u8_add]
  simp only [IntKind.wrap, IntKind.bits, IntKind.signed]
  simp

set_option maxRecDepth 100000 in
theorem mbetween_any (x a b : UInt8) (w : World) : Calls Ybaz.prog 14 #[.int .u8 x.toNat, .int .u8 a.toNat, .int .u8 b.toNat] w fun e w' => e = .returned (.bool (mbtw x a b)) ∧ w' = w := by
  have h1 := wrap_sub x a
  have h2 := wrap_sub b a
  have H : Aside (mbtw x a b = if (a.toNat : Int) = b.toNat then true else decide (0 < ((x - a).toNat : Int)) && decide (((x - a).toNat : Int) ≤ ((b - a).toNat : Int))) := by
    show mbtw x a b = _
    unfold mbtw
    by_cases h : a = b
    · subst h; simp
    · have h' : ¬ (a.toNat : Int) = b.toNat := fun e => h ((u8_eq _ _).2 (by omega))
      rw [if_neg h, if_neg h']
      simp [u8_lt, u8_le]
  generalize (x - a).toNat = u at h1 H
  generalize (b - a).toNat = v at h2 H
  by_cases e : (a.toNat : Int) = b.toNat
  · go_enter Ybaz.func14, Ybaz.ntmps14
    go_wp2_with fail
    go_ret
    refine ⟨?_, rfl⟩
    rw [H.out, if_pos e]
    rfl
  · have E : Aside (¬ (a.toNat : Int) = b.toNat) := e
    by_cases e1 : 0 < (u : Int)
    · by_cases e2 : (u : Int) ≤ v
      all_goals
        go_enter Ybaz.func14, Ybaz.ntmps14
        go_wp2_with fail
        go_ret
        refine ⟨?_, rfl⟩
        rw [H.out, if_neg E.out]
        simp_all
    · go_enter Ybaz.func14, Ybaz.ntmps14
      go_wp2_with fail
      go_ret
      refine ⟨?_, rfl⟩
      rw [H.out, if_neg E.out]
      simp_all

/-- The table: which distances from s are met in xs. -/
def prOf (s : UInt8) (xs : List UInt8) : Array Value := ((List.range 256).map fun d => Value.bool (xs.contains (s + UInt8.ofNat d))).toArray
theorem prOf_size (s : UInt8) (xs : List UInt8) : (prOf s xs).size = 256 := by simp [prOf]
theorem prOf_get (s : UInt8) (xs : List UInt8) (d : Nat) (hd : d < 256) : (prOf s xs)[d]? = some (.bool (xs.contains (s + UInt8.ofNat d))) := by
  simp [prOf, hd]
theorem prz : ((List.range 256).map fun _ => Value.bool false).toArray = Ybaz.zeroCells101 := by kernel_rfl
theorem prOf_nil (s : UInt8) : prOf s [] = Ybaz.zeroCells101 := by
  refine Eq.trans ?_ prz
  simp only [prOf, List.contains_nil]
theorem prOf_set (s : UInt8) (xs : List UInt8) (x : UInt8) : (prOf s xs).setIfInBounds (x - s).toNat (.bool true) = prOf s (xs ++ [x]) := by
  apply Array.ext_getElem?
  intro d
  rw [Array.getElem?_setIfInBounds]
  by_cases hd : d < 256
  · rw [prOf_get s _ d hd, prOf_get s _ d hd]
    by_cases e : (x - s).toNat = d
    · rw [if_pos e, if_pos (by rw [prOf_size, e]; exact hd)]
      have : s + UInt8.ofNat d = x := by rw [← e, dist_add]
      rw [this]
      simp
    · rw [if_neg e]
      congr 2
      have hne : s + UInt8.ofNat d ≠ x := fun h => e (by rw [← h, add_sub_dist s d hd])
      rw [Bool.eq_iff_iff]
      simp [hne]
  · have h1 : (prOf s xs)[d]? = none := by simp [prOf_size]; omega
    have h2 : (prOf s (xs ++ [x]))[d]? = none := by simp [prOf_size]; omega
    rw [h1, h2, if_neg (by have := u8_lt256 (x - s); omega)]

/-- The bytes xs lie at a. -/
def U8 (w : World) (a : Option Addr) (xs : List UInt8) : Prop := ∀ i x, xs[i]? = some x → ∃ b o, a = some ⟨b, o, none⟩ ∧ b < w.heap.size ∧ w.cell? ⟨b, o + i, none⟩ = some (.int .u8 x.toNat)
theorem U8.turn {w w' : World} {a : Option Addr} {xs : List UInt8} (h : U8 w a xs) {T : Nat → Prop} (k : Turn T w w') (hT : ∀ b, b < w.heap.size → ¬ T b) : U8 w' a xs := fun i x hx => by
  obtain ⟨b, o, e, hb, hc⟩ := h i x hx
  exact ⟨b, o, e, Nat.lt_of_lt_of_le hb k.size, (k.cell hb (hT b hb)).trans hc⟩
/-- .. where the blocks that turn all lie at or above an elder world's end. -/
theorem U8.above {w0 w w' : World} {a : Option Addr} {xs : List UInt8} (h0 : U8 w0 a xs) (h : Turn (fun k => w0.heap.size ≤ k) w0 w') : U8 w' a xs := h0.turn h (fun b hb => by omega)
end Go.Proofs.YbulkdevoGreat
