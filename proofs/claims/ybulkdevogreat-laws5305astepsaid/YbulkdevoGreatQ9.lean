/- The sort of the known peers: slices.SortFunc by its contract. -/
import Derived.Test.YbulkdevoGreatQ8
import Derived.Test.YbulkdevoGreatShelf
import Derived.Shelf.SlSortCmp.NoneTotal
namespace Go.Proofs.YbulkdevoGreat
open Go.Shelf Go.RowKit Go.Lib Go.Sort
set_option linter.unusedVariables false
set_option linter.unusedSimpArgs false

def encP (x : UInt8) : List Value := (pv (some x)).toList
theorem encP_length (x : UInt8) : (encP x).length = 21 := by simp [encP, pv_size]
theorem encP_one (x : UInt8) : ∀ v ∈ encP x, v.oneCell' = true := fun u hu => (Array.all_eq_true_iff_forall_mem.1 (pv_one (some x))) u (by simpa [encP] using hu)

theorem turn_sort (w : World) (blk off m : Nat) (dk : Array UInt8) (os : Array Obj) : Turn (· = blk) w (sortWorldK encP 21 w blk off m dk os) := by
  refine ⟨rfl, rfl, rfl, ?_, ?_⟩
  · simp [sortWorldK, putRowK, putRow, mapBlock, ahead]
  · intro k hk hne
    have h1 : k < (putRowK encP 21 (Sort.ahead w m) blk off dk).heap.size := by simpa [putRowK, putRow, mapBlock, ahead] using hk
    rw [sortWorldK, heap_grow_old _ _ h1]
    simp only [putRowK, putRow, mapBlock, ahead, Array.getElem?_modify]
    rw [if_neg (fun e => hne e.symm)]
    rfl

theorem ltOf_cf (s a b : UInt8) : ltOf (cf s) a b = decide (up s b < up s a) := by rw [← cf_lt]; rfl
theorem swo_cf (s : UInt8) : SWO (ltOf (cf s)) :=
  ⟨fun x => by rw [ltOf_cf]; simp, fun x y z h1 h2 => by rw [ltOf_cf] at *; simp at *; omega, fun x y z h1 h2 => by rw [ltOf_cf] at *; simp at *; omega⟩
theorem tot_cf (s : UInt8) : ∀ x y, ltOf (cf s) x y = false → ltOf (cf s) y x = false → x = y := fun x y h1 h2 => by
  rw [ltOf_cf] at h1 h2
  have h3 := u8_lt256 s; have h4 := u8_lt256 x; have h5 := u8_lt256 y
  simp only [decide_eq_false_iff_not, up, u8_sub, UInt8.reduceToNat] at h1 h2
  rw [u8_eq]
  omega

theorem holds_of {w : World} {g : Nat} {ks : List UInt8} (h : w.rangeAt g 0 (flat ks)) (ht : w.there g 0 (ks.length * 21)) : HoldsK encP 21 w g 0 ks.toArray := by
  intro j hj
  rw [size_flatK] at hj
  simp only [List.size_toArray] at hj
  rw [get_flatK _ _ _ _ (by simpa using hj)]
  refine ⟨?_, (ht j hj).2⟩
  have hq : j / 21 < ks.length := by omega
  have hr : j % 21 < 21 := Nat.mod_lt _ (by omega)
  have hx : ks[j / 21]? = some ks[j / 21] := List.getElem?_eq_getElem hq
  have hv : (pv (some ks[j / 21])).toList[j % 21]? = some ((pv (some ks[j / 21])).toList[j % 21]'(by simpa [pv_size] using hr)) := List.getElem?_eq_getElem _
  have := h j _ (by
    have := flat_get ks (j / 21) _ hx (j % 21) _ hv
    rwa [show j / 21 * 21 + j % 21 = j by omega] at this)
  rw [this]
  congr 1
  rw [show (id (encP (ks.toArray)[j / 21]!)[j % 21]!) = (encP (ks.toArray)[j / 21]!)[j % 21]! from rfl]
  rw [getElem!_pos ks.toArray (j / 21) (by simpa using hq)]
  rw [getElem!_pos _ (j % 21) (by simpa [encP, pv_size] using hr)]
  rfl

theorem lies_of_holds {w : World} {g : Nat} {d : Array UInt8} (h : HoldsK encP 21 w g 0 d) : Lies w g 0 d.toList := fun i x hx j v hv => by
  have hi : i < d.size := by simpa using (List.getElem?_eq_some_iff.1 hx).1
  have hj : j < 21 := by simpa [pv_size] using (List.getElem?_eq_some_iff.1 hv).1
  have h1 := (h.cell hi hj).1
  rw [h1]
  have e1 : d[i]! = x := by
    rw [getElem!_pos d i hi]
    have := (List.getElem?_eq_some_iff.1 hx).2
    simpa using this
  rw [e1]
  congr 1
  rw [getElem!_pos _ j (by simpa [encP, pv_size] using hj)]
  exact (List.getElem?_eq_some_iff.1 hv).2

/-- The sort of a row of peers by 'CompareUp' from s, the farthest first. -/
def sorted (s : UInt8) (ks : List UInt8) : List UInt8 := ks.mergeSort fun x y => !ltOf (cf s) y x

theorem sort_row {w : World} {M mb g cap : Nat} {s : UInt8} {pred : Option UInt8} {succ : UInt8} {nv : Value} {C : Array Value} {ks : List UInt8} (h : Mem w M s pred succ nv C) (hb : IsBlk w mb #[.pointer (some ⟨M, 0, none⟩)] 30)
    (hr : w.rangeAt g 0 (flat ks)) (ht : w.there g 0 (ks.length * 21)) (hg : g < w.heap.size) (hM : M ≠ g) (hmb : mb ≠ g) (hl : ks.length ≤ 100000) :
    Calls Ybaz.prog 29 #[.slice (some ⟨g, 0, none⟩) ks.length cap, .func (.func 30) #[] #[.pointer (some ⟨mb, 0, none⟩)]] w fun e w' => e = .returned (.tuple #[]) ∧ Lies w' g 0 (sorted s ks) ∧ Turn (· = g) w w' := by
  have eg : ∀ args w, (callFunc 30 args).run Ybaz.prog w = .ok (.enter 30 args) w := enters_of Ybaz.func30 (by kernel_rfl) rfl
  have hH := holds_of hr ht
  have hcmp : CmpLays Ybaz.prog 30 #[.pointer (some ⟨mb, 0, none⟩)] encP 21 (cf s) g 0 ks.toArray.size w := fun m os dk _ x y => by
    have := cmpclo (h.turn (turn_sort w g 0 m dk os) hM) (hb.turn (turn_sort w g 0 m dk os) hmb) x y
    exact this
  have hcon := AnyQ.slices_SortFunc_total Ybaz.sortPeer 21 Ybaz.isAgg26 Ybaz.sizeOf26 encP encP_length encP_one (cf s) (swo_cf s) 30 #[.pointer (some ⟨mb, 0, none⟩)] g 0 cap ks.toArray w eg hcmp hH hg (by simp; omega) (tot_cf s)
  change Calls Ybaz.prog 29 _ _ _ at hcon
  refine hcon.mono ?_
  rintro e w' ⟨rfl, n, os, rfl⟩
  refine ⟨rfl, ?_, turn_sort w g 0 n _ os⟩
  have h2 : HoldsK encP 21 (sortWorldK encP 21 w g 0 n (sorted s ks).toArray os) g 0 (sorted s ks).toArray := by
    refine holdsK_grow (enc := encP) (k := 21) _ os g 0 _ ?_ (holdsK_putRowK (enc := encP) (k := 21) _ g 0 ks.toArray _ (holdsK_ahead (enc := encP) (k := 21) w n g 0 _ hH) ?_)
    · simpa [putRowK, putRow, mapBlock, ahead] using hg
    · simp [sorted]
  exact lies_of_holds h2

theorem sort_none (a : Option Addr) (cap : Nat) (fv : Value) (w : World) : Calls Ybaz.prog 29 #[.slice a 0 cap, fv] w fun e w' => e = .returned (.tuple #[]) ∧ w' = w := by
  have := AnyF.slices_SortFunc_none (P := Ybaz.prog) Ybaz.sortPeer a cap fv w
  exact this
end Go.Proofs.YbulkdevoGreat
