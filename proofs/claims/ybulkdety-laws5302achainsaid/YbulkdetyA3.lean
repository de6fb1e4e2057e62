import Derived.Test.YbulkdetyA2
import Derived.Test.YbulkdetyC1
namespace Go.Proofs.Ybulkdety
open Go.RowKit

/-- What 'fill' leaves behind k rounds: the first k of the eight cells from ⟨P, o⟩ on are written where 'tops' reaches so far; all else is as it was. -/
structure Filled (P o len off k : Nat) (g : Nat → Int) (w w' : World) : Prop where
  below : Below P w w'
  size : w'.heap.size = w.heap.size
  blk : ∀ k, k ≠ P → w'.heap[k]? = w.heap[k]?
  typ : ∀ cs t, IsBlk w P cs t → ∃ cs', IsBlk w' P cs' t
  frz : ∀ b i, w'.frozen? ⟨b, i, none⟩ = w.frozen? ⟨b, i, none⟩
  other : ∀ b i, (b ≠ P ∨ i < o ∨ o + 8 ≤ i) → w'.cell? ⟨b, i, none⟩ = w.cell? ⟨b, i, none⟩
  here : ∀ c, c < 8 → w'.cell? ⟨P, o + c, none⟩ = if c < k ∧ off + c < len then some (.int .u8 (g (off + c))) else w.cell? ⟨P, o + c, none⟩

theorem Filled.start (P o len off : Nat) (g : Nat → Int) (w : World) : Filled P o len off 0 g w w :=
  ⟨Below.refl _ _, rfl, fun _ _ => rfl, fun cs _ h => ⟨cs, h⟩, fun _ _ => rfl, fun _ _ _ => rfl, fun c _ => by rw [if_neg (by omega)]⟩

theorem Filled.skip {P o len off k : Nat} {g : Nat → Int} {w w' : World} (h : Filled P o len off k g w w') (hk : ¬ off + k < len) : Filled P o len off (k + 1) g w w' :=
  ⟨h.below, h.size, h.blk, h.typ, h.frz, h.other, fun c hc => by
    rw [h.here c hc]
    by_cases e : c = k
    · subst e; rw [if_neg (by omega), if_neg (by omega)]
    · by_cases e2 : c < k ∧ off + c < len
      · rw [if_pos e2, if_pos (by omega)]
      · rw [if_neg e2, if_neg (by omega)]⟩

theorem Filled.put {P o len off k : Nat} {g : Nat → Int} {w w' : World} (h : Filled P o len off k g w w') (hk : off + k < len) (hk8 : k < 8) {u : Value} (hu : w'.cell? ⟨P, o + k, none⟩ = some u) :
    Filled P o len off (k + 1) g w ((w'.setCell ⟨P, o + k, none⟩ (.int .u8 (g (off + k)))).drew) := by
  refine ⟨(h.below.setCell (p := ⟨P, o + k, none⟩) (Nat.le_refl _) _).drew, ?_, ?_, ?_, ?_, ?_, ?_⟩
  · rw [← h.size]; simp [World.setCell, World.drew]
  · intro k hk; rw [← h.blk k hk]; exact Below.heap_setCell _ _ _ _ hk
  · intro cs t hb
    obtain ⟨cs', hb'⟩ := h.typ cs t hb
    exact ⟨_, (hb'.set _ _).same rfl⟩
  · intro b i; rw [← h.frz b i]; simp
  · intro b i hb
    rw [← h.other b i hb]
    exact World.cell?_setCell_other _ _ _ _ (by simp; omega)
  · intro c hc
    by_cases e : c = k
    · subst e
      rw [if_pos (by omega)]
      exact World.cell?_setCell_same _ _ _ hu
    · have h1 : ((w'.setCell ⟨P, o + k, none⟩ (.int .u8 (g (off + k)))).drew).cell? ⟨P, o + c, none⟩ = w'.cell? ⟨P, o + c, none⟩ := World.cell?_setCell_other _ _ _ _ (by simp <;> omega)
      rw [h1, h.here c hc]
      by_cases e2 : c < k ∧ off + c < len
      · rw [if_pos e2, if_pos (by omega)]
      · rw [if_neg e2, if_neg (by omega)]

set_option maxHeartbeats 400000 in
theorem fill_any (N P o : Nat) (a : Option Addr) (len cap off : Nat) (g : Nat → Int) (w : World) (hT : Tops N w a len g) (hoff : off ≤ 1000000) (hlen : len ≤ 1000000)
    (hc : ∀ c, c < 8 → ∃ v : Int, w.cell? ⟨P, o + c, none⟩ = some (.int .u8 v)) (hf : ∀ c, c < 8 → w.frozen? ⟨P, o + c, none⟩ = false) (hne : N ≤ P) :
    Calls Yba.prog 6 #[.pointer (some ⟨P, o, none⟩), .slice a len cap, .int .i64 off] w fun e w' => e = .returned (.tuple #[]) ∧ Filled P o len off 8 g w w' := by
  obtain ⟨hg, hT⟩ := hT
  go_enter Yba.func6, Yba.ntmps6
  go_wp2
  go_loopw [6] (fun c wr => ∃ k : Nat, k ≤ 8 ∧ c = .int .i64 k ∧ Filled P o len off k g w wr) (fun c _ => 8 - (intOf c).toNat)
  case atStart => exact ⟨0, by omega, rfl, Filled.start ..⟩
  case round =>
    obtain ⟨k, hk, rfl, hF⟩ := hrel
    by_cases hlt : k < 8
    · by_cases hin : off + k < len
      · rcases hT with h0 | ⟨b, ot, rfl, hb, hcell⟩
        · omega
        have hbP : b ≠ P := by omega
        have hcl : wr.cell? ⟨b, ot + (off + k), none⟩ = some (.int .u8 (g (off + k))) := (hF.other b _ (Or.inl hbP)).trans (hcell (off + k) hin)
        obtain ⟨v, hv⟩ := hc k hlt
        have hv' : wr.cell? ⟨P, o + k, none⟩ = some (.int .u8 v) := by rw [hF.here k hlt, if_neg (by omega)]; exact hv
        have hfz : wr.frozen? ⟨P, o + k, none⟩ = false := (hF.frz _ _).trans (hf k hlt)
        have hgk := hg (off + k)
        have hF' := hF.put hin hlt hv'
        have HF : Hid (Filled P o len off (k + 1) g w ((wr.setCell ⟨P, o + k, none⟩ (.int .u8 (g (off + k)))).drew)) := hF'
        clear hcell hg hF hF' hne hc hf hv
        go_wp2
        go_region
        all_goals
          go_wp2
          go_roundw
          case rel => exact ⟨k + 1, by omega, by go_num, HF.out⟩
          case measure => simp [intOf]; omega
      · have HF : Hid (Filled P o len off (k + 1) g w wr) := hF.skip hin
        clear hT hg hF hne hc hf
        go_wp2
        go_roundw
        case rel => exact ⟨k + 1, by omega, by go_num, HF.out⟩
        case measure => simp [intOf]; omega
    · obtain rfl : k = 8 := by omega
      have HF : Hid (Filled P o len off 8 g w wr) := hF
      clear hT hg hF hne hc hf
      go_wp2
      go_end0
      exact ⟨rfl, HF.out⟩
end Go.Proofs.Ybulkdety
