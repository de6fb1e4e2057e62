/- The variables of the law, laid; errors compared; rows read out. -/
import Derived.Test.YbulkdevoGreatQ20
import Derived.LaidEqlPtr
namespace Go.Proofs.YbulkdevoGreat
open Go.RowKit Go.Sort
set_option linter.unusedVariables false
set_option linter.unusedSimpArgs false

theorem eql_err (b : Nat) (w : World) : (binOp .eql 66 (.iface 88 (.pointer (some ⟨b, 0, none⟩))) (.iface 88 (.pointer (some ⟨b, 0, none⟩)))).run Ybaz.prog w = .ok (.bool true) w := by
  obtain ⟨i88, h88⟩ : ∃ i, Ybaz.prog.info? 88 = some i := Option.isSome_iff_exists.1 (by kernel_rfl)
  obtain ⟨i90, h90⟩ : ∃ i, Ybaz.prog.info? 90 = some i := Option.isSome_iff_exists.1 (by kernel_rfl)
  have hc : i88.comparable = true := by
    have : (Ybaz.prog.info? 88).map (·.comparable) = some true := by kernel_rfl
    rw [h88] at this
    simpa using this
  have h : ∀ d : Nat, (Op.equalIn (d + 2) 66 (.iface 88 (.pointer (some ⟨b, 0, none⟩))) (.iface 88 (.pointer (some ⟨b, 0, none⟩)))).run Ybaz.prog w = .ok true w := fun d => by
    simp [Op.equalIn, run_underlying Ybaz.underlying66, run_underlying Ybaz.underlying88, sizeOf, typeInfo, h88, h90, hc, run_sameAddr_same]
  simp only [binOp]
  simp [Op.equal, Op.maxDepth, h 9998]

theorem eql_nil29 (w : World) : (binOp .eql 29 (.slice none 0 0) (.slice none 0 0)).run Ybaz.prog w = .ok (.bool true) w := by
  have h : ∀ d : Nat, (Op.equalIn (d + 1) 29 (.slice none 0 0) (.slice none 0 0)).run Ybaz.prog w = .ok true w := fun d => by
    simp [Op.equalIn, run_underlying Ybaz.underlying29]
  simp only [binOp]
  simp [Op.equal, Op.maxDepth, h 9999]

/-- The member and the variable that holds it, in whichever order they were laid. -/
theorem born1 {w V : World} {Z : Array Value} (h : Grn w V) : IsBlk ((V.alloc (.cells Z 74)).alloc (.cells #[.pointer (some ⟨V.heap.size, 0, none⟩)] 30)) (V.heap.size + 1) #[.pointer (some ⟨V.heap.size, 0, none⟩)] 30 ∧ IsBlk ((V.alloc (.cells Z 74)).alloc (.cells #[.pointer (some ⟨V.heap.size, 0, none⟩)] 30)) V.heap.size Z 74
    ∧ w.heap.size ≤ V.heap.size ∧ w.heap.size ≤ V.heap.size + 1 ∧ V.heap.size ≠ V.heap.size + 1 ∧ Grew w ((V.alloc (.cells Z 74)).alloc (.cells #[.pointer (some ⟨V.heap.size, 0, none⟩)] 30)) := by
  have hs := h.grew.size
  exact ⟨(by
    have := IsBlk.new (V.alloc (.cells Z 74)) #[.pointer (some ⟨V.heap.size, 0, none⟩)] 30
    rwa [show (V.alloc (.cells Z 74)).heap.size = V.heap.size + 1 by simp] at this), (IsBlk.new V Z 74).grn ((Grn.refl _).alloc _), hs, by omega, by omega, ((h.alloc _).alloc _).grew⟩
theorem born2 {w V : World} {Z : Array Value} (h : Grn w V) : IsBlk ((V.alloc (.cells #[.pointer (some ⟨V.heap.size + 1, 0, none⟩)] 30)).alloc (.cells Z 74)) V.heap.size #[.pointer (some ⟨V.heap.size + 1, 0, none⟩)] 30 ∧ IsBlk ((V.alloc (.cells #[.pointer (some ⟨V.heap.size + 1, 0, none⟩)] 30)).alloc (.cells Z 74)) (V.heap.size + 1) Z 74
    ∧ w.heap.size ≤ V.heap.size + 1 ∧ w.heap.size ≤ V.heap.size ∧ V.heap.size + 1 ≠ V.heap.size ∧ Grew w ((V.alloc (.cells #[.pointer (some ⟨V.heap.size + 1, 0, none⟩)] 30)).alloc (.cells Z 74)) := by
  have hs := h.grew.size
  exact ⟨(IsBlk.new V _ 30).grn ((Grn.refl _).alloc _), (by
    have := IsBlk.new (V.alloc (.cells #[.pointer (some ⟨V.heap.size + 1, 0, none⟩)] 30)) Z 74
    rwa [show (V.alloc (.cells #[.pointer (some ⟨V.heap.size + 1, 0, none⟩)] 30)).heap.size = V.heap.size + 1 by simp] at this), by omega, hs, by omega, ((h.alloc _).alloc _).grew⟩
theorem born3 {w X V : World} {Z : Array Value} (hx : Grn w X) (hj : Grn (X.alloc (.cells #[.pointer none] 30)) V) : IsBlk ((V.alloc (.cells Z 74)).setCell ⟨X.heap.size, 0, none⟩ (.pointer (some ⟨V.heap.size, 0, none⟩))) X.heap.size #[.pointer (some ⟨V.heap.size, 0, none⟩)] 30 ∧ IsBlk ((V.alloc (.cells Z 74)).setCell ⟨X.heap.size, 0, none⟩ (.pointer (some ⟨V.heap.size, 0, none⟩))) V.heap.size Z 74
    ∧ w.heap.size ≤ V.heap.size ∧ w.heap.size ≤ X.heap.size ∧ V.heap.size ≠ X.heap.size ∧ Grew w ((V.alloc (.cells Z 74)).setCell ⟨X.heap.size, 0, none⟩ (.pointer (some ⟨V.heap.size, 0, none⟩))) := by
  have h1 := hx.grew.size
  have h2 := ((IsBlk.new X #[.pointer none] 30).grn hj).lt
  have hb : IsBlk (V.alloc (.cells Z 74)) X.heap.size #[.pointer none] 30 := ((IsBlk.new X #[.pointer none] 30).grn hj).grn ((Grn.refl _).alloc _)
  have ts := Turn.set1 (V.alloc (.cells Z 74)) X.heap.size 0 (.pointer (some ⟨V.heap.size, 0, none⟩))
  refine ⟨?_, (IsBlk.new V Z 74).turn ts (by omega), by omega, h1, by omega, ((((hx.alloc _).trans hj).alloc (.cells Z 74)).grew).then ts (fun i hi e => by omega)⟩
  have := hb.set 0 (.pointer (some ⟨V.heap.size, 0, none⟩))
  simpa using this

/-- The seven blocks that the law lays behind the member. -/
def lay7 (w : World) (k : Int) : World := ((((((w.alloc (.cells #[.string ⟨#[122, 122]⟩] 90)).alloc (.cells #[.iface 88 (.pointer (some ⟨w.heap.size, 0, none⟩))] 66)).alloc (.cells #[.int .u8 k] 5)).alloc (.cells #[.int .i64 0] 3)).alloc (.cells #[.int .i64 0] 3)).alloc (.cells #[.string ⟨#[]⟩] 9)).alloc (.cells #[.nilIface] 66)

theorem isBlk_at {w : World} {b : Nat} {cs : Array Value} {t : TypeId} (hb : w.heap.size = b) : IsBlk (w.alloc (.cells cs t)) b cs t := hb ▸ IsBlk.new w cs t

theorem lay7_boxes {w : World} {M mb : Nat} (k : Int) (hm : IsBlk w mb #[.pointer (some ⟨M, 0, none⟩)] 30) (hM : M ≠ mb) (hl : M < w.heap.size) :
    Grn w (lay7 w k) ∧ Boxes (lay7 w k) M mb (w.heap.size + 1) (w.heap.size + 2) (w.heap.size + 3) (w.heap.size + 4) (w.heap.size + 5) (w.heap.size + 6) (.iface 88 (.pointer (some ⟨w.heap.size, 0, none⟩))) k 0 0 ⟨#[]⟩ := by
  have hG : Grn w (lay7 w k) := (((((((Grn.refl w).alloc _).alloc _).alloc _).alloc _).alloc _).alloc _).alloc _
  have hml := hm.lt
  refine ⟨hG, ⟨hm.grn hG, ?_, ?_, ?_, ?_, ?_, ?_, by omega⟩⟩
  · exact (isBlk_at (by simp)).grn ((((((Grn.refl _).alloc _).alloc _).alloc _).alloc _).alloc _)
  · exact (isBlk_at (by simp)).grn (((((Grn.refl _).alloc _).alloc _).alloc _).alloc _)
  · exact (isBlk_at (by simp)).grn ((((Grn.refl _).alloc _).alloc _).alloc _)
  · exact (isBlk_at (by simp)).grn (((Grn.refl _).alloc _).alloc _)
  · exact (isBlk_at (by simp)).grn ((Grn.refl _).alloc _)
  · exact isBlk_at (by simp)

theorem Row.len {w : World} {v : Value} {ks : List UInt8} (h : Row w v ks) : ∃ a c, v = .slice a ks.length c := by
  rcases h with ⟨a, c, rfl, rfl⟩ | ⟨g, o, c, rfl, _⟩
  · exact ⟨_, _, rfl⟩
  · exact ⟨_, _, rfl⟩
theorem Row.elem {w : World} {a : Option Addr} {n c : Nat} {ks : List UInt8} (h : Row w (.slice a n c) ks) {i : Nat} {x : UInt8} (hx : ks[i]? = some x) : ∃ g o, a = some ⟨g, o, none⟩ ∧ g < w.heap.size ∧ w.rangeAt g (o + i * 21) (pv (some x)).toList := by
  rcases h with ⟨_, _, _, rfl⟩ | ⟨g, o, c', hv, hg, hl⟩
  · simp at hx
  · simp only [Value.slice.injEq] at hv
    exact ⟨g, o, hv.1, hg, hl i x hx⟩
theorem stepL_length (s : UInt8) (p : Option UInt8) (succ t : UInt8) (f n : List UInt8) : (stepL s p succ t f n).length ≤ f.length + n.length + 1 := by
  unfold stepL
  split
  · simp
  · split
    · simp
    · have := known_length s t (f ++ succ :: n)
      simp [sorted] at this ⊢
      omega
end Go.Proofs.YbulkdevoGreat
