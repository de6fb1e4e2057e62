/- The states, and a request of one's own; an insert of another's. -/
import Derived.Test.YbulkdetkGreatDoorB15
namespace Go.Proofs.YbulkdetkGreatDoor
open Go.RowKit
set_option linter.unusedVariables false
set_option linter.unusedSimpArgs false

/-- What the table holds: nothing, or T's lock of mode m and gap g. -/
def St (N X L T : Nat) (has : Bool) (m : Nat) (g : Bool) (w : World) : Prop :=
  (has = false ∧ m = 0 ∧ g = false ∧ Free L T w) ∨ (has = true ∧ ∃ Q G cap b clk v, HeldBy N X L T m g Q G cap b clk v w)

theorem St.stays (N X L T : Nat) (has : Bool) (m : Nat) (g : Bool) : Stays (St N X L T has m g) := by
  intro u u' P t ht hk k h
  rcases h with ⟨h1, h2, h3, clk, h4, h5⟩ | ⟨h1, Q, G, cap, b, clk, v, hH⟩
  · refine .inl ⟨h1, h2, h3, clk, h4.turn k (hk.notMap h4), h5.turn k (hk.notTxn h5 (by rcases ht with rfl | rfl <;> decide))⟩
  · refine .inr ⟨h1, Q, G, cap, b, clk, v, hH.turn k hk ?_ ?_ ?_ ?_⟩ <;> (rcases ht with rfl | rfl <;> decide)
theorem St.grew {N X L T : Nat} {has : Bool} {m : Nat} {g : Bool} {w w' : World} (h : St N X L T has m g w) (k : Grew w w') : St N X L T has m g w' := (St.stays N X L T has m g).grew k h

theorem joinb_zero_left (m : Nat) : joinb 0 m = m := by
  simp [joinb, covb]
  intro h
  rcases h with h | h <;> omega

/-- The state behind a request. -/
def stepHas (has : Bool) (m : Nat) (g : Bool) (m' : Nat) (g' i' : Bool) : Bool := if !i' && !(covb m m' && (g || !g')) then true else has
def stepM (m : Nat) (g : Bool) (m' : Nat) (g' i' : Bool) : Nat := if !i' && !(covb m m' && (g || !g')) then joinb m m' else m
def stepG (m : Nat) (g : Bool) (m' : Nat) (g' i' : Bool) : Bool := if !i' && !(covb m m' && (g || !g')) then g || g' else g

/-- A request of T's own: granted; it reports what T held. -/
theorem try_own (N X A L M cM T : Nat) (has : Bool) (m : Nat) (g : Bool) (m' : Nat) (g' i' : Bool) (w : World) (hB : Base N X A L M cM T 0 w) (hS : St N X L T has m g w) (hm : m < 5) (hm' : m' < 5) :
    Calls Ybaz.prog 7 #[.pointer (some ⟨A, 0, none⟩), .pointer (some ⟨T, 0, none⟩), (.agg #[.string { data := #[116] }, .bool false, .int .u8 0, .int .i64 0, .string { data := #[] }]), .agg #[.int .u8 m', .bool g', .bool i']] w fun e w' => e = .returned (.tuple #[.agg #[.int .u8 m, .bool g, .bool false], .bool true]) ∧ Base N X A L M cM T 0 w' ∧ Turn (Own N X) w w' ∧ Keeps w w' ∧ St N X L T (stepHas has m g m' g' i') (stepM m g m' g' i') (stepG m g m' g' i') w' := by
  refine try_any N X A L M cM T T m' g' i' m g true w hB (St N X L T has m g) _ (St.stays N X L T has m g) (St.stays N X L T _ _ _) hS ?_
  intro w1 hB1 hS1
  have same : ∀ w', Grew w1 w' → (!i' && !(covb m m' && (g || !g'))) = false → Base N X A L M cM T 1 w' ∧ Turn (Own N X) w1 w' ∧ Keeps w1 w' ∧ St N X L T (stepHas has m g m' g' i') (stepM m g m' g' i') (stepG m g m' g' i') w' := by
    intro w' hg he
    refine ⟨hB1.grew hg, Turn.of_grew hg, Keeps.of_grew hg, ?_⟩
    unfold stepHas stepM stepG
    rw [he]
    simpa using hS1.grew hg
  rcases hS1 with ⟨rfl, rfl, rfl, hF⟩ | ⟨rfl, Q, G, cap, b, clk, v, hH⟩
  · cases i' with
    | true =>
      refine (ga_free_ins N X A L M cM T T 1 m' g' w1 hB1 hF hm').mono ?_
      rintro e w' ⟨⟨qv, rfl⟩, hB', hF', t'⟩
      obtain ⟨ck, hck, _⟩ := hF
      refine ⟨⟨qv, rfl⟩, hB', t'.mono (fun k _ e => e ▸ hB1.ol), Keeps.of_map t' hck, ?_⟩
      exact .inl ⟨by simp [stepHas], by simp [stepM], by simp [stepG], hF'⟩
    | false =>
      cases hc : (covb 0 m' && (false || !g')) with
      | true =>
        refine (ga_free_cov N X A L M cM T T 1 m' g' false w1 hB1 hF hm' (by simpa using hc)).mono ?_
        rintro e w' ⟨⟨qv, rfl⟩, hg⟩
        exact ⟨⟨qv, rfl⟩, same w' hg (by rw [hc]; rfl)⟩
      | false =>
        refine (ga_free_first N X A L M cM T 1 m' g' w1 hB1 hF hm' (by simpa using hc)).mono ?_
        rintro e w' ⟨⟨qv, rfl⟩, hB', hH', t'⟩
        obtain ⟨ck, hck, cs, hbT, h19⟩ := hF
        refine ⟨⟨qv, rfl⟩, hB', t'.mono (fun k _ e => by rcases e with e | e; exact e ▸ hB1.ol; exact e ▸ hB1.ot), ?_, ?_⟩
        · intro k cs' t h1 h2 h3 hb
          refine hb.turn t' (fun e => ?_)
          rcases e with e | e
          · exact hck.ne hb e.symm
          · exact IsBlk.ne hb hbT h1 e
        · refine .inr ⟨by unfold stepHas; rw [hc]; rfl, ?_⟩
          have e1 : stepM 0 false m' g' false = m' := by unfold stepM; rw [hc]; simp [joinb_zero_left]
          have e2 : stepG 0 false m' g' false = g' := by unfold stepG; rw [hc]; simp
          rw [e1, e2]
          exact hH'
  · have hP := PEq.same w1 T
    cases hc : (!i' && (covb m m' && (g || !g'))) with
    | true =>
      refine (ga_held_cov N X A L M cM T T Q G cap b clk v 1 m' g' i' m m g g true w1 hB1 hH hP (by simp) (by simp) hm hm' (by rw [Bool.and_assoc]; exact hc)).mono ?_
      rintro e w' ⟨⟨qv, rfl⟩, hg⟩
      refine ⟨⟨qv, rfl⟩, same w' hg ?_⟩
      revert hc
      generalize (covb m m' && (g || !g')) = z
      cases i' <;> cases z <;> simp
    | false =>
      cases i' with
      | true =>
        refine (ga_held_ins N X A L M cM T T Q G cap b clk v 1 m' g' m m g g true w1 hB1 hH hP (by simp) (by simp) hm hm' (fun w2 h2 => blocks_same A Q G cap T m' m g' true g w2 (hH.hold.grew h2))).mono ?_
        rintro e w' ⟨⟨qv, rfl⟩, hg⟩
        exact ⟨⟨qv, rfl⟩, same w' hg (by simp)⟩
      | false =>
        have hc' : (covb m m' && (g || !g')) = false := by simpa using hc
        refine (ga_held_more N X A L M cM T Q G cap b clk v 1 m' g' m m g g true w1 hB1 hH hP (by simp) (by simp) hm hm' hm (by rw [Bool.and_assoc]; exact hc)).mono ?_
        rintro e w' ⟨⟨qv, rfl⟩, hB', hH', t'⟩
        have hGk : Kind w1 101 (· = G) := fun j hj => by
          obtain ⟨cs, hb, _⟩ := hH.hold.row
          exact ⟨cs, hj ▸ hb⟩
        refine ⟨⟨qv, rfl⟩, hB', t'.mono (fun k _ e => e ▸ hH.og), Keeps.of_kind t' hGk (by simp), .inr ⟨by unfold stepHas; rw [hc']; rfl, ?_⟩⟩
        have e1 : stepM m g m' g' false = joinb m m' := by unfold stepM; rw [hc']; rfl
        have e2 : stepG m g m' g' false = (g || g') := by unfold stepG; rw [hc']; rfl
        rw [e1, e2]
        exact ⟨Q, G, cap, b, clk, v, hH'⟩

/-- An insert of another's: granted just where no gap is held; nothing has turned. -/
theorem try_other (N X A L M cM T : Nat) (has : Bool) (m : Nat) (g : Bool) (m' : Nat) (g' : Bool) (w : World) (hB : Base N X A L M cM T 0 w) (hS : St N X L T has m g w) (hX : Txn w X (.slice none 0 0)) (hm : m < 5) (hm' : m' < 5) :
    Calls Ybaz.prog 7 #[.pointer (some ⟨A, 0, none⟩), .pointer (some ⟨X, 0, none⟩), (.agg #[.string { data := #[116] }, .bool false, .int .u8 0, .int .i64 0, .string { data := #[] }]), .agg #[.int .u8 m', .bool g', .bool true]] w fun e w' => e = .returned (.tuple #[.agg #[.int .u8 0, .bool false, .bool false], .bool (!g)]) ∧ Base N X A L M cM T 0 w' ∧ Turn (Own N X) w w' ∧ Keeps w w' ∧ (St N X L T has m g w' ∧ Txn w' X (.slice none 0 0)) := by
  have hSt : Stays (fun w => St N X L T has m g w ∧ Txn w X (.slice none 0 0)) := by
    intro u u' P t ht hk k h
    exact ⟨St.stays _ _ _ _ _ _ _ u u' P t ht hk k h.1, h.2.turn k (hk.notTxn h.2 (by rcases ht with rfl | rfl <;> decide))⟩
  have ht := try_any N X A L M cM T X m' g' true 0 false (!g) w hB (fun w => St N X L T has m g w ∧ Txn w X (.slice none 0 0)) (fun w => St N X L T has m g w ∧ Txn w X (.slice none 0 0)) hSt hSt ⟨hS, hX⟩
  refine ht ?_
  rintro w1 hB1 ⟨hS1, hX1⟩
  rcases hS1 with ⟨rfl, rfl, rfl, hF⟩ | ⟨rfl, Q, G, cap, b, clk, v, hH⟩
  · refine (ga_free_ins N X A L M cM T X 1 m' g' w1 hB1 hF hm').mono ?_
    rintro e w' ⟨⟨qv, rfl⟩, hB', hF', t'⟩
    obtain ⟨ck, hck, _⟩ := hF
    refine ⟨⟨qv, rfl⟩, hB', t'.mono (fun k _ e => e ▸ hB1.ol), Keeps.of_map t' hck, .inl ⟨rfl, rfl, rfl, hF'⟩, hX1.turn t' (fun e => hB1.ol.2 e.symm)⟩
  · have hP : PEq w1 T X false := by
      obtain ⟨cs, hb, _⟩ := hH.txn
      obtain ⟨cs', hb', _⟩ := hX1
      exact PEq.other hB1.ot.2 hb hb'
    cases g with
    | true =>
      refine (ga_held_block N X A L M cM T X Q G cap b clk v 1 m' g' m 0 true false false w1 hB1 hH hP (by simp) (by simp) (by decide) hm' (fun w2 h2 => blocks_insert A X Q G cap T m' m g' true w2 (hH.hold.grew h2) (hP.grew h2))).mono ?_
      rintro e w' ⟨⟨qv, rfl⟩, hg⟩
      exact ⟨⟨qv, rfl⟩, hB1.grew hg, Turn.of_grew hg, Keeps.of_grew hg, .inr ⟨rfl, Q, G, cap, b, clk, v, hH.grew hg⟩, hX1.grew hg⟩
    | false =>
      refine (ga_held_ins N X A L M cM T X Q G cap b clk v 1 m' g' m 0 false false false w1 hB1 hH hP (by simp) (by simp) (by decide) hm' (fun w2 h2 => blocks_insert A X Q G cap T m' m g' false w2 (hH.hold.grew h2) (hP.grew h2))).mono ?_
      rintro e w' ⟨⟨qv, rfl⟩, hg⟩
      exact ⟨⟨qv, rfl⟩, hB1.grew hg, Turn.of_grew hg, Keeps.of_grew hg, .inr ⟨rfl, Q, G, cap, b, clk, v, hH.grew hg⟩, hX1.grew hg⟩
end Go.Proofs.YbulkdetkGreatDoor
