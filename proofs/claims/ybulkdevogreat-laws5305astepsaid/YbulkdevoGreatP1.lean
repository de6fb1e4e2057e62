/- The plain law of a step: bytes on a circle of 256. No Go text. -/
namespace Go.Proofs.YbulkdevoGreat

/-- x on the arc from a, excluded, up to b, included; the whole circle where a = b. -/
def btw (x a b : UInt8) : Bool := if a = b then true else if a < b then decide (a < x) && decide (x ≤ b) else decide (a < x) || decide (x ≤ b)
/-- .. and b excluded. -/
def ins (x a b : UInt8) : Bool := x != b && btw x a b
/-- The model's word for the arc. -/
def mbtw (x a b : UInt8) : Bool := if a = b then true else decide (0 < x - a) && decide (x - a ≤ b - a)

theorem u8_lt (a b : UInt8) : a < b ↔ a.toNat < b.toNat := UInt8.lt_iff_toNat_lt
theorem u8_le (a b : UInt8) : a ≤ b ↔ a.toNat ≤ b.toNat := UInt8.le_iff_toNat_le
theorem u8_eq (a b : UInt8) : a = b ↔ a.toNat = b.toNat := ⟨fun h => by rw [h], fun h => UInt8.toNat_inj.1 h⟩
theorem u8_lt256 (a : UInt8) : a.toNat < 256 := a.toNat_lt
theorem u8_sub (a b : UInt8) : (a - b).toNat = (256 - b.toNat + a.toNat) % 256 := by rw [UInt8.toNat_sub]
theorem u8_add (a b : UInt8) : (a + b).toNat = (a.toNat + b.toNat) % 256 := by rw [UInt8.toNat_add]

theorem btw_eq (x a b : UInt8) : btw x a b = mbtw x a b := by
  have h1 := u8_lt256 x; have h2 := u8_lt256 a; have h3 := u8_lt256 b
  unfold btw mbtw
  by_cases h : a = b
  · rw [if_pos h, if_pos h]
  · have h' : a.toNat ≠ b.toNat := fun e => h ((u8_eq _ _).2 e)
    rw [if_neg h, if_neg h]
    rw [Bool.eq_iff_iff]
    by_cases hlt : a < b
    · rw [if_pos hlt]
      simp only [Bool.and_eq_true, decide_eq_true_eq, u8_lt, u8_le, u8_sub] at *
      simp only [UInt8.toNat_zero]
      omega
    · rw [if_neg hlt]
      simp only [Bool.and_eq_true, Bool.or_eq_true, decide_eq_true_eq, u8_lt, u8_le, u8_sub] at *
      simp only [UInt8.toNat_zero]
      omega

/-- How far up from s, 1 .. 256. -/
def up (s x : UInt8) : Nat := (x - s - 1).toNat

/-- The limit of the model: t's distance from s, 256 where it is 0. -/
def limOf (s t : UInt8) : Nat := if (t - s).toNat = 0 then 256 else (t - s).toNat

theorem ins_iff (x s t : UInt8) : ins x s t = true ↔ 1 ≤ (x - s).toNat ∧ (x - s).toNat < limOf s t := by
  have h1 := u8_lt256 x; have h2 := u8_lt256 s; have h3 := u8_lt256 t
  unfold ins
  rw [btw_eq]
  unfold mbtw limOf
  by_cases h : s = t
  · subst h
    have e : (s - s).toNat = 0 := by rw [u8_sub]; omega
    rw [if_pos rfl, if_pos e]
    simp only [Bool.and_true, bne_iff_ne, ne_eq, u8_eq, u8_sub]
    omega
  · have h' : s.toNat ≠ t.toNat := fun e => h ((u8_eq _ _).2 e)
    have e : ¬ (t - s).toNat = 0 := by rw [u8_sub]; omega
    rw [if_neg h, if_neg e]
    simp only [Bool.and_eq_true, decide_eq_true_eq, bne_iff_ne, ne_eq, u8_eq, u8_lt, u8_le, u8_sub, UInt8.toNat_zero] at *
    omega

/-- What 'consider' makes of the list. -/
def addK (s t : UInt8) (ks : List UInt8) (x : UInt8) : List UInt8 := if ins x s t && !ks.contains x then ks ++ [x] else ks
def knownOf (s t : UInt8) (xs : List UInt8) : List UInt8 := xs.foldl (addK s t) []

theorem knownOf_snoc (s t : UInt8) (xs : List UInt8) (x : UInt8) : knownOf s t (xs ++ [x]) = addK s t (knownOf s t xs) x := by
  simp [knownOf, List.foldl_append]

theorem mem_addK (s t : UInt8) (ks : List UInt8) (x y : UInt8) : y ∈ addK s t ks x ↔ y ∈ ks ∨ (y = x ∧ ins x s t = true) := by
  unfold addK
  cases h1 : ins x s t <;> cases h2 : ks.contains x <;> simp_all

theorem mem_foldl_addK (s t : UInt8) : ∀ (xs ks : List UInt8) (y : UInt8), y ∈ xs.foldl (addK s t) ks ↔ y ∈ ks ∨ (y ∈ xs ∧ ins y s t = true)
  | [], ks, y => by simp
  | x :: r, ks, y => by
    rw [List.foldl_cons, mem_foldl_addK s t r, mem_addK]
    constructor
    · rintro ((h | ⟨rfl, h⟩) | ⟨h, h'⟩)
      · exact .inl h
      · exact .inr ⟨List.mem_cons_self .., h⟩
      · exact .inr ⟨List.mem_cons_of_mem _ h, h'⟩
    · rintro (h | ⟨h, h'⟩)
      · exact .inl (.inl h)
      · rcases List.mem_cons.1 h with rfl | h
        · exact .inl (.inr ⟨rfl, h'⟩)
        · exact .inr ⟨h, h'⟩

theorem mem_knownOf (s t : UInt8) (xs : List UInt8) (y : UInt8) : y ∈ knownOf s t xs ↔ y ∈ xs ∧ ins y s t = true := by
  unfold knownOf
  rw [mem_foldl_addK]
  simp

/-- A peer that was considered already leaves the list as it is. -/
theorem addK_again (s t : UInt8) (xs : List UInt8) (x : UInt8) (h : x ∈ xs) : addK s t (knownOf s t xs) x = knownOf s t xs := by
  unfold addK
  cases h1 : ins x s t
  · simp
  · have : x ∈ knownOf s t xs := (mem_knownOf s t xs x).2 ⟨h, h1⟩
    simp [this]

theorem nodup_addK (s t : UInt8) (ks : List UInt8) (x : UInt8) (h : ks.Nodup) : (addK s t ks x).Nodup := by
  unfold addK
  split
  · rename_i hc
    simp at hc
    rw [List.nodup_append]
    refine ⟨h, by simp, ?_⟩
    intro a ha b hb e
    simp at hb
    subst hb; subst e
    exact hc.2 ha
  · exact h

theorem nodup_foldl_addK (s t : UInt8) : ∀ (xs ks : List UInt8), ks.Nodup → (xs.foldl (addK s t) ks).Nodup
  | [], _, h => h
  | x :: r, ks, h => nodup_foldl_addK s t r _ (nodup_addK s t ks x h)

theorem nodup_knownOf (s t : UInt8) (xs : List UInt8) : (knownOf s t xs).Nodup := nodup_foldl_addK s t xs [] List.nodup_nil

theorem length_addK_le (s t : UInt8) (ks : List UInt8) (x : UInt8) : (addK s t ks x).length ≤ ks.length + 1 := by
  unfold addK; split <;> simp

/-- The model's list behind n rounds of its loop, d from 255 down. -/
def outTo (s : UInt8) (pr : Nat → Bool) (lim : Nat) : Nat → List UInt8
  | 0 => []
  | n + 1 => outTo s pr lim n ++ if decide (255 - n < lim) && pr (255 - n) then [s + UInt8.ofNat (255 - n)] else []

theorem outTo_length (s : UInt8) (pr : Nat → Bool) (lim : Nat) : ∀ n, (outTo s pr lim n).length ≤ n
  | 0 => by simp [outTo]
  | n + 1 => by
    have := outTo_length s pr lim n
    unfold outTo
    split <;> simp <;> omega

theorem add_sub_dist (s : UInt8) (d : Nat) (hd : d < 256) : (s + UInt8.ofNat d - s).toNat = d := by
  have h2 := u8_lt256 s
  rw [u8_sub, u8_add, UInt8.toNat_ofNat']
  omega

theorem dist_add (s x : UInt8) : s + UInt8.ofNat (x - s).toNat = x := by
  have h1 := u8_lt256 x; have h2 := u8_lt256 s
  rw [u8_eq, u8_add, UInt8.toNat_ofNat', u8_sub]
  omega

theorem mem_outTo (s : UInt8) (pr : Nat → Bool) (lim : Nat) : ∀ n, n ≤ 255 → ∀ x, x ∈ outTo s pr lim n ↔ 255 - n < (x - s).toNat ∧ (x - s).toNat < lim ∧ pr (x - s).toNat = true
  | 0, _, x => by
    have := u8_lt256 (x - s)
    simp [outTo]; omega
  | n + 1, hn, x => by
    rw [outTo, List.mem_append, mem_outTo s pr lim n (by omega)]
    have hx := u8_lt256 (x - s)
    constructor
    · rintro (⟨h1, h2, h3⟩ | h)
      · exact ⟨by omega, h2, h3⟩
      · by_cases hc : (decide (255 - n < lim) && pr (255 - n)) = true
        · rw [if_pos hc] at h
          simp only [List.mem_singleton] at h
          subst h
          rw [add_sub_dist s _ (by omega)]
          simp only [Bool.and_eq_true, decide_eq_true_eq] at hc
          exact ⟨by omega, hc.1, hc.2⟩
        · rw [if_neg hc] at h
          cases h
    · rintro ⟨h1, h2, h3⟩
      by_cases e : (x - s).toNat = 255 - n
      · right
        rw [e] at h2 h3
        rw [if_pos (by simp [h2, h3]), ← e, dist_add]
        simp
      · exact .inl ⟨by omega, h2, h3⟩

/-- x comes farther round from s than y. -/
def farther (s x y : UInt8) : Prop := (y - s).toNat < (x - s).toNat

theorem pairwise_outTo (s : UInt8) (pr : Nat → Bool) (lim : Nat) : ∀ n, n ≤ 255 → (outTo s pr lim n).Pairwise (farther s)
  | 0, _ => by simp [outTo]
  | n + 1, hn => by
    rw [outTo, List.pairwise_append]
    refine ⟨pairwise_outTo s pr lim n (by omega), by split <;> simp, ?_⟩
    intro a ha b hb
    have ha := (mem_outTo s pr lim n (by omega) a).1 ha
    split at hb
    · simp only [List.mem_singleton] at hb
      subst hb
      unfold farther
      rw [add_sub_dist s _ (by omega)]
      exact ha.1
    · cases hb

theorem sorted_ext {α : Type} {R : α → α → Prop} (irr : ∀ x, ¬ R x x) (asym : ∀ x y, R x y → ¬ R y x) : ∀ l1 l2 : List α, l1.Pairwise R → l2.Pairwise R → (∀ x, x ∈ l1 ↔ x ∈ l2) → l1 = l2
  | [], [], _, _, _ => rfl
  | [], b :: r, _, _, h => by have := (h b).2 (List.mem_cons_self ..); cases this
  | a :: r, [], _, _, h => by have := (h a).1 (List.mem_cons_self ..); cases this
  | a :: r, b :: q, h1, h2, h => by
    rw [List.pairwise_cons] at h1 h2
    have hab : a = b := by
      rcases List.mem_cons.1 ((h a).1 (List.mem_cons_self ..)) with e | e
      · exact e
      · rcases List.mem_cons.1 ((h b).2 (List.mem_cons_self ..)) with e' | e'
        · exact e'.symm
        · exact absurd (h1.1 b e') (asym _ _ (h2.1 a e))
    subst hab
    congr 1
    refine sorted_ext irr asym r q h1.2 h2.2 fun x => ?_
    constructor
    · intro hx
      rcases List.mem_cons.1 ((h x).1 (List.mem_cons_of_mem _ hx)) with e | e
      · subst e; exact absurd (h1.1 x hx) (irr x)
      · exact e
    · intro hx
      rcases List.mem_cons.1 ((h x).2 (List.mem_cons_of_mem _ hx)) with e | e
      · subst e; exact absurd (h2.1 x hx) (irr x)
      · exact e

/-- What the comparison of two bytes gives. -/
def cmp8 (a b : UInt8) : Int := if a < b then -1 else if a = b then 0 else 1
/-- 'CompareUp(s, x, y)'. -/
def cmpUp (s x y : UInt8) : Int :=
  if s < x ∧ ¬ s < y then -1 else if s < y ∧ ¬ s < x then 1 else cmp8 x y
/-- The order of the sort: 'CompareUp(s, b, a)'. -/
def cf (s a b : UInt8) : Int := cmpUp s b a

theorem cf_lt (s a b : UInt8) : decide (cf s a b < 0) = decide (up s b < up s a) := by
  have h1 := u8_lt256 a; have h2 := u8_lt256 b; have h3 := u8_lt256 s
  rw [Bool.eq_iff_iff]
  unfold cf cmpUp cmp8 up
  simp only [decide_eq_true_eq, u8_lt, u8_eq, u8_sub, UInt8.reduceToNat] at *
  split
  · simp; omega
  · split
    · simp; omega
    · split
      · simp; omega
      · split <;> simp <;> omega

/-- The members of xs inside (s, t), each once, the farthest first: what the sort makes of the known is what the model's loop writes. -/
theorem sorted_eq_out (s t : UInt8) (xs : List UInt8) (lt : UInt8 → UInt8 → Bool) (hlt : ∀ a b, lt a b = decide (cf s a b < 0)) (pr : Nat → Bool) (hpr : ∀ d, d < 256 → pr d = xs.contains (s + UInt8.ofNat d)) :
    ((knownOf s t xs).mergeSort fun x y => !lt y x) = outTo s pr (limOf s t) 255 := by
  have key : ∀ x : UInt8, ins x s t = true → up s x = (x - s).toNat - 1 := fun x hx => by
    have := ((ins_iff x s t).1 hx).1
    have h1 := u8_lt256 x; have h3 := u8_lt256 s
    unfold up
    simp only [u8_sub, UInt8.reduceToNat] at *
    omega
  refine sorted_ext (R := farther s) (fun x h => Nat.lt_irrefl _ h) (fun x y h h' => Nat.lt_asymm h h') _ _ ?_ (pairwise_outTo _ _ _ _ (Nat.le_refl _)) ?_
  · have hs : ((knownOf s t xs).mergeSort fun x y => !lt y x).Pairwise fun x y => (!lt y x) = true := by
      refine List.pairwise_mergeSort ?_ ?_ _
      · intro a b c h1 h2
        simp only [hlt, cf_lt, Bool.not_eq_true', decide_eq_false_iff_not] at *
        omega
      · intro a b
        simp only [hlt, cf_lt, Bool.or_eq_true, Bool.not_eq_true', decide_eq_false_iff_not]
        omega
    have hn : ((knownOf s t xs).mergeSort fun x y => !lt y x).Nodup := (List.mergeSort_perm _ _).nodup_iff.2 (nodup_knownOf s t xs)
    have hm : ∀ x ∈ ((knownOf s t xs).mergeSort fun x y => !lt y x), ins x s t = true := fun x hx => ((mem_knownOf s t xs x).1 ((List.mergeSort_perm _ _).mem_iff.1 hx)).2
    generalize ((knownOf s t xs).mergeSort fun x y => !lt y x) = l at hs hn hm
    have : l.Pairwise fun x y => (!lt y x) = true ∧ x ≠ y := List.pairwise_and_iff.2 ⟨hs, hn⟩
    refine this.imp_of_mem ?_
    intro a b ha hb ⟨h1, h2⟩
    have ka := key a (hm a ha); have kb := key b (hm b hb)
    have pa := ((ins_iff a s t).1 (hm a ha)).1
    have pb := ((ins_iff b s t).1 (hm b hb)).1
    simp only [hlt, cf_lt, Bool.not_eq_true', decide_eq_false_iff_not] at h1
    have hne : (a - s).toNat ≠ (b - s).toNat := fun e => h2 (by rw [← dist_add s a, ← dist_add s b, e])
    unfold farther
    omega
  · intro x
    rw [(List.mergeSort_perm _ _).mem_iff, mem_knownOf, mem_outTo _ _ _ _ (Nat.le_refl _), ins_iff, hpr _ (u8_lt256 _), dist_add]
    simp only [List.contains_iff_mem]
    constructor
    · rintro ⟨h1, h2, h3⟩; exact ⟨by omega, h3, h1⟩
    · rintro ⟨h1, h2, h3⟩; exact ⟨h3, by omega, h2⟩

end Go.Proofs.YbulkdevoGreat
