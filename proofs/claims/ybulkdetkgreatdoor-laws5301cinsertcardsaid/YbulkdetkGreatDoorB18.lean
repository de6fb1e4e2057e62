/- The script, played. -/
import Derived.Test.YbulkdetkGreatDoorB17
import Derived.Deep.LoopGhost
namespace Go.Proofs.YbulkdetkGreatDoor
open Go.RowKit
set_option linter.unusedVariables false
set_option linter.unusedSimpArgs false

/-- The script in memory: below N. -/
def Ops (N : Nat) (w : World) (a : Option Addr) (len : Nat) (fm : Nat → Nat) (fg fi : Nat → Bool) : Prop :=
  (∀ k, fm k < 256) ∧ (len = 0 ∨ ∃ b off, a = some ⟨b, off, none⟩ ∧ b < N ∧ ∀ k, k < len → w.cell? ⟨b, off + k * 3, none⟩ = some (.int .u8 (fm k)) ∧ w.cell? ⟨b, off + k * 3 + 1, none⟩ = some (.bool (fg k)) ∧ w.cell? ⟨b, off + k * 3 + 2, none⟩ = some (.bool (fi k)))

/-- The state behind k requests. -/
def run (fm : Nat → Nat) (fg fi : Nat → Bool) : Nat → Bool × Nat × Bool
  | 0 => (false, 0, false)
  | k + 1 => (stepHas (run fm fg fi k).1 (run fm fg fi k).2.1 (run fm fg fi k).2.2 (fm k % 5) (fg k) (fi k), stepM (run fm fg fi k).2.1 (run fm fg fi k).2.2 (fm k % 5) (fg k) (fi k), stepG (run fm fg fi k).2.1 (run fm fg fi k).2.2 (fm k % 5) (fg k) (fi k))

theorem stepM_lt {m m' : Nat} {g g' i' : Bool} (hm : m < 5) (hm' : m' < 5) : stepM m g m' g' i' < 5 := by
  unfold stepM
  split
  · exact joinb_lt hm hm'
  · exact hm
theorem run_lt (fm : Nat → Nat) (fg fi : Nat → Bool) (k : Nat) : (run fm fg fi k).2.1 < 5 := by
  induction k with
  | zero => simp [run]
  | succ k ih => exact stepM_lt ih (Nat.mod_lt _ (by decide))

set_option maxRecDepth 100000 in
set_option maxHeartbeats 8000000 in
theorem run_walk (N X A L M cM T : Nat) (a : Option Addr) (len cap : Nat) (fm : Nat → Nat) (fg fi : Nat → Bool) (w : World) (hlen : len ≤ 1024) (hB : Base N X A L M cM T 0 w) (hS : St N X L T false 0 false w) (hO : Ops N w a len fm fg fi) :
    Calls Ybaz.prog 6 #[.pointer (some ⟨A, 0, none⟩), .pointer (some ⟨T, 0, none⟩), (.agg #[.string { data := #[116] }, .bool false, .int .u8 0, .int .i64 0, .string { data := #[] }]), .slice a len cap] w fun e w' =>
      e = .returned (.tuple #[.bool true, .int .u8 ((run fm fg fi len).2.1 : Nat), .bool (run fm fg fi len).2.2, .bool (run fm fg fi len).1]) ∧ Base N X A L M cM T 0 w' ∧ St N X L T (run fm fg fi len).1 (run fm fg fi len).2.1 (run fm fg fi len).2.2 w' ∧ Turn (Own N X) w w' ∧ Keeps w w' := by
  have hW : Grew w (w.alloc (.cells #[.string { data := #[116] }, .bool false, .int .u8 0, .int .i64 0, .string { data := #[] }] 69)) := (Turn.refl _ w).alloc _
  have b1 := IsBlk.new w #[.string { data := #[116] }, .bool false, .int .u8 0, .int .i64 0, .string { data := #[] }] 69
  have HB : Hid (Base N X A L M cM T 0 (w.alloc (.cells #[.string { data := #[116] }, .bool false, .int .u8 0, .int .i64 0, .string { data := #[] }] 69))) := hB.grew hW
  have HS : Hid (St N X L T false 0 false (w.alloc (.cells #[.string { data := #[116] }, .bool false, .int .u8 0, .int .i64 0, .string { data := #[] }] 69))) := hS.grew hW
  have hNn := hB.n
  obtain ⟨hf, hO⟩ := hO
  clear hS hB
  go_enter Ybaz.func6, Ybaz.ntmps6
  go_wp2_with fail
  go_loopw [12, 13, 14, 23] (fun hm hg hs i wr => ∃ k : Nat, k ≤ len ∧ i = .int .i64 k ∧ hm = .int .u8 ((run fm fg fi k).2.1 : Nat) ∧ hg = .bool (run fm fg fi k).2.2 ∧ hs = .bool (run fm fg fi k).1 ∧ Base N X A L M cM T 0 wr ∧ St N X L T (run fm fg fi k).1 (run fm fg fi k).2.1 (run fm fg fi k).2.2 wr ∧ IsBlk wr w.heap.size #[.string { data := #[116] }, .bool false, .int .u8 0, .int .i64 0, .string { data := #[] }] 69 ∧ Turn (Own N X) w wr ∧ Keeps w wr) (fun _ _ _ i _ => len - (intOf i).toNat)
  case atStart => exact ⟨0, by omega, rfl, rfl, rfl, rfl, HB.out, HS.out, b1, Turn.of_grew hW, Keeps.of_grew hW⟩
  case round =>
    obtain ⟨k, hk, rfl, rfl, rfl, rfl, hBr, hSr, hbr, hTr, hKr⟩ := hrel
    have hml := run_lt fm fg fi k
    obtain ⟨has, m, g, HST⟩ : ∃ has m g, run fm fg fi k = (has, m, g) := ⟨_, _, _, rfl⟩
    rw [HST] at hml hSr ⊢
    have HR : Hid (run fm fg fi (k + 1) = (stepHas has m g (fm k % 5) (fg k) (fi k), stepM m g (fm k % 5) (fg k) (fi k), stepG m g (fm k % 5) (fg k) (fi k))) := by
      show run fm fg fi (k + 1) = _
      simp only [run, HST]
    have HST' : Hid (run fm fg fi k = (has, m, g)) := HST
    clear HST
    dsimp only at hml hSr ⊢
    by_cases hlt : k < len
    · rcases hO with h0 | ⟨b, off, rfl, hb, hcell⟩
      · omega
      obtain ⟨u0, u1, u2⟩ := hcell k hlt
      have c0 := (hTr.cell (i := off + k * 3) (by omega : b < w.heap.size) (fun h => by have := h.1; omega)).trans u0
      have c1 := (hTr.cell (i := off + k * 3 + 1) (by omega : b < w.heap.size) (fun h => by have := h.1; omega)).trans u1
      have c2 := (hTr.cell (i := off + k * 3 + 2) (by omega : b < w.heap.size) (fun h => by have := h.1; omega)).trans u2
      have hfk := hf k
      obtain ⟨m', hm'⟩ : ∃ m', fm k % 5 = m' := ⟨_, rfl⟩
      rw [hm'] at HR
      have hm5 : m' < 5 := by omega
      have hmi : ((fm k : Int) % 5) = (m' : Nat) := by omega
      obtain ⟨gk, hgk⟩ : ∃ gk, fg k = gk := ⟨_, rfl⟩
      obtain ⟨ik, hik⟩ : ∃ ik, fi k = ik := ⟨_, rfl⟩
      rw [hgk] at HR c1
      rw [hik] at HR c2
      clear hm' hgk hik u0 u1 u2 hcell
      have HBr : Hid (Base N X A L M cM T 0 wr) := hBr
      have HSr : Hid (St N X L T has m g wr) := hSr
      have HTr : Hid (Turn (Own N X) w wr) := hTr
      have HKr : Hid (Keeps w wr) := hKr
      have t2 : Grew wr ((wr.alloc (.cells #[.int .u8 (fm k), .bool gk, .bool ik] 90)).alloc (.cells #[.int .u8 m', .bool gk, .bool ik] 73)) := ((Turn.refl _ wr).alloc _).alloc _
      have hop : IsBlk ((wr.alloc (.cells #[.int .u8 (fm k), .bool gk, .bool ik] 90)).alloc (.cells #[.int .u8 m', .bool gk, .bool ik] 73)) wr.heap.size #[.int .u8 (fm k), .bool gk, .bool ik] 90 := (IsBlk.new wr _ 90).turn ((Turn.refl (fun _ => False) _).alloc _) (by simp)
      have htg := hbr.turn t2 (by simp)
      have x0 := htg.c0
      have x1 := htg.c1
      have x2 := htg.c2
      have x3 := htg.c3
      have x4 : ((wr.alloc (.cells #[.int .u8 (fm k), .bool gk, .bool ik] 90)).alloc (.cells #[.int .u8 m', .bool gk, .bool ik] 73)).cell? ⟨w.heap.size, 4, none⟩ = some (.string { data := #[] }) := (htg.cell 4).trans rfl
      have HF2 : Hid (Base N X A L M cM T 0 ((wr.alloc (.cells #[.int .u8 (fm k), .bool gk, .bool ik] 90)).alloc (.cells #[.int .u8 m', .bool gk, .bool ik] 73)) ∧ St N X L T has m g ((wr.alloc (.cells #[.int .u8 (fm k), .bool gk, .bool ik] 90)).alloc (.cells #[.int .u8 m', .bool gk, .bool ik] 73))) := ⟨hBr.grew t2, hSr.grew t2⟩
      clear hBr hSr hTr hKr
      go_wp2_with fail
      refine (try_own N X A L M cM T has m g m' gk ik _ HF2.out.1 HF2.out.2 hml hm5).mono ?_
      rintro e w3 ⟨rfl, hB3, t3, k3, hS3⟩
      have n4 : Grew w3 (w3.alloc (.cells #[.int .u8 m, .bool g, .bool false] 73)) := (Turn.refl _ _).alloc _
      have hop4 := (k3 _ _ 90 (by decide) (by decide) (by decide) hop).turn n4 (by simp)
      have htg4 := (k3 _ _ 69 (by decide) (by decide) (by decide) htg).turn n4 (by simp)
      have HB4 : Hid (Base N X A L M cM T 0 (w3.alloc (.cells #[.int .u8 m, .bool g, .bool false] 73))) := hB3.grew n4
      have HS4 : Hid (St N X L T (stepHas has m g m' gk ik) (stepM m g m' gk ik) (stepG m g m' gk ik) (w3.alloc (.cells #[.int .u8 m, .bool g, .bool false] 73))) := hS3.grew n4
      have HT4 : Hid (Turn (Own N X) w (w3.alloc (.cells #[.int .u8 m, .bool g, .bool false] 73))) := ((HTr.out.grew t2).trans t3).grew n4
      have HK4 : Hid (Keeps w (w3.alloc (.cells #[.int .u8 m, .bool g, .bool false] 73))) := ((HKr.out.trans (Keeps.of_grew t2)).trans k3).trans (Keeps.of_grew n4)
      have hn19 := IsBlk.new w3 #[.int .u8 m, .bool g, .bool false] 73
      simp only [hmi]
      clear hmi c0 c1 c2 x0 x1 x2 x3 x4 hop htg t2 t3 k3 hB3 hS3 n4 HF2 hbr
      have y0 := hop4.c0
      have y1 := hop4.c1
      have y2 := hop4.c2
      have x0 := htg4.c0
      have x1 := htg4.c1
      have x2 := htg4.c2
      have x3 := htg4.c3
      have x4 : (w3.alloc (.cells #[.int .u8 m, .bool g, .bool false] 73)).cell? ⟨w.heap.size, 4, none⟩ = some (.string { data := #[] }) := (htg4.cell 4).trans rfl
      have z0 := hn19.c0
      have z1 := hn19.c1
      have z2 := hn19.c2
      cases ik
      · -- no insert
        obtain ⟨c, hc⟩ : ∃ c, covb m m' = c := ⟨_, rfl⟩
        go_wp2_with fail
        refine (zzcov_any m m' hml hm5 _).mono ?_
        rintro e w5 ⟨rfl, rfl⟩
        rw [hc]
        have ins : (c && (g || !gk)) = true → stepHas has m g m' gk false = has ∧ stepM m g m' gk false = m ∧ stepG m g m' gk false = g := by
          intro h
          unfold stepHas stepM stepG
          rw [hc, h]
          simp
        have ins2 : (c && (g || !gk)) = false → stepHas has m g m' gk false = true ∧ stepM m g m' gk false = joinb m m' ∧ stepG m g m' gk false = (g || gk) := by
          intro h
          unfold stepHas stepM stepG
          rw [hc, h]
          simp
        clear hc
        cases c <;> cases g <;> cases gk
        all_goals
          first
          | (obtain ⟨e1, e2, e3⟩ := ins rfl
             clear ins ins2
             rw [e1, e2, e3] at HS4 HR
             go_wp2_with fail
             refine (state_any N X A L M cM T 0 has m _ _ HB4.out HS4.out).mono ?_
             rintro e w6 ⟨rfl, h6⟩
             go_wp2_with fail
             go_roundw
             case rel => exact ⟨k + 1, by omega, by go_num, by rw [HR.out], by rw [HR.out], by rw [HR.out], HB4.out.grew h6, by rw [HR.out]; exact HS4.out.grew h6, htg4.turn h6 (by simp), HT4.out.grew h6, HK4.out.trans (Keeps.of_grew h6)⟩
             case measure => simp [intOf]; omega)
          | (obtain ⟨e1, e2, e3⟩ := ins2 rfl
             clear ins ins2
             rw [e1, e2, e3] at HS4 HR
             go_wp2_with fail
             refine (zzjoin_any m m' hml hm5 _).mono ?_
             rintro e w6 ⟨rfl, rfl⟩
             go_wp2_with fail
             refine (state_any N X A L M cM T 0 true (joinb m m') _ _ HB4.out HS4.out).mono ?_
             rintro e w6 ⟨rfl, h6⟩
             go_wp2_with fail
             go_roundw
             case rel => exact ⟨k + 1, by omega, by go_num, by rw [HR.out], by rw [HR.out]; rfl, by rw [HR.out], HB4.out.grew h6, by rw [HR.out]; exact HS4.out.grew h6, htg4.turn h6 (by simp), HT4.out.grew h6, HK4.out.trans (Keeps.of_grew h6)⟩
             case measure => simp [intOf]; omega)
      · -- an insert: nothing has changed
        have e1 : stepHas has m g m' gk true = has := by simp [stepHas]
        have e2 : stepM m g m' gk true = m := by simp [stepM]
        have e3 : stepG m g m' gk true = g := by simp [stepG]
        rw [e1, e2, e3] at HS4 HR
        go_wp2_with fail
        refine (state_any N X A L M cM T 0 has m g _ HB4.out HS4.out).mono ?_
        rintro e w5 ⟨rfl, h5⟩
        go_wp2_with fail
        go_roundw
        case rel => exact ⟨k + 1, by omega, by go_num, by rw [HR.out], by rw [HR.out], by rw [HR.out], HB4.out.grew h5, by rw [HR.out]; exact HS4.out.grew h5, htg4.turn h5 (by simp), HT4.out.grew h5, HK4.out.trans (Keeps.of_grew h5)⟩
        case measure => simp [intOf]; omega
    · obtain rfl : k = len := by omega
      go_wp2_with fail
      refine bodyPost_ret (v := .tuple #[.bool true, .int .u8 m, .bool g, .bool has]) ?_ rfl ?_
      · simp [results, Ybaz.f6, go_sem]
      · rw [HST'.out]
        exact ⟨rfl, hBr, hSr, hTr, hKr⟩
end Go.Proofs.YbulkdetkGreatDoor
