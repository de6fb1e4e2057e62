/- The second law, walked. -/
import Derived.Test.YbulkdetkGreatDoorB19
namespace Go.Proofs.YbulkdetkGreatDoor
open Go.RowKit
set_option linter.unusedVariables false
set_option linter.unusedSimpArgs false

/-- What lies behind the script: what is asked of the world. -/
structure Mid (w : World) (w1 : World) (A L M : Nat) (has : Bool) (m : Nat) (g : Bool) (W : World) : Prop where
  b : Base w.heap.size (w1.heap.size + 1) A L M 0 w1.heap.size 0 W
  st : St w.heap.size (w1.heap.size + 1) L w1.heap.size has m g W
  x : Txn W (w1.heap.size + 1) (.slice none 0 0)
  tg : IsBlk W (w1.heap.size + 1 + 1) #[.string { data := #[116] }, .bool false, .int .u8 0, .int .i64 0, .string { data := #[] }] 69
  t : Turn (fun k => w.heap.size ≤ k) w W

theorem Mid.grew {w w1 : World} {A L M : Nat} {has : Bool} {m : Nat} {g : Bool} {W W' : World} (h : Mid w w1 A L M has m g W) (k : Grew W W') : Mid w w1 A L M has m g W' :=
  ⟨h.b.grew k, h.st.grew k, h.x.grew k, h.tg.turn k (by simp), h.t.grew k⟩

theorem mid_run (w w1 : World) (A L M : Nat) (a : Option Addr) (len cap : Nat) (fm : Nat → Nat) (fg fi : Nat → Bool) (hl : len ≤ 1024) (hC : Cov w) (hO : Ops w.heap.size w a len fm fg fi)
    (hA1 : w.heap.size ≤ A) (hL1 : w.heap.size ≤ L) (hLM : L ≠ M) (hA : IsBlk w1 A (ltc 0 L M) 88) (hL : IsMap w1 L #[] 0) (hM : IsMap w1 M #[] 0) (h1 : Grew w w1) (cs cs' : Array Value) (h19 : cs[19]? = some (.slice none 0 0)) (h19' : cs'[19]? = some (.slice none 0 0)) :
    Calls Ybaz.prog 6 #[.pointer (some ⟨A, 0, none⟩), .pointer (some ⟨w1.heap.size, 0, none⟩), (.agg #[.string { data := #[116] }, .bool false, .int .u8 0, .int .i64 0, .string { data := #[] }]), .slice a len cap] (((w1.alloc (.cells cs 65)).alloc (.cells cs' 65)).alloc (.cells #[.string { data := #[116] }, .bool false, .int .u8 0, .int .i64 0, .string { data := #[] }] 69)) fun e w' => ∃ has m g, m < 5 ∧ e = .returned (.tuple #[.bool true, .int .u8 (m : Nat), .bool g, .bool has]) ∧ Mid w w1 A L M has m g w' := by
  have hn0 := hC.1
  have h2 : Grew w1 (((w1.alloc (.cells cs 65)).alloc (.cells cs' 65)).alloc (.cells #[.string { data := #[116] }, .bool false, .int .u8 0, .int .i64 0, .string { data := #[] }] 69)) := (((Turn.refl _ _).alloc _).alloc _).alloc _
  have h12 := h1.trans h2
  have hsz := h1.size
  have hAlt := hA.lt
  have hLlt := hL.lt
  have hTx : Txn (((w1.alloc (.cells cs 65)).alloc (.cells cs' 65)).alloc (.cells #[.string { data := #[116] }, .bool false, .int .u8 0, .int .i64 0, .string { data := #[] }] 69)) w1.heap.size (.slice none 0 0) := ⟨cs, (IsBlk.new w1 cs 65).turn (((Turn.refl (fun _ => False) _).alloc _).alloc _) (by simp), h19⟩
  have hXx : Txn (((w1.alloc (.cells cs 65)).alloc (.cells cs' 65)).alloc (.cells #[.string { data := #[116] }, .bool false, .int .u8 0, .int .i64 0, .string { data := #[] }] 69)) (w1.heap.size + 1) (.slice none 0 0) := by
    have := (IsBlk.new (w1.alloc (.cells cs 65)) cs' 65).turn ((Turn.refl (fun _ => False) _).alloc (.cells #[.string { data := #[116] }, .bool false, .int .u8 0, .int .i64 0, .string { data := #[] }] 69)) (by simp)
    rw [World.size_alloc] at this
    exact ⟨cs', this, h19'⟩
  have htg : IsBlk (((w1.alloc (.cells cs 65)).alloc (.cells cs' 65)).alloc (.cells #[.string { data := #[116] }, .bool false, .int .u8 0, .int .i64 0, .string { data := #[] }] 69)) (w1.heap.size + 1 + 1) #[.string { data := #[116] }, .bool false, .int .u8 0, .int .i64 0, .string { data := #[] }] 69 := by
    have := IsBlk.new ((w1.alloc (.cells cs 65)).alloc (.cells cs' 65)) #[.string { data := #[116] }, .bool false, .int .u8 0, .int .i64 0, .string { data := #[] }] 69
    simpa using this
  obtain ⟨hB, hS⟩ := start_run (N := w.heap.size) (X := w1.heap.size + 1) (T := w1.heap.size) (by omega) h12.size (by simp) ⟨hA1, by omega⟩ ⟨hL1, by omega⟩ ⟨hsz, by omega⟩ hLM (hC.grew h12) (hA.turn h2 (by simp)) (hL.turn h2 (by simp)) (hM.turn h2 (by simp)) hTx
  refine (run_walk w.heap.size (w1.heap.size + 1) A L M 0 w1.heap.size a len cap fm fg fi _ hl hB hS (hO.turn h12 (Nat.le_refl _) (fun _ _ h => h))).mono ?_
  rintro e w3 ⟨rfl, hB3, hS3, t3, k3⟩
  exact ⟨_, _, _, run_lt fm fg fi len, rfl, hB3, hS3, hXx.turn t3 (fun h => h.2 rfl), k3 _ _ 69 (by decide) (by decide) (by decide) htg, (Turn.of_grew (M := fun k => w.heap.size ≤ k) h12).then t3 (fun k hk h => h.1)⟩

set_option maxRecDepth 100000 in
set_option maxHeartbeats 8000000 in
theorem insert_walk (a : Option Addr) (len cap : Nat) (fm : Nat → Nat) (fg fi : Nat → Bool) (bm : Nat) (bg : Bool) (w : World) (hm : len ≤ 9223372036854775807) (hbm : bm < 256) (hC : Cov w) (hO : Ops w.heap.size w a len fm fg fi) :
    Calls Ybaz.prog 4 #[.slice a len cap, .int .u8 bm, .bool bg] w fun e w' => e = .returned (.bool true) ∧ Below w.heap.size w w' := by
  by_cases hl : len ≤ 1024
  · have hn0 := hC.1
    obtain ⟨m', hm'⟩ : ∃ m', bm % 5 = m' := ⟨_, rfl⟩
    have hm5 : m' < 5 := by omega
    have hmi : ((bm : Int) % 5) = (m' : Nat) := by omega
    clear hm'
    go_enter Ybaz.func4, Ybaz.ntmps4
    go_wp2_with fail
    refine (new_walk _).mono ?_
    rintro e w1 ⟨A, L, M, rfl, hA1, hL1, hM1, hLM, hA, hL, hM, h1⟩
    have hkey := mid_run w w1 A L M a len cap fm fg fi hl hC hO hA1 hL1 hLM hA hL hM h1
    clear hA hL hM h1 hO hC hLM hA1 hL1 hM1
    go_wp2_with fail
    refine (hkey _ _ rfl rfl).mono ?_
    clear hkey
    rintro e w3 ⟨has, m, g, hm4, rfl, hMid⟩
    have x0 := hMid.tg.c0
    have x1 := hMid.tg.c1
    have x2 := hMid.tg.c2
    have x3 := hMid.tg.c3
    have x4 : w3.cell? ⟨w1.heap.size + 1 + 1, 4, none⟩ = some (.string { data := #[] }) := (hMid.tg.cell 4).trans rfl
    go_wp2_with fail
    refine (try_other w.heap.size (w1.heap.size + 1) A L M 0 w1.heap.size has m g m' bg _ hMid.b hMid.st hMid.x hm4 hm5).mono ?_
    rintro e w4 ⟨rfl, hB4, t4, k4, hS4, hX4⟩
    have hM4 : Mid w w1 A L M has m g w4 := ⟨hB4, hS4, hX4, k4 _ _ 69 (by decide) (by decide) (by decide) hMid.tg, hMid.t.then t4 (fun k hk h => h.1)⟩
    have n5 : Grew w4 (w4.alloc (.cells #[.int .u8 0, .bool false, .bool false] 73)) := (Turn.refl _ _).alloc _
    have hM5 := hM4.grew n5
    have hx := hM5.x.cell
    clear x0 x1 x2 x3 x4 t4 k4 hMid hB4 hS4 hX4
    have x0 := hM5.tg.c0
    have x1 := hM5.tg.c1
    have x2 := hM5.tg.c2
    have x3 := hM5.tg.c3
    have x4 : (w4.alloc (.cells #[.int .u8 0, .bool false, .bool false] 73)).cell? ⟨w1.heap.size + 1 + 1, 4, none⟩ = some (.string { data := #[] }) := (hM5.tg.cell 4).trans rfl
    cases g
    all_goals
      go_wp2_with fail
      refine (state_any w.heap.size (w1.heap.size + 1) A L M 0 w1.heap.size 0 has m _ _ hM5.b hM5.st).mono ?_
      rintro e w6 ⟨rfl, h6⟩
      go_wp2_with fail
      go_ret
      exact ⟨rfl, (hM5.t.grew h6).below (Nat.le_refl _) (fun k h => h)⟩
  · go_enter Ybaz.func4, Ybaz.ntmps4
    go_wp2_with fail
    go_ret
    exact ⟨rfl, Below.refl _ _⟩
end Go.Proofs.YbulkdetkGreatDoor
