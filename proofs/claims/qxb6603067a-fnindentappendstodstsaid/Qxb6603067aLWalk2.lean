/-
  THE WALKS of Indent's layout: open (34), close (35), comma (36), end (38).
-/
import Derived.Test.Qxb6603067aLWalk
namespace Go.Proofs.Qxb6603067a
open Go.RowKit
open Plain

/-- the block of one byte that 'append(x, b)' lays first -/
theorem one_row (w : World) (b : Int) : Bytes (w.alloc (.cells #[.int .u8 b] 5)) (w.alloc (.cells #[.int .u8 b] 5)).heap.size (some ⟨w.heap.size, 0, none⟩) 1 [b] := by
  refine ⟨rfl, .inr ⟨w.heap.size, 0, rfl, by simp, fun i hi => ?_⟩⟩
  obtain rfl : i = 0 := by omega
  simp [go_sem]

/-- 'y.out = append(y.out, b)': the new row, the append, the store; what depth then reads -/
theorem LI.wrote1 {w w1 : World} {l : Lay} {d : Nat} {out : List Int} {k : Nat} {ao : Option Addr} {co : Nat} {a' : Option Addr} {n' c' : Nat} (b : Int) (h : LI w l d out k) (hc : w.cell? ⟨l.B, 0, none⟩ = some (.slice ao out.length co))
    (hg : (w.alloc (.cells #[.int .u8 b] 5)).grownBy w1 (Value.slice ao out.length co).ownBlock) (ho' : Own w1 0 (.slice a' n' c') (out ++ [b])) (hl' : Lies (w.alloc (.cells #[.int .u8 b] 5)) (.slice ao out.length co) (.slice a' n' c')) (hn : n' = out.length + 1) :
    LI (w1.setCell ⟨l.B, 0, none⟩ (.slice a' n' c')) l d (out ++ [b]) k ∧ Keep l.N l.row w (w1.setCell ⟨l.B, 0, none⟩ (.slice a' n' c')) ∧ w1.cell? ⟨l.B, 0, none⟩ = some (.slice ao out.length co) ∧ w1.frozen? ⟨l.B, 0, none⟩ = false ∧
      w1.cell? ⟨l.B, 3, none⟩ = some (.int .i64 d) ∧ w1.frozen? ⟨l.B, 3, none⟩ = false := by
  have h1 := h.alloc (.cells #[.int .u8 b] 5)
  obtain ⟨ao', co', al, cl, c0, c1, c2, c3, c4, f0, f3, f4, ho, hl, hN, hB, hr, hgg⟩ := h
  rw [hc] at c0
  simp only [Option.some.injEq, Value.slice.injEq] at c0
  obtain ⟨rfl, _, rfl⟩ := c0
  have hcc : (w.alloc (.cells #[.int .u8 b] 5)).cell? ⟨l.B, 0, none⟩ = some (.slice ao out.length co) := (World.cell?_of_block (w := w) (Below.heap_alloc _ _ _ hB)).trans hc
  have hnB : some l.B ≠ (Value.slice ao out.length co).ownBlock := fun e => (hgg l.B e.symm).1 rfl
  obtain ⟨r1, r2, r3, r4⟩ := h1.wrote hcc hg ho' hl' (by simp [hn])
  have hbl : w1.heap[l.B]? = w.heap[l.B]? := (hg.block l.B (by simp; omega) hnB).trans (Below.heap_alloc _ _ _ hB)
  exact ⟨r1, ((Keep.refl _ _ w).alloc (by omega) _).trans r2, r3, r4, (World.cell?_of_block (w := w) hbl).trans c3, (World.frozen?_of_block (w := w) hbl).trans f3⟩

theorem LI.own1 {w : World} {l : Lay} {d : Nat} {out : List Int} {k : Nat} (h : LI w l d out k) (b : Int) : ∃ ao co, w.cell? ⟨l.B, 0, none⟩ = some (.slice ao out.length co) ∧ w.frozen? ⟨l.B, 0, none⟩ = false ∧
    w.cell? ⟨l.B, 3, none⟩ = some (.int .i64 d) ∧ w.frozen? ⟨l.B, 3, none⟩ = false ∧ Own (w.alloc (.cells #[.int .u8 b] 5)) 0 (.slice ao out.length co) out := by
  obtain ⟨ao, co, al, cl, c0, c1, c2, c3, c4, f0, f3, f4, ho, hl, hN, hB, hr, hgg⟩ := h
  exact ⟨ao, co, c0, f0, c3, f3, World.ownsRow.alloc ho _⟩

set_option maxRecDepth 10000 in
set_option maxHeartbeats 400000 in
theorem open_any (l : Lay) (d : Nat) (out : List Int) (k : Nat) (b : Int) (w : World) (h : LI w l d out k) (hp : l.pre.size ≤ 1048576) (hi : l.ind.size ≤ 1048576) (hn : 1 + l.pre.size + (d + 1) * l.ind.size ≤ 1099511627776) (hd : d + 1 ≤ 1048577)
    (hsz : out.length + 1 + (nl (sbytes l.pre) (sbytes l.ind) (d + 1)).length ≤ 140737488355328) :
    Calls Try.prog 34 #[.pointer (some ⟨l.B, 0, none⟩), .int .u8 b] w fun x w' => x = .returned (.tuple #[]) ∧ (∃ k', LI w' l (d + 1) (out ++ [b] ++ nl (sbytes l.pre) (sbytes l.ind) (d + 1)) k') ∧ Keep l.N l.row w w' := by
  obtain ⟨ao, co, c0, f0, c3, f3, ho⟩ := h.own1 b
  have HSZ : Hid _ := hsz
  have HN : Hid _ := hn
  have hsz1 : out.length + 1 ≤ 140737488355328 := by omega
  clear hsz hn
  go_enter Try.func34, Try.ntmps34
  go_wp2_with (first
    | (at_builtin; refine wpList_app_bytes rfl _ _ rfl 0 _ out rfl ho _ 1 1 [b] rfl _ (one_row w b) (by simp) hsz1 (Nat.zero_le _) ?_; intro a2 c2 w2 ho2 hg2 hl2; obtain ⟨hLI, hKp, hc2, hf2, hc3, hf3⟩ := h.wrote1 b c0 hg2 ho2 hl2 rfl)
    | (go_at_call 47; obtain ⟨hLI3, hK3⟩ := hLI.setD (d + 1) ((d : Int) + 1) (by omega); refine (line_any l (d + 1) (out ++ [b]) k _ hLI3 hp hi HN.out hd ?_).mono ?_; (rw [List.length_append]; exact HSZ.out); rintro x w3 ⟨rfl, hL3, hK4⟩))
  go_end0
  exact ⟨rfl, hL3, (hKp.trans hK3).trans hK4⟩

set_option maxRecDepth 10000 in
set_option maxHeartbeats 400000 in
theorem close_any (l : Lay) (d D : Nat) (hD : D = d + 1) (out : List Int) (k : Nat) (b : Int) (w : World) (h : LI w l D out k) (hp : l.pre.size ≤ 1048576) (hi : l.ind.size ≤ 1048576) (hn : 1 + l.pre.size + d * l.ind.size ≤ 1099511627776) (hd : D ≤ 1048577)
    (hsz : out.length + 1 + (nl (sbytes l.pre) (sbytes l.ind) d).length ≤ 140737488355328) :
    Calls Try.prog 35 #[.pointer (some ⟨l.B, 0, none⟩), .int .u8 b] w fun x w' => x = .returned (.tuple #[]) ∧ (∃ k', LI w' l d (out ++ nl (sbytes l.pre) (sbytes l.ind) d ++ [b]) k') ∧ Keep l.N l.row w w' := by
  obtain ⟨ao, co, c0, f0, c3, f3, ho⟩ := h.own1 b
  have HSZ : Hid _ := hsz
  have HD : Hid _ := hD
  clear hD
  have HN : Hid _ := hn
  clear hsz hn c0 f0 ho
  go_enter Try.func35, Try.ntmps35
  go_wp2_with (first
    | (at_builtin; refine wpList_app_bytes rfl _ _ rfl 0 _ O rfl ho _ 1 1 [b] rfl _ (one_row _ b) (by simp) (by rw [HO.out, List.length_append]; have := HSZ.out; omega) (Nat.zero_le _) ?_; intro a2 c2 w2 ho2 hg2 hl2; obtain ⟨hLI, hKp, hc2, hf2, hc3, hf3⟩ := hL3.wrote1 b c0 hg2 ho2 hl2 rfl)
    | (go_at_call 47; obtain ⟨hLI3, hK3⟩ := h.setD d ((D : Int) - 1) (by have := HD.out; omega); refine (line_any l d out k _ hLI3 hp hi HN.out (by have := HD.out; omega) ?_).mono ?_; (have := HSZ.out; omega); rintro x w3 ⟨rfl, ⟨k3, hL3⟩, hK4⟩; obtain ⟨O, hO⟩ : ∃ O, O = out ++ nl (sbytes l.pre) (sbytes l.ind) d := ⟨_, rfl⟩; rw [← hO] at hL3; have HO : Hid _ := hO; clear hO; obtain ⟨ao, co, c0, f0, c3, f3, ho⟩ := hL3.own1 b))
  go_end0
  exact ⟨rfl, ⟨_, by rw [← HO.out]; exact hLI⟩, (hK3.trans hK4).trans hKp⟩

set_option maxRecDepth 10000 in
set_option maxHeartbeats 400000 in
theorem comma_any (l : Lay) (d : Nat) (out : List Int) (k : Nat) (w : World) (h : LI w l d out k) (hp : l.pre.size ≤ 1048576) (hi : l.ind.size ≤ 1048576) (hn : 1 + l.pre.size + d * l.ind.size ≤ 1099511627776) (hd : d ≤ 1048577)
    (hsz : out.length + 1 + (nl (sbytes l.pre) (sbytes l.ind) d).length ≤ 140737488355328) :
    Calls Try.prog 36 #[.pointer (some ⟨l.B, 0, none⟩)] w fun x w' => x = .returned (.tuple #[]) ∧ (∃ k', LI w' l d (out ++ [44] ++ nl (sbytes l.pre) (sbytes l.ind) d) k') ∧ Keep l.N l.row w w' := by
  obtain ⟨ao, co, c0, f0, c3, f3, ho⟩ := h.own1 44
  have HSZ : Hid _ := hsz
  have HN : Hid _ := hn
  have hsz1 : out.length + 1 ≤ 140737488355328 := by omega
  clear hsz hn
  go_enter Try.func36, Try.ntmps36
  go_wp2_with (first
    | (at_builtin; refine wpList_app_bytes rfl _ _ rfl 0 _ out rfl ho _ 1 1 [44] rfl _ (one_row w 44) (by simp) hsz1 (Nat.zero_le _) ?_; intro a2 c2 w2 ho2 hg2 hl2; obtain ⟨hLI, hKp, hc2, hf2, hc3, hf3⟩ := h.wrote1 44 c0 hg2 ho2 hl2 rfl)
    | (go_at_call 47; refine (line_any l d (out ++ [44]) k _ hLI hp hi HN.out hd ?_).mono ?_; (rw [List.length_append]; exact HSZ.out); rintro x w3 ⟨rfl, hL3, hK4⟩))
  go_end0
  exact ⟨rfl, hL3, hKp.trans hK4⟩

set_option maxRecDepth 10000 in
set_option maxHeartbeats 400000 in
theorem end_any (l : Lay) (d : Nat) (out : List Int) (k : Nat) (w : World) (h : LI w l d out k) (hsz : out.length + 1 ≤ 140737488355328) :
    Calls Try.prog 38 #[.pointer (some ⟨l.B, 0, none⟩)] w fun x w' => ∃ a c, x = .returned (.slice a (out.length + 1) c) ∧ Own w' 0 (.slice a (out.length + 1) c) (out ++ [10]) ∧ Keep l.N l.row w w' := by
  obtain ⟨ao, co, c0, f0, c3, f3, ho⟩ := h.own1 10
  have hN : l.N ≤ (w.alloc (.cells #[.int .u8 10] 5)).heap.size := by
    obtain ⟨_, _, _, _, _, _, _, _, _, _, _, _, _, _, hN, hB, _⟩ := h
    simp
    omega
  have hK0 : Keep l.N l.row w (w.alloc (.cells #[.int .u8 10] 5)) := (Keep.refl _ _ w).alloc (by
    obtain ⟨_, _, _, _, _, _, _, _, _, _, _, _, _, _, hN, hB, _⟩ := h
    omega) _
  have hgg : ∀ q, (Value.slice ao out.length co).ownBlock = some q → some q = l.row ∨ l.N ≤ q := by
    obtain ⟨ao', co', al, cl, c0', c1, c2, c3, c4, f0, f3, f4, ho, hl, hN, hB, hr, hgg⟩ := h
    rw [c0] at c0'
    simp only [Option.some.injEq, Value.slice.injEq] at c0'
    obtain ⟨rfl, _, rfl⟩ := c0'
    exact fun q e => (hgg q e).2.1
  have HGG : Hid _ := hgg
  clear hgg
  go_enter Try.func38, Try.ntmps38
  go_wp2_with (at_builtin; refine wpList_app_bytes rfl _ _ rfl 0 _ out rfl ho _ 1 1 [10] rfl _ (one_row w 10) (by simp) hsz (Nat.zero_le _) ?_; intro a2 c2 w2 ho2 hg2 hl2)
  go_ret
  exact ⟨_, _, rfl, ho2, hK0.grown hg2 hN HGG.out⟩
end Go.Proofs.Qxb6603067a
