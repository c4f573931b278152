/-
  THE LAW's ROWS AS THEY COME IN: a slice of structs of 21 fields, opened.
-/
import Derived.Test.Qxb6603644aSteps
import Derived.Deep.Slices
import Derived.ChangeArms
import Derived.ProofKit
import Derived.OpenShut
import Derived.ShutString
import Derived.ChangeOld
import Derived.Below
import Derived.SliceStrings
namespace Go.Proofs.Qxb6603644a
open Go.RowKit Go.Shelf

theorem c35 : Try.prog.cellsOf 35 = 1 := by kernel_rfl
theorem c3 : Try.prog.cellsOf 3 = 1 := by kernel_rfl
theorem c9 : Try.prog.cellsOf 9 = 1 := by kernel_rfl
theorem c4 : Try.prog.cellsOf 4 = 1 := by kernel_rfl
theorem c2 : Try.prog.cellsOf 2 = 1 := by kernel_rfl
theorem c41 : Try.prog.cellsOf 41 = 21 := by kernel_rfl

theorem wf_u64 {n : Int} (h : (Lit.int .u64 n).wf = true) : 0 ≤ n ∧ n < 18446744073709551616 := by
  simp only [Lit.wf, Bool.and_eq_true, decide_eq_true_iff] at h
  have h1 : IntKind.min .u64 = 0 := by decide
  have h2 : IntKind.max .u64 = 18446744073709551615 := by decide
  rw [h1, h2] at h
  omega

section
variable {H : Type} {enc : TypeId × Value → H} {w : World} {base : Nat} {spare : Nat → Bool} {held : Bool}

set_option maxRecDepth 10000 in
/-- one row, from its 21 cells -/
theorem open_z {fuel : Nat} {cs : List Value} {y : DataW H × List MemPlace} (hlen : cs.length = 21) (h : DataW.trod enc Try.prog w base spare held fuel 41 cs = some y) : ∃ z : Z, cs = encZ z ∧ SzZ z ∧ HrZ z := by
  obtain ⟨xs, n, rfl, _, _, hxl, hf⟩ := DataW.trod_struct Try.underlying41 h
  have hxl' : xs.length = 21 := hxl
  match cs, hlen with
  | [v0, v1, v2, v3, v4, v5, v6, v7, v8, v9, v10, v11, v12, v13, v14, v15, v16, v17, v18, v19, v20], _ =>
    have g0 : DataW.trod enc Try.prog w base spare held n 35 [v0] = some (xs[0]'(by omega)) := by
      have h0 : DataW.trod enc Try.prog w base spare held n 35 (([v0, v1, v2, v3, v4, v5, v6, v7, v8, v9, v10, v11, v12, v13, v14, v15, v16, v17, v18, v19, v20].drop 0).take (Try.prog.cellsOf 35)) = xs[0]? := hf 0 _ rfl
      rw [c35, List.getElem?_eq_getElem (by omega)] at h0
      exact h0
    have g1 : DataW.trod enc Try.prog w base spare held n 3 [v1] = some (xs[1]'(by omega)) := by
      have h1 : DataW.trod enc Try.prog w base spare held n 3 (([v0, v1, v2, v3, v4, v5, v6, v7, v8, v9, v10, v11, v12, v13, v14, v15, v16, v17, v18, v19, v20].drop 1).take (Try.prog.cellsOf 3)) = xs[1]? := hf 1 _ rfl
      rw [c3, List.getElem?_eq_getElem (by omega)] at h1
      exact h1
    have g2 : DataW.trod enc Try.prog w base spare held n 9 [v2] = some (xs[2]'(by omega)) := by
      have h2 : DataW.trod enc Try.prog w base spare held n 9 (([v0, v1, v2, v3, v4, v5, v6, v7, v8, v9, v10, v11, v12, v13, v14, v15, v16, v17, v18, v19, v20].drop 2).take (Try.prog.cellsOf 9)) = xs[2]? := hf 2 _ rfl
      rw [c9, List.getElem?_eq_getElem (by omega)] at h2
      exact h2
    have g3 : DataW.trod enc Try.prog w base spare held n 4 [v3] = some (xs[3]'(by omega)) := by
      have h3 : DataW.trod enc Try.prog w base spare held n 4 (([v0, v1, v2, v3, v4, v5, v6, v7, v8, v9, v10, v11, v12, v13, v14, v15, v16, v17, v18, v19, v20].drop 3).take (Try.prog.cellsOf 4)) = xs[3]? := hf 3 _ rfl
      rw [c4, List.getElem?_eq_getElem (by omega)] at h3
      exact h3
    have g4 : DataW.trod enc Try.prog w base spare held n 9 [v4] = some (xs[4]'(by omega)) := by
      have h4 : DataW.trod enc Try.prog w base spare held n 9 (([v0, v1, v2, v3, v4, v5, v6, v7, v8, v9, v10, v11, v12, v13, v14, v15, v16, v17, v18, v19, v20].drop 4).take (Try.prog.cellsOf 9)) = xs[4]? := hf 4 _ rfl
      rw [c9, List.getElem?_eq_getElem (by omega)] at h4
      exact h4
    have g5 : DataW.trod enc Try.prog w base spare held n 9 [v5] = some (xs[5]'(by omega)) := by
      have h5 : DataW.trod enc Try.prog w base spare held n 9 (([v0, v1, v2, v3, v4, v5, v6, v7, v8, v9, v10, v11, v12, v13, v14, v15, v16, v17, v18, v19, v20].drop 5).take (Try.prog.cellsOf 9)) = xs[5]? := hf 5 _ rfl
      rw [c9, List.getElem?_eq_getElem (by omega)] at h5
      exact h5
    have g6 : DataW.trod enc Try.prog w base spare held n 9 [v6] = some (xs[6]'(by omega)) := by
      have h6 : DataW.trod enc Try.prog w base spare held n 9 (([v0, v1, v2, v3, v4, v5, v6, v7, v8, v9, v10, v11, v12, v13, v14, v15, v16, v17, v18, v19, v20].drop 6).take (Try.prog.cellsOf 9)) = xs[6]? := hf 6 _ rfl
      rw [c9, List.getElem?_eq_getElem (by omega)] at h6
      exact h6
    have g7 : DataW.trod enc Try.prog w base spare held n 9 [v7] = some (xs[7]'(by omega)) := by
      have h7 : DataW.trod enc Try.prog w base spare held n 9 (([v0, v1, v2, v3, v4, v5, v6, v7, v8, v9, v10, v11, v12, v13, v14, v15, v16, v17, v18, v19, v20].drop 7).take (Try.prog.cellsOf 9)) = xs[7]? := hf 7 _ rfl
      rw [c9, List.getElem?_eq_getElem (by omega)] at h7
      exact h7
    have g8 : DataW.trod enc Try.prog w base spare held n 9 [v8] = some (xs[8]'(by omega)) := by
      have h8 : DataW.trod enc Try.prog w base spare held n 9 (([v0, v1, v2, v3, v4, v5, v6, v7, v8, v9, v10, v11, v12, v13, v14, v15, v16, v17, v18, v19, v20].drop 8).take (Try.prog.cellsOf 9)) = xs[8]? := hf 8 _ rfl
      rw [c9, List.getElem?_eq_getElem (by omega)] at h8
      exact h8
    have g9 : DataW.trod enc Try.prog w base spare held n 9 [v9] = some (xs[9]'(by omega)) := by
      have h9 : DataW.trod enc Try.prog w base spare held n 9 (([v0, v1, v2, v3, v4, v5, v6, v7, v8, v9, v10, v11, v12, v13, v14, v15, v16, v17, v18, v19, v20].drop 9).take (Try.prog.cellsOf 9)) = xs[9]? := hf 9 _ rfl
      rw [c9, List.getElem?_eq_getElem (by omega)] at h9
      exact h9
    have g10 : DataW.trod enc Try.prog w base spare held n 9 [v10] = some (xs[10]'(by omega)) := by
      have h10 : DataW.trod enc Try.prog w base spare held n 9 (([v0, v1, v2, v3, v4, v5, v6, v7, v8, v9, v10, v11, v12, v13, v14, v15, v16, v17, v18, v19, v20].drop 10).take (Try.prog.cellsOf 9)) = xs[10]? := hf 10 _ rfl
      rw [c9, List.getElem?_eq_getElem (by omega)] at h10
      exact h10
    have g11 : DataW.trod enc Try.prog w base spare held n 9 [v11] = some (xs[11]'(by omega)) := by
      have h11 : DataW.trod enc Try.prog w base spare held n 9 (([v0, v1, v2, v3, v4, v5, v6, v7, v8, v9, v10, v11, v12, v13, v14, v15, v16, v17, v18, v19, v20].drop 11).take (Try.prog.cellsOf 9)) = xs[11]? := hf 11 _ rfl
      rw [c9, List.getElem?_eq_getElem (by omega)] at h11
      exact h11
    have g12 : DataW.trod enc Try.prog w base spare held n 9 [v12] = some (xs[12]'(by omega)) := by
      have h12 : DataW.trod enc Try.prog w base spare held n 9 (([v0, v1, v2, v3, v4, v5, v6, v7, v8, v9, v10, v11, v12, v13, v14, v15, v16, v17, v18, v19, v20].drop 12).take (Try.prog.cellsOf 9)) = xs[12]? := hf 12 _ rfl
      rw [c9, List.getElem?_eq_getElem (by omega)] at h12
      exact h12
    have g13 : DataW.trod enc Try.prog w base spare held n 9 [v13] = some (xs[13]'(by omega)) := by
      have h13 : DataW.trod enc Try.prog w base spare held n 9 (([v0, v1, v2, v3, v4, v5, v6, v7, v8, v9, v10, v11, v12, v13, v14, v15, v16, v17, v18, v19, v20].drop 13).take (Try.prog.cellsOf 9)) = xs[13]? := hf 13 _ rfl
      rw [c9, List.getElem?_eq_getElem (by omega)] at h13
      exact h13
    have g14 : DataW.trod enc Try.prog w base spare held n 9 [v14] = some (xs[14]'(by omega)) := by
      have h14 : DataW.trod enc Try.prog w base spare held n 9 (([v0, v1, v2, v3, v4, v5, v6, v7, v8, v9, v10, v11, v12, v13, v14, v15, v16, v17, v18, v19, v20].drop 14).take (Try.prog.cellsOf 9)) = xs[14]? := hf 14 _ rfl
      rw [c9, List.getElem?_eq_getElem (by omega)] at h14
      exact h14
    have g15 : DataW.trod enc Try.prog w base spare held n 9 [v15] = some (xs[15]'(by omega)) := by
      have h15 : DataW.trod enc Try.prog w base spare held n 9 (([v0, v1, v2, v3, v4, v5, v6, v7, v8, v9, v10, v11, v12, v13, v14, v15, v16, v17, v18, v19, v20].drop 15).take (Try.prog.cellsOf 9)) = xs[15]? := hf 15 _ rfl
      rw [c9, List.getElem?_eq_getElem (by omega)] at h15
      exact h15
    have g16 : DataW.trod enc Try.prog w base spare held n 9 [v16] = some (xs[16]'(by omega)) := by
      have h16 : DataW.trod enc Try.prog w base spare held n 9 (([v0, v1, v2, v3, v4, v5, v6, v7, v8, v9, v10, v11, v12, v13, v14, v15, v16, v17, v18, v19, v20].drop 16).take (Try.prog.cellsOf 9)) = xs[16]? := hf 16 _ rfl
      rw [c9, List.getElem?_eq_getElem (by omega)] at h16
      exact h16
    have g17 : DataW.trod enc Try.prog w base spare held n 2 [v17] = some (xs[17]'(by omega)) := by
      have h17 : DataW.trod enc Try.prog w base spare held n 2 (([v0, v1, v2, v3, v4, v5, v6, v7, v8, v9, v10, v11, v12, v13, v14, v15, v16, v17, v18, v19, v20].drop 17).take (Try.prog.cellsOf 2)) = xs[17]? := hf 17 _ rfl
      rw [c2, List.getElem?_eq_getElem (by omega)] at h17
      exact h17
    have g18 : DataW.trod enc Try.prog w base spare held n 2 [v18] = some (xs[18]'(by omega)) := by
      have h18 : DataW.trod enc Try.prog w base spare held n 2 (([v0, v1, v2, v3, v4, v5, v6, v7, v8, v9, v10, v11, v12, v13, v14, v15, v16, v17, v18, v19, v20].drop 18).take (Try.prog.cellsOf 2)) = xs[18]? := hf 18 _ rfl
      rw [c2, List.getElem?_eq_getElem (by omega)] at h18
      exact h18
    have g19 : DataW.trod enc Try.prog w base spare held n 2 [v19] = some (xs[19]'(by omega)) := by
      have h19 : DataW.trod enc Try.prog w base spare held n 2 (([v0, v1, v2, v3, v4, v5, v6, v7, v8, v9, v10, v11, v12, v13, v14, v15, v16, v17, v18, v19, v20].drop 19).take (Try.prog.cellsOf 2)) = xs[19]? := hf 19 _ rfl
      rw [c2, List.getElem?_eq_getElem (by omega)] at h19
      exact h19
    have g20 : DataW.trod enc Try.prog w base spare held n 2 [v20] = some (xs[20]'(by omega)) := by
      have h20 : DataW.trod enc Try.prog w base spare held n 2 (([v0, v1, v2, v3, v4, v5, v6, v7, v8, v9, v10, v11, v12, v13, v14, v15, v16, v17, v18, v19, v20].drop 20).take (Try.prog.cellsOf 2)) = xs[20]? := hf 20 _ rfl
      rw [c2, List.getElem?_eq_getElem (by omega)] at h20
      exact h20
    clear hf
    obtain ⟨x0, e0, _, f0⟩ := DataW.trod_int Try.underlying35 g0
    obtain ⟨x1, e1, _, _⟩ := DataW.trod_int Try.underlying3 g1
    obtain ⟨x2, e2, _, f2⟩ := DataW.trod_string Try.underlying9 g2
    obtain ⟨x3, e3, _⟩ := DataW.trod_bool Try.underlying4 g3
    obtain ⟨x4, e4, _, f4⟩ := DataW.trod_string Try.underlying9 g4
    obtain ⟨x5, e5, _, f5⟩ := DataW.trod_string Try.underlying9 g5
    obtain ⟨x6, e6, _, f6⟩ := DataW.trod_string Try.underlying9 g6
    obtain ⟨x7, e7, _, f7⟩ := DataW.trod_string Try.underlying9 g7
    obtain ⟨x8, e8, _, f8⟩ := DataW.trod_string Try.underlying9 g8
    obtain ⟨x9, e9, _, f9⟩ := DataW.trod_string Try.underlying9 g9
    obtain ⟨x10, e10, _, f10⟩ := DataW.trod_string Try.underlying9 g10
    obtain ⟨x11, e11, _, f11⟩ := DataW.trod_string Try.underlying9 g11
    obtain ⟨x12, e12, _, f12⟩ := DataW.trod_string Try.underlying9 g12
    obtain ⟨x13, e13, _, f13⟩ := DataW.trod_string Try.underlying9 g13
    obtain ⟨x14, e14, _, f14⟩ := DataW.trod_string Try.underlying9 g14
    obtain ⟨x15, e15, _, f15⟩ := DataW.trod_string Try.underlying9 g15
    obtain ⟨x16, e16, _, f16⟩ := DataW.trod_string Try.underlying9 g16
    obtain ⟨x17, e17, _, _⟩ := DataW.trod_int Try.underlying2 g17
    obtain ⟨x18, e18, _, _⟩ := DataW.trod_int Try.underlying2 g18
    obtain ⟨x19, e19, _, _⟩ := DataW.trod_int Try.underlying2 g19
    obtain ⟨x20, e20, _, _⟩ := DataW.trod_int Try.underlying2 g20
    obtain rfl : v0 = _ := (List.cons.inj e0).1
    obtain rfl : v1 = _ := (List.cons.inj e1).1
    obtain rfl : v2 = _ := (List.cons.inj e2).1
    obtain rfl : v3 = _ := (List.cons.inj e3).1
    obtain rfl : v4 = _ := (List.cons.inj e4).1
    obtain rfl : v5 = _ := (List.cons.inj e5).1
    obtain rfl : v6 = _ := (List.cons.inj e6).1
    obtain rfl : v7 = _ := (List.cons.inj e7).1
    obtain rfl : v8 = _ := (List.cons.inj e8).1
    obtain rfl : v9 = _ := (List.cons.inj e9).1
    obtain rfl : v10 = _ := (List.cons.inj e10).1
    obtain rfl : v11 = _ := (List.cons.inj e11).1
    obtain rfl : v12 = _ := (List.cons.inj e12).1
    obtain rfl : v13 = _ := (List.cons.inj e13).1
    obtain rfl : v14 = _ := (List.cons.inj e14).1
    obtain rfl : v15 = _ := (List.cons.inj e15).1
    obtain rfl : v16 = _ := (List.cons.inj e16).1
    obtain rfl : v17 = _ := (List.cons.inj e17).1
    obtain rfl : v18 = _ := (List.cons.inj e18).1
    obtain rfl : v19 = _ := (List.cons.inj e19).1
    obtain rfl : v20 = _ := (List.cons.inj e20).1
    refine ⟨⟨x0, x1, x2, x3, fun j => match j with
      | 0 => x4
      | 1 => x5
      | 2 => x6
      | 3 => x7
      | 4 => x8
      | 5 => x9
      | 6 => x10
      | 7 => x11
      | 8 => x12
      | 9 => x13
      | 10 => x14
      | 11 => x15
      | 12 => x16
      , fun j => match j with
      | 0 => x17
      | 1 => x18
      | 2 => x19
      | 3 => x20
      ⟩, rfl, ⟨f2, fun j => ?_⟩, wf_u64 f0⟩
    match j with
    | 0 => exact f4
    | 1 => exact f5
    | 2 => exact f6
    | 3 => exact f7
    | 4 => exact f8
    | 5 => exact f9
    | 6 => exact f10
    | 7 => exact f11
    | 8 => exact f12
    | 9 => exact f13
    | 10 => exact f14
    | 11 => exact f15
    | 12 => exact f16

/-- the rows of a slice that came in -/
theorem open_zrows {fuel : Nat} {a0 : Option Addr} {len cap : Nat} {x : DataW H × List MemPlace} (h : DataW.trod enc Try.prog w base spare held fuel 22 [.slice a0 len cap] = some x) :
    ∃ b off zs, RowIn w a0 len cap b off zs ∧ (∀ z ∈ zs, SzZ z) ∧ ∀ z ∈ zs, HrZ z := by
  rcases Deep.open_slice Try.underlying22 h with ⟨hcs, _⟩ | ⟨a, l, c, m, n, D, Pl, hcs, _, hl, _, hmm, _, hx⟩
  · simp at hcs
    obtain ⟨rfl, rfl, rfl⟩ := hcs
    exact ⟨0, 0, [], ⟨rfl, .inl ⟨rfl, rfl, rfl⟩, fun i hi => absurd hi (by simp)⟩, by simp, by simp⟩
  · simp at hcs
    obtain ⟨rfl, rfl, rfl⟩ := hcs
    have hlm : len ≤ m := by rw [hmm]; split <;> omega
    have each : ∀ i, i < len → ∃ z : Z, (∀ j u, (encZ z)[j]? = some u → w.cell? (a.add (i * 21 + j)) = some u) ∧ SzZ z ∧ HrZ z := by
      intro i hi
      obtain ⟨cs', h1, h2⟩ := hx i (by omega)
      rw [c41] at h1
      obtain ⟨_, hlen, hcell⟩ := World.cells?_some h1
      obtain ⟨z, rfl, hz1, hz2⟩ := open_z hlen h2
      refine ⟨z, fun j u hj => ?_, hz1, hz2⟩
      have hlt : j < 21 := by rw [← hlen]; exact (List.getElem?_eq_some_iff.1 hj).1
      have := hcell j hlt
      rw [Deep.add_add, hj] at this
      exact this
    obtain ⟨f, hf⟩ := Deep.choose_lt each
    have hat : ∀ i, i < len → zAt ((List.range len).map f) i = f i := fun i hi => by
      unfold zAt
      rw [List.getD_eq_getElem?_getD, List.getElem?_eq_getElem (by simpa using hi)]
      simp
    have hm1 : ∀ z ∈ (List.range len).map f, SzZ z := fun z hz => by
      obtain ⟨i, hi, rfl⟩ := List.mem_map.1 hz
      exact (hf i (List.mem_range.1 hi)).2.1
    have hm2 : ∀ z ∈ (List.range len).map f, HrZ z := fun z hz => by
      obtain ⟨i, hi, rfl⟩ := List.mem_map.1 hz
      exact (hf i (List.mem_range.1 hi)).2.2
    by_cases h0 : len = 0
    · subst h0
      exact ⟨0, 0, [], ⟨rfl, .inr ⟨a, rfl, .inl rfl⟩, fun i hi => absurd hi (by simp)⟩, by simp, by simp⟩
    · obtain ⟨b, off, spot⟩ := a
      have hc0 := (hf 0 (by omega)).1 0 _ rfl
      have hspot : spot = none := by simpa [Addr.add] using World.cell?_spot hc0
      subst hspot
      refine ⟨b, off, (List.range len).map f, ⟨by simp, .inr ⟨_, rfl, .inr rfl⟩, fun i hi j u hu => ?_⟩, hm1, hm2⟩
      have hi' : i < len := by simpa using hi
      rw [hat i hi'] at hu
      have := (hf i hi').1 j u hu
      rw [WideShapes.add_plain, ← Nat.add_assoc] at this
      exact this
end
end Go.Proofs.Qxb6603644a
