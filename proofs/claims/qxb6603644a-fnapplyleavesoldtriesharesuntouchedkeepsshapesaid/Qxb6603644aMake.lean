/-
  THE WALKS of zzCloneRows (8) and zzMake (10).
-/
import Derived.Test.Qxb6603644aZ
import Derived.Test.Qxb6603644aApp6
namespace Go.Proofs.Qxb6603644a
open Go.RowKit Go.Shelf

theorem Try.size41 : (Try.prog.info? 41).map (·.size) = some 21 := by kernel_rfl
theorem encZ_one (z : Z) : ∀ v ∈ encZ z, v.oneCell' = true := by
  intro v hv
  simp only [encZ, List.mem_cons, List.not_mem_nil, or_false] at hv
  rcases hv with rfl | rfl | rfl | rfl | rfl | rfl | rfl | rfl | rfl | rfl | rfl | rfl | rfl | rfl | rfl | rfl | rfl | rfl | rfl | rfl | rfl <;> rfl
theorem Try.info41 : (Try.prog.info? 41).map (fun i => (i.zero, i.size, i.bytes)) = some (some (.agg #[.int .u64 0, .int .i64 0, .string ⟨#[]⟩, .bool false, .string ⟨#[]⟩, .string ⟨#[]⟩, .string ⟨#[]⟩, .string ⟨#[]⟩, .string ⟨#[]⟩, .string ⟨#[]⟩, .string ⟨#[]⟩, .string ⟨#[]⟩, .string ⟨#[]⟩, .string ⟨#[]⟩, .string ⟨#[]⟩, .string ⟨#[]⟩, .string ⟨#[]⟩, .int .i64 0, .int .i64 0, .int .i64 0, .int .i64 0]), 21, 280) := by kernel_rfl
theorem mkN {t e : TypeId} {z : Value} {size bytes : Nat} (hu : Try.prog.underlying t = some (.slice e)) (hinfo : (Try.prog.info? e).map (fun i => (i.zero, i.size, i.bytes)) = some (some z, size, bytes)) (hb : bytes ≤ 1048576) (n : Nat) (h : n ≤ 16384) :
    ∃ arr : Array Value, arr.size = n * size ∧ ∀ w, (Instr.makeSlice t (.int .i64 (n : Int)) (.int .i64 (n : Int))).run Try.prog w = .ok (.slice (some ⟨w.heap.size, 0, none⟩) n n) (w.alloc (.cells arr e)) :=
  ⟨_, size_madeCells _ _, fun w => mkRow hu hinfo n n (Nat.le_refl _) (by omega) hb w⟩

/-- a row that is being written: n rows of 'size' cells in block A, not frozen -/
theorem there_new (w : World) (arr : Array Value) (e : TypeId) : (w.alloc (.cells arr e)).there w.heap.size 0 arr.size := fun j hj => by
  have hnew := heap_alloc_new w (.cells arr e)
  exact ⟨by rw [Lib.cell_of_heap hnew, Nat.zero_add, Array.getElem?_eq_getElem hj]; rfl, Lib.frozen_of_heap hnew _⟩
theorem there_below {w w' : World} {b o n : Nat} (h : w.there b o n) (hb : Below w.heap.size w w') (hlt : b < w.heap.size) : w'.there b o n := fun j hj => by
  obtain ⟨v, hv⟩ := Option.isSome_iff_exists.1 (h j hj).1
  exact ⟨by rw [Keep.below (X := Nowhere) hb _ _ (fun h => h) hv]; rfl, (World.frozen?_of_block (w := w) (hb.block b hlt)).trans (h j hj).2⟩
theorem there_sub {w : World} {b o n o' n' : Nat} (h : w.there b o n) (h1 : o ≤ o') (h2 : o' + n' ≤ o + n) : w.there b o' n' := fun j hj => by
  have := h (o' - o + j) (by omega)
  rw [show o + (o' - o + j) = o' + j by omega] at this
  exact this

theorem run_eq_slice_nil22 (w : World) (a : Option Addr) (n c n' c' : Nat) :
    (binOp .eql 22 (.slice a n c) (.slice none n' c')).run Try.prog w = .ok (.bool a.isNone) w := by
  simp only [binOp]
  simp [Op.equal, Op.maxDepth, Lib.run_equalIn_slice_nil w 9999 22 41 a n c n' c' Try.underlying22]

/-- zzCloneRows at work: k rows copied into block A -/
structure CL (w : World) (A n k : Nat) (zs : List Z) (W : World) : Prop where
  row : ∀ i, i < k → W.rangeAt A (i * 21) (encZ (zAt zs i))
  th : W.there A 0 (n * 21)
  lt : A < W.heap.size
  below : Below w.heap.size w W
theorem CL.put {w : World} {A n k : Nat} {zs : List Z} {W : World} (h : CL w A n k zs W) (hA : w.heap.size ≤ A) (hk : k < n) : CL w A n (k + 1) zs (W.setCells A (k * 21) (encZ (zAt zs k))) := by
  have hlen : ∀ z, (encZ z).length = 21 := fun _ => rfl
  have ht : W.there A (k * 21) 21 := there_sub h.th (Nat.zero_le _) (by omega)
  refine ⟨fun i hi => ?_, there_cells _ h.th, by rw [size_setCells]; exact h.lt, Below.setCells' h.below hA _ _⟩
  by_cases e : i = k
  · subst e
    exact World.rangeAt_setCells_same W A _ _ (by rw [hlen]; exact ht)
  · exact World.rangeAt_setCells_apart (h.row i (by omega)) A _ _ (.inr (.inl (by rw [hlen]; omega)))

set_option maxRecDepth 10000 in
set_option maxHeartbeats 1000000 in
theorem clone_some (b off n cap : Nat) (zs : List Z) (w : World) (hn : zs.length = n) (hnb : n ≤ 16384) (hrow : ZRow w b off zs) (hb : 0 < n → b < w.heap.size) :
    Calls Try.prog 8 #[.slice (some ⟨b, off, none⟩) n cap] w fun x w' => ∃ A, x = .returned (.slice (some ⟨A, 0, none⟩) n n) ∧ ZRow w' A 0 zs ∧ A < w'.heap.size ∧ Below w.heap.size w w' := by
  have HROW : Hid (ZRow w b off zs) := hrow
  have HN : Hid (zs.length = n) := hn
  clear hrow hn
  obtain ⟨arr, harr, hmk⟩ := mkN Try.underlying22 Try.info41 (by decide) n hnb
  have HARR : Hid (arr.size = n * 21) := harr
  clear harr
  have hnil := fun w => run_eq_slice_nil22 w (some ⟨b, off, none⟩) n cap 0 0
  go_enter Try.func8, Try.ntmps8
  go_wp2
  have hC0 : CL w w.heap.size n 0 zs (w.alloc (.cells arr 41)) := ⟨fun i hi => absurd hi (by omega), by rw [← HARR.out]; exact there_new w arr 41, by simp, (Below.refl _ _).alloc (Nat.le_refl _) _⟩
  clear hmk
  go_loopw [4] (fun i wr => ∃ k : Nat, k ≤ n ∧ i = .int .i64 k ∧ Hid (CL w w.heap.size n k zs wr)) (fun i _ => n - (intOf i).toNat)
  case atStart => exact ⟨0, Nat.zero_le _, rfl, hC0⟩
  case round =>
    clear hC0
    obtain ⟨k, hk, rfl, hC⟩ := hrel
    by_cases hlt : k < n
    · have hrg : wr.rangeAt b (off + k * 21) (encZ (zAt zs k)) := (HROW.out.later hC.out.below) k (by rw [HN.out]; exact hlt)
      have hth : wr.there w.heap.size (k * 21) (encZ (zAt zs k)).length := there_sub hC.out.th (Nat.zero_le _) (by show k * 21 + 21 ≤ _; omega)
      have hC2 : Hid (CL w w.heap.size n (k + 1) zs (wr.setCells w.heap.size (k * 21) (encZ (zAt zs k)))) := hC.out.put (Nat.le_refl _) hlt
      go_upto_region 7 with fail
      go_upto_region 6 with (first
        | (refine wpList_load_mid rfl 41 _ rfl b (off + k * 21) rfl (encZ (zAt zs k)) _ hrg Try.underlying41 rfl Try.size41 ?_)
        | (refine wpList_store_named rfl rfl 41 _ _ rfl w.heap.size (k * 21) (encZ (zAt zs k)) rfl rfl hth Try.size41 (encZ_one _) ?_; intro W2 hW2; rw [← hW2.out] at hC2))
      go_wp2
      go_roundw
      case rel => exact ⟨k + 1, hlt, by go_num, hC2⟩
      case measure => simp [intOf]; omega
    · obtain rfl : k = n := by omega
      go_wp2
      go_ret
      refine ⟨w.heap.size, rfl, fun i hi => ?_, hC.out.lt, hC.out.below⟩
      rw [Nat.zero_add]
      exact hC.out.row i (by rw [HN.out] at hi; exact hi)

/-- the change that zzMake makes of the i-th row, its routes being in block A -/
def mkC (A : Nat) (zs : List Z) (i : Nat) : C := ⟨ofZ (zAt zs i), if (zAt zs i).put = true then some ⟨A, i * 18, none⟩ else none⟩
/-- zzMake at work: k rows done -/
structure MK (w : World) (A D n k : Nat) (zs : List Z) (W : World) : Prop where
  rts : ∀ i, i < k → (zAt zs i).put = true → W.rangeAt A (i * 18) (routeCells (toR (zAt zs i)))
  row : ∀ i, i < k → W.rangeAt D (i * 4) (cellsC (mkC A zs i))
  tA : W.there A 0 (n * 18)
  tD : W.there D 0 (n * 4)
  ne : A ≠ D
  ge : w.heap.size ≤ A ∧ w.heap.size ≤ D
  lt : A < W.heap.size ∧ D < W.heap.size
  below : Below w.heap.size w W
  fz : ∀ o, W.frozen? ⟨D, o, none⟩ = false
theorem MK.later {w : World} {A D n k : Nat} {zs : List Z} {W W' : World} (h : MK w A D n k zs W) (hb : Below W.heap.size W W') : MK w A D n k zs W' := by
  have hk : Keep Nowhere W W' := Keep.below hb
  have hs := hb.size
  exact ⟨fun i hi hp j v hv => hk _ _ (fun h => h) (h.rts i hi hp j v hv), fun i hi j v hv => hk _ _ (fun h => h) (h.row i hi j v hv), there_below h.tA hb h.lt.1, there_below h.tD hb h.lt.2, h.ne, h.ge, by have := h.lt; omega, h.below.trans (hb.mono h.below.size), fun o => (World.frozen?_of_block (w := W) (hb.block D h.lt.2)).trans (h.fz o)⟩
/-- the route of the k-th row is laid -/
structure MKR (w : World) (A D n k : Nat) (zs : List Z) (W : World) : Prop where
  ok : MK w A D n k zs W
  rt : (zAt zs k).put = true → W.rangeAt A (k * 18) (routeCells (toR (zAt zs k)))
theorem MK.putR {w : World} {A D n k : Nat} {zs : List Z} {W : World} (h : MK w A D n k zs W) (hk : k < n) : MKR w A D n k zs (W.setCells A (k * 18) (routeCells (toR (zAt zs k)))) := by
  have hlen : ∀ r, (routeCells r).length = 18 := fun _ => rfl
  have ht : W.there A (k * 18) 18 := there_sub h.tA (Nat.zero_le _) (by omega)
  refine ⟨⟨fun i hi hp => ?_, fun i hi => ?_, there_cells _ h.tA, there_cells _ h.tD, h.ne, h.ge, by rw [size_setCells]; exact h.lt, Below.setCells' h.below h.ge.1 _ _, fun o => by rw [World.frozen?_setCells]; exact h.fz o⟩, fun _ => ?_⟩
  · exact World.rangeAt_setCells_apart (h.rts i hi hp) A _ _ (.inr (.inl (by rw [hlen]; omega)))
  · exact World.rangeAt_setCells_apart (h.row i hi) A _ _ (.inl (fun e => h.ne e.symm))
  · exact World.rangeAt_setCells_same W A _ _ (by rw [hlen]; exact ht)
theorem MKR.putC {w : World} {A D n k : Nat} {zs : List Z} {W : World} (h : MKR w A D n k zs W) (hk : k < n) : MK w A D n (k + 1) zs (W.setCells D (k * 4) (cellsC (mkC A zs k))) := by
  have hlen : ∀ c, (cellsC c).length = 4 := fun _ => rfl
  have ht : W.there D (k * 4) 4 := there_sub h.ok.tD (Nat.zero_le _) (by omega)
  refine ⟨fun i hi hp => ?_, fun i hi => ?_, there_cells _ h.ok.tA, there_cells _ h.ok.tD, h.ok.ne, h.ok.ge, by rw [size_setCells]; exact h.ok.lt, Below.setCells' h.ok.below h.ok.ge.2 _ _, fun o => by rw [World.frozen?_setCells]; exact h.ok.fz o⟩
  · by_cases e : i = k
    · subst e
      exact World.rangeAt_setCells_apart (h.rt hp) D _ _ (.inl h.ok.ne)
    · exact World.rangeAt_setCells_apart (h.ok.rts i (by omega) hp) D _ _ (.inl h.ok.ne)
  · by_cases e : i = k
    · subst e
      exact World.rangeAt_setCells_same W D _ _ (by rw [hlen]; exact ht)
    · exact World.rangeAt_setCells_apart (h.ok.row i (by omega)) D _ _ (.inr (.inl (by rw [hlen]; omega)))
theorem MKR.later {w : World} {A D n k : Nat} {zs : List Z} {W W' : World} (h : MKR w A D n k zs W) (hb : Below W.heap.size W W') : MKR w A D n k zs W' :=
  ⟨h.ok.later hb, fun hp j v hv => Keep.below (X := Nowhere) hb _ _ (fun h => h) (h.rt hp j v hv)⟩
theorem MKR.drew {w : World} {A D n k : Nat} {zs : List Z} {W : World} (h : MKR w A D n k zs W) : MKR w A D n k zs W.drew := h.later ⟨rfl, rfl, rfl, Nat.le_refl _, fun _ _ => rfl⟩
end Go.Proofs.Qxb6603644a
