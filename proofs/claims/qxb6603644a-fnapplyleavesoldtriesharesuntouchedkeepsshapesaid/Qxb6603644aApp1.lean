/-
  TOWARDS apply (22): what it asks, what it hands over; 'build(settle(..))'.
-/
import Derived.Test.Qxb6603644aSort
namespace Go.Proofs.Qxb6603644a
open Go.RowKit Go.Shelf

theorem ap_nil (d : Nat) (t : Tr) : ApR d t [] t := by
  cases t with
  | nil => cases d <;> exact .inl ⟨rfl, rfl⟩
  | leaf g rs => cases d <;> exact .inl ⟨rfl, rfl⟩
  | inner g ch c =>
    cases d with
    | zero => exact ⟨rfl, rfl⟩
    | succ d => exact .inl ⟨rfl, rfl⟩
theorem ap_nil_eq {d : Nat} {t t' : Tr} (h : ApR d t [] t') : t' = t := by
  cases t with
  | nil => cases d <;> (rcases h with ⟨_, h⟩ | ⟨h, _⟩ <;> first | exact h | exact absurd rfl h)
  | leaf g rs => cases d <;> (rcases h with ⟨_, h⟩ | ⟨h, _⟩ <;> first | exact h | exact absurd rfl h)
  | inner g ch c =>
    cases d with
    | zero => exact h.2
    | succ d =>
      rcases h with ⟨_, h⟩ | ⟨h, _⟩
      · exact h
      · exact absurd rfl h

/-- a row of changes in order, of one prefix, an id of one hash -/
structure RowOK (w : World) (b off n cap : Nat) (cs : List C) (d : Nat) (P : Int) : Prop where
  d16 : d ≤ 16
  len : cs.length = n
  pos : 0 < n
  nb : n ≤ 16384
  cap1 : n ≤ cap
  cap2 : cap ≤ 9223372036854775807
  row : ChRow w b off cs
  rts : Rts w b cs
  fz : ∀ o, w.frozen? ⟨b, o, none⟩ = false
  srt : (cs.map fun c => c.k).Pairwise ksl
  pre : ∀ c ∈ cs, c.k.r.hash / 2 ^ (4 * d) = P
  one : OneHash (cs.map fun c => c.k.r)
  hr : ∀ c ∈ cs, 0 ≤ c.k.r.hash ∧ c.k.r.hash < 18446744073709551616

/-- behind settle -/
structure Settled (w : World) (b off n : Nat) (cs : List C) (w' : World) : Prop where
  row : ChRow w' b off (settleC cs)
  keep : Keep (Seg b off (off + n * 4)) w w'
  below : Below b w w'
  others : KeepsOthers w w'
  fz : ∀ o, w'.frozen? ⟨b, o, none⟩ = false
  blk : ∀ k, k ≠ b → k < w.heap.size → w'.heap[k]? = w.heap[k]?

theorem sb_settle {w : World} {b off n cap d : Nat} {cs : List C} {P : Int} (h : RowOK w b off n cap cs d P) :
    Calls Try.prog 39 #[.slice (some ⟨b, off, none⟩) n cap] w fun x w' => x = .returned (.slice (some ⟨b, off, none⟩) (settleC cs).length cap) ∧ Settled w b off n cs w' :=
  (settle_some b off n cap cs w h.len h.pos h.nb h.cap1 h.cap2 h.row h.rts h.fz).mono fun _ _ ⟨h1, h2, h3, h4, h5, h6, h7⟩ => ⟨h1, h2, h3, h4, h5, h6, h7⟩

theorem map_kr (cs : List C) : (cs.map fun c => c.k.r) = (cs.map fun c => c.k).map K.r := by rw [List.map_map]; rfl

theorem sb_build {w w1 : World} {b off n cap d : Nat} {cs : List C} {P : Int} (h : RowOK w b off n cap cs d P) (hs : Settled w b off n cs w1) :
    Calls Try.prog 38 #[.slice (some ⟨b, off, none⟩) (settleC cs).length cap, .int .i64 (4 * d : Nat)] w1 fun x w' => ∃ t, x = .returned (.pointer t.ptr) ∧ BldR d ((settle (cs.map fun c => c.k)).map K.r) t ∧ IsT w' (· < w1.heap.size) t ∧ Below w1.heap.size w1 w' := by
  have hsub := settleC_sub cs
  have hle := hsub.length_le
  have e : ((settleC cs).map fun c => c.k.r) = (settle (cs.map fun c => c.k)).map K.r := by rw [map_kr, settleC_map]
  have hone : OneHash ((cs.map fun c => c.k).map K.r) := by rw [← map_kr]; exact h.one
  refine build_any d (some ⟨b, off, none⟩) b off _ cap (settleC cs) _ P w1 h.d16 rfl (by have := h.len; have := h.nb; omega) (by have := h.len; have := h.cap1; omega) h.cap2 e (.inr rfl) hs.row ?_ (settleC_put cs) (settle_klt _ h.srt hone) ?_ ?_
  · intro c hc
    exact (h.rts.keep hs.keep (fun x hx => hx.1)) c (hsub.mem hc)
  · intro r hr
    rw [← e] at hr
    obtain ⟨c, hc, rfl⟩ := List.mem_map.1 hr
    exact h.pre c (hsub.mem hc)
  · intro r hr
    rw [← e] at hr
    obtain ⟨c, hc, rfl⟩ := List.mem_map.1 hr
    exact h.hr c (hsub.mem hc)

/-- what apply asks -/
structure AH (d : Nat) (P : Int) (t : Tr) (w : World) (N : Nat → Prop) (b off n cap : Nat) (cs : List C) : Prop where
  d16 : d ≤ 16
  good : Good t d P
  isT : IsT w N t
  nb : N b
  len : cs.length = n
  cnt : t.cnt + n ≤ 16384
  cap1 : n ≤ cap
  cap2 : cap ≤ 9223372036854775807
  row : ChRow w b off cs
  rts : Rts w b cs
  fz : ∀ o, w.frozen? ⟨b, o, none⟩ = false
  srt : (cs.map fun c => c.k).Pairwise ksl
  pre : ∀ c ∈ cs, c.k.r.hash / 2 ^ (4 * d) = P
  seq : ∀ c ∈ cs, 0 ≤ c.k.seq
  one : OneHash (t.collect ++ cs.map fun c => c.k.r)
  hr : ∀ r ∈ t.collect ++ cs.map (fun c => c.k.r), 0 ≤ r.hash ∧ r.hash < 18446744073709551616

/-- what apply hands over -/
structure AP (d : Nat) (t : Tr) (w : World) (N : Nat → Prop) (b off n : Nat) (cs : List C) (t' : Tr) (w' : World) : Prop where
  ap : ApR d t (cs.map fun c => c.k) t'
  isT : IsT w' (fun k => N k ∧ k < w.heap.size) t'
  keep : Keep (Seg b off (off + n * 4)) w w'
  below : Below b w w'
  others : KeepsOthers w w'
  fz : ∀ o, w'.frozen? ⟨b, o, none⟩ = false
  blk : ∀ k, k ≠ b → k < w.heap.size → w'.heap[k]? = w.heap[k]?

theorem fz_below {b : Nat} {w w' : World} (h : Below w.heap.size w w') (hb : b < w.heap.size) (hf : ∀ o, w.frozen? ⟨b, o, none⟩ = false) : ∀ o, w'.frozen? ⟨b, o, none⟩ = false :=
  fun o => (World.frozen?_of_block (w := w) (h.block b hb)).trans (hf o)

theorem AH.alloc {d : Nat} {P : Int} {t : Tr} {w : World} {N : Nat → Prop} {b off n cap : Nat} {cs : List C} (h : AH d P t w N b off n cap cs) (hb : b < w.heap.size) (o : Obj) : AH d P t (w.alloc o) N b off n cap cs :=
  ⟨h.d16, h.good, h.isT.keep (keep_new w o) (fun _ h => h.elim), h.nb, h.len, h.cnt, h.cap1, h.cap2, h.row.keep (keep_new w o) (fun _ h => h.elim), h.rts.keep (keep_new w o) (fun _ h => h.elim), fz_below ((Below.refl _ _).alloc (Nat.le_refl _) _) hb h.fz, h.srt, h.pre, h.seq, h.one, h.hr⟩

set_option maxRecDepth 10000 in
set_option maxHeartbeats 1000000 in
theorem apply_empty {d : Nat} {t : Tr} {w : World} {N : Nat → Prop} {b off cap : Nat} {ao : Option Addr} (hT : IsT w N t) (hfz : ∀ o, w.frozen? ⟨b, o, none⟩ = false) (hb : b < w.heap.size) :
    Calls Try.prog 22 #[.pointer t.ptr, .int .i64 (4 * d : Nat), .slice ao 0 cap] w fun x w' => ∃ t', x = .returned (.pointer t'.ptr) ∧ AP d t w N b off 0 [] t' w' := by
  obtain ⟨p, hp⟩ : ∃ p, t.ptr = p := ⟨_, rfl⟩
  rw [hp]
  have HP : Hid (t.ptr = p) := hp
  have HT : Hid (IsT w N t) := hT
  have HF : Hid (∀ o, w.frozen? ⟨b, o, none⟩ = false) := hfz
  clear hp hT hfz
  go_enter Try.func22, Try.ntmps22
  go_wp2
  go_ret
  have hB := (Below.refl w.heap.size w).alloc (Nat.le_refl _) (.cells #[.int .i64 ((4 * d : Nat) : Int)] 3)
  exact ⟨t, by rw [HP.out]; rfl, ap_nil d t, (HT.out.keep (keep_new w _) (fun _ h => h.elim)).mono (fun _ h => h.1), (Keep.refl _ _).alloc _, hB.mono (by omega), KeepsOthers.alloc _ _, fz_below hB hb HF.out, fun k _ hk => hB.block k hk⟩
end Go.Proofs.Qxb6603644a
