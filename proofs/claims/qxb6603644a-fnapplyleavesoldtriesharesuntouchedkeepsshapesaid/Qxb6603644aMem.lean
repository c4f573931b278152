/-
  WHAT LIES WHERE: routes, leaves, tries, rows of changes; what a call keeps.
-/
import Derived.Test.Qxb6603644aSlot
import Derived.Test.Qxb6603644aFields
import Derived.RangeFuncOwn
namespace Go.Proofs.Qxb6603644a
open Go.RowKit Go.Shelf

def tc (j : Nat) : Nat := txCell.getD j 0
def nc (j : Nat) : Nat := nmCell.getD j 0

/-- a route's cells, from ⟨b, o⟩ on -/
structure RouteAt (w : World) (b o : Nat) (r : R) : Prop where
  tx : ∀ j, j < 14 → w.cell? ⟨b, o + tc j, none⟩ = some (.string (r.tx j))
  nm : ∀ j, j < 4 → w.cell? ⟨b, o + nc j, none⟩ = some (.int .i64 (r.nm j))

/-- all cells but those of X stand as they stood -/
def Keep (X : Addr → Prop) (w w' : World) : Prop := ∀ a v, ¬ X a → w.cell? a = some v → w'.cell? a = some v
def Nowhere : Addr → Prop := fun _ => False
/-- the cells of block b from lo up to hi -/
def Seg (b lo hi : Nat) : Addr → Prop := fun a => a.block = b ∧ lo ≤ a.off ∧ a.off < hi

theorem Keep.refl (X : Addr → Prop) (w : World) : Keep X w w := fun _ _ _ h => h
theorem Keep.trans {X : Addr → Prop} {a b c : World} (h : Keep X a b) (k : Keep X b c) : Keep X a c := fun x v hx hv => k x v hx (h x v hx hv)
theorem Keep.mono {X Y : Addr → Prop} {a b : World} (h : Keep X a b) (hXY : ∀ x, X x → Y x) : Keep Y a b := fun x v hx hv => h x v (fun hh => hx (hXY x hh)) hv
theorem cell_lt {w : World} {a : Addr} {v : Value} (h : w.cell? a = some v) : a.block < w.heap.size := by
  rcases Nat.lt_or_ge a.block w.heap.size with h' | h'
  · exact h'
  · simp [World.cell?, Array.getElem?_eq_none h'] at h
theorem Keep.below {X : Addr → Prop} {w w' : World} (h : Below w.heap.size w w') : Keep X w w' := fun _ _ _ hv => (World.cell?_of_block (h.block _ (cell_lt hv))).trans hv
theorem Keep.alloc {X : Addr → Prop} {a w : World} (h : Keep X a w) (o : Obj) : Keep X a (w.alloc o) := fun x v hx hv => by
  have h1 := h x v hx hv
  exact (World.cell?_of_block (Below.heap_alloc w o _ (cell_lt h1))).trans h1
theorem Keep.drewN {X : Addr → Prop} {a w : World} (h : Keep X a w) (n : Nat) : Keep X a (w.drewN n) := h
theorem Keep.putObj {X : Addr → Prop} {a w : World} (h : Keep X a w) {l : Nat} {o o' : Obj} (hl : w.heap[l]? = some o) (ho : o.isCells = false) : Keep X a (w.putObj l o') := fun x v hx hv => by
  have h1 := h x v hx hv
  by_cases hb : x.block = l
  · exfalso
    unfold World.cell? at h1
    rw [hb, hl] at h1
    cases o <;> simp_all [Obj.isCells]
  · exact (World.cell?_of_block (World.putObj_heap_other hb)).trans h1
theorem Keep.setCell {X : Addr → Prop} {a w : World} (h : Keep X a w) (p : Addr) (u : Value) (hp : X p ∨ ∀ v, a.cell? p ≠ some v) : Keep X a (w.setCell p u) := fun x v hx hv => by
  have h1 := h x v hx hv
  have hne : p ≠ x := by
    rintro rfl
    rcases hp with hp | hp
    · exact hx hp
    · exact hp v hv
  rw [World.cell?_setCell_other _ _ _ _ hne]
  exact h1

theorem RouteAt.keep {X : Addr → Prop} {w w' : World} {b o : Nat} {r : R} (h : RouteAt w b o r) (hk : Keep X w w') (hX : ∀ x, X x → x.block ≠ b) : RouteAt w' b o r :=
  ⟨fun j hj => hk _ _ (fun hh => hX _ hh rfl) (h.tx j hj), fun j hj => hk _ _ (fun hh => hX _ hh rfl) (h.nm j hj)⟩

def rAt (rs : List R) (i : Nat) : R := rs.getD i default
/-- the q-th text of all the routes' texts in turn -/
def T (rs : List R) (q : Nat) : ByteArray := (rAt rs (q / 14)).tx (q % 14)
/-- the first q texts, one behind the other -/
def flat (rs : List R) : Nat → List UInt8
  | 0 => []
  | q + 1 => flat rs q ++ (T rs q).data.toList
/-- the o-th cell of a leaf's entries -/
def entCell (rs : List R) (o : Nat) : Value :=
  if o % 19 = 0 then .int .u64 (rAt rs (o / 19)).hash
  else if o % 19 < 15 then .int .i64 ((flat rs (14 * (o / 19) + o % 19)).length : Nat)
  else .int .i64 ((rAt rs (o / 19)).nm (o % 19 - 15))

/-- texts of at most 2^20 bytes -/
def Small (r : R) : Prop := ∀ j, (r.tx j).size ≤ 1048576
theorem T_small {rs : List R} (h : ∀ r ∈ rs, Small r) (q : Nat) : (T rs q).size ≤ 1048576 := by
  unfold T rAt
  by_cases hq : q / 14 < rs.length
  · rw [List.getD_eq_getElem?_getD, List.getElem?_eq_getElem hq]
    exact h _ (List.getElem_mem hq) _
  · rw [List.getD_eq_getElem?_getD, List.getElem?_eq_none (by omega)]
    show (ByteArray.empty).size ≤ _
    decide
theorem flat_succ (rs : List R) (q : Nat) : (flat rs (q + 1)).length = (flat rs q).length + (T rs q).size := by
  simp only [flat, List.length_append]
  congr 1
theorem flat_small {rs : List R} (h : ∀ r ∈ rs, Small r) (q : Nat) : (flat rs q).length ≤ q * 1048576 := by
  induction q with
  | zero => simp [flat]
  | succ q ih =>
    have := T_small h q
    rw [flat_succ]
    omega
theorem flat_mono (rs : List R) {p q : Nat} (h : p ≤ q) : (flat rs p).length ≤ (flat rs q).length := by
  induction q with
  | zero => simp [show p = 0 by omega]
  | succ q ih =>
    by_cases hp : p ≤ q
    · have := ih hp
      rw [flat_succ]
      omega
    · simp [show p = q + 1 by omega]

/-- a leaf's cells, none of them in a block of N -/
structure LeafAt (w : World) (N : Nat → Prop) (g : Nat) (rs : List R) : Prop where
  ne : ¬ N g
  ch : w.cell? ⟨g, 0, none⟩ = some (.pointer none)
  cnt : w.cell? ⟨g, 1, none⟩ = some (.int .i64 (rs.length : Nat))
  ents : ∃ e, ¬ N e ∧ w.cell? ⟨g, 2, none⟩ = some (.slice (some ⟨e, 0, none⟩) rs.length rs.length) ∧ ∀ o, o < 19 * rs.length → w.cell? ⟨e, o, none⟩ = some (entCell rs o)
  txt : w.cell? ⟨g, 3, none⟩ = some (.string ⟨(flat rs (14 * rs.length)).toArray⟩)
  small : ∀ r ∈ rs, Small r

def Tr.ptr : Tr → Option Addr
  | .nil => none
  | .leaf g _ => some ⟨g, 0, none⟩
  | .inner g _ _ => some ⟨g, 0, none⟩

/-- a trie's cells, none of them in a block of N -/
def IsT (w : World) (N : Nat → Prop) : Tr → Prop
  | .nil => True
  | .leaf g rs => LeafAt w N g rs
  | .inner g ch c => ¬ N g ∧ ∃ h, ¬ N h ∧ w.cell? ⟨g, 0, none⟩ = some (.pointer (some ⟨h, 0, none⟩)) ∧ w.cell? ⟨g, 1, none⟩ = some (.int .i64 (c : Nat)) ∧
      ∀ i, i < 16 → w.cell? ⟨h, i, none⟩ = some (.pointer (ch i).ptr) ∧ IsT w N (ch i)

theorem LeafAt.keep {X : Addr → Prop} {w w' : World} {N : Nat → Prop} {g : Nat} {rs : List R} (h : LeafAt w N g rs) (hk : Keep X w w') (hX : ∀ x, X x → N x.block) : LeafAt w' N g rs := by
  have hn : ∀ (k o : Nat), ¬ N k → ¬ X ⟨k, o, none⟩ := fun k o hkb hh => hkb (hX _ hh)
  obtain ⟨e, he, he1, he2⟩ := h.ents
  exact ⟨h.ne, hk _ _ (hn _ _ h.ne) h.ch, hk _ _ (hn _ _ h.ne) h.cnt, ⟨e, he, hk _ _ (hn _ _ h.ne) he1, fun o ho => hk _ _ (hn _ _ he) (he2 o ho)⟩, hk _ _ (hn _ _ h.ne) h.txt, h.small⟩
theorem IsT.keep {X : Addr → Prop} {w w' : World} {N : Nat → Prop} (hk : Keep X w w') (hX : ∀ x, X x → N x.block) : ∀ {t : Tr}, IsT w N t → IsT w' N t
  | .nil, _ => trivial
  | .leaf _ _, h => LeafAt.keep h hk hX
  | .inner g ch c, h => by
    have hn : ∀ (k o : Nat), ¬ N k → ¬ X ⟨k, o, none⟩ := fun k o hkb hh => hkb (hX _ hh)
    obtain ⟨h1, k, h2, h3, h4, h5⟩ := h
    exact ⟨h1, k, h2, hk _ _ (hn _ _ h1) h3, hk _ _ (hn _ _ h1) h4, fun i hi => ⟨hk _ _ (hn _ _ h2) (h5 i hi).1, IsT.keep hk hX (h5 i hi).2⟩⟩
theorem LeafAt.other {w : World} {N N' : Nat → Prop} {g : Nat} {rs : List R} (h : LeafAt w N g rs) (hb : ∀ k, N' k → N k ∨ w.heap.size ≤ k) (h0 : 0 < rs.length) : LeafAt w N' g rs := by
  obtain ⟨e, he, he1, he2⟩ := h.ents
  have h1 := cell_lt h.ch
  have h2 := cell_lt (he2 0 (by omega))
  simp at h1 h2
  exact ⟨fun hg => (hb _ hg).elim h.ne (by omega), h.ch, h.cnt, ⟨e, fun hg => (hb _ hg).elim he (by omega), he1, he2⟩, h.txt, h.small⟩
theorem LeafAt.mono {w : World} {N N' : Nat → Prop} {g : Nat} {rs : List R} (h : LeafAt w N g rs) (hb : ∀ k, N' k → N k) : LeafAt w N' g rs := by
  obtain ⟨e, he, he1, he2⟩ := h.ents
  exact ⟨fun hg => h.ne (hb _ hg), h.ch, h.cnt, ⟨e, fun hg => he (hb _ hg), he1, he2⟩, h.txt, h.small⟩
theorem IsT.mono {w : World} {N N' : Nat → Prop} (hb : ∀ k, N' k → N k) : ∀ {t : Tr}, IsT w N t → IsT w N' t
  | .nil, _ => trivial
  | .leaf _ rs, h => LeafAt.mono h hb
  | .inner g ch c, h => by
    obtain ⟨h1, k, h2, h3, h4, h5⟩ := h
    exact ⟨fun hg => h1 (hb _ hg), k, fun hg => h2 (hb _ hg), h3, h4, fun i hi => ⟨(h5 i hi).1, IsT.mono hb (h5 i hi).2⟩⟩
/-- a trie lies in no block that is still to come -/
theorem IsT.other {w : World} {N N' : Nat → Prop} (hb : ∀ k, N' k → N k ∨ w.heap.size ≤ k) : ∀ {t : Tr} {d : Nat} {P : Int}, Good t d P → IsT w N t → IsT w N' t
  | .nil, _, _, _, _ => trivial
  | .leaf _ rs, _, _, hg, h => LeafAt.other h hb (List.length_pos_iff.2 hg.1)
  | .inner g ch c, _, _, hg, h => by
    obtain ⟨h1, k, h2, h3, h4, h5⟩ := h
    obtain ⟨d', _, _, _, hch⟩ := hg
    have l1 := cell_lt h3
    have l2 := cell_lt (h5 0 (by omega)).1
    simp at l1 l2
    exact ⟨fun hg => (hb _ hg).elim h1 (by omega), k, fun hg => (hb _ hg).elim h2 (by omega), h3, h4, fun i hi => ⟨(h5 i hi).1, IsT.other hb (hch i hi) (h5 i hi).2⟩⟩

/-- the routes of a row of changes -/
def Rts (w : World) (b : Nat) (cs : List C) : Prop := ∀ c ∈ cs, Small c.k.r ∧ (c.k.put = true → ∃ rb ro, c.route = some ⟨rb, ro, none⟩ ∧ rb ≠ b ∧ RouteAt w rb ro c.k.r) ∧ (c.k.put = false → c.route = none)
theorem Rts.keep {X : Addr → Prop} {w w' : World} {b : Nat} {cs : List C} (h : Rts w b cs) (hk : Keep X w w') (hX : ∀ x, X x → x.block = b) : Rts w' b cs := fun c hc => by
  obtain ⟨h0, h1, h2⟩ := h c hc
  refine ⟨h0, fun hp => ?_, h2⟩
  obtain ⟨rb, ro, h3, h4, h5⟩ := h1 hp
  exact ⟨rb, ro, h3, h4, h5.keep hk (fun x hx e => h4 (by rw [← e]; exact hX x hx))⟩
end Go.Proofs.Qxb6603644a
