/-
  THE ITERATOR bySlot$1 (52): its word.
-/
import Derived.Test.Qxb6603644aRange
import Derived.Test.Qxb6603644aBase
import Derived.Test.Qxb6603644aPlain
import Derived.Shelf.Abstract
import Derived.Shelf.RegionOpen
import Derived.OwnWalkIn
import Derived.TacticsInMore
import Derived.LoopNIn
import Derived.LoopIn
namespace Go.Proofs.Qxb6603644a
open Go.RowKit Go.Shelf
attribute [local go_sem] Oper.semAt_some

/-- a change in memory: what it says, its route's address -/
structure C where
  k : K
  route : Option Addr
instance : Inhabited C := ⟨⟨default, none⟩⟩
def C.hash (c : C) : Int := c.k.r.hash
def C.seq (c : C) : Int := c.k.seq
def C.id (c : C) : ByteArray := c.k.r.tx 0
def cAt (cs : List C) (i : Nat) : C := cs.getD i default

/-- a row of changes in memory, from ⟨b, off⟩ on -/
def ChRow (w : World) (b off : Nat) (cs : List C) : Prop := ∀ i, i < cs.length → w.cell? ⟨b, off + i * 4, none⟩ = some (.int .u64 (cAt cs i).hash) ∧ w.cell? ⟨b, off + i * 4 + 1, none⟩ = some (.int .i64 (cAt cs i).seq) ∧
  w.cell? ⟨b, off + i * 4 + 2, none⟩ = some (.string (cAt cs i).id) ∧ w.cell? ⟨b, off + i * 4 + 3, none⟩ = some (.pointer (cAt cs i).route)

/-- how many of the first elements from p on lead to slot i -/
def runTo (cs : List C) (s : Nat) (i : Int) : Nat → Nat → Nat
  | 0, p => p
  | f + 1, p => if p < cs.length ∧ slotOf (cAt cs p).hash s = i then runTo cs s i f (p + 1) else p

/-- the runs from p on: the slot, where it begins, how long it is -/
def runsF (cs : List C) (s : Nat) : Nat → Nat → List (Int × Nat × Nat)
  | 0, _ => []
  | f + 1, p => if p < cs.length then
      let i := slotOf (cAt cs p).hash s
      let e := runTo cs s i cs.length (p + 1)
      (i, p, e - p) :: runsF cs s f e
    else []

def encR (b off cap : Nat) (x : Int × Nat × Nat) : Array Value := #[.int .i64 x.1, .slice (some ⟨b, off + x.2.1 * 4, none⟩) x.2.2 (cap - x.2.1)]
def pos : List (Int × Nat × Nat) → Nat
  | [] => 0
  | x :: xs => x.2.2 + pos xs
theorem pos_snoc (pre : List (Int × Nat × Nat)) (x : Int × Nat × Nat) : pos (pre ++ [x]) = pos pre + x.2.2 := by
  induction pre with
  | nil => simp [pos]
  | cons y ys ih => simp [pos, ih]; omega

theorem runTo_ge (cs : List C) (s : Nat) (i : Int) (f p : Nat) : p ≤ runTo cs s i f p := by
  induction f generalizing p with
  | zero => exact Nat.le_refl _
  | succ f ih =>
    unfold runTo
    split
    · have := ih (p + 1); omega
    · exact Nat.le_refl _
theorem runTo_le (cs : List C) (s : Nat) (i : Int) (f p : Nat) (h : p ≤ cs.length) : runTo cs s i f p ≤ cs.length := by
  induction f generalizing p with
  | zero => exact h
  | succ f ih =>
    unfold runTo
    split
    · rename_i hc; exact ih (p + 1) (by omega)
    · exact h
/-- a place at which all before lead to i, and that ends the run, is where runTo stops -/
theorem runTo_eq (cs : List C) (s : Nat) (i : Int) (f p e : Nat) (hpe : p ≤ e) (he : e ≤ cs.length) (hf : e - p < f) (hall : ∀ k, p ≤ k → k < e → slotOf (cAt cs k).hash s = i) (hend : e = cs.length ∨ slotOf (cAt cs e).hash s ≠ i) : runTo cs s i f p = e := by
  induction f generalizing p with
  | zero => omega
  | succ f ih =>
    unfold runTo
    by_cases hp : p = e
    · subst hp
      rw [if_neg]
      rintro ⟨h1, h2⟩
      rcases hend with h | h
      · omega
      · exact h h2
    · rw [if_pos ⟨by omega, hall p (Nat.le_refl _) (by omega)⟩]
      exact ih (p + 1) (by omega) (by omega) (fun k h1 h2 => hall k (by omega) h2)

/-- a row of changes in memory, from element r on -/
def HsRow (w : World) (b off : Nat) (cs : List C) (r : Nat) : Prop := ∀ i, r ≤ i → i < cs.length → w.cell? ⟨b, off + i * 4, none⟩ = some (.int .u64 (cAt cs i).hash)

/-- what lies where while the iterator is at work: p elements have been handed out; the row still stands from r on -/
structure At (c c2 b off n cap s : Nat) (cs : List C) (r p : Nat) (W : World) : Prop where
  row : HsRow W b off cs r
  sh : W.cell? ⟨c2, 0, none⟩ = some (.int .i64 s)
  fz : W.frozen? ⟨c, 0, none⟩ = false
  cur : ∃ ad, W.cell? ⟨c, 0, none⟩ = some (.slice (some ad) (n - p) (cap - p)) ∧ (p < n → ad = ⟨b, off + p * 4, none⟩)

theorem slot_at (h : Int) (s : Nat) (i : Int) (w : World) (hi : slotOf h s = i) (h0 : 0 ≤ h) (h1 : h < 18446744073709551616) (hs : 4 ≤ s) (hs2 : s ≤ 64) : Calls Try.prog 53 #[.int .u64 h, .int .i64 s] w fun x w' => x = .returned (.int .i64 i) ∧ w' = w := by
  subst hi
  exact slot_any h s w h0 h1 hs hs2

def leftIn (c : Nat) (W : World) : Nat := match W.cell? ⟨c, 0, none⟩ with | some (.slice _ k _) => k | _ => 0

theorem other_cell {w : World} {c b o : Nat} (h : c ≠ b) (v : Value) : (w.setCell ⟨c, 0, none⟩ v).cell? ⟨b, o, none⟩ = w.cell? ⟨b, o, none⟩ :=
  World.cell?_of_block (w := w) (a := ⟨b, o, none⟩) (Below.heap_setCell w _ _ b (fun e => h e.symm))
theorem at_turn {c c2 b off n cap s p k m cm : Nat} {cs : List C} {w4 : World} {ad0 : Addr} (hcb : c ≠ b) (hcc : c ≠ c2) (hrow : HsRow w4 b off cs (p + k)) (hsh : w4.cell? ⟨c2, 0, none⟩ = some (.int .i64 s)) (hfz : w4.frozen? ⟨c, 0, none⟩ = false)
    (hcur : w4.cell? ⟨c, 0, none⟩ = some (.slice (some ad0) m cm)) (hm : n - p = m) (hcm : cap - p = cm) (ad' : Addr) (had' : p + k < n → ad' = ⟨b, off + (p + k) * 4, none⟩) :
    At c c2 b off n cap s cs (p + k) (p + k) (w4.setCell ⟨c, 0, none⟩ (.slice (some ad') (m - k) (cm - k))) ∧ leftIn c (w4.setCell ⟨c, 0, none⟩ (.slice (some ad') (m - k) (cm - k))) = m - k := by
  have h1 := World.cell?_setCell_same' w4 ⟨c, 0, none⟩ (.slice (some ad') (m - k) (cm - k)) (by rw [hcur]; rfl)
  refine ⟨⟨fun q hr hq => ?_, ?_, by rw [World.frozen?_setCell]; exact hfz, ad', ?_, had'⟩, ?_⟩
  · exact (other_cell hcb _).trans (hrow q hr hq)
  · exact (other_cell hcc _).trans hsh
  · rw [h1, ← hm, ← hcm, Nat.sub_sub, Nat.sub_sub]
  · unfold leftIn
    rw [h1]

set_option maxRecDepth 10000 in
set_option maxHeartbeats 2000000 in
theorem bySlot_iter (N c c2 b off n cap s : Nat) (cs : List C) (hcs : cs.length = n) (hN : 1 ≤ N) (hn : n ≤ cap) (hcap : cap ≤ 9223372036854775807) (hs : 4 ≤ s) (hs2 : s ≤ 64) (hh : ∀ i, i < n → 0 ≤ (cAt cs i).hash ∧ (cAt cs i).hash < 18446744073709551616)
    (hcb : c ≠ b) (hcc : c ≠ c2) (U : List (Int × Nat × Nat) → World → Prop) (hUc : ∀ pre W v, U pre W → U pre (W.setCell ⟨c, 0, none⟩ v)) (hUd : ∀ pre W q, U pre W → U pre (W.drewN q)) :
    Iter Fence.wide N Try.prog 52 #[.pointer (some ⟨c, 0, none⟩), .pointer (some ⟨c2, 0, none⟩)] (encR b off cap) c (runsF cs s n 0)
      (fun pre W => U pre W ∧ At c c2 b off n cap s cs (pos pre) (pos pre) W) (fun pre W => U pre W ∧ ∃ q x, pre = q ++ [x] ∧ At c c2 b off n cap s cs (pos pre) (pos q) W) := by
  intro l J J2 hJ hJ2 hstep hdrew hY W hJ0
  have HH : Hid (∀ i, i < n → 0 ≤ (cAt cs i).hash ∧ (cAt cs i).hash < 18446744073709551616) := hh
  have HCS : Hid (cs.length = n) := hcs
  clear hh hcs
  refine callsIn_wide.2 ?_
  go_enter Try.func52, Try.ntmps52
  go_wp2
  go_loopw [4] (fun _ wr => ∃ (pre : List (Int × Nat × Nat)) (p f : Nat), Hid (runsF cs s n 0 = pre ++ runsF cs s f p) ∧ n - p ≤ f ∧ p ≤ n ∧ Hid (pos pre = p) ∧ Hid (J pre wr)) (fun _ wr => leftIn c wr)
  case atStart => exact ⟨[], 0, n, rfl, by omega, Nat.zero_le _, rfl, hJ0⟩
  case round =>
    obtain ⟨pre, p, f, hx, hf, hp, hpos, hJp⟩ := hrel
    obtain ⟨w0, hw0⟩ : ∃ w0, w0 = wr := ⟨_, rfl⟩
    subst hw0
    obtain ⟨hU, hAt⟩ := hJ _ _ hJp.out
    rw [hpos.out] at hAt
    obtain ⟨hrow, hsh, hfz, ad, hcur, had⟩ := hAt
    by_cases hlt : p < n
    · obtain rfl := had hlt
      obtain ⟨m, hm⟩ : ∃ m, n - p = m := ⟨_, rfl⟩
      obtain ⟨cm, hcm⟩ : ∃ cm, cap - p = cm := ⟨_, rfl⟩
      rw [hm, hcm] at hcur
      have hmb : 0 < m ∧ m ≤ cm ∧ cm ≤ 9223372036854775807 := by omega
      have HM : Hid _ := hm
      have HCM : Hid _ := hcm
      have hmb1 := hmb.1
      have hmb2 := hmb.2.1
      have hmb3 := hmb.2.2
      clear hm hcm hmb
      have hc0 := hrow p (Nat.le_refl _) (by rw [HCS.out]; exact hlt)
      obtain ⟨h, hhp⟩ : ∃ h, (cAt cs p).hash = h := ⟨_, rfl⟩
      have hhr := HH.out p hlt
      rw [hhp] at hc0 hhr
      have HHP : Hid _ := hhp
      clear hhp
      have hpc : p < cap := by omega
      obtain ⟨i, hi⟩ : ∃ i, slotOf h s = i := ⟨_, rfl⟩
      have HI : Hid _ := hi
      clear hi
      go_wp2
      go_quiet ((go_at_call 53; exact Calls.quiet_of_same (slot_at h s i _ HI.out hhr.1 hhr.2 hs hs2)))
      go_wp2
      go_loopw [5] (fun e w2 => ∃ k d : Nat, e = .int .i64 k ∧ 1 ≤ k ∧ p + k ≤ n ∧ Hid (w2 = w0.drewN d) ∧ Hid (∀ q, p ≤ q → q < p + k → slotOf (cAt cs q).hash s = i)) (fun e _ => n - (intOf e).toNat)
      case atStart => exact ⟨1, nq, rfl, Nat.le_refl _, hlt, rfl, fun q h1 h2 => by rw [show q = p by omega, HHP.out, HI.out]⟩
      case round =>
        obtain ⟨k, d, rfl, hk1, hkn, HW, hall⟩ := hrel
        have hrow2 : HsRow wr b off cs p := by rw [HW.out]; exact hrow
        have hsh2 : wr.cell? ⟨c2, 0, none⟩ = some (.int .i64 s) := by rw [HW.out]; exact hsh
        have hcur2 : wr.cell? ⟨c, 0, none⟩ = some (.slice (some ⟨b, off + p * 4, none⟩) m cm) := by rw [HW.out]; exact hcur
        have hfz2 : wr.frozen? ⟨c, 0, none⟩ = false := by rw [HW.out]; exact hfz
        by_cases hgo : p + k < n ∧ slotOf (cAt cs (p + k)).hash s = i
        · obtain ⟨hke, hsl⟩ := hgo
          have hck : wr.cell? ⟨b, off + p * 4 + k * 4, none⟩ = some (.int .u64 (cAt cs (p + k)).hash) := by
            rw [show off + p * 4 + k * 4 = off + (p + k) * 4 by omega]
            exact hrow2 (p + k) (by omega) (by rw [HCS.out]; exact hke)
          have hhr2 := HH.out (p + k) hke
          obtain ⟨h2, hh2⟩ : ∃ h2, (cAt cs (p + k)).hash = h2 := ⟨_, rfl⟩
          rw [hh2] at hck hhr2 hsl
          have HSL : Hid _ := hsl
          have HH2 : Hid _ := hh2
          clear hsl hh2
          have hkm0 : k < m := by have := HM.out; omega
          have hkm : (k : Int) < (m : Int) := by omega
          go_wp2
          go_quiet ((go_at_call 53; exact Calls.quiet_of_same (slot_at h2 s i _ HSL.out hhr2.1 hhr2.2 hs hs2)))
          go_wp2
          go_roundw
          case rel => exact ⟨k + 1, d + nq, by go_num, by omega, by omega, by show _ = _; rw [HW.out, World.drewN_drewN], fun q h1 h2' => by
            by_cases hq : q = p + k
            · rw [hq, HH2.out, HSL.out]
            · exact hall.out q h1 (by omega)⟩
          case measure => simp [intOf]; omega
        · have hend : Hid (p + k = cs.length ∨ slotOf (cAt cs (p + k)).hash s ≠ i) := by
            show _ ∨ _
            by_cases hke : p + k < n
            · exact .inr (fun e => hgo ⟨hke, e⟩)
            · exact .inl (by rw [HCS.out]; omega)
          have hrun : Hid (runTo cs s i cs.length (p + 1) = p + k) := runTo_eq cs s i cs.length (p + 1) (p + k) (by omega) (by rw [HCS.out]; exact hkn) (by rw [HCS.out]; omega) (fun q h1 h2 => hall.out q (by omega) h2) hend.out
          obtain ⟨f', hf'⟩ : ∃ f', f = f' + 1 := ⟨f - 1, by omega⟩
          have hxs : Hid (runsF cs s n 0 = pre ++ (i, p, k) :: runsF cs s f' (p + k)) := by
            show _ = _
            rw [hx.out, hf']
            congr 1
            conv => lhs; unfold runsF
            rw [if_pos (by rw [HCS.out]; exact hlt)]
            simp only [HHP.out, HI.out, hrun.out]
            rw [show p + k - p = k by omega]
          have hff : n - (p + k) ≤ f' := by omega
          clear hf'
          by_cases hke : p + k < n
          · have hck : wr.cell? ⟨b, off + p * 4 + k * 4, none⟩ = some (.int .u64 (cAt cs (p + k)).hash) := by
              rw [show off + p * 4 + k * 4 = off + (p + k) * 4 by omega]
              exact hrow2 (p + k) (by omega) (by rw [HCS.out]; exact hke)
            have hhr2 := HH.out (p + k) hke
            obtain ⟨i2, hi2⟩ : ∃ i2, slotOf (cAt cs (p + k)).hash s = i2 := ⟨_, rfl⟩
            have hne : (i2 == i) = false := by rw [beq_eq_false_iff_ne, ← hi2]; exact fun e => hgo ⟨hke, e⟩
            obtain ⟨h2, hh2⟩ : ∃ h2, (cAt cs (p + k)).hash = h2 := ⟨_, rfl⟩
            rw [hh2] at hck hhr2 hi2
            have HI2 : Hid _ := hi2
            clear hi2 hh2 hgo
            have hkm0 : k < m := by have := HM.out; omega
            have hkm : (k : Int) < (m : Int) := by omega
            go_wp2
            go_quiet ((go_at_call 53; exact Calls.quiet_of_same (slot_at h2 s i2 _ HI2.out hhr2.1 hhr2.2 hs hs2)))
            go_upto_region 5 with fail
            have hJd : Hid (J pre (wr.drewN nq)) := by
              have h1 : wr.drewN nq = w0.drewN (d + nq) := by rw [HW.out, World.drewN_drewN]
              rw [h1]
              exact hdrew pre w0 (d + nq) hJp.out ⟨hUd _ _ _ hU, by rw [hpos.out]; exact ⟨hrow, hsh, hfz, ⟨b, off + p * 4, none⟩, by rw [HM.out, HCM.out]; exact hcur, fun _ => rfl⟩⟩
            obtain ⟨w3, hw3⟩ : ∃ w3, w3 = wr.drewN nq := ⟨_, rfl⟩
            have hcur3 : w3.cell? ⟨c, 0, none⟩ = some (.slice (some ⟨b, off + p * 4, none⟩) m cm) := by rw [hw3]; exact hcur2
            rw [← hw3] at hJd ⊢
            clear hw3
            obtain ⟨fn, tmps, assign, body, hy, hR⟩ := hY pre (i, p, k) _ w3 hxs.out hJd.out
            have he : encR b off cap (i, p, k) = #[.int .i64 i, .slice (some ⟨b, off + p * 4, none⟩) k cm] := by simp only [encR]; rw [HCM.out]
            rw [he] at hy
            clear he
            refine (wpIn_wide (n := N)).1 ?_
            gi_wp2
            refine hR.mono ?_
            rintro e4 w4 ⟨rfl, hJ4⟩
            obtain ⟨hU4, q4, x4, hq4, hA4⟩ := hJ2 _ _ hJ4
            obtain ⟨rfl, hx4⟩ := List.append_inj' hq4 rfl
            rw [pos_snoc, hpos.out] at hA4
            obtain ⟨hrow4, hsh4, hfz4, ad4, hcur4, had4⟩ := hA4
            obtain rfl := had4 hlt
            rw [HM.out, HCM.out] at hcur4
            have HJ4 : Hid _ := hJ4
            have HU4 : Hid (U (pre ++ [(i, p, k)]) w4) := hU4
            have HR4 : Hid (HsRow w4 b off cs (p + k)) := hrow4
            clear hq4 hx4 had4 hJ4 hU4 hrow4 hR hy
            have hkcm : (k : Int) ≤ (cm : Int) := by omega
            have hl0 : Hid (leftIn c w0 = m) := by show _ = _; unfold leftIn; rw [hcur]
            have hx2 : Hid (runsF cs s n 0 = (pre ++ [(i, p, k)]) ++ runsF cs s f' (p + k)) := by show _ = _; rw [hxs.out]; simp
            have hpos2 : Hid (pos (pre ++ [(i, p, k)]) = p + k) := by show _ = _; rw [pos_snoc, hpos.out]
            by_cases hkc : cm = k
            · exfalso
              omega
            · have hT := at_turn (s := s) (k := k) hcb hcc HR4.out hsh4 hfz4 hcur4 HM.out HCM.out ⟨b, off + p * 4 + k * 4, none⟩ (fun _ => by rw [show off + p * 4 + k * 4 = off + (p + k) * 4 by omega])
              have HT : Hid _ := hT
              clear hT
              gi_wp2
              go_wp2
              go_roundw
              case rel => exact ⟨pre ++ [(i, p, k)], p + k, f', hx2, hff, hkn, hpos2, hstep _ _ _ HJ4.out ⟨hUc _ _ _ HU4.out, by rw [hpos2.out]; exact HT.out.1⟩⟩
              case measure => rw [HT.out.2, hl0.out]; omega
          · have hkm : k = m := by have := HM.out; omega
            have hd : decide (k < m) = false := by simp; omega
            have hd2 : decide ((k : Int) < (m : Int)) = false := by simp; omega
            have hkm2 : k ≤ m := by omega
            clear hgo hkm
            go_wp2
            go_quiet (fail)
            go_upto_region 5 with fail
            have hJd : Hid (J pre (wr.drewN nq)) := by
              have h1 : wr.drewN nq = w0.drewN (d + nq) := by rw [HW.out, World.drewN_drewN]
              rw [h1]
              exact hdrew pre w0 (d + nq) hJp.out ⟨hUd _ _ _ hU, by rw [hpos.out]; exact ⟨hrow, hsh, hfz, ⟨b, off + p * 4, none⟩, by rw [HM.out, HCM.out]; exact hcur, fun _ => rfl⟩⟩
            obtain ⟨w3, hw3⟩ : ∃ w3, w3 = wr.drewN nq := ⟨_, rfl⟩
            have hcur3 : w3.cell? ⟨c, 0, none⟩ = some (.slice (some ⟨b, off + p * 4, none⟩) m cm) := by rw [hw3]; exact hcur2
            rw [← hw3] at hJd ⊢
            clear hw3
            obtain ⟨fn, tmps, assign, body, hy, hR⟩ := hY pre (i, p, k) _ w3 hxs.out hJd.out
            have he : encR b off cap (i, p, k) = #[.int .i64 i, .slice (some ⟨b, off + p * 4, none⟩) k cm] := by simp only [encR]; rw [HCM.out]
            rw [he] at hy
            clear he
            refine (wpIn_wide (n := N)).1 ?_
            gi_wp2
            refine hR.mono ?_
            rintro e4 w4 ⟨rfl, hJ4⟩
            obtain ⟨hU4, q4, x4, hq4, hA4⟩ := hJ2 _ _ hJ4
            obtain ⟨rfl, hx4⟩ := List.append_inj' hq4 rfl
            rw [pos_snoc, hpos.out] at hA4
            obtain ⟨hrow4, hsh4, hfz4, ad4, hcur4, had4⟩ := hA4
            obtain rfl := had4 hlt
            rw [HM.out, HCM.out] at hcur4
            have HJ4 : Hid _ := hJ4
            have HU4 : Hid (U (pre ++ [(i, p, k)]) w4) := hU4
            have HR4 : Hid (HsRow w4 b off cs (p + k)) := hrow4
            clear hq4 hx4 had4 hJ4 hU4 hrow4 hR hy
            have hkcm : (k : Int) ≤ (cm : Int) := by omega
            have hl0 : Hid (leftIn c w0 = m) := by show _ = _; unfold leftIn; rw [hcur]
            have hx2 : Hid (runsF cs s n 0 = (pre ++ [(i, p, k)]) ++ runsF cs s f' (p + k)) := by show _ = _; rw [hxs.out]; simp
            have hpos2 : Hid (pos (pre ++ [(i, p, k)]) = p + k) := by show _ = _; rw [pos_snoc, hpos.out]
            by_cases hkc : cm = k
            · have hT := at_turn (s := s) (k := k) hcb hcc HR4.out hsh4 hfz4 hcur4 HM.out HCM.out ⟨b, off + p * 4, none⟩ (fun h => by have := HM.out; have := HCM.out; omega)
              rw [show cm - k = 0 by omega] at hT
              have HT : Hid _ := hT
              clear hT
              gi_wp2
              go_wp2
              go_roundw
              case rel => exact ⟨pre ++ [(i, p, k)], p + k, f', hx2, hff, hkn, hpos2, hstep _ _ _ HJ4.out ⟨hUc _ _ _ HU4.out, by rw [hpos2.out]; exact HT.out.1⟩⟩
              case measure => rw [HT.out.2, hl0.out]; omega
            · have hT := at_turn (s := s) (k := k) hcb hcc HR4.out hsh4 hfz4 hcur4 HM.out HCM.out ⟨b, off + p * 4 + k * 4, none⟩ (fun _ => by rw [show off + p * 4 + k * 4 = off + (p + k) * 4 by omega])
              have HT : Hid _ := hT
              clear hT
              gi_wp2
              go_wp2
              go_roundw
              case rel => exact ⟨pre ++ [(i, p, k)], p + k, f', hx2, hff, hkn, hpos2, hstep _ _ _ HJ4.out ⟨hUc _ _ _ HU4.out, by rw [hpos2.out]; exact HT.out.1⟩⟩
              case measure => rw [HT.out.2, hl0.out]; omega
    · obtain rfl : p = n := by omega
      have hfin : Hid (runsF cs s p 0 = pre) := by
        show _ = _
        have h1 := hx.out
        have h2 : runsF cs s f p = [] := by
          cases f with
          | zero => rfl
          | succ f => unfold runsF; rw [if_neg (by rw [HCS.out]; omega)]
        rw [h2, List.append_nil] at h1
        exact h1
      rw [Nat.sub_self] at hcur
      go_wp2
      go_end0
      exact ⟨⟨_, rfl⟩, by rw [hfin.out]; exact hJp.out⟩
end Go.Proofs.Qxb6603644a
