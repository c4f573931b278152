/-
  THE WALKS of (*walk).at (48), (*walk).integer (40), ZZInteger (23).
-/
import Derived.Test.Qxb6603067aKit
import Derived.Test.Qxb6603067aIntPlain
import Derived.WalkLawsBesides
import Derived.BigQuiet
import Derived.Deep.QuietTactic
namespace Go.Proofs.Qxb6603067a
open Go.RowKit
open Plain

/-- the walk's struct at block W: its data, where it has come to; the layout is nil -/
def Wk (w : World) (W : Nat) (a : Option Addr) (len cap : Nat) (i : Nat) : Prop :=
  w.cell? ⟨W, 0, none⟩ = some (.slice a len cap) ∧ w.cell? ⟨W, 1, none⟩ = some (.int .i64 i) ∧ w.frozen? ⟨W, 1, none⟩ = false

theorem Wk.set {w : World} {W : Nat} {a : Option Addr} {len cap i : Nat} (h : Wk w W a len cap i) (j : Nat) (x : Int) (hx : x = j) : Wk (w.setCell ⟨W, 1, none⟩ (.int .i64 x)) W a len cap j := by
  obtain ⟨c0, c1, f1⟩ := h
  subst hx
  refine ⟨?_, ?_, ?_⟩ <;> simp [go_sem, c0, c1, f1]

theorem Wk.drewN {w : World} {W : Nat} {a : Option Addr} {len cap i : Nat} (h : Wk w W a len cap i) (n : Nat) : Wk (w.drewN n) W a len cap i := h

theorem ret_int {k : IntKind} {a b : Int} (h : a = b) : Ending.returned (.int k a) = .returned (.int k b) := by rw [h]
theorem drewN_two (w : World) (m n : Nat) : (w.drewN m).drewN n = w.drewN (m + n) := by simp [World.drewN, Nat.add_assoc]

set_option maxRecDepth 10000 in
set_option maxHeartbeats 400000 in
theorem at_any (W : Nat) (a : Option Addr) (len cap : Nat) (zs : List Int) (i : Nat) (w : World) (_hlen : len ≤ 1048576) (hk : Wk w W a len cap i) (hb : Bytes w W a len zs) :
    Calls Try.prog 48 #[.pointer (some ⟨W, 0, none⟩)] w fun x w' => x = .returned (.int .u8 (zs.getD i 0)) ∧ ∃ n, w' = w.drewN n := by
  obtain ⟨c0, c1, f1⟩ := hk
  have hl := hb.1
  by_cases hi : i < len
  · obtain ⟨b, off, rfl, hbW, hc⟩ : ∃ b off, a = some ⟨b, off, none⟩ ∧ b < W ∧ ∀ i, i < len → w.cell? ⟨b, off + i, none⟩ = some (.int .u8 (zs.getD i 0)) := by
      rcases hb.2 with h0 | h
      · omega
      · exact h
    have hci := hc i hi
    clear hc hb
    go_enter Try.func48, Try.ntmps48
    go_wp2
    go_quiet (fail)
    go_wp2
    go_quiet (fail)
    go_wp2
    go_ret
    exact ⟨ret_int (by simp [show i < zs.length by omega]), _, drewN_two _ _ _⟩
  · go_enter Try.func48, Try.ntmps48
    go_wp2
    go_quiet (fail)
    go_wp2
    go_ret
    exact ⟨ret_int (by simp [show ¬ i < zs.length by omega]), _, rfl⟩

/-- what integer answers, by its plain run -/
structure IA where
  v : Int
  ok : Bool
  next : Nat

def intAns (L : Nat) (zs : List Int) (i : Nat) : IA :=
  let neg := zs.getD i 0 = 45
  let j := if neg then i + 1 else i
  let r := run L (zs.drop j) 0
  if r.fin = false then ⟨0, false, j + r.used⟩
  else if r.used = 0 ∨ (1 < r.used ∧ zs.getD j 0 = 48) ∨ (neg ∧ r.m = 0) then ⟨0, false, j + r.used⟩
  else if neg then ⟨-(r.m : Int), true, j + r.used⟩
  else ⟨wrap64 r.m, decide (r.m < L), j + r.used⟩

theorem at_at (W : Nat) (a : Option Addr) (len cap : Nat) (zs : List Int) (i : Nat) (c : Int) (w : World) (hk : Wk w W a len cap i) (hb : Bytes w W a len zs) (hc : Hid (zs.getD i 0 = c)) (hlen : len ≤ 1048576) :
    Calls Try.prog 48 #[.pointer (some ⟨W, 0, none⟩)] w fun x w' => x = .returned (.int .u8 c) ∧ ∃ n, w' = w.drewN n := by
  rw [← hc.out]
  exact at_any W a len cap zs i w hlen hk hb

theorem Bytes.drewN {w : World} {B : Nat} {a : Option Addr} {len : Nat} {zs : List Int} (h : Bytes w B a len zs) (n : Nat) : Bytes (w.drewN n) B a len zs := h

def IntPost (W : Nat) (a : Option Addr) (len cap : Nat) (w : World) (r : IA) (x : Ending) (w' : World) : Prop :=
  x = .returned (.tuple #[.int .i64 r.v, .bool r.ok]) ∧ Wk w' W a len cap r.next ∧ Below W w w'

theorem run_goes {L : Nat} {zs : List Int} {j c m : Nat} {x : Int} (h : Hid (run L (zs.drop j) 0 = (run L (zs.drop (j + c)) m).more c)) (hx : Hid (zs.getD (j + c) 0 = x)) (h1 : 48 ≤ x) (h2 : x ≤ 57)
    (h3 : ¬ L / 10 < m) (h4 : ¬ L < m * 10 + (x - 48).toNat) (hj : j + c < zs.length) : Hid (run L (zs.drop j) 0 = (run L (zs.drop (j + (c + 1))) (m * 10 + (x - 48).toNat)).more (c + 1)) := by
  have h' := h.out
  have hx' := hx.out
  simp [hj] at hx'
  rw [List.drop_eq_getElem_cons hj] at h'
  simp only [run, hx', (dg_iff x).2 ⟨h1, h2⟩, if_true] at h'
  rw [if_neg h3, if_neg (by unfold dv; exact h4), Run.more_more, Nat.add_comm 1 c] at h'
  exact h'

theorem run_stops {L : Nat} {zs : List Int} {j c m : Nat} {x : Int} (h : Hid (run L (zs.drop j) 0 = (run L (zs.drop (j + c)) m).more c)) (hx : Hid (zs.getD (j + c) 0 = x)) (h1 : 48 ≤ x) (h2 : x ≤ 57)
    (h3 : L / 10 < m ∨ L < m * 10 + (x - 48).toNat) (hj : j + c < zs.length) : ∃ m', run L (zs.drop j) 0 = ⟨false, m', c⟩ := by
  have h' := h.out
  have hx' := hx.out
  simp [hj] at hx'
  rw [List.drop_eq_getElem_cons hj] at h'
  simp only [run, hx', (dg_iff x).2 ⟨h1, h2⟩, if_true] at h'
  by_cases h5 : L / 10 < m
  · rw [if_pos h5] at h'
    exact ⟨m, by simpa [Run.more] using h'⟩
  · rw [if_neg h5, if_pos (by rcases h3 with h3 | h3; exact absurd h3 h5; unfold dv; exact h3)] at h'
    exact ⟨_, by simpa [Run.more] using h'⟩

theorem run_ends {L : Nat} {zs : List Int} {j c m : Nat} {x : Int} (h : Hid (run L (zs.drop j) 0 = (run L (zs.drop (j + c)) m).more c)) (hx : Hid (zs.getD (j + c) 0 = x)) (h1 : ¬ (48 ≤ x ∧ x ≤ 57)) :
    run L (zs.drop j) 0 = ⟨true, m, c⟩ := by
  have h' := h.out
  have hx' := hx.out
  by_cases hj : j + c < zs.length
  · simp [hj] at hx'
    rw [List.drop_eq_getElem_cons hj] at h'
    have hd : dg x = false := by
      cases hd : dg x
      · rfl
      · exact absurd ((dg_iff x).1 hd) h1
    simp only [run, hx', hd] at h'
    simpa [Run.more] using h'
  · rw [List.drop_eq_nil_of_le (show zs.length ≤ j + c by omega)] at h'
    rw [h']
    simp [run, Run.more]

theorem ans_stop_neg {L : Nat} {zs : List Int} {i c : Nat} (hn : Hid (zs.getD i 0 = 45)) (h : ∃ m', run L (zs.drop (i + 1)) 0 = ⟨false, m', c⟩) : intAns L zs i = ⟨0, false, i + 1 + c⟩ := by
  obtain ⟨m', h⟩ := h
  have hn' := hn.out
  unfold intAns
  simp only [hn', if_true, h]
theorem ans_bad_neg {L : Nat} {zs : List Int} {i c m : Nat} (hn : Hid (zs.getD i 0 = 45)) (h : run L (zs.drop (i + 1)) 0 = ⟨true, m, c⟩) (hbad : c = 0 ∨ (1 < c ∧ zs.getD (i + 1) 0 = 48) ∨ m = 0) : intAns L zs i = ⟨0, false, i + 1 + c⟩ := by
  have hn' := hn.out
  unfold intAns
  simp only [hn', if_true, h, true_and]
  rw [if_neg (by simp), if_pos hbad]
theorem ans_ok_neg {L : Nat} {zs : List Int} {i c m : Nat} (hn : Hid (zs.getD i 0 = 45)) (h : run L (zs.drop (i + 1)) 0 = ⟨true, m, c⟩) (hbad : ¬ (c = 0 ∨ (1 < c ∧ zs.getD (i + 1) 0 = 48) ∨ m = 0)) : intAns L zs i = ⟨-(m : Int), true, i + 1 + c⟩ := by
  have hn' := hn.out
  unfold intAns
  simp only [hn', if_true, h, true_and]
  rw [if_neg (by simp), if_neg hbad]
theorem ans_stop_pos {L : Nat} {zs : List Int} {i c : Nat} (hn : ¬ zs.getD i 0 = 45) (h : ∃ m', run L (zs.drop i) 0 = ⟨false, m', c⟩) : intAns L zs i = ⟨0, false, i + c⟩ := by
  obtain ⟨m', h⟩ := h
  unfold intAns
  simp only [hn, if_false, h, if_true]
theorem ans_bad_pos {L : Nat} {zs : List Int} {i c m : Nat} (hn : ¬ zs.getD i 0 = 45) (h : run L (zs.drop i) 0 = ⟨true, m, c⟩) (hbad : c = 0 ∨ (1 < c ∧ zs.getD i 0 = 48)) : intAns L zs i = ⟨0, false, i + c⟩ := by
  unfold intAns
  simp only [hn, if_false, h, false_and, or_false]
  rw [if_neg (by simp), if_pos hbad]
theorem ans_ok_pos {L : Nat} {zs : List Int} {i c m : Nat} (hn : ¬ zs.getD i 0 = 45) (h : run L (zs.drop i) 0 = ⟨true, m, c⟩) (hbad : ¬ (c = 0 ∨ (1 < c ∧ zs.getD i 0 = 48))) : intAns L zs i = ⟨wrap64 m, decide (m < L), i + c⟩ := by
  unfold intAns
  simp only [hn, if_false, h, false_and, or_false]
  rw [if_neg (by simp), if_neg hbad]

theorem notbad {zs : List Int} {c m j : Nat} {y : Int} (hc : ¬ c = 0) (hy : Hid (zs.getD j 0 = y)) (h : 1 < c → y ≠ 48) (hm : ¬ m = 0) : ¬ (c = 0 ∨ (1 < c ∧ zs.getD j 0 = 48) ∨ m = 0) := by
  rintro (h1 | ⟨h1, h2⟩ | h1)
  · exact hc h1
  · exact h h1 (hy.out.symm.trans h2)
  · exact hm h1
theorem notbad' {zs : List Int} {c j : Nat} {y : Int} (hc : ¬ c = 0) (hy : Hid (zs.getD j 0 = y)) (h : 1 < c → y ≠ 48) : ¬ (c = 0 ∨ (1 < c ∧ zs.getD j 0 = 48)) := by
  rintro (h1 | ⟨h1, h2⟩)
  · exact hc h1
  · exact h h1 (hy.out.symm.trans h2)

theorem neg_wrap (m : Nat) (h : m ≤ 9223372036854775808) : wrap64 (-wrap64 (m : Int)) = -(m : Int) := by
  unfold wrap64; omega

theorem post_of {W : Nat} {a : Option Addr} {len cap : Nat} {w w' : World} {r : IA} {v : Int} {ok : Bool} {next : Nat} (h : r = ⟨v, ok, next⟩) {v' : Int} (hv : v' = v) (hk : Wk w' W a len cap next) (hb : Below W w w') :
    IntPost W a len cap w r (.returned (.tuple #[.int .i64 v', .bool ok])) w' := by
  subst h hv
  exact ⟨rfl, hk, hb⟩

theorem post_dec {W : Nat} {a : Option Addr} {len cap : Nat} {w w' : World} {r : IA} {v : Int} {ok : Bool} {next : Nat} (h : r = ⟨v, ok, next⟩) {v' : Int} (hv : v' = v) {ok' : Bool} (hok : ok' = ok) (hk : Wk w' W a len cap next) (hb : Below W w w') :
    IntPost W a len cap w r (.returned (.tuple #[.int .i64 v', .bool ok'])) w' := by
  subst h hv hok
  exact ⟨rfl, hk, hb⟩

theorem Wk.at {w : World} {W : Nat} {a : Option Addr} {len cap i : Nat} (h : Wk w W a len cap i) : (intOf ((w.cell? ⟨W, 1, none⟩).getD (.int .i64 0))).toNat = i := by
  rw [h.2.1]; simp [intOf]

set_option maxRecDepth 10000 in
set_option maxHeartbeats 800000 in
theorem integer_neg (W : Nat) (a : Option Addr) (len cap : Nat) (zs : List Int) (i : Nat) (bits L : Nat) (w : World) (hlen : len ≤ 1048576) (hk : Wk w W a len cap i) (hb : Bytes w W a len zs)
    (hb1 : 1 ≤ bits) (hb2 : bits ≤ 64) (hL : IntKind.u64.wrap (2 ^ (bits - 1)) = (L : Int)) (hL2 : L ≤ 9223372036854775808) (hneg : Hid (zs.getD i 0 = 45)) :
    Calls Try.prog 40 #[.pointer (some ⟨W, 0, none⟩), .int .i64 bits] w (IntPost W a len cap w (intAns L zs i)) := by
  have hk' := hk
  obtain ⟨c0, c1, f1⟩ := hk'
  have hl := hb.1
  have hil : i < len := by
    apply Classical.byContradiction
    intro h
    have := hneg.out
    simp [show ¬ i < zs.length by omega] at this
  go_enter Try.func40, Try.ntmps40
  go_wp2_with (go_at_call 48; refine (at_at W a len cap zs i 45 _ ?_ ?_ hneg hlen).mono ?_; exact hk; exact hb; rintro x w1 ⟨rfl, n, rfl⟩)
  clear hL
  go_loopw [9] (fun t wr => ∃ (c m : Nat), t = .int .u64 m ∧ m ≤ L ∧ i + 1 + c ≤ len ∧ Wk wr W a len cap (i + 1 + c) ∧ Bytes wr W a len zs ∧ Below W w wr ∧ Hid (run L (zs.drop (i + 1)) 0 = (run L (zs.drop (i + 1 + c)) m).more c))
    (fun _ wr => len - (intOf ((wr.cell? ⟨W, 1, none⟩).getD (.int .i64 0))).toNat)
  case atStart =>
    have hB : Below W w ((w.drewN n).setCell { block := W, off := 1 } (Value.int IntKind.i64 (↑i + 1))) := (below_drewN (Below.refl W w) n).setCell (Nat.le_refl W) _
    exact ⟨0, 0, rfl, Nat.zero_le _, by omega, (hk.drewN n).set _ _ (by omega), hb.later hB (Nat.le_refl _), hB, rfl⟩
  case round =>
    obtain ⟨c, m, rfl, hmL, hcl, hkr, hbr, hbel, hrun⟩ := hrel
    clear hk hb c0 c1 f1
    have hk' := hkr
    obtain ⟨c0, c1, f1⟩ := hk'
    obtain ⟨x, hx⟩ : ∃ x, Hid (zs.getD (i + 1 + c) 0 = x) := ⟨_, rfl⟩
    by_cases hd : 48 ≤ x ∧ x ≤ 57
    · obtain ⟨hd1, hd2⟩ := hd
      have hil : i + 1 + c < len := by
        apply Classical.byContradiction
        intro h
        have := hx.out
        simp [show ¬ i + 1 + c < zs.length by omega] at this
        omega
      by_cases hm : L / 10 < m
      · have A : Hid _ := ans_stop_neg hneg (run_stops hrun hx hd1 hd2 (.inl hm) (by omega))
        go_wp2_with (go_at_call 48; refine (at_at W a len cap zs (i + 1 + c) x _ ?_ ?_ hx hlen).mono ?_; exact hkr; exact hbr; rintro y w1 ⟨rfl, n1, rfl⟩)
        go_ret2
        exact post_of A.out rfl hkr (below_drewN hbel _)
      · by_cases hm2 : L < m * 10 + (x - 48).toNat
        · have A : Hid _ := ans_stop_neg hneg (run_stops hrun hx hd1 hd2 (.inr hm2) (by omega))
          go_wp2_with (go_at_call 48; refine (at_at W a len cap zs (i + 1 + c) x _ ?_ ?_ hx hlen).mono ?_; exact hkr; exact hbr; rintro y w1 ⟨rfl, n1, rfl⟩)
          go_ret2
          exact post_of A.out rfl hkr (below_drewN hbel _)
        · have G := run_goes hrun hx hd1 hd2 hm hm2 (by omega)
          go_wp2_with (go_at_call 48; refine (at_at W a len cap zs (i + 1 + c) x _ ?_ ?_ hx hlen).mono ?_; exact hkr; exact hbr; rintro y w1 ⟨rfl, n1, rfl⟩)
          have hB : ∀ k (y : Value), Below W w ((wr.drewN k).setCell { block := W, off := 1 } y) := fun k y => (below_drewN hbel k).setCell (Nat.le_refl W) _
          have hK : ∀ k, Wk ((wr.drewN k).setCell { block := W, off := 1 } (.int .i64 (↑i + 1 + ↑c + 1))) W a len cap (i + 1 + (c + 1)) := fun k => (hkr.drewN k).set _ _ (by omega)
          go_roundw
          case rel => exact ⟨c + 1, m * 10 + (x - 48).toNat, by go_num, by omega, by omega, hK _, hbr.later ((below_drewN (Below.refl W wr) _).setCell (Nat.le_refl W) _) (Nat.le_refl _), hB _ _, G⟩
          case measure => rw [(hK _).at, hkr.at]; omega
    · have R : Hid _ := run_ends hrun hx hd
      by_cases hc0 : c = 0
      · have A : Hid _ := ans_bad_neg hneg R.out (.inl hc0)
        subst hc0
        by_cases hlow : 48 ≤ x
        · have hhigh : 57 < x := by omega
          clear hd
          go_wp2_with (go_at_call 48; refine (at_at W a len cap zs (i + 1 + 0) x _ ?_ ?_ hx hlen).mono ?_; exact hkr; exact hbr; rintro y w1 ⟨rfl, n1, rfl⟩)
          go_ret2
          exact post_of A.out rfl hkr (below_drewN hbel _)
        · clear hd
          go_wp2_with (go_at_call 48; refine (at_at W a len cap zs (i + 1 + 0) x _ ?_ ?_ hx hlen).mono ?_; exact hkr; exact hbr; rintro y w1 ⟨rfl, n1, rfl⟩)
          go_ret2
          exact post_of A.out rfl hkr (below_drewN hbel _)
      · obtain ⟨b, off, rfl, hbW, hcs⟩ : ∃ b off, a = some ⟨b, off, none⟩ ∧ b < W ∧ ∀ i, i < len → wr.cell? ⟨b, off + i, none⟩ = some (.int .u8 (zs.getD i 0)) := by
          rcases hbr.2 with h0 | h
          · omega
          · exact h
        have hcj := hcs (i + 1) (by omega)
        obtain ⟨y, hy⟩ : ∃ y, zs.getD (i + 1) 0 = y := ⟨_, rfl⟩
        rw [hy] at hcj
        have HY : Hid (zs.getD (i + 1) 0 = y) := hy
        clear hcs hy
        by_cases hlow : 48 ≤ x
        · have hhigh : 57 < x := by omega
          clear hd
          go_wp2_with (go_at_call 48; refine (at_at W (some ⟨b, off, none⟩) len cap zs (i + 1 + c) x _ ?_ ?_ hx hlen).mono ?_; exact hkr; exact hbr; rintro q w1 ⟨rfl, n1, rfl⟩)
          all_goals
            go_ret2
            first
            | (have hy1 : (y == 48) = true := by assumption
               exact post_of (ans_bad_neg hneg R.out (.inr (.inl ⟨by omega, HY.out.trans (by simpa using hy1)⟩))) rfl hkr (below_drewN hbel _))
            | (have hm0 : ((m : Int) == 0) = true := by assumption
               exact post_of (ans_bad_neg hneg R.out (.inr (.inr (by simpa using hm0)))) rfl hkr (below_drewN hbel _))
            | (have hm0 : ((m : Int) == 0) = false := by assumption
               have hy1 : (y == 48) = false := by assumption
               exact post_of (ans_ok_neg hneg R.out (notbad hc0 HY (fun _ => by simpa using hy1) (by simpa using hm0))) (neg_wrap m (by omega)) hkr (below_drewN hbel _))
            | (have hm0 : ((m : Int) == 0) = false := by assumption
               exact post_of (ans_ok_neg hneg R.out (notbad hc0 HY (fun h => by omega) (by simpa using hm0))) (neg_wrap m (by omega)) hkr (below_drewN hbel _))
        · clear hd
          go_wp2_with (go_at_call 48; refine (at_at W (some ⟨b, off, none⟩) len cap zs (i + 1 + c) x _ ?_ ?_ hx hlen).mono ?_; exact hkr; exact hbr; rintro q w1 ⟨rfl, n1, rfl⟩)
          all_goals
            go_ret2
            first
            | (have hy1 : (y == 48) = true := by assumption
               exact post_of (ans_bad_neg hneg R.out (.inr (.inl ⟨by omega, HY.out.trans (by simpa using hy1)⟩))) rfl hkr (below_drewN hbel _))
            | (have hm0 : ((m : Int) == 0) = true := by assumption
               exact post_of (ans_bad_neg hneg R.out (.inr (.inr (by simpa using hm0)))) rfl hkr (below_drewN hbel _))
            | (have hm0 : ((m : Int) == 0) = false := by assumption
               have hy1 : (y == 48) = false := by assumption
               exact post_of (ans_ok_neg hneg R.out (notbad hc0 HY (fun _ => by simpa using hy1) (by simpa using hm0))) (neg_wrap m (by omega)) hkr (below_drewN hbel _))
            | (have hm0 : ((m : Int) == 0) = false := by assumption
               exact post_of (ans_ok_neg hneg R.out (notbad hc0 HY (fun h => by omega) (by simpa using hm0))) (neg_wrap m (by omega)) hkr (below_drewN hbel _))
set_option maxRecDepth 10000 in
set_option maxHeartbeats 800000 in
theorem integer_pos (W : Nat) (a : Option Addr) (len cap : Nat) (zs : List Int) (i : Nat) (bits L : Nat) (w : World) (hlen : len ≤ 1048576) (hk : Wk w W a len cap i) (hb : Bytes w W a len zs)
    (hb1 : 1 ≤ bits) (hb2 : bits ≤ 64) (hL : IntKind.u64.wrap (2 ^ (bits - 1)) = (L : Int)) (hL2 : L ≤ 9223372036854775808) (f : Int) (hf : Hid (zs.getD i 0 = f)) (hf45 : (f == 45) = false) (hi : i ≤ 9223372036854775807) :
    Calls Try.prog 40 #[.pointer (some ⟨W, 0, none⟩), .int .i64 bits] w (IntPost W a len cap w (intAns L zs i)) := by
  have hk' := hk
  obtain ⟨c0, c1, f1⟩ := hk'
  have hl := hb.1
  have hneg : Hid (¬ zs.getD i 0 = 45) := by
    show ¬ _
    rw [hf.out]
    simpa using hf45
  go_enter Try.func40, Try.ntmps40
  go_wp2_with (go_at_call 48; refine (at_at W a len cap zs i f _ ?_ ?_ hf hlen).mono ?_; exact hk; exact hb; rintro x w1 ⟨rfl, n, rfl⟩)
  clear hL
  go_loopw [9] (fun t wr => ∃ (c m : Nat), t = .int .u64 m ∧ m ≤ L ∧ c ≤ len ∧ (0 < c → i + c ≤ len) ∧ Wk wr W a len cap (i + c) ∧ Bytes wr W a len zs ∧ Below W w wr ∧ Hid (run L (zs.drop i) 0 = (run L (zs.drop (i + c)) m).more c))
    (fun _ wr => len - (intOf ((wr.cell? ⟨W, 1, none⟩).getD (.int .i64 0))).toNat)
  case atStart =>
    exact ⟨0, 0, rfl, Nat.zero_le _, by omega, by omega, hk.drewN n, hb.drewN n, below_drewN (Below.refl _ _) n, rfl⟩
  case round =>
    obtain ⟨c, m, rfl, hmL, hcl, hcl2, hkr, hbr, hbel, hrun⟩ := hrel
    clear hk hb c0 c1 f1
    have hk' := hkr
    obtain ⟨c0, c1, f1⟩ := hk'
    obtain ⟨x, hx⟩ : ∃ x, Hid (zs.getD (i + c) 0 = x) := ⟨_, rfl⟩
    by_cases hd : 48 ≤ x ∧ x ≤ 57
    · obtain ⟨hd1, hd2⟩ := hd
      have hil : i + c < len := by
        apply Classical.byContradiction
        intro h
        have := hx.out
        simp [show ¬ i + c < zs.length by omega] at this
        omega
      by_cases hm : L / 10 < m
      · have A : Hid _ := ans_stop_pos hneg.out (run_stops hrun hx hd1 hd2 (.inl hm) (by omega))
        go_wp2_with (go_at_call 48; refine (at_at W a len cap zs (i + c) x _ ?_ ?_ hx hlen).mono ?_; exact hkr; exact hbr; rintro y w1 ⟨rfl, n1, rfl⟩)
        go_ret2
        exact post_of A.out rfl hkr (below_drewN hbel _)
      · by_cases hm2 : L < m * 10 + (x - 48).toNat
        · have A : Hid _ := ans_stop_pos hneg.out (run_stops hrun hx hd1 hd2 (.inr hm2) (by omega))
          go_wp2_with (go_at_call 48; refine (at_at W a len cap zs (i + c) x _ ?_ ?_ hx hlen).mono ?_; exact hkr; exact hbr; rintro y w1 ⟨rfl, n1, rfl⟩)
          go_ret2
          exact post_of A.out rfl hkr (below_drewN hbel _)
        · have G := run_goes hrun hx hd1 hd2 hm hm2 (by omega)
          go_wp2_with (go_at_call 48; refine (at_at W a len cap zs (i + c) x _ ?_ ?_ hx hlen).mono ?_; exact hkr; exact hbr; rintro y w1 ⟨rfl, n1, rfl⟩)
          have hB : ∀ k (y : Value), Below W w ((wr.drewN k).setCell { block := W, off := 1 } y) := fun k y => (below_drewN hbel k).setCell (Nat.le_refl W) _
          have hK : ∀ k, Wk ((wr.drewN k).setCell { block := W, off := 1 } (.int .i64 (↑i + ↑c + 1))) W a len cap (i + (c + 1)) := fun k => (hkr.drewN k).set _ _ (by omega)
          go_roundw
          case rel => exact ⟨c + 1, m * 10 + (x - 48).toNat, by go_num, by omega, by omega, by omega, hK _, hbr.later ((below_drewN (Below.refl W wr) _).setCell (Nat.le_refl W) _) (Nat.le_refl _), hB _ _, G⟩
          case measure => rw [(hK _).at, hkr.at]; omega
    · have R : Hid _ := run_ends hrun hx hd
      by_cases hc0 : c = 0
      · have A : Hid _ := ans_bad_pos hneg.out R.out (.inl hc0)
        subst hc0
        by_cases hlow : 48 ≤ x
        · have hhigh : 57 < x := by omega
          clear hd
          go_wp2_with (go_at_call 48; refine (at_at W a len cap zs (i + 0) x _ ?_ ?_ hx hlen).mono ?_; exact hkr; exact hbr; rintro y w1 ⟨rfl, n1, rfl⟩)
          go_ret2
          exact post_of A.out rfl hkr (below_drewN hbel _)
        · clear hd
          go_wp2_with (go_at_call 48; refine (at_at W a len cap zs (i + 0) x _ ?_ ?_ hx hlen).mono ?_; exact hkr; exact hbr; rintro y w1 ⟨rfl, n1, rfl⟩)
          go_ret2
          exact post_of A.out rfl hkr (below_drewN hbel _)
      · obtain ⟨b, off, rfl, hbW, hcs⟩ : ∃ b off, a = some ⟨b, off, none⟩ ∧ b < W ∧ ∀ i, i < len → wr.cell? ⟨b, off + i, none⟩ = some (.int .u8 (zs.getD i 0)) := by
          rcases hbr.2 with h0 | h
          · omega
          · exact h
        have hcj := hcs i (by omega)
        obtain ⟨y, hy⟩ : ∃ y, zs.getD i 0 = y := ⟨_, rfl⟩
        rw [hy] at hcj
        have HY : Hid (zs.getD i 0 = y) := hy
        clear hcs hy
        by_cases hlow : 48 ≤ x
        · have hhigh : 57 < x := by omega
          clear hd
          go_wp2_with (go_at_call 48; refine (at_at W (some ⟨b, off, none⟩) len cap zs (i + c) x _ ?_ ?_ hx hlen).mono ?_; exact hkr; exact hbr; rintro q w1 ⟨rfl, n1, rfl⟩)
          all_goals
            go_ret2
            first
            | (have hy1 : (y == 48) = true := by assumption
               exact post_of (ans_bad_pos hneg.out R.out (.inr ⟨by omega, HY.out.trans (by simpa using hy1)⟩)) rfl hkr (below_drewN hbel _))
            | (have hy1 : (y == 48) = false := by assumption
               exact post_dec (ans_ok_pos hneg.out R.out (notbad' hc0 HY (fun _ => by simpa using hy1))) rfl (by simp) hkr (below_drewN hbel _))
            | exact post_dec (ans_ok_pos hneg.out R.out (notbad' hc0 HY (fun h => by omega))) rfl (by simp) hkr (below_drewN hbel _)
        · clear hd
          go_wp2_with (go_at_call 48; refine (at_at W (some ⟨b, off, none⟩) len cap zs (i + c) x _ ?_ ?_ hx hlen).mono ?_; exact hkr; exact hbr; rintro q w1 ⟨rfl, n1, rfl⟩)
          all_goals
            go_ret2
            first
            | (have hy1 : (y == 48) = true := by assumption
               exact post_of (ans_bad_pos hneg.out R.out (.inr ⟨by omega, HY.out.trans (by simpa using hy1)⟩)) rfl hkr (below_drewN hbel _))
            | (have hy1 : (y == 48) = false := by assumption
               exact post_dec (ans_ok_pos hneg.out R.out (notbad' hc0 HY (fun _ => by simpa using hy1))) rfl (by simp) hkr (below_drewN hbel _))
            | exact post_dec (ans_ok_pos hneg.out R.out (notbad' hc0 HY (fun h => by omega))) rfl (by simp) hkr (below_drewN hbel _)

theorem integer_any (W : Nat) (a : Option Addr) (len cap : Nat) (zs : List Int) (i : Nat) (bits L : Nat) (w : World) (hlen : len ≤ 1048576) (hk : Wk w W a len cap i) (hb : Bytes w W a len zs)
    (hb1 : 1 ≤ bits) (hb2 : bits ≤ 64) (hL : L = 2 ^ (bits - 1)) (hi : i ≤ 9223372036854775807) :
    Calls Try.prog 40 #[.pointer (some ⟨W, 0, none⟩), .int .i64 bits] w (IntPost W a len cap w (intAns L zs i)) := by
  have h2 : L ≤ 9223372036854775808 := by
    subst hL
    exact Nat.le_trans (Nat.pow_le_pow_right (by omega) (show bits - 1 ≤ 63 by omega)) (by decide)
  have hw : IntKind.u64.wrap (2 ^ (bits - 1)) = (L : Int) := by
    have e : ((2 : Int) ^ (bits - 1)) = ((2 ^ (bits - 1) : Nat) : Int) := by simp
    rw [e, ← hL, IntKind.wrap_u64]
    omega
  by_cases h : zs.getD i 0 = 45
  · exact integer_neg W a len cap zs i bits L w hlen hk hb hb1 hb2 hw h2 h
  · exact integer_pos W a len cap zs i bits L w hlen hk hb hb1 hb2 hw h2 (zs.getD i 0) rfl (by simpa using h) hi

set_option maxRecDepth 10000 in
set_option maxHeartbeats 400000 in
theorem zzinteger_any (a : Option Addr) (len cap : Nat) (zs : List Int) (i : Nat) (bits L : Nat) (w : World) (hlen : len ≤ 1048576) (hb : Bytes w w.heap.size a len zs)
    (hb1 : 1 ≤ bits) (hb2 : bits ≤ 64) (hL : L = 2 ^ (bits - 1)) (hi : i ≤ 9223372036854775807) (v : Int) (ok : Bool) (next : Nat) (hr : intAns L zs i = ⟨v, ok, next⟩) :
    Calls Try.prog 23 #[.slice a len cap, .int .i64 i, .int .i64 bits] w fun x w' =>
      x = .returned (.tuple #[.int .i64 v, .bool ok, .int .i64 next]) ∧ Below w.heap.size w w' := by
  have hk : Wk (w.alloc (.cells #[.slice a len cap, .int .i64 i, .pointer none] 64)) w.heap.size a len cap i := by
    refine ⟨?_, ?_, ?_⟩ <;> simp [go_sem]
  have hB : Below w.heap.size w (w.alloc (.cells #[.slice a len cap, .int .i64 i, .pointer none] 64)) := (Below.refl w.heap.size w).alloc (Nat.le_refl _) _
  have hb' := hb.later hB (Nat.le_refl _)
  have HL : Hid (L = 2 ^ (bits - 1)) := hL
  have HR : Hid (intAns L zs i = ⟨v, ok, next⟩) := hr
  clear hL hr
  go_enter Try.func23, Try.ntmps23
  go_wp2_with (go_at_call 40; refine (integer_any w.heap.size a len cap zs i bits L _ hlen hk hb' hb1 hb2 HL.out hi).mono ?_; rw [HR.out]; rintro x w1 ⟨rfl, ⟨c0, c1, _⟩, hbel⟩)
  go_quiet (fail)
  go_wp2
  go_ret3
  exact ⟨rfl, below_drewN (hB.trans hbel) _⟩
end Go.Proofs.Qxb6603067a
