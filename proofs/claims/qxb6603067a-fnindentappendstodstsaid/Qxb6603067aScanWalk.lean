/-
  THE WALK of (*scanner).scan (function 39) and of ZZScan (19): what they answer is Plain.scan's answer.
-/
import Derived.Test.Qxb6603067aRows
import Derived.Test.Qxb6603067aScanPlain
import Derived.WalkKit
import Derived.WalkSpells
import Derived.WalkLawsBesides
import Derived.BigQuiet
import Derived.Deep.QuietTactic
namespace Go.Proofs.Qxb6603067a
open Go.RowKit
open Plain

def up (d : Int) : Int := wrap64 (d + 1)
def dn (d : Int) : Int := wrap64 (d - 1)
def sc (l : List Int) (d : Int) (s e : Bool) : Ans := scan up dn l d s e
def b1 (d : Int) (s e : Bool) (b : Int) : St := byte1 up dn d s e b

/-- the scanner's three cells, at block B -/
def Cells3 (w : World) (B : Nat) (d : Int) (s e : Bool) : Prop :=
  w.cell? ⟨B, 0, none⟩ = some (.int .i64 d) ∧ w.cell? ⟨B, 1, none⟩ = some (.bool s) ∧ w.cell? ⟨B, 2, none⟩ = some (.bool e) ∧
  w.frozen? ⟨B, 0, none⟩ = false ∧ w.frozen? ⟨B, 1, none⟩ = false ∧ w.frozen? ⟨B, 2, none⟩ = false

theorem Cells3.set0 {w : World} {B : Nat} {d : Int} {s e : Bool} (h : Cells3 w B d s e) (d' : Int) : Cells3 (w.setCell ⟨B, 0, none⟩ (.int .i64 d')) B d' s e := by
  obtain ⟨c0, c1, c2, f0, f1, f2⟩ := h
  refine ⟨?_, ?_, ?_, ?_, ?_, ?_⟩ <;> simp [go_sem, c0, c1, c2, f0, f1, f2]

theorem Cells3.set1 {w : World} {B : Nat} {d : Int} {s e : Bool} (h : Cells3 w B d s e) (s' : Bool) : Cells3 (w.setCell ⟨B, 1, none⟩ (.bool s')) B d s' e := by
  obtain ⟨c0, c1, c2, f0, f1, f2⟩ := h
  refine ⟨?_, ?_, ?_, ?_, ?_, ?_⟩ <;> simp [go_sem, c0, c1, c2, f0, f1, f2]

theorem Cells3.set2 {w : World} {B : Nat} {d : Int} {s e : Bool} (h : Cells3 w B d s e) (e' : Bool) : Cells3 (w.setCell ⟨B, 2, none⟩ (.bool e')) B d s e' := by
  obtain ⟨c0, c1, c2, f0, f1, f2⟩ := h
  refine ⟨?_, ?_, ?_, ?_, ?_, ?_⟩ <;> simp [go_sem, c0, c1, c2, f0, f1, f2]

theorem sc_step (zs : List Int) (k : Nat) (hk : k < zs.length) (d : Int) (s e : Bool) :
    sc (zs.drop k) d s e = if (b1 d s e zs[k]).ended then ⟨1, true, (b1 d s e zs[k]).d, (b1 d s e zs[k]).s, (b1 d s e zs[k]).e⟩
      else (sc (zs.drop (k + 1)) (b1 d s e zs[k]).d (b1 d s e zs[k]).s (b1 d s e zs[k]).e).more 1 := by
  rw [List.drop_eq_getElem_cons hk]; rfl

theorem goes {zs : List Int} {k : Nat} {d d' d'' : Int} {s e s' e' s'' e'' : Bool} (h : Hid (sc zs d s e = (sc (zs.drop k) d' s' e').more k)) (hk : k < zs.length)
    (hb : b1 d' s' e' zs[k] = ⟨false, d'', s'', e''⟩) : Hid (sc zs d s e = (sc (zs.drop (k + 1)) d'' s'' e'').more (k + 1)) := by
  have h' := h.out
  rw [sc_step zs k hk, hb] at h'
  simp only [Bool.false_eq_true, if_false, Ans.more_more] at h'
  rw [Nat.add_comm 1 k] at h'
  exact h'

theorem ends {zs : List Int} {k : Nat} {d d' d'' : Int} {s e s' e' s'' e'' : Bool} (h : Hid (sc zs d s e = (sc (zs.drop k) d' s' e').more k)) (hk : k < zs.length)
    (hb : b1 d' s' e' zs[k] = ⟨true, d'', s'', e''⟩) : sc zs d s e = ⟨k + 1, true, d'', s'', e''⟩ := by
  have h' := h.out
  rw [sc_step zs k hk, hb] at h'
  simp only [if_true, Ans.more] at h'
  rw [h', Nat.add_comm]

theorem done {zs : List Int} {k : Nat} {d d' : Int} {s e s' e' : Bool} (h : Hid (sc zs d s e = (sc (zs.drop k) d' s' e').more k)) (hk : k = zs.length) :
    sc zs d s e = ⟨k, false, d', s', e'⟩ := by
  have h' := h.out
  rw [List.drop_eq_nil_of_le (by omega)] at h'
  rw [h']
  simp [sc, scan, Ans.more]

theorem b1_esc (d : Int) (s : Bool) (b : Int) : b1 d s true b = ⟨false, d, s, false⟩ := by simp [b1, byte1]
theorem b1_str_bs (d : Int) (b : Int) (h : b = 92) : b1 d true false b = ⟨false, d, true, true⟩ := by simp [b1, byte1, h]
theorem b1_str_q (d : Int) (b : Int) (h : b = 34) : b1 d true false b = ⟨decide (d = 0), d, false, false⟩ := by simp [b1, byte1, h]
theorem b1_str (d : Int) (b : Int) (h : b ≠ 92) (h' : b ≠ 34) : b1 d true false b = ⟨false, d, true, false⟩ := by simp [b1, byte1, h, h']
theorem b1_q (d : Int) (b : Int) (h : (b == 34) = true) : b1 d false false b = ⟨false, d, true, false⟩ := by simp at h; simp [b1, byte1, h]
theorem b1_up1 (d : Int) (b : Int) (h : (b == 123) = true) : b1 d false false b = ⟨false, wrap64 (d + 1), false, false⟩ := by simp at h; simp [b1, byte1, h, up]
theorem b1_up2 (d : Int) (b : Int) (h : (b == 91) = true) : b1 d false false b = ⟨false, wrap64 (d + 1), false, false⟩ := by simp at h; simp [b1, byte1, h, up]
theorem b1_dn1 (d : Int) (b : Int) (h : (b == 125) = true) : b1 d false false b = ⟨wrap64 (d - 1) == 0, wrap64 (d - 1), false, false⟩ := by simp at h; simp [b1, byte1, h, dn]; rfl
theorem b1_dn2 (d : Int) (b : Int) (h : (b == 93) = true) : b1 d false false b = ⟨wrap64 (d - 1) == 0, wrap64 (d - 1), false, false⟩ := by simp at h; simp [b1, byte1, h, dn]; rfl
theorem b1_else (d : Int) (b : Int) (h1 : (b == 34) = false) (h2 : (b == 123) = false) (h3 : (b == 91) = false) (h4 : (b == 125) = false) (h5 : (b == 93) = false) :
    b1 d false false b = ⟨false, d, false, false⟩ := by simp at h1 h2 h3 h4 h5; simp [b1, byte1, *]

theorem two_vals {a : Ans} {n : Nat} {b : Bool} {d : Int} {s e : Bool} (h : a = ⟨n, b, d, s, e⟩) {x : Int} (hx : x = n) :
    Ending.returned (.tuple #[.int .i64 x, .bool b]) = .returned (.tuple #[.int .i64 a.n, .bool a.ended]) := by
  subst h hx; rfl
theorem cells_vals {a : Ans} {n : Nat} {b : Bool} {d : Int} {s e : Bool} (h : a = ⟨n, b, d, s, e⟩) {w : World} {B : Nat} (hc : Cells3 w B d s e) : Cells3 w B a.d a.s a.e := by
  subst h; exact hc

set_option maxRecDepth 10000 in
set_option maxHeartbeats 400000 in
theorem scan_row (B b off len cap : Nat) (zs : List Int) (d : Int) (s e : Bool) (w : World) (hz : zs.length = len) (hlen : len ≤ 1048576)
    (h3 : Cells3 w B d s e) (hb : b < B) (hc : ∀ i, i < len → w.cell? ⟨b, off + i, none⟩ = some (.int .u8 (zs.getD i 0))) :
    Calls Try.prog 39 #[.pointer (some ⟨B, 0, none⟩), .slice (some ⟨b, off, none⟩) len cap] w fun x w' =>
      x = .returned (.tuple #[.int .i64 (sc zs d s e).n, .bool (sc zs d s e).ended]) ∧ Cells3 w' B (sc zs d s e).d (sc zs d s e).s (sc zs d s e).e ∧ Below B w w' := by
  go_enter Try.func39, Try.ntmps39
  go_wp2
  go_loopw [6] (fun i wr => ∃ (k : Nat) (d' : Int) (s' e' : Bool), k ≤ len ∧ i = .int .i64 k ∧ Cells3 wr B d' s' e' ∧ Below B w wr ∧ Hid (sc zs d s e = (sc (zs.drop k) d' s' e').more k))
    (fun i _ => len - (intOf i).toNat)
  case atStart => exact ⟨0, d, s, e, Nat.zero_le _, rfl, h3, Below.refl _ _, rfl⟩
  case round =>
    obtain ⟨k, d', s', e', hk, rfl, h3r, hbel, hid⟩ := hrel
    clear h3
    have h3s := h3r
    obtain ⟨c0, c1, c2, f0, f1, f2⟩ := h3s
    by_cases hlt : k < len
    · have hcell : wr.cell? ⟨b, off + k, none⟩ = some (.int .u8 (zs.getD k 0)) := (hbel.cell (by exact hb)).trans (hc k hlt)
      have hlz : k < zs.length := by omega
      cases e'
      · cases s'
        · clear hc
          go_wp2
          · go_roundw
            case rel => exact ⟨k + 1, _, _, _, by omega, by go_num, h3r.set1 true, hbel.setCell (Nat.le_refl _) _, goes hid hlz (b1_q _ _ ‹_›)⟩
            case measure => simp [intOf]; omega
          · go_roundw
            case rel => exact ⟨k + 1, _, _, _, by omega, by go_num, h3r.set0 _, hbel.setCell (Nat.le_refl _) _, goes hid hlz (b1_up1 _ _ ‹_›)⟩
            case measure => simp [intOf]; omega
          · go_roundw
            case rel => exact ⟨k + 1, _, _, _, by omega, by go_num, h3r.set0 _, hbel.setCell (Nat.le_refl _) _, goes hid hlz (b1_up2 _ _ ‹_›)⟩
            case measure => simp [intOf]; omega
          · have h0 : (wrap64 (d' - 1) == 0) = true := by assumption
            have hx := ends hid hlz ((b1_dn1 d' zs[k] ‹_›).trans (by rw [h0]))
            go_ret2
            exact ⟨two_vals hx (by go_num), cells_vals hx (h3r.set0 _), hbel.setCell (Nat.le_refl _) _⟩
          · have h0 : (wrap64 (d' - 1) == 0) = false := by assumption
            go_roundw
            case rel => exact ⟨k + 1, _, _, _, by omega, by go_num, h3r.set0 _, hbel.setCell (Nat.le_refl _) _, goes hid hlz ((b1_dn1 d' zs[k] ‹_›).trans (by rw [h0]))⟩
            case measure => simp [intOf]; omega
          · have h0 : (wrap64 (d' - 1) == 0) = true := by assumption
            have hx := ends hid hlz ((b1_dn2 d' zs[k] ‹_›).trans (by rw [h0]))
            go_ret2
            exact ⟨two_vals hx (by go_num), cells_vals hx (h3r.set0 _), hbel.setCell (Nat.le_refl _) _⟩
          · have h0 : (wrap64 (d' - 1) == 0) = false := by assumption
            go_roundw
            case rel => exact ⟨k + 1, _, _, _, by omega, by go_num, h3r.set0 _, hbel.setCell (Nat.le_refl _) _, goes hid hlz ((b1_dn2 d' zs[k] ‹_›).trans (by rw [h0]))⟩
            case measure => simp [intOf]; omega
          · go_roundw
            case rel => exact ⟨k + 1, _, _, _, by omega, by go_num, h3r, hbel, goes hid hlz (b1_else _ _ ‹_› ‹_› ‹_› ‹_› ‹_›)⟩
            case measure => simp [intOf]; omega
        · go_wp2
          go_loop [6, 7] (fun i t => ∃ j : Nat, k ≤ j ∧ j < len ∧ i = .int .i64 j ∧ t = .int .u8 (zs.getD j 0) ∧ Hid (sc zs d s e = (sc (zs.drop j) d' true false).more j))
            (fun i _ => len - (intOf i).toNat)
          case atStart => exact ⟨k, Nat.le_refl _, hlt, rfl, by simp [hlz], hid⟩
          case round =>
            obtain ⟨j, hkj, hjl, rfl, rfl, hidj⟩ := hrel
            have hjz : j < zs.length := by omega
            have hcj : j + 1 < len → wr.cell? ⟨b, off + (j + 1), none⟩ = some (.int .u8 (zs.getD (j + 1) 0)) := fun h => (hbel.cell (by exact hb)).trans (hc _ h)
            clear hc
            cases hq : (zs[j] != 34)
            · have hq' : zs[j] = 34 := by simpa using hq
              have HQ : Hid (zs[j] = 34) := hq'
              have hs : (zs[j] == 92) = false := by simp [hq']
              clear hcj hq'
              go_wp2
              · have h0 : (d' == 0) = true := by assumption
                have hx := ends hidj hjz ((b1_str_q d' zs[j] HQ.out).trans (by rw [decide_eq_true (by simpa using h0)]))
                go_ret2
                exact ⟨two_vals hx (by go_num), cells_vals hx (h3r.set1 _), hbel.setCell (Nat.le_refl _) _⟩
              · have h0 : (d' == 0) = false := by assumption
                go_roundw
                case rel => exact ⟨j + 1, _, _, _, by omega, by go_num, h3r.set1 _, hbel.setCell (Nat.le_refl _) _, goes hidj hjz ((b1_str_q d' zs[j] HQ.out).trans (by rw [decide_eq_false (by simpa using h0)]))⟩
                case measure => simp [intOf]; omega
            · cases hs : (zs[j] != 92)
              · have hs1 : (zs[j] == 92) = true := by simpa using hs
                have HS : Hid (zs[j] = 92) := show zs[j] = 92 by simpa using hs
                clear hcj
                go_wp2
                go_roundw
                case rel => exact ⟨j + 1, _, _, _, by omega, by go_num, h3r.set2 _, hbel.setCell (Nat.le_refl _) _, goes hidj hjz (b1_str_bs d' zs[j] HS.out)⟩
                case measure => simp [intOf]; omega
              · have G := goes hidj hjz (b1_str d' zs[j] (by simpa using hs) (by simpa using hq))
                by_cases hj1 : j + 1 < len
                · have hcell1 := hcj hj1
                  clear hcj
                  go_wp2
                  go_round
                  case rel => exact ⟨j + 1, by omega, by omega, by go_num, by simp [show j + 1 < zs.length by omega], G⟩
                  case measure => simp [intOf]; omega
                · clear hcj
                  go_wp2
                  have hx := done G (by omega)
                  go_ret2
                  exact ⟨two_vals hx (by go_num), cells_vals hx h3r, hbel⟩
      · clear hc
        go_wp2
        go_roundw
        case rel => exact ⟨k + 1, _, _, _, by omega, by go_num, h3r.set2 false, hbel.setCell (Nat.le_refl _) _, goes hid hlz (b1_esc _ _ _)⟩
        case measure => simp [intOf]; omega
    · go_wp2
      have hx := done hid (by omega)
      go_ret2
      exact ⟨two_vals hx (by go_num), cells_vals hx h3r, hbel⟩

set_option maxHeartbeats 400000 in
theorem scan_nil (B : Nat) (a : Option Addr) (cap : Nat) (d : Int) (s e : Bool) (w : World) (h3 : Cells3 w B d s e) :
    Calls Try.prog 39 #[.pointer (some ⟨B, 0, none⟩), .slice a 0 cap] w fun x w' =>
      x = .returned (.tuple #[.int .i64 (sc [] d s e).n, .bool (sc [] d s e).ended]) ∧ Cells3 w' B (sc [] d s e).d (sc [] d s e).s (sc [] d s e).e ∧ Below B w w' := by
  go_enter Try.func39, Try.ntmps39
  go_wp2
  go_loop [6] (fun i => i = .int .i64 0) (fun _ => 0)
  case atStart => rfl
  case round =>
    subst hrel
    go_wp2
    go_ret2
    exact ⟨rfl, h3, Below.refl _ _⟩

/-- A slice of bytes as the walk meets it: empty, or at a known place. -/
def Bytes (w : World) (B : Nat) (a : Option Addr) (len : Nat) (zs : List Int) : Prop :=
  zs.length = len ∧ (len = 0 ∨ ∃ b off, a = some ⟨b, off, none⟩ ∧ b < B ∧ ∀ i, i < len → w.cell? ⟨b, off + i, none⟩ = some (.int .u8 (zs.getD i 0)))

theorem scan_any (B : Nat) (a : Option Addr) (len cap : Nat) (zs : List Int) (d : Int) (s e : Bool) (w : World) (hlen : len ≤ 1048576)
    (h3 : Cells3 w B d s e) (hb : Bytes w B a len zs) :
    Calls Try.prog 39 #[.pointer (some ⟨B, 0, none⟩), .slice a len cap] w fun x w' =>
      x = .returned (.tuple #[.int .i64 (sc zs d s e).n, .bool (sc zs d s e).ended]) ∧ Cells3 w' B (sc zs d s e).d (sc zs d s e).s (sc zs d s e).e ∧ Below B w w' := by
  obtain ⟨hz, h0 | ⟨b, off, rfl, hbB, hc⟩⟩ := hb
  · subst h0
    obtain rfl : zs = [] := List.length_eq_zero_iff.mp hz
    exact scan_nil B a cap d s e w h3
  · exact scan_row B b off len cap zs d s e w hz hlen h3 hbB hc

theorem Bytes.later {w w' : World} {B B' : Nat} {a : Option Addr} {len : Nat} {zs : List Int} (h : Bytes w B a len zs) (hb : Below B w w') (hB : B ≤ B') : Bytes w' B' a len zs := by
  obtain ⟨hz, h0 | ⟨b, off, rfl, hbB, hc⟩⟩ := h
  · exact ⟨hz, .inl h0⟩
  · exact ⟨hz, .inr ⟨b, off, rfl, by omega, fun i hi => (hb.cell (by exact hbB)).trans (hc i hi)⟩⟩

set_option maxHeartbeats 400000 in
theorem zzscan_any (a : Option Addr) (len cap : Nat) (zs : List Int) (d : Int) (s e : Bool) (w : World) (hlen : len ≤ 1048576) (hb : Bytes w w.heap.size a len zs) :
    Calls Try.prog 19 #[.int .i64 d, .bool s, .bool e, .slice a len cap] w fun x w' =>
      x = .returned (.tuple #[.int .i64 (sc zs d s e).n, .bool (sc zs d s e).ended, .int .i64 (sc zs d s e).d, .bool (sc zs d s e).s, .bool (sc zs d s e).e]) ∧ Below w.heap.size w w' := by
  have h3 : Cells3 (w.alloc (.cells #[.int .i64 d, .bool s, .bool e] 60)) w.heap.size d s e := by
    refine ⟨?_, ?_, ?_, ?_, ?_, ?_⟩ <;> simp [go_sem]
  have hb' := hb.later ((Below.refl w.heap.size w).alloc (Nat.le_refl _) (.cells #[.int .i64 d, .bool s, .bool e] 60)) (Nat.le_refl _)
  go_enter Try.func19, Try.ntmps19
  go_wp2_with (go_at_call 39; refine (scan_any w.heap.size a len cap zs d s e _ hlen h3 hb').mono ?_; rintro x w1 ⟨rfl, ⟨c0, c1, c2, _, _, _⟩, hbel⟩)
  go_quiet (fail)
  go_wp2
  exact bodyPost_ret (v := .tuple #[.int .i64 (sc zs d s e).n, .bool (sc zs d s e).ended, .int .i64 (sc zs d s e).d, .bool (sc zs d s e).s, .bool (sc zs d s e).e])
    (by simp [results, Try.results19, go_sem]) rfl ⟨rfl, below_drewN (((Below.refl _ _).alloc (Nat.le_refl _) _).trans hbel) _⟩
end Go.Proofs.Qxb6603067a
