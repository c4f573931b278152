/-
  THE WALKS of the layout model's small methods: put (31), putString (29), newline (49).
-/
import Derived.Test.Qxb6603067aApp
import Derived.Test.Qxb6603067aJPlain
import Derived.WalkLawsBesides
import Derived.BigQuiet
import Derived.Deep.QuietTactic
import Derived.Deep.RegionHeld3
import Derived.Deep.RegionLaw
import Derived.Deep.DeepCutAuto
import Derived.Deep.CutBlock
namespace Go.Proofs.Qxb6603067a
open Go.RowKit
open Plain

/-- what is written: all of o, or nothing -/
def em (emit : Bool) (o : List Int) : List Int := if emit then o else []
theorem em_append (emit : Bool) (a b : List Int) : em emit (a ++ b) = em emit a ++ em emit b := by cases emit <;> simp [em]
theorem em_nil (emit : Bool) : em emit [] = [] := by cases emit <;> rfl

/-- what a model has beside its state: the bytes that it reads, prefix, indent, emit -/
structure Mod where
  M : Nat
  a : Option Addr
  len : Nat
  cap : Nat
  zs : List Int
  pre : ByteArray
  ind : ByteArray
  emit : Bool

/-- The model's struct at block M: seven cells; what it has written lies in a row of its own. -/
def MI (w : World) (m : Mod) (out : List Int) (ln dp : Nat) : Prop :=
  ∃ ao co, w.cell? ⟨m.M, 0, none⟩ = some (.slice m.a m.len m.cap) ∧ w.cell? ⟨m.M, 1, none⟩ = some (.string m.pre) ∧ w.cell? ⟨m.M, 2, none⟩ = some (.string m.ind) ∧
    w.cell? ⟨m.M, 3, none⟩ = some (.bool m.emit) ∧ w.cell? ⟨m.M, 4, none⟩ = some (.slice ao out.length co) ∧ w.cell? ⟨m.M, 5, none⟩ = some (.int .i64 ln) ∧ w.cell? ⟨m.M, 6, none⟩ = some (.int .i64 dp) ∧
    w.frozen? ⟨m.M, 4, none⟩ = false ∧ w.frozen? ⟨m.M, 5, none⟩ = false ∧ w.frozen? ⟨m.M, 6, none⟩ = false ∧
    Own w (m.M + 1) (.slice ao out.length co) out ∧ Bytes w m.M m.a m.len m.zs ∧ m.M < w.heap.size

theorem MI.later {w w' : World} {m : Mod} {out : List Int} {ln dp : Nat} (h : MI w m out ln dp) (hb : Below w.heap.size w w') : MI w' m out ln dp := by
  obtain ⟨ao, co, c0, c1, c2, c3, c4, c5, c6, f4, f5, f6, ho, hby, hM⟩ := h
  have cc : ∀ o, w'.cell? ⟨m.M, o, none⟩ = w.cell? ⟨m.M, o, none⟩ := fun o => hb.cell (by exact hM)
  have ff : ∀ o, w'.frozen? ⟨m.M, o, none⟩ = w.frozen? ⟨m.M, o, none⟩ := fun o => hb.frozen (by exact hM)
  refine ⟨ao, co, (cc 0).trans c0, (cc 1).trans c1, (cc 2).trans c2, (cc 3).trans c3, (cc 4).trans c4, (cc 5).trans c5, (cc 6).trans c6, (ff 4).trans f4, (ff 5).trans f5, (ff 6).trans f6, ho.later hb (Nat.le_refl _), hby.later (hb.mono (Nat.le_of_lt hM)) (Nat.le_refl _), ?_⟩
  have := hb.size
  omega

/-- Behind an append of what the model owns, and the store of the new slice. -/
theorem MI.wrote {w w1 : World} {m : Mod} {out out' : List Int} {ln dp : Nat} {a' : Option Addr} {c' n' : Nat} (h : MI w m out ln dp) (hb : Below (m.M + 1) w w1) (ho : Own w1 (m.M + 1) (.slice a' n' c') out') (hn : n' = out'.length) :
    MI (w1.setCell ⟨m.M, 4, none⟩ (.slice a' n' c')) m out' ln dp ∧ Below m.M w (w1.setCell ⟨m.M, 4, none⟩ (.slice a' n' c')) ∧ w1.cell? ⟨m.M, 4, none⟩ = w.cell? ⟨m.M, 4, none⟩ ∧ w1.frozen? ⟨m.M, 4, none⟩ = false := by
  subst hn
  obtain ⟨ao, co, c0, c1, c2, c3, c4, c5, c6, f4, f5, f6, _, hby, hM⟩ := h
  have cc : ∀ o, w1.cell? ⟨m.M, o, none⟩ = w.cell? ⟨m.M, o, none⟩ := fun o => hb.cell (by show m.M < m.M + 1; omega)
  have ff : ∀ o, w1.frozen? ⟨m.M, o, none⟩ = w.frozen? ⟨m.M, o, none⟩ := fun o => hb.frozen (by show m.M < m.M + 1; omega)
  have hs := hb.size
  have hB : Below m.M w (w1.setCell ⟨m.M, 4, none⟩ (.slice a' out'.length c')) := (hb.mono (by omega)).setCell (Nat.le_refl m.M) _
  refine ⟨⟨a', c', ?_, ?_, ?_, ?_, ?_, ?_, ?_, ?_, ?_, ?_, ?_, hby.later hB (Nat.le_refl _), ?_⟩, hB, cc 4, (ff 4).trans f4⟩
  · simp [go_sem, cc, c0]
  · simp [go_sem, cc, c1]
  · simp [go_sem, cc, c2]
  · simp [go_sem, cc, c3]
  · simp [go_sem, cc, c4]
  · simp [go_sem, cc, c5]
  · simp [go_sem, cc, c6]
  · simp [go_sem, ff, f4]
  · simp [go_sem, ff, f5]
  · simp [go_sem, ff, f6]
  · exact ownsRow_setCell_below ho (by show m.M < m.M + 1; omega) _
  · simp; omega

set_option maxRecDepth 10000 in
set_option maxHeartbeats 400000 in
theorem put_any (m : Mod) (out : List Int) (ln dp : Nat) (b : Int) (w : World) (h : MI w m out ln dp) (hsz : (out ++ em m.emit [b]).length ≤ 140737488355328) :
    Calls Try.prog 31 #[.pointer (some ⟨m.M, 0, none⟩), .int .u8 b] w fun x w' => x = .returned (.tuple #[]) ∧ MI w' m (out ++ em m.emit [b]) ln dp ∧ Below m.M w w' := by
  have h' := h
  obtain ⟨ao, co, c0, c1, c2, c3, c4, c5, c6, f4, f5, f6, ho, hby, hM⟩ := h'
  cases hem : m.emit
  · rw [hem] at c3 hsz
    go_enter Try.func31, Try.ntmps31
    go_wp2
    go_end0
    exact ⟨rfl, by simpa [em] using h, Below.refl _ _⟩
  · rw [hem] at c3 hsz
    have hB1 : Below (m.M + 1) w (w.alloc (.cells #[.int .u8 b] 5)) := (Below.refl _ _).alloc (by omega) _
    have hby1 : Bytes (w.alloc (.cells #[.int .u8 b] 5)) (w.alloc (.cells #[.int .u8 b] 5)).heap.size (some ⟨w.heap.size, 0, none⟩) 1 [b] := by
      refine ⟨rfl, .inr ⟨w.heap.size, 0, rfl, by simp, fun i hi => ?_⟩⟩
      obtain rfl : i = 0 := by omega
      simp [go_sem]
    have ho1 : Own (w.alloc (.cells #[.int .u8 b] 5)) (m.M + 1) (.slice ao out.length co) out := World.ownsRow.alloc ho _
    have hsz1 : (w.alloc (.cells #[.int .u8 b] 5)).heap.size = w.heap.size + 1 := by simp
    go_enter Try.func31, Try.ntmps31
    go_wp2_with (at_builtin; refine wpList_app_bytes rfl _ _ rfl (m.M + 1) _ out rfl ho1 _ 1 1 [b] rfl _ hby1 (by simp) (by simp [em] at hsz; omega) (by omega) ?_; intro a2 c2 w2 ho2 hg2 _; have hB2 := hB1.grown hg2 (by omega) (fun q hq => (ho1.lt q hq).1); obtain ⟨hMI, hBM, hc4, hf4⟩ := h.wrote hB2 ho2 (by simp); rw [c4] at hc4)
    go_end0
    exact ⟨rfl, by simpa [em] using hMI, hBM⟩

theorem sbytes_get (s : ByteArray) (k : Nat) (h : k < s.size) : (sbytes s).take (k + 1) = (sbytes s).take k ++ [(s[k].toNat : Int)] := by
  have hl : k < (sbytes s).length := by rw [sbytes_length]; exact h
  rw [List.take_succ_eq_append_getElem hl]
  congr 2
  simp [sbytes]
  rfl

set_option maxRecDepth 10000 in
set_option maxHeartbeats 400000 in
theorem putString_any (m : Mod) (out : List Int) (ln dp : Nat) (s : ByteArray) (w : World) (h : MI w m out ln dp) (_hs : s.size ≤ 1048576) (hsz : (out ++ em m.emit (sbytes s)).length ≤ 140737488355328) :
    Calls Try.prog 29 #[.pointer (some ⟨m.M, 0, none⟩), .string s] w fun x w' => x = .returned (.tuple #[]) ∧ MI w' m (out ++ em m.emit (sbytes s)) ln dp ∧ Below m.M w w' := by
  have h' := h
  obtain ⟨ao, co, c0, c1, c2, c3, c4, c5, c6, f4, f5, f6, ho, hby, hM⟩ := h'
  cases hem : m.emit
  · rw [hem] at c3 hsz
    go_enter Try.func29, Try.ntmps29
    go_wp2
    go_end0
    exact ⟨rfl, by simpa [em] using h, Below.refl _ _⟩
  · rw [hem] at c3 hsz
    simp only [em, if_true, List.length_append, sbytes_length] at hsz
    go_enter Try.func29, Try.ntmps29
    go_wp2
    clear c0 c1 c2 c3 c4 c5 c6 f4 f5 f6 ho hby hM ao co
    go_loopw [4] (fun i wr => ∃ (k : Nat) (O : List Int), k ≤ s.size ∧ i = .int .i64 k ∧ Hid (O = out ++ (sbytes s).take k) ∧ MI wr m O ln dp ∧ Below m.M w wr) (fun i _ => s.size - (intOf i).toNat)
    case atStart => exact ⟨0, out, Nat.zero_le _, rfl, show _ = _ by simp, h, Below.refl _ _⟩
    case round =>
      obtain ⟨k, O, hk, rfl, hO, hr, hB⟩ := hrel
      have h' := hr
      obtain ⟨ao, co, c0, c1, c2, c3, c4, c5, c6, f4, f5, f6, ho, hby, hM⟩ := h'
      by_cases hlt : k < s.size
      · have hG := sbytes_get s k hlt
        have HG : Hid _ := hG
        clear hG
        have hOl : O.length + 1 ≤ 140737488355328 := by rw [hO.out]; simp [sbytes_length]; omega
        obtain ⟨b, hb⟩ : ∃ b : Int, b = (s[k].toNat : Int) := ⟨_, rfl⟩
        have hB1 : ∀ b : Int, Below (m.M + 1) wr (wr.alloc (.cells #[.int .u8 b] 5)).drew := fun b => ((Below.refl _ _).alloc (by omega) _).drew
        have hby1 : ∀ b : Int, Bytes (wr.alloc (.cells #[.int .u8 b] 5)).drew (wr.alloc (.cells #[.int .u8 b] 5)).drew.heap.size (some ⟨wr.heap.size, 0, none⟩) 1 [b] := by
          intro b
          refine ⟨rfl, .inr ⟨wr.heap.size, 0, rfl, by simp, fun i hi => ?_⟩⟩
          obtain rfl : i = 0 := by omega
          simp [go_sem]
        have ho1 : ∀ b : Int, Own (wr.alloc (.cells #[.int .u8 b] 5)).drew (m.M + 1) (.slice ao O.length co) O := fun b => (World.ownsRow.alloc ho _).drew
        have hsz1 : ∀ b : Int, m.M + 1 ≤ (wr.alloc (.cells #[.int .u8 b] 5)).drew.heap.size := fun b => (by simp; omega)
        clear hb b
        go_wp2
        go_region_law (refine step_app_bytes rfl _ _ rfl (m.M + 1) _ O rfl (ho1 _) _ 1 1 [(s[k].toNat : Int)] rfl _ (hby1 _) (by simp) hOl (hsz1 _) ?_; intro a2 c2 w2 ho2 hg2 _; have hB2 := (hB1 _).grown hg2 (hsz1 _) (fun q hq => ((ho1 0).lt q hq).1); obtain ⟨hMI, hBM, hc4, hf4⟩ := hr.wrote hB2 ho2 (by simp); rw [c4] at hc4)
        all_goals
          go_wp2
          go_roundw
          case rel => exact ⟨k + 1, _, by omega, by go_num, show _ = _ by rw [hO.out, List.append_assoc, ← HG.out], hMI, hB.trans hBM⟩
          case measure => simp [intOf]; omega
      · go_wp2
        go_end0
        rw [List.take_of_length_le (by rw [sbytes_length]; omega)] at hO
        exact ⟨rfl, by rw [em, if_pos rfl, ← hO.out]; exact hr, hB⟩

theorem MI.setLn {w : World} {m : Mod} {out : List Int} {ln dp : Nat} (h : MI w m out ln dp) (ln' : Nat) (x : Int) (hx : x = ln') :
    MI (w.setCell ⟨m.M, 5, none⟩ (.int .i64 x)) m out ln' dp ∧ Below m.M w (w.setCell ⟨m.M, 5, none⟩ (.int .i64 x)) := by
  obtain ⟨ao, co, c0, c1, c2, c3, c4, c5, c6, f4, f5, f6, ho, hby, hM⟩ := h
  subst hx
  have hB : Below m.M w (w.setCell ⟨m.M, 5, none⟩ (.int .i64 ln')) := (Below.refl _ _).setCell (Nat.le_refl m.M) _
  refine ⟨⟨ao, co, ?_, ?_, ?_, ?_, ?_, ?_, ?_, ?_, ?_, ?_, ownsRow_setCell_below ho (by show m.M < m.M + 1; omega) _, hby.later hB (Nat.le_refl _), ?_⟩, hB⟩ <;> simp [go_sem, *]

theorem MI.setDp {w : World} {m : Mod} {out : List Int} {ln dp : Nat} (h : MI w m out ln dp) (dp' : Nat) (x : Int) (hx : x = dp') :
    MI (w.setCell ⟨m.M, 6, none⟩ (.int .i64 x)) m out ln dp' ∧ Below m.M w (w.setCell ⟨m.M, 6, none⟩ (.int .i64 x)) := by
  obtain ⟨ao, co, c0, c1, c2, c3, c4, c5, c6, f4, f5, f6, ho, hby, hM⟩ := h
  subst hx
  have hB : Below m.M w (w.setCell ⟨m.M, 6, none⟩ (.int .i64 dp')) := (Below.refl _ _).setCell (Nat.le_refl m.M) _
  refine ⟨⟨ao, co, ?_, ?_, ?_, ?_, ?_, ?_, ?_, ?_, ?_, ?_, ownsRow_setCell_below ho (by show m.M < m.M + 1; omega) _, hby.later hB (Nat.le_refl _), ?_⟩, hB⟩ <;> simp [go_sem, *]

/-- the block of one byte that 'append(x, b)' lays first -/
theorem one_new (w : World) (b : Int) : Bytes (w.alloc (.cells #[.int .u8 b] 5)) (w.alloc (.cells #[.int .u8 b] 5)).heap.size (some ⟨w.heap.size, 0, none⟩) 1 [b] := by
  refine ⟨rfl, .inr ⟨w.heap.size, 0, rfl, by simp, fun i hi => ?_⟩⟩
  obtain rfl : i = 0 := by omega
  simp [go_sem]

set_option maxRecDepth 10000 in
set_option maxHeartbeats 400000 in
theorem newline_any (m : Mod) (out : List Int) (ln dp d : Nat) (w : World) (h : MI w m out ln dp) (hp : m.pre.size ≤ 1048576) (hi : m.ind.size ≤ 1048576) (hln : ln ≤ 1000000000) (hd : d ≤ 1000000000)
    (hsz : (out ++ em m.emit (nl (sbytes m.pre) (sbytes m.ind) d)).length ≤ 140737488355328) :
    Calls Try.prog 49 #[.pointer (some ⟨m.M, 0, none⟩), .int .i64 d] w fun x w' => x = .returned (.tuple #[]) ∧ MI w' m (out ++ em m.emit (nl (sbytes m.pre) (sbytes m.ind) d)) (ln + 1) (max dp d) ∧ Below m.M w w' := by
  obtain ⟨g1, b1⟩ := h.setLn (ln + 1) (↑ln + 1) (by omega)
  have h' := h
  obtain ⟨ao, co, c0, c1, c2, c3, c4, c5, c6, f4, f5, f6, ho, hby, hM⟩ := h'
  have HSZ : Hid _ := hsz
  clear hsz
  go_enter Try.func49, Try.ntmps49
  go_upto_if 17 with fail
  go_cut [] (fun wx => MI wx m out (ln + 1) (max dp d) ∧ Below m.M w wx)
  case first =>
    by_cases hlt : dp < d
    · obtain ⟨g2, b2⟩ := g1.setDp d (↑d) rfl
      go_wp2
      go_meet
      exact ⟨by rw [Nat.max_eq_right (Nat.le_of_lt hlt)]; exact g2, b1.trans b2⟩
    · go_wp2
      go_meet
      exact ⟨by rw [Nat.max_eq_left (by omega)]; exact g1, b1⟩
  case rest =>
    obtain ⟨hr, hB⟩ := hcut
    clear g1 b1 h c0 c1 c2 c3 c4 c5 c6 f4 f5 f6 ho hby hM ao co
    have h' := hr
    obtain ⟨ao, co, c0, c1, c2, c3, c4, c5, c6, f4, f5, f6, ho, hby, hM⟩ := h'
    cases hem : m.emit
    · rw [hem] at c3
      go_wp2_with fail
      refine bodyPost_ret (v := .tuple #[]) (by simp [results, Try.results49]) rfl ?_
      exact ⟨rfl, by simpa [em, hem] using hr, hB⟩
    · rw [hem] at c3 HSZ
      have hsz := HSZ.out
      simp only [em, if_true, nl, List.length_append, List.length_cons, sbytes_length] at hsz
      have hB1 : Below (m.M + 1) wc (wc.alloc (.cells #[.int .u8 10] 5)) := (Below.refl _ _).alloc (by omega) _
      have hby1 := one_new wc 10
      have ho1 : Own (wc.alloc (.cells #[.int .u8 10] 5)) (m.M + 1) (.slice ao out.length co) out := World.ownsRow.alloc ho _
      have hsz1 : (wc.alloc (.cells #[.int .u8 10] 5)).heap.size = wc.heap.size + 1 := by simp
      go_wp2_with (first
        | (at_builtin; refine wpList_app_bytes rfl _ _ rfl (m.M + 1) _ out rfl ho1 _ 1 1 [10] rfl _ hby1 (by simp) (by omega) (by omega) ?_; intro a2 c2' w2 ho2 hg2 _; have hB2 := hB1.grown hg2 (by omega) (fun q hq => (ho1.lt q hq).1); obtain ⟨hMI, hBM, hc4, hf4⟩ := hr.wrote hB2 ho2 (by simp); rw [c4] at hc4; have c1' : w2.cell? ⟨m.M, 1, none⟩ = some (.string m.pre) := (hB2.cell (by show m.M < m.M + 1; omega)).trans c1)
        | (go_at_call 29; refine (putString_any m (out ++ [10]) (ln + 1) (max dp d) m.pre _ hMI hp ?_).mono ?_; (rw [hem]; simp only [em, if_true, List.length_append, List.length_cons, List.length_nil, sbytes_length]; omega); rintro x w3 ⟨rfl, h3, hb3⟩; rw [hem, em, if_pos rfl] at h3))
      have hB3 : Below m.M w w3 := (hB.trans hBM).trans hb3
      clear hB hr c0 c1 c2 c3 c4 c5 c6 f4 f5 f6 ho hby hM hB1 hby1 ho1 hsz1 ho2 hg2 hB2 hMI hBM hc4 hf4 c1' hb3
      go_loopw [4] (fun i wr => ∃ (k : Nat) (O : List Int), k ≤ d ∧ i = .int .i64 k ∧ Hid (O = (out ++ [10]) ++ sbytes m.pre ++ reps k (sbytes m.ind)) ∧ MI wr m O (ln + 1) (max dp d) ∧ Below m.M w wr) (fun i _ => d - (intOf i).toNat)
      case atStart => exact ⟨0, _, Nat.zero_le _, rfl, show _ = _ by simp [reps], h3, hB3⟩
      case round =>
        obtain ⟨k, O, hk, rfl, hO, hr, hB⟩ := hrel
        have h' := hr
        obtain ⟨ao, co, c0, c1, c2, c3, c4, c5, c6, f4, f5, f6, ho, hby, hM⟩ := h'
        by_cases hlt : k < d
        · have hmul : (k + 1) * m.ind.size ≤ d * m.ind.size := Nat.mul_le_mul_right _ (by omega)
          have hOl : O.length + m.ind.size ≤ 140737488355328 := by
            rw [hO.out]
            simp only [List.length_append, List.length_cons, List.length_nil, sbytes_length, reps_length] at hsz ⊢
            rw [Nat.succ_mul] at hmul
            omega
          clear hmul
          go_wp2_with (go_at_call 29; refine (putString_any m O (ln + 1) (max dp d) m.ind _ hr hi ?_).mono ?_; (rw [hem]; simp only [em, if_true, List.length_append, sbytes_length]; exact hOl); rintro x w4 ⟨rfl, h4, hb4⟩; rw [hem, em, if_pos rfl] at h4)
          go_roundw
          case rel => exact ⟨k + 1, _, by omega, by go_num, show _ = _ by rw [hO.out, reps_succ', List.append_assoc _ _ (sbytes m.ind)], h4, hB.trans hb4⟩
          case measure => simp [intOf]; omega
        · obtain rfl : k = d := by omega
          go_wp2_with fail
          go_end0
          refine ⟨rfl, ?_, hB⟩
          have e : out ++ em true (nl (sbytes m.pre) (sbytes m.ind) k) = O := by rw [hO.out]; simp [em, nl]
          rw [hem, e]
          exact hr
end Go.Proofs.Qxb6603067a
