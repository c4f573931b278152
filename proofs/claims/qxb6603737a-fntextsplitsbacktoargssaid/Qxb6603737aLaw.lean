/-
  THE WALK of the law FnTextSplitsBackToArgs (5).
-/
import Derived.Test.Qxb6603737aPlain
import Derived.Test.Qxb6603737aHelp
namespace Go.Proofs.Qxb6603737a
open Go.RowKit

theorem byte_at (s : ByteArray) (i : Nat) (h : i < s.size) : ((s[i]).toNat : Int) = ((s.data.toList.getD i 0).toNat : Int) := by
  have hl : i < s.data.toList.length := by simpa using h
  rw [List.getD_eq_getElem?_getD, List.getElem?_eq_getElem hl]
  rfl
theorem u8_32 (x : UInt8) : ((x.toNat : Int) == 32) = true ↔ x = 32 := by
  rw [beq_iff_eq]
  constructor
  · intro h
    apply UInt8.toNat_inj.1
    have : (32 : UInt8).toNat = 32 := rfl
    omega
  · rintro rfl; rfl

theorem strs_alloc {w2 : World} {g : Nat} {ss : List ByteArray} {n : Nat} (h : RowS w2 g ss) (hl : ss.length = n) (o : Obj) : Strs (w2.alloc o) (w2.alloc o).heap.size (some ⟨g, 0, none⟩) n ss := by
  subst hl
  have h2 : RowS (w2.alloc o) g ss := (Lib.alloc_old w2 o g h.lt).trans h
  exact h2.strs h2.lt
theorem rows_later {w2 w3 : World} {g : Nat} {ss : List ByteArray} {o : Obj} (h : RowS w2 g ss) (hb : Below (w2.alloc o).heap.size (w2.alloc o) w3) : RowS w3 g ss :=
  (hb.block g (by have := h.lt; simp; omega)).trans ((Lib.alloc_old w2 o g h.lt).trans h)

set_option maxRecDepth 10000 in
set_option maxHeartbeats 4000000 in
theorem law5_main (g off n cap : Nat) (ss : List ByteArray) (w : World) (hs : Strs w w.heap.size (some ⟨g, off, none⟩) n ss) (h0 : 0 < n) (hm : n ≤ maxLen) (hms : ∀ k, k < n → (str ss k).size ≤ maxLen) :
    Calls Try.prog 5 #[.slice (some ⟨g, off, none⟩) n cap] w fun x w' => x = .returned (.bool true) ∧ Below w.heap.size w w' := by
  have HS : Hid (Strs w w.heap.size (some ⟨g, off, none⟩) n ss) := hs
  have HM : Hid (∀ k, k < n → (str ss k).size ≤ maxLen) := hms
  have HMX : Hid (n ≤ maxLen) := hm
  unfold maxLen at hm
  clear hs hms
  by_cases hsm : Small n ss
  · have HSM : Hid (Small n ss) := hsm
    have hn : n ≤ 1048576 := hsm.1
    have HSUM : Hid (∀ k, k ≤ n → sum ss k ≤ 1048576) := fun k hk => Nat.le_trans (sum_mono ss hk) hsm.2
    clear hsm
    go_enter Try.func5, Try.ntmps5
    go_wp2_with (first
      | (go_at_call 12; refine (bytes12 _ n cap ss _ HS.out HMX.out HM.out).mono ?_; rintro x1 wz ⟨b1, rfl, hw1, HB1⟩; subst wz; cases b1)
      | (go_at_call 13; refine (sizeFit13 _ n cap ss _ HS.out hn (HSUM.out n (Nat.le_refl _))).mono ?_; rintro x1 wz ⟨b2, rfl, hw2, HB2⟩; subst wz; cases b2))
    · go_ret
      exact ⟨rfl, Below.refl _ _⟩
    · go_ret
      exact ⟨rfl, Below.refl _ _⟩
    go_loop [3] (fun i => ∃ j : Nat, j ≤ n ∧ i = .int .i64 j ∧ Hid (NoSp ss j)) (fun i => n - (intOf i).toNat)
    case atStart => exact ⟨0, Nat.zero_le _, rfl, fun i hi => absurd hi (by omega)⟩
    case round =>
      obtain ⟨j, hj, rfl, hNo⟩ := hrel
      by_cases hlt : j < n
      · have hck : w.cell? ⟨g, off + j, none⟩ = some (.string (str ss j)) := by
          rcases HS.out.2 with h1 | ⟨g', off', ha, _, hc⟩
          · omega
          · cases ha
            exact hc j hlt
        obtain ⟨s, hsk⟩ : ∃ s, str ss j = s := ⟨_, rfl⟩
        rw [hsk] at hck
        have hsz : s.size ≤ 1048576 := by
          have := HSUM.out (j + 1) hlt
          simp only [sum, hsk] at this
          omega
        have HSK : Hid _ := hsk
        clear hsk
        go_wp2
        go_loop [4] (fun i => ∃ p : Nat, p ≤ s.size ∧ i = .int .i64 p ∧ Hid (∀ q, q < p → s.data.toList.getD q 0 ≠ 32)) (fun i => s.size - (intOf i).toNat)
        case atStart => exact ⟨0, Nat.zero_le _, rfl, fun i hi => absurd hi (by omega)⟩
        case round =>
          obtain ⟨p, hp, rfl, hNp⟩ := hrel
          by_cases hpl : p < s.size
          · cases e32 : ((s[p].toNat : Int) == 32)
            · have HE : Hid (s.data.toList.getD p 0 ≠ 32) := by
                intro e
                have := (u8_32 (s.data.toList.getD p 0)).2 e
                rw [← byte_at s p hpl, e32] at this
                cases this
              go_wp2
              go_round
              case rel =>
                refine ⟨p + 1, hpl, by go_num, fun q hq => ?_⟩
                by_cases hqp : q = p
                · rw [hqp]; exact HE.out
                · exact hNp.out q (by omega)
              case measure => simp [intOf]; omega
            · go_wp2
              go_ret
              exact ⟨rfl, Below.refl _ _⟩
          · obtain rfl : p = s.size := by omega
            have HNJ : Hid (NoSp ss (j + 1)) := by
              intro i hi p hp
              by_cases hij : i = j
              · subst hij
                rw [HSK.out]
                exact hNp.out p (by simp only [wlen, HSK.out] at hp; exact hp)
              · exact hNo.out i (by omega) p hp
            go_wp2
            go_round
            case rel => exact ⟨j + 1, hlt, by go_num, HNJ⟩
            case measure => simp [intOf]; omega
      · obtain rfl : j = n := by omega
        clear HB1 HB2
        have HL : Hid (ss.length = j) := HS.out.1
        go_wp2_with (first
          | (go_at_call 15; refine (text_any w2.heap.size w.heap.size 0 j j ss _ (by simp [go_sem]) (strs_alloc hr2 HL.out _) h0 hn (HSUM.out j (Nat.le_refl _)) (by simp)).mono ?_; rintro x3 w3 ⟨hx3, hb3⟩; obtain ⟨G, hG⟩ : ∃ G : ByteArray, G = ⟨(jp ss j).toArray⟩ := ⟨_, rfl⟩; rw [← hG] at hx3; subst hx3; have HG : Hid (G.data.toList = jp ss j) := (show G.data.toList = jp ss j by rw [hG]); clear hG; have hr3 := rows_later hr2 hb3)
          | (go_at_call 14; refine (clone14 g off j cap ss _ hn HS.out).mono ?_; rintro x2 w2 ⟨rfl, hr2, hb2⟩))
        have hGs : Hid (G.size = (jp ss j).length) := by show _ = _; rw [← HG.out]; simp
        have hGb : G.size ≤ 4000000 := by
          rw [hGs.out, jp_length]
          have := HSUM.out j (Nat.le_refl _)
          omega
        have hbel3 : Hid (Below w.heap.size w w3) := by
          have h1 : Below w.heap.size (w2.alloc _) w3 := hb3.mono (by have := hb2.size; simp; omega)
          exact (hb2.alloc hb2.size _).trans h1
        have HR3 : Hid (RowS w3 w.heap.size ss) := hr3
        clear hb3 hr2 hr3
        go_loopw [7, 8, 9] (fun jj sv i wr => ∃ (q S I d : Nat), jj = .int .i64 q ∧ sv = .int .i64 S ∧ i = .int .i64 I ∧ wr = w3.drewN d ∧ ((q < j ∧ Hid (S = st ss q) ∧ S ≤ I ∧ Hid (I ≤ S + wlen ss q)) ∨ (q = j ∧ I = G.size + 1))) (fun _ _ i _ => G.size + 2 - (intOf i).toNat)
        case atStart => exact ⟨0, 0, 0, 0, rfl, rfl, rfl, rfl, .inl ⟨h0, by show _ = _; simp [st, jp], Nat.le_refl _, Nat.zero_le _⟩⟩
        case round =>
          obtain ⟨q, S, I, d, rfl, rfl, rfl, rfl, hst⟩ := hrel
          rcases hst with ⟨hqj, hS, hSI, hIE⟩ | ⟨rfl, rfl⟩
          · have hcq : w3.cell? ⟨w.heap.size, q, none⟩ = some (.string (str ss q)) := HR3.out.cell (by rw [HL.out]; exact hqj)
            obtain ⟨s, hsk⟩ : ∃ s, str ss q = s := ⟨_, rfl⟩
            rw [hsk] at hcq
            have HSK : Hid _ := hsk
            clear hsk
            have hEle : S + wlen ss q ≤ G.size := by rw [hGs.out, hS.out]; exact word_le hqj
            by_cases hIlt : I < S + wlen ss q
            · have hIG : I < G.size := by omega
              have hne : ((G[I].toNat : Int) == 32) = false := by
                cases e : ((G[I].toNat : Int) == 32)
                · rfl
                · exfalso
                  rw [byte_at G I hIG, HG.out, word_byte hqj (by rw [← hS.out]; exact hSI) (by rw [← hS.out]; exact hIlt)] at e
                  have e2 := (u8_32 _).1 e
                  exact hNo.out q hqj _ (by rw [← hS.out]; omega) e2
              have HIlt : Hid (I < S + wlen ss q) := hIlt
              clear hIlt hEle
              go_wp2
              go_roundw
              case rel => exact ⟨q, S, I + 1, d, rfl, rfl, by go_num, rfl, .inl ⟨hqj, hS, by omega, HIlt.out⟩⟩
              case measure => simp [intOf]; omega
            · have hIeq : I = S + wlen ss q := by have := hIE.out; omega
              have hext : G.extract S I = s := by
                rw [hIeq, hS.out, ← HSK.out]
                exact word_cut hqj G HG.out
              have HIeq : Hid _ := hIeq
              clear hIlt hIeq
              by_cases hql : q + 1 < j
              · have hend := word_end (ss := ss) hql
                have hIG : I < G.size := by rw [hGs.out, HIeq.out, hS.out]; exact hend.1
                have h32 : ((G[I].toNat : Int) == 32) = true := by
                  rw [byte_at G I hIG, HG.out, HIeq.out, hS.out, hend.2]
                  rfl
                have hnext : Hid (I + 1 = st ss (q + 1)) := by show _ = _; rw [st_succ, HIeq.out, hS.out]
                clear hend hEle
                go_wp2
                go_quiet (fail)
                go_wp2
                go_roundw
                case rel => exact ⟨q + 1, I + 1, I + 1, _, by go_num, by go_num, by go_num, rfl, .inl ⟨hql, hnext, Nat.le_refl _, Nat.le_add_right _ _⟩⟩
                case measure => simp [intOf]; omega
              · have hqe : q + 1 = j := by omega
                have hlast : I = G.size := by rw [hGs.out, HIeq.out, hS.out]; exact (word_last hqe).symm
                have hle1 : I ≤ G.size := by omega
                have hle2 : G.size ≤ I := by omega
                have HQE : Hid _ := hqe
                have HLA : Hid _ := hlast
                have heq : ((I : Int) == (G.size : Int)) = true := by rw [hlast]; simp
                clear hEle hqe hlast
                go_wp2
                go_quiet (fail)
                go_wp2
                go_roundw
                case rel => exact ⟨q + 1, I + 1, I + 1, _, by go_num, by go_num, by go_num, rfl, .inr ⟨HQE.out, by have := HLA.out; omega⟩⟩
                case measure => simp [intOf]; omega
          · go_wp2
            go_ret
            exact ⟨rfl, below_drewN hbel3.out _⟩
  · go_enter Try.func5, Try.ntmps5
    go_wp2_with (go_at_call 12; refine (bytes12 _ n cap ss _ HS.out HMX.out HM.out).mono ?_; rintro x1 wz ⟨b1, rfl, hw1, HB1⟩; subst wz; obtain rfl : b1 = false := (by cases b1; rfl; exact absurd (HB1.out rfl) hsm))
    go_ret
    exact ⟨rfl, Below.refl _ _⟩

set_option maxRecDepth 10000 in
theorem law5_zero (a : Option Addr) (cap : Nat) (w : World) : Calls Try.prog 5 #[.slice a 0 cap] w fun x w' => x = .returned (.bool true) ∧ Below w.heap.size w w' := by
  have HS : Hid (Strs w w.heap.size a 0 []) := ⟨rfl, .inl rfl⟩
  go_enter Try.func5, Try.ntmps5
  go_wp2_with (first
    | (go_at_call 12; refine (bytes12 _ 0 cap [] _ HS.out (Nat.zero_le _) (fun k hk => absurd hk (by omega))).mono ?_; rintro x1 wz ⟨b1, rfl, hw1, HB1⟩; subst wz; cases b1)
    | (go_at_call 13; refine (sizeFit13 _ 0 cap [] _ HS.out (by omega) (by simp [sum])).mono ?_; rintro x1 wz ⟨b2, rfl, hw2, HB2⟩; subst wz; cases b2))
  all_goals
    go_ret
    exact ⟨rfl, Below.refl _ _⟩

/-- strings that came in, not nil, as 'Strs' says it -/
theorem strs_of_cells {w : World} {x : Addr} {len cap : Nat} {ss : List ByteArray} (hlen : 0 < len) (hl : len ≤ cap) (hz : ss.length = cap)
    (hc : ∀ i, i < ss.length → w.cell? (x.add i) = some (.string (ss.getD i ByteArray.empty))) : ∃ g off, x = ⟨g, off, none⟩ ∧ Strs w w.heap.size (some ⟨g, off, none⟩) len (ss.take len) := by
  obtain ⟨b, off, spot⟩ := x
  have h1 := hc 0 (by omega)
  have h1' : w.cell? ⟨b, off, spot⟩ = some (.string (ss.getD 0 ByteArray.empty)) := h1
  have hsp : spot = none := by
    unfold World.cell? at h1'
    split at h1'
    · cases spot with
      | none => rfl
      | some v => simp at h1'
    · simp at h1'
  subst hsp
  refine ⟨b, off, rfl, by simp; omega, .inr ⟨b, off, rfl, World.block_lt_of_cell? _ _ h1', fun i hi => ?_⟩⟩
  have hi' := hc i (by omega)
  have ha : (⟨b, off, none⟩ : Addr).add i = ⟨b, off + i, none⟩ := by
    unfold Addr.add; split <;> simp_all
  rw [ha] at hi'
  rw [hi']
  simp [str, List.getD_eq_getElem?_getD, hi]
end Go.Proofs.Qxb6603737a
