/-
  THE WALK of zzShape (16): on a trie of the documented shape it says yes, and how many it holds.
-/
import Derived.Test.Qxb6603644aSmall
import Derived.Test.Qxb6603644aColl
import Derived.Test.Qxb6603644aAppC
namespace Go.Proofs.Qxb6603644a
open Go.RowKit Go.Shelf

def ShapeP (t : Tr) (d dep want : Nat) : Prop := ∀ (w : World), IsT w (fun _ => False) t →
  Calls Try.prog 16 #[.pointer t.ptr, .int .i64 (4 * d : Nat), .int .u64 (want : Nat), .int .i64 (dep : Nat)] w fun x w' => x = .returned (.tuple #[.int .i64 (t.cnt : Nat), .bool true]) ∧ Below w.heap.size w w'

set_option maxRecDepth 10000 in
theorem shape_nil (d dep want : Nat) : ShapeP .nil d dep want := by
  intro w _
  show Calls Try.prog 16 #[.pointer none, .int .i64 (4 * d : Nat), .int .u64 (want : Nat), .int .i64 (dep : Nat)] w _
  obtain ⟨s, hs⟩ : ∃ s, 4 * d = s := ⟨_, rfl⟩
  rw [hs]
  clear hs
  go_enter Try.func16, Try.ntmps16
  go_wp2
  go_ret2
  exact ⟨rfl, Below.refl _ _⟩

set_option maxRecDepth 10000 in
set_option maxHeartbeats 4000000 in
theorem shape_inner (g : Nat) (ch : Nat → Tr) (c d dep want : Nat) (hd : d + 1 ≤ 16) (hdep : dep ≤ 16) (hw : want < 18446744073709551616) (hc32 : 32 < c) (hc : c = sumC ch) (hcb : c ≤ 16384) (ih : ∀ i, i < 16 → ShapeP (ch i) d (dep + 1) (setS want (4 * (d + 1)) i)) : ShapeP (.inner g ch c) (d + 1) dep want := by
  intro w hT
  obtain ⟨_, h, _, k0, k1, kc⟩ := hT
  have IH : Hid (∀ i, i < 16 → ShapeP (ch i) d (dep + 1) (setS want (4 * (d + 1)) i)) := ih
  have KC : Hid (∀ i, i < 16 → w.cell? ⟨h, i, none⟩ = some (.pointer (ch i).ptr) ∧ IsT w (fun _ => False) (ch i)) := kc
  have hps : Hid (psum ch 16 = c) := hc.symm
  have hle : Hid (∀ k, k ≤ 16 → psum ch k ≤ 16384) := fun k hk => by
    have h1 : ∀ j, j ≤ 16 → ∀ i, i ≤ j → psum ch i ≤ psum ch j := by
      intro j
      induction j with
      | zero => intro _ i hi; obtain rfl : i = 0 := by omega
                exact Nat.le_refl _
      | succ j ihj =>
        intro hj i hi
        by_cases e : i = j + 1
        · subst e; exact Nat.le_refl _
        · have := ihj (by omega) i (by omega)
          rw [psum_succ]
          omega
    have h2 := h1 16 (Nat.le_refl _) k hk
    rw [hps.out] at h2
    omega
  have hcc := children_any g (some ⟨h, 0, none⟩) w k0
  have hcn := cnt_any g c w k1
  obtain ⟨s, hs⟩ : ∃ s, 4 * (d + 1) = s := ⟨_, rfl⟩
  have hs4 : 4 ≤ s := by omega
  have hs64 : s ≤ 64 := by omega
  have HS : Hid (4 * (d + 1) = s) := hs
  clear ih kc k0 k1 hc
  have hmx : Try.prog.follows .mixedOrders = true := by kernel_rfl
  show Calls Try.prog 16 #[.pointer (some ⟨g, 0, none⟩), .int .i64 (4 * (d + 1) : Nat), .int .u64 (want : Nat), .int .i64 (dep : Nat)] w fun x w' => x = .returned (.tuple #[.int .i64 (c : Nat), .bool true]) ∧ Below w.heap.size w w'
  rw [hs]
  clear hs
  have hn1 : ¬ s < 4 := by omega
  have hn2 : ¬ c ≤ 32 := by omega
  have hn3 : ¬ 17 < dep := by omega
  go_enter Try.func16, Try.ntmps16
  go_upto_region 12 with (first
    | (go_at_call 33; refine hcn.mono ?_; rintro x1 w ⟨rfl, rfl⟩)
    | (go_at_call 25; refine hcc.mono ?_; rintro x2 w ⟨rfl, rfl⟩))
  clear hcc hcn
  go_loopw [12, 13] (fun u i wr => ∃ k S : Nat, k ≤ 16 ∧ i = .int .i64 k ∧ u = .int .i64 S ∧ Hid (S = psum ch k) ∧ Hid (Below w.heap.size w wr)) (fun _ i _ => 16 - (intOf i).toNat)
  case atStart => exact ⟨0, 0, Nat.zero_le _, rfl, rfl, rfl, Below.refl _ _⟩
  case round =>
    obtain ⟨k, S, hk, rfl, rfl, hS, hB⟩ := hrel
    have hSb : S ≤ 16384 := by rw [hS.out]; exact hle.out k hk
    by_cases hlt : k < 16
    · obtain ⟨kk0, hTk⟩ := KC.out k hlt
      have kk := Keep.below (X := Nowhere) hB.out _ _ (fun h => h) kk0
      have hcall := fun W (hb : Below w.heap.size w W) => IH.out k hlt W (hTk.keep (Keep.below (X := Nowhere) hb) (fun _ h => h.elim))
      obtain ⟨p, hp⟩ : ∃ p, (ch k).ptr = p := ⟨_, rfl⟩
      obtain ⟨q, hq⟩ : ∃ q, (ch k).cnt = q := ⟨_, rfl⟩
      have hq2 : Hid (S + q = psum ch (k + 1)) := by
        show _ = _
        rw [psum_succ, hq, hS.out]
      have hqb : S + q ≤ 16384 := by rw [hq2.out]; exact hle.out (k + 1) (by omega)
      have e1 : ((4 * d : Nat) : Int) = (s : Int) - 4 := by have := HS.out; omega
      have e2 : ((dep + 1 : Nat) : Int) = (dep : Int) + 1 := by omega
      rw [hp] at kk hcall
      rw [hq, e1, e2, HS.out] at hcall
      obtain ⟨R, hR⟩ : ∃ R, setS want s k = R := ⟨_, rfl⟩
      have hc34 := fun W => setSlot_any want s k W hw hs4 hs64 hlt
      rw [hR] at hcall hc34
      have hkI : (k : Int) < 16 := by omega
      have hws : IntKind.i64.wrap ((s : Int) - 4) = (s : Int) - 4 := by simp [IntKind.wrap, IntKind.bits, IntKind.signed]; omega
      have hwd : IntKind.i64.wrap ((dep : Int) + 1) = (dep : Int) + 1 := by simp [IntKind.wrap, IntKind.bits, IntKind.signed]; omega
      clear hp hq hTk kk0 e1 e2 hR
      go_upto_region 14 with fail
      refine wp_region_below hmx (by kernel_rfl) ?_
      refine wpq_val (by go_simp) (v := ?v0) ?hy0 (fun K hK => ?_)
      case hy0 => (intro w hw'; go_simp; try (with_reducible rfl))
      go_simp
      refine hK _ ?_
      clear hK K
      refine wpq_val (by go_simp) (v := ?v1) ?hy1 (fun K hK => ?_)
      case hy1 => (intro w hw'; go_simp; try (with_reducible rfl))
      go_simp
      refine hK _ ?_
      clear hK K
      refine wpq_val (by go_simp) (v := ?v2) ?hy2 (fun K hK => ?_)
      case hy2 => (intro w hw'; go_simp; try (with_reducible rfl))
      go_simp
      refine hK _ ?_
      clear hK K
      refine wpq_val (by go_simp) (v := ?v3) ?hy3 (fun K hK => ?_)
      case hy3 => (intro w hw'; go_simp; try (with_reducible rfl))
      go_simp
      refine hK _ ?_
      clear hK K
      refine wpq_val (by go_simp) (v := ?v4) ?hy4 (fun K hK => ?_)
      case hy4 => (intro w hw'; have k9 := Keep.below (X := Nowhere) hw' _ _ (fun h => h) kk; go_simp; try (with_reducible rfl))
      go_simp
      refine hK _ ?_
      clear hK K
      refine wpq_val (by go_simp) (v := ?v5) ?hy5 (fun K hK => ?_)
      case hy5 => (intro w hw'; go_simp; try (with_reducible rfl))
      go_simp
      refine hK _ ?_
      clear hK K
      refine wpq_val (by go_simp) (v := ?v6) ?hy6 (fun K hK => ?_)
      case hy6 => (intro w hw'; go_simp; try (with_reducible rfl))
      go_simp
      refine hK _ ?_
      clear hK K
      refine wpq_val (by go_simp) (v := ?v7) ?hy7 (fun K hK => ?_)
      case hy7 => (intro w hw'; go_simp; try (with_reducible rfl))
      go_simp
      refine hK _ ?_
      clear hK K
      refine wpq_val (by go_simp) (v := ?v8) ?hy8 (fun K hK => ?_)
      case hy8 => (intro w hw'; go_simp; try (with_reducible rfl))
      go_simp
      refine hK _ ?_
      clear hK K
      refine wpq_val (by go_simp) (v := ?v9) ?hy9 (fun K hK => ?_)
      case hy9 => (intro w hw'; go_simp; try (with_reducible rfl))
      go_simp
      refine hK _ ?_
      clear hK K
      refine wpq_call (by go_simp) (f := 34) (args := #[.int .u64 (want : Nat), .int .i64 (s : Nat), .int .i64 (k : Nat)]) ?hr10 (fun w' hw' => (hc34 w').mono fun _ _ ⟨he, h2⟩ => ⟨he, by rw [h2]; exact hw'⟩) (fun K hK => ?_)
      case hr10 => (intro w _; go_simp; try (with_reducible rfl))
      go_simp
      refine hK _ ?_
      clear hK K
      refine wpq_val (by go_simp) (v := ?v11) ?hy11 (fun K hK => ?_)
      case hy11 => (intro w hw'; go_simp; try (with_reducible rfl))
      go_simp
      refine hK _ ?_
      clear hK K
      refine wpq_val (by go_simp) (v := ?v12) ?hy12 (fun K hK => ?_)
      case hy12 => (intro w hw'; go_simp; try (with_reducible rfl))
      go_simp
      refine hK _ ?_
      clear hK K
      refine wpq_call (by go_simp) (f := 16) (args := #[.pointer p, .int .i64 ((s : Int) - 4), .int .u64 (R : Nat), .int .i64 ((dep : Int) + 1)]) ?hr13 (fun w' hw' => calls_below hw' (hcall w' (hB.out.trans (hw'.mono hB.out.size)))) (fun K hK => ?_)
      case hr13 => (intro w _; go_simp; try (with_reducible rfl))
      go_simp
      refine hK _ ?_
      clear hK K
      refine wpq_val (by go_simp) (v := ?v14) ?hy14 (fun K hK => ?_)
      case hy14 => (intro w hw'; go_simp; try (with_reducible rfl))
      go_simp
      refine hK _ ?_
      clear hK K
      refine wpq_val (by go_simp) (v := ?v15) ?hy15 (fun K hK => ?_)
      case hy15 => (intro w hw'; go_simp; try (with_reducible rfl))
      go_simp
      refine hK _ ?_
      clear hK K
      refine wpq_val (by go_simp) (v := ?v16) ?hy16 (fun K hK => ?_)
      case hy16 => (intro w hw'; go_simp; try (with_reducible rfl))
      go_simp
      refine hK _ ?_
      clear hK K
      refine wpq_val (by go_simp) (v := ?v17) ?hy17 (fun K hK => ?_)
      case hy17 => (intro w hw'; go_simp; try (with_reducible rfl))
      go_simp
      refine hK _ ?_
      clear hK K
      refine wpq_val (by go_simp) (v := ?v18) ?hy18 (fun K hK => ?_)
      case hy18 => (intro w hw'; go_simp; try (with_reducible rfl))
      go_simp
      refine hK _ ?_
      clear hK K
      refine wpq_nil ?_
      intro w2 hb2
      have hB2 : Hid (Below w.heap.size w w2) := hB.out.trans (hb2.mono hB.out.size)
      clear hcall hc34 kk hB hb2
      go_wp2
      go_roundw
      case rel => exact ⟨k + 1, S + q, hlt, by go_num, by go_num, hq2, hB2⟩
      case measure => simp [intOf]; omega
    · have hSc : S = c := by
        have h1 := hS.out
        have h2 := hps.out
        rw [show k = 16 by omega, h2] at h1
        exact h1
      subst hSc
      have hnn : ((S : Int) != (S : Int)) = false := by simp
      go_wp2
      go_ret2
      exact ⟨rfl, hB.out⟩

set_option maxRecDepth 10000 in
set_option maxHeartbeats 4000000 in
theorem shape_leaf (g : Nat) (rs : List R) (d dep want : Nat) (P : Int) (hd : d ≤ 16) (hdep : dep ≤ 16) (hw : want < 18446744073709551616) (hP : ((want : Nat) : Int) / 2 ^ (4 * d) = P) (hg : Good (.leaf g rs) d P) (hcb : rs.length ≤ 16384) (hr : ∀ r ∈ rs, 0 ≤ r.hash ∧ r.hash < 18446744073709551616) : ShapeP (.leaf g rs) d dep want := by
  intro w hT
  obtain ⟨hne, h32, hpw, hpre⟩ := hg
  have hT' : LeafAt w (fun _ => False) g rs := hT
  obtain ⟨e, _, he1, he2⟩ := hT'.ents
  have htx := hT'.txt
  have HE : Hid (∀ o, o < 19 * rs.length → w.cell? ⟨e, o, none⟩ = some (entCell rs o)) := he2
  have HPW : Hid (rs.Pairwise klt) := hpw
  have HPRE : Hid (∀ r ∈ rs, r.hash / 2 ^ (4 * d) = P) := hpre
  have HR : Hid (∀ r ∈ rs, 0 ≤ r.hash ∧ r.hash < 18446744073709551616) := hr
  obtain ⟨txt, htxt⟩ : ∃ txt : ByteArray, (⟨(flat rs (14 * rs.length)).toArray⟩ : ByteArray) = txt := ⟨_, rfl⟩
  rw [htxt] at htx
  have HTXT : Hid ((⟨(flat rs (14 * rs.length)).toArray⟩ : ByteArray) = txt) := htxt
  have hcn' := hT'.cnt
  have hch := hT'.ch
  have hpos : 0 < rs.length := List.length_pos_iff.2 hne
  obtain ⟨n, hnn⟩ : ∃ n, rs.length = n := ⟨_, rfl⟩
  rw [hnn] at he1 hcb hcn' hpos h32
  have HNN : Hid (rs.length = n) := hnn
  have hc25 := children_any g none w hch
  have hc26 := text_any g txt w htx
  have hc27 := count_any g e n w he1
  have hc33 := cnt_any g n w hcn'
  obtain ⟨s, hs⟩ : ∃ s, 4 * d = s := ⟨_, rfl⟩
  have hs64 : s ≤ 64 := by omega
  have HS : Hid (4 * d = s) := hs
  have h32' : 0 < s → n ≤ 32 := fun h => h32 (by omega)
  have hpw2 := fun W => zzHigh_any ((want : Nat) : Int) s W (by omega) (by omega) hs64
  rw [← hs, hP] at hpw2
  have hcnt : (Tr.leaf g rs).cnt = n := hnn
  rw [hcnt]
  clear hT' hT he2 htx htxt hnn hcn' hch hpw hpre hr h32 hne hP hcnt
  show Calls Try.prog 16 #[.pointer (some ⟨g, 0, none⟩), .int .i64 (4 * d : Nat), .int .u64 (want : Nat), .int .i64 (dep : Nat)] w fun x w' => x = .returned (.tuple #[.int .i64 (n : Nat), .bool true]) ∧ Below w.heap.size w w'
  rw [hs] at hpw2 ⊢
  clear hs
  have hn3 : ¬ 17 < dep := by omega
  have hn4 : ¬ n < 1 := by omega
  have hn5 : ((n : Int) != (n : Int)) = false := by simp
  go_enter Try.func16, Try.ntmps16
  go_upto_region 24 with (first
    | (go_at_call 33; refine hc33.mono ?_; rintro x1 w ⟨rfl, rfl⟩)
    | (go_at_call 25; refine hc25.mono ?_; rintro x2 w ⟨rfl, rfl⟩)
    | (go_at_call 27; refine hc27.mono ?_; rintro x3 w ⟨rfl, rfl⟩))
  clear hc25 hc27 hc33
  go_cut [90] (fun t wx => t = .bool false ∧ wx = w)
  case first =>
    by_cases hs0 : 0 < s
    · have hn6 : ¬ 32 < n := by have := h32' hs0; omega
      have hn6' : ¬ (32 : Int) < (n : Int) := by omega
      go_wp2
      go_meet
      exact ⟨rfl, rfl⟩
    · go_wp2
      go_meet
      exact ⟨rfl, rfl⟩
  case rest =>
  obtain ⟨rfl, rfl⟩ := hcut
  go_upto_region 31 with (go_at_call 26; refine hc26.mono ?_; rintro x4 w ⟨rfl, rfl⟩)
  clear hc26
  go_loopw [18, 19, 20, 21] (fun st ph pid i wr => ∃ (q L : Nat) (h0 : Int) (s0 : ByteArray), q ≤ n ∧ i = .int .i64 q ∧ st = .int .i64 L ∧ ph = .int .u64 h0 ∧ pid = .string s0 ∧ Hid (L = (flat rs (14 * q)).length) ∧ Hid (0 < q → h0 = (rAt rs (q - 1)).hash ∧ s0 = (rAt rs (q - 1)).tx 0) ∧ wr = w) (fun _ _ _ i _ => n - (intOf i).toNat)
  case atStart => exact ⟨0, 0, 0, ⟨#[]⟩, Nat.zero_le _, rfl, rfl, rfl, rfl, rfl, fun h => absurd h (by omega), rfl⟩
  case round =>
    obtain ⟨q, L, h0, s0, hq, rfl, rfl, rfl, rfl, hL, hprev, rfl⟩ := hrel
    by_cases hlt : q < n
    · have hmem : rAt rs q ∈ rs := by
        unfold rAt
        rw [List.getD_eq_getElem?_getD, List.getElem?_eq_getElem (by rw [HNN.out]; exact hlt)]
        exact List.getElem_mem _
      have hord : Hid (0 < q → klt (rAt rs (q - 1)) (rAt rs q)) := fun h => by
        have := List.pairwise_iff_getElem.1 HPW.out (q - 1) q (by rw [HNN.out]; omega) (by rw [HNN.out]; exact hlt) (by omega)
        unfold rAt
        rw [List.getD_eq_getElem?_getD, List.getElem?_eq_getElem (by rw [HNN.out]; omega), List.getD_eq_getElem?_getD, List.getElem?_eq_getElem (by rw [HNN.out]; exact hlt)]
        exact this
      have hpr := HPRE.out _ hmem
      obtain ⟨hr0, hr1⟩ := HR.out _ hmem
      have hch := HE.out (q * 19) (by rw [HNN.out]; omega)
      rw [ent0] at hch
      have hce0 := HE.out (q * 19 + 1 + 0) (by rw [HNN.out]; omega)
      rw [ent1 rs q 0 (by decide)] at hce0
      have hce1 := HE.out (q * 19 + 1 + 13) (by rw [HNN.out]; omega)
      rw [ent1 rs q 13 (by decide)] at hce1
      obtain ⟨r, hr⟩ : ∃ r, rAt rs q = r := ⟨_, rfl⟩
      rw [hr] at hch hpr hr0 hr1 hord
      have HRQ : Hid (rAt rs q = r) := hr
      obtain ⟨hh, hhh⟩ : ∃ hh, r.hash = hh := ⟨_, rfl⟩
      have HHH : Hid (r.hash = hh) := hhh
      rw [hhh] at hch hpr hr0 hr1
      obtain ⟨E, hE⟩ : ∃ E, (flat rs (14 * q + 0 + 1)).length = E := ⟨_, rfl⟩
      obtain ⟨L2, hL2⟩ : ∃ L2, (flat rs (14 * q + 13 + 1)).length = L2 := ⟨_, rfl⟩
      rw [hE] at hce0
      rw [hL2] at hce1
      have h12 : L ≤ E := by rw [hL.out, ← hE]; exact flat_mono rs (by omega)
      have h13 : E ≤ L2 := by rw [← hE, ← hL2]; exact flat_mono rs (by omega)
      have h23 : L2 ≤ txt.size := by
        have := flat_mono rs (show 14 * q + 13 + 1 ≤ 14 * rs.length by rw [HNN.out]; omega)
        rw [hL2] at this
        rw [← HTXT.out]
        exact this
      have hext : txt.extract L E = r.tx 0 := by
        have h1 := flat_extract rs (14 * q) (14 * rs.length) (by rw [HNN.out]; omega)
        rw [HTXT.out, ← hL.out, show 14 * q + 1 = 14 * q + 0 + 1 from rfl, hE] at h1
        rw [h1, T, show 14 * q / 14 = q by omega, show 14 * q % 14 = 0 by omega, hr]
      have hL2' : Hid (L2 = (flat rs (14 * (q + 1))).length) := hL2.symm
      obtain ⟨idv, hidv⟩ : ∃ idv, txt.extract L E = idv := ⟨_, rfl⟩
      have HIDV : Hid (r.tx 0 = idv) := by show _ = _; rw [← hext]; exact hidv
      have HEXT : Hid (txt.extract L E = idv) := hidv
      have hc30 := hash_any g e n q hh wr he1 hlt hch
      have hc20 := fun W => zzHigh_any hh s W hr0 hr1 hs64
      rw [← HS.out, hpr, HS.out] at hc20
      have hc28a : Calls Try.prog 28 #[.pointer (some ⟨g, 0, none⟩), .int .i64 (q : Nat), .int .i64 0] wr fun x w' => x = .returned (.int .i64 (E : Nat)) ∧ w' = wr := end_any g e n q 0 E wr he1 hlt (by decide) hce0
      have hc28b : Calls Try.prog 28 #[.pointer (some ⟨g, 0, none⟩), .int .i64 (q : Nat), .int .i64 13] wr fun x w' => x = .returned (.int .i64 (L2 : Nat)) ∧ w' = wr := end_any g e n q 13 L2 wr he1 hlt (by decide) hce1
      have hP0 : ((P : Int) != P) = false := by simp
      have hn7 : ¬ E < L := by omega
      have hn8 : ¬ txt.size < E := by omega
      have hn9 : ¬ L2 < E := by omega
      have hn10 : ¬ txt.size < L2 := by omega
      have h1E : E ≤ txt.size := by omega
      have HORD : Hid (0 < q → h0 < hh ∨ (h0 = hh ∧ Op.bytesLess s0.toList idv.toList = true)) := fun h => by
        obtain ⟨a1, a2⟩ := hprev.out h
        rcases hord.out h with b | ⟨b1, b2⟩
        · left
          rw [a1, ← HHH.out]
          exact b
        · right
          refine ⟨by rw [a1, ← HHH.out]; exact b1, ?_⟩
          rw [a2, ← HIDV.out, Lib.toList_data, Lib.toList_data, bl_lt]
          exact b2
      clear hch hpr hce0 hce1 hE hL2 hr hhh hext hidv hord hmem hprev
      go_upto_region 40 with (first
        | (go_at_call 30; refine hc30.mono ?_; rintro x5 wr ⟨rfl, rfl⟩)
        | (go_at_call_of 20 (Value.int .u64 hh); refine (hc20 _).mono ?_; rintro x6 wr ⟨rfl, rfl⟩)
        | (go_at_call_of 20 (Value.int .u64 (want : Nat)); refine (hpw2 _).mono ?_; rintro x7 wr ⟨rfl, rfl⟩)
        | (go_at_call 28; refine hc28a.mono ?_; rintro x8 wr ⟨rfl, rfl⟩))
      rw [HEXT.out]
      go_cut [141] (fun t wx => t = .bool false ∧ wx = wr)
      case first =>
        by_cases hq0 : 0 < q
        · rcases HORD.out hq0 with b | ⟨b1, b2⟩
          · go_wp2
            go_meet
            exact ⟨rfl, rfl⟩
          · subst b1
            go_wp2
            go_meet
            exact ⟨rfl, rfl⟩
        · obtain rfl : q = 0 := by omega
          go_wp2
          go_meet
          exact ⟨rfl, rfl⟩
      case rest =>
      obtain ⟨rfl, rfl⟩ := hcut
      go_upto_region 43 with (go_at_call 28; refine hc28b.mono ?_; rintro x9 wr ⟨rfl, rfl⟩)
      go_wp2
      go_roundw
      case rel => exact ⟨q + 1, L2, hh, idv, hlt, by go_num, rfl, rfl, rfl, hL2', fun _ => by rw [Nat.add_sub_cancel, HRQ.out]; exact ⟨HHH.out.symm, HIDV.out.symm⟩, trivial⟩
      case measure => simp [intOf]; omega
    · have hLt : L = txt.size := by
        have h1 := hL.out
        rw [show 14 * q = 14 * rs.length by rw [HNN.out]; omega] at h1
        rw [h1, ← HTXT.out]
        rfl
      have hLL : ((L : Int) != (txt.size : Int)) = false := by rw [hLt]; simp
      clear hLt
      go_wp2
      go_ret2
      exact ⟨rfl, Below.refl _ _⟩

theorem shape_any : ∀ (t : Tr) (d : Nat) (P : Int) (dep want : Nat), Good t d P → dep + d ≤ 16 → want < 18446744073709551616 → ((want : Nat) : Int) / 2 ^ (4 * d) = P → t.cnt ≤ 16384 → (∀ r ∈ t.collect, 0 ≤ r.hash ∧ r.hash < 18446744073709551616) → ShapeP t d dep want
  | .nil, d, _, dep, want, _, _, _, _, _, _ => shape_nil d dep want
  | .leaf g rs, d, P, dep, want, hg, h, hw, hP, hc, hr => shape_leaf g rs d dep want P (by omega) (by omega) hw hP hg hc (fun r h => hr r (by simpa only [Tr.collect] using h))
  | .inner g ch c, d, P, dep, want, hg, h, hw, hP, hc, hr => by
    obtain ⟨d', rfl, h32, hcc, hch⟩ := hg
    have hc' : c ≤ 16384 := hc
    refine shape_inner g ch c d' dep want (by omega) (by omega) hw h32 hcc hc' (fun i hi => ?_)
    refine shape_any (ch i) d' (P * 16 + i) (dep + 1) (setS want (4 * (d' + 1)) i) (hch i hi) (by omega) (setS_lt hw (by omega) (by omega) hi) ?_ (by have := cnt_le ch hi; omega) (fun r hr' => hr r ?_)
    · have h1 := setS_div (h := want) (s := 4 * (d' + 1)) (j := i) (by omega)
      rw [show 4 * (d' + 1) - 4 = 4 * d' by omega] at h1
      have h2 : ((setS want (4 * (d' + 1)) i : Nat) : Int) / 2 ^ (4 * d') = ((setS want (4 * (d' + 1)) i / 2 ^ (4 * d') : Nat) : Int) := by push_cast; rfl
      rw [h2, h1, ← hP]
      push_cast
      rfl
    · simp only [Tr.collect, List.mem_flatMap]
      exact ⟨i, List.mem_range.2 hi, hr'⟩
end Go.Proofs.Qxb6603644a
