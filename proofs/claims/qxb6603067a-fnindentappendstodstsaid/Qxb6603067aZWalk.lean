/-
  THE WALK of the layout model's head, zzLayOutB1 (11).
-/
import Derived.Test.Qxb6603067aCWalk
namespace Go.Proofs.Qxb6603067a
open Go.RowKit
open Plain

theorem value_all (m : Mod) (hlen : m.len ≤ 1048576) (hpp : m.pre.size ≤ 1048576) (hii : m.ind.size ≤ 1048576) : ∀ n f, f ≤ n → ValOk m f := by
  intro n
  induction n with
  | zero =>
    intro f hf out ln dp p d P w _ _ _ _ hmj _
    obtain rfl : f = 0 := by omega
    simp [mj] at hmj
  | succ n ih =>
    intro f hf
    by_cases h : f ≤ n
    · exact ih f h
    · obtain rfl : f = n + 1 := by omega
      exact value_of m (n + 1) hlen (container_of m n hlen hpp hii ih)

/-- the model over these bytes, at the block that is made next -/
def modOf (w : World) (a : Option Addr) (n cap : Nat) (cs : List Int) (pre ind : ByteArray) (emit : Bool) : Mod := ⟨w.heap.size, a, n, cap, cs, pre, ind, emit⟩

theorem MI.new (w : World) (a : Option Addr) (n cap : Nat) (cs : List Int) (pre ind : ByteArray) (emit : Bool) (hby : Bytes w w.heap.size a n cs) :
    MI (w.alloc (.cells #[.slice a n cap, .string pre, .string ind, .bool emit, .slice none 0 0, .int .i64 0, .int .i64 0] 47)) (modOf w a n cap cs pre ind emit) [] 0 0 := by
  refine ⟨none, 0, by simp [go_sem, modOf], by simp [go_sem, modOf], by simp [go_sem, modOf], by simp [go_sem, modOf], by simp [go_sem, modOf], by simp [go_sem, modOf], by simp [go_sem, modOf], by simp [go_sem, modOf], by simp [go_sem, modOf], by simp [go_sem, modOf], Own.nil _ _, ?_, by simp [modOf]⟩
  exact hby.later ((Below.refl _ _).alloc (Nat.le_refl _) _) (Nat.le_refl _)

theorem MI.outs {w : World} {m : Mod} {out : List Int} {ln dp : Nat} (h : MI w m out ln dp) {M : Nat} (hM : m.M = M) : ∃ ao co N, Hid (N = out.length) ∧ w.cell? ⟨M, 4, none⟩ = some (.slice ao N co) ∧ w.cell? ⟨M, 5, none⟩ = some (.int .i64 ln) ∧ w.cell? ⟨M, 6, none⟩ = some (.int .i64 dp) ∧ Own w (M + 1) (.slice ao N co) out := by
  subst hM
  obtain ⟨ao, co, c0, c1, c2, c3, c4, c5, c6, f4, f5, f6, ho, hby, hM⟩ := h
  exact ⟨ao, co, _, rfl, c4, c5, c6, ho⟩

set_option maxRecDepth 10000 in
set_option maxHeartbeats 1000000 in
theorem layOut_yes (a : Option Addr) (n cap : Nat) (cs : List Int) (pre ind : ByteArray) (emit : Bool) (f : Nat) (r : MR) (w : World) (hby : Bytes w w.heap.size a n cs) (hn : n ≤ 1048576) (hp : pre.size ≤ 1048576) (hi : ind.size ≤ 1048576)
    (hmj : mj cs (sbytes pre) (sbytes ind) f none 0 0 = some (some r)) (hrp : r.p = n) (hsz : emit = true → pre.size + r.out.length + n + 30 ≤ 140737488355328) :
    Calls Try.prog 11 #[.slice a n cap, .string pre, .string ind, .bool emit] w fun x w' => ∃ ao co, x = .returned (.tuple #[.slice ao (em emit (sbytes pre ++ r.out ++ [10])).length co, .int .i64 r.ln, .int .i64 r.dp, .bool true]) ∧
      Own w' (w.heap.size + 1) (.slice ao (em emit (sbytes pre ++ r.out ++ [10])).length co) (em emit (sbytes pre ++ r.out ++ [10])) ∧ Below w.heap.size w w' := by
  have hM := MI.new w a n cap cs pre ind emit hby
  have HV : ValOk (modOf w a n cap cs pre ind emit) f := value_all (modOf w a n cap cs pre ind emit) hn hp hi f f (Nat.le_refl _)
  have HMJ : Hid (mj cs (sbytes pre) (sbytes ind) f none 0 0 = some (some r)) := hmj
  have hemp : ∀ (xs : List Int), (em emit xs).length ≤ xs.length := fun xs => by unfold em; split <;> simp
  have hs1 : Hid (([] ++ em emit (sbytes pre)).length ≤ 140737488355328) := by
    show _ ≤ _
    rw [List.nil_append]
    have := hemp (sbytes pre)
    rw [sbytes_length] at this
    omega
  have hR : Hid (Room (modOf w a n cap cs pre ind emit) ([] ++ em emit (sbytes pre)) (some r)) := by
    refine ⟨?_, fun he => ⟨r, rfl, ?_⟩⟩
    · show ([] ++ em emit (sbytes pre)).length + n + 20 ≤ _
      rw [List.nil_append]
      have := hemp (sbytes pre)
      rw [sbytes_length] at this
      omega
    · have h1 := hsz he
      have := hemp (sbytes pre)
      rw [sbytes_length] at this
      show ([] ++ em emit (sbytes pre)).length + r.out.length + n + 20 ≤ _
      rw [List.nil_append]
      omega
  have hs2 : Hid (([] ++ em emit (sbytes pre) ++ em emit r.out ++ em emit [10]).length ≤ 140737488355328) := by
    show _ ≤ _
    cases emit
    · simp [em]
    · have h1 := hsz rfl
      simp only [em, if_true, List.nil_append, List.length_append, sbytes_length, List.length_cons, List.length_nil]
      omega
  have HW : Hid (∀ (z : Nat), ValOk (modOf w a n cap cs pre ind emit) f) := fun _ => HV
  have hrp' : Hid (r.p = n) := hrp
  clear HV hmj hsz hrp hemp
  go_enter Try.func11, Try.ntmps11
  go_wp2_with (first
    | (go_at_call 31; refine (put_any (modOf w a n cap cs pre ind emit) _ _ _ 10 _ h7 (by rw [HO7.out]; exact hs2.out)).mono ?_; rintro x8 w8 ⟨rfl, h8, hb8⟩; obtain ⟨ao8, co8, N8, HN8, c48, c58, c68, ho8⟩ := h8.outs (M := w.heap.size) rfl)
    | (go_at_call 30; refine (HW.out 0 _ 0 0 0 0 (some r) _ h5 (Nat.le_refl _) (Nat.le_refl _) (Nat.zero_le _) HMJ.out hR.out).mono ?_; rintro x7 w7 ⟨q7, b7, O7, l7, d7, rfl, h7, hb7, HM7⟩; obtain ⟨hb7t, hq7, hO7, hl7, hd7⟩ := MrRel.yes HM7.out; rw [hrp'.out] at hq7; subst hb7t; subst q7; have HO7 : Hid _ := hO7; have HL7 : Hid _ := hl7; have HD7 : Hid _ := hd7; clear hO7 hl7 hd7)
    | (go_at_call 29; refine (putString_any (modOf w a n cap cs pre ind emit) [] 0 0 pre _ hM hp hs1.out).mono ?_; rintro x5 w5 ⟨rfl, h5, hb5⟩))
  go_quiet (fail)
  go_wp2
  refine bodyPost_ret (v := .tuple #[.slice ao8 N8 co8, .int .i64 l7, .int .i64 d7, .bool true]) (by simp [results, Try.results11]) rfl ?_
  have e : O7 ++ em emit [10] = em emit (sbytes pre ++ r.out ++ [10]) := by
    have h1 : O7 = [] ++ em emit (sbytes pre) ++ em emit r.out := HO7.out
    rw [h1, em_append, em_append]
    rfl
  have e2 : N8 = (em emit (sbytes pre ++ r.out ++ [10])).length := by rw [← e]; exact HN8.out
  subst e2
  have e3 : l7 = r.ln := by have := HL7.out; omega
  have e4 : d7 = r.dp := by have := HD7.out; omega
  subst e3 e4
  refine ⟨ao8, co8, rfl, ?_, ?_⟩
  · rw [← e]; rw [← e] at ho8; exact ho8
  · have hb0 : Below w.heap.size w (w.alloc (.cells #[.slice a n cap, .string pre, .string ind, .bool emit, .slice none 0 0, .int .i64 0, .int .i64 0] 47)) := (Below.refl _ _).alloc (Nat.le_refl _) _
    have hb5' : Below w.heap.size _ w5 := hb5
    have hb7' : Below w.heap.size w5 w7 := hb7
    have hb8' : Below w.heap.size w7 w8 := hb8
    exact below_drewN (((hb0.trans hb5').trans hb7').trans hb8') _

set_option maxRecDepth 10000 in
set_option maxHeartbeats 1000000 in
theorem layOut_no (a : Option Addr) (n cap : Nat) (cs : List Int) (pre ind : ByteArray) (f : Nat) (P : Option MR) (w : World) (hby : Bytes w w.heap.size a n cs) (hn : n ≤ 1048576) (hp : pre.size ≤ 1048576) (hi : ind.size ≤ 1048576)
    (hmj : mj cs (sbytes pre) (sbytes ind) f none 0 0 = some P) (hno : ∀ r, P = some r → r.p ≠ n) :
    Calls Try.prog 11 #[.slice a n cap, .string pre, .string ind, .bool false] w fun x w' => x = .returned (.tuple #[.slice none 0 0, .int .i64 0, .int .i64 0, .bool false]) ∧ Below w.heap.size w w' := by
  have hM := MI.new w a n cap cs pre ind false hby
  have HV : ValOk (modOf w a n cap cs pre ind false) f := value_all (modOf w a n cap cs pre ind false) hn hp hi f f (Nat.le_refl _)
  have HMJ : Hid (mj cs (sbytes pre) (sbytes ind) f none 0 0 = some P) := hmj
  have hs1 : Hid (([] ++ em false (sbytes pre)).length ≤ 140737488355328) := by
    show _ ≤ _
    simp [em]
  have hR : Hid (Room (modOf w a n cap cs pre ind false) ([] ++ em false (sbytes pre)) P) := by
    refine ⟨?_, fun he => absurd (show false = true from he) (by decide)⟩
    show ([] ++ em false (sbytes pre)).length + n + 20 ≤ _
    simp [em]
    omega
  have HW : Hid (∀ (z : Nat), ValOk (modOf w a n cap cs pre ind false) f) := fun _ => HV
  have hb0 : Below w.heap.size w (w.alloc (.cells #[.slice a n cap, .string pre, .string ind, .bool false, .slice none 0 0, .int .i64 0, .int .i64 0] 47)) := (Below.refl _ _).alloc (Nat.le_refl _) _
  have HB0 : Hid _ := hb0
  clear HV hmj hb0
  cases P with
  | none =>
    clear hno
    go_enter Try.func11, Try.ntmps11
    go_wp2_with (first
      | (go_at_call 30; refine (HW.out 0 _ 0 0 0 0 none _ h5 (Nat.le_refl _) (Nat.le_refl _) (Nat.zero_le _) HMJ.out hR.out).mono ?_; rintro x7 w7 ⟨q7, b7, O7, l7, d7, rfl, h7, hb7, HM7⟩; obtain rfl := MrRel.no HM7.out)
      | (go_at_call 29; refine (putString_any (modOf w a n cap cs pre ind false) [] 0 0 pre _ hM hp hs1.out).mono ?_; rintro x5 w5 ⟨rfl, h5, hb5⟩))
    refine bodyPost_ret (v := .tuple #[.slice none 0 0, .int .i64 0, .int .i64 0, .bool false]) (by simp [results, Try.results11]) rfl ?_
    have hb5' : Below w.heap.size _ w5 := hb5
    have hb7' : Below w.heap.size w5 w7 := hb7
    exact ⟨rfl, (HB0.out.trans hb5').trans hb7'⟩
  | some r =>
    have hne := hno r rfl
    obtain ⟨rp, hrp⟩ : ∃ rp, r.p = rp := ⟨_, rfl⟩
    rw [hrp] at hne
    have Hrp : Hid _ := hrp
    clear hno hrp
    go_enter Try.func11, Try.ntmps11
    go_wp2_with (first
      | (go_at_call 30; refine (HW.out 0 _ 0 0 0 0 (some r) _ h5 (Nat.le_refl _) (Nat.le_refl _) (Nat.zero_le _) HMJ.out hR.out).mono ?_; rintro x7 w7 ⟨q7, b7, O7, l7, d7, rfl, h7, hb7, HM7⟩; obtain ⟨hb7t, hq7, hO7, hl7, hd7⟩ := MrRel.yes HM7.out; rw [Hrp.out] at hq7; subst hb7t; subst q7; clear hO7 hl7 hd7)
      | (go_at_call 29; refine (putString_any (modOf w a n cap cs pre ind false) [] 0 0 pre _ hM hp hs1.out).mono ?_; rintro x5 w5 ⟨rfl, h5, hb5⟩))
    refine bodyPost_ret (v := .tuple #[.slice none 0 0, .int .i64 0, .int .i64 0, .bool false]) (by simp [results, Try.results11]) rfl ?_
    have hb5' : Below w.heap.size _ w5 := hb5
    have hb7' : Below w.heap.size w5 w7 := hb7
    exact ⟨rfl, (HB0.out.trans hb5').trans hb7'⟩
end Go.Proofs.Qxb6603067a
