/-
  THE WALKS of isDelim (37), htmlEscaped (46), text (33).
-/
import Derived.Test.Qxb6603067aLWalk3
import Derived.Laws.BytesArg
namespace Go.Proofs.Qxb6603067a
open Go.RowKit
open Plain

def delim (b : Int) : Bool := b == 44 || b == 125 || b == 93

theorem isDelim_any (b : Int) (w : World) : Calls Try.prog 37 #[.int .u8 b] w fun x w' => x = .returned (.bool (delim b)) ∧ w' = w := by
  cases e1 : (b == 44)
  · cases e2 : (b == 125)
    · have HF : Hid (b ≠ 44 ∧ b ≠ 125) := ⟨by simpa using e1, by simpa using e2⟩
      go_enter Try.func37, Try.ntmps37
      go_wp2
      go_ret
      simp [delim, e1, e2]
    · go_enter Try.func37, Try.ntmps37
      go_wp2
      go_ret
      simp [delim, e1, e2]
  · go_enter Try.func37, Try.ntmps37
    go_wp2
    go_ret
    simp [delim, e1]

theorem strOfNums_inj : ∀ {xs ys : List Int}, (∀ z ∈ xs, 0 ≤ z ∧ z ≤ 255) → (∀ z ∈ ys, 0 ≤ z ∧ z ≤ 255) → (strOfNums xs = strOfNums ys ↔ xs = ys) := by
  intro xs ys hx hy
  constructor
  · intro h
    have h1 : xs.map (fun n : Int => UInt8.ofNat n.toNat) = ys.map (fun n : Int => UInt8.ofNat n.toNat) := by
      rw [← strOfNums_data, ← strOfNums_data, h]
    clear h
    induction xs generalizing ys with
    | nil => cases ys with
      | nil => rfl
      | cons y ys => simp at h1
    | cons x xs ih => cases ys with
      | nil => simp at h1
      | cons y ys =>
        simp only [List.map_cons, List.cons.injEq] at h1
        have a1 := hx x (by simp)
        have a2 := hy y (by simp)
        have e : x = y := by
          have := congrArg UInt8.toNat h1.1
          rw [UInt8.toNat_ofNat', UInt8.toNat_ofNat'] at this
          omega
        rw [e, ih (fun z hz => hx z (by simp [hz])) (fun z hz => hy z (by simp [hz])) h1.2]
  · rintro rfl
    rfl

theorem beq_nums (xs ys : List Int) (bs : List UInt8) (hb : bs = ys.map fun n : Int => UInt8.ofNat n.toNat) (hx : ∀ z ∈ xs, 0 ≤ z ∧ z ≤ 255) (hy : ∀ z ∈ ys, 0 ≤ z ∧ z ≤ 255) : ((strOfNums xs).toList == bs) = decide (xs = ys) := by
  have e : (strOfNums xs).toList = xs.map fun n : Int => UInt8.ofNat n.toNat := by
    rw [ByteArray.toList_eq]
    rfl
  rw [e, hb, ← strOfNums_data xs, ← strOfNums_data ys]
  rw [Bool.eq_iff_iff]
  simp only [beq_iff_eq, decide_eq_true_eq]
  rw [← strOfNums_inj hx hy]
  constructor
  · intro h
    exact ByteArray.ext (Array.ext' h)
  · intro h
    rw [h]

def htmlE (zs : List Int) : Int :=
  if zs.length < 6 then 0
  else if zs.take 4 = [92, 117, 48, 48] then
    if (zs.drop 4).take 2 = [51, 99] then 60
    else if (zs.drop 4).take 2 = [51, 101] then 62
    else if (zs.drop 4).take 2 = [50, 54] then 38
    else 0
  else 0

set_option maxRecDepth 10000 in
set_option maxHeartbeats 400000 in
theorem htmlEscaped_any (b off n cap : Nat) (zs : List Int) (w : World) (hz : zs.length = n) (hu : ∀ z ∈ zs, 0 ≤ z ∧ z ≤ 255) (hn : n ≤ cap) (hcap : cap ≤ 1099511627776)
    (hc : ∀ i, i < n → w.cell? ⟨b, off + i, none⟩ = some (.int .u8 (zs.getD i 0))) :
    Calls Try.prog 46 #[.slice (some ⟨b, off, none⟩) n cap] w fun x w' => x = .returned (.int .u8 (htmlE zs)) ∧ w' = w := by
  by_cases h6 : n < 6
  · have HE : Hid (htmlE zs = 0) := by show _ = _; rw [htmlE, if_pos (by omega)]
    clear hc hu hz
    go_enter Try.func46, Try.ntmps46
    go_wp2
    go_ret
    rw [HE.out]
    exact ⟨rfl, rfl⟩
  · have g4 := run_convert_bytes_arg (P := Try.prog) w 22 5 Try.underlying22 Try.underlying5 b off 4 cap (zs.take 4) (by simp; omega) (fun i hi => by rw [hc i (by omega)]; simp [List.getD_eq_getElem?_getD, hi]) 9 Try.underlying9
    have g2 := run_convert_bytes_arg (P := Try.prog) w 22 5 Try.underlying22 Try.underlying5 b (off + 4) 2 (cap - 4) ((zs.drop 4).take 2) (by simp; omega) (fun i hi => by rw [Nat.add_assoc, hc (4 + i) (by omega)]; simp [List.getD_eq_getElem?_getD, hi]) 9 Try.underlying9
    have hne : cap ≠ 4 := by omega
    obtain ⟨S4, hS4⟩ : ∃ S, S = strOfNums (zs.take 4) := ⟨_, rfl⟩
    obtain ⟨S2, hS2⟩ : ∃ S, S = strOfNums ((zs.drop 4).take 2) := ⟨_, rfl⟩
    rw [← hS4] at g4
    rw [← hS2] at g2
    have H4 : Hid _ := hS4
    have H2 : Hid _ := hS2
    have HU : Hid _ := hu
    have HZ : Hid _ := hz
    have H6 : 6 ≤ n := by omega
    clear hS4 hS2 hu hz h6 hc
    have HV : Hid (htmlE zs = if !(S4.toList == [92, 117, 48, 48]) then 0 else if S2.toList == [51, 99] then 60 else if S2.toList == [51, 101] then 62 else if S2.toList == [50, 54] then 38 else 0) := by
      show _ = _
      rw [H4.out, H2.out, beq_nums _ [92, 117, 48, 48] ([92, 117, 48, 48] : List UInt8) (by decide) (fun z hz => HU.out z (List.mem_of_mem_take hz)) (by decide), beq_nums _ [51, 99] ([51, 99] : List UInt8) (by decide) (fun z hz => HU.out z (List.mem_of_mem_drop (List.mem_of_mem_take hz))) (by decide),
        beq_nums _ [51, 101] ([51, 101] : List UInt8) (by decide) (fun z hz => HU.out z (List.mem_of_mem_drop (List.mem_of_mem_take hz))) (by decide), beq_nums _ [50, 54] ([50, 54] : List UInt8) (by decide) (fun z hz => HU.out z (List.mem_of_mem_drop (List.mem_of_mem_take hz))) (by decide), htmlE, if_neg (by have := HZ.out; omega)]
      by_cases q : zs.take 4 = [92, 117, 48, 48] <;> simp [q]
    go_enter Try.func46, Try.ntmps46
    go_wp2
    all_goals
      go_ret
      rw [HV.out]
      first
        | (simp [*]; done)
        | (refine ⟨?_, rfl⟩
           rename_i hor
           have hor' : (!S4.toList == [92, 117, 48, 48]) = true := by
             rcases hor with h | h
             · omega
             · exact h
           simp [hor'])
end Go.Proofs.Qxb6603067a
