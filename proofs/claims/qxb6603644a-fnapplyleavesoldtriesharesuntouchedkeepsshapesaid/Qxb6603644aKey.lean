/-
  THE WALKS of the law's tests on two rows: zzSameKey (32), zzKeyLess (31), zzCmpChange (36).
-/
import Derived.Test.Qxb6603644aCmp
namespace Go.Proofs.Qxb6603644a
open Go.RowKit

/-- a row as the law is handed it: hash, seq, id, put, thirteen texts, four numbers -/
structure Z where
  hash : Int
  seq : Int
  id : ByteArray
  put : Bool
  tx : Fin 13 → ByteArray
  nm : Fin 4 → Int

/-- its 21 cells -/
def encZ (z : Z) : List Value := [.int .u64 z.hash, .int .i64 z.seq, .string z.id, .bool z.put, .string (z.tx 0), .string (z.tx 1), .string (z.tx 2), .string (z.tx 3), .string (z.tx 4), .string (z.tx 5), .string (z.tx 6), .string (z.tx 7), .string (z.tx 8), .string (z.tx 9), .string (z.tx 10), .string (z.tx 11), .string (z.tx 12),
  .int .i64 (z.nm 0), .int .i64 (z.nm 1), .int .i64 (z.nm 2), .int .i64 (z.nm 3)]
def aggZ (z : Z) : Value := .agg (encZ z).toArray

set_option maxRecDepth 10000 in
theorem sameKey_any (x y : Z) (w : World) : Calls Try.prog 32 #[aggZ x, aggZ y] w fun e w' => e = .returned (.bool (x.hash == y.hash && x.id.toList == y.id.toList)) ∧ Below w.heap.size w w' := by
  cases hb : (x.hash == y.hash)
  · have hne : ¬ x.hash = y.hash := by simpa using hb
    unfold aggZ encZ
    go_enter Try.func32, Try.ntmps32
    go_wp2
    go_ret
    exact ⟨rfl, ((Below.refl _ w).alloc (Nat.le_refl _) _).alloc (by simp) _⟩
  · unfold aggZ encZ
    go_enter Try.func32, Try.ntmps32
    go_wp2
    go_ret
    exact ⟨by simp, ((Below.refl _ w).alloc (Nat.le_refl _) _).alloc (by simp) _⟩

def keyLess (x y : Z) : Bool := decide (x.hash < y.hash) || (x.hash == y.hash && Op.bytesLess x.id.toList y.id.toList)

set_option maxRecDepth 10000 in
theorem keyLess_any (x y : Z) (w : World) : Calls Try.prog 31 #[aggZ x, aggZ y] w fun e w' => e = .returned (.bool (keyLess x y)) ∧ Below w.heap.size w w' := by
  obtain ⟨r, hr⟩ : ∃ r, keyLess x y = r := ⟨_, rfl⟩
  rw [hr]
  have HR : Hid _ := hr
  clear hr
  by_cases h1 : x.hash < y.hash
  · have hc : r = true := by rw [← HR.out]; simp [keyLess, h1]
    subst hc
    unfold aggZ encZ
    go_enter Try.func31, Try.ntmps31
    go_wp2
    go_ret
    exact ⟨rfl, ((Below.refl _ w).alloc (Nat.le_refl _) _).alloc (by simp) _⟩
  · by_cases h2 : x.hash = y.hash
    · have hc : r = Op.bytesLess x.id.toList y.id.toList := by rw [← HR.out]; simp [keyLess, h2]
      have HC : Hid _ := hc
      have hb : (x.hash == y.hash) = true := by simpa using h2
      clear h2 hc
      unfold aggZ encZ
      go_enter Try.func31, Try.ntmps31
      go_wp2
      go_ret
      exact ⟨by rw [HC.out]; rfl, ((Below.refl _ w).alloc (Nat.le_refl _) _).alloc (by simp) _⟩
    · have hc : r = false := by rw [← HR.out]; simp [keyLess, h1, h2]
      subst hc
      unfold aggZ encZ
      go_enter Try.func31, Try.ntmps31
      go_wp2
      go_ret
      exact ⟨rfl, ((Below.refl _ w).alloc (Nat.le_refl _) _).alloc (by simp) _⟩

/-- by hash, then id, then seq -/
def cmpZ (x y : Z) : Int :=
  if (x.hash != y.hash) = true then (if x.hash < y.hash then -1 else 1)
  else if (!x.id.toList == y.id.toList) = true then (if Op.bytesLess x.id.toList y.id.toList = true then -1 else 1)
  else if (x.seq != y.seq) = true then (if x.seq < y.seq then -1 else 1) else 0

theorem ret_i64 {a b : Int} (h : a = b) : Ending.returned (.int .i64 a) = .returned (.int .i64 b) := by rw [h]

set_option maxRecDepth 10000 in
theorem cmpChange_any (x y : Z) (w : World) : Calls Try.prog 36 #[aggZ x, aggZ y] w fun e w' => e = .returned (.int .i64 (cmpZ x y)) ∧ Below w.heap.size w w' := by
  obtain ⟨r, hr⟩ : ∃ r, cmpZ x y = r := ⟨_, rfl⟩
  rw [hr]
  have HR : Hid (cmpZ x y = r) := hr
  clear hr
  unfold aggZ encZ
  go_enter Try.func36, Try.ntmps36
  go_wp2
  · go_ret
    refine ⟨ret_i64 (a := -1) ?_, ((Below.refl _ w).alloc (Nat.le_refl _) _).alloc (by simp) _⟩
    rw [← HR.out, cmpZ, if_pos (by assumption), if_pos (by assumption)]
  · go_ret
    refine ⟨ret_i64 (a := 1) ?_, ((Below.refl _ w).alloc (Nat.le_refl _) _).alloc (by simp) _⟩
    have h4 : y.hash ≤ x.hash := by assumption
    rw [← HR.out, cmpZ, if_pos (by assumption), if_neg (by omega)]
  · go_ret
    refine ⟨ret_i64 (a := -1) ?_, ((Below.refl _ w).alloc (Nat.le_refl _) _).alloc (by simp) _⟩
    have h1 : (x.hash != y.hash) = false := by assumption
    have h2 : (!x.id.toList == y.id.toList) = true := by assumption
    have h3 : Op.bytesLess x.id.toList y.id.toList = true := by assumption
    rw [← HR.out, cmpZ, if_neg (by rw [h1]; decide), if_pos h2, if_pos h3]
  · go_ret
    refine ⟨ret_i64 (a := 1) ?_, ((Below.refl _ w).alloc (Nat.le_refl _) _).alloc (by simp) _⟩
    have h1 : (x.hash != y.hash) = false := by assumption
    have h2 : (!x.id.toList == y.id.toList) = true := by assumption
    have h3 : Op.bytesLess x.id.toList y.id.toList = false := by assumption
    rw [← HR.out, cmpZ, if_neg (by rw [h1]; decide), if_pos h2, if_neg (by rw [h3]; decide)]
  · go_ret
    refine ⟨ret_i64 (a := -1) ?_, ((Below.refl _ w).alloc (Nat.le_refl _) _).alloc (by simp) _⟩
    have h1 : (x.hash != y.hash) = false := by assumption
    have h2 : (!x.id.toList == y.id.toList) = false := by assumption
    have h3 : (x.seq != y.seq) = true := by assumption
    have h4 : x.seq < y.seq := by assumption
    rw [← HR.out, cmpZ, if_neg (by rw [h1]; decide), if_neg (by rw [h2]; decide), if_pos h3, if_pos h4]
  · go_ret
    refine ⟨ret_i64 (a := 1) ?_, ((Below.refl _ w).alloc (Nat.le_refl _) _).alloc (by simp) _⟩
    have h1 : (x.hash != y.hash) = false := by assumption
    have h2 : (!x.id.toList == y.id.toList) = false := by assumption
    have h3 : (x.seq != y.seq) = true := by assumption
    have h4 : y.seq ≤ x.seq := by assumption
    rw [← HR.out, cmpZ, if_neg (by rw [h1]; decide), if_neg (by rw [h2]; decide), if_pos h3, if_neg (by omega)]
  · go_ret
    refine ⟨ret_i64 (a := 0) ?_, ((Below.refl _ w).alloc (Nat.le_refl _) _).alloc (by simp) _⟩
    have h1 : (x.hash != y.hash) = false := by assumption
    have h2 : (!x.id.toList == y.id.toList) = false := by assumption
    have h3 : (x.seq != y.seq) = false := by assumption
    rw [← HR.out, cmpZ, if_neg (by rw [h1]; decide), if_neg (by rw [h2]; decide), if_neg (by rw [h3]; decide)]
end Go.Proofs.Qxb6603644a
