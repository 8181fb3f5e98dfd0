/-
  The plain law of the round trip: what was written in decimal is read back. No Go in sight.
-/
import Derived.Test.Qxb6000758aIpPlain
namespace Go.Proofs.Qxb6000758a

def dig (n : Nat) : UInt8 := UInt8.ofNat (48 + n)
def dec (v : Nat) : List UInt8 := (if 100 ≤ v then [dig (v / 100)] else []) ++ ((if 10 ≤ v then [dig (v / 10 % 10)] else []) ++ [dig (v % 10)])
def part4 (p v : Nat) : List UInt8 := List.replicate p 48 ++ dec v
def txt (X Pd : Nat → Nat) : Nat → List UInt8
  | 0 => []
  | k + 1 => txt X Pd k ++ ((if k = 0 then [] else [46]) ++ part4 (Pd k) (X k))

theorem dig_nat (n : Nat) (h : n < 10) : (dig n).toNat = 48 + n := by
  simp [dig]; omega
theorem dig_isD (n : Nat) (h : n < 10) : Ip.isD (dig n) = true := by
  simp [Ip.isD, dig_nat n h]; omega
theorem dec_len (v : Nat) : (dec v).length ≤ 3 := by
  unfold dec; split <;> split <;> simp
theorem part_len (p v : Nat) : (part4 p v).length ≤ p + 3 := by
  have := dec_len v
  simp [part4]; omega
theorem txt_len (X Pd : Nat → Nat) (hp : ∀ k, Pd k ≤ 255) : ∀ k, (txt X Pd k).length ≤ 259 * k
  | 0 => by simp [txt]
  | k + 1 => by
    have ih := txt_len X Pd hp k
    have h1 := part_len (Pd k) (X k)
    have h2 := hp k
    have h3 : (if k = 0 then ([] : List UInt8) else [46]).length ≤ 1 := by split <;> simp
    simp only [txt, List.length_append]
    omega

namespace Ip
theorem valG_zeros (p : Nat) (l : List UInt8) : valG (List.replicate p 48 ++ l) 0 = valG l 0 := by
  induction p with
  | zero => simp
  | succ p ih =>
    simp only [List.replicate_succ, List.cons_append, valG]
    rw [if_pos (by decide)]
    simpa using ih

theorem valG_dig (n : Nat) (h : n < 10) (l : List UInt8) (v : Nat) (hv : v ≤ 255) : valG (dig n :: l) v = valG l (10 * v + n) := by
  rw [valG, if_pos (dig_isD n h), if_pos hv, dig_nat n h]
  congr 1
  omega

theorem valG_dec (v : Nat) (hv : v < 256) : valG (dec v) 0 = some v := by
  unfold dec
  by_cases h100 : 100 ≤ v
  · rw [if_pos h100, if_pos (by omega)]
    simp only [List.cons_append, List.nil_append]
    rw [valG_dig _ (by omega) _ _ (by omega), valG_dig _ (by omega) _ _ (by omega), valG_dig _ (by omega) _ _ (by omega), valG, if_neg (by omega)]
    congr 1; omega
  · rw [if_neg h100]
    by_cases h10 : 10 ≤ v
    · rw [if_pos h10]
      simp only [List.cons_append, List.nil_append]
      rw [valG_dig _ (by omega) _ _ (by omega), valG_dig _ (by omega) _ _ (by omega), valG, if_neg (by omega)]
      congr 1; omega
    · rw [if_neg h10]
      simp only [List.nil_append]
      rw [valG_dig _ (by omega) _ _ (by omega), valG, if_neg (by omega)]
      congr 1; omega

theorem valG_part (p v : Nat) (hv : v < 256) : valG (part4 p v) 0 = some v := by
  unfold part4; rw [valG_zeros p, valG_dec v hv]

theorem dig_ne (n : Nat) (h : n < 10) : dig n ≠ 46 := isD_dot (dig_isD n h)
theorem part_ne (p v : Nat) (hv : v < 256) : ∀ d ∈ part4 p v, d ≠ 46 := by
  intro d hd
  unfold part4 dec at hd
  rcases List.mem_append.1 hd with h | h
  · rw [List.mem_replicate] at h; rw [h.2]; decide
  · rcases List.mem_append.1 h with h | h
    · split at h
      · simp at h; rw [h]; exact dig_ne _ (by omega)
      · simp at h
    · rcases List.mem_append.1 h with h | h
      · split at h
        · simp at h; rw [h]; exact dig_ne _ (by omega)
        · simp at h
      · simp at h; rw [h]; exact dig_ne _ (by omega)
theorem part_nil (p v : Nat) : part4 p v ≠ [] := by
  unfold part4 dec; simp

theorem md_run : ∀ (p t cur : List UInt8) (acc : List Nat), (∀ d ∈ p, d ≠ 46) → md (p ++ t) cur acc = md t (cur ++ p) acc
  | [], t, cur, acc, _ => by simp
  | d :: p, t, cur, acc, h => by
    rw [List.cons_append, md, if_pos (h d (by simp)), md_run p t _ acc (fun e he => h e (by simp [he]))]
    simp

theorem md_txt (X Pd : Nat → Nat) (hx : ∀ k, X k < 256) : ∀ (k : Nat) (t : List UInt8), k < 4 → md (txt X Pd (k + 1) ++ t) [] [] = md t (part4 (Pd k) (X k)) ((List.range k).map X)
  | 0, t, _ => by
    simp only [txt, if_true, List.nil_append]
    rw [md_run _ _ _ _ (part_ne _ _ (hx 0))]
    simp
  | k + 1, t, hk => by
    rw [txt, if_neg (by omega), List.append_assoc, List.append_assoc, md_txt X Pd hx k _ (by omega)]
    simp only [List.cons_append, List.nil_append]
    rw [md, if_neg (by simp), if_neg (part_nil _ _), if_neg (by simp; omega), valG_part _ _ (hx k)]
    simp only
    rw [md_run _ _ _ _ (part_ne _ _ (hx (k + 1))), List.range_succ, List.map_append]
    simp

/-- THE ROUND TRIP. -/
theorem round (X Pd : Nat → Nat) (hx : ∀ k, X k < 256) (c : Nat) (h1 : 1 ≤ c) (h4 : c ≤ 4) (dotted : Bool) :
    md (txt X Pd c ++ (if dotted then [46] else [])) [] [] = some ((List.range c).map X, dotted) := by
  obtain ⟨k, rfl⟩ : ∃ k, c = k + 1 := ⟨c - 1, by omega⟩
  rw [md_txt X Pd hx k _ (by omega)]
  cases dotted
  · simp only [Bool.false_eq_true, if_false]
    rw [md, if_neg (part_nil _ _), if_neg (by simp; omega), valG_part _ _ (hx k), List.range_succ, List.map_append]
    simp
  · simp only [if_true]
    rw [md, if_neg (by simp), if_neg (part_nil _ _), if_neg (by simp; omega), valG_part _ _ (hx k)]
    simp only
    rw [md, if_pos rfl, if_neg (by simp), List.range_succ, List.map_append]
    simp
end Ip
end Go.Proofs.Qxb6000758a
