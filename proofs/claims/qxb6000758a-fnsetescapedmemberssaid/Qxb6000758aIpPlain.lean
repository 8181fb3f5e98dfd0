/-
  Plain functions and laws for the IPv4 readers: no Go in sight.
-/
namespace Go.Proofs.Qxb6000758a.Ip

def isD (c : UInt8) : Bool := decide (48 ≤ c.toNat ∧ c.toNat ≤ 57)

/-- The inner loop of ipv4Numbers: how many bytes it reads, and the value. -/
def scan : List UInt8 → Nat → Nat × Nat
  | [], v => (0, v)
  | c :: l, v => if isD c = true ∧ v ≤ 255 then ((scan l (10 * v + (c.toNat - 48))).1 + 1, (scan l (10 * v + (c.toNat - 48))).2) else (0, v)

/-- ipv4Numbers: fuel, what is left, the numbers so far. -/
def rd : Nat → List UInt8 → List Nat → Option (List Nat × Bool)
  | 0, _, _ => none
  | _ + 1, [], acc => some (acc, !acc.isEmpty)
  | n + 1, c :: l, acc =>
    if acc.length = 4 then none
    else if (scan (c :: l) 0).1 = 0 ∨ 255 < (scan (c :: l) 0).2 then none
    else match (c :: l).drop (scan (c :: l) 0).1 with
      | [] => some (acc ++ [(scan (c :: l) 0).2], false)
      | d :: t => if d = 46 then rd n t (acc ++ [(scan (c :: l) 0).2]) else none

/-- The model's inner loop: a part's value. -/
def valG : List UInt8 → Nat → Option Nat
  | [], v => if 255 < v then none else some v
  | c :: l, v => if isD c = true then valG l (if v ≤ 255 then 10 * v + (c.toNat - 48) else v) else none

/-- The model: what is left, the part so far, the numbers so far. -/
def md : List UInt8 → List UInt8 → List Nat → Option (List Nat × Bool)
  | [], cur, acc =>
    if cur = [] then (if acc = [] then none else some (acc, true))
    else if acc.length = 4 then none
    else match valG cur 0 with
      | none => none
      | some v => some (acc ++ [v], false)
  | c :: t, cur, acc =>
    if c ≠ 46 then md t (cur ++ [c]) acc
    else if cur = [] then none
    else if acc.length = 4 then none
    else match valG cur 0 with
      | none => none
      | some v => md t [] (acc ++ [v])

/-- The three results: numbers, count, dotted. -/
def nums : Option (List Nat × Bool) → List Nat
  | none => []
  | some r => r.1
def dot : Option (List Nat × Bool) → Bool
  | none => false
  | some r => r.2

def Same (a b : Option (List Nat × Bool)) : Prop := nums a = nums b ∧ dot a = dot b

theorem isD_dot {c : UInt8} (h : isD c = true) : c ≠ 46 := by
  intro e; subst e; simp [isD] at h

theorem valG_big : ∀ (l : List UInt8) (v : Nat), 255 < v → valG l v = none
  | [], v, h => by simp [valG, h]
  | c :: l, v, h => by
    simp only [valG]
    split
    · rw [if_neg (by omega)]; exact valG_big l v h
    · rfl

theorem scan_some : ∀ (cur : List UInt8) (v x : Nat) (t : List UInt8), valG cur v = some x → (∀ d ∈ t.head?, isD d = false) → scan (cur ++ t) v = (cur.length, x) ∧ x ≤ 255
  | [], v, x, t, h, ht => by
    simp only [valG] at h
    split at h
    · cases h
    · cases h
      refine ⟨?_, by omega⟩
      cases t with
      | nil => rfl
      | cons d t => 
        have := ht d (by simp)
        simp [scan, this]
  | c :: l, v, x, t, h, ht => by
    simp only [valG] at h
    split at h
    · rename_i hc
      by_cases hv : v ≤ 255
      · rw [if_pos hv] at h
        have ih := scan_some l _ x t h ht
        simp [scan, hc, hv, ih.1, ih.2]
      · rw [if_neg hv, valG_big l v (by omega)] at h; cases h
    · cases h

theorem scan_none : ∀ (cur : List UInt8) (v : Nat) (t : List UInt8), valG cur v = none → (∀ d ∈ cur, d ≠ 46) → 255 < (scan (cur ++ t) v).2 ∨ ∃ d r, (cur ++ t).drop (scan (cur ++ t) v).1 = d :: r ∧ d ≠ 46
  | [], v, t, h, _ => by
    simp only [valG] at h
    split at h
    · rename_i hv
      left
      cases t with
      | nil => simpa [scan] using hv
      | cons d t => simp [scan]; rw [if_neg (by omega)]; exact hv
    · cases h
  | c :: l, v, t, h, hd => by
    simp only [valG] at h
    split at h
    · rename_i hc
      by_cases hv : v ≤ 255
      · rw [if_pos hv] at h
        have ih := scan_none l _ t h (fun d hdd => hd d (by simp [hdd]))
        simpa [scan, hc, hv] using ih
      · left
        simp [scan, hc, hv]; omega
    · rename_i hc
      right
      refine ⟨c, l ++ t, ?_, hd c (by simp)⟩
      simp [scan, hc]

theorem rd_md : ∀ (l cur : List UInt8) (n : Nat) (acc : List Nat), l.length < n → (∀ d ∈ cur, d ≠ 46) → Same (rd n (cur ++ l) acc) (md l cur acc)
  | [], cur, n, acc, hn, hd => by
    obtain ⟨m, rfl⟩ : ∃ m, n = m + 1 := ⟨n - 1, by simp at hn; omega⟩
    cases cur with
    | nil =>
      simp only [md, List.append_nil, rd]
      cases acc <;> simp [Same, nums, dot]
    | cons c l =>
      simp only [List.append_nil, rd, md]
      rw [if_neg (show ¬ (c :: l = []) by simp)]
      by_cases h4 : acc.length = 4
      · simp [h4, Same]
      · rw [if_neg h4, if_neg h4]
        cases hv : valG (c :: l) 0 with
        | none =>
          have := scan_none (c :: l) 0 [] hv hd
          rw [List.append_nil] at this
          split
          · simp [Same]
          · rename_i hh
            rcases this with h | ⟨d, r, h, h46⟩
            · omega
            · rw [h]; simp [h46, Same]
        | some x =>
          have := scan_some (c :: l) 0 x [] hv (by simp)
          rw [List.append_nil] at this
          rw [this.1, if_neg (by simp; omega)]
          simp [Same]
  | a :: t, cur, n, acc, hn, hd => by
    obtain ⟨m, rfl⟩ : ∃ m, n = m + 1 := ⟨n - 1, by simp at hn; omega⟩
    simp only [md]
    by_cases ha : a = 46
    · subst ha
      rw [if_neg (by simp)]
      cases cur with
      | nil =>
        rw [if_pos rfl]
        simp only [List.nil_append, rd]
        by_cases h4 : acc.length = 4
        · simp [h4, Same]
        · simp [h4, scan, isD, Same]
      | cons c l =>
        rw [if_neg (by simp)]
        simp only [List.cons_append, rd]
        by_cases h4 : acc.length = 4
        · simp [h4, Same]
        · rw [if_neg h4, if_neg h4]
          cases hv : valG (c :: l) 0 with
          | none =>
            have := scan_none (c :: l) 0 (46 :: t) hv hd
            rw [List.cons_append] at this
            split
            · simp [Same]
            · rename_i hh
              rcases this with h | ⟨d, r, h, h46⟩
              · omega
              · rw [h]; simp [h46, Same]
          | some x =>
            have := scan_some (c :: l) 0 x (46 :: t) hv (by simp [isD])
            rw [List.cons_append] at this
            rw [this.1, if_neg (by simp; omega)]
            have hdr : (c :: (l ++ 46 :: t)).drop ((c :: l).length, x).1 = 46 :: t := by simp
            rw [hdr]
            simp only [if_true]
            have := rd_md t [] m (acc ++ [x]) (by simp at hn; omega) (by simp)
            simpa using this
    · rw [if_pos ha]
      have := rd_md t (cur ++ [a]) (m + 1) acc (by simp at hn; omega) (by intro d hdd; simp at hdd; rcases hdd with h | h; exact hd d h; rw [h]; exact ha)
      simpa using this

/-- THE LAW OF AGREEMENT. -/
theorem agree (l : List UInt8) : Same (rd (l.length + 1) l []) (md l [] []) := by
  have := rd_md l [] (l.length + 1) [] (by omega) (by simp)
  simpa using this

end Go.Proofs.Qxb6000758a.Ip
