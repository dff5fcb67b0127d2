/-
  Binary heaps over functions of the index: sift up, sift down, the least at the root; what is in the heap, as a list up to order. No program in sight.
-/
import Derived.Test.YbulkchpkRow
namespace Go.Proofs.Ybulkchpk

def swp (f : Nat → Int) (i j : Nat) (p : Nat) : Int := if p = i then f j else if p = j then f i else f p
theorem swp_l (f : Nat → Int) (i j : Nat) : swp f i j i = f j := by simp [swp]
theorem swp_r (f : Nat → Int) (i j : Nat) : swp f i j j = f i := by
  unfold swp
  by_cases h : j = i
  · subst h; simp
  · simp [h]
theorem swp_o (f : Nat → Int) (i j p : Nat) (h1 : p ≠ i) (h2 : p ≠ j) : swp f i j p = f p := by simp [swp, h1, h2]
theorem swp_same (f : Nat → Int) (i : Nat) : swp f i i = f := by
  funext p
  unfold swp
  by_cases h : p = i
  · subst h; simp
  · simp [h]

def els (f : Nat → Int) (k : Nat) : List Int := (List.range k).map f
theorem els_length (f : Nat → Int) (k : Nat) : (els f k).length = k := by simp [els]
theorem els_congr (f g : Nat → Int) (k : Nat) (h : ∀ p, p < k → f p = g p) : els f k = els g k := by
  unfold els
  exact List.map_congr_left (fun p hp => h p (List.mem_range.1 hp))
theorem els_succ (f : Nat → Int) (k : Nat) : els f (k + 1) = els f k ++ [f k] := by simp [els, List.range_succ]
theorem els_swp (f : Nat → Int) (i j k : Nat) (hi : i < k) (hj : j < k) : (els (swp f i j) k).Perm (els f k) := by
  have hi' : i < (els f k).toArray.size := by simp [els_length, hi]
  have hj' : j < (els f k).toArray.size := by simp [els_length, hj]
  have hp := (Array.swap_perm (xs := (els f k).toArray) hi' hj').toList
  have e : ((els f k).toArray.swap i j hi' hj').toList = els (swp f i j) k := by
    refine List.ext_getElem (by simp [els_length]) fun p h1 h2 => ?_
    have hpk : p < k := by simpa [els_length] using h2
    simp only [Array.getElem_toList, Array.getElem_swap]
    by_cases a : p = i
    · subst a; simp [els, swp]
    · by_cases b : p = j
      · subst b; simp [els, swp, a]
      · simp [els, swp, a, b]
  rw [e] at hp
  simpa using hp

def HeapOn (f : Nat → Int) (k : Nat) : Prop := ∀ p, 0 < p → p < k → f ((p - 1) / 2) ≤ f p
theorem HeapOn.least {f : Nat → Int} {k : Nat} (h : HeapOn f k) : ∀ p, p < k → f 0 ≤ f p := by
  intro p
  induction p using Nat.strongRecOn with
  | _ p ih =>
    intro hp
    by_cases h0 : p = 0
    · subst h0; exact Int.le_refl _
    · have a := ih ((p - 1) / 2) (by omega) (by omega)
      have b := h p (by omega) hp
      omega

def UpInv (f : Nat → Int) (k j : Nat) : Prop :=
  (∀ p, 0 < p → p < k → p ≠ j → f ((p - 1) / 2) ≤ f p) ∧ ∀ p, 0 < p → p < k → (p - 1) / 2 = j → 0 < j → f ((j - 1) / 2) ≤ f p
theorem UpInv.start {f f' : Nat → Int} {k : Nat} (h : HeapOn f k) (hf : ∀ p, p < k → f' p = f p) : UpInv f' (k + 1) k := by
  refine ⟨fun p h0 h1 h2 => ?_, fun p h0 h1 h2 h3 => by omega⟩
  rw [hf p (by omega), hf _ (by omega)]
  exact h p h0 (by omega)
theorem UpInv.done {f : Nat → Int} {k j : Nat} (h : UpInv f k j) (hd : j = 0 ∨ f ((j - 1) / 2) ≤ f j) : HeapOn f k := by
  intro p h0 h1
  by_cases e : p = j
  · subst e
    rcases hd with hd | hd
    · omega
    · exact hd
  · exact h.1 p h0 h1 e
theorem UpInv.step {f : Nat → Int} {k j i : Nat} (h : UpInv f k j) (hj0 : 0 < j) (hj : j < k) (hi : i = (j - 1) / 2) (hlt : f j < f i) : UpInv (swp f i j) k i := by
  have hij : i < j := by omega
  refine ⟨fun p h0 h1 h2 => ?_, fun p h0 h1 h2 h3 => ?_⟩
  · by_cases e : p = j
    · subst e
      rw [← hi, swp_l, swp_r]
      omega
    · rw [swp_o f i j p h2 e]
      have a := h.1 p h0 h1 e
      by_cases q1 : (p - 1) / 2 = i
      · rw [q1, swp_l]
        rw [q1] at a
        omega
      · by_cases q2 : (p - 1) / 2 = j
        · rw [q2, swp_r]
          have b := h.2 p h0 h1 q2 hj0
          rw [← hi] at b
          exact b
        · rw [swp_o f i j _ q1 q2]
          exact a
  · have g := h.1 i h3 (by omega) (by omega)
    rw [swp_o f i j ((i - 1) / 2) (by omega) (by omega)]
    by_cases e : p = j
    · subst e
      rw [swp_r]
      exact g
    · rw [swp_o f i j p (by omega) e]
      have a := h.1 p h0 h1 e
      rw [h2] at a
      omega

def DownInv (f : Nat → Int) (n i : Nat) : Prop :=
  (∀ p, 0 < p → p < n → (p - 1) / 2 ≠ i → f ((p - 1) / 2) ≤ f p) ∧ ∀ p, 0 < p → p < n → (p - 1) / 2 = i → 0 < i → f ((i - 1) / 2) ≤ f p
theorem DownInv.start {f : Nat → Int} {n : Nat} (h : HeapOn f (n + 1)) : DownInv (swp f 0 n) n 0 := by
  refine ⟨fun p h0 h1 h2 => ?_, fun p h0 h1 h2 h3 => by omega⟩
  rw [swp_o f 0 n p (by omega) (by omega), swp_o f 0 n _ h2 (by omega)]
  exact h p h0 (by omega)
theorem DownInv.leaf {f : Nat → Int} {n i : Nat} (h : DownInv f n i) (hl : n ≤ 2 * i + 1) : HeapOn f n := by
  intro p h0 h1
  exact h.1 p h0 h1 (by omega)
theorem DownInv.done {f : Nat → Int} {n i j : Nat} (h : DownInv f n i) (hmin : ∀ p, 0 < p → p < n → (p - 1) / 2 = i → f j ≤ f p) (hle : f i ≤ f j) : HeapOn f n := by
  intro p h0 h1
  by_cases e : (p - 1) / 2 = i
  · rw [e]
    have := hmin p h0 h1 e
    omega
  · exact h.1 p h0 h1 e
theorem DownInv.step {f : Nat → Int} {n i j : Nat} (h : DownInv f n i) (hj0 : 0 < j) (hj : j < n) (hp : (j - 1) / 2 = i) (hmin : ∀ p, 0 < p → p < n → (p - 1) / 2 = i → f j ≤ f p) (hlt : f j < f i) : DownInv (swp f i j) n j := by
  have hij : i < j := by omega
  refine ⟨fun p h0 h1 h2 => ?_, fun p h0 h1 h2 h3 => ?_⟩
  · by_cases q1 : (p - 1) / 2 = i
    · rw [q1, swp_l]
      by_cases e : p = j
      · subst e; rw [swp_r]; omega
      · rw [swp_o f i j p (by omega) e]
        exact hmin p h0 h1 q1
    · rw [swp_o f i j _ q1 h2]
      by_cases e : p = i
      · subst e
        rw [swp_l]
        exact h.2 j hj0 hj hp h0
      · rw [swp_o f i j p e (by intro e'; subst e'; exact q1 hp)]
        exact h.1 p h0 h1 q1
  · rw [hp, swp_l, swp_o f i j p (by omega) (by omega)]
    have := h.1 p h0 h1 (by omega)
    rw [h2] at this
    exact this
end Go.Proofs.Ybulkchpk
