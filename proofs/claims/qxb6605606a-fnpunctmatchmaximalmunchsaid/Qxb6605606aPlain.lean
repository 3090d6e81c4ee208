namespace Go.Proofs.Qxb6605606a
namespace Pm

def isPre (s p : List UInt8) : Bool := p.isPrefixOf s

/-- The first mark of the row that s starts with. -/
def firstHit (s : List UInt8) : List (List UInt8) → List UInt8
  | [] => []
  | m :: r => if isPre s m then m else firstHit s r

/-- One step of the scan for the longest mark. -/
def better (s best m : List UInt8) : List UInt8 := if best.length < m.length ∧ isPre s m = true then m else best

def longest (s : List UInt8) (l : List (List UInt8)) : List UInt8 := l.foldl (better s) []

def Sorted (l : List (List UInt8)) : Prop := l.Pairwise fun a b => b.length ≤ a.length

theorem sorted_of_steps : ∀ (l : List (List UInt8)), (∀ i, i + 1 < l.length → (l.getD (i + 1) []).length ≤ (l.getD i []).length) → Sorted l
  | [], _ => List.Pairwise.nil
  | [a], _ => by simp [Sorted]
  | a :: b :: r, h => by
    have ih : Sorted (b :: r) := sorted_of_steps (b :: r) (fun i hi => by have := h (i + 1) (by simp at hi ⊢; omega); simpa using this)
    have h0 : b.length ≤ a.length := by simpa using h 0 (by simp)
    refine List.Pairwise.cons ?_ ih
    intro x hx
    rcases List.mem_cons.1 hx with rfl | hx
    · exact h0
    · exact Nat.le_trans (List.rel_of_pairwise_cons ih hx) h0

theorem keep (s : List UInt8) : ∀ (l : List (List UInt8)) (b : List UInt8), (∀ x ∈ l, x.length ≤ b.length) → l.foldl (better s) b = b
  | [], _, _ => rfl
  | m :: r, b, h => by
    have hm : better s b m = b := by
      unfold better; rw [if_neg]; intro hc; have := h m (by simp); omega
    rw [List.foldl_cons, hm]
    exact keep s r b (fun x hx => h x (by simp [hx]))

theorem longest_first (s : List UInt8) : ∀ l, Sorted l → longest s l = firstHit s l
  | [], _ => rfl
  | m :: r, h => by
    unfold longest firstHit
    rw [List.foldl_cons]
    have hr : ∀ x ∈ r, x.length ≤ m.length := fun x hx => List.rel_of_pairwise_cons h hx
    by_cases hp : isPre s m = true
    · rw [if_pos hp]
      by_cases h0 : 0 < m.length
      · have : better s [] m = m := by unfold better; rw [if_pos ⟨by simpa using h0, hp⟩]
        rw [this]; exact keep s r m hr
      · have hm : m = [] := List.eq_nil_of_length_eq_zero (by omega)
        subst hm
        have : better s [] [] = [] := by unfold better; split <;> rfl
        rw [this]; exact keep s r [] hr
    · rw [if_neg hp]
      have : better s [] m = [] := by unfold better; rw [if_neg (fun hc => hp hc.2)]
      rw [this]; exact longest_first s r (List.Pairwise.of_cons h)

theorem hit_mem (s : List UInt8) : ∀ l m, m ∈ l → isPre s m = true → firstHit s l ∈ l ∧ isPre s (firstHit s l) = true
  | [], m, h, _ => by simp at h
  | a :: r, m, h, hp => by
    unfold firstHit
    by_cases ha : isPre s a = true
    · rw [if_pos ha]; exact ⟨by simp, ha⟩
    · rw [if_neg ha]
      have hm : m ∈ r := by
        rcases List.mem_cons.1 h with rfl | h
        · exact absurd hp ha
        · exact h
      obtain ⟨h1, h2⟩ := hit_mem s r m hm hp
      exact ⟨by simp [h1], h2⟩

theorem hit_long (s : List UInt8) : ∀ l m, Sorted l → m ∈ l → isPre s m = true → m.length ≤ (firstHit s l).length
  | [], m, _, h, _ => by simp at h
  | a :: r, m, hs, h, hp => by
    unfold firstHit
    by_cases ha : isPre s a = true
    · rw [if_pos ha]
      rcases List.mem_cons.1 h with rfl | h
      · exact Nat.le_refl _
      · exact List.rel_of_pairwise_cons hs h
    · rw [if_neg ha]
      rcases List.mem_cons.1 h with rfl | h
      · exact absurd hp ha
      · exact hit_long s r m (List.Pairwise.of_cons hs) h hp

theorem pre_refl (m : List UInt8) : isPre m m = true := by unfold isPre; simp
theorem pre_append (m t : List UInt8) : isPre (m ++ t) m = true := by unfold isPre; simp
theorem pre_eq (s p : List UInt8) (h : isPre s p = true) (hl : s.length ≤ p.length) : p = s := by
  unfold isPre at h
  rw [List.isPrefixOf_iff_prefix] at h
  exact h.eq_of_length_le hl
theorem pre_len (s p : List UInt8) (h : isPre s p = true) : p.length ≤ s.length := by
  unfold isPre at h
  rw [List.isPrefixOf_iff_prefix] at h
  exact h.length_le

theorem munch_self (l : List (List UInt8)) (m : List UInt8) (hs : Sorted l) (h : m ∈ l) : firstHit m l = m :=
  pre_eq m _ (hit_mem m l m h (pre_refl m)).2 (hit_long m l m hs h (pre_refl m))

/-- The scan by index: what the loop of 'match' has seen. -/
theorem firstHit_at (s : List UInt8) : ∀ (l : List (List UInt8)) (k : Nat) (m : List UInt8), l[k]? = some m → isPre s m = true → (∀ j < k, isPre s (l.getD j []) = false) → firstHit s l = m
  | [], k, m, h, _, _ => by simp at h
  | a :: r, 0, m, h, hp, _ => by simp at h; subst h; unfold firstHit; rw [if_pos hp]
  | a :: r, k + 1, m, h, hp, hn => by
    unfold firstHit
    have := hn 0 (by omega)
    rw [if_neg (by simpa using this)]
    exact firstHit_at s r k m (by simpa using h) hp (fun j hj => by simpa using hn (j + 1) (by omega))

theorem firstHit_none (s : List UInt8) : ∀ (l : List (List UInt8)), (∀ j < l.length, isPre s (l.getD j []) = false) → firstHit s l = []
  | [], _ => rfl
  | a :: r, hn => by
    unfold firstHit
    have := hn 0 (by simp)
    rw [if_neg (by simpa using this)]
    exact firstHit_none s r (fun j hj => by simpa using hn (j + 1) (by simpa using hj))

end Pm
end Go.Proofs.Qxb6605606a
