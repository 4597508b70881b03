/- Decimal digits, no Go in sight. -/
namespace Go.Proofs.Qxb6600025a
set_option linter.unusedVariables false
set_option linter.unusedSimpArgs false

/-- The digits of n ahead of acc, the last first. -/
def decF : Nat → Nat → List Int → List Int
  | 0, _, acc => acc
  | f + 1, n, acc => if n = 0 then acc else decF f (n / 10) ((48 + (n : Int) % 10) :: acc)

def dec (n : Nat) : List Int := if n = 0 then [48] else decF 24 n []

/-- What a list of digits says. -/
def val (l : List Int) : Int := l.foldl (fun v c => v * 10 + (c - 48)) 0

def IsDigits (l : List Int) : Prop := ∀ c ∈ l, 48 ≤ c ∧ c ≤ 57

theorem decF_zero (f : Nat) (acc : List Int) : decF f 0 acc = acc := by cases f <;> simp [decF]

theorem decF_digits : ∀ (f n : Nat) (acc : List Int), IsDigits acc → IsDigits (decF f n acc)
  | 0, _, _, h => h
  | f + 1, n, acc, h => by
    unfold decF
    split
    · exact h
    · refine decF_digits f (n / 10) _ ?_
      intro c hc
      rcases List.mem_cons.1 hc with rfl | hc
      · omega
      · exact h c hc

theorem foldl_val (l : List Int) (v : Int) : l.foldl (fun v c => v * 10 + (c - 48)) v = v * 10 ^ l.length + val l := by
  induction l generalizing v with
  | nil => simp [val]
  | cons c l ih =>
    simp only [List.foldl_cons, List.length_cons, val]
    rw [ih, ih (0 * 10 + (c - 48))]
    rw [Int.pow_succ]
    simp only [Int.zero_mul, Int.zero_add]
    rw [Int.add_mul, Int.mul_assoc, Int.mul_comm (10 : Int) (10 ^ l.length)]
    omega

theorem val_cons (c : Int) (l : List Int) : val (c :: l) = (c - 48) * 10 ^ l.length + val l := by
  have := foldl_val l (0 * 10 + (c - 48))
  simp only [Int.zero_mul, Int.zero_add] at this
  unfold val
  simp only [List.foldl_cons, Int.zero_mul, Int.zero_add]
  exact this

theorem val_snoc (l : List Int) (c : Int) : val (l ++ [c]) = val l * 10 + (c - 48) := by simp [val]

theorem val_decF : ∀ (f n : Nat) (acc : List Int), n < 10 ^ f → val (decF f n acc) = (n : Int) * 10 ^ acc.length + val acc
  | 0, n, acc, h => by
    have : n = 0 := by simpa using h
    subst this
    simp [decF]
  | f + 1, n, acc, h => by
    unfold decF
    split
    · rename_i h0
      subst h0
      simp
    · rw [val_decF f (n / 10) _ (by rw [Nat.pow_succ] at h; omega), val_cons, List.length_cons, Int.pow_succ]
      have e : ((n / 10 : Nat) : Int) = (n : Int) / 10 := by omega
      rw [e]
      have h1 : (n : Int) = (n : Int) / 10 * 10 + (n : Int) % 10 := by omega
      generalize (n : Int) / 10 = q at *
      generalize (n : Int) % 10 = r at *
      rw [h1, Int.add_mul]
      have : q * (10 ^ acc.length * 10) = q * 10 * 10 ^ acc.length := by
        rw [Int.mul_comm ((10 : Int) ^ acc.length) 10, Int.mul_assoc]
      rw [this]
      have h2 : (48 + r - 48) = r := by omega
      rw [h2]
      omega

/-- The first digit is no zero. -/
theorem decF_head : ∀ (f n : Nat) (acc : List Int), 0 < n → n < 10 ^ f → ∃ c l, decF f n acc = c :: l ∧ c ≠ 48
  | 0, n, acc, h0, h => by
    have : n = 0 := by simpa using h
    omega
  | f + 1, n, acc, h0, h => by
    unfold decF
    rw [if_neg (by omega)]
    by_cases h1 : 0 < n / 10
    · exact decF_head f (n / 10) _ h1 (by rw [Nat.pow_succ] at h; omega)
    · have : n / 10 = 0 := by omega
      rw [this, decF_zero]
      exact ⟨_, _, rfl, by omega⟩

theorem decF_length : ∀ (f n : Nat) (acc : List Int), (decF f n acc).length ≤ f + acc.length
  | 0, n, acc => by simp [decF]
  | f + 1, n, acc => by
    unfold decF
    split
    · omega
    · have := decF_length f (n / 10) ((48 + (n : Int) % 10) :: acc)
      simp only [List.length_cons] at this
      omega

/-- All that a reader of the digits of n wants to know. -/
structure Digits (l : List Int) (n : Nat) : Prop where
  digits : IsDigits l
  value : val l = n
  pos : 0 < l.length
  short : l.length ≤ 24
  head : 1 < l.length → l.getD 0 0 ≠ 48

theorem dec_digits (n : Nat) (h : n < 10 ^ 24) : Digits (dec n) n := by
  unfold dec
  split
  · rename_i h0
    subst h0
    exact ⟨by intro c hc; simp at hc; omega, by simp [val], by simp, by simp, by simp⟩
  · obtain ⟨c, l, e, hc⟩ := decF_head 24 n [] (by omega) h
    refine ⟨decF_digits 24 n [] (by intro c hc; simp at hc), ?_, ?_, ?_, ?_⟩
    · rw [val_decF 24 n [] h]; simp [val]
    · rw [e]; simp
    · have := decF_length 24 n []; simpa using this
    · intro _; rw [e]; simpa using hc

theorem fold_ge (l : List Int) (h : IsDigits l) (v : Int) (hv : 0 ≤ v) : v ≤ l.foldl (fun v c => v * 10 + (c - 48)) v := by
  induction l generalizing v with
  | nil => simp
  | cons c l ih =>
    have hc := h c (by simp)
    have := ih (fun d hd => h d (by simp [hd])) (v * 10 + (c - 48)) (by omega)
    simp only [List.foldl_cons]
    omega

/-- A shorter beginning says no more than the whole. -/
theorem val_take_le (l : List Int) (h : IsDigits l) (k : Nat) : 0 ≤ val (l.take k) ∧ val (l.take k) ≤ val l := by
  have h1 : 0 ≤ val (l.take k) := fold_ge (l.take k) (fun c hc => h c (List.mem_of_mem_take hc)) 0 (Int.le_refl _)
  refine ⟨h1, ?_⟩
  have h2 := fold_ge (l.drop k) (fun c hc => h c (List.mem_of_mem_drop hc)) (val (l.take k)) h1
  have h3 : val l = (l.drop k).foldl (fun v c => v * 10 + (c - 48)) (val (l.take k)) := by
    unfold val
    rw [← List.foldl_append, List.take_append_drop]
  rw [h3]
  exact h2

theorem val_take_succ (l : List Int) (k : Nat) (h : k < l.length) : val (l.take (k + 1)) = val (l.take k) * 10 + (l.getD k 0 - 48) := by
  rw [List.take_succ_eq_append_getElem h, val_snoc]
  simp [List.getD, h]
end Go.Proofs.Qxb6600025a
