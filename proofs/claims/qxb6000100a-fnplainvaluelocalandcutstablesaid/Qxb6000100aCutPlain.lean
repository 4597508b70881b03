/- A plain value looks at nothing ahead of i and at nothing past its end: no Go in sight. -/
import Derived.Test.Qxb6000100aVal
namespace Go.Proofs.Qxb6000100a
set_option linter.unusedVariables false
set_option linter.unusedSimpArgs false

theorem getD_drop (zs : List Int) (i t : Nat) : (zs.drop i).getD t 0 = zs.getD (i + t) 0 := by simp [List.getD]
theorem getD_take' (zs : List Int) (n j : Nat) (h : j < n) : (zs.take n).getD j 0 = zs.getD j 0 := by
  simp [List.getD, h]

theorem isStr_drop_iff (zs : List Int) (i j : Nat) : IsStr (zs.drop i) 0 j ↔ IsStr zs i (i + j) := by
  unfold IsStr
  simp only [getD_drop, List.length_drop, Nat.add_zero]
  constructor
  · rintro ⟨a1, a2, a3, a4, a5⟩
    refine ⟨by omega, by omega, a3, a4, fun t h1 h2 => ?_⟩
    have := a5 (t - i) (by omega) (by omega)
    rwa [show i + (t - i) = t by omega] at this
  · rintro ⟨a1, a2, a3, a4, a5⟩
    exact ⟨by omega, by omega, a3, a4, fun t h1 h2 => a5 (i + t) (by omega) (by omega)⟩

theorem isNum_drop_iff (zs : List Int) (i m : Nat) (hi : i < zs.length) : IsNum (zs.drop i) 0 m ↔ IsNum zs i (i + m) := by
  unfold IsNum
  simp only [getD_drop, List.length_drop]
  constructor
  · rintro ⟨a1, a2, a3, a4⟩
    refine ⟨by omega, by omega, fun t h1 h2 => ?_, fun h => a4 (by omega)⟩
    have := a3 (t - i) (by omega) (by omega)
    rwa [show i + (t - i) = t by omega] at this
  · rintro ⟨a1, a2, a3, a4⟩
    exact ⟨by omega, by omega, fun t h1 h2 => a3 (i + t) (by omega) (by omega), fun h => a4 (by omega)⟩

theorem litEnd_drop_iff (zs : List Int) (i m : Nat) : LitEnd (zs.drop i) 0 m ↔ LitEnd zs i (i + m) := by
  unfold LitEnd HasAt
  simp only [List.drop_zero, Nat.zero_add, Nat.add_left_cancel_iff]

theorem isVal_drop_iff (zs : List Int) (i m : Nat) : IsVal (zs.drop i) 0 m ↔ IsVal zs i (i + m) := by
  unfold IsVal
  simp only [getD_drop, Nat.add_zero]
  constructor
  · rintro ⟨h0, h⟩
    rw [List.length_drop] at h0
    refine ⟨by omega, ?_⟩
    rcases h with ⟨j, hj, rfl⟩ | ⟨h1, rfl⟩ | ⟨h1, h2, h3⟩ | ⟨h1, h2, h3⟩
    · exact .inl ⟨i + j, (isStr_drop_iff zs i j).1 hj, by omega⟩
    · exact .inr (.inl ⟨h1, by omega⟩)
    · exact .inr (.inr (.inl ⟨h1, h2, (isNum_drop_iff zs i m (by omega)).1 h3⟩))
    · exact .inr (.inr (.inr ⟨h1, h2, (litEnd_drop_iff zs i m).1 h3⟩))
  · rintro ⟨h0, h⟩
    refine ⟨by rw [List.length_drop]; omega, ?_⟩
    rcases h with ⟨j, hj, h⟩ | ⟨h1, h⟩ | ⟨h1, h2, h3⟩ | ⟨h1, h2, h3⟩
    · refine .inl ⟨j - i, (isStr_drop_iff zs i _).2 ?_, by have := hj.1; omega⟩
      rw [show i + (j - i) = j by have := hj.1; omega]; exact hj
    · exact .inr (.inl ⟨h1, by omega⟩)
    · exact .inr (.inr (.inl ⟨h1, h2, (isNum_drop_iff zs i m h0).2 h3⟩))
    · exact .inr (.inr (.inr ⟨h1, h2, (litEnd_drop_iff zs i m).2 h3⟩))

theorem hasAt_take {zs : List Int} {i n : Nat} (L : List Int) (h : i + L.length ≤ n) : HasAt (zs.take n) i L ↔ HasAt zs i L := by
  unfold HasAt
  rw [List.drop_take, List.take_take, Nat.min_eq_left (by omega)]

/-- Of two literals only one can stand at i. -/
theorem hasAt_head {zs : List Int} {i : Nat} {c : Int} {L : List Int} (h : HasAt zs i (c :: L)) : zs.getD i 0 = c := by
  unfold HasAt at h
  have h0 := congrArg (fun l => l.getD 0 0) h
  simp only [List.getD_cons_zero] at h0
  rw [getD_take' _ _ _ (by simp), getD_drop, Nat.add_zero] at h0
  exact h0

theorem isVal_take {zs : List Int} {i m : Nat} (h : IsVal zs i m) : IsVal (zs.take m) i m := by
  have hb := h.bounds
  obtain ⟨h0, h⟩ := h
  have hlen : (zs.take m).length = m := by rw [List.length_take]; omega
  refine ⟨by omega, ?_⟩
  rw [getD_take' _ _ _ (by omega)]
  rcases h with ⟨j, ⟨a1, a2, a3, a4, a5⟩, rfl⟩ | ⟨h1, rfl⟩ | ⟨h1, h2, a1, a2, a3, a4⟩ | ⟨h1, h2, h3⟩
  · refine .inl ⟨j, ⟨a1, by omega, ?_, ?_, ?_⟩, rfl⟩
    · rw [getD_take' _ _ _ (by omega)]; exact a3
    · rw [getD_take' _ _ _ (by omega)]; exact a4
    · intro t t1 t2
      rw [getD_take' _ _ _ (by omega)]; exact a5 t t1 t2
  · exact .inr (.inl ⟨h1, rfl⟩)
  · refine .inr (.inr (.inl ⟨h1, h2, a1, by omega, ?_, ?_⟩))
    · intro t t1 t2
      rw [getD_take' _ _ _ (by omega)]; exact a3 t t1 t2
    · intro h; omega
  · refine .inr (.inr (.inr ⟨h1, h2, ?_⟩))
    have hd : (zs.take m).getD i 0 = zs.getD i 0 := getD_take' _ _ _ (by omega)
    rcases h3 with ⟨h, rfl⟩ | ⟨n, h, rfl⟩ | ⟨n, n2, h, rfl⟩
    · exact .inl ⟨(hasAt_take tru (by simp [tru])).2 h, rfl⟩
    · refine .inr (.inl ⟨fun hh => ?_, (hasAt_take fal (by simp [fal])).2 h, rfl⟩)
      have e1 := hasAt_head (c := 116) hh
      have e2 := hasAt_head (c := 102) h
      omega
    · refine .inr (.inr ⟨fun hh => ?_, fun hh => ?_, (hasAt_take nul (by simp [nul])).2 h, rfl⟩)
      · have e1 := hasAt_head (c := 116) hh
        have e2 := hasAt_head (c := 110) h
        omega
      · have e1 := hasAt_head (c := 102) hh
        have e2 := hasAt_head (c := 110) h
        omega
end Go.Proofs.Qxb6000100a
