/- THE PLAIN LAW OF 'FnPlainEndIsLongestPlainToken': no Go in sight. A byte is an Int; a text is a list of Ints. -/
namespace Go.Proofs.Qxb6000782a.Tok

def dig (c : Int) : Bool := decide (48 ≤ c) && decide (c ≤ 57)
/-- A byte that may stand inside a plain string. -/
def good (c : Int) : Bool := decide (32 ≤ c) && decide (c ≤ 126) && !(c == 34) && !(c == 92)

/-- zzIsPlainNumber. -/
def isNum : List Int → Bool
  | [] => false
  | c :: r => if c == 48 then r.isEmpty else (c :: r).all dig

/-- zzIsPlainToken: what stands between the quotes, and the last quote. -/
def isBody : List Int → Bool
  | [] => false
  | [c] => c == 34
  | c :: d :: r => good c && isBody (d :: r)
def isTok : List Int → Bool
  | [] => false
  | c :: r => if c == 34 then isBody r else isNum (c :: r)

/-- plainEnd, relative to where it begins: the number of bytes of the token. Behind the opening quote: -/
def strEnd : List Int → Option Nat
  | [] => none
  | c :: r => if c == 34 then some 1 else if good c then (strEnd r).map (· + 1) else none
/-- How many digits stand ahead. -/
def digs : List Int → Nat
  | [] => 0
  | c :: r => if dig c then digs r + 1 else 0
def pl : List Int → Option Nat
  | [] => none
  | c :: r => if c == 34 then (strEnd r).map (· + 1) else if c == 48 then some 1 else if dig c then some (digs r + 1) else none

theorem strEnd_some : ∀ (l : List Int) (k : Nat), strEnd l = some k → 1 ≤ k ∧ k ≤ l.length ∧ isBody (l.take k) = true ∧ ∀ e, 1 ≤ e → e ≠ k → e ≤ l.length → isBody (l.take e) = false := by
  intro l
  induction l with
  | nil => intro k h; simp [strEnd] at h
  | cons c r ih =>
    intro k h
    unfold strEnd at h
    by_cases hc : c = 34
    · subst hc
      simp at h
      subst h
      refine ⟨by omega, by simp, by simp [isBody], fun e h1 h2 h3 => ?_⟩
      obtain ⟨e, rfl⟩ : ∃ m, e = m + 2 := ⟨e - 2, by omega⟩
      simp at h3
      match r, h3 with
      | d :: r, _ => simp [isBody, good]
    · have hc' : (c == 34) = false := by simpa using hc
      rw [hc'] at h
      simp only [Bool.false_eq_true, if_false] at h
      by_cases hg : good c = true
      · rw [if_pos hg] at h
        obtain ⟨m, hm, rfl⟩ := Option.map_eq_some_iff.1 h
        obtain ⟨a, b, t, f⟩ := ih m hm
        refine ⟨by omega, by simp; omega, ?_, fun e h1 h2 h3 => ?_⟩
        · match r, m, a, b, t with
          | d :: r, m + 1, _, _, t => simpa [isBody, hg] using t
        · obtain ⟨e, rfl⟩ : ∃ m, e = m + 1 := ⟨e - 1, by omega⟩
          by_cases he : e = 0
          · subst he; simp [isBody, hc]
          · have := f e (by omega) (by omega) (by simp at h3; omega)
            obtain ⟨e, rfl⟩ : ∃ m, e = m + 1 := ⟨e - 1, by omega⟩
            match r, h3 with
            | d :: r, _ => simp at this; simp [isBody, this]
            | [], h3 => simp at h3
      · rw [if_neg hg] at h; cases h

theorem strEnd_none : ∀ (l : List Int), strEnd l = none → ∀ e, e ≤ l.length → isBody (l.take e) = false := by
  intro l
  induction l with
  | nil => intro _ e _; simp [isBody]
  | cons c r ih =>
    intro h e he
    unfold strEnd at h
    by_cases hc : c = 34
    · subst hc; simp at h
    · have hc' : (c == 34) = false := by simpa using hc
      rw [hc'] at h
      simp only [Bool.false_eq_true, if_false] at h
      match e with
      | 0 => simp [isBody]
      | 1 => simp [isBody, hc]
      | e + 2 =>
        match r, he with
        | [], he => simp at he
        | d :: r, he =>
          by_cases hg : good c = true
          · rw [if_pos hg] at h
            have := ih (Option.map_eq_none_iff.1 h) (e + 1) (by simp at he ⊢; omega)
            simp at this
            simp [isBody, this]
          · simp [isBody, hg]

theorem digs_all : ∀ l : List Int, digs l ≤ l.length ∧ (l.take (digs l)).all dig = true ∧ ∀ e, digs l < e → e ≤ l.length → (l.take e).all dig = false := by
  intro l
  induction l with
  | nil => simp [digs]; omega
  | cons c r ih =>
    obtain ⟨a, b, f⟩ := ih
    unfold digs
    by_cases hc : dig c = true
    · rw [if_pos hc]
      refine ⟨by simp; omega, by simpa [hc] using b, fun e h1 h2 => ?_⟩
      obtain ⟨e, rfl⟩ : ∃ m, e = m + 1 := ⟨e - 1, by omega⟩
      have := f e (by omega) (by simp at h2; omega)
      rw [List.take_succ_cons, List.all_cons, this, Bool.and_false]
    · rw [if_neg hc]
      refine ⟨by omega, by simp, fun e h1 h2 => ?_⟩
      obtain ⟨e, rfl⟩ : ∃ m, e = m + 1 := ⟨e - 1, by omega⟩
      rw [List.take_succ_cons, List.all_cons]
      simp [hc]

/-- THE LAW, where there is a token: its end is the greatest. -/
theorem pl_some (l : List Int) (k : Nat) (h : pl l = some k) : 1 ≤ k ∧ k ≤ l.length ∧ isTok (l.take k) = true ∧ ∀ e, k < e → e ≤ l.length → isTok (l.take e) = false := by
  match l with
  | [] => simp [pl] at h
  | c :: r =>
    simp only [pl] at h
    by_cases hq : c = 34
    · subst hq
      simp at h
      obtain ⟨m, hm, rfl⟩ := h
      obtain ⟨a, b, t, f⟩ := strEnd_some r m hm
      refine ⟨by omega, by simp; omega, by simpa [isTok] using t, fun e h1 h2 => ?_⟩
      obtain ⟨e, rfl⟩ : ∃ m, e = m + 1 := ⟨e - 1, by omega⟩
      simpa [isTok] using f e (by omega) (by omega) (by simp at h2; omega)
    · have hq' : (c == 34) = false := by simpa using hq
      rw [hq'] at h
      simp only [Bool.false_eq_true, if_false] at h
      by_cases hz : c = 48
      · subst hz
        simp at h
        subst h
        refine ⟨by omega, by simp, by simp [isTok, isNum], fun e h1 h2 => ?_⟩
        obtain ⟨e, rfl⟩ : ∃ m, e = m + 2 := ⟨e - 2, by omega⟩
        match r, h2 with
        | [], h2 => simp at h2
        | d :: r, _ => simp [isTok, isNum]
      · have hz' : (c == 48) = false := by simpa using hz
        rw [hz'] at h
        simp only [Bool.false_eq_true, if_false] at h
        by_cases hd : dig c = true
        · rw [if_pos hd] at h
          cases h
          obtain ⟨a, b, f⟩ := digs_all r
          refine ⟨by omega, by simp; omega, ?_, fun e h1 h2 => ?_⟩
          · simp only [List.take_succ_cons, isTok, isNum, hq', hz', Bool.false_eq_true, if_false, List.all_cons, hd, b, Bool.and_true]
          · obtain ⟨e, rfl⟩ : ∃ m, e = m + 1 := ⟨e - 1, by omega⟩
            have := f e (by omega) (by simp at h2; omega)
            simp only [List.take_succ_cons, isTok, isNum, hq', hz', Bool.false_eq_true, if_false, List.all_cons, this, Bool.and_false]
        · rw [if_neg hd] at h; cases h

/-- THE LAW, where there is none. -/
theorem pl_none (l : List Int) (h : pl l = none) (e : Nat) (he : e ≤ l.length) : isTok (l.take e) = false := by
  match l with
  | [] => simp [isTok]
  | c :: r =>
    match e with
    | 0 => simp [isTok]
    | e + 1 =>
      simp only [pl] at h
      by_cases hq : c = 34
      · subst hq
        simp at h
        simpa [isTok] using strEnd_none r h e (by simp at he; omega)
      · have hq' : (c == 34) = false := by simpa using hq
        rw [hq'] at h
        simp only [Bool.false_eq_true, if_false] at h
        by_cases hz : c = 48
        · subst hz; simp at h
        · have hz' : (c == 48) = false := by simpa using hz
          rw [hz'] at h
          simp only [Bool.false_eq_true, if_false] at h
          by_cases hd : dig c = true
          · rw [if_pos hd] at h; cases h
          · simp only [List.take_succ_cons, isTok, isNum, hq', hz', Bool.false_eq_true, if_false, List.all_cons, hd, Bool.false_and]

end Go.Proofs.Qxb6000782a.Tok
