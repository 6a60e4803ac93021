namespace Go.Proofs.Qxb6603127a.Pl

/-- The decimal digits of v, ahead of acc; f digits at most. -/
def decF : Nat → Nat → List Int → List Int
  | 0, _, acc => acc
  | f + 1, v, acc => if v / 10 = 0 then (48 + (v : Int) % 10) :: acc else decF f (v / 10) ((48 + (v : Int) % 10) :: acc)
def dec (v : Nat) : List Int := decF 20 v []
theorem decF_len : ∀ f v acc, (decF f v acc).length ≤ acc.length + f ∧ acc.length ≤ (decF f v acc).length := by
  intro f
  induction f with
  | zero => intro v acc; simp [decF]
  | succ f ih =>
    intro v acc
    simp only [decF]
    split
    · simp
    · have := ih (v / 10) ((48 + (v : Int) % 10) :: acc)
      simp at this; omega
theorem decF_no : ∀ f v acc, (∀ c ∈ acc, c ≠ 32) → ∀ c ∈ decF f v acc, c ≠ 32 := by
  intro f
  induction f with
  | zero => intro v acc h; exact h
  | succ f ih =>
    intro v acc h
    have h' : ∀ c ∈ (48 + (v : Int) % 10) :: acc, c ≠ 32 := by
      intro c hc
      rcases List.mem_cons.mp hc with rfl | hc
      · omega
      · exact h c hc
    simp only [decF]
    split
    · exact h'
    · exact ih _ _ h'
theorem dec_len (v : Nat) : (dec v).length ≤ 20 := by
  have h := (decF_len 20 v []).1
  simp only [List.length_nil, Nat.zero_add] at h
  exact h
theorem dec_no (v : Nat) : ∀ c ∈ dec v, c ≠ 32 := decF_no 20 v [] (by simp)
def key (i : Nat) : List Int := [34, 107] ++ dec i ++ [34, 58]
def mem (u : Nat → Nat) (i : Nat) : List Int := key i ++ dec (u i)
theorem key_len (i : Nat) : (key i).length = (dec i).length + 4 := by simp [key]
theorem mem_len (u : Nat → Nat) (i : Nat) : (mem u i).length = (key i).length + (dec (u i)).length := by simp [mem]
theorem mem_no (u : Nat → Nat) (i : Nat) : ∀ c ∈ mem u i, c ≠ 32 := by
  intro c hc
  simp only [mem, key, List.mem_append, List.mem_cons, List.not_mem_nil, or_false] at hc
  rcases hc with (((h | h) | h) | (h | h)) | h
  · omega
  · omega
  · exact dec_no _ c h
  · omega
  · omega
  · exact dec_no _ c h

/-- What stands ahead of member i: a comma, and what the separator bears behind it. -/
def sf (sp : List Int) (i : Nat) : List Int := if i = 0 then [] else 44 :: sp
/-- The text up to member k. -/
def A (m : Nat → List Int) (sp : List Int) : Nat → List Int
  | 0 => [123]
  | k + 1 => A m sp k ++ sf sp k ++ m k
def sps (k : Nat) : List Int := List.replicate k 32
/-- What blanking makes of member k, r being what lies behind it. -/
def step (m : Nat → List Int) (sp : List Int) (dr : Nat → Bool) (k : Nat) (r : List Int) : List Int :=
  if dr k = true then (if r.head? = some 44 then sf sp k ++ sps (m k).length ++ 32 :: r.tail else sps ((sf sp k).length + (m k).length) ++ r) else sf sp k ++ m k ++ r
/-- The text behind the first n - d members, once the last d have been looked at. -/
def R (m : Nat → List Int) (sp : List Int) (dr : Nat → Bool) (n : Nat) : Nat → List Int
  | 0 => [125]
  | d + 1 => step m sp dr (n - (d + 1)) (R m sp dr n d)
/-- The live members from n - d on, a comma ahead of each. -/
def W (m : Nat → List Int) (dr : Nat → Bool) (n : Nat) : Nat → List Int
  | 0 => [125]
  | d + 1 => if dr (n - (d + 1)) = true then W m dr n d else 44 :: m (n - (d + 1)) ++ W m dr n d
def F (l : List Int) : List Int := l.filter (fun c => !(c == 32))
theorem F_app (a b : List Int) : F (a ++ b) = F a ++ F b := by simp [F]
theorem F_no (l : List Int) (h : ∀ c ∈ l, c ≠ 32) : F l = l := by
  unfold F
  rw [List.filter_eq_self]
  intro c hc
  simpa using h c hc
theorem F_sps (k : Nat) : F (sps k) = [] := by
  simp [F, sps]
theorem F_cons (c : Int) (l : List Int) (h : c ≠ 32) : F (c :: l) = c :: F l := by simp [F, h]
theorem F_32 (l : List Int) : F (32 :: l) = F l := by simp [F]

theorem FR (m : Nat → List Int) (sp : List Int) (dr : Nat → Bool) (n : Nat) (hm : ∀ i, ∀ c ∈ m i, c ≠ 32) (hsp : F sp = []) :
    ∀ d, d < n → F (R m sp dr n d) = W m dr n d ∧ ((R m sp dr n d).head? = some 44 ∨ W m dr n d = [125]) := by
  intro d
  induction d with
  | zero => intro _; exact ⟨rfl, .inr rfl⟩
  | succ d ih =>
    intro hd
    obtain ⟨h1, h2⟩ := ih (by omega)
    have hk : n - (d + 1) ≠ 0 := by omega
    have hsf : sf sp (n - (d + 1)) = 44 :: sp := by unfold sf; rw [if_neg hk]
    simp only [R, W]
    unfold step
    rw [hsf]
    by_cases hdr : dr (n - (d + 1)) = true
    · rw [if_pos hdr, if_pos hdr]
      by_cases hh : (R m sp dr n d).head? = some 44
      · rw [if_pos hh]
        obtain ⟨r', hr⟩ : ∃ r', R m sp dr n d = 44 :: r' := by
          cases hR : R m sp dr n d with
          | nil => rw [hR] at hh; cases hh
          | cons a l => rw [hR] at hh; simp at hh; subst hh; exact ⟨l, rfl⟩
        rw [hr] at h1 ⊢
        refine ⟨?_, .inl rfl⟩
        rw [← h1, F_app, F_app, F_cons _ _ (by omega), hsp, F_sps, F_32, F_cons _ _ (by omega)]
        rfl
      · rw [if_neg hh]
        have hW : W m dr n d = [125] := by
          rcases h2 with h | h
          · exact absurd h hh
          · exact h
        refine ⟨?_, .inr hW⟩
        rw [F_app, F_sps, h1]; rfl
    · rw [if_neg hdr, if_neg hdr]
      refine ⟨?_, .inl rfl⟩
      rw [F_app, F_app, F_cons _ _ (by omega), hsp, F_no _ (hm _), h1]
      rfl

def dfc (l : List Int) : List Int := if l.head? = some 44 then l.tail else l
/-- The text once every member has been looked at, spaces taken out. -/
theorem F_all (m : Nat → List Int) (sp : List Int) (dr : Nat → Bool) (n : Nat) (hm : ∀ i, ∀ c ∈ m i, c ≠ 32) (hsp : F sp = []) :
    F (A m sp 0 ++ R m sp dr n n) = 123 :: dfc (W m dr n n) := by
  show F (123 :: R m sp dr n n) = _
  rw [F_cons _ _ (by omega)]
  congr 1
  cases n with
  | zero => rfl
  | succ n =>
    obtain ⟨h1, h2⟩ := FR m sp dr (n + 1) hm hsp n (by omega)
    simp only [R, W]
    have hsf : sf sp (n + 1 - (n + 1)) = [] := by unfold sf; rw [if_pos (by omega)]
    unfold step
    rw [hsf]
    by_cases hdr : dr (n + 1 - (n + 1)) = true
    · rw [if_pos hdr, if_pos hdr]
      by_cases hh : (R m sp dr (n + 1) n).head? = some 44
      · rw [if_pos hh]
        obtain ⟨r', hr⟩ : ∃ r', R m sp dr (n + 1) n = 44 :: r' := by
          cases hR : R m sp dr (n + 1) n with
          | nil => rw [hR] at hh; cases hh
          | cons a l => rw [hR] at hh; simp at hh; subst hh; exact ⟨l, rfl⟩
        rw [hr] at h1 ⊢
        rw [← h1, List.nil_append, F_app, F_sps, F_32, F_cons _ _ (by omega)]
        rfl
      · rw [if_neg hh]
        have hW : W m dr (n + 1) n = [125] := by
          rcases h2 with h | h
          · exact absurd h hh
          · exact h
        rw [F_app, F_sps, h1, hW]; rfl
    · rw [if_neg hdr, if_neg hdr, List.nil_append, F_app, F_no _ (hm _), h1]
      rfl

/-- Is a member ahead of i alive? -/
def al (dr : Nat → Bool) : Nat → Bool
  | 0 => false
  | i + 1 => al dr i || !dr i
/-- 'want' behind i rounds. -/
def V (m : Nat → List Int) (dr : Nat → Bool) : Nat → List Int
  | 0 => [123]
  | i + 1 => if dr i = true then V m dr i else V m dr i ++ (if al dr i = true then [44] else []) ++ m i
theorem VW (m : Nat → List Int) (dr : Nat → Bool) (n : Nat) : ∀ i, i ≤ n → V m dr i ++ (if al dr i = true then W m dr n (n - i) else dfc (W m dr n (n - i))) = 123 :: dfc (W m dr n n) := by
  intro i
  induction i with
  | zero => intro _; simp [V, al]
  | succ i ih =>
    intro hi
    have h := ih (by omega)
    have e : n - i = (n - (i + 1)) + 1 := by omega
    have e2 : n - (n - (i + 1) + 1) = i := by omega
    rw [e] at h
    simp only [W, e2] at h
    rw [← h]
    have eV : V m dr (i + 1) = if dr i = true then V m dr i else V m dr i ++ (if al dr i = true then [44] else []) ++ m i := rfl
    have eA : al dr (i + 1) = (al dr i || !dr i) := rfl
    rw [eV]
    cases hdr : dr i with
    | true =>
      have eA' : al dr (i + 1) = al dr i := by rw [eA, hdr]; simp
      simp [eA']
    | false =>
      have eA' : al dr (i + 1) = true := by rw [eA, hdr]; simp
      cases ha : al dr i with
      | true => simp [eA']
      | false => simp [eA', dfc]
/-- THE LAW: spaces taken out, the blanked text is 'want'. -/
theorem law (m : Nat → List Int) (sp : List Int) (dr : Nat → Bool) (n : Nat) (hm : ∀ i, ∀ c ∈ m i, c ≠ 32) (hsp : F sp = []) :
    F (A m sp 0 ++ R m sp dr n n) = V m dr n ++ [125] := by
  rw [F_all m sp dr n hm hsp, ← VW m dr n n (Nat.le_refl _), Nat.sub_self]
  simp [W, dfc]

/-- Writing spaces over the bytes from 'from' to 'to'. -/
def blank (fr to : Nat) (l : List Int) : List Int := l.take fr ++ sps (to - fr) ++ l.drop to
theorem blank_mid (a b c : List Int) : blank a.length (a.length + b.length) (a ++ b ++ c) = a ++ sps b.length ++ c := by
  unfold blank
  have e1 : (a ++ b ++ c).take a.length = a := by rw [List.append_assoc, List.take_left]
  have e2 : (a ++ b ++ c).drop (a.length + b.length) = c := by
    rw [show a.length + b.length = (a ++ b).length by simp, List.drop_left]
  rw [e1, e2]; congr 2; congr 1; omega
/-- What blanking member k makes of the text: the two ways. -/
theorem blank_comma (m : Nat → List Int) (sp : List Int) (k : Nat) (r : List Int) :
    blank ((A m sp k).length + (sf sp k).length) ((A m sp (k + 1)).length + 1) (A m sp (k + 1) ++ 44 :: r) = A m sp k ++ (sf sp k ++ sps (m k).length ++ 32 :: r) := by
  have e := blank_mid (A m sp k ++ sf sp k) (m k ++ [44]) r
  have e1 : (A m sp k ++ sf sp k).length = (A m sp k).length + (sf sp k).length := by simp
  have e2 : (A m sp k).length + (sf sp k).length + (m k ++ [44]).length = (A m sp (k + 1)).length + 1 := by simp [A]; omega
  have e3 : A m sp k ++ sf sp k ++ (m k ++ [44]) ++ r = A m sp (k + 1) ++ 44 :: r := by simp [A]
  rw [e1, e2, e3] at e
  rw [e]
  simp [sps, List.replicate_succ']
theorem blank_plain (m : Nat → List Int) (sp : List Int) (k : Nat) (r : List Int) :
    blank (A m sp k).length (A m sp (k + 1)).length (A m sp (k + 1) ++ r) = A m sp k ++ (sps ((sf sp k).length + (m k).length) ++ r) := by
  have e := blank_mid (A m sp k) (sf sp k ++ m k) r
  have e2 : (A m sp k).length + (sf sp k ++ m k).length = (A m sp (k + 1)).length := by simp [A]
  have e3 : A m sp k ++ (sf sp k ++ m k) ++ r = A m sp (k + 1) ++ r := by simp [A]
  rw [e2, e3] at e
  rw [e]
  simp
theorem A_len_le (m : Nat → List Int) (sp : List Int) (c : Nat) (hm : ∀ i, (m i).length ≤ c) (hs : sp.length ≤ 1) : ∀ k, (A m sp k).length ≤ 1 + k * (c + 2) := by
  intro k
  induction k with
  | zero => simp [A]
  | succ k ih =>
    have h1 := hm k
    have h2 : (sf sp k).length ≤ 2 := by unfold sf; split <;> simp <;> omega
    have h3 : (A m sp (k + 1)).length = (A m sp k).length + (sf sp k).length + (m k).length := by simp [A]; omega
    rw [h3, Nat.add_mul]; omega
theorem R_len (m : Nat → List Int) (sp : List Int) (dr : Nat → Bool) (n : Nat) : ∀ d, d ≤ n → (A m sp (n - d)).length + (R m sp dr n d).length = (A m sp n).length + 1 := by
  intro d
  induction d with
  | zero => intro _; simp [R]
  | succ d ih =>
    intro hd
    have h := ih (by omega)
    have e : n - d = (n - (d + 1)) + 1 := by omega
    rw [e] at h
    have h3 : (A m sp (n - (d + 1) + 1)).length = (A m sp (n - (d + 1))).length + (sf sp (n - (d + 1))).length + (m (n - (d + 1))).length := by simp [A]; omega
    have h4 : (step m sp dr (n - (d + 1)) (R m sp dr n d)).length = (sf sp (n - (d + 1))).length + (m (n - (d + 1))).length + (R m sp dr n d).length := by
      unfold step
      split
      · split
        · rename_i hh
          cases hR : R m sp dr n d with
          | nil => rw [hR] at hh; cases hh
          | cons a l => simp [sps]; omega
        · simp [sps]
      · simp; omega
    simp only [R]
    omega
theorem V_len_le (m : Nat → List Int) (dr : Nat → Bool) (c : Nat) (hm : ∀ i, (m i).length ≤ c) : ∀ k, (V m dr k).length ≤ 1 + k * (c + 2) := by
  intro k
  induction k with
  | zero => simp [V]
  | succ k ih =>
    have h1 := hm k
    simp only [V]
    rw [Nat.add_mul]
    split
    · omega
    · have : (if al dr k = true then [44] else [] : List Int).length ≤ 1 := by split <;> simp
      simp only [List.length_append]; omega

end Go.Proofs.Qxb6603127a.Pl
