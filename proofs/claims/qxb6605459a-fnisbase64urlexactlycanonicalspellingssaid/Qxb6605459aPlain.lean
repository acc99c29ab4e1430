/-
  PLAIN MATHEMATICS OF base64url: no Go in sight. Bytes are Ints in 0..255.
-/
namespace Go.Proofs.Qxb6605459a.B64

/-- Is c a character of base64url? -/
def digOk (c : Int) : Bool := decide ((65 ≤ c ∧ c ≤ 90) ∨ (97 ≤ c ∧ c ≤ 122) ∨ (48 ≤ c ∧ c ≤ 57) ∨ c = 45 ∨ c = 95)
/-- Its six bits; 0 for another byte. -/
def digV (c : Int) : Int := if 65 ≤ c ∧ c ≤ 90 then c - 65 else if 97 ≤ c ∧ c ≤ 122 then c - 71 else if 48 ≤ c ∧ c ≤ 57 then c + 4 else if c = 45 then 62 else if c = 95 then 63 else 0
/-- The alphabet's v-th character. -/
def alph (v : Int) : Int := if v < 26 then v + 65 else if v < 52 then v + 71 else if v < 62 then v - 4 else if v = 62 then 45 else 95

theorem digOk_iff (c : Int) : digOk c = true ↔ ((65 ≤ c ∧ c ≤ 90) ∨ (97 ≤ c ∧ c ≤ 122) ∨ (48 ≤ c ∧ c ≤ 57) ∨ c = 45 ∨ c = 95) := by simp [digOk]
theorem digOk_false_iff (c : Int) : digOk c = false ↔ ¬ ((65 ≤ c ∧ c ≤ 90) ∨ (97 ≤ c ∧ c ≤ 122) ∨ (48 ≤ c ∧ c ≤ 57) ∨ c = 45 ∨ c = 95) := by simp [digOk]
theorem digV_range (c : Int) : 0 ≤ digV c ∧ digV c < 64 := by
  unfold digV; repeat' split
  all_goals omega
theorem alph_range (v : Int) (h : 0 ≤ v) (h2 : v < 64) : 45 ≤ alph v ∧ alph v ≤ 122 := by
  unfold alph; repeat' split
  all_goals omega
theorem digV_alph (v : Int) (h0 : 0 ≤ v) (h1 : v < 64) : digV (alph v) = v := by
  unfold alph; repeat' split
  all_goals (unfold digV; repeat' split)
  all_goals omega
theorem digOk_alph (v : Int) (h0 : 0 ≤ v) (h1 : v < 64) : digOk (alph v) = true := by
  rw [digOk_iff]; unfold alph; repeat' split
  all_goals omega
theorem alph_digV (c : Int) (h : digOk c = true) : alph (digV c) = c := by
  rw [digOk_iff] at h
  unfold digV; repeat' split
  all_goals (unfold alph; repeat' split)
  all_goals omega
theorem digV_not (c : Int) (h : digOk c = false) : digV c = 0 := by
  rw [digOk_false_iff] at h; unfold digV; repeat' split
  all_goals omega

/-- What zzSextet finds: the place in the alphabet, or -1. -/
def sext (c : Int) : Int := if digOk c = true then digV c else -1
theorem sext_ok (c : Int) (h : digOk c = true) : sext c = digV c := by simp [sext, h]
theorem sext_no (c : Int) (h : digOk c = false) : sext c = -1 := by simp [sext, h]
theorem sext_hit (c k : Int) (h0 : 0 ≤ k) (h1 : k < 64) (h : alph k = c) : sext c = k := by
  subst h; rw [sext_ok _ (digOk_alph k h0 h1), digV_alph k h0 h1]
theorem sext_miss (c : Int) (h : ∀ j : Nat, j < 64 → alph j ≠ c) : sext c = -1 := by
  cases e : digOk c
  · exact sext_no c e
  · have r := digV_range c
    have := h (digV c).toNat (by omega)
    rw [show (((digV c).toNat : Nat) : Int) = digV c from by omega] at this
    exact absurd (alph_digV c e) this

/-- The unpadded spelling of a list of bytes. -/
def enc : List Int → List Int
  | a :: b :: c :: r => alph (a / 4) :: alph (a % 4 * 16 + b / 16) :: alph (b % 16 * 4 + c / 64) :: alph (c % 64) :: enc r
  | [a, b] => [alph (a / 4), alph (a % 4 * 16 + b / 16), alph (b % 16 * 4)]
  | [a] => [alph (a / 4), alph (a % 4 * 16)]
  | [] => []

/-- The last digit, as isBase64URL's loop leaves it: 0 at the empty string. -/
def lastV (l : List Int) : Int := match l.getLast? with | some c => digV c | none => 0

/-- What isBase64URL's last switch says of a string's length and of its last digit. -/
def tailOk (n : Nat) (v : Int) : Bool := if n % 4 = 1 then false else if n % 4 = 2 then decide (v % 16 = 0) else if n % 4 = 3 then decide (v % 4 = 0) else true

/-- What isBase64URL answers. -/
def isB64 (l : List Int) : Bool := l.all digOk && tailOk l.length (lastV l)

/-- One step of zzCanonical's first loop. -/
def step (s : List Int × Int × Int) (v : Int) : List Int × Int × Int :=
  if 2 ≤ s.2.2 then (s.1 ++ [(s.2.1 * 64 + v) / 2 ^ (s.2.2 - 2).toNat % 256], (s.2.1 * 64 + v) % 2 ^ (s.2.2 - 2).toNat, s.2.2 - 2)
  else (s.1, s.2.1 * 64 + v, s.2.2 + 6)

def dec (l : List Int) : List Int × Int × Int := (l.map digV).foldl step ([], 0, 0)

theorem dec_snoc (l : List Int) (c : Int) : dec (l ++ [c]) = step (dec l) (digV c) := by simp [dec, List.foldl_append]

/-- What zzCanonical answers. -/
def canon (l : List Int) : Bool := l.all digOk && (enc (dec l).1 == l)

/-! ### the accumulator's shape -/
def stOk (s : List Int × Int × Int) : Prop := 0 ≤ s.2.1 ∧ ((s.2.2 = 0 ∧ s.2.1 < 1) ∨ (s.2.2 = 2 ∧ s.2.1 < 4) ∨ (s.2.2 = 4 ∧ s.2.1 < 16) ∨ (s.2.2 = 6 ∧ s.2.1 < 64)) ∧ ∀ x ∈ s.1, 0 ≤ x ∧ x ≤ 255

theorem stOk_step (s : List Int × Int × Int) (v : Int) (h : stOk s) (h0 : 0 ≤ v) (h1 : v < 64) : stOk (step s v) := by
  obtain ⟨o, a, n⟩ := s
  obtain ⟨ha, hn, ho⟩ := h
  dsimp only at ha hn ho
  rcases hn with ⟨hn, hb⟩ | ⟨hn, hb⟩ | ⟨hn, hb⟩ | ⟨hn, hb⟩ <;> subst hn
  all_goals simp only [step, stOk]
  all_goals simp
  · refine ⟨by omega, by omega, ho⟩
  · intro x hx
    rcases hx with hx | hx
    · exact ho x hx
    · subst hx; omega
  all_goals refine ⟨by omega, by omega, ?_⟩
  all_goals (intro x hx; rcases hx with hx | hx)
  all_goals first | exact ho x hx | (subst hx; omega)

theorem stOk_dec (l : List Int) : stOk (dec l) := by
  have gen : ∀ (l : List Int) (s), stOk s → stOk ((l.map digV).foldl step s) := by
    intro l
    induction l with
    | nil => intro s h; exact h
    | cons c r ih => intro s h; exact ih _ (stOk_step s _ h (digV_range c).1 (digV_range c).2)
  exact gen l _ ⟨by decide, by simp, by simp⟩

theorem step_len (s : List Int × Int × Int) (v : Int) : (step s v).1.length ≤ s.1.length + 1 := by
  unfold step; split <;> simp
theorem dec_len (l : List Int) : (dec l).1.length ≤ l.length := by
  have gen : ∀ (l : List Int) (s), ((l.map digV).foldl step s).1.length ≤ s.1.length + l.length := by
    intro l
    induction l with
    | nil => intro s; simp
    | cons c r ih => intro s; have := ih (step s (digV c)); have := step_len s (digV c); simp only [List.map_cons, List.foldl_cons, List.length_cons]; omega
  have := gen l ([], 0, 0)
  simpa [dec] using this

/-! ### four characters at a time -/
theorem step4 (o : List Int) (v0 v1 v2 v3 : Int) (h0 : 0 ≤ v0 ∧ v0 < 64) (h1 : 0 ≤ v1 ∧ v1 < 64) (h2 : 0 ≤ v2 ∧ v2 < 64) (h3 : 0 ≤ v3 ∧ v3 < 64) :
    step (step (step (step (o, 0, 0) v0) v1) v2) v3 = (o ++ [v0 * 4 + v1 / 16, v1 % 16 * 16 + v2 / 4, v2 % 4 * 64 + v3], 0, 0) := by
  simp [step]
  omega

theorem foldl_out (l : List Int) : ∀ (o p : List Int) (a n : Int), (l.foldl step (o ++ p, a, n)) = (o ++ (l.foldl step (p, a, n)).1, (l.foldl step (p, a, n)).2) := by
  induction l with
  | nil => intro o p a n; rfl
  | cons v r ih =>
    intro o p a n
    simp only [List.foldl_cons]
    by_cases hn : 2 ≤ n
    · have e1 : step (o ++ p, a, n) v = (o ++ (p ++ [(a * 64 + v) / 2 ^ (n - 2).toNat % 256]), (a * 64 + v) % 2 ^ (n - 2).toNat, n - 2) := by simp [step, hn]
      have e2 : step (p, a, n) v = (p ++ [(a * 64 + v) / 2 ^ (n - 2).toNat % 256], (a * 64 + v) % 2 ^ (n - 2).toNat, n - 2) := by simp [step, hn]
      rw [e1, e2]; exact ih _ _ _ _
    · have e1 : step (o ++ p, a, n) v = (o ++ p, a * 64 + v, n + 6) := by simp [step, hn]
      have e2 : step (p, a, n) v = (p, a * 64 + v, n + 6) := by simp [step, hn]
      rw [e1, e2]; exact ih _ _ _ _

theorem dec_four (a b c d : Int) (r : List Int) : (dec (a :: b :: c :: d :: r)).1 = (digV a * 4 + digV b / 16) :: (digV b % 16 * 16 + digV c / 4) :: (digV c % 4 * 64 + digV d) :: (dec r).1 := by
  have e := step4 [] _ _ _ _ (digV_range a) (digV_range b) (digV_range c) (digV_range d)
  simp only [dec, List.map_cons, List.foldl_cons]
  rw [e]
  have := foldl_out (r.map digV) [digV a * 4 + digV b / 16, digV b % 16 * 16 + digV c / 4, digV c % 4 * 64 + digV d] [] 0 0
  simp only [List.append_nil, List.nil_append] at this ⊢
  rw [this]; rfl

theorem lastV_cons (a b : Int) (r : List Int) : lastV (a :: b :: r) = lastV (b :: r) := by simp [lastV, List.getLast?_cons_cons]

theorem isB64_four (a b c d : Int) (r : List Int) : isB64 (a :: b :: c :: d :: r) = (digOk a && digOk b && digOk c && digOk d && isB64 r) := by
  have h1 : tailOk (a :: b :: c :: d :: r).length (lastV (a :: b :: c :: d :: r)) = tailOk r.length (lastV r) := by
    cases r with
    | nil => simp [tailOk]
    | cons x r =>
      rw [lastV_cons, lastV_cons, lastV_cons, lastV_cons]
      have : ∀ n : Nat, (n + 1 + 1 + 1 + 1 + 1) % 4 = (n + 1) % 4 := by omega
      simp only [tailOk, List.length_cons, this]
  unfold isB64
  rw [h1]
  simp only [List.all_cons, Bool.and_assoc]

theorem enc_dec_four (a b c d : Int) (ha : digOk a = true) (hb : digOk b = true) (hc : digOk c = true) (hd : digOk d = true) (r : List Int) :
    (enc (dec (a :: b :: c :: d :: r)).1 == (a :: b :: c :: d :: r)) = (enc (dec r).1 == r) := by
  rw [dec_four]
  have ra := digV_range a; have rb := digV_range b; have rc := digV_range c; have rd := digV_range d
  have e0 : (digV a * 4 + digV b / 16) / 4 = digV a := by omega
  have e1 : (digV a * 4 + digV b / 16) % 4 * 16 + (digV b % 16 * 16 + digV c / 4) / 16 = digV b := by omega
  have e2 : (digV b % 16 * 16 + digV c / 4) % 16 * 4 + (digV c % 4 * 64 + digV d) / 64 = digV c := by omega
  have e3 : (digV c % 4 * 64 + digV d) % 64 = digV d := by omega
  simp only [enc, e0, e1, e2, e3, alph_digV _ ha, alph_digV _ hb, alph_digV _ hc, alph_digV _ hd]
  simp

theorem alph_inj (u v : Int) (hu : 0 ≤ u ∧ u < 64) (hv : 0 ≤ v ∧ v < 64) : alph u = alph v ↔ u = v :=
  ⟨fun h => by rw [← digV_alph u hu.1 hu.2, h, digV_alph v hv.1 hv.2], fun h => by rw [h]⟩
theorem alph_eq (u c : Int) (hu : 0 ≤ u ∧ u < 64) (hc : digOk c = true) : alph u = c ↔ u = digV c := by
  rw [← alph_inj u (digV c) hu (digV_range c), alph_digV c hc]

/-- THE LAW: the two answers are one. -/
theorem canon_eq : ∀ l : List Int, canon l = isB64 l
  | [] => by decide
  | [a] => by
    cases ha : digOk a
    · simp [canon, isB64, ha]
    · have ra := digV_range a
      have e : (dec [a]).1 = [] := by simp [dec, step]
      simp [canon, isB64, ha, e, enc, tailOk]
  | [a, b] => by
    cases ha : digOk a
    · simp [canon, isB64, ha]
    cases hb : digOk b
    · simp [canon, isB64, hb]
    have ra := digV_range a; have rb := digV_range b
    have e : (dec [a, b]).1 = [digV a * 4 + digV b / 16] := by
      simp [dec, step]; omega
    have e0 : (digV a * 4 + digV b / 16) / 4 = digV a := by omega
    have e1 : alph ((digV a * 4 + digV b / 16) % 4 * 16) = b ↔ digV b % 16 = 0 := by
      rw [alph_eq _ _ (by omega) hb]; omega
    have e2 : enc (dec [a, b]).1 = [a, alph ((digV a * 4 + digV b / 16) % 4 * 16)] := by
      rw [e]; simp only [enc, e0, alph_digV _ ha]
    rw [Bool.eq_iff_iff]
    simp only [canon, e2, isB64, List.all_cons, ha, hb, List.all_nil, Bool.and_true, Bool.true_and, beq_iff_eq, List.cons.injEq, true_and, and_true, e1]
    simp [tailOk, lastV]
  | [a, b, c] => by
    cases ha : digOk a
    · simp [canon, isB64, ha]
    cases hb : digOk b
    · simp [canon, isB64, hb]
    cases hc : digOk c
    · simp [canon, isB64, hc]
    have ra := digV_range a; have rb := digV_range b; have rc := digV_range c
    have e : (dec [a, b, c]).1 = [digV a * 4 + digV b / 16, digV b % 16 * 16 + digV c / 4] := by
      simp [dec, step]; omega
    have e0 : (digV a * 4 + digV b / 16) / 4 = digV a := by omega
    have e1 : (digV a * 4 + digV b / 16) % 4 * 16 + (digV b % 16 * 16 + digV c / 4) / 16 = digV b := by omega
    have e2 : alph ((digV b % 16 * 16 + digV c / 4) % 16 * 4) = c ↔ digV c % 4 = 0 := by
      rw [alph_eq _ _ (by omega) hc]; omega
    have e3 : enc (dec [a, b, c]).1 = [a, b, alph ((digV b % 16 * 16 + digV c / 4) % 16 * 4)] := by
      rw [e]; simp only [enc, e0, e1, alph_digV _ ha, alph_digV _ hb]
    rw [Bool.eq_iff_iff]
    simp only [canon, e3, isB64, List.all_cons, ha, hb, hc, List.all_nil, Bool.and_true, Bool.true_and, beq_iff_eq, List.cons.injEq, true_and, and_true, e2]
    simp [tailOk, lastV]
  | a :: b :: c :: d :: r => by
    rw [isB64_four, ← canon_eq r]
    cases ha : digOk a
    · simp [canon, ha]
    cases hb : digOk b
    · simp [canon, hb]
    cases hc : digOk c
    · simp [canon, hc]
    cases hd : digOk d
    · simp [canon, hd]
    have := enc_dec_four a b c d ha hb hc hd r
    simp only [canon, this, List.all_cons, ha, hb, hc, hd, Bool.true_and]

/-! ### every encoding is accepted -/
theorem isB64_enc : ∀ l : List Int, (∀ x ∈ l, 0 ≤ x ∧ x ≤ 255) → isB64 (enc l) = true
  | [], _ => by decide
  | [a], h => by
    have ha := h a (by simp)
    have e1 := digOk_alph (a / 4) (by omega) (by omega)
    have e2 := digOk_alph (a % 4 * 16) (by omega) (by omega)
    have e3 := digV_alph (a % 4 * 16) (by omega) (by omega)
    simp [isB64, enc, e1, e2, tailOk, lastV, e3]
  | [a, b], h => by
    have ha := h a (by simp)
    have hb := h b (by simp)
    have e1 := digOk_alph (a / 4) (by omega) (by omega)
    have e2 := digOk_alph (a % 4 * 16 + b / 16) (by omega) (by omega)
    have e3 := digOk_alph (b % 16 * 4) (by omega) (by omega)
    have e4 := digV_alph (b % 16 * 4) (by omega) (by omega)
    simp [isB64, enc, e1, e2, e3, tailOk, lastV, e4]
  | a :: b :: c :: r, h => by
    have ha := h a (by simp)
    have hb := h b (by simp)
    have hc := h c (by simp)
    have e1 := digOk_alph (a / 4) (by omega) (by omega)
    have e2 := digOk_alph (a % 4 * 16 + b / 16) (by omega) (by omega)
    have e3 := digOk_alph (b % 16 * 4 + c / 64) (by omega) (by omega)
    have e4 := digOk_alph (c % 64) (by omega) (by omega)
    rw [enc, isB64_four, e1, e2, e3, e4, isB64_enc r (fun x hx => h x (by simp [hx]))]
    rfl

theorem isB64_extra (l : List Int) (c : Int) (h : digOk c = false) : isB64 (l ++ [c]) = false := by
  simp [isB64, h]

theorem enc_len : ∀ l : List Int, (enc l).length ≤ 4 * l.length
  | [] => by simp [enc]
  | [_] => by simp [enc]
  | [_, _] => by simp [enc]
  | _ :: _ :: _ :: r => by
    have := enc_len r
    simp only [enc, List.length_cons]
    omega
theorem enc_range (l : List Int) (h : ∀ x ∈ l, 0 ≤ x ∧ x ≤ 255) : ∀ x ∈ enc l, 0 ≤ x ∧ x ≤ 255 := by
  intro x hx
  have := isB64_enc l h
  have h2 : (enc l).all digOk = true := by simp [isB64] at this; simp; exact this.1
  have h3 := List.all_eq_true.mp h2 x hx
  rw [digOk_iff] at h3
  omega
end Go.Proofs.Qxb6605459a.B64
