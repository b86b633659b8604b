/-! The plain mathematics of encodeCols: decimal lengths, the code, that it is injective. No Go in sight. -/
namespace Go.Proofs.Qxb6600329a.Code

/-- The decimal digits of n, laid ahead of acc; at most f of them. -/
def digsAux : Nat → Nat → List Int → List Int
  | 0, _, acc => acc
  | f + 1, n, acc => if n = 0 then acc else digsAux f (n / 10) ((48 + ((n % 10 : Nat) : Int)) :: acc)

def digits (n : Nat) : List Int := if n = 0 then [48] else digsAux 24 n []

def bytes (s : ByteArray) : List Int := s.data.toList.map fun c => (c.toNat : Int)

def enc1 (s : ByteArray) : List Int := digits s.size ++ 58 :: bytes s

def encode : List ByteArray → List Int
  | [] => []
  | s :: ss => enc1 s ++ encode ss

theorem encode_append (xs ys : List ByteArray) : encode (xs ++ ys) = encode xs ++ encode ys := by
  induction xs with
  | nil => rfl
  | cons x xs ih => simp [encode, ih]

theorem length_digsAux (f : Nat) : ∀ n acc, (digsAux f n acc).length ≤ f + acc.length := by
  induction f with
  | zero => intro n acc; simp [digsAux]
  | succ f ih =>
    intro n acc
    unfold digsAux
    split
    · omega
    · have := ih (n / 10) ((48 + ((n % 10 : Nat) : Int)) :: acc)
      rw [List.length_cons] at this
      omega

theorem length_digits (n : Nat) : (digits n).length ≤ 24 := by
  unfold digits
  split
  · simp
  · have := length_digsAux 24 n []
    simpa using this

theorem length_bytes (s : ByteArray) : (bytes s).length = s.size := by
  unfold bytes
  rw [List.length_map, Array.length_toList]
  rfl

theorem length_enc1 (s : ByteArray) : (enc1 s).length ≤ 25 + s.size := by
  unfold enc1
  have := length_digits s.size
  simp [length_bytes]
  omega

theorem length_encode (ss : List ByteArray) : (encode ss).length ≤ 25 * ss.length + (ss.map (·.size)).sum := by
  induction ss with
  | nil => simp [encode]
  | cons s ss ih =>
    have := length_enc1 s
    simp [encode]
    omega

/-- every digit is a digit -/
theorem digsAux_range (f : Nat) : ∀ n acc, (∀ d ∈ acc, 48 ≤ d ∧ d ≤ 57) → ∀ d ∈ digsAux f n acc, 48 ≤ d ∧ d ≤ 57 := by
  induction f with
  | zero => intro n acc h; simpa [digsAux] using h
  | succ f ih =>
    intro n acc h
    unfold digsAux
    split
    · exact h
    · apply ih
      intro d hd
      rcases List.mem_cons.1 hd with rfl | hd
      · omega
      · exact h d hd

theorem digits_range (n : Nat) : ∀ d ∈ digits n, 48 ≤ d ∧ d ≤ 57 := by
  unfold digits
  split
  · intro d hd; simp at hd; omega
  · exact digsAux_range 24 n [] (by simp)

def val (l : List Int) : Int := l.foldl (fun a d => a * 10 + (d - 48)) 0

theorem foldl_val (l : List Int) : ∀ a : Int, l.foldl (fun a d => a * 10 + (d - 48)) a = a * 10 ^ l.length + val l := by
  induction l with
  | nil => intro a; simp [val]
  | cons d l ih =>
    intro a
    simp only [List.foldl_cons, List.length_cons, val]
    rw [ih, ih (0 * 10 + (d - 48)), Int.pow_succ]
    generalize (10 : Int) ^ l.length = p
    rw [show a * (p * 10) = (a * 10) * p by rw [Int.mul_comm p 10, Int.mul_assoc], Int.add_mul]
    simp
    omega

theorem val_cons (d : Int) (l : List Int) : val (d :: l) = (d - 48) * 10 ^ l.length + val l := by
  have := foldl_val l (0 * 10 + (d - 48))
  simp only [val, List.foldl_cons] at *
  rw [this]
  simp

theorem val_digsAux (f : Nat) : ∀ n acc, n < 10 ^ f → val (digsAux f n acc) = n * 10 ^ acc.length + val acc := by
  induction f with
  | zero =>
    intro n acc h
    simp at h
    subst h
    simp [digsAux]
  | succ f ih =>
    intro n acc h
    unfold digsAux
    split
    · next h0 => subst h0; simp
    · rw [ih (n / 10) _ (by rw [Nat.pow_succ] at h; omega), val_cons, List.length_cons, Int.pow_succ]
      generalize hp : (10 : Int) ^ acc.length = p
      have e : ((n : Nat) : Int) = 10 * ((n / 10 : Nat) : Int) + ((n % 10 : Nat) : Int) := by omega
      generalize ((n / 10 : Nat) : Int) = q at *
      generalize ((n % 10 : Nat) : Int) = r at *
      rw [e, Int.add_mul, show 48 + r - 48 = r by omega, show q * (p * 10) = 10 * q * p by rw [Int.mul_comm p 10, ← Int.mul_assoc, Int.mul_comm q 10]]
      omega

theorem val_digits (n : Nat) (h : n < 10 ^ 24) : val (digits n) = n := by
  unfold digits
  split
  · next h0 => subst h0; rfl
  · rw [val_digsAux 24 n [] h]; simp [val]

theorem split58 : ∀ (d1 d2 r1 r2 : List Int), (∀ d ∈ d1, d ≤ 57) → (∀ d ∈ d2, d ≤ 57) → d1 ++ 58 :: r1 = d2 ++ 58 :: r2 → d1 = d2 ∧ r1 = r2 := by
  intro d1
  induction d1 with
  | nil =>
    intro d2 r1 r2 _ h2 e
    cases d2 with
    | nil => simpa using e
    | cons x d2 =>
      simp at e
      have := h2 x (by simp)
      omega
  | cons y d1 ih =>
    intro d2 r1 r2 h1 h2 e
    cases d2 with
    | nil =>
      simp at e
      have := h1 y (by simp)
      omega
    | cons x d2 =>
      simp at e
      have := ih d2 r1 r2 (fun d hd => h1 d (by simp [hd])) (fun d hd => h2 d (by simp [hd])) e.2
      exact ⟨by rw [e.1, this.1], this.2⟩

theorem bytes_inj {s t : ByteArray} (h : bytes s = bytes t) : s = t := by
  have e : s.data.toList = t.data.toList := by
    unfold bytes at h
    exact List.map_inj_right (fun a b hab => UInt8.toNat_inj.1 (by omega)) |>.1 h
  cases s; cases t
  simp at e
  rw [e]

theorem encode_inj : ∀ xs ys : List ByteArray, (∀ s ∈ xs, s.size < 10 ^ 24) → (∀ s ∈ ys, s.size < 10 ^ 24) → encode xs = encode ys → xs = ys := by
  intro xs
  induction xs with
  | nil =>
    intro ys _ _ h
    cases ys with
    | nil => rfl
    | cons y ys => simp [encode, enc1] at h
  | cons x xs ih =>
    intro ys hx hy h
    cases ys with
    | nil => simp [encode, enc1] at h
    | cons y ys =>
      simp only [encode, enc1, List.append_assoc, List.cons_append] at h
      obtain ⟨h1, h2⟩ := split58 _ _ _ _ (fun d hd => (digits_range _ d hd).2) (fun d hd => (digits_range _ d hd).2) h
      have hs : x.size = y.size := by
        have e1 := val_digits x.size (hx x (by simp))
        have e2 := val_digits y.size (hy y (by simp))
        rw [h1] at e1
        omega
      obtain ⟨h3, h4⟩ := List.append_inj h2 (by rw [length_bytes, length_bytes, hs])
      rw [bytes_inj h3, ih ys (fun s hs => hx s (by simp [hs])) (fun s hs => hy s (by simp [hs])) h4]

theorem encode_snoc (ss : List ByteArray) (k : Nat) (h : k < ss.length) : encode (ss.take (k + 1)) = encode (ss.take k) ++ enc1 (ss.getD k ByteArray.empty) := by
  rw [List.take_succ_eq_append_getElem h, encode_append]
  simp [encode, List.getD, h]

theorem bytes_snoc (s : ByteArray) (k : Nat) (h : k < s.size) : (bytes s).take (k + 1) = (bytes s).take k ++ [(s[k].toNat : Int)] := by
  rw [List.take_succ_eq_append_getElem (by rw [length_bytes]; exact h)]
  have e : (bytes s)[k]'(by rw [length_bytes]; exact h) = (s[k].toNat : Int) := by
    unfold bytes
    rw [List.getElem_map]
    rfl
  rw [e]

end Go.Proofs.Qxb6600329a.Code
