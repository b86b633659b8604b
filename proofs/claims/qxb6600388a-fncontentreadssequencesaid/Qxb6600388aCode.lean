/-! The plain mathematics of CBOR heads: big-endian bytes, their value, the head that a list of bytes begins with. No Go in sight. -/
namespace Go.Proofs.Qxb6600388a.Code

/-- v in k bytes, the greatest first. -/
def be : Nat → Nat → List Int
  | 0, _ => []
  | k + 1, v => be k (v / 256) ++ [((v % 256 : Nat) : Int)]

theorem length_be (k : Nat) : ∀ v, (be k v).length = k := by
  induction k with
  | zero => intro v; rfl
  | succ k ih => intro v; simp [be, ih]

theorem range_be (k : Nat) : ∀ v, ∀ z ∈ be k v, 0 ≤ z ∧ z ≤ 255 := by
  induction k with
  | zero => intro v z hz; cases hz
  | succ k ih =>
    intro v z hz
    rcases List.mem_append.1 hz with h | h
    · exact ih _ z h
    · rw [List.mem_singleton.1 h]; omega

theorem be_get (k : Nat) : ∀ v i, i < k → (be k v).getD i 0 = ((v / 256 ^ (k - 1 - i) % 256 : Nat) : Int) := by
  induction k with
  | zero => intro v i h; omega
  | succ k ih =>
    intro v i h
    by_cases hk : i = k
    · subst hk
      simp [be, List.getD, length_be]
    · have hlt : i < k := by omega
      have e : (be (k + 1) v).getD i 0 = (be k (v / 256)).getD i 0 := by
        simp [be, List.getD, List.getElem?_append_left (show i < (be k (v / 256)).length by rw [length_be]; exact hlt)]
      rw [e, ih _ _ hlt, Nat.div_div_eq_div_mul, show k + 1 - 1 - i = (k - 1 - i) + 1 by omega, Nat.pow_succ, Nat.mul_comm]

/-- The number that bytes say. -/
def val (l : List Int) : Nat := l.foldl (fun a x => a * 256 + x.toNat) 0

theorem val_snoc (l : List Int) (x : Int) : val (l ++ [x]) = val l * 256 + x.toNat := by
  simp [val, List.foldl_append]

theorem val_be (k : Nat) : ∀ v, v < 256 ^ k → val (be k v) = v := by
  induction k with
  | zero => intro v h; simp at h; subst h; rfl
  | succ k ih =>
    intro v h
    rw [be, val_snoc, ih (v / 256) (by rw [Nat.pow_succ] at h; omega)]
    omega

theorem val_lt (l : List Int) (h : ∀ z ∈ l, 0 ≤ z ∧ z ≤ 255) : ∀ k, val (l.take k) < 256 ^ k := by
  intro k
  induction k with
  | zero => simp [val]
  | succ k ih =>
    by_cases hk : k < l.length
    · rw [List.take_succ_eq_append_getElem hk, val_snoc, Nat.pow_succ]
      have := h l[k] (List.getElem_mem hk)
      omega
    · rw [List.take_of_length_le (by omega)]
      rw [List.take_of_length_le (by omega)] at ih
      have : 256 ^ k ≤ 256 ^ (k + 1) := Nat.pow_le_pow_right (by omega) (by omega)
      omega

theorem val_take (l : List Int) (k : Nat) (hk : k < l.length) : val (l.take (k + 1)) = val (l.take k) * 256 + (l.getD k 0).toNat := by
  rw [List.take_succ_eq_append_getElem hk, val_snoc]
  simp [List.getD, hk]

/-- How many bytes of argument follow a first byte of the given width (0: none). -/
def argLen (wd : Nat) : Nat := if wd = 0 then 0 else 2 ^ (wd - 1)

/-- A head: major type, width, argument. -/
def encHead (major wd v : Nat) : List Int := if wd = 0 then [((major * 32 + v : Nat) : Int)] else ((major * 32 + (23 + wd) : Nat) : Int) :: be (argLen wd) v

def Fits (wd v : Nat) : Prop := (wd = 0 ∧ v < 24) ∨ (wd = 1 ∧ v ≤ 255) ∨ (wd = 2 ∧ v ≤ 65535) ∨ (wd = 3 ∧ v ≤ 4294967295) ∨ (wd = 4 ∧ v ≤ 18446744073709551615)

theorem Fits.le {wd v : Nat} (h : Fits wd v) : wd ≤ 4 := by unfold Fits at h; omega
theorem Fits.lt {wd v : Nat} (h : Fits wd v) : v < 2 ^ 64 := by unfold Fits at h; omega

theorem Fits.lt_pow {wd v : Nat} (h : Fits wd v) (h0 : wd ≠ 0) : v < 256 ^ argLen wd := by
  unfold argLen
  rw [if_neg h0]
  rcases h with ⟨rfl, h⟩ | ⟨rfl, h⟩ | ⟨rfl, h⟩ | ⟨rfl, h⟩ | ⟨rfl, h⟩ <;> simp at * <;> omega

theorem length_encHead (major wd v : Nat) : (encHead major wd v).length = 1 + argLen wd := by
  unfold encHead
  by_cases h : wd = 0
  · simp [h, argLen]
  · rw [if_neg h, List.length_cons, length_be]; omega

theorem range_encHead {major wd v : Nat} (hm : major ≤ 7) (h : Fits wd v) : ∀ z ∈ encHead major wd v, 0 ≤ z ∧ z ≤ 255 := by
  unfold encHead
  by_cases h0 : wd = 0
  · rw [if_pos h0]
    intro z hz
    rw [List.mem_singleton.1 hz]
    unfold Fits at h
    omega
  · rw [if_neg h0]
    intro z hz
    rcases List.mem_cons.1 hz with rfl | hz
    · have := h.le
      omega
    · exact range_be _ _ z hz

/-- What a reader finds at the head of zs: major type, information, argument, how many bytes; no bytes where no whole head lies there. -/
def headOf : List Int → Int × Int × Nat × Nat
  | [] => (0, 0, 0, 0)
  | x :: rest =>
    if x % 32 < 24 then (x / 32, x % 32, (x % 32).toNat, 1)
    else if 27 < x % 32 then (x / 32, x % 32, 0, 1)
    else if rest.length < 2 ^ ((x % 32).toNat - 24) then (0, 0, 0, 0)
    else (x / 32, x % 32, val (rest.take (2 ^ ((x % 32).toNat - 24))), 1 + 2 ^ ((x % 32).toNat - 24))

/-- The information that a width writes. -/
def infoOf (wd v : Nat) : Nat := if wd = 0 then v else 23 + wd

theorem headOf_enc {major wd v : Nat} (h : Fits wd v) (tail : List Int) : headOf (encHead major wd v ++ tail) = ((major : Int), (infoOf wd v : Int), v, 1 + argLen wd) := by
  unfold encHead
  by_cases h0 : wd = 0
  · subst h0
    have hv : v < 24 := by unfold Fits at h; omega
    have e1 : ((major * 32 + v : Nat) : Int) % 32 = (v : Int) := by omega
    have e2 : ((major * 32 + v : Nat) : Int) / 32 = (major : Int) := by omega
    rw [if_pos rfl]
    simp only [List.cons_append, List.nil_append, headOf, e1, e2]
    rw [if_pos (by omega)]
    simp [infoOf, argLen]
  · have hw := h.le
    have e1 : ((major * 32 + (23 + wd) : Nat) : Int) % 32 = ((23 + wd : Nat) : Int) := by omega
    have e2 : ((major * 32 + (23 + wd) : Nat) : Int) / 32 = (major : Int) := by omega
    rw [if_neg h0]
    simp only [List.cons_append, headOf, e1, e2]
    have e3 : (2 : Nat) ^ ((((23 + wd : Nat) : Int)).toNat - 24) = argLen wd := by
      unfold argLen
      rw [if_neg h0, Int.toNat_natCast, show 23 + wd - 24 = wd - 1 by omega]
    rw [if_neg (by omega), if_neg (by omega), e3, if_neg (by rw [List.length_append, length_be]; omega)]
    rw [List.take_append_of_le_length (by rw [length_be]; exact Nat.le_refl _), List.take_of_length_le (by rw [length_be]; exact Nat.le_refl _), val_be _ _ (h.lt_pow h0)]
    simp [infoOf, h0]

/-- A proper beginning of a head is no whole head. -/
theorem headOf_short {major wd v : Nat} (h : Fits wd v) (tail : List Int) (c : Nat) (hc : c < 1 + argLen wd) : headOf ((encHead major wd v ++ tail).take c) = (0, 0, 0, 0) := by
  cases c with
  | zero => rfl
  | succ c =>
    have h0 : wd ≠ 0 := by
      intro h0
      subst h0
      simp [argLen] at hc
    have hw := h.le
    unfold encHead
    have e1 : ((major * 32 + (23 + wd) : Nat) : Int) % 32 = ((23 + wd : Nat) : Int) := by omega
    have e2 : ((major * 32 + (23 + wd) : Nat) : Int) / 32 = (major : Int) := by omega
    rw [if_neg h0]
    simp only [List.cons_append, List.take_succ_cons, headOf, e1, e2]
    have e3 : (2 : Nat) ^ ((((23 + wd : Nat) : Int)).toNat - 24) = argLen wd := by
      unfold argLen
      rw [if_neg h0, Int.toNat_natCast, show 23 + wd - 24 = wd - 1 by omega]
    rw [if_neg (by omega), if_neg (by omega), e3, if_pos (by rw [List.length_take]; omega)]

theorem or_small (a b : Nat) (h : b < 32) : a * 32 ||| b = a * 32 + b := by
  have := Nat.shiftLeft_add_eq_or_of_lt (i := 5) (b := b) (by omega) a
  rw [Nat.shiftLeft_eq] at this
  simpa using this.symm

theorem or_shift (a b : Nat) (h : b < 256) : a * 256 ||| b = a * 256 + b := by
  have := Nat.shiftLeft_add_eq_or_of_lt (i := 8) (b := b) (by omega) a
  rw [Nat.shiftLeft_eq] at this
  simpa using this.symm

theorem and_255 (a : Nat) : a &&& 255 = a % 256 := Nat.and_two_pow_sub_one_eq_mod a 8
theorem and_31 (a : Nat) : a &&& 31 = a % 32 := Nat.and_two_pow_sub_one_eq_mod a 5

end Go.Proofs.Qxb6600388a.Code
