/-
  THE PLAIN FUNCTIONS of the law on attributes: no Go in sight. 'digs': the digits of a number in which hyphens may stand between; 'scan': what a list of words comes to.
-/
import Derived.WalkKit
namespace Go.Proofs.YbulkaxeuFmt
namespace Att

/-- A digit. -/
def dgt (c : UInt8) : Bool := decide (48 ≤ c.toNat) && decide (c.toNat ≤ 57)
/-- A hyphen, at place k of n, that is not the first and not the last. -/
def hyp (n k : Nat) (c : UInt8) : Bool := decide (c.toNat = 45) && decide (0 < k) && decide (k + 1 < n)
/-- From place k on, 'acc' gathered so far. -/
def digsFrom (n : Nat) : Nat → List UInt8 → List UInt8 → Option (List UInt8)
  | _, [], acc => some acc
  | k, c :: r, acc => if dgt c = true then digsFrom n (k + 1) r (acc ++ [c]) else if hyp n k c = true then digsFrom n (k + 1) r acc else none
def digs (l : List UInt8) : Option (List UInt8) := digsFrom l.length 0 l []
/-- The two results of both functions on digits. -/
def dstr (o : Option (List UInt8)) : ByteArray := ⟨(o.getD []).toArray⟩
def dok (o : Option (List UInt8)) : Bool := o.isSome

theorem digsFrom_end (n k : Nat) (acc : List UInt8) : digsFrom n k [] acc = some acc := rfl
theorem digsFrom_digit {n k : Nat} {c : UInt8} {r acc : List UInt8} (h : dgt c = true) : digsFrom n k (c :: r) acc = digsFrom n (k + 1) r (acc ++ [c]) := by
  simp [digsFrom, h]
theorem digsFrom_hyphen {n k : Nat} {c : UInt8} {r acc : List UInt8} (h : dgt c = false) (h2 : hyp n k c = true) : digsFrom n k (c :: r) acc = digsFrom n (k + 1) r acc := by
  simp [digsFrom, h, h2]
theorem digsFrom_bad {n k : Nat} {c : UInt8} {r acc : List UInt8} (h : dgt c = false) (h2 : hyp n k c = false) : digsFrom n k (c :: r) acc = none := by
  simp [digsFrom, h, h2]

theorem digsFrom_length (n : Nat) : ∀ (l : List UInt8) (k : Nat) (acc d : List UInt8), digsFrom n k l acc = some d → d.length ≤ acc.length + l.length := by
  intro l
  induction l with
  | nil => intro k acc d h; simp [digsFrom] at h; subst h; simp
  | cons c r ih =>
    intro k acc d h
    by_cases h1 : dgt c = true
    · rw [digsFrom_digit h1] at h
      have := ih _ _ _ h
      simp at this ⊢
      omega
    · have h1' : dgt c = false := by simpa using h1
      by_cases h2 : hyp n k c = true
      · rw [digsFrom_hyphen h1' h2] at h
        have := ih _ _ _ h
        simp at this ⊢
        omega
      · rw [digsFrom_bad h1' (by simpa using h2)] at h
        cases h
theorem digs_length {l d : List UInt8} (h : digs l = some d) : d.length ≤ l.length := by
  have := digsFrom_length _ _ _ _ _ h
  simpa using this
theorem dstr_size (l : List UInt8) : (dstr (digs l)).size ≤ l.length := by
  unfold dstr
  cases h : digs l with
  | none => simp [ByteArray.size]
  | some d => have := digs_length h; simpa [ByteArray.size] using this

/-- The remaining bytes at place k. -/
theorem drop_at (s : ByteArray) (k : Nat) (h : k < s.size) : s.data.toList.drop k = s[k] :: s.data.toList.drop (k + 1) := by
  rw [List.drop_eq_getElem_cons (by simpa using h)]; rfl
theorem drop_end (s : ByteArray) (k : Nat) (h : s.size ≤ k) : s.data.toList.drop k = [] := by
  rw [List.drop_eq_nil_iff]; simpa using h

end Att
end Go.Proofs.YbulkaxeuFmt
