/-
  THE PLAIN LAW of the folding: no Go in sight.
-/
namespace Go.Proofs.Qxb6616198a.Plain

/-- An ASCII capital made small; every other byte as it stands. -/
def low (c : UInt8) : UInt8 := if 65 ≤ c.toNat ∧ c.toNat ≤ 90 then c + 32 else c

theorem low_toNat (c : UInt8) : (low c).toNat = if 65 ≤ c.toNat ∧ c.toNat ≤ 90 then c.toNat + 32 else c.toNat := by
  unfold low
  split
  · rename_i h
    rw [UInt8.toNat_add]
    have : (32 : UInt8).toNat = 32 := rfl
    rw [this]
    omega
  · rfl

/-- The bytes with, where 'f' is set, each capital made small. -/
def fold (f : Bool) (l : List UInt8) : List UInt8 := if f then l.map low else l

theorem fold_append (f : Bool) (a b : List UInt8) : fold f (a ++ b) = fold f a ++ fold f b := by
  cases f <;> simp [fold]

theorem fold_length (f : Bool) (l : List UInt8) : (fold f l).length = l.length := by
  cases f <;> simp [fold]

/-- A string's bytes, folded. -/
def foldS (f : Bool) (s : ByteArray) : ByteArray := ⟨(fold f s.data.toList).toArray⟩

theorem foldS_false (s : ByteArray) : foldS false s = s := by
  cases s
  simp [foldS, fold]

theorem foldS_size (f : Bool) (s : ByteArray) : (foldS f s).size = s.size := by
  show (fold f s.data.toList).toArray.size = s.data.size
  simp [fold_length]

theorem foldS_append (f : Bool) (a b : ByteArray) : foldS f (a ++ b) = foldS f a ++ foldS f b := by
  apply ByteArray.ext
  simp [foldS, fold_append, ByteArray.data_append]

theorem foldS_at (f : Bool) (s : ByteArray) (k : Nat) (h : k < s.size) (h' : k < (foldS f s).size) :
    (foldS f s)[k].toNat = if f = true ∧ 65 ≤ s[k].toNat ∧ s[k].toNat ≤ 90 then s[k].toNat + 32 else s[k].toNat := by
  have e : (foldS f s)[k] = (fold f s.data.toList)[k]'(by rw [fold_length]; simpa using h) := by
    rfl
  have e2 : s[k] = s.data[k]'h := rfl
  rw [e, e2]
  cases f
  · simp [fold]
  · simp [fold, low_toNat]

end Go.Proofs.Qxb6616198a.Plain
