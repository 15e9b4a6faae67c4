/-
  THE PLAIN LAW of the kinds' names: no Go in sight. Every fact on the 256 kinds is reckoned by the kernel.
-/
import Derived.Shelf.Strconv.Itoa3
namespace Go.Proofs.Qxb6617676aDoor.Plain

/-- The number that a row of decimal digits writes. -/
def dv (l : List UInt8) : Nat := l.foldl (fun v c => v * 10 + (c.toNat - 48)) 0

theorem dv_snoc (l : List UInt8) (c : UInt8) : dv (l ++ [c]) = dv l * 10 + (c.toNat - 48) := by
  unfold dv
  rw [List.foldl_append]
  rfl

def keep : ByteArray := ⟨#[107, 101, 101, 112, 97, 108, 105, 118, 101]⟩
def ike : ByteArray := ⟨#[73, 75, 69]⟩
def esp : ByteArray := ⟨#[69, 83, 80]⟩

/-- The digits of kind k. -/
def digits (k : Nat) : ByteArray := ⟨(Lib.itoa (k : Int)).toArray⟩

/-- The name of kind k. -/
def nm (k : Nat) : ByteArray :=
  if k = 1 then keep else if k = 2 then ike else if k = 3 then esp else ⟨#[75, 105, 110, 100, 40]⟩ ++ digits k ++ ⟨#[41]⟩

/-- A name read back. -/
def back (l : List UInt8) : Nat :=
  if l = [107, 101, 101, 112, 97, 108, 105, 118, 101] then 1 else if l = [73, 75, 69] then 2 else if l = [69, 83, 80] then 3 else dv ((l.drop 5).dropLast)

theorem back_all : (List.range 256).all (fun k => decide (back (nm k).data.toList = k)) = true := by decide +kernel

theorem back_nm (k : Nat) (h : k < 256) : back (nm k).data.toList = k := by
  have := List.all_eq_true.1 back_all k (List.mem_range.2 h)
  simpa using this

theorem nm_inj {a b : Nat} (ha : a < 256) (hb : b < 256) (h : nm a = nm b) : a = b := by
  rw [← back_nm a ha, ← back_nm b hb, h]

theorem digits_all : (List.range 256).all (fun k => let l := Lib.itoa (k : Int); decide (1 ≤ l.length) && decide (l.length ≤ 3) && l.all (fun c => decide (48 ≤ c.toNat) && decide (c.toNat ≤ 57)) && (decide (l.length = 1) || decide (l.getD 0 0 ≠ 48)) && decide (dv l = k)) = true := by decide +kernel

structure Digits (d : ByteArray) (k : Nat) : Prop where
  pos : 1 ≤ d.size
  few : d.size ≤ 3
  dig : ∀ i (h : i < d.size), 48 ≤ d[i].toNat ∧ d[i].toNat ≤ 57
  lead : ∀ (_ : 1 < d.size) (h : 0 < d.size), d[0].toNat ≠ 48
  val : dv d.data.toList = k

theorem digits_of (k : Nat) (h : k < 256) : Digits (digits k) k := by
  have h1 := List.all_eq_true.1 digits_all k (List.mem_range.2 h)
  simp only [Bool.and_eq_true, decide_eq_true_eq, Bool.or_eq_true, List.all_eq_true] at h1
  obtain ⟨⟨⟨⟨a, b⟩, c⟩, d⟩, e⟩ := h1
  have hs : (digits k).size = (Lib.itoa (k : Int)).length := rfl
  refine ⟨by omega, by omega, fun i hi => ?_, fun h1 h0 => ?_, e⟩
  · exact c _ (List.getElem_mem (by rw [← hs]; exact hi))
  · rcases d with d | d
    · omega
    · intro hz
      apply d
      have hl : 0 < (Lib.itoa (k : Int)).length := by omega
      rw [List.getD_eq_getElem?_getD, List.getElem?_eq_getElem hl]
      exact UInt8.toNat_inj.1 hz

end Go.Proofs.Qxb6617676aDoor.Plain
