import Derived.Lib.Varint
import Derived.Lib.UnsafeStr
namespace Go.Proofs.Qxb6608748a

/-- One value of a row: its kind (0, 1, 2), its number, its text. -/
structure ZV where
  kind : Nat
  num : Int
  str : ByteArray

/-- Its bytes, as 'appendValue' lays them. -/
def ZV.enc (v : ZV) : List UInt8 :=
  if v.kind = 1 then 1 :: Lib.uvarint (Lib.zigzag v.num)
  else if v.kind = 2 then 2 :: (Lib.uvarint v.str.size ++ v.str.data.toList)
  else [0]

/-- The bytes of the values m, m + 1, .., m + n - 1 of a row. -/
def encFrom (R : Nat → ZV) (m : Nat) : Nat → List UInt8
  | 0 => []
  | n + 1 => encFrom R m n ++ (R (m + n)).enc

theorem encFrom_split (R : Nat → ZV) (m n k : Nat) : encFrom R m (n + k) = encFrom R m n ++ encFrom R (m + n) k := by
  induction k with
  | zero => simp [encFrom]
  | succ k ih => rw [← Nat.add_assoc]; simp only [encFrom, ih, List.append_assoc, Nat.add_assoc]

/-- What the screen 'zzAppendRowFits' lets by, for one value. -/
def ZV.fits (v : ZV) : Prop := (v.kind = 0 ∧ v.num = 0 ∧ v.str.size = 0) ∨ (v.kind = 1 ∧ v.str.size = 0) ∨ (v.kind = 2 ∧ v.num = 0)
end Go.Proofs.Qxb6608748a
