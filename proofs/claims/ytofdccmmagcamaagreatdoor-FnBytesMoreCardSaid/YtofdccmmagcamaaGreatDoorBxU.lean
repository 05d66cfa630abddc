import Derived.Test.YtofdccmmagcamaaGreatDoorMhA
import Derived.Lib.Endian
/- Bytes of numbers, as data; they are read back as these, in both orders. -/
set_option maxHeartbeats 8000000
set_option linter.unusedSimpArgs false
set_option linter.unusedVariables false
namespace Go.Proofs.YtofdccmmagcamaaGreatDoor
open Go.RowKit

/-- The n bytes of a number. -/
def uB (big : Bool) (n x : Nat) : List Int := (if big then Lib.beBytes n x else Lib.leBytes n x).map fun b => (b.toNat : Int)
theorem uB_length (big : Bool) (n x : Nat) : (uB big n x).length = n := by
  unfold uB
  rw [List.length_map]
  cases big
  · exact Lib.leBytes_length n x
  · exact Lib.beBytes_length n x
def numsB (big : Bool) (ns : List Nat) : List Int := (ns.map fun x => uB big 8 x).flatten
def emptyBits : Nat := 9221120237041090561
def codeK (k : Int) : Int := if k = 0 then 7 else k
theorem beFrom_snoc : ∀ (l : List UInt8) (acc : Nat) (b : UInt8), Lib.beFrom acc (l ++ [b]) = Lib.beFrom acc l * 256 + b.toNat
  | [], acc, b => rfl
  | c :: l, acc, b => by
    show Lib.beFrom (acc * 256 + c.toNat) (l ++ [b]) = _
    rw [beFrom_snoc l]
    rfl
theorem beNat_reverse : ∀ l : List UInt8, Lib.beNat l.reverse = Lib.leNat l
  | [] => rfl
  | b :: l => by
    rw [List.reverse_cons]
    unfold Lib.beNat
    rw [beFrom_snoc]
    have h := beNat_reverse l
    unfold Lib.beNat at h
    rw [h]
    show Lib.leNat l * 256 + b.toNat = b.toNat + 256 * Lib.leNat l
    omega
theorem beNat_beBytes (k v : Nat) (h : v < 256 ^ k) : Lib.beNat (Lib.beBytes k v) = v := by
  unfold Lib.beBytes
  rw [beNat_reverse, Lib.leNat_leBytes k v h]

/-- What a row of bytes spells. -/
def rdB (big : Bool) (l : List UInt8) : Nat := if big then Lib.beNat l else Lib.leNat l
theorem uB_read (big : Bool) (n x : Nat) (h : x < 256 ^ n) : ∃ l : List UInt8, l.length = n ∧ uB big n x = l.map (fun b => (b.toNat : Int)) ∧ rdB big l = x := by
  cases big
  · exact ⟨Lib.leBytes n x, Lib.leBytes_length n x, rfl, Lib.leNat_leBytes n x h⟩
  · exact ⟨Lib.beBytes n x, Lib.beBytes_length n x, rfl, beNat_beBytes n x h⟩
theorem uB_four (big : Bool) (x : Nat) (h : x < 4294967296) : ∃ b0 b1 b2 b3 : UInt8, uB big 4 x = [(b0.toNat : Int), b1.toNat, b2.toNat, b3.toNat] ∧ rdB big [b0, b1, b2, b3] = x := by
  obtain ⟨l, h1, h2, h3⟩ := uB_read big 4 x (by omega)
  match l, h1 with
  | [b0, b1, b2, b3], _ => exact ⟨b0, b1, b2, b3, h2, h3⟩
theorem uB_eight (big : Bool) (x : Nat) (h : x < 18446744073709551616) : ∃ b0 b1 b2 b3 b4 b5 b6 b7 : UInt8, uB big 8 x = [(b0.toNat : Int), b1.toNat, b2.toNat, b3.toNat, b4.toNat, b5.toNat, b6.toNat, b7.toNat] ∧ rdB big [b0, b1, b2, b3, b4, b5, b6, b7] = x := by
  obtain ⟨l, h1, h2, h3⟩ := uB_read big 8 x (by omega)
  match l, h1 with
  | [b0, b1, b2, b3, b4, b5, b6, b7], _ => exact ⟨b0, b1, b2, b3, b4, b5, b6, b7, h2, h3⟩
/-- The greatest byte first is the least first, turned about. -/
theorem uB_turn (n x : Nat) : uB true n x = (uB false n x).reverse := by
  show (Lib.leBytes n x).reverse.map _ = ((Lib.leBytes n x).map _).reverse
  rw [List.map_reverse]
theorem numsB_length (big : Bool) (ns : List Nat) : (numsB big ns).length = 8 * ns.length := by
  unfold numsB
  induction ns with
  | nil => rfl
  | cons n ns ih =>
    simp only [List.map_cons, List.flatten_cons, List.length_append, ih, uB_length, List.length_cons]
    omega
/-- A byte of a number, as the writer takes it. -/
theorem leBytes_get : ∀ (n x i : Nat), i < n → (Lib.leBytes n x)[i]? = some ((x / 256 ^ i % 256).toUInt8)
  | 0, _, _, h => absurd h (Nat.not_lt_zero _)
  | n + 1, x, 0, _ => by simp [Lib.leBytes]
  | n + 1, x, i + 1, h => by
    show (Lib.leBytes n (x / 256))[i]? = _
    rw [leBytes_get n (x / 256) i (by omega), Nat.div_div_eq_div_mul, Nat.pow_succ, Nat.mul_comm]
theorem uB_get (n x i : Nat) (h : i < n) : (uB false n x)[i]? = some ((x / 256 ^ i % 256 : Nat) : Int) := by
  show ((Lib.leBytes n x).map _)[i]? = _
  rw [List.getElem?_map, leBytes_get n x i h]
  show some ((((x / 256 ^ i % 256).toUInt8).toNat : Nat) : Int) = _
  rw [Lib.toUInt8_mod]

/-- The code of a kind and a type. -/
def codeN (k d : Int) : Nat := (codeK k + 1000 * d).toNat
theorem codeN_lt {k d : Int} (k0 : 0 ≤ k) (k1 : k ≤ 6) (d0 : 0 ≤ d) (d1 : d ≤ 3) : codeN k d < 4294967296 ∧ (codeN k d % 1000 : Int) = codeK k ∧ (codeN k d / 1000 : Int) = d := by
  unfold codeN codeK
  split <;> omega

end Go.Proofs.YtofdccmmagcamaaGreatDoor
