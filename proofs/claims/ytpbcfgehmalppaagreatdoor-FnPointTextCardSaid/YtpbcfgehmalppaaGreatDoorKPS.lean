/- Sizes of trees. -/
import Derived.Test.YtpbcfgehmalppaaGreatDoorKP1
namespace Go.Proofs.YtpbcfgehmalppaaGreatDoorW.QPt
open Go.RowKit Go.Proofs.YtpbcfgehmalppaaGreatDoorW.PrintWords Go.Proofs.YtpbcfgehmalppaaGreatDoor

mutual
/-- Parts and numbers. -/
def S25.sz : S25 → Nat
  | ⟨_, _, ns, ks⟩ => 1 + ns.length + szs ks
def szs : List S25 → Nat
  | [] => 0
  | t :: ts => S25.sz t + szs ts
end
theorem sz_pos (t : S25) : 1 ≤ t.sz := by cases t; unfold S25.sz; omega
theorem szs_append (a b : List S25) : szs (a ++ b) = szs a + szs b := by
  induction a with
  | nil => simp [szs]
  | cons x a ih => simp only [List.cons_append, szs, ih]; omega
theorem szs_len : ∀ ks : List S25, ks.length ≤ szs ks
  | [] => by simp
  | t :: ts => by
    have := szs_len ts
    have := sz_pos t
    simp only [List.length_cons, szs]
    omega
theorem sz_mem : ∀ {ks : List S25} {q : Nat} {t : S25}, ks[q]? = some t → t.sz ≤ szs ks
  | [], _, _, h => by simp at h
  | a :: ts, 0, t, h => by
    simp at h
    subst h
    simp only [szs]
    omega
  | a :: ts, q + 1, t, h => by
    have := sz_mem (ks := ts) (q := q) (t := t) (by simpa using h)
    simp only [szs]
    omega
theorem sz_def (t : S25) : t.sz = 1 + t.f2.length + szs t.f3 := by cases t; rfl
theorem rd_at {xs : List S25} {i : Nat} (h : i < xs.length) : rd_T25 xs (i : Int) = xs[i] := by
  unfold rd_T25
  rw [Int.toNat_natCast, List.getD_eq_getElem?_getD, List.getElem?_eq_getElem h]
  rfl

end Go.Proofs.YtpbcfgehmalppaaGreatDoorW.QPt
