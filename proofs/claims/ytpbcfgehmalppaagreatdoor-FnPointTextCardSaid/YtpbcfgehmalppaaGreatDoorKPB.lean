/- The text of a place and of a point, as the package writes them, in plain lists. -/
import Derived.Test.YtpbcfgehmalppaaGreatDoorKP4
import Derived.Test.YtpbcfgehmalppaaGreatDoorQPtx1
namespace Go.Proofs.YtpbcfgehmalppaaGreatDoorW.QPt
open Go.RowKit Go.Proofs.YtpbcfgehmalppaaGreatDoorW.PrintWords Go.Proofs.YtpbcfgehmalppaaGreatDoor

theorem af {l : List Int} {x : Nat} (hx : x < 18446744073709551616) (hl : l.length ≤ 70368744177664) : geom_appendFloat.f l x = some (l ++ numT x) := by
  unfold geom_appendFloat.f
  rw [if_pos ⟨hx, hl⟩]

theorem placeT_eq (q : Int) (p : S88) : placeT q p = numT p.f0 ++ ([32] ++ (numT p.f1 ++ ((if q % 2 = 1 then [32] ++ numT p.f2 else []) ++ (if q / 2 % 2 = 1 then [32] ++ numT p.f3 else [])))) := by
  unfold placeT plN
  by_cases h1 : q % 2 = 1 <;> by_cases h2 : q / 2 % 2 = 1 <;> simp [h1, h2, joinK]

theorem is3D_tells (q : Int) (h0 : 0 ≤ q) (h1 : q ≤ 3) : geom_CoordinatesType_Is3D.f q = some (decide (q % 2 = 1)) := by
  have h : q = 0 ∨ q = 1 ∨ q = 2 ∨ q = 3 := by omega
  rcases h with rfl | rfl | rfl | rfl <;> rfl
theorem isM_tells (q : Int) (h0 : 0 ≤ q) (h1 : q ≤ 3) : geom_CoordinatesType_IsMeasured.f q = some (decide (q / 2 % 2 = 1)) := by
  have h : q = 0 ∨ q = 1 ∨ q = 2 ∨ q = 3 := by omega
  rcases h with rfl | rfl | rfl | rfl <;> rfl
theorem dim_tells (q : Int) (h0 : 0 ≤ q) (h1 : q ≤ 3) : geom_CoordinatesType_Dimension.f q = some (wd q : Int) := by
  have h : q = 0 ∨ q = 1 ∨ q = 2 ∨ q = 3 := by omega
  rcases h with rfl | rfl | rfl | rfl <;> rfl

theorem coords1_tells {q : Int} (h0 : 0 ≤ q) (h1 : q ≤ 3) {p : S88} (hp : okP p) (dst : List Int) (hl : dst.length ≤ 20000000000000) (b : Bool) (k : Nat) :
    geom_appendWKTCoords.j1 (k + 1) dst b p.f0 p.f1 p.f2 p.f3 q = some (dst ++ ((if q / 2 % 2 = 1 then [32] ++ numT p.f3 else []) ++ (if b = true then [41] else []))) := by
  have n3 := numT_len hp.2.2.2
  simp only [geom_appendWKTCoords.j1]
  rw [isM_tells q h0 h1, Option.bind_some]
  by_cases h : q / 2 % 2 = 1
  · rw [if_pos (by simpa using h), if_pos (by omega), af hp.2.2.2 (by simp only [List.length_append, List.length_cons, List.length_nil]; omega), Option.bind_some, if_pos h]
    cases b
    · rw [if_neg (by simp)]; simp
    · rw [if_pos rfl, if_pos (by simp only [List.length_append, List.length_cons, List.length_nil]; omega)]; simp
  · rw [if_neg (by simpa using h), if_neg h]
    cases b
    · rw [if_neg (by simp)]; simp
    · rw [if_pos rfl, if_pos (by omega)]; simp
theorem coords0_tells {q : Int} (h0 : 0 ≤ q) (h1 : q ≤ 3) {p : S88} (hp : okP p) (dst : List Int) (hl : dst.length ≤ 10000000000000) (b : Bool) (k : Nat) :
    geom_appendWKTCoords.j0 (k + 2) dst b p.f0 p.f1 p.f2 p.f3 q = some (dst ++ (placeT q p ++ (if b = true then [41] else []))) := by
  have n0 := numT_len hp.1
  have n1 := numT_len hp.2.1
  have n2 := numT_len hp.2.2.1
  rw [placeT_eq]
  simp only [geom_appendWKTCoords.j0]
  rw [af hp.1 (by omega), Option.bind_some, if_pos (by simp only [List.length_append]; omega), af hp.2.1 (by simp only [List.length_append, List.length_cons, List.length_nil]; omega), Option.bind_some, is3D_tells q h0 h1, Option.bind_some]
  by_cases h : q % 2 = 1
  · rw [if_pos (by simpa using h), if_pos (by simp only [List.length_append, List.length_cons, List.length_nil]; omega), af hp.2.2.1 (by simp only [List.length_append, List.length_cons, List.length_nil]; omega), Option.bind_some, coords1_tells h0 h1 hp _ (by simp only [List.length_append, List.length_cons, List.length_nil]; omega), if_pos h]
    simp only [List.append_assoc]
  · rw [if_neg (by simpa using h), coords1_tells h0 h1 hp _ (by simp only [List.length_append, List.length_cons, List.length_nil]; omega), if_neg h]
    simp only [List.append_assoc, List.nil_append]
theorem coords_tells {q : Int} (h0 : 0 ≤ q) (h1 : q ≤ 3) {p : S88} (hp : okP p) (dst : List Int) (hl : dst.length ≤ 1000000000000) (b : Bool) (k : Nat) :
    geom_appendWKTCoords.f (k + 2) dst p.f0 p.f1 p.f2 p.f3 q b = some (dst ++ ((if b = true then [40] else []) ++ (placeT q p ++ (if b = true then [41] else [])))) := by
  unfold geom_appendWKTCoords.f
  cases b
  · rw [if_neg (by simp), coords0_tells h0 h1 hp _ (by omega)]
    simp
  · rw [if_pos rfl, if_pos (by omega), coords0_tells h0 h1 hp _ (by simp only [List.length_append, List.length_cons, List.length_nil]; omega)]
    simp only [if_true, List.append_assoc]

/-- The tag between a kind's name and what is behind it, as the package writes it. -/
def tagB (q : Int) : List Int := if q = 1 then [32, 90, 32] else if q = 2 then [32, 77, 32] else if q = 3 then [32, 90, 77, 32] else []
theorem tagB_len (q : Int) : (tagB q).length ≤ 4 := by unfold tagB; (repeat' split) <;> simp
theorem header_tells (q : Int) (h0 : 0 ≤ q) (h1 : q ≤ 3) (name : ByteArray) (hn : name.size ≤ 1000) (dst : List Int) (hl : dst.length ≤ 1000000000000) :
    geom_appendWKTHeader.f dst name q = some (dst ++ (bytesOf name ++ tagB q)) := by
  have hb : (bytesOf name).length = name.size := bytesOf_length name
  unfold geom_appendWKTHeader.f
  rw [if_pos (by omega), Option.bind_some]
  have h : q = 0 ∨ q = 1 ∨ q = 2 ∨ q = 3 := by omega
  rcases h with rfl | rfl | rfl | rfl
  · rw [show arrAt ([(⟨#[]⟩ : ByteArray), (⟨#[32, 90, 32]⟩ : ByteArray), (⟨#[32, 77, 32]⟩ : ByteArray), (⟨#[32, 90, 77, 32]⟩ : ByteArray)] : List ByteArray) 0 = some (⟨#[]⟩ : ByteArray) from rfl, Option.bind_some, if_pos (by rw [List.length_append, hb]; show _ + 0 < _; omega), List.append_assoc]
    rfl
  · rw [show arrAt ([(⟨#[]⟩ : ByteArray), (⟨#[32, 90, 32]⟩ : ByteArray), (⟨#[32, 77, 32]⟩ : ByteArray), (⟨#[32, 90, 77, 32]⟩ : ByteArray)] : List ByteArray) 1 = some (⟨#[32, 90, 32]⟩ : ByteArray) from rfl, Option.bind_some, if_pos (by rw [List.length_append, hb]; show _ + 3 < _; omega), List.append_assoc]
    rfl
  · rw [show arrAt ([(⟨#[]⟩ : ByteArray), (⟨#[32, 90, 32]⟩ : ByteArray), (⟨#[32, 77, 32]⟩ : ByteArray), (⟨#[32, 90, 77, 32]⟩ : ByteArray)] : List ByteArray) 2 = some (⟨#[32, 77, 32]⟩ : ByteArray) from rfl, Option.bind_some, if_pos (by rw [List.length_append, hb]; show _ + 3 < _; omega), List.append_assoc]
    rfl
  · rw [show arrAt ([(⟨#[]⟩ : ByteArray), (⟨#[32, 90, 32]⟩ : ByteArray), (⟨#[32, 77, 32]⟩ : ByteArray), (⟨#[32, 90, 77, 32]⟩ : ByteArray)] : List ByteArray) 3 = some (⟨#[32, 90, 77, 32]⟩ : ByteArray) from rfl, Option.bind_some, if_pos (by rw [List.length_append, hb]; show _ + 4 < _; omega), List.append_assoc]
    rfl

/-- Is a blank wanted ahead of EMPTY? -/
def gapT (dst : List Int) : List Int := if 0 < dst.length then (if dst.getD (dst.length - 1) 0 = 40 then [] else if dst.getD (dst.length - 1) 0 = 44 then [] else if dst.getD (dst.length - 1) 0 = 32 then [] else [32]) else []
theorem empty_tells (dst : List Int) (hl : dst.length ≤ 1000000000000) : geom_appendWKTEmpty.f dst = some (dst ++ (gapT dst ++ emptyB)) := by
  have hb : bytesOf (⟨#[69, 77, 80, 84, 89]⟩ : ByteArray) = emptyB := rfl
  unfold geom_appendWKTEmpty.f gapT
  rw [hb]
  by_cases h : 0 < dst.length
  · have e1 : wrap64 ((dst.length : Int) - 1) = ((dst.length - 1 : Nat) : Int) := by rw [w64 (by omega) (by omega)]; omega
    have e2 : rd dst ((dst.length - 1 : Nat) : Int) = dst.getD (dst.length - 1) 0 := by unfold rd; rw [Int.toNat_natCast]
    rw [if_pos (by omega), e1, if_pos (by omega), if_pos (by omega), e2, if_pos h]
    by_cases h1 : dst.getD (dst.length - 1) 0 = 40
    · rw [if_pos h1, if_pos (by omega), if_pos h1]; rfl
    · rw [if_neg h1, if_neg h1]
      by_cases h2 : dst.getD (dst.length - 1) 0 = 44
      · rw [if_pos h2, if_pos (by omega), if_pos h2]; rfl
      · rw [if_neg h2, if_neg h2]
        by_cases h3 : dst.getD (dst.length - 1) 0 = 32
        · rw [if_pos h3, if_pos (by omega), if_pos h3]; rfl
        · rw [if_neg h3, if_neg h3, if_pos (by omega), Option.bind_some, if_pos (by simp only [List.length_append, List.length_cons, List.length_nil]; omega), List.append_assoc]
  · rw [if_neg (by omega), if_pos (by omega), if_neg h]
    rfl

end Go.Proofs.YtpbcfgehmalppaaGreatDoorW.QPt
