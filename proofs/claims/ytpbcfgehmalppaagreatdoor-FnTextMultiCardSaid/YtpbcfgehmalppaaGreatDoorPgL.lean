/- The line string made of plain data. -/
import Derived.Test.YtpbcfgehmalppaaGreatDoorPgK
namespace Go.Proofs.YtpbcfgehmalppaaGreatDoor
open Go.RowKit

attribute [local go_sem] run_store_float

set_option maxHeartbeats 4000000 in
set_option maxRecDepth 100000 in
theorem line_any {B : Nat} {A K : Option Addr} {n m c c' : Nat} {ns : List Nat} (d : Int) (W : World) (h : Reads W B 1 A n (flV ns)) (hbs : ∀ b ∈ ns, b < 18446744073709551616) (hB : B ≤ W.heap.size) (hn : n ≤ 1000000) :
    Calls Tryz.prog 61 #[.agg #[.int .i64 2, .int .i64 d, .slice A n c, .slice K m c']] W fun e w' => ∃ (A' : Option Addr) (n' c' : Nat), e = .returned (.agg #[.int .u8 (d % 4), .slice A' n' c']) ∧ LsOn w' (fun b => W.heap.size ≤ b) [.int .u8 (d % 4), .slice A' n' c'] (d % 4, ns.take (n / wd (d % 4) * wd (d % 4))) ∧ Below W.heap.size W w' := by
  have hnl : ns.length = n := by have := h.1; rw [flV_length] at this; omega
  have q0 : 0 ≤ d % 4 := by omega
  have q1 : d % 4 ≤ 3 := by omega
  have hA : Below W.heap.size W ((W.alloc (.cells #[.int .i64 2, .int .i64 d, .slice A n c, .slice K m c'] 25)).alloc (.cells #[.int .u8 0, .slice none 0 0] 93)) := ((Below.refl _ _).alloc (Nat.le_refl _) _).alloc (by simp) _
  have hk : n / wd (d % 4) * wd (d % 4) = n - n % wd (d % 4) := by
    have := Nat.div_add_mod n (wd (d % 4))
    rw [Nat.mul_comm] at this
    omega
  have hsq := sequence_any (c := c) d _ (h.below (hA.mono hB)) (by simp; omega) (by omega) _ hk
  have hm : n / wd (d % 4) * wd (d % 4) % wd (d % 4) = 0 := Nat.mul_mod_left _ _
  have hle : n / wd (d % 4) * wd (d % 4) ≤ n := Nat.div_mul_le_self _ _
  have hlk : (ns.take (n / wd (d % 4) * wd (d % 4))).length = n / wd (d % 4) * wd (d % 4) := by rw [List.length_take]; omega
  have hbt : ∀ b ∈ ns.take (n / wd (d % 4) * wd (d % 4)), b < 18446744073709551616 := fun b hb => hbs b (List.mem_of_mem_take hb)
  generalize n / wd (d % 4) * wd (d % 4) = k at *
  generalize ns.take k = nk at *
  generalize d % 4 = q at *
  have HSQ := Lib.hid hsq
  have HM := Lib.hid hm
  have HLK := Lib.hid hlk
  have HBT := Lib.hid hbt
  have HA := Lib.hid hA
  clear h hbs hsq hm hlk hbt hA hk hnl
  go_enter Tryz.func61, Tryz.ntmps61
  go_wp2_with fail
  refine HSQ.out.mono ?_
  rintro e w1 ⟨g, rfl, hg, hblk, h1⟩
  go_wp2_with fail
  refine (NewLineString_any q _ k k _).mono ?_
  rintro e w2 ⟨rfl, h2⟩
  have x1 := ((Blk.new (W.alloc (.cells #[.int .i64 2, .int .i64 d, .slice A n c, .slice K m c'] 25)) 93 #[.int .u8 0, .slice none 0 0]).below h1 (by simp)).below h2 (by have := h1.size; simp at this ⊢; omega)
  rw [World.size_alloc] at x1
  have hb2 := hblk.below h2 hblk.lt
  have c0 := x1.cell 0
  have c1 := x1.cell 1
  have z0 := x1.frozen 0
  have z1 := x1.frozen 1
  simp at c0 c1
  have e0 : (w2.setCell ⟨W.heap.size + 1, 0, none⟩ (.int .u8 q)).cell? ⟨W.heap.size + 1, 0, none⟩ = some (.int .u8 q) := by simpa using (x1.set_ 0 (.int .u8 q)).cell 0
  have e1 : ((w2.setCell ⟨W.heap.size + 1, 0, none⟩ (.int .u8 q)).setCell ⟨W.heap.size + 1, 1, none⟩ (.slice (some ⟨g, 0, none⟩) k k)).cell? ⟨W.heap.size + 1, 1, none⟩ = some (.slice (some ⟨g, 0, none⟩) k k) := by simpa using ((x1.set_ 0 (.int .u8 q)).set_ 1 (.slice (some ⟨g, 0, none⟩) k k)).cell 1
  have hg2 : W.heap.size + 2 ≤ g := by simpa using hg
  have B1 := Lib.hid ((HA.out.trans (h1.mono (by simp; omega))).trans (h2.mono (by have := h1.size; simp at this; omega)))
  have BK := Lib.hid hb2
  clear h1 h2 x1 hblk hb2 hg
  go_wp2
  refine bodyPost_ret (by simp [results, Tryz.results61, go_sem, e0, e1]; try rfl) rfl ?_
  refine ⟨some ⟨g, 0, none⟩, k, k, rfl, ⟨some ⟨g, 0, none⟩, k, k, rfl, q0, q1, HLK.out, HM.out, HBT.out, fun _ => ⟨g, rfl, by omega, (BK.out.far (by show g ≠ W.heap.size + 1; omega) _).far (by show g ≠ W.heap.size + 1; omega) _⟩⟩, ?_⟩
  exact below_setCell' (below_setCell' B1.out (Nat.le_succ _) _) (Nat.le_succ _) _

end Go.Proofs.YtpbcfgehmalppaaGreatDoor
