/- The reference's GeoJSON of a point, whole. -/
import Derived.Test.YtpbcfgehmalppaaDoorJsJ
import Derived.Laws.IdiomStrings
import Derived.Deep.RegionWith
namespace Go.Proofs.YtpbcfgehmalppaaDoor
open Go.RowKit

attribute [local go_sem] run_store_float

set_option maxRecDepth 100000 in
theorem jsonName1 (w : World) : Calls Tryd.prog 33 #[.int .i64 1] w fun e w' => e = .returned (.string { data := #[80, 111, 105, 110, 116] }) ∧ w' = w := by
  go_enter Tryd.func33, Tryd.ntmps33
  go_wp2
  go_ret
  exact ⟨rfl, rfl⟩

/-- The GeoJSON of a point, as a text. -/
def textJ (hi lo : Nat → Int) (q : Int) (ns : List Nat) (n : Nat) : ByteArray := strOfNums (hdrJ ++ bodyJ hi lo q ns n ++ [125])
theorem strOfNums_strB (s : ByteArray) : strOfNums (strB s) = s := by
  obtain ⟨⟨l⟩⟩ := s
  unfold strOfNums strB
  congr 1
  simp [List.map_map, Function.comp_def]

theorem textJ_is (hi lo : Nat → Int) (q : Int) (ns : List Nat) (n : Nat) :
    ({ data := #[123, 34, 116, 121, 112, 101, 34, 58, 34] } : ByteArray) ++ { data := #[80, 111, 105, 110, 116] } ++ { data := #[34, 44, 34, 99, 111, 111, 114, 100, 105, 110, 97, 116, 101, 115, 34, 58] } ++ strOfNums (bodyJ hi lo q ns n) ++ { data := #[125] } = textJ hi lo q ns n := by
  unfold textJ
  rw [← strOfNums_app, ← strOfNums_app, hdrJ, strOfNums_strB]
  rfl

theorem cells_of_string (w : World) (s : ByteArray) (c T : Nat) (fr : Nat × Nat) : ∀ i, i < s.size → (w.alloc (.cells (bytesRow s c) T fr)).cell? ⟨w.heap.size, i, none⟩ = some (.int .u8 ((strB s).getD i 0)) := by
  intro i hi
  have h : (w.alloc (.cells (bytesRow s c) T fr)).heap[w.heap.size]? = some (.cells (bytesRow s c) T fr) := by
    show (w.heap.push _)[w.heap.size]? = _
    simp
  rw [cell_of_row _ _ i _ _ _ h, bytesRow_at s c i hi]
  have hj : i < s.data.toList.length := hi
  simp only [strB, List.getD_eq_getElem?_getD, List.getElem?_map, List.getElem?_eq_getElem hj]
  rfl

set_option maxHeartbeats 1000000 in
set_option maxRecDepth 100000 in
theorem WriteJSON_point (q : Int) (q0 : 0 ≤ q) (q1 : q ≤ 3) (g n c : Nat) (A : Option Addr) (ns : List Nat) (hi lo : Nat → Int) (w : World) (ht : FtTabs w hi lo) (hA : 0 < n → A = some ⟨g, 0, none⟩ ∧ ∀ j, j < n → w.cell? ⟨g, j, none⟩ = some (.float .f64 (ns.getD j 0)))
    (hn : n = 0 ∨ n = wd q) (hb : ∀ b ∈ ns, b < 18446744073709551616) :
    Calls Tryd.prog 16 #[.agg #[.int .i64 1, .int .i64 q, .slice A n c, .slice none 0 0]] w fun e w' => ∃ g cap, e = .returned (.tuple #[.slice (some ⟨g, 0, none⟩) (textJ hi lo q ns n).size cap, .bool true]) ∧ (∀ i, i < (textJ hi lo q ns n).size → w'.cell? ⟨g, i, none⟩ = some (.int .u8 ((strB (textJ hi lo q ns n)).getD i 0))) ∧ Below w.heap.size w w' := by
  have hA2 : ∀ nq, 0 < n → A = some ⟨g, 0, none⟩ ∧ ∀ j, j < n → ((w.alloc (.cells #[.int .i64 1, .int .i64 q, .slice A n c, .slice none 0 0] 37)).drewN nq).cell? ⟨g, j, none⟩ = some (.float .f64 (ns.getD j 0)) := fun nq h0 => by
    obtain ⟨e, hc⟩ := hA h0
    exact ⟨e, fun j hj => (World.cell?_alloc_lt w _ _ (World.block_lt_of_cell? w _ (hc j hj))).trans (hc j hj)⟩
  have hg0 : Below w.heap.size w (w.alloc (.cells #[.int .i64 1, .int .i64 q, .slice A n c, .slice none 0 0] 37)) := (Below.refl _ _).alloc (Nat.le_refl _) _
  have hB := fun nq => jsonBody_point q q0 q1 g n c A ns hi lo ((w.alloc (.cells #[.int .i64 1, .int .i64 q, .slice A n c, .slice none 0 0] 37)).drewN nq) (ht.below (below_drewN hg0 nq)) (hA2 nq) hn hb
  have hbl : (strOfNums (bodyJ hi lo q ns n)).size ≤ 6000 := by
    rw [strOfNums_size]
    unfold bodyJ
    obtain ⟨l0, l1, l2, _⟩ := ptN_lt (q := q) hb 0
    split
    · simp
    · exact coordJ_len hi lo q _ l0 l1 l2
  have hti := textJ_is hi lo q ns n
  generalize hS : strOfNums (bodyJ hi lo q ns n) = S at *
  have hcv := fun (s : ByteArray) (w : World) => run_bytes_of_string (P := Tryd.prog) w 9 32 5 s Tryd.underlying9 Tryd.underlying32 Tryd.underlying5
  have hlen : (textJ hi lo q ns n).size = 30 + S.size + 1 := by
    rw [← hti]
    simp [ByteArray.size_append]
    rfl
  have HLEN := Lib.hid hlen
  clear hlen
  have HTI := Lib.hid hti
  have HS := Lib.hid hS
  have HB := Lib.hid hB
  have HG := Lib.hid hg0
  clear hS hB hg0 hA hA2 ht hti
  go_enter Tryd.func16, Tryd.ntmps16
  go_wp2
  go_region_with (first
    | (go_at_call 33; refine (jsonName1 _).mono ?_; rintro e w' ⟨rfl, rfl⟩)
    | (go_at_call 34; refine (HB.out _).mono ?_; rintro e w2 ⟨rfl, h2⟩))
  all_goals
    have hbel := Below.drew ((below_drewN HG.out _).trans (h2.mono (by simp)))
    have HBEL := Lib.hid hbel
    clear hbel h2
    go_wp2
    go_ret2
    refine ⟨w2.heap.size, grownCap w2 (30 + S.size + 1) 0 5, ?_, ?_, ?_⟩
    · rw [HLEN.out]; rfl
    · rw [← HTI.out]; exact fun i hi => cells_of_string w2.drew _ _ _ _ i hi
    · exact HBEL.out.alloc HBEL.out.size _

end Go.Proofs.YtpbcfgehmalppaaDoor
