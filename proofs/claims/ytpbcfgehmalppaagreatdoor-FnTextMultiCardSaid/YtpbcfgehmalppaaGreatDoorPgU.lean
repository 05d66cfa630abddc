/- Texts of rows of parts: their lengths, what stands ahead of a part. -/
import Derived.Test.YtpbcfgehmalppaaGreatDoorPgP
namespace Go.Proofs.YtpbcfgehmalppaaGreatDoor
open Go.RowKit

theorem LsG.nums {w : World} {ok : Nat → Prop} {x : List Value} {t : Gm} (h : LsG w ok x t) : NumT t := by
  obtain ⟨q, ns, rfl, A, n, c, -, -, -, -, -, hb, -⟩ := h
  exact .mk hb (by simp)
theorem RowG.nums {R : World → (Nat → Prop) → List Value → Gm → Prop} {e : TypeId} {sz : Nat} {K : Int} {w : World} {ok : Nat → Prop} {x : List Value} {t : Gm} (hR : ∀ (w : World) (ok : Nat → Prop) (x : List Value) (t : Gm), R w ok x t → NumT t) (h : RowG R e sz K w ok x t) : NumT t := by
  obtain ⟨A, n, c, q, ks, rfl, -, -, -, -, -, h⟩ := h
  exact .mk (by simp) (KRow.nums hR h)
where
  KRow.nums {R : World → (Nat → Prop) → List Value → Gm → Prop} {e : TypeId} {sz : Nat} {w : World} {ok : Nat → Prop} {v : Value} {ts : List Gm} (hR : ∀ (w : World) (ok : Nat → Prop) (x : List Value) (t : Gm), R w ok x t → NumT t) (h : KRow R e sz w ok v ts) : ∀ t ∈ ts, NumT t := by
    obtain ⟨css, h1, h2, h3, h4, h5⟩ := h
    intro t ht
    obtain ⟨q, hq⟩ := List.mem_iff_getElem?.1 ht
    have hl : q < css.length := by
      have := (List.getElem?_eq_some_iff.1 hq).1
      omega
    exact hR _ _ _ t (h5 q _ t (List.getElem?_eq_getElem hl) hq)

theorem sum_snoc_take {ks : List Gm} {k : Nat} {s : Gm} (h : ks[k]? = some s) : ((ks.take k).map Gm.np).sum + s.np ≤ (ks.map Gm.np).sum := by
  have e := List.take_append_drop (k + 1) ks
  rw [List.take_add_one, h, Option.toList_some] at e
  have h2 := congrArg (fun l : List Gm => (l.map Gm.np).sum) e
  simp only [List.map_append, List.sum_append, List.map_cons, List.map_nil, List.sum_cons, List.sum_nil] at h2
  omega
theorem sum_take_np (ks : List Gm) (k : Nat) : ((ks.take k).map Gm.np).sum ≤ (ks.map Gm.np).sum := by
  have h := congrArg (fun l : List Gm => (l.map Gm.np).sum) (List.take_append_drop k ks)
  simp only [List.map_append, List.sum_append] at h
  omega
theorem partT_len (hi lo : Nat → Int) (K : Int) {t : Gm} (h : NumT t) : (partT hi lo K t).length + 900 ≤ 9000 * t.np := by
  have h1 := bodyT_len hi lo h
  have h2 := headT_len t (bodyT hi lo t)
  unfold partT
  split <;> omega
/-- The texts of parts. -/
def kidsT (hi lo : Nat → Int) (K : Int) (ks : List Gm) : List (List Int) := ks.map (partT hi lo K)
theorem kidsT_length (hi lo : Nat → Int) (K : Int) (ks : List Gm) : (kidsT hi lo K ks).length = ks.length := List.length_map _
theorem kidsT_getD (hi lo : Nat → Int) (K : Int) {ks : List Gm} {k : Nat} {s : Gm} (h : ks[k]? = some s) : (kidsT hi lo K ks).getD k [] = partT hi lo K s := by
  rw [List.getD_eq_getElem?_getD, kidsT, List.getElem?_map, h]
  rfl
theorem join_le (hi lo : Nat → Int) (K : Int) {ks : List Gm} (hN : ∀ t ∈ ks, NumT t) (k : Nat) (hk : k ≤ ks.length) : (joinS 44 (kidsT hi lo K ks) k).length ≤ 9000 * ((ks.take k).map Gm.np).sum := by
  have h1 := joinS_sum 44 (kidsT hi lo K ks) k (by rw [kidsT_length]; exact hk)
  refine Nat.le_trans h1 ?_
  rw [kidsT, ← List.map_take, List.map_map, ← sum_mul]
  refine sum_le _ _ _ (fun t ht => ?_)
  have := partT_len hi lo K (hN t (List.mem_of_mem_take ht))
  show (partT hi lo K t).length + 1 ≤ _
  omega
theorem join_room (hi lo : Nat → Int) (K : Int) {ks : List Gm} (hN : ∀ t ∈ ks, NumT t) {k : Nat} {s : Gm} (h : ks[k]? = some s) : (joinS 44 (kidsT hi lo K ks) k).length + 9000 * s.np ≤ 9000 * (ks.map Gm.np).sum := by
  have hl := (List.getElem?_eq_some_iff.1 h).1
  have h1 := join_le hi lo K hN k (by omega)
  have h2 := sum_snoc_take h
  omega
theorem join_all (hi lo : Nat → Int) (K : Int) {ks : List Gm} (hN : ∀ t ∈ ks, NumT t) (k : Nat) (hk : k ≤ ks.length) : (joinS 44 (kidsT hi lo K ks) k).length ≤ 9000 * (ks.map Gm.np).sum := by
  have h1 := join_le hi lo K hN k hk
  have h2 := sum_take_np ks k
  omega
theorem bodyT_row (hi lo : Nat → Int) (K q : Int) (ks : List Gm) : bodyT hi lo (.mk K q [] ks) = if ks.length = 0 then emptyB else [40] ++ joinS 44 (kidsT hi lo K ks) ks.length ++ [41] := by
  rw [bodyT_mk]
  have e : partsB hi lo K q [] ks = kidsT hi lo K ks := by unfold partsB kidsT; simp [ptsN]
  rw [e]
  have hl := kidsT_length hi lo K ks
  unfold listB
  by_cases h : ks.length = 0
  · rw [if_pos h, if_pos (List.eq_nil_of_length_eq_zero (by rw [hl]; exact h))]
  · rw [if_neg h, if_neg (fun e => h (by rw [← hl, e]; rfl)), hl]

/-- A list whose last is a bracket or a comma. -/
def opensB (bs : List Int) : Prop := bs ≠ [] ∧ (bs.getLast? = some 40 ∨ bs.getLast? = some 44)
theorem opensB_40 (bs : List Int) : opensB (bs ++ [40]) := ⟨by simp, .inl (by simp)⟩
theorem opensB_44 (bs : List Int) : opensB (bs ++ [44]) := ⟨by simp, .inr (by simp)⟩
theorem sepO_opens {bs : List Int} (h : opensB bs) (body : List Int) : sepO bs body = [] := by
  unfold sepO
  rw [if_neg]
  rintro ⟨-, h2⟩
  exact h2 (h.2.elim .inl (fun e => .inr (.inl e)))

/-- A name and its tag, and the text behind them. -/
theorem head_text (nm : List Int) (q : Int) (q0 : 0 ≤ q) (q1 : q ≤ 3) (bs body : List Int) (hn : ∃ a l, nm = l ++ [a] ∧ a ≠ 40 ∧ a ≠ 44 ∧ a ≠ 32) :
    sepO (bs ++ nm ++ tagB q) body = (if q = 0 ∧ body = emptyB then [32] else []) := by
  obtain ⟨a, l, rfl, h1, h2, h3⟩ := hn
  have hq : q = 0 ∨ q = 1 ∨ q = 2 ∨ q = 3 := by omega
  unfold sepO tagB
  rcases hq with rfl | rfl | rfl | rfl
  · have e : (bs ++ (l ++ [a]) ++ (if (0 : Int) = 0 then [] else if (0 : Int) = 1 then [32, 90, 32] else if (0 : Int) = 2 then [32, 77, 32] else [32, 90, 77, 32])).getLast? = some a := by simp
    rw [e]
    by_cases hb : body = emptyB
    · rw [if_pos ⟨hb, by rintro (h | h | h) <;> (injection h with h; contradiction)⟩, if_pos ⟨rfl, hb⟩]
    · rw [if_neg (fun h => hb h.1), if_neg (fun h => hb h.2)]
  · rw [if_neg (fun h => h.2 (.inr (.inr (by simp)))), if_neg (by simp)]
  · rw [if_neg (fun h => h.2 (.inr (.inr (by simp)))), if_neg (by simp)]
  · rw [if_neg (fun h => h.2 (.inr (.inr (by simp)))), if_neg (by simp)]

theorem bodyT_cases (hi lo : Nat → Int) (t : Gm) : bodyT hi lo t = emptyB ∨ ∃ ps, bodyT hi lo t = [40] ++ ps := by
  obtain ⟨k, d, ns, ks⟩ := t
  rw [bodyT_mk]
  unfold listB
  split
  · exact .inl rfl
  · exact .inr ⟨_, by rw [List.append_assoc]⟩
theorem empty_test (hi lo : Nat → Int) (t : Gm) : ((strOfNums (bodyT hi lo t)).toList == [69, 77, 80, 84, 89]) = true ↔ bodyT hi lo t = emptyB := by
  rcases bodyT_cases hi lo t with h | ⟨ps, h⟩ <;> rw [h, ByteArray.toList_eq]
  · exact ⟨fun _ => rfl, fun _ => rfl⟩
  · refine ⟨fun h => ?_, fun h => ?_⟩
    · simp [strOfNums] at h
    · simp [emptyB] at h
theorem nameB_last (k : Int) : ∃ a l, nameB k = l ++ [a] ∧ a ≠ 40 ∧ a ≠ 44 ∧ a ≠ 32 := by
  unfold nameB
  (repeat' split) <;> exact ⟨_, _, (List.dropLast_concat_getLast (by simp)).symm, by decide, by decide, by decide⟩
/-- The package's header and blank are the reference's. -/
theorem head_ref (hi lo : Nat → Int) {t : Gm} (d0 : 0 ≤ t.d) (d1 : t.d ≤ 3) (bs : List Int) :
    bs ++ nameB t.k ++ tagB t.d ++ (sepO (bs ++ nameB t.k ++ tagB t.d) (bodyT hi lo t) ++ bodyT hi lo t) = bs ++ wktT hi lo t := by
  rw [head_text _ _ d0 d1 _ _ (nameB_last t.k)]
  unfold wktT headT
  have hE := empty_test hi lo t
  have hq : t.d = 0 ∨ t.d = 1 ∨ t.d = 2 ∨ t.d = 3 := by omega
  generalize bodyT hi lo t = BT at *
  by_cases hB : BT = emptyB
  · subst hB
    have h1 : (strOfNums emptyB).toList = [69, 77, 80, 84, 89] := by rw [ByteArray.toList_eq]; rfl
    rcases hq with h | h | h | h <;> rw [h] <;> simp [h1, tagB, dimB]
  · have h1 : ¬ ((strOfNums BT).toList == [69, 77, 80, 84, 89]) = true := fun h => hB (hE.1 h)
    rcases hq with h | h | h | h <;> rw [h] <;> simp [h1, hB, tagB, dimB]

section
variable {w w1 W : World} {v v' : Value} {bs : List Int} {ok : Nat → Prop}
theorem place_row (hC : Bf w1 W v.ownBlock v' bs) (hrow : ∀ k, k < 7 → v.ownBlock ≠ some k) (h7 : 7 ≤ w1.heap.size) : ∀ k, k < 7 → v'.ownBlock ≠ some k := by
  intro k hk e
  rcases hC.place with hp | ⟨g, hp, hl⟩
  · rw [hp] at e; exact hrow k hk e
  · rw [hp] at e; injection e with e; omega
theorem place_ok (hC : Bf w1 W v.ownBlock v' bs) (hokv : ∀ b, ok b → b < w.heap.size → v.ownBlock ≠ some b) (hs : w.heap.size ≤ w1.heap.size) : ∀ b, (ok b ∧ b < w.heap.size) → b < W.heap.size → v'.ownBlock ≠ some b := by
  intro b hb _ e
  rcases hC.place with hp | ⟨g, hp, hl⟩
  · rw [hp] at e; exact hokv b hb.1 hb.2 e
  · rw [hp] at e; injection e with e; have := hb.2; omega
theorem rel_at {R : World → (Nat → Prop) → List Value → Gm → Prop} (hR : Keeps R) {x : List Value} {s : Gm} (hb : Below w.heap.size w w1) (hC : Bf w1 W v.ownBlock v' bs) (hokv : ∀ b, ok b → b < w.heap.size → v.ownBlock ≠ some b) {ok2 : Nat → Prop} (h2 : ∀ b, ok2 b → ok b) (hrs : R w ok2 x s) : R W (fun b => ok b ∧ b < w.heap.size) x s :=
  hR _ _ _ _ _ _ hrs (fun b hb' hl => (hC.grown.block b (Nat.lt_of_lt_of_le hl hb.size) (fun e => hokv b (h2 b hb') hl e.symm)).trans (hb.block b hl)) (fun b h hl => ⟨h2 b h, hl⟩)
theorem cell_at {g i : Nat} {u : Value} (hb : Below w.heap.size w w1) (hC : Bf w1 W v.ownBlock v' bs) (hg : g < w.heap.size) (hne : v.ownBlock ≠ some g) (hc : w.cell? ⟨g, i, none⟩ = some u) : W.cell? ⟨g, i, none⟩ = some u :=
  hC.grown.cell ((hb.cell (p := ⟨g, i, none⟩) hg).trans hc) (fun e => hne e.symm)
end

/-- The text of a line string within its parent. -/
theorem LsIn_G (K : Int) (hK : K ≠ 0) {ok : Nat → Prop} {q : Int} {A : Option Addr} {n c : Nat} {t : Gm} (hi lo : Nat → Int) (w : World) (h : LsG w ok [.int .u8 q, .slice A n c] t) (ho : OkT t) (v : Value) (bs : List Int) (hb : opensB bs) (hv : Own w v bs) (ht : FtTabs w hi lo)
    (hrow : ∀ k, k < 7 → v.ownBlock ≠ some k) (hokv : ∀ b, ok b → b < w.heap.size → v.ownBlock ≠ some b) (hl : bs.length + 10000 * t.np ≤ 60000000000000) :
    Calls Tryz.prog 116 #[.agg #[.int .u8 q, .slice A n c], v] w fun e w' =>
      ∃ v', e = .returned v' ∧ Bf w w' v.ownBlock v' (bs ++ partT hi lo K t) := by
  refine (LsBody_G hi lo w h ho v bs hb.1 hv ht hrow hokv (by omega)).mono ?_
  rintro e w' ⟨v', rfl, hB⟩
  refine ⟨v', rfl, ?_⟩
  rw [sepO_opens hb, List.nil_append] at hB
  unfold partT
  rw [if_neg hK]
  exact hB

end Go.Proofs.YtpbcfgehmalppaaGreatDoor
