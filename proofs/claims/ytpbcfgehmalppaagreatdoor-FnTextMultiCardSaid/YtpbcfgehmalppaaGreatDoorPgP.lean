/- The package's text of a line string, behind what stands in a buffer. -/
import Derived.Test.YtpbcfgehmalppaaGreatDoorPgO
import Derived.Test.YtpbcfgehmalppaaGreatDoorPgQ
namespace Go.Proofs.YtpbcfgehmalppaaGreatDoor
open Go.RowKit

attribute [local go_sem] run_store_float

/-- The texts of places. -/
def plsT (hi lo : Nat → Int) (q : Int) (ns : List Nat) (r : Nat) : List (List Int) := (ptsN q ns r).map (placeT hi lo q)
theorem plsT_length (hi lo : Nat → Int) (q : Int) (ns : List Nat) (r : Nat) : (plsT hi lo q ns r).length = r := by rw [plsT, List.length_map, ptsN_length]
theorem plsT_getD (hi lo : Nat → Int) (q : Int) (ns : List Nat) (r k : Nat) (h : k < r) : (plsT hi lo q ns r).getD k [] = placeT hi lo q (ptN q ns k) := by
  rw [List.getD_eq_getElem?_getD, plsT, ptsN, List.map_map, List.getElem?_map, List.getElem?_range h]
  rfl
theorem plsT_joinS (hi lo : Nat → Int) (q : Int) (ns : List Nat) (h : ∀ b ∈ ns, b < 18446744073709551616) (r k : Nat) (hk : k ≤ r) (hr : r ≤ 1000000) : (joinS 44 (plsT hi lo q ns r) k).length ≤ 7605000000 := by
  have h1 := joinS_len (s := 44) (places_len hi lo q ns h r) k
  have h2 : (7604 + 1) * k ≤ (7604 + 1) * 1000000 := Nat.mul_le_mul_left _ (by omega)
  unfold plsT
  omega

theorem Blk.bf {w0 W : World} {row : Option Nat} {v : Value} {bs : List Int} {g T : Nat} {cs : Array Value} (hb : Blk w0 g T cs) (h : Bf w0 W row v bs) (hne : row ≠ some g) : Blk W g T cs := hb.grown h.grown (fun e => hne e.symm)

set_option maxHeartbeats 4000000 in
set_option maxRecDepth 100000 in
theorem seqText_any {ok : Nat → Prop} {A : Option Addr} {n c : Nat} {ns : List Nat} (q : Int) (hi lo : Nat → Int) (w : World) (h : LsOn w ok [.int .u8 q, .slice A n c] (q, ns)) (hn0 : 0 < n) (hn : n ≤ 1000000) (v : Value) (bs : List Int) (ho : Own w v bs) (ht : FtTabs w hi lo)
    (hrow : ∀ k, k < 7 → v.ownBlock ≠ some k) (hokv : ∀ b, ok b → v.ownBlock ≠ some b) (hl : bs.length ≤ 60000000000000) :
    Calls Tryz.prog 134 #[v, .agg #[.int .u8 q, .slice A n c], .bool false] w fun e w' =>
      ∃ v', e = .returned v' ∧ Bf w w' v.ownBlock v' (bs ++ ([40] ++ joinS 44 (plsT hi lo q ns (n / wd q)) (n / wd q) ++ [41])) := by
  obtain ⟨i0, hi0, hz0, hz1, hz2⟩ := info_parts info_u8
  obtain ⟨A', n', c', e, q0, q1, hln, hm, hb, hr⟩ := h
  simp only [List.cons.injEq, Value.slice.injEq, and_true, true_and] at e
  obtain ⟨rfl, rfl, rfl⟩ := e
  simp only at q0 q1 hln hm hb hr
  obtain ⟨g, rfl, hg, hblk⟩ := hr hn0
  have hne : v.ownBlock ≠ some w.heap.size := fun e => by have := (ho.lt _ e).2; omega
  have hng : v.ownBlock ≠ some g := hokv g hg
  have hbox : Blk (w.alloc (.cells #[.int .u8 q, .slice (some ⟨g, 0, none⟩) n c] 78)) w.heap.size 78 #[.int .u8 q, .slice (some ⟨g, 0, none⟩) n c] := Blk.new w _ _
  have hbl0 : Below w.heap.size w (w.alloc (.cells #[.int .u8 q, .slice (some ⟨g, 0, none⟩) n c] 78)) := (Below.refl _ _).alloc (Nat.le_refl _) _
  have hlen := Length_any q q0 q1 (some ⟨g, 0, none⟩) n c (by omega) (w.alloc (.cells #[.int .u8 q, .slice (some ⟨g, 0, none⟩) n c] 78))
  have hle : n / wd q ≤ n := Nat.div_le_self _ _
  have hmul : ∀ k, k < n / wd q → (k + 1) * wd q ≤ n := fun k hk => Nat.le_trans (Nat.mul_le_mul_right _ hk) (Nat.div_mul_le_self _ _)
  have hjl := fun k hk => plsT_joinS hi lo q ns hb (n / wd q) k hk (by omega)
  have hget := fun k hk => plsT_getD hi lo q ns (n / wd q) k hk
  have hpt := fun k => ptN_lt' q ns k hb
  have h0 : Bf (w.alloc (.cells #[.int .u8 q, .slice (some ⟨g, 0, none⟩) n c] 78)) (w.alloc (.cells #[.int .u8 q, .slice (some ⟨g, 0, none⟩) n c] 78)) v.ownBlock v bs := Bf.start (ho.alloc _)
  have hg0 : w.grownBy (w.alloc (.cells #[.int .u8 q, .slice (some ⟨g, 0, none⟩) n c] 78)) none := World.grownBy_alloc w _ none
  have hblk := hblk.alloc (.cells #[.int .u8 q, .slice (some ⟨g, 0, none⟩) n c] 78)
  have ht := ht.grown hg0 (by simp)
  generalize n / wd q = r at *
  generalize plsT hi lo q ns r = PL at *
  have HX := Lib.hid hbox
  have HG := Lib.hid hblk
  have HT := Lib.hid ht
  have HLEN := Lib.hid hlen
  have HMUL := Lib.hid hmul
  have HJL := Lib.hid hjl
  have HGET := Lib.hid hget
  have HPT := Lib.hid hpt
  have HLN := Lib.hid hln
  have HG0 := Lib.hid hg0
  have H0 := Lib.hid h0
  clear hbox hblk ht hlen hmul hjl hget hpt hln hm hb hr hg hbl0 ho h0 hg0
  go_enter Tryz.func134, Tryz.ntmps134
  go_wp2_with fail
  refine HLEN.out.mono ?_
  rintro e w1 ⟨rfl, b1⟩
  have h1 : Bf (w.alloc (.cells #[.int .u8 q, .slice (some ⟨g, 0, none⟩) n c] 78)) w1 v.ownBlock v bs := H0.out.below b1
  have X1 := Lib.hid (HX.out.below b1 (by simp))
  clear b1
  go_wp2_with (at_builtin; refine wpList_bf_append1g rfl _ _ _ rfl Tryz.underlying30 hi0 hz0 hz1 hz2 rfl rfl (by assumption) (by first | rfl | simp) (by omega) ?_; intro v1 W1 h1)
  have H1 := Lib.hid h1
  clear h1
  go_loopw [0, 8] (fun u i wr => ∃ k : Nat, k ≤ r ∧ i = .int .i64 k ∧ Bf (w.alloc (.cells #[.int .u8 q, .slice (some ⟨g, 0, none⟩) n c] 78)) wr v.ownBlock u (bs ++ [40] ++ joinS 44 PL k)) (fun _ i _ => r - (intOf i).toNat)
  case atStart => exact ⟨0, Nat.zero_le _, rfl, by simpa [joinS] using H1.out⟩
  case round =>
    obtain ⟨k, hk, rfl, h1⟩ := hrel
    have hjk := HJL.out k hk
    have hlk : (bs ++ [40] ++ joinS 44 PL k).length ≤ 60000000000001 + 7605000000 := by simp only [len_app, List.length_cons, List.length_nil]; omega
    have hwz : (w.alloc (.cells #[.int .u8 q, .slice (some ⟨g, 0, none⟩) n c] 78)).heap.size ≤ wr.heap.size := h1.grown.size
    have hx := HX.out.bf h1 hne
    have c0 := hx.cell 0
    have c1 := hx.cell 1
    simp at c0 c1
    by_cases hlt : k < r
    · have hstep : joinS 44 PL (k + 1) = (if 0 < k then joinS 44 PL k ++ [44] else joinS 44 PL k) ++ PL.getD k [] := rfl
      rw [HGET.out k hlt] at hstep
      obtain ⟨p1, p2, p3, p4⟩ := HPT.out k
      have hGet := fun (W : World) (hb : Blk W g 45 (flV ns).toArray) => Get_any q q0 q1 g k n c ns W hb HLN.out (HMUL.out k hlt) (by omega)
      generalize ptN q ns k = P at *
      obtain ⟨x, y, z, m⟩ := P
      simp only at p1 p2 p3 p4 hGet
      generalize hT : joinS 44 PL k = T at *
      have HST := Lib.hid hstep
      have HGT := Lib.hid hGet
      have HX2 := Lib.hid hx
      clear hstep hGet hx hT
      generalize hBT : bs ++ [40] ++ T = BT at *
      have HBT := Lib.hid hBT
      clear hBT
      by_cases hk0 : 0 < k
      · have hd : decide (0 < (k : Int)) = true := decide_eq_true (by omega)
        rw [if_pos hk0] at HST
        go_wp2_with (at_builtin; refine wpList_bf_append1g rfl _ _ _ rfl Tryz.underlying30 hi0 hz0 hz1 hz2 rfl rfl (by assumption) (by first | rfl | simp) (by first | omega | (simp only [len_app, List.length_cons, List.length_nil]; omega)) ?_; intro v1 W1 h1; have hx := HX.out.bf h1 hne; have c0 := hx.cell 0; have c1 := hx.cell 1; simp at c0 c1; clear hx)
        refine (HGT.out _ (HG.out.bf h1 hng)).mono ?_
        rintro e w5 ⟨rfl, b5⟩
        have h5 := h1.below b5
        have H5 := Lib.hid h5
        clear b5 h5 h1
        go_wp2_with fail
        refine (coords_any false q q0 q1 x y z m hi lo _ _ (BT ++ [44]) (Bf.own_ H5.out) (HT.out.of_bf H5.out hrow) p1 p2 p3 p4 (fun k hk e => ?_) (by simp only [len_app, List.length_cons, List.length_nil]; omega)).mono ?_
        · rcases H5.out.place with hp | ⟨g', hp, hl'⟩
          · rw [hp] at e; exact hrow k hk e
          · rw [hp] at e; injection e with e; have := HT.out.siz; omega
        rintro e w6 ⟨v6, rfl, h6⟩
        have H6 := Lib.hid (H5.out.trans h6)
        clear h6
        go_wp2
        go_roundw
        case rel =>
          refine ⟨k + 1, by omega, by go_num, ?_⟩
          rw [HST.out]
          have h6 := H6.out
          rw [← HBT.out] at h6
          simpa [coordW] using h6
        case measure => simp [intOf]; omega
      · obtain rfl : k = 0 := by omega
        have hd : decide (0 < ((0 : Nat) : Int)) = false := rfl
        rw [if_neg hk0] at HST
        go_wp2_with fail
        refine (HGT.out _ (HG.out.bf h1 hng)).mono ?_
        rintro e w5 ⟨rfl, b5⟩
        have h5 := h1.below b5
        have H5 := Lib.hid h5
        clear b5 h5 h1
        go_wp2_with fail
        refine (coords_any false q q0 q1 x y z m hi lo _ _ BT (Bf.own_ H5.out) (HT.out.of_bf H5.out hrow) p1 p2 p3 p4 (fun k hk e => ?_) (by omega)).mono ?_
        · rcases H5.out.place with hp | ⟨g', hp, hl'⟩
          · rw [hp] at e; exact hrow k hk e
          · rw [hp] at e; injection e with e; have := HT.out.siz; omega
        rintro e w6 ⟨v6, rfl, h6⟩
        have H6 := Lib.hid (H5.out.trans h6)
        clear h6
        go_wp2
        go_roundw
        case rel =>
          refine ⟨1, by omega, by go_num, ?_⟩
          rw [HST.out]
          have h6 := H6.out
          rw [← HBT.out] at h6
          simpa [coordW] using h6
        case measure => simp [intOf]; omega
    · obtain rfl : r = k := by omega
      generalize hBT : bs ++ [40] ++ joinS 44 PL r = BT at *
      have HBT := Lib.hid hBT
      clear hBT hx
      go_wp2_with (at_builtin; refine wpList_bf_append1g rfl _ _ _ rfl Tryz.underlying30 hi0 hz0 hz1 hz2 rfl rfl (by assumption) (by first | rfl | simp) (by first | omega | (simp only [len_app, List.length_cons, List.length_nil]; omega)) ?_; intro v1 W1 h1)
      go_ret
      refine ⟨_, rfl, ?_⟩
      rw [← HBT.out] at h1
      simpa using h1.pre_none HG0.out

/-- The blank ahead of EMPTY. -/
def sepO (bs body : List Int) : List Int := if body = emptyB ∧ ¬ (bs.getLast? = some 40 ∨ bs.getLast? = some 44 ∨ bs.getLast? = some 32) then [32] else []
theorem sepO_empty (bs : List Int) : emptyO bs = sepO bs emptyB ++ emptyB := by
  unfold emptyO sepO emptyO.emptyB'
  by_cases h : bs.getLast? = some 40 ∨ bs.getLast? = some 44 ∨ bs.getLast? = some 32
  · rw [if_pos h, if_neg (fun h' => h'.2 h)]; rfl
  · rw [if_neg h, if_pos ⟨rfl, h⟩]; rfl
theorem sepO_list (bs ps : List Int) : sepO bs ([40] ++ ps) = [] := by
  unfold sepO
  rw [if_neg]
  rintro ⟨h, -⟩
  simp [emptyB] at h

set_option maxRecDepth 100000 in
theorem LsEmpty_any (b : Bool) (q : Int) (q0 : 0 ≤ q) (q1 : q ≤ 3) (A : Option Addr) (n c : Nat) (hn : n ≤ 1000000) (hb : decide (n / wd q = 0) = b) (w : World) :
    Calls Tryz.prog 133 #[.agg #[.int .u8 q, .slice A n c]] w fun e w' => e = .returned (.bool b) ∧ Below w.heap.size w w' := by
  have hlen := Length_any q q0 q1 A n c (by omega)
  have he : (((n / wd q : Nat) : Int) == 0) = b := by
    rw [← hb]
    by_cases h : n / wd q = 0
    · rw [h]; rfl
    · rw [decide_eq_false h, beq_eq_false_iff_ne]; omega
  generalize n / wd q = r at *
  have HLEN := Lib.hid hlen
  clear hlen hb
  go_enter Tryz.func133, Tryz.ntmps133
  go_wp2_with fail
  refine (HLEN.out _).mono ?_
  rintro e w1 ⟨rfl, b1⟩
  go_wp2
  go_ret
  exact ⟨by first | rfl | rw [he], ((Below.refl _ _).alloc (Nat.le_refl _) _).trans (b1.mono (by simp))⟩

theorem bodyT_line (hi lo : Nat → Int) (q : Int) (ns : List Nat) : bodyT hi lo (.mk 2 q ns []) = if ns.length / wd q = 0 then emptyB else [40] ++ joinS 44 (plsT hi lo q ns (ns.length / wd q)) (ns.length / wd q) ++ [41] := by
  rw [bodyT_mk]
  have e : partsB hi lo 2 q ns [] = plsT hi lo q ns (ns.length / wd q) := by unfold partsB plsT; simp
  rw [e]
  have hl := plsT_length hi lo q ns (ns.length / wd q)
  unfold listB
  by_cases h : ns.length / wd q = 0
  · rw [if_pos h, if_pos (List.eq_nil_of_length_eq_zero (by rw [hl]; exact h))]
  · rw [if_neg h, if_neg (fun e => h (by rw [← hl, e]; rfl)), hl]

set_option maxHeartbeats 2000000 in
set_option maxRecDepth 100000 in
theorem LsBody_G {ok : Nat → Prop} {q : Int} {A : Option Addr} {n c : Nat} {t : Gm} (hi lo : Nat → Int) (w : World) (h : LsG w ok [.int .u8 q, .slice A n c] t) (ho : OkT t) (v : Value) (bs : List Int) (hbn : bs ≠ []) (hv : Own w v bs) (ht : FtTabs w hi lo)
    (hrow : ∀ k, k < 7 → v.ownBlock ≠ some k) (hokv : ∀ b, ok b → b < w.heap.size → v.ownBlock ≠ some b) (hl : bs.length ≤ 60000000000000) :
    Calls Tryz.prog 116 #[.agg #[.int .u8 q, .slice A n c], v] w fun e w' =>
      ∃ v', e = .returned v' ∧ Bf w w' v.ownBlock v' (bs ++ (sepO bs (bodyT hi lo t) ++ bodyT hi lo t)) := by
  obtain ⟨q', ns, rfl, h⟩ := h
  have hq : q = q' := by
    obtain ⟨_, _, _, e, -⟩ := h
    simp only [List.cons.injEq, Value.int.injEq, true_and] at e
    exact e.1
  subst hq
  obtain ⟨hn, q0, q1, hln, hm⟩ : n ≤ 1000000 ∧ 0 ≤ q ∧ q ≤ 3 ∧ ns.length = n ∧ n % wd q = 0 := by
    cases ho with
    | mk d0 d1 hn hm hk =>
      obtain ⟨_, _, _, e, -, -, hl, hm', -⟩ := h
      simp only [List.cons.injEq, Value.slice.injEq, and_true, true_and] at e
      obtain ⟨rfl, rfl, rfl⟩ := e
      simp only at hl hm'
      have e2 := Nat.div_add_mod n (wd q)
      rw [hl] at hn
      refine ⟨?_, d0, d1, hl, hm'⟩
      have hw := wd_cases q d0 d1
      rcases hw with ⟨_, h⟩ | ⟨_, h⟩ | ⟨_, h⟩ | ⟨_, h⟩ <;> rw [h] at hn hm' e2 <;> omega
  have hbody := bodyT_line hi lo q ns
  rw [hln] at hbody
  obtain ⟨nb, hnb⟩ : ∃ nb, bs.length = nb + 1 := ⟨bs.length - 1, by have := List.length_pos_iff.2 hbn; omega⟩
  have hbl0 : Below w.heap.size w (w.alloc (.cells #[.int .u8 q, .slice A n c] 93)) := (Below.refl _ _).alloc (Nat.le_refl _) _
  have hbox := Blk.new w 93 #[.int .u8 q, .slice A n c]
  generalize bodyT hi lo (.mk 2 q ns []) = BT at *
  have hrw : ∀ W, Below w.heap.size w W → W.grownBy W none := fun W _ => World.grownBy.refl W none
  clear hrw
  have h0 := (Bf.start hv).below hbl0
  have HO := Lib.hid h0
  have HBX := Lib.hid hbox
  have HT := Lib.hid (ht.below hbl0)
  have hls := LsOn.keeps _ _ _ (fun b => ok b ∧ b < w.heap.size) _ _ h (fun b _ hl => hbl0.block b hl) (fun b h hl => ⟨h, hl⟩)
  have HLS := Lib.hid hls
  have HNB := Lib.hid hnb
  have HBD := Lib.hid hbody
  have HBL := Lib.hid hbl0
  have HKV := Lib.hid hokv
  have HLN := Lib.hid hln
  clear h hbn hv ht hbox h0 hls hnb hbody hbl0 hokv hln hm ho
  by_cases hr : n / wd q = 0
  · have hE := LsEmpty_any true q q0 q1 A n c hn (decide_eq_true hr)
    rw [if_pos hr] at HBD
    have HE := Lib.hid hE
    clear hE
    go_enter Tryz.func116, Tryz.ntmps116
    go_wp2_with fail
    refine (HE.out _).mono ?_
    rintro e w1 ⟨rfl, b1⟩
    have H1 := Lib.hid (HO.out.below b1)
    clear b1
    go_wp2_with fail
    refine (empty_any _ _ bs nb HNB.out (Bf.own_ H1.out) (by omega)).mono ?_
    rintro e w2 ⟨v2, rfl, h2⟩
    have H2 := Lib.hid (H1.out.trans h2)
    clear h2
    go_wp2
    go_ret
    refine ⟨_, rfl, ?_⟩
    rw [HBD.out, ← sepO_empty]
    exact H2.out
  · have hE := LsEmpty_any false q q0 q1 A n c hn (decide_eq_false hr)
    rw [if_neg hr] at HBD
    have hn0 : 0 < n := by
      rcases Nat.eq_zero_or_pos n with e | e
      · subst e; exact absurd (Nat.zero_div _) hr
      · exact e
    have HE := Lib.hid hE
    clear hE
    go_enter Tryz.func116, Tryz.ntmps116
    go_wp2_with fail
    refine (HE.out _).mono ?_
    rintro e w1 ⟨rfl, b1⟩
    have H1 := Lib.hid (HO.out.below b1)
    have X1 := HBX.out.below b1 (by simp)
    have c0 := X1.cell 0
    have c1 := X1.cell 1
    simp at c0 c1
    have HLS1 := Lib.hid (LsOn.keeps _ w1 _ (fun b => ok b ∧ b < w.heap.size) _ _ HLS.out (fun b hb hl => b1.block b hl) (fun b h hl => h))
    have HT1 := Lib.hid (HT.out.below b1)
    clear b1 X1
    go_wp2_with fail
    refine (seqText_any q hi lo _ HLS1.out hn0 hn _ bs (Bf.own_ H1.out) HT1.out hrow (fun b hb => HKV.out b hb.1 hb.2) hl).mono ?_
    rintro e w2 ⟨v2, rfl, h2⟩
    have H2 := Lib.hid (H1.out.trans h2)
    clear h2
    go_wp2
    go_ret
    refine ⟨_, rfl, ?_⟩
    rw [HBD.out, List.append_assoc, sepO_list, List.nil_append]
    have h2 := H2.out
    rw [List.append_assoc] at h2
    exact h2

end Go.Proofs.YtpbcfgehmalppaaGreatDoor
