/- The package's GeoJSON of a polygon. -/
import Derived.Test.YtpbcfgehmalppaaGreatDoorPgJa
import Derived.Test.YtpbcfgehmalppaaGreatDoorPgT
import Derived.Test.YtpbcfgehmalppaaGreatDoorPgU
import Derived.Test.YtpbcfgehmalppaaGreatDoorJsE
namespace Go.Proofs.YtpbcfgehmalppaaGreatDoor
open Go.RowKit

attribute [local go_sem] run_store_float

set_option maxRecDepth 100000 in
theorem LsCoords (q : Int) (A : Option Addr) (n c : Nat) (w : World) : Calls Tryz.prog 114 #[.agg #[.int .u8 q, .slice A n c]] w fun e w' => e = .returned (.agg #[.int .u8 q, .slice A n c]) ∧ Below w.heap.size w w' := by
  go_enter Tryz.func114, Tryz.ntmps114
  go_wp2
  go_returns
  exact ⟨rfl, by go_grown⟩

theorem info_seq : (Tryz.prog.info? 78).map (fun i => (i.zero, i.size, i.bytes)) = some (some (.agg #[.int .u8 0, .slice none 0 0]), 2, 32) := by kernel_rfl

set_option maxHeartbeats 8000000 in
set_option maxRecDepth 100000 in
theorem PgCoords_G {ok : Nat → Prop} {A : Option Addr} {n c : Nat} (q : Int) {ts : List Gm} (W : World) (h : KRow LsG 93 2 W ok (.slice A n c) ts) (hrl : ts.length = n) (hn : n ≤ 100000) :
    Calls Tryz.prog 65 #[.agg #[.slice A n c, .int .u8 q]] W fun e w' => ∃ (A' : Option Addr) (c' : Nat), e = .returned (.slice A' n c') ∧ KRow LsG 78 2 w' (fun b => ok b ∨ W.heap.size ≤ b) (.slice A' n c') ts ∧ Below W.heap.size W w' := by
  obtain ⟨i0, hi0, hz0, hz1, hz2⟩ := info_parts info_seq
  have hmk : ∀ w : World, (Instr.makeSlice 98 (.int .i64 (n : Int)) (.int .i64 (n : Int))).run Tryz.prog w = .ok (.slice (some ⟨w.heap.size, 0, none⟩) n n) (w.alloc (.cells (madeCells #[.int .u8 0, .slice none 0 0] (n * 2)) 78)) := fun w => by
    have h := run_make_rowN (P := Tryz.prog) 98 78 i0 (.agg #[.int .u8 0, .slice none 0 0]) Tryz.underlying98 hi0 hz0 .i64 .i64 n n (Nat.le_refl _) (by rw [hz2]; omega) (by omega) w
    rw [hz1] at h
    exact h
  have H := Lib.hid h
  have HRL := Lib.hid hrl
  clear h hrl
  go_enter Tryz.func65, Tryz.ntmps65
  go_wp2_with fail
  have hsz2 : (W.alloc (.cells #[.slice A n c, .int .u8 q] 63)).heap.size = W.heap.size + 1 := by simp
  obtain ⟨css, ho3, hf3⟩ := row_made (R := LsG) (sz := 2) (e := 78) (w := W.alloc (.cells #[.slice A n c, .int .u8 q] 63)) (ok := fun b => (ok b ∧ b < W.heap.size) ∨ W.heap.size + 2 ≤ b) (ts := ts) (n := n) (cur := madeCells #[.int .u8 0, .slice none 0 0] (n * 2)) HRL.out (size_madeCells _ _) hn
  have b0 := (Blk.new W 63 #[.slice A n c, .int .u8 q]).alloc (.cells (madeCells #[.int .u8 0, .slice none 0 0] (n * 2)) 78)
  have hb3 : Below W.heap.size W ((W.alloc (.cells #[.slice A n c, .int .u8 q] 63)).alloc (.cells (madeCells #[.int .u8 0, .slice none 0 0] (n * 2)) 78)) := ((Below.refl _ _).alloc (Nat.le_refl _) _).alloc (by simp) _
  have hs3 : W.heap.size + 2 ≤ ((W.alloc (.cells #[.slice A n c, .int .u8 q] 63)).alloc (.cells (madeCells #[.int .u8 0, .slice none 0 0] (n * 2)) 78)).heap.size := by simp
  rw [hsz2] at ho3
  generalize (W.alloc (.cells #[.slice A n c, .int .u8 q] 63)).alloc (.cells (madeCells #[.int .u8 0, .slice none 0 0] (n * 2)) 78) = w3 at *
  have r0 := b0.cell 0
  have r1 := b0.cell 1
  simp at r0 r1
  have HO3 := Lib.hid ho3
  have HF3 := Lib.hid hf3
  have HB3 := Lib.hid hb3
  clear ho3 hf3 b0 hb3 hsz2
  go_wp2_with fail
  go_loopw [13] (fun i wr => ∃ (k : Nat) (cs : List (List Value)), k ≤ n ∧ i = .int .i64 k ∧ wr.ownsRow 0 78 2 (.slice (some ⟨W.heap.size + 1, 0, none⟩) n n) n cs.flatten ∧ FillG LsG 2 wr (fun b => (ok b ∧ b < W.heap.size) ∨ W.heap.size + 2 ≤ b) ts k cs ∧ Below W.heap.size W wr ∧ W.heap.size + 2 ≤ wr.heap.size) (fun i _ => n - (intOf i).toNat)
  case atStart => exact ⟨0, css, Nat.zero_le _, rfl, HO3.out, HF3.out, HB3.out, hs3⟩
  case round =>
    obtain ⟨k, cs, hk, rfl, ow, md, hbr, hsr⟩ := hrel
    by_cases hlt : k < n
    · obtain ⟨g, x, s, rfl, hgok, hr, hxl, hcl, hrs, hgl⟩ := row_at HRL.out H.out hlt
      replace hgl := hgl (by decide)
      obtain ⟨rq, rA, rn, rc, rfl, -⟩ := hrs.shape
      have j0 := (hbr.cell (p := ⟨g, k * 2 + 0, none⟩) hgl).trans (hcl 0 _ rfl)
      have j1 := (hbr.cell (p := ⟨g, k * 2 + 1, none⟩) hgl).trans (hcl 1 _ rfl)
      rw [Nat.add_zero] at j0
      have hclen : k < cs.length := by rw [md.1, HRL.out]; exact hlt
      have hck : cs[k]? = some (cs[k]'hclen) := List.getElem?_eq_getElem _
      generalize (cs[k]'hclen) = z at hck
      obtain ⟨za, zb, rfl⟩ := list2 (md.2.1 z (List.mem_of_getElem? hck))
      have ad : ∀ g j : Nat, (⟨g, 0, none⟩ : Addr).add j = ⟨g, j, none⟩ := fun g j => by unfold Addr.add; split <;> simp_all
      have k0 := ow.cells (g := W.heap.size + 1) rfl (k * 2 + 0) za (by rw [flat_at md.2.1 hck (by omega)]; rfl)
      have k1 := ow.cells (g := W.heap.size + 1) rfl (k * 2 + 1) zb (by rw [flat_at md.2.1 hck (by omega)]; rfl)
      rw [ad] at k0 k1
      rw [Nat.add_zero] at k0
      have HCALL := Lib.hid (LsCoords rq rA rn rc)
      have OW := Lib.hid ow
      have MD := Lib.hid md
      have HBR := Lib.hid hbr
      have HRK := Lib.hid hr
      have HRS := Lib.hid hrs
      clear ow md hbr hr hck hcl hrs
      go_wp2_with fail
      refine (HCALL.out _).mono ?_
      rintro e w5 ⟨rfl, b5'⟩
      have b5 : Below wr.heap.size wr w5 := ((Below.refl wr.heap.size wr).alloc (Nat.le_refl _) _).trans (b5'.mono (by simp))
      have o5 : w5.ownsRow 0 78 2 (.slice (some ⟨W.heap.size + 1, 0, none⟩) n n) n cs.flatten := own_keep OW.out (fun b _ hb => b5.block b hb)
      have y0 := own_frozen o5 (g := W.heap.size + 1) rfl (k * 2)
      have y1 := own_frozen o5 (g := W.heap.size + 1) rfl (k * 2 + 1)
      have q0 := (b5.cell (p := ⟨W.heap.size + 1, k * 2, none⟩) (by show W.heap.size + 1 < _; omega)).trans k0
      have q1 := (b5.cell (p := ⟨W.heap.size + 1, k * 2 + 1, none⟩) (by show W.heap.size + 1 < _; omega)).trans k1
      have O5 := Lib.hid o5
      have B5 := Lib.hid b5
      clear o5 b5 b5' k0 k1 j0 j1
      go_wp2
      go_roundw
      case rel =>
        have hheap : ∀ b, b ≠ W.heap.size + 1 → ((w5.setCell ⟨W.heap.size + 1, k * 2, none⟩ (.int .u8 rq)).setCell ⟨W.heap.size + 1, k * 2 + 1, none⟩ (.slice rA rn rc)).heap[b]? = w5.heap[b]? := fun b hb => by
          rw [Below.heap_setCell _ _ _ b hb, Below.heap_setCell _ _ _ b hb]
        have hfl : cs.flatten.length = n * 2 := OW.out.1
        have hs5 := B5.out.size
        refine ⟨k + 1, cs.set k [.int .u8 rq, .slice rA rn rc], by omega, by go_num, ?_, FillG.next (FillG.keep LsG.keeps MD.out (fun b hb hl => (hheap b (by omega)).trans (B5.out.block b hl)) (fun b hb _ => hb)) HRK.out rfl (LsG.keeps _ _ _ _ _ _ HRS.out (fun b hb hl => (hheap b (by omega)).trans ((B5.out.block b (by have := HBR.out.size; omega)).trans (HBR.out.block b hl))) (fun b hb hl => .inl ⟨hb.1, hl⟩)), below_setCell' (below_setCell' (HBR.out.trans (B5.out.mono HBR.out.size)) (by show W.heap.size ≤ W.heap.size + 1; omega) _) (by show W.heap.size ≤ W.heap.size + 1; omega) _, by simp [World.setCell]; omega⟩
        rw [flat_set2 MD.out.2.1 hclen]
        exact own_store (own_store O5.out rfl (by rw [hfl]; omega) _) rfl (by rw [List.length_set, hfl]; omega) _
      case measure => simp [intOf]; omega
    · obtain rfl : n = k := by omega
      have hrow : KRow LsG 78 2 wr (fun b => ok b ∨ W.heap.size ≤ b) (.slice (some ⟨W.heap.size + 1, 0, none⟩) n n) ts :=
        FillG.row LsG.keeps md HRL.out ow (fun b hb => ⟨by rcases hb with h | h; exact .inl h.1; exact .inr (by omega), by omega⟩) (.inr (by omega))
      have ROW := Lib.hid hrow
      have HBR := Lib.hid hbr
      clear hrow hbr ow md
      go_wp2
      go_ret
      exact ⟨_, _, rfl, ROW.out, HBR.out⟩

theorem jbodyT_line (hi lo : Nat → Int) (q : Int) (ns : List Nat) : jbodyT hi lo (.mk 2 q ns []) = [91] ++ joinS 44 ((ptsN q ns (ns.length / wd q)).map (coordJ hi lo q)) (ns.length / wd q) ++ [93] := by
  rw [jbodyT_mk]
  have e : partsJ hi lo q ns [] = (ptsN q ns (ns.length / wd q)).map (coordJ hi lo q) := by unfold partsJ; simp
  rw [e]
  unfold listJ
  rw [joinJ_eq, List.length_map, ptsN_length]
theorem jplsT_getD (hi lo : Nat → Int) (q : Int) (ns : List Nat) (r k : Nat) (h : k < r) : ((ptsN q ns r).map (coordJ hi lo q)).getD k [] = coordJ hi lo q (ptN q ns k) := by
  rw [List.getD_eq_getElem?_getD, ptsN, List.map_map, List.getElem?_map, List.getElem?_range h]
  rfl

set_option maxHeartbeats 4000000 in
set_option maxRecDepth 100000 in
theorem seqJson_G {ok : Nat → Prop} {q : Int} {A : Option Addr} {n c : Nat} {t : Gm} (hi lo : Nat → Int) (w : World) (h : LsG w ok [.int .u8 q, .slice A n c] t) (ho' : OkT t) (v : Value) (bs : List Int) (ho : Own w v bs) (ht : FtTabs w hi lo)
    (hrow : ∀ k, k < 7 → v.ownBlock ≠ some k) (hokv : ∀ b, ok b → b < w.heap.size → v.ownBlock ≠ some b) (hl : bs.length ≤ 60000000000000) :
    Calls Tryz.prog 113 #[v, .agg #[.int .u8 q, .slice A n c]] w fun e w' =>
      ∃ v', e = .returned v' ∧ Bf w w' v.ownBlock v' (bs ++ jbodyT hi lo t) := by
  obtain ⟨i0, hi0, hz0, hz1, hz2⟩ := info_parts info_u8
  obtain ⟨q', ns, rfl, h⟩ := h
  have hnr : ns.length / wd q' ≤ 100000 := by cases ho' with | mk _ _ h _ _ => exact h
  obtain ⟨A', n', c', e, q0, q1, hln, hm, hb, hr⟩ := h
  simp only [List.cons.injEq, Value.slice.injEq, Value.int.injEq, and_true, true_and] at e
  obtain ⟨rfl, rfl, rfl, rfl⟩ := e
  simp only at q0 q1 hln hm hb hr
  have hn : n ≤ 1000000 := by
    have e2 := Nat.div_add_mod n (wd q)
    rw [hln] at hnr
    have hw := wd_cases q q0 q1
    rcases hw with ⟨_, h⟩ | ⟨_, h⟩ | ⟨_, h⟩ | ⟨_, h⟩ <;> rw [h] at hnr hm e2 <;> omega
  obtain ⟨g, hA⟩ : ∃ g, 0 < n → A = some ⟨g, 0, none⟩ ∧ ok g ∧ Blk w g 45 (flV ns).toArray := by
    by_cases h0 : 0 < n
    · obtain ⟨g, h1, h2, h3⟩ := hr h0
      exact ⟨g, fun _ => ⟨h1, h2, h3⟩⟩
    · exact ⟨0, fun h => absurd h h0⟩
  rw [jbodyT_line, hln]
  have hne : v.ownBlock ≠ some w.heap.size := fun e => by have := (ho.lt _ e).2; omega
  have hbox : Blk (w.alloc (.cells #[.int .u8 q, .slice A n c] 78)) w.heap.size 78 #[.int .u8 q, .slice A n c] := Blk.new w _ _
  have hlen := Length_any q q0 q1 A n c (by omega)
  have hle : n / wd q ≤ n := Nat.div_le_self _ _
  have hmul : ∀ k, k < n / wd q → (k + 1) * wd q ≤ n := fun k hk => Nat.le_trans (Nat.mul_le_mul_right _ hk) (Nat.div_mul_le_self _ _)
  have hwp := wd_pos q
  have hjl : ∀ k, k ≤ n / wd q → (joinS 44 ((ptsN q ns (n / wd q)).map (coordJ hi lo q)) k).length ≤ 7605000000 := fun k hk => by
    have h1 := joinS_len (s := 44) (coordsJ_len hi lo q ns hb (n / wd q)) k
    have h2 : (6000 + 1) * k ≤ (6000 + 1) * 1000000 := Nat.mul_le_mul_left _ (by omega)
    omega
  have hget := fun k hk => jplsT_getD hi lo q ns (n / wd q) k hk
  have hpt := fun k => ptN_lt' q ns k hb
  have h0 : Bf (w.alloc (.cells #[.int .u8 q, .slice A n c] 78)) (w.alloc (.cells #[.int .u8 q, .slice A n c] 78)) v.ownBlock v bs := Bf.start (ho.alloc _)
  have hg0 : w.grownBy (w.alloc (.cells #[.int .u8 q, .slice A n c] 78)) none := World.grownBy_alloc w _ none
  have ht := ht.grown hg0 (by simp)
  generalize n / wd q = r at *
  generalize (ptsN q ns r).map (coordJ hi lo q) = PL at *
  have HX := Lib.hid hbox
  have HA := Lib.hid hA
  have HT := Lib.hid ht
  have HLEN := Lib.hid hlen
  have HMUL := Lib.hid hmul
  have HJL := Lib.hid hjl
  have HGET := Lib.hid hget
  have HPT := Lib.hid hpt
  have HLN := Lib.hid hln
  have HG0 := Lib.hid hg0
  have HKV := Lib.hid hokv
  clear hbox ht hlen hmul hjl hget hpt hln hm hb hr hg0 ho hA hokv ho' hnr
  go_enter Tryz.func113, Tryz.ntmps113
  go_wp2_with (at_builtin; refine wpList_bf_append1g rfl _ _ _ rfl Tryz.underlying30 hi0 hz0 hz1 hz2 rfl rfl (by assumption) (by first | rfl | simp) (by omega) ?_; intro v1 W1 h1; have x3 := HX.out.bf h1 hne; have r0 := x3.cell 0; have r1 := x3.cell 1; simp at r0 r1; clear x3)
  refine (HLEN.out _).mono ?_
  rintro e w1 ⟨rfl, b1⟩
  have H1 := Lib.hid (h1.below b1)
  clear h1 b1
  go_wp2_with fail
  go_loopw [0, 6] (fun u i wr => ∃ k : Nat, k ≤ r ∧ i = .int .i64 k ∧ Bf (w.alloc (.cells #[.int .u8 q, .slice A n c] 78)) wr v.ownBlock u (bs ++ [91] ++ joinS 44 PL k)) (fun _ i _ => r - (intOf i).toNat)
  case atStart => exact ⟨0, Nat.zero_le _, rfl, by simpa [joinS] using H1.out⟩
  case round =>
    obtain ⟨k, hk, rfl, h1⟩ := hrel
    have hjk := HJL.out k hk
    have hlk : (bs ++ [91] ++ joinS 44 PL k).length ≤ 60000000000001 + 7605000000 := by simp only [len_app, List.length_cons, List.length_nil]; omega
    by_cases hlt : k < r
    · have hmk := HMUL.out k hlt
      have hn0 : 0 < n := by rw [Nat.succ_mul] at hmk; omega
      obtain ⟨rfl, hgok, hblk⟩ := HA.out hn0
      have hng : v.ownBlock ≠ some g := HKV.out g hgok hblk.lt
      have HG := Lib.hid (hblk.alloc (.cells #[.int .u8 q, .slice (some ⟨g, 0, none⟩) n c] 78))
      have hx := HX.out.bf h1 hne
      have c0 := hx.cell 0
      have c1 := hx.cell 1
      simp at c0 c1
      have hstep : joinS 44 PL (k + 1) = (if 0 < k then joinS 44 PL k ++ [44] else joinS 44 PL k) ++ PL.getD k [] := rfl
      rw [HGET.out k hlt] at hstep
      obtain ⟨p1, p2, p3, p4⟩ := HPT.out k
      have hGet := fun (W : World) (hb : Blk W g 45 (flV ns).toArray) => Get_any q q0 q1 g k n c ns W hb HLN.out hmk (by omega)
      generalize ptN q ns k = P at *
      obtain ⟨x, y, z, m⟩ := P
      simp only at p1 p2 p3 p4 hGet
      generalize hT : joinS 44 PL k = T at *
      have HST := Lib.hid hstep
      have HGT := Lib.hid hGet
      clear hstep hGet hx hT hblk hmk
      generalize hBT : bs ++ [91] ++ T = BT at *
      have HBT := Lib.hid hBT
      clear hBT
      by_cases hk0 : 0 < k
      · have hd : decide (0 < (k : Int)) = true := decide_eq_true (by omega)
        rw [if_pos hk0] at HST
        go_wp2_with (at_builtin; refine wpList_bf_append1g rfl _ _ _ rfl Tryz.underlying30 hi0 hz0 hz1 hz2 rfl rfl (by assumption) (by first | rfl | simp) (by omega) ?_; intro v1 W1 h1; have hx := HX.out.bf h1 hne; have c0 := hx.cell 0; have c1 := hx.cell 1; simp at c0 c1; clear hx)
        refine (HGT.out _ (HG.out.bf h1 hng)).mono ?_
        rintro e w5 ⟨rfl, b5⟩
        have h5 := h1.below b5
        have H5 := Lib.hid h5
        clear b5 h5 h1
        go_wp2_with fail
        refine (coordJ_any q q0 q1 x y z m hi lo _ _ (BT ++ [44]) (Bf.own_ H5.out) (HT.out.of_bf H5.out hrow) p1 p2 p3 (place_row H5.out hrow HT.out.siz) (by simp only [len_app, List.length_cons, List.length_nil]; omega)).mono ?_
        rintro e w6 ⟨v6, rfl, h6⟩
        have H6 := Lib.hid (H5.out.trans h6)
        clear h6
        go_wp2
        go_roundw
        case rel =>
          refine ⟨k + 1, by omega, by go_num, ?_⟩
          rw [HST.out]
          have h6 := H6.out
          rw [← HBT.out] at h6
          simpa using h6
        case measure => simp [intOf]; omega
      · obtain rfl : k = 0 := by omega
        have hd : decide (0 < ((0 : Nat) : Int)) = false := rfl
        rw [if_neg hk0] at HST
        go_wp2_with fail
        refine (HGT.out _ (HG.out.bf h1 hng)).mono ?_
        rintro e w5 ⟨rfl, b5⟩
        have h5 := h1.below b5
        have H5 := Lib.hid h5
        clear b5 h5 h1
        go_wp2_with fail
        refine (coordJ_any q q0 q1 x y z m hi lo _ _ BT (Bf.own_ H5.out) (HT.out.of_bf H5.out hrow) p1 p2 p3 (place_row H5.out hrow HT.out.siz) (by omega)).mono ?_
        rintro e w6 ⟨v6, rfl, h6⟩
        have H6 := Lib.hid (H5.out.trans h6)
        clear h6
        go_wp2
        go_roundw
        case rel =>
          refine ⟨1, by omega, by go_num, ?_⟩
          rw [HST.out]
          have h6 := H6.out
          rw [← HBT.out] at h6
          simpa using h6
        case measure => simp [intOf]; omega
    · obtain rfl : r = k := by omega
      generalize hBT : bs ++ [91] ++ joinS 44 PL r = BT at *
      have HBT := Lib.hid hBT
      clear hBT
      go_wp2_with (at_builtin; refine wpList_bf_append1g rfl _ _ _ rfl Tryz.underlying30 hi0 hz0 hz1 hz2 rfl rfl (by assumption) (by first | rfl | simp) (by omega) ?_; intro v1 W1 h1)
      go_ret
      refine ⟨_, rfl, ?_⟩
      rw [← HBT.out] at h1
      simpa using h1.pre_none HG0.out

end Go.Proofs.YtpbcfgehmalppaaGreatDoor
