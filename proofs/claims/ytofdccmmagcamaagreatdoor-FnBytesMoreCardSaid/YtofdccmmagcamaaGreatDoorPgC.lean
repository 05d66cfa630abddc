import Derived.Test.YtofdccmmagcamaaGreatDoorMhE
import Derived.Test.YtofdccmmagcamaaGreatDoorMhD
/- spec.New: what it makes of any plain data. -/
set_option maxHeartbeats 8000000
set_option linter.unusedSimpArgs false
set_option linter.unusedVariables false
namespace Go.Proofs.YtofdccmmagcamaaGreatDoor
open Go.RowKit Go.Proofs.YtofdccmmagcamaaGreatDoorW.PrintLast

/-- The kind that New takes a kind for. -/
def kindN (k : Int) : Int := if k < 0 ∨ 6 < k then 0 else k
/-- The kind of a kind's parts; -1 if they may be of any. -/
def kidOf (k : Int) : Int := if k = 4 then 1 else if k = 3 ∨ k = 5 then 2 else if k = 6 then 3 else -1
def Gm.k : Gm → Int
  | .mk k _ _ _ => k
def Gm.d : Gm → Int
  | .mk _ d _ _ => d
/-- The type that two types have in common. -/
def dand (a b : Int) : Int := bits .and .i64 a b
/-- How many numbers New keeps of a leaf's n. -/
def cutL (k q : Int) (n : Nat) : Nat := (if k = 1 then min (n / wd q) 1 else n / wd q) * wd q
def keepT (k : Int) (m : Gm) : Bool := decide (kidOf k < 0) || decide (kidOf k = m.k)
/-- What New makes of parts. -/
def partsT (k q : Int) (ms : List Gm) : Gm := if ms = [] then .mk k q [] [] else forceT (ms.foldl (fun a m => dand a m.d) 3) (.mk k q [] ms)
/-- What New makes. -/
def newT : Gm → Gm
  | .mk k d ns ks => if kindN k = 1 ∨ kindN k = 2 then .mk (kindN k) (d % 4) (ns.take (cutL (kindN k) (d % 4) ns.length)) [] else partsT (kindN k) (d % 4) ((ks.attach.map fun x => newT x.1).filter (keepT (kindN k)))
decreasing_by all_goals (have := List.sizeOf_lt_of_mem x.2; simp; omega)
theorem newT_mk (k d : Int) (ns : List Nat) (ks : List Gm) : newT (.mk k d ns ks) = if kindN k = 1 ∨ kindN k = 2 then .mk (kindN k) (d % 4) (ns.take (cutL (kindN k) (d % 4) ns.length)) [] else partsT (kindN k) (d % 4) ((ks.map newT).filter (keepT (kindN k))) := by
  rw [newT]
  congr 3
  simp

set_option maxRecDepth 100000 in
theorem KidOf_any (k : Int) (k0 : 0 ≤ k) (k1 : k ≤ 6) (w : World) : Calls Tryz.prog 16 #[.int .i64 k] w fun e w' => e = .returned (.int .i64 (kidOf k)) ∧ w' = w := by
  have h : k = 0 ∨ k = 1 ∨ k = 2 ∨ k = 3 ∨ k = 4 ∨ k = 5 ∨ k = 6 := by omega
  rcases h with rfl | rfl | rfl | rfl | rfl | rfl | rfl
  all_goals
    go_enter Tryz.func16, Tryz.ntmps16
    go_wp2
    go_ret
    exact ⟨rfl, rfl⟩

set_option maxRecDepth 100000 in
theorem Leaf_no (k : Int) (h1 : k ≠ 1) (h2 : k ≠ 2) (w : World) : Calls Tryz.prog 33 #[.int .i64 k] w fun e w' => e = .returned (.bool false) ∧ w' = w := by
  have b1 : (k == 1) = false := by rw [beq_eq_false_iff_ne]; exact h1
  have b2 : (k == 2) = false := by rw [beq_eq_false_iff_ne]; exact h2
  go_enter Tryz.func33, Tryz.ntmps33
  go_wp2
  go_ret
  exact ⟨rfl, rfl⟩

theorem dand_range {a b : Int} (a0 : 0 ≤ a) (a1 : a ≤ 3) (b0 : 0 ≤ b) (b1 : b ≤ 3) : 0 ≤ dand a b ∧ dand a b ≤ 3 := by
  have h : a = 0 ∨ a = 1 ∨ a = 2 ∨ a = 3 := by omega
  have h' : b = 0 ∨ b = 1 ∨ b = 2 ∨ b = 3 := by omega
  rcases h with rfl | rfl | rfl | rfl <;> rcases h' with rfl | rfl | rfl | rfl <;> decide

theorem GmOn.kd {w : World} {ok : Nat → Prop} {a b : Int} {u v : Value} {t : Gm} (h : GmOn w ok [.int .i64 a, .int .i64 b, u, v] t) : t.k = a ∧ t.d = b := by
  generalize hx : [Value.int .i64 a, .int .i64 b, u, v] = x at h
  cases h with
  | mk =>
    simp only [List.cons.injEq, Value.int.injEq, true_and] at hx
    exact ⟨hx.1.symm, hx.2.1.symm⟩

set_option maxRecDepth 100000 in
theorem New_kids {w0 : World} {B : Nat} {k d : Int} {_ns : List Nat} {ks : List Gm} {n m : Nat} {A K : Option Addr} {c c' : Nat} {us : Nat → Nat → Value} (em : ks.length = m) (hm : ks.length ≤ 100000)
    (hk : ∀ i, i < m → ∃ ad, K = some ad ∧ ad.block < B ∧ ∀ j, j < 4 → w0.cell? (ad.add (i * 4 + j)) = some (us i j))
    (hs : ∀ i t, ks[i]? = some t → GmAt w0 B (.agg #[us i 0, us i 1, us i 2, us i 3]) t)
    (ih : ∀ i t, ks[i]? = some t → ∀ W : World, Below B w0 W → B ≤ W.heap.size → Calls Tryz.prog 12 #[.agg #[us i 0, us i 1, us i 2, us i 3]] W fun e w' => ∃ cs' : List Value, e = .returned (.agg cs'.toArray) ∧ GmOn w' (fun b => W.heap.size ≤ b) cs' (newT t) ∧ Below W.heap.size W w')
    (hd : ∀ t ∈ ks, 0 ≤ (newT t).d ∧ (newT t).d ≤ 3 ∧ OkT (newT t)) (hk1 : kindN k ≠ 1) (hk2 : kindN k ≠ 2) (W : World) (hbl : Below B w0 W) (hB : B ≤ W.heap.size) :
    Calls Tryz.prog 12 #[.agg #[.int .i64 k, .int .i64 d, .slice A n c, .slice K m c']] W fun e w' => ∃ cs' : List Value, e = .returned (.agg cs'.toArray) ∧ GmOn w' (fun b => W.heap.size ≤ b) cs' (partsT (kindN k) (d % 4) ((ks.map newT).filter (keepT (kindN k)))) ∧ Below W.heap.size W w' := by
  have h3 := i64_and3 d
  have q0 : 0 ≤ d % 4 := by omega
  have q1 : d % 4 ≤ 3 := by omega
  generalize d % 4 = dq at *
  obtain ⟨kk, hkk⟩ : ∃ kk, kindN k = kk := ⟨_, rfl⟩
  rw [hkk] at hk1 hk2
  have k0 : 0 ≤ kk := by rw [← hkk]; unfold kindN; split <;> omega
  have k6 : kk ≤ 6 := by rw [← hkk]; unfold kindN; split <;> omega
  have HK := Hd hk
  have HS := Hd hs
  have HI := Hd ih
  have HD := Hd hd
  have HEM := Hd em
  have HBL := Hd hbl
  clear hk hs ih hd em hbl
  rw [hkk]
  have hcs : (0 ≤ k ∧ k ≤ 6) ∨ k < 0 ∨ (0 ≤ k ∧ 6 < k) := by omega
  rcases hcs with ⟨p0, p6⟩ | p0 | ⟨p0, p6⟩
  focus
    have e1 : decide (k < 0) = false := decide_eq_false (by omega)
    have e2 : decide (6 < k) = false := decide_eq_false (by omega)
    obtain rfl : kk = k := by rw [← hkk]; unfold kindN; rw [if_neg (by omega)]
    go_enter Tryz.func12, Tryz.ntmps12
    go_wp2_with fail
    refine (Leaf_no kk (by omega) (by omega) _).mono ?_
    rintro e w1 ⟨rfl, rfl⟩
    go_wp2_with fail
    have b0 := ((Blk.new W 25 #[.int .i64 kk, .int .i64 d, .slice A n c, .slice K m c']).alloc (.cells #[.int .i64 0, .int .i64 0, .slice none 0 0, .slice none 0 0] 25)).alloc (.cells #[.int .i64 kk, .int .i64 dq, .slice none 0 0, .slice none 0 0] 25)
    have b1 := (Blk.new (W.alloc (.cells #[.int .i64 kk, .int .i64 d, .slice A n c, .slice K m c'] 25)) 25 #[.int .i64 0, .int .i64 0, .slice none 0 0, .slice none 0 0]).alloc (.cells #[.int .i64 kk, .int .i64 dq, .slice none 0 0, .slice none 0 0] 25)
    have b2 := Blk.new ((W.alloc (.cells #[.int .i64 kk, .int .i64 d, .slice A n c, .slice K m c'] 25)).alloc (.cells #[.int .i64 0, .int .i64 0, .slice none 0 0, .slice none 0 0] 25)) 25 #[.int .i64 kk, .int .i64 dq, .slice none 0 0, .slice none 0 0]
    have hbw : Below W.heap.size W (((W.alloc (.cells #[.int .i64 kk, .int .i64 d, .slice A n c, .slice K m c'] 25)).alloc (.cells #[.int .i64 0, .int .i64 0, .slice none 0 0, .slice none 0 0] 25)).alloc (.cells #[.int .i64 kk, .int .i64 dq, .slice none 0 0, .slice none 0 0] 25)) := (((Below.refl W.heap.size W).alloc (Nat.le_refl _) _).alloc (by simp) _).alloc (by simp; omega) _
    have hsz : W.heap.size + 3 ≤ (((W.alloc (.cells #[.int .i64 kk, .int .i64 d, .slice A n c, .slice K m c'] 25)).alloc (.cells #[.int .i64 0, .int .i64 0, .slice none 0 0, .slice none 0 0] 25)).alloc (.cells #[.int .i64 kk, .int .i64 dq, .slice none 0 0, .slice none 0 0] 25)).heap.size := by simp
    rw [World.size_alloc, World.size_alloc] at b2
    rw [World.size_alloc] at b1
    generalize ((W.alloc (.cells #[.int .i64 kk, .int .i64 d, .slice A n c, .slice K m c'] 25)).alloc (.cells #[.int .i64 0, .int .i64 0, .slice none 0 0, .slice none 0 0] 25)).alloc (.cells #[.int .i64 kk, .int .i64 dq, .slice none 0 0, .slice none 0 0] 25) = w3 at *
    have B1 := Hd b1
    have B2 := Hd b2
    have HB3 := Hd hbw
    clear b0 b1 b2 hbw
    clear e1 e2
  rotate_left
  focus
    have e1 : decide (k < 0) = true := decide_eq_true p0
    have e2 : True := trivial
    have hz : kk = 0 := by rw [← hkk]; unfold kindN; rw [if_pos (by omega)]
    go_enter Tryz.func12, Tryz.ntmps12
    go_wp2_with fail
    refine (Leaf_no 0 (by omega) (by omega) _).mono ?_
    rintro e w1 ⟨rfl, rfl⟩
    go_wp2_with fail
    have b0 := ((Blk.new W 25 #[.int .i64 k, .int .i64 d, .slice A n c, .slice K m c']).alloc (.cells #[.int .i64 0, .int .i64 0, .slice none 0 0, .slice none 0 0] 25)).alloc (.cells #[.int .i64 0, .int .i64 dq, .slice none 0 0, .slice none 0 0] 25)
    have b1 := (Blk.new (W.alloc (.cells #[.int .i64 k, .int .i64 d, .slice A n c, .slice K m c'] 25)) 25 #[.int .i64 0, .int .i64 0, .slice none 0 0, .slice none 0 0]).alloc (.cells #[.int .i64 0, .int .i64 dq, .slice none 0 0, .slice none 0 0] 25)
    have b2 := Blk.new ((W.alloc (.cells #[.int .i64 k, .int .i64 d, .slice A n c, .slice K m c'] 25)).alloc (.cells #[.int .i64 0, .int .i64 0, .slice none 0 0, .slice none 0 0] 25)) 25 #[.int .i64 0, .int .i64 dq, .slice none 0 0, .slice none 0 0]
    have hbw : Below W.heap.size W (((W.alloc (.cells #[.int .i64 k, .int .i64 d, .slice A n c, .slice K m c'] 25)).alloc (.cells #[.int .i64 0, .int .i64 0, .slice none 0 0, .slice none 0 0] 25)).alloc (.cells #[.int .i64 0, .int .i64 dq, .slice none 0 0, .slice none 0 0] 25)) := (((Below.refl W.heap.size W).alloc (Nat.le_refl _) _).alloc (by simp) _).alloc (by simp; omega) _
    have hsz : W.heap.size + 3 ≤ (((W.alloc (.cells #[.int .i64 k, .int .i64 d, .slice A n c, .slice K m c'] 25)).alloc (.cells #[.int .i64 0, .int .i64 0, .slice none 0 0, .slice none 0 0] 25)).alloc (.cells #[.int .i64 0, .int .i64 dq, .slice none 0 0, .slice none 0 0] 25)).heap.size := by simp
    rw [World.size_alloc, World.size_alloc] at b2
    rw [World.size_alloc] at b1
    generalize ((W.alloc (.cells #[.int .i64 k, .int .i64 d, .slice A n c, .slice K m c'] 25)).alloc (.cells #[.int .i64 0, .int .i64 0, .slice none 0 0, .slice none 0 0] 25)).alloc (.cells #[.int .i64 0, .int .i64 dq, .slice none 0 0, .slice none 0 0] 25) = w3 at *
    rw [← hz] at b2
    clear hz
    have B1 := Hd b1
    have B2 := Hd b2
    have HB3 := Hd hbw
    clear b0 b1 b2 hbw
    clear e1 e2
  rotate_left
  focus
    have e1 : decide (k < 0) = false := decide_eq_false (by omega)
    have e2 : decide (6 < k) = true := decide_eq_true p6
    have hz : kk = 0 := by rw [← hkk]; unfold kindN; rw [if_pos (by omega)]
    go_enter Tryz.func12, Tryz.ntmps12
    go_wp2_with fail
    refine (Leaf_no 0 (by omega) (by omega) _).mono ?_
    rintro e w1 ⟨rfl, rfl⟩
    go_wp2_with fail
    have b0 := ((Blk.new W 25 #[.int .i64 k, .int .i64 d, .slice A n c, .slice K m c']).alloc (.cells #[.int .i64 0, .int .i64 0, .slice none 0 0, .slice none 0 0] 25)).alloc (.cells #[.int .i64 0, .int .i64 dq, .slice none 0 0, .slice none 0 0] 25)
    have b1 := (Blk.new (W.alloc (.cells #[.int .i64 k, .int .i64 d, .slice A n c, .slice K m c'] 25)) 25 #[.int .i64 0, .int .i64 0, .slice none 0 0, .slice none 0 0]).alloc (.cells #[.int .i64 0, .int .i64 dq, .slice none 0 0, .slice none 0 0] 25)
    have b2 := Blk.new ((W.alloc (.cells #[.int .i64 k, .int .i64 d, .slice A n c, .slice K m c'] 25)).alloc (.cells #[.int .i64 0, .int .i64 0, .slice none 0 0, .slice none 0 0] 25)) 25 #[.int .i64 0, .int .i64 dq, .slice none 0 0, .slice none 0 0]
    have hbw : Below W.heap.size W (((W.alloc (.cells #[.int .i64 k, .int .i64 d, .slice A n c, .slice K m c'] 25)).alloc (.cells #[.int .i64 0, .int .i64 0, .slice none 0 0, .slice none 0 0] 25)).alloc (.cells #[.int .i64 0, .int .i64 dq, .slice none 0 0, .slice none 0 0] 25)) := (((Below.refl W.heap.size W).alloc (Nat.le_refl _) _).alloc (by simp) _).alloc (by simp; omega) _
    have hsz : W.heap.size + 3 ≤ (((W.alloc (.cells #[.int .i64 k, .int .i64 d, .slice A n c, .slice K m c'] 25)).alloc (.cells #[.int .i64 0, .int .i64 0, .slice none 0 0, .slice none 0 0] 25)).alloc (.cells #[.int .i64 0, .int .i64 dq, .slice none 0 0, .slice none 0 0] 25)).heap.size := by simp
    rw [World.size_alloc, World.size_alloc] at b2
    rw [World.size_alloc] at b1
    generalize ((W.alloc (.cells #[.int .i64 k, .int .i64 d, .slice A n c, .slice K m c'] 25)).alloc (.cells #[.int .i64 0, .int .i64 0, .slice none 0 0, .slice none 0 0] 25)).alloc (.cells #[.int .i64 0, .int .i64 dq, .slice none 0 0, .slice none 0 0] 25) = w3 at *
    rw [← hz] at b2
    clear hz
    have B1 := Hd b1
    have B2 := Hd b2
    have HB3 := Hd hbw
    clear b0 b1 b2 hbw
    clear e1 e2
  rotate_left
  all_goals
    go_loopw [5, 55] (fun u i wr => ∃ (q : Nat) (KV : Value) (dd : Int), q ≤ m ∧ u = .int .i64 dd ∧ i = .int .i64 q ∧ dd = (((ks.take q).map newT).filter (keepT kk)).foldl (fun a m => dand a m.d) 3 ∧ 0 ≤ dd ∧ dd ≤ 3 ∧ Blk wr (W.heap.size + 1) 25 #[.int .i64 0, .int .i64 0, .slice none 0 0, .slice none 0 0] ∧ Blk wr (W.heap.size + 1 + 1) 25 #[.int .i64 kk, .int .i64 dq, .slice none 0 0, KV] ∧
      KRow GmOn 25 4 wr (fun b => W.heap.size + 3 ≤ b) KV (((ks.take q).map newT).filter (keepT kk)) ∧ Below W.heap.size W wr ∧ W.heap.size + 3 ≤ wr.heap.size) (fun _ i _ => m - (intOf i).toNat)
    case atStart => exact ⟨0, .slice none 0 0, 3, Nat.zero_le _, rfl, rfl, rfl, by omega, by omega, B1.out, B2.out, KRow.nil _ _, HB3.out, hsz⟩
    case round =>
      obtain ⟨q, KV, dd, hq, rfl, rfl, hdd, hd0, hd1, x1, x2, kr, hbr, hsr⟩ := hrel
      by_cases hlt : q < m
      · have hkq : ks[q]? = some (ks[q]'(by rw [HEM.out]; exact hlt)) := List.getElem?_eq_getElem _
        have hkm : (ks[q]'(by rw [HEM.out]; exact hlt)) ∈ ks := List.getElem_mem _
        generalize (ks[q]'(by rw [HEM.out]; exact hlt)) = t at hkq hkm
        obtain ⟨ad, rfl, hab, hcell⟩ := HK.out q hlt
        have hWr : Below B W wr := hbr.mono hB
        have hcc : ∀ j, j < 4 → wr.cell? (ad.add (q * 4 + j)) = some (us q j) := fun j hj => (hWr.cell (by rw [block_of_add]; exact hab)).trans ((HBL.out.cell (by rw [block_of_add]; exact hab)).trans (hcell j hj))
        obtain ⟨d0, d1, d2, d3⟩ := cells4 hcc
        have hcall := HI.out q t hkq
        obtain ⟨xk, xd, xA, xK, xn, xm, xc, xc', g0, g1, g2, g3⟩ := (HS.out q t hkq).shape
        rw [g0, g1, g2, g3] at hcall
        rw [g0] at d0
        rw [g1] at d1
        rw [g2] at d2
        rw [g3] at d3
        obtain ⟨hdm0, hdm1, hokm⟩ := HD.out t hkm
        have HC := Hd hcall
        have HKQ := Hd hkq
        have X1 := Hd x1
        have X2 := Hd x2
        have KR := Hd kr
        have HBR := Hd hbr
        have HDD := Hd hdd
        have HBA : Hid (Below B w0 (wr.alloc (.cells #[.int .i64 xk, .int .i64 xd, .slice xA xn xc, .slice xK xm xc'] 25))) := Hd ((HBL.out.trans hWr).alloc (by omega) _)
        clear hcall hkq hkm x1 x2 kr hbr hdd hcc hcell hWr g0 g1 g2 g3
        go_wp2_with fail
        refine (HC.out _ HBA.out (by simp; omega)).mono ?_
        rintro e w4 ⟨y, rfl, g4, b4⟩
        obtain ⟨yk, yd, yA, yK, yn, ym, yc, yc', rfl⟩ := g4.shape
        have HB4 : Hid (Below wr.heap.size wr w4) := Hd (((Below.refl wr.heap.size wr).alloc (Nat.le_refl _) _).trans (b4.mono (by simp)))
        have hws : wr.heap.size + 1 ≤ w4.heap.size := by have := b4.size; simpa using this
        obtain ⟨hyk, hyd⟩ := g4.kd
        generalize htm : newT t = tm at *
        have HTM := Hd htm
        have HYK := Hd hyk
        have HYD := Hd hyd
        have HHK := Hd hokm
        rw [hyd] at hdm0 hdm1
        have G4 := Hd (GmOn.keeps _ w4 _ (fun b => wr.heap.size ≤ b) _ _ g4 (fun _ _ _ => rfl) (fun b hb _ => by simp at hb; omega))
        have M4 := Blk.new w4 25 #[.int .i64 yk, .int .i64 yd, .slice yA yn yc, .slice yK ym yc']
        have X4 := (X2.out.below HB4.out X2.out.lt).alloc (.cells #[.int .i64 yk, .int .i64 yd, .slice yA yn yc, .slice yK ym yc'] 25)
        have r0 := X4.cell 0
        have r3 := X4.cell 3
        have z3 := X4.frozen 3
        have m0 := M4.cell 0
        have m1 := M4.cell 1
        have m2 := M4.cell 2
        have m3 := M4.cell 3
        simp at r0 r3 m0 m1 m2 m3
        obtain ⟨css2, r1, r2, r3', r4, r5⟩ := KR.out
        obtain ⟨i0, hi0, hz0, hz1, hz2⟩ := info_parts info_geom
        have hlq : (((ks.take q).map newT).filter (keepT kk)).length ≤ q := Nat.le_trans (List.length_filter_le _ _) (by rw [List.length_map, List.length_take]; omega)
        have hem := HEM.out
        have hkt : keepT kk tm = (decide (kidOf kk < 0) || decide (kidOf kk = yk)) := by unfold keepT; rw [HYK.out]
        have hkq2 : ((ks.take (q + 1)).map newT).filter (keepT kk) = ((ks.take q).map newT).filter (keepT kk) ++ (if keepT kk tm = true then [tm] else []) := by
          rw [List.take_add_one, HKQ.out, Option.toList_some, List.map_append, List.filter_append, List.map_singleton, HTM.out]
          simp only [List.filter_cons, List.filter_nil]
        generalize (((ks.take q).map newT).filter (keepT kk)) = msq at *
        have HKT := Hd hkt
        have HK2 := Hd hkq2
        have M4' := Hd M4
        have R1 := Hd r1
        have R2 := Hd r2
        have R3 := Hd r3'
        have R4 := Hd r4
        have R5 := Hd r5
        have HLW := Hd (fun b hb => (R1.out.lt b hb).2)
        have HOK : Hid (∀ b, wr.heap.size ≤ b → W.heap.size + 3 ≤ b) := Hd fun b hb => by omega
        have KVN : Hid (some (W.heap.size + 1 + 1) ≠ KV.ownBlock) := Hd fun e => by have := R2.out _ e.symm; omega
        have HOW : Hid ((w4.alloc (.cells #[.int .i64 yk, .int .i64 yd, .slice yA yn yc, .slice yK ym yc'] 25)).ownsRow 0 25 4 KV msq.length css2.flatten) := Hd (own_keep R1.out (fun b _ hb => (Below.heap_alloc w4 _ b (by omega)).trans (HB4.out.block b hb)))
        have HB5 : Hid (Below wr.heap.size wr (w4.alloc (.cells #[.int .i64 yk, .int .i64 yd, .slice yA yn yc, .slice yK ym yc'] 25))) := Hd (HB4.out.alloc (by omega) _)
        have G5 : Hid (GmOn (w4.alloc (.cells #[.int .i64 yk, .int .i64 yd, .slice yA yn yc, .slice yK ym yc'] 25)) (fun b => wr.heap.size ≤ b) [.int .i64 yk, .int .i64 yd, .slice yA yn yc, .slice yK ym yc'] tm) := Hd (GmOn.keeps _ _ _ _ _ _ G4.out (fun b _ hl => Below.heap_alloc w4 _ b hl) (fun b hb _ => hb))
        clear d0 d1 d2 d3 hyk hyd hokm g4 b4 M4 X4 hkt hkq2 r1 r2 r3' r4 r5 htm
        have XR : Hid (Blk (World.drew (w4.alloc (.cells #[.int .i64 yk, .int .i64 yd, .slice yA yn yc, .slice yK ym yc'] 25))) (W.heap.size + 1 + 1) 25 #[.int .i64 kk, .int .i64 dq, .slice none 0 0, KV]) := Hd (X2.out.below (Below.drew HB5.out) X2.out.lt)
        have MR : Hid (Blk (World.drew (w4.alloc (.cells #[.int .i64 yk, .int .i64 yd, .slice yA yn yc, .slice yK ym yc'] 25))) w4.heap.size 25 #[.int .i64 yk, .int .i64 yd, .slice yA yn yc, .slice yK ym yc']) := Hd M4'.out.drew
        by_cases p1 : kidOf kk < 0
        · have e1 : decide (kidOf kk < 0) = true := decide_eq_true p1
          have hkeep : keepT kk tm = true := by rw [HKT.out, e1]; rfl
          go_wp2_with fail
          go_quiet ((go_at_call 16; exact Calls.quiet_of_same (KidOf_any kk k0 k6 _)))
          go_wp2_with (at_builtin; refine wpList_append_any _ rfl _ _ _ rfl 0 25 i0 (.agg #[.int .i64 0, .int .i64 0, .slice none 0 0, .slice none 0 0]) 4 64 Tryz.underlying23 hi0 hz0 hz1 hz2 rfl (by decide) _ msq.length css2.flatten rfl (by exact World.ownsRow.alloc (own_keep HOW.out (fun _ _ _ => rfl)) _) _ _ 1 _ [.int .i64 yk, .int .i64 yd, .slice yA yn yc, .slice yK ym yc'] rfl (by exact reads_new4 (by simp)) (by simp [Value.oneCell']) (by simp only [maxLen]; omega) (by omega) (Nat.zero_le _) ?_; intro v1 W1 ho hg hp; obtain ⟨kr1, hg1⟩ := KRow.pushed GmOn.keeps R2.out R1.out R3.out R4.out R5.out (below_drewN HB5.out _) (GmOn.keeps _ _ _ _ _ _ G5.out (fun _ _ _ => rfl) (fun b hb _ => hb)) rfl HOK.out ho hg hp; have hm1 := (((M4'.out.drewN _).alloc _).grown hg (fun e => by have := HLW.out _ e.symm; omega)).cell 1; simp at hm1; obtain ⟨Av, cv, rfl, -⟩ := own_shp ho; have KR1 := Hd kr1; have HG1 := Hd hg1; have z4 := (X2.out.grown HG1.out KVN.out).frozen 3; have r4 : W1.cell? ⟨W.heap.size + 1 + 1, 3, none⟩ = some KV := ((X2.out.grown HG1.out KVN.out).cell 3).trans rfl; clear ho hg hp kr1 hg1)
          go_roundw
          case rel =>
            have hkr := R2.out
            have e1' := (Blk.grown X1.out HG1.out (fun e => by have := hkr _ e.symm; omega)).far (p := ⟨W.heap.size + 1 + 1, 3, none⟩) (by show W.heap.size + 1 ≠ W.heap.size + 1 + 1; omega) (.slice Av (msq.length + 1) cv)
            have e2' := (Blk.grown X2.out HG1.out KVN.out).set_ 3 (.slice Av (msq.length + 1) cv)
            obtain ⟨h0, h1⟩ := dand_range hd0 hd1 hdm0 hdm1
            refine ⟨q + 1, .slice Av (msq.length + 1) cv, dand dd yd, by omega, rfl, by go_num, ?_, h0, h1, e1', e2', ?_, ?_, ?_⟩
            · rw [HK2.out, if_pos hkeep, List.foldl_append, ← HDD.out]
              simp only [List.foldl_cons, List.foldl_nil, HYD.out]
            · rw [HK2.out, if_pos hkeep]
              exact KRow.keep GmOn.keeps KR1.out (fun b hb _ => Below.heap_setCell W1 _ _ b (by show b ≠ W.heap.size + 1 + 1; omega)) (fun b hb _ => hb)
            · exact below_setCell' (below_grownBy HBR.out HBR.out.size HG1.out (fun b hb => by have := hkr b hb; omega)) (by show W.heap.size ≤ W.heap.size + 1 + 1; omega) _
            · have := HG1.out.size
              show _ ≤ (W1.setCell _ _).heap.size
              simp [World.setCell]
              omega
          case measure => simp [intOf]; omega
        · have e1 : decide (kidOf kk < 0) = false := decide_eq_false p1
          by_cases p2 : kidOf kk = yk
          · have e2 : (kidOf kk == yk) = true := by rw [beq_iff_eq]; exact p2
            have hkeep : keepT kk tm = true := by rw [HKT.out, e1, decide_eq_true p2]; rfl
            clear p2 p1
            go_wp2_with fail
            refine start_ (n := 12) (S := fun w' => w'.cell? ⟨W.heap.size + 1 + 1, 0, none⟩ = some (.int .i64 kk) ∧ w'.cell? ⟨w4.heap.size, 0, none⟩ = some (.int .i64 yk)) (ds := []) #[false, false, false, false, false, false, false, false, false, false, false, false] (by kernel_rfl) rfl rfl ⟨(XR.out.cell 0).trans rfl, (MR.out.cell 0).trans rfl⟩ (fun hHeld => ?_)
            refine pure_ (i := 0) (N := some 61) (v := ?_) (a' := ?_) #[true, false, false, false, false, false, false, false, false, false, false, false] rfl rfl (by kernel_rfl) (fun _ _ _ h => h) (Or.inl ⟨by rfl, ?_⟩) ?_ ?_
            rotate_left; (· intro w'; go_simp; with_reducible rfl); rotate_left; (· simp only [Act.put, sA, sB, sC]; rfl)
            refine take_ (i := 1) (N := some 62) (v := ?_) (a' := ?_) #[true, true, false, false, false, false, false, false, false, false, false, false] rfl rfl (by kernel_rfl) (fun _ _ _ h => h) (Or.inl ⟨by rfl, ?_⟩) hHeld ?_ ?_
            rotate_left; (· rintro w' ⟨s0, s1⟩; go_simp; with_reducible rfl); rotate_left; (· simp only [Act.put, sA, sB, sC]; rfl)
            refine one_ (i := 2) (N := some 63) #[true, true, true, false, false, false, false, false, false, false, false, false] rfl rfl (by kernel_rfl) (by decide) (fun K hK => ?_)
            refine goes_ Tryz.func16 (by kernel_rfl) rfl #[.int .i64 kk] (by rfl) rfl rfl (by simp only [List.map_toArray, List.map_cons, List.map_nil]; rfl) ?_
            with_reducible refine (KidOf_any kk k0 k6 _).mono ?_
            rintro e w5 ⟨rfl, rfl⟩
            refine ⟨_, rfl, ?_⟩
            refine hK.out _ _ ⟨(XR.out.cell 0).trans rfl, (MR.out.cell 0).trans rfl⟩ (fun hHeld => ?_)
            clear hK K
            refine norm_ (a' := ?_) ?_ ?_
            rotate_left
            · show Act.put _ (some 63) _ = _
              simp only [Act.put, sA, sB, sC]
              rfl
            refine pure_ (i := 3) (N := some 64) (v := ?_) (a' := ?_) #[true, true, true, true, false, false, false, false, false, false, false, false] rfl rfl (by kernel_rfl) (fun _ _ _ h => h) (Or.inl ⟨by rfl, ?_⟩) ?_ ?_
            rotate_left; (· intro w'; go_simp; with_reducible rfl); rotate_left; (· simp only [Act.put, sA, sB, sC]; rfl)
            refine pure_ (i := 4) (N := some 65) (v := ?_) (a' := ?_) #[true, true, true, true, true, false, false, false, false, false, false, false] rfl rfl (by kernel_rfl) (fun _ _ _ h => h) (Or.inl ⟨by rfl, ?_⟩) ?_ ?_
            rotate_left; (· intro w'; go_simp; with_reducible rfl); rotate_left; (· simp only [Act.put, sA, sB, sC]; rfl)
            refine pure_ (i := 5) (N := some 66) (v := ?_) (a' := ?_) #[true, true, true, true, true, true, false, false, false, false, false, false] rfl rfl (by kernel_rfl) (fun _ _ _ h => h) (Or.inl ⟨by rfl, ?_⟩) ?_ ?_
            rotate_left; (· intro w'; go_simp; with_reducible rfl); rotate_left; (· simp only [Act.put, sA, sB, sC]; rfl)
            refine pure_ (i := 8) (N := some 69) (v := ?_) (a' := ?_) #[true, true, true, true, true, true, false, false, true, false, false, false] rfl rfl (by kernel_rfl) (fun _ _ _ h => h) (Or.inl ⟨by rfl, ?_⟩) ?_ ?_
            rotate_left; (· intro w'; go_simp; with_reducible rfl); rotate_left; (· simp only [Act.put, sA, sB, sC]; rfl)
            refine take_ (i := 6) (N := some 67) (v := ?_) (a' := ?_) #[true, true, true, true, true, true, true, false, true, false, false, false] rfl rfl (by kernel_rfl) (fun _ _ _ h => h) (Or.inl ⟨by rfl, ?_⟩) hHeld ?_ ?_
            rotate_left; (· rintro w' ⟨s0, s1⟩; go_simp; with_reducible rfl); rotate_left; (· simp only [Act.put, sA, sB, sC]; rfl)
            refine take_ (i := 9) (N := some 70) (v := ?_) (a' := ?_) #[true, true, true, true, true, true, true, false, true, true, false, false] rfl rfl (by kernel_rfl) (fun _ _ _ h => h) (Or.inl ⟨by rfl, ?_⟩) hHeld ?_ ?_
            rotate_left; (· rintro w' ⟨s0, s1⟩; go_simp; with_reducible rfl); rotate_left; (· simp only [Act.put, sA, sB, sC]; rfl)
            refine one_ (i := 7) (N := some 68) #[true, true, true, true, true, true, true, true, true, true, false, false] rfl rfl (by kernel_rfl) (by decide) (fun K hK => ?_)
            refine goes_ Tryz.func16 (by kernel_rfl) rfl #[.int .i64 kk] (by rfl) rfl rfl (by simp only [List.map_toArray, List.map_cons, List.map_nil]; rfl) ?_
            with_reducible refine (KidOf_any kk k0 k6 _).mono ?_
            rintro e w5 ⟨rfl, rfl⟩
            refine ⟨_, rfl, ?_⟩
            refine hK.out _ _ ⟨(XR.out.cell 0).trans rfl, (MR.out.cell 0).trans rfl⟩ (fun hHeld => ?_)
            clear hK K
            refine norm_ (a' := ?_) ?_ ?_
            rotate_left
            · show Act.put _ (some 68) _ = _
              simp only [Act.put, sA, sB, sC]
              rfl
            refine pure_ (i := 10) (N := some 71) (v := ?_) (a' := ?_) #[true, true, true, true, true, true, true, true, true, true, true, false] rfl rfl (by kernel_rfl) (fun _ _ _ h => h) (Or.inl ⟨by rfl, ?_⟩) ?_ ?_
            rotate_left; (· intro w'; go_simp; with_reducible rfl); rotate_left; (· simp only [Act.put, sA, sB, sC]; rfl)
            refine pure_ (i := 11) (N := some 72) (v := ?_) (a' := ?_) #[true, true, true, true, true, true, true, true, true, true, true, true] rfl rfl (by kernel_rfl) (fun _ _ _ h => h) (Or.inl ⟨by rfl, ?_⟩) ?_ ?_
            rotate_left; (· intro w'; go_simp; with_reducible rfl); rotate_left; (· simp only [Act.put, sA, sB, sC]; rfl)
            refine done_ (by kernel_rfl) ?_
            go_wp2_with (at_builtin; refine wpList_append_any _ rfl _ _ _ rfl 0 25 i0 (.agg #[.int .i64 0, .int .i64 0, .slice none 0 0, .slice none 0 0]) 4 64 Tryz.underlying23 hi0 hz0 hz1 hz2 rfl (by decide) _ msq.length css2.flatten rfl (by exact World.ownsRow.alloc (own_keep HOW.out (fun _ _ _ => rfl)) _) _ _ 1 _ [.int .i64 yk, .int .i64 yd, .slice yA yn yc, .slice yK ym yc'] rfl (by exact reads_new4 (by simp)) (by simp [Value.oneCell']) (by simp only [maxLen]; omega) (by omega) (Nat.zero_le _) ?_; intro v1 W1 ho hg hp; obtain ⟨kr1, hg1⟩ := KRow.pushed GmOn.keeps R2.out R1.out R3.out R4.out R5.out (Below.drew HB5.out) (GmOn.keeps _ _ _ _ _ _ G5.out (fun _ _ _ => rfl) (fun b hb _ => hb)) rfl HOK.out ho hg hp; have hm1 := (((M4'.out.drew).alloc _).grown hg (fun e => by have := HLW.out _ e.symm; omega)).cell 1; simp at hm1; obtain ⟨Av, cv, rfl, -⟩ := own_shp ho; have KR1 := Hd kr1; have HG1 := Hd hg1; have z4 := (X2.out.grown HG1.out KVN.out).frozen 3; have r4 : W1.cell? ⟨W.heap.size + 1 + 1, 3, none⟩ = some KV := ((X2.out.grown HG1.out KVN.out).cell 3).trans rfl; clear ho hg hp kr1 hg1)
            go_roundw
            case rel =>
              have hkr := R2.out
              have e1' := (Blk.grown X1.out HG1.out (fun e => by have := hkr _ e.symm; omega)).far (p := ⟨W.heap.size + 1 + 1, 3, none⟩) (by show W.heap.size + 1 ≠ W.heap.size + 1 + 1; omega) (.slice Av (msq.length + 1) cv)
              have e2' := (Blk.grown X2.out HG1.out KVN.out).set_ 3 (.slice Av (msq.length + 1) cv)
              obtain ⟨h0, h1⟩ := dand_range hd0 hd1 hdm0 hdm1
              refine ⟨q + 1, .slice Av (msq.length + 1) cv, dand dd yd, by omega, rfl, by go_num, ?_, h0, h1, e1', e2', ?_, ?_, ?_⟩
              · rw [HK2.out, if_pos hkeep, List.foldl_append, ← HDD.out]
                simp only [List.foldl_cons, List.foldl_nil, HYD.out]
              · rw [HK2.out, if_pos hkeep]
                exact KRow.keep GmOn.keeps KR1.out (fun b hb _ => Below.heap_setCell W1 _ _ b (by show b ≠ W.heap.size + 1 + 1; omega)) (fun b hb _ => hb)
              · exact below_setCell' (below_grownBy HBR.out HBR.out.size HG1.out (fun b hb => by have := hkr b hb; omega)) (by show W.heap.size ≤ W.heap.size + 1 + 1; omega) _
              · have := HG1.out.size
                show _ ≤ (W1.setCell _ _).heap.size
                simp [World.setCell]
                omega
            case measure => simp [intOf]; omega
          · have e2 : (kidOf kk == yk) = false := by rw [beq_eq_false_iff_ne]; exact p2
            have hkeep : ¬ keepT kk tm = true := by rw [HKT.out, e1, decide_eq_false p2]; simp
            clear p2 p1
            go_wp2_with fail
            refine start_ (n := 12) (S := fun w' => w'.cell? ⟨W.heap.size + 1 + 1, 0, none⟩ = some (.int .i64 kk) ∧ w'.cell? ⟨w4.heap.size, 0, none⟩ = some (.int .i64 yk)) (ds := []) #[false, false, false, false, false, false, false, false, false, false, false, false] (by kernel_rfl) rfl rfl ⟨(XR.out.cell 0).trans rfl, (MR.out.cell 0).trans rfl⟩ (fun hHeld => ?_)
            refine pure_ (i := 0) (N := some 61) (v := ?_) (a' := ?_) #[true, false, false, false, false, false, false, false, false, false, false, false] rfl rfl (by kernel_rfl) (fun _ _ _ h => h) (Or.inl ⟨by rfl, ?_⟩) ?_ ?_
            rotate_left; (· intro w'; go_simp; with_reducible rfl); rotate_left; (· simp only [Act.put, sA, sB, sC]; rfl)
            refine take_ (i := 1) (N := some 62) (v := ?_) (a' := ?_) #[true, true, false, false, false, false, false, false, false, false, false, false] rfl rfl (by kernel_rfl) (fun _ _ _ h => h) (Or.inl ⟨by rfl, ?_⟩) hHeld ?_ ?_
            rotate_left; (· rintro w' ⟨s0, s1⟩; go_simp; with_reducible rfl); rotate_left; (· simp only [Act.put, sA, sB, sC]; rfl)
            refine one_ (i := 2) (N := some 63) #[true, true, true, false, false, false, false, false, false, false, false, false] rfl rfl (by kernel_rfl) (by decide) (fun K hK => ?_)
            refine goes_ Tryz.func16 (by kernel_rfl) rfl #[.int .i64 kk] (by rfl) rfl rfl (by simp only [List.map_toArray, List.map_cons, List.map_nil]; rfl) ?_
            with_reducible refine (KidOf_any kk k0 k6 _).mono ?_
            rintro e w5 ⟨rfl, rfl⟩
            refine ⟨_, rfl, ?_⟩
            refine hK.out _ _ ⟨(XR.out.cell 0).trans rfl, (MR.out.cell 0).trans rfl⟩ (fun hHeld => ?_)
            clear hK K
            refine norm_ (a' := ?_) ?_ ?_
            rotate_left
            · show Act.put _ (some 63) _ = _
              simp only [Act.put, sA, sB, sC]
              rfl
            refine pure_ (i := 3) (N := some 64) (v := ?_) (a' := ?_) #[true, true, true, true, false, false, false, false, false, false, false, false] rfl rfl (by kernel_rfl) (fun _ _ _ h => h) (Or.inl ⟨by rfl, ?_⟩) ?_ ?_
            rotate_left; (· intro w'; go_simp; with_reducible rfl); rotate_left; (· simp only [Act.put, sA, sB, sC]; rfl)
            refine pure_ (i := 4) (N := some 65) (v := ?_) (a' := ?_) #[true, true, true, true, true, false, false, false, false, false, false, false] rfl rfl (by kernel_rfl) (fun _ _ _ h => h) (Or.inl ⟨by rfl, ?_⟩) ?_ ?_
            rotate_left; (· intro w'; go_simp; with_reducible rfl); rotate_left; (· simp only [Act.put, sA, sB, sC]; rfl)
            refine pure_ (i := 5) (N := some 66) (v := ?_) (a' := ?_) #[true, true, true, true, true, true, false, false, false, false, false, false] rfl rfl (by kernel_rfl) (fun _ _ _ h => h) (Or.inl ⟨by rfl, ?_⟩) ?_ ?_
            rotate_left; (· intro w'; go_simp; with_reducible rfl); rotate_left; (· simp only [Act.put, sA, sB, sC]; rfl)
            refine pure_ (i := 8) (N := some 69) (v := ?_) (a' := ?_) #[true, true, true, true, true, true, false, false, true, false, false, false] rfl rfl (by kernel_rfl) (fun _ _ _ h => h) (Or.inl ⟨by rfl, ?_⟩) ?_ ?_
            rotate_left; (· intro w'; go_simp; with_reducible rfl); rotate_left; (· simp only [Act.put, sA, sB, sC]; rfl)
            refine take_ (i := 6) (N := some 67) (v := ?_) (a' := ?_) #[true, true, true, true, true, true, true, false, true, false, false, false] rfl rfl (by kernel_rfl) (fun _ _ _ h => h) (Or.inl ⟨by rfl, ?_⟩) hHeld ?_ ?_
            rotate_left; (· rintro w' ⟨s0, s1⟩; go_simp; with_reducible rfl); rotate_left; (· simp only [Act.put, sA, sB, sC]; rfl)
            refine take_ (i := 9) (N := some 70) (v := ?_) (a' := ?_) #[true, true, true, true, true, true, true, false, true, true, false, false] rfl rfl (by kernel_rfl) (fun _ _ _ h => h) (Or.inl ⟨by rfl, ?_⟩) hHeld ?_ ?_
            rotate_left; (· rintro w' ⟨s0, s1⟩; go_simp; with_reducible rfl); rotate_left; (· simp only [Act.put, sA, sB, sC]; rfl)
            refine one_ (i := 7) (N := some 68) #[true, true, true, true, true, true, true, true, true, true, false, false] rfl rfl (by kernel_rfl) (by decide) (fun K hK => ?_)
            refine goes_ Tryz.func16 (by kernel_rfl) rfl #[.int .i64 kk] (by rfl) rfl rfl (by simp only [List.map_toArray, List.map_cons, List.map_nil]; rfl) ?_
            with_reducible refine (KidOf_any kk k0 k6 _).mono ?_
            rintro e w5 ⟨rfl, rfl⟩
            refine ⟨_, rfl, ?_⟩
            refine hK.out _ _ ⟨(XR.out.cell 0).trans rfl, (MR.out.cell 0).trans rfl⟩ (fun hHeld => ?_)
            clear hK K
            refine norm_ (a' := ?_) ?_ ?_
            rotate_left
            · show Act.put _ (some 68) _ = _
              simp only [Act.put, sA, sB, sC]
              rfl
            refine pure_ (i := 10) (N := some 71) (v := ?_) (a' := ?_) #[true, true, true, true, true, true, true, true, true, true, true, false] rfl rfl (by kernel_rfl) (fun _ _ _ h => h) (Or.inl ⟨by rfl, ?_⟩) ?_ ?_
            rotate_left; (· intro w'; go_simp; with_reducible rfl); rotate_left; (· simp only [Act.put, sA, sB, sC]; rfl)
            refine pure_ (i := 11) (N := some 72) (v := ?_) (a' := ?_) #[true, true, true, true, true, true, true, true, true, true, true, true] rfl rfl (by kernel_rfl) (fun _ _ _ h => h) (Or.inl ⟨by rfl, ?_⟩) ?_ ?_
            rotate_left; (· intro w'; go_simp; with_reducible rfl); rotate_left; (· simp only [Act.put, sA, sB, sC]; rfl)
            refine done_ (by kernel_rfl) ?_
            go_wp2
            go_roundw
            case rel =>
              refine ⟨q + 1, KV, dd, by omega, rfl, by go_num, ?_, hd0, hd1, ?_, ?_, ?_, ?_, ?_⟩
              · rw [HK2.out, if_neg hkeep, List.append_nil]
                exact HDD.out
              · exact X1.out.below (Below.drew HB5.out) X1.out.lt
              · exact X2.out.below (Below.drew HB5.out) X2.out.lt
              · rw [HK2.out, if_neg hkeep, List.append_nil]
                exact KRow.keep GmOn.keeps KR.out (fun b hb hl => (Below.drew HB5.out).block b hl) (fun b hb _ => hb)
              · exact HBR.out.trans ((Below.drew HB5.out).mono HBR.out.size)
              · have := HB5.out.size
                show _ ≤ (w4.alloc _).heap.size
                omega
            case measure => simp [intOf]; omega
      · obtain rfl : m = q := by omega
        rw [List.take_of_length_le (by rw [HEM.out]; exact Nat.le_refl _)] at kr hdd
        have hlm : ((ks.map newT).filter (keepT kk)).length ≤ 100000 := Nat.le_trans (List.length_filter_le _ _) (by rw [List.length_map]; exact hm)
        have hall : ∀ t ∈ (ks.map newT).filter (keepT kk), OkT t := fun t ht => by
          obtain ⟨u, hu, rfl⟩ := List.mem_map.1 (List.mem_filter.1 ht).1
          exact (HD.out u hu).2.2
        have hpt : partsT kk dq ((ks.map newT).filter (keepT kk)) = if ((ks.map newT).filter (keepT kk)).length = 0 then .mk kk dq [] [] else forceT dd (.mk kk dq [] ((ks.map newT).filter (keepT kk))) := by
          unfold partsT
          rw [hdd]
          by_cases h : (ks.map newT).filter (keepT kk) = []
          · rw [if_pos h, if_pos (by rw [h]; rfl)]
          · rw [if_neg h, if_neg (fun e => h (List.eq_nil_of_length_eq_zero e))]
        generalize hMS : (ks.map newT).filter (keepT kk) = msq at *
        have HMS := Hd hMS
        clear hMS
        have hgm := GmOn.made (k := kk) (d := dq) (ns := []) (v := .slice none 0 0) (ok := fun b => W.heap.size + 3 ≤ b) (by simp) (World.ownsRow_nil _ _ _ _) (fun b hb => by simp [Value.ownBlock] at hb) kr
        obtain ⟨css2, kro, -⟩ := kr
        obtain ⟨Av, cv, rfl, -⟩ := own_shp kro
        generalize hML : msq.length = ml at *
        have HML := Hd hML
        have HGM := Hd hgm
        have HBR := Hd hbr
        have HPT := Hd hpt
        have HALL := Hd hall
        have X1 := Hd x1
        have X2 := Hd x2
        have r0 := x2.cell 0
        have r1 := x2.cell 1
        have r2 := x2.cell 2
        have r3 := x2.cell 3
        simp at r0 r1 r2 r3
        clear hgm hbr x1 x2 kro hpt hall hML hdd
        by_cases h0 : ml = 0
        · subst h0
          obtain rfl := List.eq_nil_of_length_eq_zero HML.out
          obtain ⟨t0, t1, t2, t3⟩ := cells_four X1.out (.int .i64 kk) (.int .i64 dq) (.slice none 0 0) (.slice Av 0 cv)
          have s0 := X1.out.cell 0
          have s1 := X1.out.cell 1
          have s2 := X1.out.cell 2
          have s3 := X1.out.cell 3
          have y0 := X1.out.frozen 0
          have y1 := X1.out.frozen 1
          have y2 := X1.out.frozen 2
          have y3 := X1.out.frozen 3
          simp at s0 s1 s2 s3
          go_wp2
          refine bodyPost_ret (by simp [results, Tryz.results12, go_sem, t0, t1, t2, t3]; try rfl) rfl ?_
          have hs : ∀ b, W.heap.size + 3 ≤ b → ((((wr.setCell ⟨W.heap.size + 1, 0, none⟩ (.int .i64 kk)).setCell ⟨W.heap.size + 1, 1, none⟩ (.int .i64 dq)).setCell ⟨W.heap.size + 1, 2, none⟩ (.slice none 0 0)).setCell ⟨W.heap.size + 1, 3, none⟩ (.slice Av 0 cv)).heap[b]? = wr.heap[b]? := fun b hb => by
            rw [Below.heap_setCell _ _ _ b (by show b ≠ W.heap.size + 1; omega), Below.heap_setCell _ _ _ b (by show b ≠ W.heap.size + 1; omega), Below.heap_setCell _ _ _ b (by show b ≠ W.heap.size + 1; omega), Below.heap_setCell _ _ _ b (by show b ≠ W.heap.size + 1; omega)]
          refine ⟨[.int .i64 kk, .int .i64 dq, .slice none 0 0, .slice Av 0 cv], rfl, ?_, ?_⟩
          · rw [HMS.out, HPT.out]
            first | rw [if_pos rfl] | rw [if_pos trivial]
            exact GmOn.keeps _ _ _ _ _ _ HGM.out (fun b hb _ => hs b hb) (fun b hb _ => by omega)
          · exact below_setCell' (below_setCell' (below_setCell' (below_setCell' HBR.out (Nat.le_succ _) _) (Nat.le_succ _) _) (Nat.le_succ _) _) (Nat.le_succ _) _
        · have hne : ((ml : Int) == 0) = false := by rw [beq_eq_false_iff_ne]; omega
          have hok : OkT (.mk kk dq [] msq) := .mk q0 q1 (by simp) (by rw [HML.out]; exact hlm) HALL.out
          have hcall := Force_any dd hd0 hd1 HGM.out hok
          have HC := Hd hcall
          clear hok hcall
          go_wp2_with fail
          refine (HC.out _ (fun _ _ _ => rfl)).mono ?_
          rintro e w5 ⟨y, rfl, g5, b5⟩
          obtain ⟨yk, yd, yA, yK, yn, ym, yc, yc', rfl⟩ := g5.shape
          have x5 := X1.out.below b5 X1.out.lt
          have hb5 := HBR.out.trans (b5.mono HBR.out.size)
          obtain ⟨t0, t1, t2, t3⟩ := cells_four x5 (.int .i64 yk) (.int .i64 yd) (.slice yA yn yc) (.slice yK ym yc')
          have s0 := x5.cell 0
          have s1 := x5.cell 1
          have s2 := x5.cell 2
          have s3 := x5.cell 3
          have y0 := x5.frozen 0
          have y1 := x5.frozen 1
          have y2 := x5.frozen 2
          have y3 := x5.frozen 3
          simp at s0 s1 s2 s3
          have HG5 := Hd g5
          have HB5 := Hd hb5
          clear g5 b5 x5 hb5
          go_wp2
          refine bodyPost_ret (by simp [results, Tryz.results12, go_sem, t0, t1, t2, t3]; try rfl) rfl ?_
          have hs : ∀ b, W.heap.size + 3 ≤ b → ((((w5.setCell ⟨W.heap.size + 1, 0, none⟩ (.int .i64 yk)).setCell ⟨W.heap.size + 1, 1, none⟩ (.int .i64 yd)).setCell ⟨W.heap.size + 1, 2, none⟩ (.slice yA yn yc)).setCell ⟨W.heap.size + 1, 3, none⟩ (.slice yK ym yc')).heap[b]? = w5.heap[b]? := fun b hb => by
            rw [Below.heap_setCell _ _ _ b (by show b ≠ W.heap.size + 1; omega), Below.heap_setCell _ _ _ b (by show b ≠ W.heap.size + 1; omega), Below.heap_setCell _ _ _ b (by show b ≠ W.heap.size + 1; omega), Below.heap_setCell _ _ _ b (by show b ≠ W.heap.size + 1; omega)]
          refine ⟨[.int .i64 yk, .int .i64 yd, .slice yA yn yc, .slice yK ym yc'], rfl, ?_, ?_⟩
          · rw [HMS.out, HPT.out, if_neg h0]
            exact GmOn.keeps _ _ _ _ _ _ HG5.out (fun b hb _ => hs b (by omega)) (fun b hb _ => by omega)
          · exact below_setCell' (below_setCell' (below_setCell' (below_setCell' HB5.out (Nat.le_succ _) _) (Nat.le_succ _) _) (Nat.le_succ _) _) (Nat.le_succ _) _

end Go.Proofs.YtofdccmmagcamaaGreatDoor
