/- The reference's texts: what writeBody and WriteWKT come to. -/
import Derived.Test.YtpbcfgehmalppaaGreatDoorKP3
namespace Go.Proofs.YtpbcfgehmalppaaGreatDoorW.QPt
open Go.RowKit Go.Proofs.YtpbcfgehmalppaaGreatDoorW.PrintWords Go.Proofs.YtpbcfgehmalppaaGreatDoor

theorem wb_kids (kk q : Int) (ns : List Nat) (ks : List S25) (A : List (List Int)) (hn : A.length ≤ 1000000000) (hkn : ks.length ≤ 1000000000) (hl : lens (A ++ kidsT kk ks) ≤ 1000000000000000)
    (hb : ∀ u ∈ ks, Ev (fun k => spec_writeBody.f k u.f0 u.f1 u.f2 u.f3) (strOfNums (bodyT u))) (hw : kk = 0 → ∀ u ∈ ks, Ev (fun k => spec_WriteWKT.f k u.f0 u.f1 u.f2 u.f3) (strOfNums (wktT u))) :
    ∀ (d i : Nat), i + d = ks.length → Ev (fun k => spec_writeBody.l1 k ((A ++ kidsT kk (ks.take i)).map strOfNums) ks (ks.length : Int) (i : Int) kk q ns ks) (strOfNums (listT (A ++ kidsT kk ks)))
  | 0, i, hd => by
    obtain rfl : i = ks.length := by omega
    have hkl : (kidsT kk ks).length = ks.length := by rw [kidsT_map, List.length_map]
    have hj := wb_join (A ++ kidsT kk ks) hl (by rw [List.length_append]; omega) (A ++ kidsT kk ks).length 0 (by omega)
    rw [List.take_of_length_le (Nat.le_refl _)]
    generalize A ++ kidsT kk ks = ps at *
    by_cases h0 : ps = []
    · subst h0
      refine Ev.step (f := fun _ => some (strOfNums (listT []))) (fun k => ?_) (Ev.now _)
      simp only [spec_writeBody.l1]
      rw [if_neg (by omega)]
      simp
      rfl
    · have hpl : 0 < ps.length := List.length_pos_iff.2 h0
      have e : listT ps = [40] ++ joinK 44 ps ps.length ++ [41] := by unfold listT; rw [if_neg h0]
      rw [e]
      refine Ev.step (fun k => ?_) hj
      simp only [spec_writeBody.l1]
      rw [if_neg (by omega), List.length_map, if_neg (by omega)]
      rfl
  | d + 1, i, hd => by
    have ih := wb_kids kk q ns ks A hn hkn hl hb hw d (i + 1) (by omega)
    have hlt : i < ks.length := by omega
    have e1 : wrap64 ((i : Int) + 1) = ((i + 1 : Nat) : Int) := by rw [w64 (by omega) (by omega)]; omega
    have hta : kidsT kk (ks.take (i + 1)) = kidsT kk (ks.take i) ++ [if kk = 0 then headT ks[i].f0 ks[i].f1 (bodyT ks[i]) else bodyT ks[i]] := by
      rw [List.take_succ_eq_append_getElem hlt, kidsT_map, kidsT_map, List.map_append]; rfl
    rw [hta, ← List.append_assoc, List.map_append] at ih
    have hlen : ((A ++ kidsT kk (ks.take i)).map strOfNums).length ≤ A.length + i := by
      rw [List.length_map, List.length_append, kidsT_map, List.length_map]
      have := List.length_take_le i ks
      omega
    generalize (A ++ kidsT kk (ks.take i)).map strOfNums = xs at *
    have hc : xs.length < 8796093022208 := by omega
    by_cases hk : kk = 0
    · subst hk
      have h1 := hw rfl _ (List.getElem_mem hlt)
      have h2 : Ev (fun k => spec_writeBody.l1 k (xs ++ [strOfNums (wktT ks[i])]) ks (ks.length : Int) ((i + 1 : Nat) : Int) 0 q ns ks) (strOfNums (listT (A ++ kidsT 0 ks))) := ih
      refine Ev.step (fun k => ?_) (Ev.bind (f := fun k t => spec_writeBody.l1 k (xs ++ [t]) ks (ks.length : Int) ((i + 1 : Nat) : Int) 0 q ns ks) h1 h2)
      simp only [spec_writeBody.l1]
      rw [if_pos (by omega), if_pos (by omega), if_pos (by omega), if_pos trivial, rd_at hlt, e1]
      simp only [if_pos hc]
    · have h1 := hb _ (List.getElem_mem hlt)
      rw [if_neg hk] at ih
      refine Ev.step (fun k => ?_) (Ev.bind (f := fun k t => spec_writeBody.l1 k (xs ++ [t]) ks (ks.length : Int) ((i + 1 : Nat) : Int) kk q ns ks) h1 ih)
      simp only [spec_writeBody.l1]
      rw [if_pos (by omega), if_pos (by omega), if_pos (by omega), if_neg hk, rd_at hlt, e1]
      simp only [if_pos hc]

theorem wb_places (kk q : Int) (ns : List Nat) (ks : List S25) (P : List S88) (hP : ∀ p ∈ P, okP p) (hn : P.length ≤ 1000000000) (R : ByteArray)
    (h1 : Ev (fun k => spec_writeBody.l1 k ((P.map (placeT q)).map strOfNums) ks (ks.length : Int) 0 kk q ns ks) R) :
    ∀ (d i : Nat), i + d = P.length → Ev (fun k => spec_writeBody.l0 k (((P.take i).map (placeT q)).map strOfNums) P (P.length : Int) (i : Int) kk q ns ks) R
  | 0, i, hd => by
    obtain rfl : i = P.length := by omega
    rw [List.take_of_length_le (Nat.le_refl _)]
    refine Ev.step (fun k => ?_) h1
    simp only [spec_writeBody.l0]
    rw [if_neg (by omega)]
  | d + 1, i, hd => by
    have ih := wb_places kk q ns ks P hP hn R h1 d (i + 1) (by omega)
    have hlt : i < P.length := by omega
    have e1 : wrap64 ((i : Int) + 1) = ((i + 1 : Nat) : Int) := by rw [w64 (by omega) (by omega)]; omega
    have hr : rd_T88 P (i : Int) = P[i] := by
      unfold rd_T88
      rw [Int.toNat_natCast, List.getD_eq_getElem?_getD, List.getElem?_eq_getElem hlt]
      rfl
    have hw := writePlace_tells q P[i] (hP _ (List.getElem_mem hlt))
    rw [List.take_succ_eq_append_getElem hlt, List.map_append, List.map_append] at ih
    have hlen : (((P.take i).map (placeT q)).map strOfNums).length ≤ i := by
      rw [List.length_map, List.length_map]
      exact List.length_take_le _ _
    generalize ((P.take i).map (placeT q)).map strOfNums = xs at *
    have hc : xs.length < 8796093022208 := by omega
    refine Ev.step (fun k => ?_) (Ev.bind (f := fun k t => spec_writeBody.l0 k (xs ++ [t]) P (P.length : Int) ((i + 1 : Nat) : Int) kk q ns ks) hw ih)
    simp only [spec_writeBody.l0]
    rw [if_pos (by omega), if_pos (by omega), if_pos (by omega), hr, e1]
    simp only [if_pos hc]

theorem wkt_of_body (t : S25) (hl : (bodyT t).length ≤ 1000000000000000) (h : Ev (fun k => spec_writeBody.f k t.f0 t.f1 t.f2 t.f3) (strOfNums (bodyT t))) :
    Ev (fun k => spec_WriteWKT.f k t.f0 t.f1 t.f2 t.f3) (strOfNums (wktT t)) := by
  have h1 := nameB_len t.f0
  have h2 := dimB_len t.f1
  have e3 : (⟨#[32]⟩ : ByteArray) = strOfNums [32] := rfl
  by_cases h0 : t.f1 = 0
  · refine Ev.step (fun k => ?_) (Ev.bind (f := fun _ b => if b.toList = ([69, 77, 80, 84, 89] : List UInt8) then (if (strOfNums (nameB t.f0)).size + 1 ≤ 9223372036854775807 then (if (strOfNums (nameB t.f0) ++ (⟨#[32]⟩ : ByteArray)).size + b.size ≤ 9223372036854775807 then some ((strOfNums (nameB t.f0) ++ (⟨#[32]⟩ : ByteArray)) ++ b) else none) else none) else (if (strOfNums (nameB t.f0)).size + b.size ≤ 9223372036854775807 then some (strOfNums (nameB t.f0) ++ b) else none)) h ?_)
    · simp only [spec_WriteWKT.f]
      rw [kindName_tells, Option.bind_some, if_pos h0]
    · have e : wktT t = (if isE (bodyT t) = true then nameB t.f0 ++ [32] else nameB t.f0) ++ bodyT t := by unfold wktT headT; rw [if_pos h0]
      rw [e]
      refine Ev.congr (f := fun _ => some _) (fun _ => ?_) (Ev.now _)
      by_cases hE : (strOfNums (bodyT t)).toList = ([69, 77, 80, 84, 89] : List UInt8)
      · have hi : isE (bodyT t) = true := decide_eq_true hE
        rw [if_pos hE, if_pos hi, e3]
        simp only [strN_app, strN_size, List.length_append, List.length_cons, List.length_nil]
        rw [if_pos (by omega), if_pos (by omega)]
      · have hi : ¬ isE (bodyT t) = true := fun hh => hE (of_decide_eq_true hh)
        rw [if_neg hE, if_neg hi]
        simp only [strN_app, strN_size]
        rw [if_pos (by omega)]
  · refine Ev.step (fun k => ?_) (Ev.bind (f := fun _ b => if ((strOfNums (nameB t.f0)) ++ ((⟨#[32]⟩ : ByteArray) ++ strOfNums (dimB t.f1))).size + 1 ≤ 9223372036854775807 then (if (((strOfNums (nameB t.f0)) ++ ((⟨#[32]⟩ : ByteArray) ++ strOfNums (dimB t.f1))) ++ (⟨#[32]⟩ : ByteArray)).size + b.size ≤ 9223372036854775807 then some ((((strOfNums (nameB t.f0)) ++ ((⟨#[32]⟩ : ByteArray) ++ strOfNums (dimB t.f1))) ++ (⟨#[32]⟩ : ByteArray)) ++ b) else none) else none) h ?_)
    · simp only [spec_WriteWKT.f]
      rw [kindName_tells, Option.bind_some, if_neg h0, dimName_tells, Option.bind_some, if_pos (by rw [strN_size]; omega), if_pos (by simp only [e3, strN_app, strN_size, List.length_append, List.length_cons, List.length_nil]; omega)]
    · have e : wktT t = (nameB t.f0 ++ ([32] ++ dimB t.f1) ++ [32]) ++ bodyT t := by unfold wktT headT; rw [if_neg h0]
      rw [e]
      refine Ev.congr (f := fun _ => some _) (fun _ => ?_) (Ev.now _)
      simp only [e3, strN_app, strN_size, List.length_append, List.length_cons, List.length_nil]
      rw [if_pos (by omega), if_pos (by omega)]

theorem text_tells : ∀ (N : Nat), N ≤ 100000000 → ∀ t : S25, t.sz ≤ N → fineT t → Ev (fun k => spec_writeBody.f k t.f0 t.f1 t.f2 t.f3) (strOfNums (bodyT t))
  | 0, _, t, ht, _ => by have := sz_pos t; omega
  | N + 1, hN, ⟨kk, q, ns, ks⟩, ht, hf => by
    have hs := sz_def ⟨kk, q, ns, ks⟩
    simp only at hs
    have hbl := bodyT_len (N + 1) _ ht hf
    rw [hs] at ht hbl
    have hl := szs_len ks
    obtain ⟨⟨q0, q1⟩, hb, hk⟩ := (fineT_def _).1 hf
    simp only at q0 q1 hb hk
    have hkid : ∀ u ∈ ks, Ev (fun k => spec_writeBody.f k u.f0 u.f1 u.f2 u.f3) (strOfNums (bodyT u)) := fun u hu => by
      obtain ⟨i, hi, rfl⟩ := List.mem_iff_getElem.1 hu
      exact text_tells N (by omega) _ (by have := sz_mem (List.getElem?_eq_getElem hi); omega) (hk _ hu)
    have hkidW : kk = 0 → ∀ u ∈ ks, Ev (fun k => spec_WriteWKT.f k u.f0 u.f1 u.f2 u.f3) (strOfNums (wktT u)) := fun _ u hu => by
      obtain ⟨i, hi, rfl⟩ := List.mem_iff_getElem.1 hu
      have hsz := sz_mem (List.getElem?_eq_getElem hi)
      have := bodyT_len N ks[i] (by omega) (hk _ hu)
      exact wkt_of_body _ (by omega) (hkid _ hu)
    have hpl := pls_len q ns (ns.length / wd q)
    have hdl := Nat.div_le_self ns.length (wd q)
    have hplc := places_tells q q0 q1 ns (by omega)
    have hA := placesT_lens q0 q1 hb
    have hlk : lens (placesT q ns ++ kidsT kk ks) ≤ 1000000000000000 := by
      have := kidsT_lens kk ks hk
      rw [lens_append]
      omega
    have hlA : (placesT q ns).length = ns.length / wd q := by unfold placesT; rw [List.length_map, hpl]
    have h1 := wb_kids kk q ns ks (placesT q ns) (by omega) (by omega) hlk hkid hkidW ks.length 0 (by omega)
    have h2 := wb_places kk q ns ks (pls q ns (ns.length / wd q)) (fun p hp => by
      unfold pls at hp
      obtain ⟨i, _, rfl⟩ := List.mem_map.1 hp
      exact okP_pl hb i) (by omega) _ (by simpa [kidsT, placesT] using h1) (ns.length / wd q) 0 (by omega)
    have e : bodyT ⟨kk, q, ns, ks⟩ = listT (placesT q ns ++ kidsT kk ks) := by simp [bodyT]
    rw [e]
    refine Ev.step (fun k => ?_) (Ev.bind (f := fun k t => spec_writeBody.l0 k ([] : List ByteArray) t (t.length : Int) 0 kk q ns ks) hplc (by simpa [placesT] using h2))
    simp only [spec_writeBody.f]

end Go.Proofs.YtpbcfgehmalppaaGreatDoorW.QPt
