/- The tables of the float writer out of what the row lists. -/
import Derived.Test.YtpbcfgehmalppaaGreatDoorFtG
import Derived.Test.YtpbcfgehmalppaaGreatDoorRows
import Derived.Lib.LaidTab
import Derived.Lib.LaidU8
import Derived.OpenShut
namespace Go.Proofs.YtpbcfgehmalppaaGreatDoor
open Go.RowKit Go.Lib

def hiT (i : Nat) : Int := ((Pinned.pow10Rows.getD i (0, 0)).1 : Int)
def loT (i : Nat) : Int := ((Pinned.pow10Rows.getD i (0, 0)).2 : Int)

theorem rows_len : Pinned.pow10Rows.length = 696 := by kernel_rfl
theorem rows_small : ∀ x ∈ Pinned.pow10Rows, x.1 < 18446744073709551616 ∧ x.2 < 18446744073709551616 := by
  have h : (Pinned.pow10Rows.all fun x => decide (x.1 < 18446744073709551616) && decide (x.2 < 18446744073709551616)) = true := by kernel_rfl
  intro x hx
  have := List.all_eq_true.1 h x hx
  simpa using this

theorem tab_range : TabR hiT loT := by
  intro i
  unfold hiT loT
  rw [List.getD_eq_getElem?_getD]
  cases h : Pinned.pow10Rows[i]? with
  | none => simp
  | some x =>
    have := rows_small x (List.mem_of_getElem? h)
    simp only [Option.getD_some]
    omega

theorem g_pow : Tryz.prog.globalNamed "internal/strconv.pow10Tab" = some 3 := by kernel_rfl
theorem g_powT : (Tryz.prog.globals[3]?).map (·.type) = some 204 := by kernel_rfl
theorem c_pm : Tryz.prog.cellsOf 203 = 2 := by kernel_rfl
theorem c_u64 : Tryz.prog.cellsOf 146 = 1 := by kernel_rfl

theorem pow_of_reads {W : World} (h : VarReads Tryz.prog W "internal/strconv.pow10Tab" Pinned.pow10Tab) : Pow10 W hiT loT := by
  obtain ⟨g, t, cs, fuel, p, hg, ht, hvar, hd⟩ := h
  obtain rfl := Option.some.inj (g_pow.symm.trans hg)
  obtain rfl := Option.some.inj (g_powT.symm.trans ht)
  obtain ⟨xs, m, rfl, hx, hl, hxl, hel⟩ := DataW.trod_array Tryz.underlying204 hd
  have hx1 : xs.map (·.1) = Pinned.pow10Rows.map fun x => (DataW.agg [.lit (.int .u64 x.1), .lit (.int .u64 x.2)] : DataW Unit) := by
    have := congrArg Prod.fst hx
    exact (DataW.agg.inj this).symm
  intro i hi
  have h1 := hel i hi
  rw [c_pm] at h1
  have hxi : xs[i]? = some (xs[i]'(by omega)) := List.getElem?_eq_getElem (by omega)
  have hri : Pinned.pow10Rows[i]? = some (Pinned.pow10Rows[i]'(by rw [rows_len]; exact hi)) := List.getElem?_eq_getElem _
  have h2 : (xs[i]'(by omega)).1 = DataW.agg [.lit (.int .u64 (Pinned.pow10Rows[i]'(by rw [rows_len]; exact hi)).1), .lit (.int .u64 (Pinned.pow10Rows[i]'(by rw [rows_len]; exact hi)).2)] := by
    have := congrArg (·[i]?) hx1
    simpa [List.getElem?_map, hxi, hri] using this
  rw [hxi] at h1
  have hh : hiT i = (((Pinned.pow10Rows[i]'(by rw [rows_len]; exact hi)).1 : Nat) : Int) := by unfold hiT; rw [List.getD_eq_getElem?_getD, hri]; rfl
  have hlo : loT i = (((Pinned.pow10Rows[i]'(by rw [rows_len]; exact hi)).2 : Nat) : Int) := by unfold loT; rw [List.getD_eq_getElem?_getD, hri]; rfl
  rw [← hh, ← hlo] at h2
  generalize xs[i]'(by omega) = y at *
  obtain ⟨yd, yp⟩ := y
  simp only at h2
  subst h2
  have h3 : (cs.toList.drop (i * 2)).take 2 = [hiT i, loT i].map fun z => Value.int .u64 z :=
    ints_of_struct Tryz.underlying203 (fun j f hj => by
      rcases j with _ | _ | j
      · injection hj with hj; subst hj; exact ⟨Tryz.underlying146, rfl, c_u64⟩
      · injection hj with hj; subst hj; exact ⟨Tryz.underlying146, rfl, c_u64⟩
      · simp at hj) c_pm h1
  have k0 := World.var?_cell g_pow hvar (i * 2)
  have k1 := World.var?_cell g_pow hvar (i * 2 + 1)
  have e0 : cs[i * 2]? = some (.int .u64 (hiT i)) := by
    have := congrArg (·[0]?) h3
    simpa [List.getElem?_take, List.getElem?_drop] using this
  have e1 : cs[i * 2 + 1]? = some (.int .u64 (loT i)) := by
    have := congrArg (·[1]?) h3
    simpa [List.getElem?_take, List.getElem?_drop] using this
  exact ⟨k0.trans e0, k1.trans e1⟩

theorem g_ten : Tryz.prog.globalNamed "internal/strconv.uint64pow10" = some 2 := by kernel_rfl
theorem g_tenT : (Tryz.prog.globals[2]?).map (·.type) = some 195 := by kernel_rfl
theorem c_ten : Tryz.prog.cellsOf 195 = 20 := by kernel_rfl

theorem ten_of_reads {W : World} (h : VarReads Tryz.prog W "internal/strconv.uint64pow10" Rows.laid_internal_strconv_uint64pow10) : Tab10 W := by
  obtain ⟨g, t, cs, fuel, p, hg, ht, hvar, hd⟩ := h
  obtain rfl := Option.some.inj (g_ten.symm.trans hg)
  obtain rfl := Option.some.inj (g_tenT.symm.trans ht)
  have e : (Rows.laid_internal_strconv_uint64pow10 : DataW Unit) = tabData .u64 ((List.range 20).map fun i => ((10 ^ i : Nat) : Int)) := by kernel_rfl
  rw [e] at hd
  have hc := cells_of_tab Tryz.underlying195 Tryz.underlying146 c_u64 c_ten hd
  intro i hi
  rw [World.var?_cell g_ten hvar i]
  have h2 : cs[i]? = cs.toList[i]? := by simp
  rw [h2, hc]
  simp [hi]

end Go.Proofs.YtpbcfgehmalppaaGreatDoor
