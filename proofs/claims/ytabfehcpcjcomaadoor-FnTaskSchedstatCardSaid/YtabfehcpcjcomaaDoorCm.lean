/- The tables that the law reads, out of the row's condition. Conditions: none. -/
import Derived.Test.YtabfehcpcjcomaaDoorCl
namespace Go.Proofs.YtabfehcpcjcomaaDoor.Ck
open Go.ChangeShapes Go.WideShapes Go.ChangeAt Go.RowKit Go.Deep
open Go.Proofs.YtabfehcpcjcomaaDoorW.PrintWords Go.Proofs.YtabfehcpcjcomaaDoor.R
set_option linter.unusedVariables false
theorem tab_opt {W : World} (h : laidMetH Tryd.prog rowL W) : W.cell? ⟨8, 0, none⟩ = some (.bool true) := by
  obtain ⟨ps, ⟨g, t, cs, fuel, p, q, hg, ht, hv, hd, _, _⟩, _⟩ := pick W h "internal/strconv.optimize" (.lit (.bool true)) (by kernel_rfl) (by kernel_rfl)
  obtain rfl : 8 = g := Option.some.inj ((show Tryd.prog.globalNamed "internal/strconv.optimize" = some 8 by kernel_rfl).symm.trans hg)
  obtain rfl : 4 = t := Option.some.inj ((show (Tryd.prog.globals[8]?).map (·.type) = some 4 by kernel_rfl).symm.trans ht)
  obtain ⟨b, hc, hx⟩ := DataW.trod_bool Tryd.underlying4 hd
  have := World.var?_cell hg hv 0
  rw [this]
  have hb : true = b := by
    have := congrArg Prod.fst hx
    simpa using this
  rw [← hb] at hc
  have : cs = #[.bool true] := by apply Array.toList_inj.1; rw [hc]
  rw [this]
  rfl
theorem tab_pow {W : World} (h : laidMetH Tryd.prog rowL W) : ∃ (A : Addr) (c : Nat), W.cell? ⟨12, 0, none⟩ = some (.slice (some A) 23 c) ∧ 23 ≤ c ∧ ∀ i, i < 23 → W.cell? (A.add i) = some (.float .f64 (pow10F.getD i 0)) := by
  obtain ⟨ps, ⟨g, t, cs, fuel, p, q, hg, ht, hv, hd, _, _⟩, _⟩ := pick W h "internal/strconv.float64pow10" (.slice (pow10F.map fun b => .lit (.float .f64 b)) []) (by kernel_rfl) (by kernel_rfl)
  obtain rfl : 12 = g := Option.some.inj ((show Tryd.prog.globalNamed "internal/strconv.float64pow10" = some 12 by kernel_rfl).symm.trans hg)
  obtain rfl : 85 = t := Option.some.inj ((show (Tryd.prog.globals[12]?).map (·.type) = some 85 by kernel_rfl).symm.trans ht)
  rcases open_slice1 Tryd.underlying85 (by kernel_rfl) hd with ⟨_, hx⟩ | ⟨a, len, cap, m, n, V, D, Pl, hc, _, hl, _, hm, hx, hi⟩
  · cases hx
  · have h1 := congrArg Prod.fst hx
    simp only [DataW.slice.injEq] at h1
    obtain ⟨h2, h3⟩ := h1
    have hlen : len = 23 := by have := congrArg List.length h2; simpa [pow10F] using this.symm
    subst hlen
    have hcs : cs = #[.slice (some a) 23 cap] := by apply Array.toList_inj.1; rw [hc]
    have hm' : 23 ≤ m := by rw [hm]; split <;> omega
    refine ⟨a, cap, by rw [World.var?_cell hg hv 0, hcs]; rfl, hl, fun i hi' => ?_⟩
    obtain ⟨hv1, hd1⟩ := hi i (by omega)
    have hDi : D i = .lit (.float .f64 (pow10F.getD i 0)) := by
      have h4 := congrArg (fun l => l[i]?) h2
      simp only [List.getElem?_map, List.getElem?_range hi', Option.map_some] at h4
      have hp : pow10F[i]? = some (pow10F.getD i 0) := by
        rw [List.getD_eq_getElem?_getD, List.getElem?_eq_getElem (by simpa [pow10F] using hi')]; rfl
      rw [hp] at h4
      exact (Option.some.inj h4).symm
    rw [hDi] at hd1
    rw [hv1, trod_f64 hd1]
theorem tab_info {W : World} (h : laidMetH Tryd.prog rowL W) : W.cell? ⟨9, 0, none⟩ = some (.int .u64 52) := by
  obtain ⟨ps, ⟨g, t, cs, fuel, p, q, hg, ht, hv, hd, _, _⟩, _⟩ := pick W h "internal/strconv.float64info" (.agg [.lit (.int .u64 52), .lit (.int .u64 11), .lit (.int .i64 (-1023))]) (by kernel_rfl) (by kernel_rfl)
  obtain rfl : 9 = g := Option.some.inj ((show Tryd.prog.globalNamed "internal/strconv.float64info" = some 9 by kernel_rfl).symm.trans hg)
  obtain rfl : 137 = t := Option.some.inj ((show (Tryd.prog.globals[9]?).map (·.type) = some 137 by kernel_rfl).symm.trans ht)
  obtain ⟨xs, k, _, hx, hcl, hxl, hf⟩ := DataW.trod_struct Tryd.underlying137 hd
  have h0 := hf 0 _ rfl
  have hc1 : Tryd.prog.cellsOf 83 = 1 := by kernel_rfl
  have hm := congrArg Prod.fst hx
  have hx0 : ∃ y, xs[0]? = some y ∧ y.1 = .lit (.int .u64 52) := by
    have h4 := congrArg (fun d => match d with | DataW.agg l => l[0]? | _ => none) hm
    simp only [List.getElem?_map] at h4
    cases hy : xs[0]? with
    | none => rw [hy] at h4; cases h4
    | some y => rw [hy] at h4; exact ⟨y, rfl, (Option.some.inj h4).symm⟩
  obtain ⟨y, hy, hy1⟩ := hx0
  rw [hy] at h0
  obtain ⟨n, hn, hyn, _⟩ := DataW.trod_int (k := .u64) (by kernel_rfl) h0
  rw [hyn] at hy1
  simp only [DataW.lit.injEq, Lit.int.injEq, true_and] at hy1
  subst hy1
  rw [World.var?_cell hg hv 0]
  have hl : cs.toList.take 1 = [.int .u64 52] := by rw [← hc1]; exact hn
  have := congrArg (fun l => l[0]?) hl
  simpa using this
theorem tab_p {W : World} (h : laidMetH Tryd.prog rowL W) : Lib.TabIs Tryd.prog W "internal/strconv.uint64pow10" .u64 Lib.pow10Tab :=
  Lib.tabIs_of_head (t := 79) (e := 22) (n := 20) (rest := []) (g := 0) (by kernel_rfl) (by kernel_rfl) (by kernel_rfl) (by kernel_rfl) (by kernel_rfl) (by kernel_rfl) (pick W h "internal/strconv.uint64pow10" (Lib.tabData .u64 Lib.pow10Tab) (by kernel_rfl) (by kernel_rfl))
theorem tab_s {W : World} (h : laidMetH Tryd.prog rowL W) : Lib.TabIs Tryd.prog W "strings.asciiSpace" .u8 Lib.asciiSpaceTab :=
  Lib.tabIs_of_head (t := 96) (e := 5) (n := 256) (rest := []) (g := 1) (by kernel_rfl) (by kernel_rfl) (by kernel_rfl) (by kernel_rfl) (by kernel_rfl) (by kernel_rfl) (pick W h "strings.asciiSpace" (Lib.tabData .u8 Lib.asciiSpaceTab) (by kernel_rfl) (by kernel_rfl))
theorem tabs_of {W : World} (h : laidMetH Tryd.prog rowL W) : TTabs W := ⟨⟨⟨tab_opt h, tab_info h, tab_pow h⟩, tab_s h⟩, tab_p h⟩
end Go.Proofs.YtabfehcpcjcomaaDoor.Ck
