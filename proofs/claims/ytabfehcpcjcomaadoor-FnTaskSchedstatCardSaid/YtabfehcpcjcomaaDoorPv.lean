/- laws.lives: the sanity check of one text of loads. -/
import Derived.Test.YtabfehcpcjcomaaDoorPt
namespace Go.Proofs.YtabfehcpcjcomaaDoor.R
open Go.RowKit Go.Proofs.YtabfehcpcjcomaaDoor.QP1 Go.Proofs.YtabfehcpcjcomaaDoorW.PrintWords Go.Proofs.YtabfehcpcjcomaaDoorW.PrintLast Go.Proofs.YtabfehcpcjcomaaDoorW.PrintMore
set_option linter.unusedVariables false
set_option linter.unusedSimpArgs false
def livesT : ByteArray := ⟨#[48, 46, 53, 32, 48, 46, 50, 53, 32, 48, 46, 55, 53, 32, 49, 47, 52, 57, 55, 32, 49, 49, 57, 52, 55, 10]⟩
theorem num_of (T : Bs) (hc : T.all (fun c => c == 46 || (48 ≤ c.toNat && c.toNat ≤ 57)) = true) (hl : T.length ≤ 19) (hd : (T.filter (· == 46)).length ≤ 1) (hg : T.any (fun c => 48 ≤ c.toNat && c.toNat ≤ 57) = true) : Num T where
  ch c h := by
    have := List.all_eq_true.1 hc c h
    simp only [Bool.or_eq_true, beq_iff_eq, Bool.and_eq_true, decide_eq_true_eq] at this
    exact this
  len := hl
  dots p r e := by
    intro hp
    rw [e, List.filter_append, List.filter_cons] at hd
    simp only [BEq.rfl, if_true, List.length_append, List.length_cons] at hd
    have : 0 < (p.filter (· == 46)).length := List.length_pos_of_mem (List.mem_filter.2 ⟨hp, by simp⟩)
    omega
  dig := by
    obtain ⟨c, h, hc⟩ := List.any_eq_true.1 hg
    simp only [Bool.and_eq_true, decide_eq_true_eq] at hc
    exact ⟨c, h, hc⟩
theorem sp0 : Spells [48, 46, 53] 4602678819172646912 := ⟨num_of _ (by decide) (by decide) (by decide) (by decide), by decide, by decide, by decide +kernel⟩
theorem sp1 : Spells [48, 46, 50, 53] 4598175219545276416 := ⟨num_of _ (by decide) (by decide) (by decide) (by decide), by decide, by decide, by decide +kernel⟩
theorem sp2 : Spells [48, 46, 55, 53] 4604930618986332160 := ⟨num_of _ (by decide) (by decide) (by decide) (by decide), by decide, by decide, by decide +kernel⟩
theorem livesLoads : Loads livesT 4602678819172646912 4598175219545276416 4604930618986332160 where
  sz := by decide
  ascii := by
    intro j b h
    have : livesT.data.toList.all (fun c => c.toNat < 128) = true := by decide
    exact of_decide_eq_true (List.all_eq_true.1 this b (List.mem_of_getElem? h))
  parts := ⟨[48, 46, 53], [48, 46, 50, 53], [48, 46, 55, 53], _, (by decide +kernel : Lib.fields livesT.data.toList = [48, 46, 53] :: [48, 46, 50, 53] :: [48, 46, 55, 53] :: [[49, 47, 52, 57, 55], [49, 49, 57, 52, 55]]), sp0, sp1, sp2⟩
def livesX : S26 := ⟨⟨#[]⟩, 8, false, 0, 0, 0, ⟨#[]⟩, [⟨⟨#[76, 111, 97, 100, 49]⟩, 4, false, 0, 0, 4602678819172646912, ⟨#[]⟩, []⟩, ⟨⟨#[76, 111, 97, 100, 53]⟩, 4, false, 0, 0, 4598175219545276416, ⟨#[]⟩, []⟩, ⟨⟨#[76, 111, 97, 100, 49, 53]⟩, 4, false, 0, 0, 4604930618986332160, ⟨#[]⟩, []⟩]⟩
theorem livesX_ok : impl_procfsLoadAvg.f ⟨#[]⟩ 4602678819172646912 4598175219545276416 4604930618986332160 = some (livesX.f0, livesX.f1, livesX.f2, livesX.f3, livesX.f4, livesX.f5, livesX.f6, livesX.f7) := by
  rfl
/-- What is read of a row of nodes: field F of part i. -/
theorem kidF {W : World} {base : Nat} {v : Value} {xs : List S26} (h : Kd.R k26 26 W base (fun _ => True) v xs) {g cap : Nat} (hv : v = .slice (some ⟨g, 0, none⟩) xs.length cap) (i : Nat) (hi : i < xs.length) (x : S26) (hx : xs[i]? = some x) :
    W.cell? ⟨g, i * 8 + 5, none⟩ = some (.float .f64 x.f5) ∧ W.cell? ⟨g, i * 8 + 4, none⟩ = some (.int .u64 x.f4) := by
  subst hv
  have hC := (Kd.R_reads' h).2.2
  obtain ⟨ad, A7, c7, e, h0, h1, h2, h3, h4, h5, _⟩ := at_T26 hC (i : Int) (by omega) (by omega)
  injection e with e
  subst e
  rw [Int.toNat_natCast, Lib.add_plain] at h4 h5
  have hr : rd_T26 xs (i : Int) = x := by unfold rd_T26; rw [Int.toNat_natCast, List.getD_eq_getElem?_getD, hx]; rfl
  rw [hr] at h4 h5
  simp only [Nat.zero_add] at h4 h5
  exact ⟨h5, h4⟩
set_option maxHeartbeats 4000000 in
set_option maxRecDepth 100000 in
/-- laws.lives. -/
theorem lives_ok (w : World) (hT : LTabs w) : Calls Tryd.prog 6 #[] w fun e w' => e = .returned (.bool true) ∧ Below w.heap.size w w' := by
  have HT := Aside0.mk hT
  have hlt : livesT = ⟨#[48, 46, 53, 32, 48, 46, 50, 53, 32, 48, 46, 55, 53, 32, 49, 47, 52, 57, 55, 32, 49, 49, 57, 52, 55, 10]⟩ := rfl
  have HLT := Aside0.mk hlt
  have o0 : (FloatKind.f64.format.order 4602678819172646912 4602678819172646912 == some Ordering.eq) = true := by decide +kernel
  have o1 : (FloatKind.f64.format.order 4598175219545276416 4598175219545276416 == some Ordering.eq) = true := by decide +kernel
  have o2 : (FloatKind.f64.format.order 4604930618986332160 4604930618986332160 == some Ordering.eq) = true := by decide +kernel
  clear hT hlt
  go_enter Tryd.func6, Tryd.ntmps6
  go_wp2_with (first
    | (go_at_call 13; refine (loadavg_ok livesT _ _ _ livesLoads _ HT.out livesX livesX_ok).mono ?_; rintro e w2 ⟨_, rfl, ⟨v7, rfl, hR⟩, hb2⟩; obtain ⟨A7, c7, e7⟩ := Kd.R_slice hR; have HR := Aside0.mk hR; have HBW2 := Aside0.mk hb2; have E7 := Aside0.mk e7; have hs := (show (w2.alloc (.cells z8 26)).heap.size = w2.heap.size + 1 by simp); have HB2 := Aside0.mk (blk_new w2 (.cells z8 26)); have Hs := Aside0.mk hs; clear hR hb2 e7 hs)
    | ((with_reducible refine gate_ (.store 26 (.tmp 1) (.tmp 5)) rfl ?_); refine store_node_event rfl rfl (.tmp 1) (.tmp 5) rfl w2.heap.size livesX E7.out rfl rfl HB2.out rfl ?_; intro w3 hw3 hbk3; have HB23 := Aside0.mk (hw3 ▸ below_cells (below_alloc (Below.refl _ _) _) (Nat.le_refl _) _ : Below w2.heap.size w2 w3); obtain ⟨g, cap, hv, _⟩ := Kd.R_form HR.out (by decide); have HR3 := Kd.R_below HR.out HB23.out; have k0 : w3.cell? ⟨g, 5, none⟩ = some (.float .f64 4602678819172646912) := (kidF HR3 hv 0 (by decide) _ rfl).1; have k1 : w3.cell? ⟨g, 13, none⟩ = some (.float .f64 4598175219545276416) := (kidF HR3 hv 1 (by decide) _ rfl).1; have k2 : w3.cell? ⟨g, 21, none⟩ = some (.float .f64 4604930618986332160) := (kidF HR3 hv 2 (by decide) _ rfl).1; have hc7 : w3.cell? ⟨w2.heap.size, 7, none⟩ = some (.slice (some ⟨g, 0, none⟩) 3 cap) := by { have h7 := cell_of_blk hbk3 7 v7 rfl; rw [h7, hv]; rfl }; have HW3 := Aside0.mk hw3; have HR3 := Aside0.mk HR3; clear hw3 hbk3 hv))
  go_ret
  refine ⟨rfl, ?_⟩
  exact keepB HBW2.out HB23.out (Nat.le_refl _)
end Go.Proofs.YtabfehcpcjcomaaDoor.R
