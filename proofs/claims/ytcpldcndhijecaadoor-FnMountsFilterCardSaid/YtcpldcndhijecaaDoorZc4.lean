/- The texts Md0, Md1, without what the claims do not use, laid together by a program of this session (wip/tools/bundle.py). Conditions: those of each theorem. -/
import Derived.Test.YtcpldcndhijecaaDoorZc3
namespace Go.Proofs.YtcpldcndhijecaaDoor.QT0
open Go.RowKit Go.Proofs.YtcpldcndhijecaaDoorW.PrintWords Go.Proofs.YtcpldcndhijecaaDoorW.PrintLast Go.Proofs.YtcpldcndhijecaaDoorW.PrintMore
set_option linter.unusedVariables false
set_option linter.unusedSimpArgs false
set_option maxHeartbeats 40000000 in
set_option maxRecDepth 100000 in
theorem mounts_0 (T : ByteArray) (l : List ByteArray) (A : Option Addr) (cap : Nat) (w : World) (hC : Kd.C Kd.string w A l.length l) (hTs : T.size ≤ 4611686018427387904) (k : Nat) (r : List Inf) (h : readL (fun _ => (false, false)) k T [] = some r) (hr : r.length < 900000000000) :
    Calls Tryd.prog 9 #[.string T, .agg #[.int .i64 0, .slice A l.length cap]] w fun e w' => ∃ v0 : Value, e = .returned (.tuple #[v0, .int .i64 0]) ∧ Kd.R kInf 44 w' w.heap.size (fun _ => True) v0 r ∧ Below w.heap.size w w' := by
  have HC := Aside0.mk hC
  have H' := Aside0.mk h
  clear hC h
  have hmf : ∀ (fn : Fn) (first cap : Array Value) (w : World), (Instr.makeFunc fn first cap).run Tryd.prog w = .ok (.func fn first cap) w := fun _ _ _ _ => rfl
  go_enter_defers Tryd.func9, Tryd.ntmps9
  go_upto_region 14 with (fail)
  clear hmf
  have HB := Aside0.mk (below_alloc (below_alloc (below_alloc (Below.refl w.heap.size w) (Obj.cells #[Value.int IntKind.i64 0, Value.slice A l.length cap] 30)) (Obj.cells #[Value.slice none 0 0] 22)) (Obj.cells #[Value.int IntKind.i64 0] 3))
  have h3s := Aside0.mk (alloc3_size w (Obj.cells #[Value.int IntKind.i64 0, Value.slice A l.length cap] 30) (Obj.cells #[Value.slice none 0 0] 22) (Obj.cells #[Value.int IntKind.i64 0] 3))
  have hb1 := Aside0.mk (alloc3_1 w (Obj.cells #[Value.int IntKind.i64 0, Value.slice A l.length cap] 30) (Obj.cells #[Value.slice none 0 0] 22) (Obj.cells #[Value.int IntKind.i64 0] 3))
  have hb2 := Aside0.mk (alloc3_2 w (Obj.cells #[Value.int IntKind.i64 0, Value.slice A l.length cap] 30) (Obj.cells #[Value.slice none 0 0] 22) (Obj.cells #[Value.int IntKind.i64 0] 3))
  generalize ((w.alloc (Obj.cells #[Value.int IntKind.i64 0, Value.slice A l.length cap] 30)).alloc (Obj.cells #[Value.slice none 0 0] 22)).alloc (Obj.cells #[Value.int IntKind.i64 0] 3) = W at HB h3s hb1 hb2 ⊢
  have hF := Aside0.mk (show FilterIs W (fun _ => (false, false)) .nilFunc from .inl ⟨rfl, fun _ => rfl⟩)
  go_wp2_with (go_at_call 26; refine (gm_calls _ _ k T r W hF.out hTs H'.out).mono ?_; rintro e W1 ⟨v7, rfl, HR, HB1⟩; obtain ⟨A7, c7, rfl, hc7, _⟩ := Kd.R_reads HR; replace HR := Aside0.mk HR; replace HB1 := Aside0.mk HB1)
  have Hb1 := Aside0.mk ((HB1.out.block _ (by rw [h3s.out]; omega)).trans hb1.out)
  have Hb2 := Aside0.mk ((HB1.out.block _ (by rw [h3s.out]; omega)).trans hb2.out)
  have HBw := Aside0.mk (below_over HB.out HB1.out)
  have HW := Aside0.mk (show w.heap.size ≤ W.heap.size by rw [h3s.out]; omega)
  clear hb1 hb2 HB HB1 hF H' h3s
  have HB2b := Aside0.mk (show w.heap.size ≤ w.heap.size + 1 + 1 by omega)
  have hne0 : ¬ w.heap.size + 1 + 1 = w.heap.size + 1 := by omega
  have hne1 : ¬ w.heap.size + 1 = w.heap.size + 1 + 1 := by omega
  have hB12 := Aside0.mk hne1
  generalize w.heap.size + 1 + 1 = B2 at Hb2 hne0 hne1 hB12 HB2b ⊢
  generalize hB1 : w.heap.size + 1 = B1 at Hb1 hne0 hne1 hB12 ⊢
  have HB1b := Aside0.mk (show w.heap.size ≤ B1 by omega)
  clear hB1
  have hrl : r.length ≤ 9223372036854775807 := by omega
  have hrb := Aside0.mk hr
  go_loopg [69] r.length (fun kq v69 w' => ∃ (i : Nat) (u : Value), v69 = .int .i64 i ∧ i + kq = r.length ∧ Aside0 (w'.heap[B1]? = some (.cells #[u] 22 (0, 0))) ∧ Aside0 (w'.heap[B2]? = some (.cells #[.int .i64 0] 3 (0, 0))) ∧ Aside0 (Kd.R kInf 44 w' w.heap.size (fun _ => True) u (r.take i)) ∧ Aside0 (Kd.R (kptr 61 kInf) 60 w' w.heap.size (fun _ => True) (.slice A7 r.length c7) r) ∧ Aside0 (Below w.heap.size w w'))
  case atStart => exact ⟨0, _, rfl, by omega, Hb1, Hb2, ⟨Kd.R_nil _ _ _ _ _⟩, ⟨Kd.R_lower HR.out HW.out⟩, HBw⟩
  case round =>
    clear Hb1 Hb2 HR HBw
    obtain ⟨i, u, rfl, hi, Hb1, Hb2, HU, HR, HBw⟩ := hrel
    obtain ⟨Au, cu, hu⟩ := Kd.R_slice HU.out
    rw [List.length_take, Nat.min_eq_left (by omega)] at hu
    subst hu
    have hcb := cell_of_blk Hb1.out 0 _ rfl
    have hfb := blk_frozen Hb1.out 0
    have hcb2 := cell_of_blk Hb2.out 0 _ rfl
    have hfb2 := blk_frozen Hb2.out 0
    cases gk with
    | zero =>
      obtain rfl : i = r.length := by omega
      go_wp2_with fail
      refine leaves_cons (f := 21) (args := #[.pointer (some ⟨B1, 0, none⟩), .pointer (some ⟨B2, 0, none⟩)]) (by simp) (by simp [go_sem]) ?_
      refine (catch_idle ⟨B1, 0, none⟩ ⟨B2, 0, none⟩ _).mono ?_
      rintro e u' w'' ⟨rfl, rfl, rfl⟩
      have hs1 : (wr.setCell ⟨B1, 0, none⟩ (Value.slice Au r.length cu)).cell? ⟨B1, 0, none⟩ = some (Value.slice Au r.length cu) := by simp [go_sem, hcb]
      have hcb2' : (wr.setCell ⟨B1, 0, none⟩ (Value.slice Au r.length cu)).cell? ⟨B2, 0, none⟩ = some (.int .i64 0) := by simp [go_sem, hcb2, hne0]
      have hs2 : ((wr.setCell ⟨B1, 0, none⟩ (Value.slice Au r.length cu)).setCell ⟨B2, 0, none⟩ (.int .i64 0)).cell? ⟨B2, 0, none⟩ = some (.int .i64 0) := by simp [go_sem, hcb2']
      have hB2' : (wr.setCell ⟨B1, 0, none⟩ (Value.slice Au r.length cu)).heap[B2]? = some (.cells #[.int .i64 0] 3 (0, 0)) := (Below.heap_setCell wr ⟨B1, 0, none⟩ _ B2 hne0).trans Hb2.out
      have hU := HU.out
      rw [List.take_length] at hU
      have R1 := Aside0.mk (Kd.R_set (Kd.R_set hU Hb1.out kinf22 0 (Value.slice Au r.length cu)) hB2' kinf3 0 (.int .i64 0))
      have BW := Aside0.mk (below_set (below_set HBw.out HB1b.out (v := Value.slice Au r.length cu) (j := 0)) HB2b.out (v := .int .i64 0) (j := 0))
      clear hU hB2'
      simp [Leaves, settle, results, Tryd.results9, go_sem, hs1, hs2]
      exact ⟨R1.out, BW.out⟩
    | succ k1 =>
      have hi0 : i < r.length := by omega
      obtain ⟨_, _, hC7⟩ := Kd.R_reads' HR.out
      obtain ⟨ad, cs, rfl, _, hK, hcell⟩ := Kd.C_get hC7 zInf (i : Int) (by omega) (by omega)
      clear hC7
      obtain ⟨b, rfl, hblk⟩ := ptr_open hK
      have hx := hcell 0 _ rfl
      have hx' : wr.cell? (ad.add (((i : Int)).toNat * 1 + 0)) = some (.pointer (some ⟨b, 0, none⟩)) := hx
      simp only [Int.toNat_natCast, Nat.mul_one, Nat.add_zero] at hx'
      clear hx hcell hK
      have g0 := cellInf' hblk 0 _ rfl
      have g1 := cellInf' hblk 1 _ rfl
      have g2 := cellInf' hblk 2 _ rfl
      have g3 := cellInf' hblk 3 _ rfl
      have g4 := cellInf' hblk 4 _ rfl
      have g5 := cellInf' hblk 5 _ rfl
      have g6 := cellInf' hblk 6 _ rfl
      have g7 := cellInf' hblk 7 _ rfl
      have g8 := cellInf' hblk 8 _ rfl
      have g9 := cellInf' hblk 9 _ rfl
      have g10 := cellInf' hblk 10 _ rfl
      have hblk := Aside0.mk hblk
      have hm := Aside0.mk (show r[i]? = some (r.getD ((i : Int)).toNat zInf) by rw [Int.toNat_natCast, List.getD_eq_getElem?_getD, List.getElem?_eq_getElem hi0]; rfl)
      generalize r.getD ((i : Int)).toNat zInf = m at *
      have hbr : (i : Int) < (r.length : Int) := by omega
      go_upto_region 20 with (fail)
      clear HC hcb2 hfb2 hne0 hne1 hr hTs hc7
      (try clear HC); (try clear hcb2); (try clear hfb2); (try clear hne0); (try clear hne1); (try clear hTs); (try clear hc7)
      have HR0 := HR
      refine wp_region_noPanic ?_
      refine Go.Last.wp_region_x (S := fun w' => w'.cell? ⟨B1, 0, none⟩ = some (Value.slice Au i cu) ∧ w'.cell? ⟨b, 0, none⟩ = some (.int .i64 m.f0) ∧ w'.cell? ⟨b, 1, none⟩ = some (.int .i64 m.f1) ∧ w'.cell? ⟨b, 2, none⟩ = some (.int .i64 m.f2) ∧ w'.cell? ⟨b, 3, none⟩ = some (.int .i64 m.f3) ∧ w'.cell? ⟨b, 4, none⟩ = some (.string m.f4) ∧ w'.cell? ⟨b, 5, none⟩ = some (.string m.f5) ∧ w'.cell? ⟨b, 6, none⟩ = some (.string m.f6) ∧ w'.cell? ⟨b, 7, none⟩ = some (.string m.f7) ∧ w'.cell? ⟨b, 8, none⟩ = some (.string m.f8) ∧ w'.cell? ⟨b, 9, none⟩ = some (.string m.f9) ∧ w'.cell? ⟨b, 10, none⟩ = some (.string m.f10)) (n := 48) (by kernel_rfl) ?_
      have HS : (fun w' => w'.cell? ⟨B1, 0, none⟩ = some (Value.slice Au i cu) ∧ w'.cell? ⟨b, 0, none⟩ = some (.int .i64 m.f0) ∧ w'.cell? ⟨b, 1, none⟩ = some (.int .i64 m.f1) ∧ w'.cell? ⟨b, 2, none⟩ = some (.int .i64 m.f2) ∧ w'.cell? ⟨b, 3, none⟩ = some (.int .i64 m.f3) ∧ w'.cell? ⟨b, 4, none⟩ = some (.string m.f4) ∧ w'.cell? ⟨b, 5, none⟩ = some (.string m.f5) ∧ w'.cell? ⟨b, 6, none⟩ = some (.string m.f6) ∧ w'.cell? ⟨b, 7, none⟩ = some (.string m.f7) ∧ w'.cell? ⟨b, 8, none⟩ = some (.string m.f8) ∧ w'.cell? ⟨b, 9, none⟩ = some (.string m.f9) ∧ w'.cell? ⟨b, 10, none⟩ = some (.string m.f10)) wr.drew := ⟨hcb, g0, g1, g2, g3, g4, g5, g6, g7, g8, g9, g10⟩
      have HUd := Aside0.mk (show Kd.R kInf 44 wr.drew w.heap.size (fun _ => True) (.slice Au i cu) (r.take i) from HU.out)
      have HRd := Aside0.mk (show Kd.R (kptr 61 kInf) 60 wr.drew w.heap.size (fun _ => True) (.slice (some ad) r.length c7) r from HR.out)
      have HBd := Aside0.mk (show Below w.heap.size w wr.drew from ⟨HBw.out.os, HBw.out.tape, HBw.out.output, HBw.out.size, HBw.out.block⟩)
      have Hb1d := Aside0.mk (show wr.drew.heap[B1]? = some (.cells #[Value.slice Au i cu] 22 (0, 0)) from Hb1.out)
      have Hb2d := Aside0.mk (show wr.drew.heap[B2]? = some (.cells #[.int .i64 0] 3 (0, 0)) from Hb2.out)
      have hblkd := Aside0.mk (show wr.drew.heap[b]? = some (.cells m.cs.toArray 61 (0, 0)) from hblk.out)
      change Go.Last.wpAnyX _ _ _ _ _ _ _ _ _ wr.drew
      clear hcb g0 g1 g2 g3 g4 g5 g6 g7 g8 g9 g10 hx' hfb HU HR HR0 HBw Hb1 Hb2 hblk
      generalize wr.drew = wd at *
      show Go.Last.wpAnyX _ _ _ _ _ _ 49 _ _ _
      iterate 46 (
        refine Go.Last.wpAnyX_at 49 rfl (by kernel_rfl) (by kernel_rfl) (by kernel_rfl) (by kernel_rfl) (fun _ _ _ h => h) (v := ?_) (Or.inl ⟨by rfl, ?_⟩) (by assumption) ?_
        rotate_left
        · intro w hSw
          (try dsimp only at hSw)
          go_split_ands
          go_simp
          first | done | with_reducible rfl
        (try simp only [Nat.reduceSub, Nat.reduceAdd, Act.put, List.setIfInBounds_toArray, List.set_cons_zero, List.set_cons_succ]))
      refine Go.Last.wpAnyX_one (i := 46) (o := { dst := some 119, op := Op.buildSlice 22 1 #[(0, Operand.tmp 118)], type := 22, pos := "units.go:154", after := #[{ on := 45, ground := Ground.data }], guard := none }) (by kernel_rfl) rfl ?_
      intro K' hK
      go_simp
      refine hK _ _ (fun _ => ?_) ?_
      · obtain ⟨s0, s1, s2, s3, s4, s5, s6, s7, s8, s9, s10, s11⟩ := HS
        exact ⟨keepcell (below_alloc (Below.refl _ _) _) s0, keepcell (below_alloc (Below.refl _ _) _) s1, keepcell (below_alloc (Below.refl _ _) _) s2, keepcell (below_alloc (Below.refl _ _) _) s3, keepcell (below_alloc (Below.refl _ _) _) s4, keepcell (below_alloc (Below.refl _ _) _) s5, keepcell (below_alloc (Below.refl _ _) _) s6, keepcell (below_alloc (Below.refl _ _) _) s7, keepcell (below_alloc (Below.refl _ _) _) s8, keepcell (below_alloc (Below.refl _ _) _) s9, keepcell (below_alloc (Below.refl _ _) _) s10, keepcell (below_alloc (Below.refl _ _) _) s11⟩
      (try simp only [Act.put, List.setIfInBounds_toArray, List.set_cons_zero, List.set_cons_succ])
      refine Go.Last.wpAnyX_one (i := 47) (o := { dst := some 120, op := Op.call { callee := Go.Callee.builtin Go.Builtin.append, args := #[Operand.tmp 73, Operand.tmp 119], argTypes := #[22, 22] }, type := 22, pos := "units.go:154", after := #[{ on := 0, ground := Ground.data }, { on := 46, ground := Ground.data }], guard := none }) (by kernel_rfl) rfl ?_
      intro K2 hK2
      have hlen := Aside0.mk (show (List.take i r).length = i by rw [List.length_take]; omega)
      have hneB := Aside0.mk (show some B1 ≠ (Value.slice Au i cu).ownBlock from Kd.R_ne HUd.out Hb1d.out (by decide))
      have hneI := Aside0.mk (show some b ≠ (Value.slice Au i cu).ownBlock from Kd.R_ne HUd.out hblkd.out (by decide))
      refine Kd.R_append_step (w0 := w) kInf w.heap.size (by rfl) (.tmp 73) (.tmp 119) 22 44 (.agg zInf.cs.toArray) 144 rfl (by kernel_rfl) (by kernel_rfl) (by decide) (by decide) (by decide) (Value.slice Au i cu) (r.take i) m m.cs (fun _ => True) (fun _ => False) rfl rfl (kInf_mkM _ _ _ m) (fun _ h => h.elim) (fun _ _ => trivial) HUd.out HBd.out HBd.out.size (by rw [hlen.out]; have := hrb.out; omega) ?_
      intro v1 w1 HR1 HB1 hg hat
      have hT : r.take i ++ [m] = r.take (i + 1) := by rw [List.take_add_one, hm.out]; rfl
      rw [hT] at HR1
      clear hT
      obtain ⟨Av, cv, hv⟩ := Kd.R_slice HR1
      rw [List.length_take, Nat.min_eq_left (by omega)] at hv
      subst hv
      have hsz := Aside0.mk (hg.size)
      have Hb1e := Aside0.mk ((hg.block _ (World.block_lt_of_cell? _ _ HS.1) hneB.out).trans Hb1d.out)
      obtain ⟨s0, s1, s2, s3, s4, s5, s6, s7, s8, s9, s10, s11⟩ := HS
      refine hK2 _ _ (fun _ => ⟨cell_grown hg s0 hneB.out, cell_grown hg s1 hneI.out, cell_grown hg s2 hneI.out, cell_grown hg s3 hneI.out, cell_grown hg s4 hneI.out, cell_grown hg s5 hneI.out, cell_grown hg s6 hneI.out, cell_grown hg s7 hneI.out, cell_grown hg s8 hneI.out, cell_grown hg s9 hneI.out, cell_grown hg s10 hneI.out, cell_grown hg s11 hneI.out⟩) ?_
      (try simp only [Act.put, List.setIfInBounds_toArray, List.set_cons_zero, List.set_cons_succ])
      refine Go.Last.wpAnyX_one (i := 48) (o := { dst := none, op := Op.store 22 (Operand.tmp 4) (Operand.tmp 120), type := 0, pos := "units.go:154", after := #[{ on := 47, ground := Ground.data }, { on := 47, ground := Ground.chain }, { on := 0, ground := Ground.phase }, { on := 1, ground := Ground.phase }, { on := 2, ground := Ground.phase }, { on := 3, ground := Ground.phase }, { on := 4, ground := Ground.phase }, { on := 5, ground := Ground.phase }, { on := 6, ground := Ground.phase }, { on := 7, ground := Ground.phase }, { on := 8, ground := Ground.phase }, { on := 9, ground := Ground.phase }, { on := 10, ground := Ground.phase }, { on := 11, ground := Ground.phase }, { on := 12, ground := Ground.phase }, { on := 13, ground := Ground.phase }, { on := 14, ground := Ground.phase }, { on := 15, ground := Ground.phase }, { on := 16, ground := Ground.phase }, { on := 17, ground := Ground.phase }, { on := 18, ground := Ground.phase }, { on := 19, ground := Ground.phase }, { on := 20, ground := Ground.phase }, { on := 21, ground := Ground.phase }, { on := 22, ground := Ground.phase }, { on := 23, ground := Ground.phase }, { on := 24, ground := Ground.phase }, { on := 25, ground := Ground.phase }, { on := 26, ground := Ground.phase }, { on := 27, ground := Ground.phase }, { on := 28, ground := Ground.phase }, { on := 29, ground := Ground.phase }, { on := 30, ground := Ground.phase }, { on := 31, ground := Ground.phase }, { on := 32, ground := Ground.phase }, { on := 33, ground := Ground.phase }, { on := 34, ground := Ground.phase }, { on := 35, ground := Ground.phase }, { on := 36, ground := Ground.phase }, { on := 37, ground := Ground.phase }, { on := 38, ground := Ground.phase }, { on := 39, ground := Ground.phase }, { on := 40, ground := Ground.phase }, { on := 41, ground := Ground.phase }, { on := 42, ground := Ground.phase }, { on := 43, ground := Ground.phase }, { on := 44, ground := Ground.phase }, { on := 45, ground := Ground.phase }, { on := 46, ground := Ground.phase }, { on := 47, ground := Ground.phase }], guard := none }) (by kernel_rfl) rfl ?_
      intro K3 hK3
      have hcB := cell_of_blk Hb1e.out 0 _ rfl
      have hfB := blk_frozen Hb1e.out 0
      go_simp
      refine hK3 _ _ (fun e => absurd rfl e) ?_
      refine Go.Last.wpAnyX_done (by kernel_rfl) ?_ _
      refine NoPanic.normal ?_
      have hne2 := Aside0.mk (show some B2 ≠ (Value.slice Au i cu).ownBlock from Kd.R_ne HUd.out Hb2d.out (by decide))
      have Hb2e := Aside0.mk ((hg.block _ (blk_lt Hb2d.out) hne2.out).trans Hb2d.out)
      have HRe := Aside0.mk (Kd.R_over HRd.out HUd.out kptr44 hg)
      have Q1 := Aside0.mk (blk_set Hb1e.out 0 (Value.slice Av (i + 1) cv))
      have Q2 := Aside0.mk ((Below.heap_setCell w1 ⟨B1, 0, none⟩ (Value.slice Av (i + 1) cv) B2 (fun e => hB12.out e.symm)).trans Hb2e.out)
      have Q3 := Aside0.mk (Kd.R_set HR1 Hb1e.out kinf22 0 (Value.slice Av (i + 1) cv))
      have Q4 := Aside0.mk (Kd.R_set HRe.out Hb1e.out kptr22 0 (Value.slice Av (i + 1) cv))
      have Q5 := Aside0.mk (below_set HB1 HB1b.out (v := Value.slice Av (i + 1) cv) (j := 0))
      have hw := Aside0.mk (show wrap64 ((i : Int) + 1) = ((i + 1 : Nat) : Int) by have := hrb.out; unfold wrap64; omega)
      clear hcB hfB HR1 HB1 s0 s1 s2 s3 s4 s5 s6 s7 s8 s9 s10 s11 HUd HRd HBd Hb1d Hb2d hblkd Hb1e Hb2e HRe hg hat hK hK2 hK3 hneB hneI hne2 hsz
      clear hlen
      generalize hw2 : w1.setCell ⟨B1, 0, none⟩ (Value.slice Av (i + 1) cv) = w2 at Q1 Q2 Q3 Q4 Q5 ⊢
      clear hw2
      go_wp2
      go_roundg k1
      case measure => omega
      case rel =>
        refine ⟨i + 1, _, by first | rfl | (simp; done) | (rw [← hw.out]), by omega, ⟨by simpa using Q1.out⟩, Q2, Q3, Q4, ⟨?_⟩⟩
        exact Q5.out
end Go.Proofs.YtcpldcndhijecaaDoor.QT0
namespace Go.Proofs.YtcpldcndhijecaaDoor.QT0
open Go.RowKit Go.Proofs.YtcpldcndhijecaaDoorW.PrintWords Go.Proofs.YtcpldcndhijecaaDoorW.PrintLast Go.Proofs.YtcpldcndhijecaaDoorW.PrintMore
set_option linter.unusedVariables false
set_option linter.unusedSimpArgs false
set_option maxHeartbeats 40000000 in
set_option maxRecDepth 100000 in
theorem mounts_1 (T : ByteArray) (l : List ByteArray) (A : Option Addr) (cap : Nat) (w : World) (hC : Kd.C Kd.string w A l.length l) (hTs : T.size ≤ 4611686018427387904) (k : Nat) (r : List Inf) (h : readL (types l) k T [] = some r) (hr : r.length < 900000000000) :
    Calls Tryd.prog 9 #[.string T, .agg #[.int .i64 1, .slice A l.length cap]] w fun e w' => ∃ v0 : Value, e = .returned (.tuple #[v0, .int .i64 0]) ∧ Kd.R kInf 44 w' w.heap.size (fun _ => True) v0 r ∧ Below w.heap.size w w' := by
  have HC := Aside0.mk hC
  have H' := Aside0.mk h
  clear hC h
  have hmf : ∀ (fn : Fn) (first cap : Array Value) (w : World), (Instr.makeFunc fn first cap).run Tryd.prog w = .ok (.func fn first cap) w := fun _ _ _ _ => rfl
  go_enter_defers Tryd.func9, Tryd.ntmps9
  go_upto_region 7 with (fail)
  clear hmf
  have HBa := Aside0.mk (below_alloc (below_alloc (below_alloc (Below.refl w.heap.size w) (Obj.cells #[Value.int IntKind.i64 1, Value.slice A l.length cap] 30)) (Obj.cells #[Value.slice none 0 0] 22)) (Obj.cells #[Value.int IntKind.i64 0] 3))
  have h3s' := Aside0.mk (alloc3_size w (Obj.cells #[Value.int IntKind.i64 1, Value.slice A l.length cap] 30) (Obj.cells #[Value.slice none 0 0] 22) (Obj.cells #[Value.int IntKind.i64 0] 3))
  have hba0 := Aside0.mk (alloc3_0 w (Obj.cells #[Value.int IntKind.i64 1, Value.slice A l.length cap] 30) (Obj.cells #[Value.slice none 0 0] 22) (Obj.cells #[Value.int IntKind.i64 0] 3))
  have hba1 := Aside0.mk (alloc3_1 w (Obj.cells #[Value.int IntKind.i64 1, Value.slice A l.length cap] 30) (Obj.cells #[Value.slice none 0 0] 22) (Obj.cells #[Value.int IntKind.i64 0] 3))
  have hba2 := Aside0.mk (alloc3_2 w (Obj.cells #[Value.int IntKind.i64 1, Value.slice A l.length cap] 30) (Obj.cells #[Value.slice none 0 0] 22) (Obj.cells #[Value.int IntKind.i64 0] 3))
  generalize ((w.alloc (Obj.cells #[Value.int IntKind.i64 1, Value.slice A l.length cap] 30)).alloc (Obj.cells #[Value.slice none 0 0] 22)).alloc (Obj.cells #[Value.int IntKind.i64 0] 3) = Wa at HBa h3s' hba0 hba1 hba2 ⊢
  have hpc := cell_of_blk hba0.out 1 _ rfl
  go_upto_region 14 with (go_at_call 22; refine (types_mk l A cap Wa (Kd.C_below HC.out HBa.out)).mono ?_; rintro e W0 ⟨fv, rfl, hF0, HB0⟩; have hF := Aside0.mk hF0; replace HB0 := Aside0.mk HB0; clear hF0)
  have hb1 := Aside0.mk ((HB0.out.block _ (by rw [h3s'.out]; omega)).trans hba1.out)
  have hb2 := Aside0.mk ((HB0.out.block _ (by rw [h3s'.out]; omega)).trans hba2.out)
  have HB := Aside0.mk (below_over HBa.out HB0.out)
  have h3s := Aside0.mk (show w.heap.size + 3 ≤ W0.heap.size from h3s'.out ▸ HB0.out.size)
  clear hpc hba0 hba1 hba2 HBa HB0 h3s'
  have W := 0
  clear W
  go_wp2_with (go_at_call 26; refine (gm_calls _ _ k T r W0 hF.out hTs H'.out).mono ?_; rintro e W1 ⟨v7, rfl, HR, HB1⟩; obtain ⟨A7, c7, rfl, hc7, _⟩ := Kd.R_reads HR; replace HR := Aside0.mk HR; replace HB1 := Aside0.mk HB1)
  have Hb1 := Aside0.mk ((HB1.out.block _ (by have := h3s.out; omega)).trans hb1.out)
  have Hb2 := Aside0.mk ((HB1.out.block _ (by have := h3s.out; omega)).trans hb2.out)
  have HBw := Aside0.mk (below_over HB.out HB1.out)
  have HW := Aside0.mk (show w.heap.size ≤ W0.heap.size by have := h3s.out; omega)
  clear hb1 hb2 HB HB1 hF H' h3s
  have HB2b := Aside0.mk (show w.heap.size ≤ w.heap.size + 1 + 1 by omega)
  have hne0 : ¬ w.heap.size + 1 + 1 = w.heap.size + 1 := by omega
  have hne1 : ¬ w.heap.size + 1 = w.heap.size + 1 + 1 := by omega
  have hB12 := Aside0.mk hne1
  generalize w.heap.size + 1 + 1 = B2 at Hb2 hne0 hne1 hB12 HB2b ⊢
  generalize hB1 : w.heap.size + 1 = B1 at Hb1 hne0 hne1 hB12 ⊢
  have HB1b := Aside0.mk (show w.heap.size ≤ B1 by omega)
  clear hB1
  have hrl : r.length ≤ 9223372036854775807 := by omega
  have hrb := Aside0.mk hr
  go_loopg [69] r.length (fun kq v69 w' => ∃ (i : Nat) (u : Value), v69 = .int .i64 i ∧ i + kq = r.length ∧ Aside0 (w'.heap[B1]? = some (.cells #[u] 22 (0, 0))) ∧ Aside0 (w'.heap[B2]? = some (.cells #[.int .i64 0] 3 (0, 0))) ∧ Aside0 (Kd.R kInf 44 w' w.heap.size (fun _ => True) u (r.take i)) ∧ Aside0 (Kd.R (kptr 61 kInf) 60 w' w.heap.size (fun _ => True) (.slice A7 r.length c7) r) ∧ Aside0 (Below w.heap.size w w'))
  case atStart => exact ⟨0, _, rfl, by omega, Hb1, Hb2, ⟨Kd.R_nil _ _ _ _ _⟩, ⟨Kd.R_lower HR.out HW.out⟩, HBw⟩
  case round =>
    clear Hb1 Hb2 HR HBw
    obtain ⟨i, u, rfl, hi, Hb1, Hb2, HU, HR, HBw⟩ := hrel
    obtain ⟨Au, cu, hu⟩ := Kd.R_slice HU.out
    rw [List.length_take, Nat.min_eq_left (by omega)] at hu
    subst hu
    have hcb := cell_of_blk Hb1.out 0 _ rfl
    have hfb := blk_frozen Hb1.out 0
    have hcb2 := cell_of_blk Hb2.out 0 _ rfl
    have hfb2 := blk_frozen Hb2.out 0
    cases gk with
    | zero =>
      obtain rfl : i = r.length := by omega
      go_wp2_with fail
      refine leaves_cons (f := 21) (args := #[.pointer (some ⟨B1, 0, none⟩), .pointer (some ⟨B2, 0, none⟩)]) (by simp) (by simp [go_sem]) ?_
      refine (catch_idle ⟨B1, 0, none⟩ ⟨B2, 0, none⟩ _).mono ?_
      rintro e u' w'' ⟨rfl, rfl, rfl⟩
      have hs1 : (wr.setCell ⟨B1, 0, none⟩ (Value.slice Au r.length cu)).cell? ⟨B1, 0, none⟩ = some (Value.slice Au r.length cu) := by simp [go_sem, hcb]
      have hcb2' : (wr.setCell ⟨B1, 0, none⟩ (Value.slice Au r.length cu)).cell? ⟨B2, 0, none⟩ = some (.int .i64 0) := by simp [go_sem, hcb2, hne0]
      have hs2 : ((wr.setCell ⟨B1, 0, none⟩ (Value.slice Au r.length cu)).setCell ⟨B2, 0, none⟩ (.int .i64 0)).cell? ⟨B2, 0, none⟩ = some (.int .i64 0) := by simp [go_sem, hcb2']
      have hB2' : (wr.setCell ⟨B1, 0, none⟩ (Value.slice Au r.length cu)).heap[B2]? = some (.cells #[.int .i64 0] 3 (0, 0)) := (Below.heap_setCell wr ⟨B1, 0, none⟩ _ B2 hne0).trans Hb2.out
      have hU := HU.out
      rw [List.take_length] at hU
      have R1 := Aside0.mk (Kd.R_set (Kd.R_set hU Hb1.out kinf22 0 (Value.slice Au r.length cu)) hB2' kinf3 0 (.int .i64 0))
      have BW := Aside0.mk (below_set (below_set HBw.out HB1b.out (v := Value.slice Au r.length cu) (j := 0)) HB2b.out (v := .int .i64 0) (j := 0))
      clear hU hB2'
      simp [Leaves, settle, results, Tryd.results9, go_sem, hs1, hs2]
      exact ⟨R1.out, BW.out⟩
    | succ k1 =>
      have hi0 : i < r.length := by omega
      obtain ⟨_, _, hC7⟩ := Kd.R_reads' HR.out
      obtain ⟨ad, cs, rfl, _, hK, hcell⟩ := Kd.C_get hC7 zInf (i : Int) (by omega) (by omega)
      clear hC7
      obtain ⟨b, rfl, hblk⟩ := ptr_open hK
      have hx := hcell 0 _ rfl
      have hx' : wr.cell? (ad.add (((i : Int)).toNat * 1 + 0)) = some (.pointer (some ⟨b, 0, none⟩)) := hx
      simp only [Int.toNat_natCast, Nat.mul_one, Nat.add_zero] at hx'
      clear hx hcell hK
      have g0 := cellInf' hblk 0 _ rfl
      have g1 := cellInf' hblk 1 _ rfl
      have g2 := cellInf' hblk 2 _ rfl
      have g3 := cellInf' hblk 3 _ rfl
      have g4 := cellInf' hblk 4 _ rfl
      have g5 := cellInf' hblk 5 _ rfl
      have g6 := cellInf' hblk 6 _ rfl
      have g7 := cellInf' hblk 7 _ rfl
      have g8 := cellInf' hblk 8 _ rfl
      have g9 := cellInf' hblk 9 _ rfl
      have g10 := cellInf' hblk 10 _ rfl
      have hblk := Aside0.mk hblk
      have hm := Aside0.mk (show r[i]? = some (r.getD ((i : Int)).toNat zInf) by rw [Int.toNat_natCast, List.getD_eq_getElem?_getD, List.getElem?_eq_getElem hi0]; rfl)
      generalize r.getD ((i : Int)).toNat zInf = m at *
      have hbr : (i : Int) < (r.length : Int) := by omega
      go_upto_region 20 with (fail)
      clear HC hcb2 hfb2 hne0 hne1 hr hTs hc7
      (try clear HC); (try clear hcb2); (try clear hfb2); (try clear hne0); (try clear hne1); (try clear hTs); (try clear hc7)
      have HR0 := HR
      refine wp_region_noPanic ?_
      refine Go.Last.wp_region_x (S := fun w' => w'.cell? ⟨B1, 0, none⟩ = some (Value.slice Au i cu) ∧ w'.cell? ⟨b, 0, none⟩ = some (.int .i64 m.f0) ∧ w'.cell? ⟨b, 1, none⟩ = some (.int .i64 m.f1) ∧ w'.cell? ⟨b, 2, none⟩ = some (.int .i64 m.f2) ∧ w'.cell? ⟨b, 3, none⟩ = some (.int .i64 m.f3) ∧ w'.cell? ⟨b, 4, none⟩ = some (.string m.f4) ∧ w'.cell? ⟨b, 5, none⟩ = some (.string m.f5) ∧ w'.cell? ⟨b, 6, none⟩ = some (.string m.f6) ∧ w'.cell? ⟨b, 7, none⟩ = some (.string m.f7) ∧ w'.cell? ⟨b, 8, none⟩ = some (.string m.f8) ∧ w'.cell? ⟨b, 9, none⟩ = some (.string m.f9) ∧ w'.cell? ⟨b, 10, none⟩ = some (.string m.f10)) (n := 48) (by kernel_rfl) ?_
      have HS : (fun w' => w'.cell? ⟨B1, 0, none⟩ = some (Value.slice Au i cu) ∧ w'.cell? ⟨b, 0, none⟩ = some (.int .i64 m.f0) ∧ w'.cell? ⟨b, 1, none⟩ = some (.int .i64 m.f1) ∧ w'.cell? ⟨b, 2, none⟩ = some (.int .i64 m.f2) ∧ w'.cell? ⟨b, 3, none⟩ = some (.int .i64 m.f3) ∧ w'.cell? ⟨b, 4, none⟩ = some (.string m.f4) ∧ w'.cell? ⟨b, 5, none⟩ = some (.string m.f5) ∧ w'.cell? ⟨b, 6, none⟩ = some (.string m.f6) ∧ w'.cell? ⟨b, 7, none⟩ = some (.string m.f7) ∧ w'.cell? ⟨b, 8, none⟩ = some (.string m.f8) ∧ w'.cell? ⟨b, 9, none⟩ = some (.string m.f9) ∧ w'.cell? ⟨b, 10, none⟩ = some (.string m.f10)) wr.drew := ⟨hcb, g0, g1, g2, g3, g4, g5, g6, g7, g8, g9, g10⟩
      have HUd := Aside0.mk (show Kd.R kInf 44 wr.drew w.heap.size (fun _ => True) (.slice Au i cu) (r.take i) from HU.out)
      have HRd := Aside0.mk (show Kd.R (kptr 61 kInf) 60 wr.drew w.heap.size (fun _ => True) (.slice (some ad) r.length c7) r from HR.out)
      have HBd := Aside0.mk (show Below w.heap.size w wr.drew from ⟨HBw.out.os, HBw.out.tape, HBw.out.output, HBw.out.size, HBw.out.block⟩)
      have Hb1d := Aside0.mk (show wr.drew.heap[B1]? = some (.cells #[Value.slice Au i cu] 22 (0, 0)) from Hb1.out)
      have Hb2d := Aside0.mk (show wr.drew.heap[B2]? = some (.cells #[.int .i64 0] 3 (0, 0)) from Hb2.out)
      have hblkd := Aside0.mk (show wr.drew.heap[b]? = some (.cells m.cs.toArray 61 (0, 0)) from hblk.out)
      change Go.Last.wpAnyX _ _ _ _ _ _ _ _ _ wr.drew
      clear hcb g0 g1 g2 g3 g4 g5 g6 g7 g8 g9 g10 hx' hfb HU HR HR0 HBw Hb1 Hb2 hblk
      generalize wr.drew = wd at *
      show Go.Last.wpAnyX _ _ _ _ _ _ 49 _ _ _
      iterate 46 (
        refine Go.Last.wpAnyX_at 49 rfl (by kernel_rfl) (by kernel_rfl) (by kernel_rfl) (by kernel_rfl) (fun _ _ _ h => h) (v := ?_) (Or.inl ⟨by rfl, ?_⟩) (by assumption) ?_
        rotate_left
        · intro w hSw
          (try dsimp only at hSw)
          go_split_ands
          go_simp
          first | done | with_reducible rfl
        (try simp only [Nat.reduceSub, Nat.reduceAdd, Act.put, List.setIfInBounds_toArray, List.set_cons_zero, List.set_cons_succ]))
      refine Go.Last.wpAnyX_one (i := 46) (o := { dst := some 119, op := Op.buildSlice 22 1 #[(0, Operand.tmp 118)], type := 22, pos := "units.go:154", after := #[{ on := 45, ground := Ground.data }], guard := none }) (by kernel_rfl) rfl ?_
      intro K' hK
      go_simp
      refine hK _ _ (fun _ => ?_) ?_
      · obtain ⟨s0, s1, s2, s3, s4, s5, s6, s7, s8, s9, s10, s11⟩ := HS
        exact ⟨keepcell (below_alloc (Below.refl _ _) _) s0, keepcell (below_alloc (Below.refl _ _) _) s1, keepcell (below_alloc (Below.refl _ _) _) s2, keepcell (below_alloc (Below.refl _ _) _) s3, keepcell (below_alloc (Below.refl _ _) _) s4, keepcell (below_alloc (Below.refl _ _) _) s5, keepcell (below_alloc (Below.refl _ _) _) s6, keepcell (below_alloc (Below.refl _ _) _) s7, keepcell (below_alloc (Below.refl _ _) _) s8, keepcell (below_alloc (Below.refl _ _) _) s9, keepcell (below_alloc (Below.refl _ _) _) s10, keepcell (below_alloc (Below.refl _ _) _) s11⟩
      (try simp only [Act.put, List.setIfInBounds_toArray, List.set_cons_zero, List.set_cons_succ])
      refine Go.Last.wpAnyX_one (i := 47) (o := { dst := some 120, op := Op.call { callee := Go.Callee.builtin Go.Builtin.append, args := #[Operand.tmp 73, Operand.tmp 119], argTypes := #[22, 22] }, type := 22, pos := "units.go:154", after := #[{ on := 0, ground := Ground.data }, { on := 46, ground := Ground.data }], guard := none }) (by kernel_rfl) rfl ?_
      intro K2 hK2
      have hlen := Aside0.mk (show (List.take i r).length = i by rw [List.length_take]; omega)
      have hneB := Aside0.mk (show some B1 ≠ (Value.slice Au i cu).ownBlock from Kd.R_ne HUd.out Hb1d.out (by decide))
      have hneI := Aside0.mk (show some b ≠ (Value.slice Au i cu).ownBlock from Kd.R_ne HUd.out hblkd.out (by decide))
      refine Kd.R_append_step (w0 := w) kInf w.heap.size (by rfl) (.tmp 73) (.tmp 119) 22 44 (.agg zInf.cs.toArray) 144 rfl (by kernel_rfl) (by kernel_rfl) (by decide) (by decide) (by decide) (Value.slice Au i cu) (r.take i) m m.cs (fun _ => True) (fun _ => False) rfl rfl (kInf_mkM _ _ _ m) (fun _ h => h.elim) (fun _ _ => trivial) HUd.out HBd.out HBd.out.size (by rw [hlen.out]; have := hrb.out; omega) ?_
      intro v1 w1 HR1 HB1 hg hat
      have hT : r.take i ++ [m] = r.take (i + 1) := by rw [List.take_add_one, hm.out]; rfl
      rw [hT] at HR1
      clear hT
      obtain ⟨Av, cv, hv⟩ := Kd.R_slice HR1
      rw [List.length_take, Nat.min_eq_left (by omega)] at hv
      subst hv
      have hsz := Aside0.mk (hg.size)
      have Hb1e := Aside0.mk ((hg.block _ (World.block_lt_of_cell? _ _ HS.1) hneB.out).trans Hb1d.out)
      obtain ⟨s0, s1, s2, s3, s4, s5, s6, s7, s8, s9, s10, s11⟩ := HS
      refine hK2 _ _ (fun _ => ⟨cell_grown hg s0 hneB.out, cell_grown hg s1 hneI.out, cell_grown hg s2 hneI.out, cell_grown hg s3 hneI.out, cell_grown hg s4 hneI.out, cell_grown hg s5 hneI.out, cell_grown hg s6 hneI.out, cell_grown hg s7 hneI.out, cell_grown hg s8 hneI.out, cell_grown hg s9 hneI.out, cell_grown hg s10 hneI.out, cell_grown hg s11 hneI.out⟩) ?_
      (try simp only [Act.put, List.setIfInBounds_toArray, List.set_cons_zero, List.set_cons_succ])
      refine Go.Last.wpAnyX_one (i := 48) (o := { dst := none, op := Op.store 22 (Operand.tmp 4) (Operand.tmp 120), type := 0, pos := "units.go:154", after := #[{ on := 47, ground := Ground.data }, { on := 47, ground := Ground.chain }, { on := 0, ground := Ground.phase }, { on := 1, ground := Ground.phase }, { on := 2, ground := Ground.phase }, { on := 3, ground := Ground.phase }, { on := 4, ground := Ground.phase }, { on := 5, ground := Ground.phase }, { on := 6, ground := Ground.phase }, { on := 7, ground := Ground.phase }, { on := 8, ground := Ground.phase }, { on := 9, ground := Ground.phase }, { on := 10, ground := Ground.phase }, { on := 11, ground := Ground.phase }, { on := 12, ground := Ground.phase }, { on := 13, ground := Ground.phase }, { on := 14, ground := Ground.phase }, { on := 15, ground := Ground.phase }, { on := 16, ground := Ground.phase }, { on := 17, ground := Ground.phase }, { on := 18, ground := Ground.phase }, { on := 19, ground := Ground.phase }, { on := 20, ground := Ground.phase }, { on := 21, ground := Ground.phase }, { on := 22, ground := Ground.phase }, { on := 23, ground := Ground.phase }, { on := 24, ground := Ground.phase }, { on := 25, ground := Ground.phase }, { on := 26, ground := Ground.phase }, { on := 27, ground := Ground.phase }, { on := 28, ground := Ground.phase }, { on := 29, ground := Ground.phase }, { on := 30, ground := Ground.phase }, { on := 31, ground := Ground.phase }, { on := 32, ground := Ground.phase }, { on := 33, ground := Ground.phase }, { on := 34, ground := Ground.phase }, { on := 35, ground := Ground.phase }, { on := 36, ground := Ground.phase }, { on := 37, ground := Ground.phase }, { on := 38, ground := Ground.phase }, { on := 39, ground := Ground.phase }, { on := 40, ground := Ground.phase }, { on := 41, ground := Ground.phase }, { on := 42, ground := Ground.phase }, { on := 43, ground := Ground.phase }, { on := 44, ground := Ground.phase }, { on := 45, ground := Ground.phase }, { on := 46, ground := Ground.phase }, { on := 47, ground := Ground.phase }], guard := none }) (by kernel_rfl) rfl ?_
      intro K3 hK3
      have hcB := cell_of_blk Hb1e.out 0 _ rfl
      have hfB := blk_frozen Hb1e.out 0
      go_simp
      refine hK3 _ _ (fun e => absurd rfl e) ?_
      refine Go.Last.wpAnyX_done (by kernel_rfl) ?_ _
      refine NoPanic.normal ?_
      have hne2 := Aside0.mk (show some B2 ≠ (Value.slice Au i cu).ownBlock from Kd.R_ne HUd.out Hb2d.out (by decide))
      have Hb2e := Aside0.mk ((hg.block _ (blk_lt Hb2d.out) hne2.out).trans Hb2d.out)
      have HRe := Aside0.mk (Kd.R_over HRd.out HUd.out kptr44 hg)
      have Q1 := Aside0.mk (blk_set Hb1e.out 0 (Value.slice Av (i + 1) cv))
      have Q2 := Aside0.mk ((Below.heap_setCell w1 ⟨B1, 0, none⟩ (Value.slice Av (i + 1) cv) B2 (fun e => hB12.out e.symm)).trans Hb2e.out)
      have Q3 := Aside0.mk (Kd.R_set HR1 Hb1e.out kinf22 0 (Value.slice Av (i + 1) cv))
      have Q4 := Aside0.mk (Kd.R_set HRe.out Hb1e.out kptr22 0 (Value.slice Av (i + 1) cv))
      have Q5 := Aside0.mk (below_set HB1 HB1b.out (v := Value.slice Av (i + 1) cv) (j := 0))
      have hw := Aside0.mk (show wrap64 ((i : Int) + 1) = ((i + 1 : Nat) : Int) by have := hrb.out; unfold wrap64; omega)
      clear hcB hfB HR1 HB1 s0 s1 s2 s3 s4 s5 s6 s7 s8 s9 s10 s11 HUd HRd HBd Hb1d Hb2d hblkd Hb1e Hb2e HRe hg hat hK hK2 hK3 hneB hneI hne2 hsz
      clear hlen
      generalize hw2 : w1.setCell ⟨B1, 0, none⟩ (Value.slice Av (i + 1) cv) = w2 at Q1 Q2 Q3 Q4 Q5 ⊢
      clear hw2
      go_wp2
      go_roundg k1
      case measure => omega
      case rel =>
        refine ⟨i + 1, _, by first | rfl | (simp; done) | (rw [← hw.out]), by omega, ⟨by simpa using Q1.out⟩, Q2, Q3, Q4, ⟨?_⟩⟩
        exact Q5.out
end Go.Proofs.YtcpldcndhijecaaDoor.QT0
