/- procfs.ParseProcSchedstat at three numbers, impl.TaskSchedstat. Conditions: see each theorem. -/
import Derived.Test.YtabfehcpcjcomaaDoorPv
import Derived.Test.YtabfehcpcjcomaaDoorQP1x2
namespace Go.Proofs.YtabfehcpcjcomaaDoor.R
open Go.RowKit Go.Proofs.YtabfehcpcjcomaaDoor.QP1 Go.Proofs.YtabfehcpcjcomaaDoorW.PrintWords Go.Proofs.YtabfehcpcjcomaaDoorW.PrintLast Go.Proofs.YtabfehcpcjcomaaDoorW.PrintMore
set_option linter.unusedVariables false
set_option linter.unusedSimpArgs false
theorem parse_uint (s : ByteArray) (hmax : s.size ≤ 9223372036854775806) (u : Nat) (h : Lib.parseUintB 64 s.data.toList = .ok u) (w : World) :
    Calls Tryd.prog 24 #[.string s, .int .i64 10, .int .i64 64] w fun e w' => e = .returned (.tuple #[.int .u64 u, .nilIface]) ∧ Below w.heap.size w w' :=
  (Tryd.strconv_ParseUint_10_at64_ok s hmax u h w).mono fun e w' ⟨he, hw⟩ => ⟨he, by rcases hw with rfl | rfl; exact Below.refl _ _; exact below_bytes _ _ _⟩
theorem results_ctl {fn : Func} {p q : Tmp} {ty : TypeId} (h : fn.results = #[.cell p ty, .tmp q]) (tmps : Array Value) (w : World) (b1 : Nat) (u v : Value) (hp : tmps.getD p undef = .pointer (some ⟨b1, 0, none⟩)) (hq : tmps.getD q undef = v)
    (h1 : Sem.run Tryd.prog (loadVar ty ⟨b1, 0, none⟩) w = .ok u w) : Sem.run Tryd.prog (results fn tmps) w = .ok (.tuple #[u, v]) w := by
  have hp' : tmps[p]?.getD undef = .pointer (some ⟨b1, 0, none⟩) := by simpa using hp
  have hq' : tmps[q]?.getD undef = v := by simpa using hq
  simp [results, h, hp', hq', asAddr, h1]
theorem load34 {W : World} {b : Nat} {cs : Array Value} (hb : W.heap[b]? = some (.cells cs 34 (0, 0))) (hs : cs.size = 3) : Sem.run Tryd.prog (loadVar 34 ⟨b, 0, none⟩) W = .ok (.agg cs) W :=
  run_loadVar_row (P := Tryd.prog) W b 34 34 cs (0, 0) _ hb Tryd.underlying34 rfl (by rw [hs]; kernel_rfl)
theorem put3 {W : World} {b t : Nat} {x0 x1 x2 : Value} {a c d : Value} (hb : W.heap[b]? = some (.cells #[x0, x1, x2] t (0, 0))) :
    (((W.setCell ⟨b, 0, none⟩ a).setCell ⟨b, 1, none⟩ c).setCell ⟨b, 2, none⟩ d).heap[b]? = some (.cells #[a, c, d] t (0, 0)) := by
  have h1 := blk_set hb 0 a; have h2 := blk_set h1 1 c; have h3 := blk_set h2 2 d; rw [h3]; rfl
/-- A text of three numbers. -/
structure Three (T : ByteArray) (a b c : Nat) : Prop where
  m : ∃ k m s1 s2 s3, procfs_zzNumbers.f k T ⟨#[]⟩ 3 = some [m, s1, s2, s3] ∧ (s1.size ≤ 9223372036854775806 ∧ Lib.parseUintB 64 s1.data.toList = .ok a) ∧ (s2.size ≤ 9223372036854775806 ∧ Lib.parseUintB 64 s2.data.toList = .ok b) ∧ (s3.size ≤ 9223372036854775806 ∧ Lib.parseUintB 64 s3.data.toList = .ok c)
set_option maxHeartbeats 4000000 in
set_option maxRecDepth 100000 in
theorem parse_sched (T : ByteArray) (a b c : Nat) (h : Three T a b c) (w : World) :
    Calls Tryd.prog 14 #[.string T] w fun e w' => e = .returned (.tuple #[.agg #[.int .u64 a, .int .u64 b, .int .u64 c], .nilIface]) ∧ Below w.heap.size w w' := by
  obtain ⟨k, m, s1, s2, s3, hz, ⟨z1, p1⟩, ⟨z2, p2⟩, ⟨z3, p3⟩⟩ := h.m
  have HZ := Aside0.mk hz
  have P1 := Aside0.mk (And.intro z1 p1)
  have P2 := Aside0.mk (And.intro z2 p2)
  have P3 := Aside0.mk (And.intro z3 p3)
  have hnn : ∀ (w : World), (binOp .neq 36 .nilIface .nilIface).run Tryd.prog w = .ok (.bool false) w := fun _ => rfl
  have hsn : ∀ (w : World) (a : Addr) (n c : Nat), (binOp .neq 56 (.slice (some a) n c) (.slice none 0 0)).run Tryd.prog w = .ok (.bool true) w := fun _ _ _ _ => rfl
  clear h hz z1 z2 z3 p1 p2 p3
  obtain ⟨hb0, hb1, hb2⟩ := alloc2_facts w (.cells #[.int .u64 0, .int .u64 0, .int .u64 0] 34) (.cells #[.int .u64 0, .int .u64 0, .int .u64 0] 34)
  have HB := Aside0.mk hb0
  have Hb1 := Aside0.mk hb1
  have Hb2 := Aside0.mk hb2
  clear hb0 hb1 hb2
  go_enter Tryd.func14, Tryd.ntmps14
  go_upto_region 2 with (fail)
  generalize ((w.alloc (.cells #[.int .u64 0, .int .u64 0, .int .u64 0] 34)).alloc (.cells #[.int .u64 0, .int .u64 0, .int .u64 0] 34)) = W at HB Hb1 Hb2 ⊢
  go_upto_region 5 with (first
    | (go_at_call 23; refine (procfs_zzNumbers.calls k T ⟨#[]⟩ 3 _ _ HZ.out).mono ?_; rintro e w1 ⟨v, rfl, hR, hb⟩; obtain ⟨g, cap, hv, _⟩ := Kd.R_form hR (by simp); subst hv; have HR := Aside0.mk (Kd.R_bound hR); have HB1 := Aside0.mk hb; clear hR hb))
  have hR := HR.out
  have m1 : w1.cell? ⟨g, 1, none⟩ = some (.string s1) := (Kd.R_cell (⟨#[]⟩ : ByteArray) hR 1 (by decide) (by simp)).1
  have B4 := Aside0.mk (blk_below Hb2.out HB1.out)
  have B2 := Aside0.mk (blk_below Hb1.out HB1.out)
  clear hR
  go_upto_region 6 with (first
    | (go_at_call 24; refine (parse_uint s1 P1.out.1 a P1.out.2 _).mono ?_; rintro e w2 ⟨rfl, hb⟩; have HB2 := Aside0.mk hb; have B42 := Aside0.mk (blk_below B4.out hb); have B22 := Aside0.mk (blk_below B2.out hb); have hc := cell_of_blk B42.out 0 (.int .u64 0) rfl; have hf := blk_frozen B42.out 0; have HR2 := Aside0.mk (Kd.R_below HR.out hb); clear hb))
  have m2 : w2.cell? ⟨g, 2, none⟩ = some (.string s2) := (Kd.R_cell (⟨#[]⟩ : ByteArray) HR2.out 2 (by decide) (by simp)).1
  have HWs := Aside0.mk (show w.heap.size + 1 < W.heap.size from blk_lt Hb2.out)
  have R3 := Aside0.mk (Kd.R_far (p := ⟨w.heap.size + 1, 0, none⟩) HR2.out (fun k hk => by have := hk.2.1; have := HWs.out; show k ≠ w.heap.size + 1; omega) (.int .u64 a))
  have B43 := Aside0.mk (show (w2.setCell ⟨w.heap.size + 1, 0, none⟩ (.int .u64 a)).heap[w.heap.size + 1]? = some (.cells #[.int .u64 a, .int .u64 0, .int .u64 0] 34 (0, 0)) from blk_set B42.out 0 (.int .u64 a))
  have B23 := Aside0.mk (blk_far B22.out (p := ⟨w.heap.size + 1, 0, none⟩) (by show w.heap.size ≠ w.heap.size + 1; omega) (.int .u64 a))
  have E3 := Aside0.mk (below_set (keepB (keepB HB.out HB1.out (Nat.le_refl _)) HB2.out (Nat.le_refl _)) (by omega) : Below w.heap.size w (w2.setCell ⟨w.heap.size + 1, 0, none⟩ (.int .u64 a)))
  clear B4 B2 B42 B22 HB HB1 HB2 HR HR2 m1 m2 hc hf Hb1 Hb2
  generalize (w2.setCell ⟨w.heap.size + 1, 0, none⟩ (.int .u64 a)) = W3 at R3 B43 B23 E3 ⊢
  have m2 : W3.cell? ⟨g, 2, none⟩ = some (.string s2) := (Kd.R_cell (⟨#[]⟩ : ByteArray) R3.out 2 (by decide) (by simp)).1
  go_upto_region 9 with (first
    | (go_at_call 24; refine (parse_uint s2 P2.out.1 b P2.out.2 _).mono ?_; rintro e w4 ⟨rfl, hb⟩; have E4 := Aside0.mk (keepB E3.out hb (Nat.le_refl _)); have B44 := Aside0.mk (blk_below B43.out hb); have B24 := Aside0.mk (blk_below B23.out hb); have hc := cell_of_blk B44.out 1 (.int .u64 0) rfl; have hf := blk_frozen B44.out 1; have R4 := Aside0.mk (Kd.R_below R3.out hb); clear hb))
  have R5 := Aside0.mk (Kd.R_far (p := ⟨w.heap.size + 1, 1, none⟩) R4.out (fun k hk => by have := hk.2.1; have := HWs.out; show k ≠ w.heap.size + 1; omega) (.int .u64 b))
  have B45 := Aside0.mk (show (w4.setCell ⟨w.heap.size + 1, 1, none⟩ (.int .u64 b)).heap[w.heap.size + 1]? = some (.cells #[.int .u64 a, .int .u64 b, .int .u64 0] 34 (0, 0)) from blk_set B44.out 1 (.int .u64 b))
  have B25 := Aside0.mk (blk_far B24.out (p := ⟨w.heap.size + 1, 1, none⟩) (by show w.heap.size ≠ w.heap.size + 1; omega) (.int .u64 b))
  have E5 := Aside0.mk (below_set E4.out (by omega) : Below w.heap.size w (w4.setCell ⟨w.heap.size + 1, 1, none⟩ (.int .u64 b)))
  clear B43 B23 B44 B24 E3 E4 R3 R4 m2 hc hf
  generalize (w4.setCell ⟨w.heap.size + 1, 1, none⟩ (.int .u64 b)) = W5 at R5 B45 B25 E5 ⊢
  have m3 : W5.cell? ⟨g, 3, none⟩ = some (.string s3) := (Kd.R_cell (⟨#[]⟩ : ByteArray) R5.out 3 (by decide) (by simp)).1
  go_upto_region 12 with (first
    | (go_at_call 24; refine (parse_uint s3 P3.out.1 c P3.out.2 _).mono ?_; rintro e w6 ⟨rfl, hb⟩; have E6 := Aside0.mk (keepB E5.out hb (Nat.le_refl _)); have B46 := Aside0.mk (blk_below B45.out hb); have B26 := Aside0.mk (blk_below B25.out hb); have hc := cell_of_blk B46.out 2 (.int .u64 0) rfl; have hf := blk_frozen B46.out 2; have R6 := Aside0.mk (Kd.R_below R5.out hb); clear hb))
  have B47 := Aside0.mk (show (w6.setCell ⟨w.heap.size + 1, 2, none⟩ (.int .u64 c)).heap[w.heap.size + 1]? = some (.cells #[.int .u64 a, .int .u64 b, .int .u64 c] 34 (0, 0)) from blk_set B46.out 2 (.int .u64 c))
  have B27 := Aside0.mk (blk_far B26.out (p := ⟨w.heap.size + 1, 2, none⟩) (by show w.heap.size ≠ w.heap.size + 1; omega) (.int .u64 c))
  have E7 := Aside0.mk (below_set E6.out (by omega) : Below w.heap.size w (w6.setCell ⟨w.heap.size + 1, 2, none⟩ (.int .u64 c)))
  clear B45 B25 B46 B26 E5 E6 R5 R6 m3 hc hf
  generalize (w6.setCell ⟨w.heap.size + 1, 2, none⟩ (.int .u64 c)) = W7 at B47 B27 E7 ⊢
  have x0 := cell_of_blk B47.out 0 (.int .u64 a) rfl
  have x1 := cell_of_blk B47.out 1 (.int .u64 b) rfl
  have x2 := cell_of_blk B47.out 2 (.int .u64 c) rfl
  have y0 := cell_of_blk B27.out 0 (.int .u64 0) rfl
  have y1 := cell_of_blk B27.out 1 (.int .u64 0) rfl
  have y2 := cell_of_blk B27.out 2 (.int .u64 0) rfl
  have f0 := blk_frozen B27.out 0
  have f1 := blk_frozen B27.out 1
  have f2 := blk_frozen B27.out 2
  go_wp2
  exact bodyPost_ret (results_ctl rfl _ _ w.heap.size _ _ rfl rfl (load34 (put3 B27.out) rfl)) rfl ⟨rfl, below_set (below_set (below_set E7.out (Nat.le_refl _)) (Nat.le_refl _)) (Nat.le_refl _)⟩
set_option maxHeartbeats 4000000 in
set_option maxRecDepth 100000 in
theorem parse_sched_pub (T : ByteArray) (a b c : Nat) (h : Three T a b c) (w : World) :
    Calls Tryd.prog 8 #[.string T] w fun e w' => e = .returned (.tuple #[.agg #[.int .u64 a, .int .u64 b, .int .u64 c], .nilIface]) ∧ Below w.heap.size w w' := by
  have hb1 := blk_new w (.cells #[.int .u64 0, .int .u64 0, .int .u64 0] 34)
  have hB := below_alloc (Below.refl w.heap.size w) (.cells #[.int .u64 0, .int .u64 0, .int .u64 0] 34)
  have HB := Aside0.mk hB
  have Hb1 := Aside0.mk hb1
  clear hB hb1
  go_enter Tryd.func8, Tryd.ntmps8
  go_upto_region 1 with (fail)
  generalize (w.alloc (.cells #[.int .u64 0, .int .u64 0, .int .u64 0] 34)) = W at HB Hb1 ⊢
  go_wp2_with (first
    | (go_at_call 14; refine (parse_sched T a b c h _).mono ?_; rintro e w2 ⟨rfl, hb⟩; have E := Aside0.mk (keepB HB.out hb (Nat.le_refl _)); have B2 := Aside0.mk (blk_below Hb1.out hb); clear hb;
       have y0 := cell_of_blk B2.out 0 (.int .u64 0) rfl; have y1 := cell_of_blk B2.out 1 (.int .u64 0) rfl; have y2 := cell_of_blk B2.out 2 (.int .u64 0) rfl; have f0 := blk_frozen B2.out 0; have f1 := blk_frozen B2.out 1; have f2 := blk_frozen B2.out 2))
  exact bodyPost_ret (results_ctl rfl _ _ w.heap.size _ _ rfl rfl (load34 (put3 B2.out) rfl)) rfl ⟨rfl, below_set (below_set (below_set E.out (Nat.le_refl _)) (Nat.le_refl _)) (Nat.le_refl _)⟩
set_option maxHeartbeats 4000000 in
set_option maxRecDepth 100000 in
/-- The door's reader: the text lies in the variable it has caught. -/
theorem task_read (T : ByteArray) (a b c : Nat) (h : Three T a b c) (p : Nat) (w : World) (hp : w.cell? ⟨p, 0, none⟩ = some (.string T)) :
    Calls Tryd.prog 7 #[.pointer (some ⟨p, 0, none⟩)] w fun e w' => e = .returned (.tuple #[.agg #[.int .u64 a, .int .u64 b, .int .u64 c], .nilIface]) ∧ Below w.heap.size w w' := by
  have hb1 := blk_new w (.cells #[.int .u64 0, .int .u64 0, .int .u64 0] 34)
  have hB := below_alloc (Below.refl w.heap.size w) (.cells #[.int .u64 0, .int .u64 0, .int .u64 0] 34)
  have hp1 := Aside0.mk (cell_below hB hp)
  have HB := Aside0.mk hB
  have Hb1 := Aside0.mk hb1
  clear hB hb1 hp
  go_enter Tryd.func7, Tryd.ntmps7
  go_upto_region 1 with (fail)
  generalize (w.alloc (.cells #[.int .u64 0, .int .u64 0, .int .u64 0] 34)) = W at HB Hb1 hp1 ⊢
  have hp2 := hp1.out
  go_wp2_with (first
    | (go_at_call 8; refine (parse_sched_pub T a b c h _).mono ?_; rintro e w2 ⟨rfl, hb⟩; have E := Aside0.mk (keepB HB.out hb (Nat.le_refl _)); have B2 := Aside0.mk (blk_below Hb1.out hb); clear hb;
       have y0 := cell_of_blk B2.out 0 (.int .u64 0) rfl; have y1 := cell_of_blk B2.out 1 (.int .u64 0) rfl; have y2 := cell_of_blk B2.out 2 (.int .u64 0) rfl; have f0 := blk_frozen B2.out 0; have f1 := blk_frozen B2.out 1; have f2 := blk_frozen B2.out 2))
  exact bodyPost_ret (results_ctl rfl _ _ w.heap.size _ _ rfl rfl (load34 (put3 B2.out) rfl)) rfl ⟨rfl, below_set (below_set (below_set E.out (Nat.le_refl _)) (Nat.le_refl _)) (Nat.le_refl _)⟩
end Go.Proofs.YtabfehcpcjcomaaDoor.R
