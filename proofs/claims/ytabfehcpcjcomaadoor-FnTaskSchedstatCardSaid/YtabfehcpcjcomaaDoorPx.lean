/- impl.TaskSchedstat at a text of three numbers. Conditions: see each theorem. -/
import Derived.Test.YtabfehcpcjcomaaDoorPw
namespace Go.Proofs.YtabfehcpcjcomaaDoor.R
open Go.RowKit Go.Proofs.YtabfehcpcjcomaaDoor.QP1 Go.Proofs.YtabfehcpcjcomaaDoorW.PrintWords Go.Proofs.YtabfehcpcjcomaaDoorW.PrintLast Go.Proofs.YtabfehcpcjcomaaDoorW.PrintMore
set_option linter.unusedVariables false
set_option linter.unusedSimpArgs false
theorem catch15 (p q : Addr) (w : World) :
    CallsD Tryd.prog 15 #[.pointer (some p), .pointer (some q)] .returning w fun e u' w' => e = .returned (.tuple #[]) ∧ u' = .returning ∧ w' = w := by
  refine callsD_of_wpS Tryd.func15 rfl fun c₀ cs hu => ?_
  apply wpS_seq
  apply wpS_region
  simp [wpOpsS, go_sem, recoverD, hu, Tryd.ntmps15, Exit.thenS]
  refine wpS_cond (t := false) (by simp [Act.eval, Array.replicate]) ?_
  simp only [Bool.false_eq_true, if_false]
  refine wpS_of_wp (wp_skip ?_)
  cases c₀
  simp_all [bodyPostS, results, Tryd.results15]
/-- A new block of nodes, whole. -/
theorem new8 (w : World) : Below w.heap.size w (w.alloc (.cells #[.string ⟨#[]⟩, .int .i64 0, .bool false, .int .i64 0, .int .u64 0, .float .f64 0, .string ⟨#[]⟩, .slice none 0 0] 26)) ∧ (w.alloc (.cells #[.string ⟨#[]⟩, .int .i64 0, .bool false, .int .i64 0, .int .u64 0, .float .f64 0, .string ⟨#[]⟩, .slice none 0 0] 26)).heap[w.heap.size]? = some (.cells z8 26 (0, 0)) ∧ (w.alloc (.cells #[.string ⟨#[]⟩, .int .i64 0, .bool false, .int .i64 0, .int .u64 0, .float .f64 0, .string ⟨#[]⟩, .slice none 0 0] 26)).heap.size = w.heap.size + 1 :=
  ⟨below_alloc (Below.refl _ _) _, blk_new _ _, by simp⟩
set_option maxHeartbeats 4000000 in
set_option maxRecDepth 100000 in
theorem sched_node (a b c : Nat) (w : World) (x : S26) (hx : impl_procfsProcSchedstat.f ⟨#[]⟩ a b c = some (x.f0, x.f1, x.f2, x.f3, x.f4, x.f5, x.f6, x.f7)) :
    Calls Tryd.prog 10 #[.agg #[.int .u64 a, .int .u64 b, .int .u64 c]] w fun e w' => ∃ v, e = .returned v ∧ IsNode w' w.heap.size v x ∧ Below w.heap.size w w' := by
  obtain ⟨hb0, hb1, hb2⟩ := alloc2_facts w (.cells #[.int .u64 a, .int .u64 b, .int .u64 c] 34) (.cells z8 26)
  have hs := (show ((w.alloc (.cells #[.int .u64 a, .int .u64 b, .int .u64 c] 34)).alloc (.cells z8 26)).heap.size = w.heap.size + 1 + 1 by simp)
  unfold z8 at hb0 hb1 hb2 hs
  have HB := Aside0.mk hb0
  have Hb1 := Aside0.mk hb1
  have Hb2 := Aside0.mk hb2
  have Hs := Aside0.mk hs
  have HX := Aside0.mk hx
  clear hb0 hb1 hb2 hs hx
  go_enter Tryd.func10, Tryd.ntmps10
  go_upto_region 1 with (fail)
  generalize ((w.alloc (.cells #[.int .u64 a, .int .u64 b, .int .u64 c] 34)).alloc (.cells #[.string ⟨#[]⟩, .int .i64 0, .bool false, .int .i64 0, .int .u64 0, .float .f64 0, .string ⟨#[]⟩, .slice none 0 0] 26)) = W1 at HB Hb1 Hb2 Hs ⊢
  have c0 := cell_of_blk Hb1.out 0 (.int .u64 a) rfl
  have c1 := cell_of_blk Hb1.out 1 (.int .u64 b) rfl
  have c2 := cell_of_blk Hb1.out 2 (.int .u64 c) rfl
  go_wp2_with (first | (go_at_call 11; refine (impl_procfsProcSchedstat.calls ⟨#[]⟩ a b c _ _ _ _ _ _ _ _ _ HX.out).mono ?_; rintro e w2 ⟨v7, rfl, hR, hb2⟩; obtain ⟨A7, c7, e7⟩ := Kd.R_slice hR; have hbk := blk_below Hb2.out hb2; have HR := Aside0.mk hR; have HW2 := Aside0.mk hb2; have E7 := Aside0.mk e7; have HBK := Aside0.mk hbk; clear hR hb2 e7 hbk) | ((with_reducible refine gate_ (.store 26 (.tmp 2) (.tmp 4)) rfl ?_); refine store_node_event rfl rfl (.tmp 2) (.tmp 4) rfl (w.heap.size + 1) x E7.out rfl rfl HBK.out rfl ?_; intro w3 hw3 hbk3))
  subst hw3
  exact bodyPost_ret (results_cell_row rfl _ _ (w.heap.size + 1) 26 (nodeL x v7).toArray (0, 0) _ rfl hbk3 Tryd.underlying26 rfl (by kernel_rfl)) rfl ⟨_, rfl, node_done HB.out (by omega) (by have := Hs.out; omega) HW2.out HR.out⟩
set_option maxHeartbeats 40000000 in
set_option maxRecDepth 100000 in
theorem tree_sched (T : ByteArray) (a b c : Nat) (h : Three T a b c) (p : Nat) (w : World) (hp : w.cell? ⟨p, 0, none⟩ = some (.string T)) (x : S26) (hx : impl_procfsProcSchedstat.f ⟨#[]⟩ a b c = some (x.f0, x.f1, x.f2, x.f3, x.f4, x.f5, x.f6, x.f7)) :
    Calls Tryd.prog 9 #[.func (.func 7) #[] #[.pointer (some ⟨p, 0, none⟩)], .func (.func 10) #[] #[]] w fun e w' => ∃ v, e = .returned (.tuple #[v, .int .i64 0]) ∧ IsNode w' w.heap.size v x ∧ Below w.heap.size w w' := by
  have HL := Aside0.mk h
  have HP := Aside0.mk hp
  have HX := Aside0.mk hx
  have hnn : ∀ (w : World), (binOp .neq 36 .nilIface .nilIface).run Tryd.prog w = .ok (.bool false) w := fun _ => rfl
  clear h hp hx
  have hmf := hmf
  go_enter_defers Tryd.func9, Tryd.ntmps9
  go_upto_region 2 with (fail)
  clear hmf
  obtain ⟨hb0, hb1, hb2⟩ := alloc2_facts w (.cells z8 26) (.cells #[.int .i64 0] 3)
  have hs := (show ((w.alloc (.cells z8 26)).alloc (.cells #[.int .i64 0] 3)).heap.size = w.heap.size + 1 + 1 by simp)
  unfold z8 at hb0 hb1 hb2 hs
  have HB := Aside0.mk hb0
  have Hb1 := Aside0.mk hb1
  have Hb2 := Aside0.mk hb2
  have Hs := Aside0.mk hs
  have HPW := Aside0.mk (cell_below hb0 HP.out)
  clear hb0 hb1 hb2 hs
  generalize ((w.alloc (.cells #[.string ⟨#[]⟩, .int .i64 0, .bool false, .int .i64 0, .int .u64 0, .float .f64 0, .string ⟨#[]⟩, .slice none 0 0] 26)).alloc (.cells #[.int .i64 0] 3)) = W at HB Hb1 Hb2 HPW Hs ⊢
  go_upto_region 3 with (first
    | (go_at_call 7; refine (task_read T a b c HL.out p _ HPW.out).mono ?_; rintro e w1 ⟨rfl, hb⟩; have HBW1 := Aside0.mk hb; clear hb))
  have hbn := blk_new w1 (.cells #[.int .u64 a, .int .u64 b, .int .u64 c] 34)
  have hba := below_alloc (Below.refl w1.heap.size w1) (.cells #[.int .u64 a, .int .u64 b, .int .u64 c] 34)
  have BN := Aside0.mk hbn
  have E2 := Aside0.mk (keepB (keepB HB.out HBW1.out (Nat.le_refl _)) hba (Nat.le_refl _))
  have B1 := Aside0.mk (blk_below (blk_below Hb1.out HBW1.out) hba)
  have B2 := Aside0.mk (blk_below (blk_below Hb2.out HBW1.out) hba)
  have S2 := Aside0.mk (show w.heap.size + 1 < (w1.alloc (.cells #[.int .u64 a, .int .u64 b, .int .u64 c] 34)).heap.size from blk_lt B2.out)
  clear hbn hba HB HBW1 Hb1 Hb2 Hs HPW
  generalize (w1.alloc (.cells #[.int .u64 a, .int .u64 b, .int .u64 c] 34)) = W2 at BN E2 B1 B2 S2 ⊢
  generalize w1.heap.size = bt6 at BN ⊢
  have c0 := cell_of_blk BN.out 0 (.int .u64 a) rfl
  have c1 := cell_of_blk BN.out 1 (.int .u64 b) rfl
  have c2 := cell_of_blk BN.out 2 (.int .u64 c) rfl
  go_wp2_with (first
    | (go_at_call 10; refine (sched_node a b c _ x HX.out).mono ?_; rintro e w2 ⟨_, rfl, ⟨v7, rfl, hR⟩, hb2⟩; obtain ⟨A7, c7, e7⟩ := Kd.R_slice hR; have HR := Aside0.mk hR; have HBW2 := Aside0.mk hb2; have E7 := Aside0.mk e7; have HBK := Aside0.mk (blk_below B1.out hb2); have HBI := Aside0.mk (blk_below B2.out hb2); clear hR hb2 e7)
    | ((with_reducible refine gate_ (.store 26 (.tmp 4) (.tmp 19)) rfl ?_); refine store_node_event rfl rfl (.tmp 4) (.tmp 19) rfl w.heap.size x E7.out rfl rfl HBK.out rfl ?_; intro w3 hw3 hbk3; have HI3 := Aside0.mk (by rw [hw3]; exact (setCells_far (nodeL x v7) 0 (w.heap.size + 1) (by omega)).trans HBI.out : w3.heap[w.heap.size + 1]? = some (.cells #[.int .i64 0] 3 (0, 0))); have HW3 := Aside0.mk hw3; have HB3 := Aside0.mk hbk3; clear hw3 hbk3; have hc5 := cell_of_blk HI3.out 0 _ rfl; have hf5 := blk_frozen HI3.out 0))
  refine leaves_cons (f := 15) (args := #[.pointer (some ⟨w.heap.size, 0, none⟩), .pointer (some ⟨w.heap.size + 1, 0, none⟩)]) (by simp) (by simp [go_sem]) ?_
  refine (catch15 ⟨w.heap.size, 0, none⟩ ⟨w.heap.size + 1, 0, none⟩ _).mono ?_
  rintro e u' w'' ⟨rfl, rfl, rfl⟩
  have hb1' : (w3.setCell ⟨w.heap.size + 1, 0, none⟩ (.int .i64 0)).heap[w.heap.size]? = some (.cells (nodeL x v7).toArray 26 (0, 0)) := (Below.heap_setCell w3 _ _ w.heap.size (by show w.heap.size ≠ w.heap.size + 1; omega)).trans HB3.out
  have hb2' : (w3.setCell ⟨w.heap.size + 1, 0, none⟩ (.int .i64 0)).heap[w.heap.size + 1]? = some (.cells #[.int .i64 0] 3 (0, 0)) := blk_set HI3.out 0 _
  have hnd := node_done2 E2.out S2.out HBW2.out HR.out (.int .i64 0)
  rw [← HW3.out] at hnd
  simp only [Leaves, settle]
  exact ⟨_, results_cc rfl _ _ w.heap.size (w.heap.size + 1) _ _ rfl rfl hb1' rfl hb2', _, rfl, hnd⟩
set_option maxHeartbeats 4000000 in
set_option maxRecDepth 100000 in
/-- impl.TaskSchedstat. -/
theorem task_sched (T : ByteArray) (a b c : Nat) (h : Three T a b c) (w : World) (x : S26) (hx : impl_procfsProcSchedstat.f ⟨#[]⟩ a b c = some (x.f0, x.f1, x.f2, x.f3, x.f4, x.f5, x.f6, x.f7)) :
    Calls Tryd.prog 4 #[.string T] w fun e w' => ∃ v, e = .returned (.tuple #[v, .int .i64 0]) ∧ IsNode w' w.heap.size v x ∧ Below w.heap.size w w' := by
  obtain ⟨hb0, hb1, hb2⟩ := alloc2_facts w (.cells #[.string T] 9) (.cells z8 26)
  have hs := (show ((w.alloc (.cells #[.string T] 9)).alloc (.cells z8 26)).heap.size = w.heap.size + 1 + 1 by simp)
  unfold z8 at hb0 hb1 hb2 hs
  have HB := Aside0.mk hb0
  have Hb1 := Aside0.mk hb1
  have Hb2 := Aside0.mk hb2
  have Hs := Aside0.mk hs
  have HL := Aside0.mk h
  have HX := Aside0.mk hx
  clear hb0 hb1 hb2 hs h hx
  have hmf := hmf
  go_enter Tryd.func4, Tryd.ntmps4
  go_upto_region 1 with (fail)
  generalize ((w.alloc (.cells #[.string T] 9)).alloc (.cells #[.string ⟨#[]⟩, .int .i64 0, .bool false, .int .i64 0, .int .u64 0, .float .f64 0, .string ⟨#[]⟩, .slice none 0 0] 26)) = W at HB Hb1 Hb2 Hs ⊢
  go_wp2_with (first
    | (go_at_call 9; refine (tree_sched T a b c HL.out w.heap.size _ (cell_of_blk Hb1.out 0 _ rfl) x HX.out).mono ?_; rintro e w2 ⟨_, rfl, ⟨v7, rfl, hR⟩, hb2⟩; obtain ⟨A7, c7, e7⟩ := Kd.R_slice hR; have HR := Aside0.mk hR; have HBW2 := Aside0.mk hb2; have E7 := Aside0.mk e7; have HBK := Aside0.mk (blk_below Hb2.out hb2); clear hR hb2 e7)
    | ((with_reducible refine gate_ (.store 26 (.tmp 2) (.tmp 8)) rfl ?_); refine store_node_event rfl rfl (.tmp 2) (.tmp 8) rfl (w.heap.size + 1) x E7.out rfl rfl HBK.out rfl ?_; intro w3 hw3 hbk3; have HW3 := Aside0.mk hw3; have HB3 := Aside0.mk hbk3; clear hw3 hbk3))
  have hnd := node_done HB.out (b := w.heap.size + 1) (by omega) (by have := Hs.out; omega) HBW2.out HR.out
  rw [← HW3.out] at hnd
  exact bodyPost_ret (results_ct rfl _ _ (w.heap.size + 1) _ _ rfl rfl HB3.out rfl) rfl ⟨_, rfl, hnd⟩
end Go.Proofs.YtabfehcpcjcomaaDoor.R
