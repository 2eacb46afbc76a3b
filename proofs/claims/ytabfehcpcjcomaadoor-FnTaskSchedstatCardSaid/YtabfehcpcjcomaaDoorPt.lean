/- impl.tree at a load: the deferred catch is idle. Conditions: see each theorem. -/
import Derived.Test.YtabfehcpcjcomaaDoorPm
import Derived.Defers
import Derived.Recover
namespace Go.Proofs.YtabfehcpcjcomaaDoor.R
open Go.RowKit Go.Proofs.YtabfehcpcjcomaaDoor.QP1 Go.Proofs.YtabfehcpcjcomaaDoorW.PrintWords Go.Proofs.YtabfehcpcjcomaaDoorW.PrintLast Go.Proofs.YtabfehcpcjcomaaDoorW.PrintMore
set_option linter.unusedVariables false
set_option linter.unusedSimpArgs false
theorem hmf : ∀ (fn : Fn) (first cap : Array Value) (w : World), (Instr.makeFunc fn first cap).run Tryd.prog w = .ok (.func fn first cap) w := fun _ _ _ _ => rfl
theorem alloc2_facts (w : World) (a b : Obj) : Below w.heap.size w ((w.alloc a).alloc b) ∧ ((w.alloc a).alloc b).heap[w.heap.size]? = some a ∧ ((w.alloc a).alloc b).heap[w.heap.size + 1]? = some b := by
  refine ⟨below_alloc (below_alloc (Below.refl _ _) _) _, blk_alloc (blk_new _ _) _, ?_⟩
  have h := blk_new (w.alloc a) b
  rw [show (w.alloc a).heap.size = w.heap.size + 1 by simp] at h
  exact h
theorem cell_of_blk {W : World} {b : Nat} {cs : Array Value} {t : TypeId} (hb : W.heap[b]? = some (.cells cs t (0, 0))) (i : Nat) (v : Value) (hv : cs[i]? = some v) : W.cell? ⟨b, i, none⟩ = some v := by
  rw [blk_cell hb i]; exact hv
def z8 : Array Value := #[.string ⟨#[]⟩, .int .i64 0, .bool false, .int .i64 0, .int .u64 0, .float .f64 0, .string ⟨#[]⟩, .slice none 0 0]
theorem catch30 (p q : Addr) (w : World) :
    CallsD Tryd.prog 30 #[.pointer (some p), .pointer (some q)] .returning w fun e u' w' => e = .returned (.tuple #[]) ∧ u' = .returning ∧ w' = w := by
  refine callsD_of_wpS Tryd.func30 rfl fun c₀ cs hu => ?_
  apply wpS_seq
  apply wpS_region
  simp [wpOpsS, go_sem, recoverD, hu, Tryd.ntmps30, Exit.thenS]
  refine wpS_cond (t := false) (by simp [Act.eval, Array.replicate]) ?_
  simp only [Bool.false_eq_true, if_false]
  refine wpS_of_wp (wp_skip ?_)
  cases c₀
  simp_all [bodyPostS, results, Tryd.results30]
theorem results_cc {fn : Func} {p q : Tmp} (h : fn.results = #[.cell p 26, .cell q 3]) (tmps : Array Value) (w : World) (b1 b2 : Nat) (cs : Array Value) (n : Int) (hp : tmps.getD p undef = .pointer (some ⟨b1, 0, none⟩)) (hq : tmps.getD q undef = .pointer (some ⟨b2, 0, none⟩))
    (hb1 : w.heap[b1]? = some (.cells cs 26 (0, 0))) (hs : cs.size = 8) (hb2 : w.heap[b2]? = some (.cells #[.int .i64 n] 3 (0, 0))) :
    Sem.run Tryd.prog (results fn tmps) w = .ok (.tuple #[.agg cs, .int .i64 n]) w := by
  have hp' : tmps[p]?.getD undef = .pointer (some ⟨b1, 0, none⟩) := by simpa using hp
  have hq' : tmps[q]?.getD undef = .pointer (some ⟨b2, 0, none⟩) := by simpa using hq
  have hc := cell_of_blk hb2 0 (.int .i64 n) rfl
  have h1 := run_loadVar_row (P := Tryd.prog) w b1 26 26 cs (0, 0) _ hb1 Tryd.underlying26 rfl (by rw [hs]; kernel_rfl)
  have h2 : Sem.run Tryd.prog (loadVar 3 ⟨b2, 0, none⟩) w = .ok (.int .i64 n) w := by simp [go_sem, hc]
  simp [results, h, hp', hq', asAddr, h1, h2]
theorem results_ct {fn : Func} {p q : Tmp} (h : fn.results = #[.cell p 26, .tmp q]) (tmps : Array Value) (w : World) (b1 : Nat) (cs : Array Value) (v : Value) (hp : tmps.getD p undef = .pointer (some ⟨b1, 0, none⟩)) (hq : tmps.getD q undef = v)
    (hb1 : w.heap[b1]? = some (.cells cs 26 (0, 0))) (hs : cs.size = 8) : Sem.run Tryd.prog (results fn tmps) w = .ok (.tuple #[.agg cs, v]) w := by
  have hp' : tmps[p]?.getD undef = .pointer (some ⟨b1, 0, none⟩) := by simpa using hp
  have hq' : tmps[q]?.getD undef = v := by simpa using hq
  have h1 := run_loadVar_row (P := Tryd.prog) w b1 26 26 cs (0, 0) _ hb1 Tryd.underlying26 rfl (by rw [hs]; kernel_rfl)
  simp [results, h, hp', hq', asAddr, h1]
theorem node_done2 {w w1 w2 : World} {x : S26} {v7 : Value} (hba : Below w.heap.size w w1) (h1 : w.heap.size + 1 < w1.heap.size) (hb2 : Below w1.heap.size w1 w2) (hR : Kd.R k26 26 w2 w1.heap.size (fun _ => True) v7 x.f7) (u : Value) :
    IsNode ((w2.setCells w.heap.size 0 (nodeL x v7)).setCell ⟨w.heap.size + 1, 0, none⟩ u) w.heap.size (nodeV x v7) x ∧ Below w.heap.size w ((w2.setCells w.heap.size 0 (nodeL x v7)).setCell ⟨w.heap.size + 1, 0, none⟩ u) := by
  refine ⟨⟨v7, rfl, Kd.R_lower (Kd.R_mono (Kd.R_far (p := ⟨w.heap.size + 1, 0, none⟩) (Kd.R_bound (R_cells hR w.heap.size (by omega) _)) (fun k hk => ?_) u) (fun k hk => hk.1)) hba.size⟩, below_set (below_cells (keepB hba hb2 (Nat.le_refl _)) (Nat.le_refl _) _) (by omega)⟩
  have := hk.2.1
  show k ≠ w.heap.size + 1
  omega
set_option maxHeartbeats 40000000 in
set_option maxRecDepth 100000 in
theorem tree_load (T : ByteArray) (q0 q1 q2 : Nat) (h : Loads T q0 q1 q2) (w : World) (hT : LTabs w) (x : S26) (hx : impl_procfsLoadAvg.f ⟨#[]⟩ q0 q1 q2 = some (x.f0, x.f1, x.f2, x.f3, x.f4, x.f5, x.f6, x.f7)) :
    Calls Tryd.prog 17 #[.func (.func 19) #[.agg #[.string T]] #[], .func (.func 20) #[] #[]] w fun e w' => ∃ v, e = .returned (.tuple #[v, .int .i64 0]) ∧ IsNode w' w.heap.size v x ∧ Below w.heap.size w w' := by
  have HL := Aside0.mk h
  have HTb := Aside0.mk hT
  have HX := Aside0.mk hx
  have hnn : ∀ (w : World), (binOp .neq 36 .nilIface .nilIface).run Tryd.prog w = .ok (.bool false) w := fun _ => rfl
  clear h hT hx
  have hmf := hmf
  go_enter_defers Tryd.func17, Tryd.ntmps17
  go_upto_region 2 with (fail)
  clear hmf
  obtain ⟨hb0, hb1, hb2⟩ := alloc2_facts w (.cells z8 26) (.cells #[.int .i64 0] 3)
  have hs := (show ((w.alloc (.cells z8 26)).alloc (.cells #[.int .i64 0] 3)).heap.size = w.heap.size + 1 + 1 by simp)
  unfold z8 at hb0 hb1 hb2 hs
  have HB := Aside0.mk hb0
  have Hb1 := Aside0.mk hb1
  have Hb2 := Aside0.mk hb2
  have Hs := Aside0.mk hs
  have HTW := Aside0.mk (HTb.out.below hb0)
  clear hb0 hb1 hb2 hs
  generalize ((w.alloc (.cells #[.string ⟨#[]⟩, .int .i64 0, .bool false, .int .i64 0, .int .u64 0, .float .f64 0, .string ⟨#[]⟩, .slice none 0 0] 26)).alloc (.cells #[.int .i64 0] 3)) = W at HB Hb1 Hb2 HTW Hs ⊢
  go_wp2_with (first
    | (go_at_call 19; refine (load_avg T q0 q1 q2 HL.out _ HTW.out).mono ?_; rintro e w1 ⟨g, rfl, hg, hle, hb⟩; have HG := Aside0.mk hg; have HBW1 := Aside0.mk hb; clear hg hle hb)
    | (go_at_call 20; refine (load_node g q0 q1 q2 _ HG.out x HX.out).mono ?_; rintro e w2 ⟨_, rfl, ⟨v7, rfl, hR⟩, hb2⟩; obtain ⟨A7, c7, e7⟩ := Kd.R_slice hR; have HR := Aside0.mk hR; have HBW2 := Aside0.mk hb2; have E7 := Aside0.mk e7; have HBK := Aside0.mk (blk_below (blk_below Hb1.out HBW1.out) hb2); have HBI := Aside0.mk (blk_below (blk_below Hb2.out HBW1.out) hb2); clear hR hb2 e7)
    | ((with_reducible refine gate_ (.store 26 (.tmp 4) (.tmp 19)) rfl ?_); refine store_node_event rfl rfl (.tmp 4) (.tmp 19) rfl w.heap.size x E7.out rfl rfl HBK.out rfl ?_; intro w3 hw3 hbk3; have HI3 := Aside0.mk (by rw [hw3]; exact (setCells_far (nodeL x v7) 0 (w.heap.size + 1) (by omega)).trans HBI.out : w3.heap[w.heap.size + 1]? = some (.cells #[.int .i64 0] 3 (0, 0))); have HW3 := Aside0.mk hw3; have HB3 := Aside0.mk hbk3; clear hw3 hbk3; have hc5 := cell_of_blk HI3.out 0 _ rfl; have hf5 := blk_frozen HI3.out 0))
  refine leaves_cons (f := 30) (args := #[.pointer (some ⟨w.heap.size, 0, none⟩), .pointer (some ⟨w.heap.size + 1, 0, none⟩)]) (by simp) (by simp [go_sem]) ?_
  refine (catch30 ⟨w.heap.size, 0, none⟩ ⟨w.heap.size + 1, 0, none⟩ _).mono ?_
  rintro e u' w'' ⟨rfl, rfl, rfl⟩
  have hb1' : (w3.setCell ⟨w.heap.size + 1, 0, none⟩ (.int .i64 0)).heap[w.heap.size]? = some (.cells (nodeL x v7).toArray 26 (0, 0)) := (Below.heap_setCell w3 _ _ w.heap.size (by show w.heap.size ≠ w.heap.size + 1; omega)).trans HB3.out
  have hb2' : (w3.setCell ⟨w.heap.size + 1, 0, none⟩ (.int .i64 0)).heap[w.heap.size + 1]? = some (.cells #[.int .i64 0] 3 (0, 0)) := blk_set HI3.out 0 _
  have hnd := node_done2 (keepB HB.out HBW1.out (Nat.le_refl _)) (by have := HBW1.out.size; have := Hs.out; omega) HBW2.out HR.out (.int .i64 0)
  rw [← HW3.out] at hnd
  simp only [Leaves, settle]
  exact ⟨_, results_cc rfl _ _ w.heap.size (w.heap.size + 1) _ _ rfl rfl hb1' rfl hb2', _, rfl, hnd⟩
set_option maxHeartbeats 4000000 in
set_option maxRecDepth 100000 in
/-- impl.Loadavg. -/
theorem loadavg_ok (T : ByteArray) (q0 q1 q2 : Nat) (h : Loads T q0 q1 q2) (w : World) (hT : LTabs w) (x : S26) (hx : impl_procfsLoadAvg.f ⟨#[]⟩ q0 q1 q2 = some (x.f0, x.f1, x.f2, x.f3, x.f4, x.f5, x.f6, x.f7)) :
    Calls Tryd.prog 13 #[.string T] w fun e w' => ∃ v, e = .returned (.tuple #[v, .int .i64 0]) ∧ IsNode w' w.heap.size v x ∧ Below w.heap.size w w' := by
  have hb1 := blk_new w (.cells z8 26)
  have hB := below_alloc (Below.refl w.heap.size w) (.cells z8 26)
  have hs := (show (w.alloc (.cells z8 26)).heap.size = w.heap.size + 1 by simp)
  unfold z8 at hb1 hB hs
  have HB := Aside0.mk hB
  have Hb1 := Aside0.mk hb1
  have Hs := Aside0.mk hs
  have HL := Aside0.mk h
  have HTW := Aside0.mk (hT.below hB)
  have HX := Aside0.mk hx
  clear hb1 hB hs h hT hx
  have hmf := hmf
  go_enter Tryd.func13, Tryd.ntmps13
  go_upto_region 1 with (fail)
  generalize (w.alloc (.cells #[.string ⟨#[]⟩, .int .i64 0, .bool false, .int .i64 0, .int .u64 0, .float .f64 0, .string ⟨#[]⟩, .slice none 0 0] 26)) = W at HB Hb1 HTW Hs ⊢
  go_wp2_with (first
    | (go_at_call 18; refine (text_fs T _).mono ?_; rintro e w1 ⟨rfl, hb⟩; have HBW1 := Aside0.mk hb; clear hb)
    | (go_at_call 17; refine (tree_load T q0 q1 q2 HL.out _ (HTW.out.below HBW1.out) x HX.out).mono ?_; rintro e w2 ⟨_, rfl, ⟨v7, rfl, hR⟩, hb2⟩; obtain ⟨A7, c7, e7⟩ := Kd.R_slice hR; have HR := Aside0.mk hR; have HBW2 := Aside0.mk hb2; have E7 := Aside0.mk e7; have HBK := Aside0.mk (blk_below (blk_below Hb1.out HBW1.out) hb2); clear hR hb2 e7)
    | ((with_reducible refine gate_ (.store 26 (.tmp 2) (.tmp 8)) rfl ?_); refine store_node_event rfl rfl (.tmp 2) (.tmp 8) rfl w.heap.size x E7.out rfl rfl HBK.out rfl ?_; intro w3 hw3 hbk3; have HW3 := Aside0.mk hw3; have HB3 := Aside0.mk hbk3; clear hw3 hbk3))
  have hnd := node_done (keepB HB.out HBW1.out (Nat.le_refl _)) (Nat.le_refl _) (by have := HBW1.out.size; have := Hs.out; omega) HBW2.out HR.out
  rw [← HW3.out] at hnd
  exact bodyPost_ret (results_ct rfl _ _ w.heap.size _ _ rfl rfl HB3.out rfl) rfl ⟨_, rfl, hnd⟩
end Go.Proofs.YtabfehcpcjcomaaDoor.R
