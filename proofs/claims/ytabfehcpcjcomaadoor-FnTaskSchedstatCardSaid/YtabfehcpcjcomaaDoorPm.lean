/- FS.LoadAvg and the door's tree of a load. Conditions: see each theorem. -/
import Derived.Test.YtabfehcpcjcomaaDoorPl
import Derived.Lib.SmallJoins
import Derived.Test.YtabfehcpcjcomaaDoorPs
namespace Go.Proofs.YtabfehcpcjcomaaDoor.R
open Go.RowKit Go.Proofs.YtabfehcpcjcomaaDoor.QP1 Go.Proofs.YtabfehcpcjcomaaDoorW.PrintWords Go.Proofs.YtabfehcpcjcomaaDoorW.PrintLast Go.Proofs.YtabfehcpcjcomaaDoorW.PrintMore
set_option linter.unusedVariables false
set_option linter.unusedSimpArgs false
set_option maxHeartbeats 4000000 in
set_option maxRecDepth 100000 in
theorem text_fs (T : ByteArray) (w : World) :
    Calls Tryd.prog 18 #[.string T] w fun e w' => e = .returned (.agg #[.string T]) ∧ Below w.heap.size w w' := by
  go_enter Tryd.func18, Tryd.ntmps18
  go_wp2
  exact bodyPost_ret (results_cell_row rfl _ _ w.heap.size 49 #[.string T] (0, 0) _ rfl (blk_new _ _) Tryd.underlying49 rfl (by kernel_rfl)) rfl ⟨rfl, below_alloc (Below.refl _ _) _⟩
/-- What a text of loads says. -/
structure Loads (T : ByteArray) (q0 q1 q2 : Nat) : Prop where
  sz : T.size ≤ 1048576
  ascii : ∀ (j : Nat) b, T.data.toList[j]? = some b → b.toNat < 128
  parts : ∃ t0 t1 t2 r, Lib.fields T.data.toList = t0 :: t1 :: t2 :: r ∧ Spells t0 q0 ∧ Spells t1 q1 ∧ Spells t2 q2
/-- The variables that the road of the load reads. -/
structure LTabs (w : World) : Prop where
  f : FTabs w
  s : Lib.TabIs Tryd.prog w "strings.asciiSpace" .u8 Lib.asciiSpaceTab
theorem LTabs.below {w w' : World} (h : LTabs w) (hb : Below w.heap.size w w') : LTabs w' := ⟨h.f.below hb, Joins.tab_stays (B := w.heap.size) (g := 1) (by kernel_rfl) h.s hb (Nat.le_refl _)⟩
set_option maxHeartbeats 4000000 in
set_option maxRecDepth 100000 in
theorem load_avg (T : ByteArray) (q0 q1 q2 : Nat) (h : Loads T q0 q1 q2) (w : World) (hT : LTabs w) :
    Calls Tryd.prog 19 #[.agg #[.string T]] w fun e w' => ∃ g, e = .returned (.tuple #[.pointer (some ⟨g, 0, none⟩), .nilIface]) ∧ w'.heap[g]? = some (.cells #[.float .f64 q0, .float .f64 q1, .float .f64 q2] 53 (0, 0)) ∧ w.heap.size ≤ g ∧ Below w.heap.size w w' := by
  obtain ⟨t0, t1, t2, r, hF, h0, h1, h2⟩ := h.parts
  have hb01 : Below w.heap.size w ((w.alloc (.cells #[.string T] 49)).alloc (.cells #[.string ⟨#[108, 111, 97, 100, 97, 118, 103]⟩] 9)) := below_alloc (below_alloc (Below.refl _ _) _) _
  go_enter Tryd.func19, Tryd.ntmps19
  go_wp2_with (first
    | (go_at_call 31; refine (path_ok T _ _).mono ?_; rintro e w1 ⟨rfl, rfl⟩)
    | (go_at_call 32; refine (read_text T _ h.sz).mono ?_; rintro e w2 ⟨v, rfl, hv, hb2⟩; have hbw := keepB hb01 hb2 (Nat.le_refl _))
    | (go_at_call 33; refine (parse_load T _ _ hv (hT.below hbw).f (hT.below hbw).s (by have := h.sz; omega) h.ascii t0 t1 t2 r hF q0 q1 q2 h0 h1 h2).mono ?_; rintro e w3 ⟨g, rfl, hg, hle, hb3⟩))
  exact bodyPost_ret (results_tmp2 rfl _ _ _) rfl ⟨g, rfl, hg, Nat.le_trans hbw.size hle, keepB hbw hb3 (Nat.le_refl _)⟩
section
variable {α : Type} {d : Kd α} {e base : Nat} {ok : Nat → Prop} {w : World} {v : Value} {xs : List α}
theorem R_cells (h : d.R e w base ok v xs) (b : Nat) (hb : b < base) (vs : List Value) : d.R e (w.setCells b 0 vs) base ok v xs :=
  Kd.R_mono (Kd.R_step (Kd.R_bound h) (fun k ho hk => setCells_far vs 0 k (by have := ho.2.1; omega))) (fun k hk => hk.1)
end
theorem below_cells {B b : Nat} {W w1 : World} (h : Below B W w1) (hb : B ≤ b) (vs : List Value) : Below B W (w1.setCells b 0 vs) := by
  obtain ⟨h1, h2, h3, h4⟩ := setCells_same b vs 0 w1
  exact ⟨h1.trans h.os, h2.trans h.tape, h3.trans h.output, by rw [h4]; exact h.size, fun k hk => (setCells_far vs 0 k (by omega)).trans (h.block k hk)⟩
def nodeL (x : S26) (v7 : Value) : List Value := [.string x.f0, .int .i64 x.f1, .bool x.f2, .int .i64 x.f3, .int .u64 x.f4, .float .f64 x.f5, .string x.f6, v7]
def nodeV (x : S26) (v7 : Value) : Value := .agg #[.string x.f0, .int .i64 x.f1, .bool x.f2, .int .i64 x.f3, .int .u64 x.f4, .float .f64 x.f5, .string x.f6, v7]
/-- A node by value, its parts in rows of its own. -/
def IsNode (W : World) (base : Nat) (v : Value) (x : S26) : Prop := ∃ v7, v = nodeV x v7 ∧ Kd.R k26 26 W base (fun _ => True) v7 x.f7
theorem store_node {W : World} {b : Nat} {cur : Array Value} (x : S26) {v7 : Value} {n c : Nat} {A : Option Addr} (h7 : v7 = .slice A n c) (hh : W.heap[b]? = some (.cells cur 26 (0, 0))) (hs : cur.size = 8) :
    (Instr.storeAt 26 (.pointer (some ⟨b, 0, none⟩)) (nodeV x v7)).run Tryd.prog W = .ok () (W.setCells b 0 (nodeL x v7)) := by
  subst h7
  refine run_store_run (P := Tryd.prog) 26 _ (nodeL x _) hh rfl ?_ (by rw [hs]; exact Nat.le_refl _) ?_
  · kernel_rfl
  · intro q hq
    simp only [nodeL, List.mem_cons, List.not_mem_nil, or_false] at hq
    rcases hq with rfl | rfl | rfl | rfl | rfl | rfl | rfl | rfl <;> rfl
theorem node_blk {W : World} {b : Nat} {cur : Array Value} (x : S26) (v7 : Value) (hh : W.heap[b]? = some (.cells cur 26 (0, 0))) (hs : cur.size = 8) :
    (W.setCells b 0 (nodeL x v7)).heap[b]? = some (.cells (nodeL x v7).toArray 26 (0, 0)) := by
  obtain ⟨cur', h1, h2, h3⟩ := setCells_row (nodeL x v7) 0 W cur hh (by rw [hs]; exact Nat.le_refl _)
  rw [h1]
  have : cur' = (nodeL x v7).toArray := by
    apply Array.toList_inj.1
    rw [h3]
    have hd : cur.toList.drop (0 + (nodeL x v7).length) = [] := List.drop_eq_nil_of_le (by rw [Array.length_toList, hs]; exact Nat.le_refl _)
    rw [hd]
    simp
  rw [this]
section
variable {ops : Array Oper} {rest : List Oper} {o : Oper} {a : Act} {Q : Exit → Act → World → Prop}
theorem store_node_event {W : World} (hgd : o.guard = none) (hd : o.dst = none) (p v : Operand) (ho : o.op = .store 26 p v) (b : Nat) {cur : Array Value} (x : S26) {v7 : Value} {n c : Nat} {A : Option Addr} (h7 : v7 = .slice A n c)
    (hp : a.eval p = .pointer (some ⟨b, 0, none⟩)) (hv : a.eval v = nodeV x v7) (hh : W.heap[b]? = some (.cells cur 26 (0, 0))) (hs : cur.size = 8)
    (h : ∀ W', W' = W.setCells b 0 (nodeL x v7) → W'.heap[b]? = some (.cells (nodeL x v7).toArray 26 (0, 0)) → wpList Tryd.prog ops Q rest a W') : wpList Tryd.prog ops Q (o :: rest) a W := by
  have hrun := store_node x h7 hh hs
  refine wpList_plain hgd fun K hK => ?_
  unfold Oper.wp execOp
  simp only [ho, hp, hv, Sem.run_bind, Sem.run_pure, Result.andThen_ok, hrun]
  show K (a.put o.dst undef) _
  rw [hd]
  exact hK _ _ (h _ rfl (node_blk x v7 hh hs))
end
theorem node_done {w W1 w2 : World} {b : Nat} {x : S26} {v7 : Value} (hba : Below w.heap.size w W1) (hw : w.heap.size ≤ b) (hb : b < W1.heap.size) (hb2 : Below W1.heap.size W1 w2) (hR : Kd.R k26 26 w2 W1.heap.size (fun _ => True) v7 x.f7) :
    IsNode (w2.setCells b 0 (nodeL x v7)) w.heap.size (nodeV x v7) x ∧ Below w.heap.size w (w2.setCells b 0 (nodeL x v7)) :=
  ⟨⟨v7, rfl, Kd.R_lower (R_cells hR b hb _) hba.size⟩, below_cells (keepB hba hb2 (Nat.le_refl _)) hw _⟩
set_option maxHeartbeats 4000000 in
set_option maxRecDepth 100000 in
theorem pointer_load (n : ByteArray) (g : Nat) (q0 q1 q2 : Nat) (w : World) (hg : w.heap[g]? = some (.cells #[.float .f64 q0, .float .f64 q1, .float .f64 q2] 53 (0, 0))) (x : S26) (hx : impl_procfsLoadAvg.f n q0 q1 q2 = some (x.f0, x.f1, x.f2, x.f3, x.f4, x.f5, x.f6, x.f7)) :
    Calls Tryd.prog 21 #[.string n, .pointer (some ⟨g, 0, none⟩), .func (.func 22) #[] #[]] w fun e w' => ∃ v, e = .returned v ∧ IsNode w' w.heap.size v x ∧ Below w.heap.size w w' := by
  have hBa : Below w.heap.size w (w.alloc (.cells #[.string ⟨#[]⟩, .int .i64 0, .bool false, .int .i64 0, .int .u64 0, .float .f64 0, .string ⟨#[]⟩, .slice none 0 0] 26)) := below_alloc (Below.refl _ _) _
  have HX := Aside0.mk hx
  have hg1 := blk_below hg hBa
  have hb1 := blk_new w (.cells #[.string ⟨#[]⟩, .int .i64 0, .bool false, .int .i64 0, .int .u64 0, .float .f64 0, .string ⟨#[]⟩, .slice none 0 0] 26)
  have hs1 : (w.alloc (.cells #[.string ⟨#[]⟩, .int .i64 0, .bool false, .int .i64 0, .int .u64 0, .float .f64 0, .string ⟨#[]⟩, .slice none 0 0] 26)).heap.size = w.heap.size + 1 := by simp
  have HBa := Aside0.mk hBa
  have Hg := Aside0.mk hg1
  have Hb := Aside0.mk hb1
  have Hs := Aside0.mk hs1
  clear hBa hg1 hb1 hs1 hg hx
  go_enter Tryd.func21, Tryd.ntmps21
  go_upto_region 3 with (fail)
  generalize (w.alloc (.cells #[.string ⟨#[]⟩, .int .i64 0, .bool false, .int .i64 0, .int .u64 0, .float .f64 0, .string ⟨#[]⟩, .slice none 0 0] 26)) = W1 at HBa Hg Hb Hs ⊢
  have c0 : W1.cell? ⟨g, 0, none⟩ = some (.float .f64 q0) := (blk_cell Hg.out 0).trans rfl
  have c1 : W1.cell? ⟨g, 1, none⟩ = some (.float .f64 q1) := (blk_cell Hg.out 1).trans rfl
  have c2 : W1.cell? ⟨g, 2, none⟩ = some (.float .f64 q2) := (blk_cell Hg.out 2).trans rfl
  go_wp2_with (first | (go_at_call 22; refine (impl_procfsLoadAvg.calls n q0 q1 q2 _ _ _ _ _ _ _ _ _ HX.out).mono ?_; rintro e w2 ⟨v7, rfl, hR, hb2⟩; obtain ⟨A7, c7, e7⟩ := Kd.R_slice hR; have hbk := blk_below Hb.out hb2; have HR := Aside0.mk hR; have Hb2 := Aside0.mk hb2; have E7 := Aside0.mk e7; have HBK := Aside0.mk hbk; clear hR hb2 e7 hbk) | ((with_reducible refine gate_ (.store 26 (.tmp 6) (.tmp 16)) rfl ?_); refine store_node_event rfl rfl (.tmp 6) (.tmp 16) rfl w.heap.size x E7.out rfl rfl HBK.out rfl ?_; intro w3 hw3 hbk3))
  subst hw3
  exact bodyPost_ret (results_cell_row rfl _ _ w.heap.size 26 (nodeL x v7).toArray (0, 0) _ rfl hbk3 Tryd.underlying26 rfl (by kernel_rfl)) rfl ⟨_, rfl, node_done HBa.out (Nat.le_refl _) (by have := Hs.out; omega) Hb2.out HR.out⟩
set_option maxHeartbeats 4000000 in
set_option maxRecDepth 100000 in
theorem load_node (g : Nat) (q0 q1 q2 : Nat) (w : World) (hg : w.heap[g]? = some (.cells #[.float .f64 q0, .float .f64 q1, .float .f64 q2] 53 (0, 0))) (x : S26) (hx : impl_procfsLoadAvg.f ⟨#[]⟩ q0 q1 q2 = some (x.f0, x.f1, x.f2, x.f3, x.f4, x.f5, x.f6, x.f7)) :
    Calls Tryd.prog 20 #[.pointer (some ⟨g, 0, none⟩)] w fun e w' => ∃ v, e = .returned v ∧ IsNode w' w.heap.size v x ∧ Below w.heap.size w w' := by
  have hBa : Below w.heap.size w (w.alloc (.cells #[.string ⟨#[]⟩, .int .i64 0, .bool false, .int .i64 0, .int .u64 0, .float .f64 0, .string ⟨#[]⟩, .slice none 0 0] 26)) := below_alloc (Below.refl _ _) _
  have hb1 := blk_new w (.cells #[.string ⟨#[]⟩, .int .i64 0, .bool false, .int .i64 0, .int .u64 0, .float .f64 0, .string ⟨#[]⟩, .slice none 0 0] 26)
  have hs1 : (w.alloc (.cells #[.string ⟨#[]⟩, .int .i64 0, .bool false, .int .i64 0, .int .u64 0, .float .f64 0, .string ⟨#[]⟩, .slice none 0 0] 26)).heap.size = w.heap.size + 1 := by simp
  have HX := Aside0.mk hx
  have Hg := Aside0.mk (blk_below hg hBa)
  have HBa := Aside0.mk hBa
  have Hb := Aside0.mk hb1
  have Hs := Aside0.mk hs1
  clear hBa hb1 hs1 hg hx
  go_enter Tryd.func20, Tryd.ntmps20
  go_upto_region 1 with (fail)
  generalize (w.alloc (.cells #[.string ⟨#[]⟩, .int .i64 0, .bool false, .int .i64 0, .int .u64 0, .float .f64 0, .string ⟨#[]⟩, .slice none 0 0] 26)) = W1 at HBa Hg Hb Hs ⊢
  go_wp2_with (first | (go_at_call 21; refine (pointer_load ⟨#[]⟩ g q0 q1 q2 _ Hg.out x HX.out).mono ?_; rintro e w2 ⟨_, rfl, ⟨v7, rfl, hR⟩, hb2⟩; obtain ⟨A7, c7, e7⟩ := Kd.R_slice hR; have hbk := blk_below Hb.out hb2; have HR := Aside0.mk hR; have Hb2 := Aside0.mk hb2; have E7 := Aside0.mk e7; have HBK := Aside0.mk hbk; clear hR hb2 e7 hbk) | ((with_reducible refine gate_ (.store 26 (.tmp 2) (.tmp 4)) rfl ?_); refine store_node_event rfl rfl (.tmp 2) (.tmp 4) rfl w.heap.size x E7.out rfl rfl HBK.out rfl ?_; intro w3 hw3 hbk3))
  subst hw3
  exact bodyPost_ret (results_cell_row rfl _ _ w.heap.size 26 (nodeL x v7).toArray (0, 0) _ rfl hbk3 Tryd.underlying26 rfl (by kernel_rfl)) rfl ⟨_, rfl, node_done HBa.out (Nat.le_refl _) (by have := Hs.out; omega) Hb2.out HR.out⟩
end Go.Proofs.YtabfehcpcjcomaaDoor.R
