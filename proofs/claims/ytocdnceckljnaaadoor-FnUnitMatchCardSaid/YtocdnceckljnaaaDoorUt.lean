/- UnitOption.Match, impl.UnitMatch. Conditions: see each theorem. -/
import Derived.Test.YtocdnceckljnaaaDoorUs
namespace Go.Proofs.YtocdnceckljnaaaDoor.U
open Go.RowKit Go.Proofs.YtocdnceckljnaaaDoorW.PrintWords Go.Proofs.YtocdnceckljnaaaDoorW.PrintLast Go.Proofs.YtocdnceckljnaaaDoorW.PrintMore
set_option linter.unusedVariables false
set_option linter.unusedSimpArgs false
theorem B_toList (l : Bs) : (B l).toList = l := Lib.toList_data (B l)
set_option maxHeartbeats 4000000 in
set_option maxRecDepth 100000 in
theorem match_calls (k1 k2 : Nat) (a b : Bs × Bs × Bs) (w : World) (h1 : OptAt w ⟨k1, a.1, a.2.1, a.2.2⟩) (h2 : OptAt w ⟨k2, b.1, b.2.1, b.2.2⟩) :
    Calls Tryd.prog 36 #[pt k1, pt k2] w fun e w' => e = .returned (.bool (decide (a = b))) ∧ Drawn0 w w' := by
  obtain ⟨s1, n1, v1⟩ := a
  obtain ⟨s2, n2, v2⟩ := b
  have c0 := cell_of_blk h1 0 _ rfl
  have c1 := cell_of_blk h1 1 _ rfl
  have c2 := cell_of_blk h1 2 _ rfl
  have d0 := cell_of_blk h2 0 _ rfl
  have d1 := cell_of_blk h2 1 _ rfl
  have d2 := cell_of_blk h2 2 _ rfl
  clear h1 h2
  unfold pt
  by_cases e1 : s1 = s2
  · have q1 : ((B s1).toList == (B s2).toList) = true := by rw [B_toList, B_toList]; simpa using e1
    by_cases e2 : n1 = n2
    · have q2 : ((B n1).toList == (B n2).toList) = true := by rw [B_toList, B_toList]; simpa using e2
      have hr : decide ((s1, n1, v1) = (s2, n2, v2)) = ((B v1).toList == (B v2).toList) := by
        rw [B_toList, B_toList]
        subst e1 e2
        by_cases h : v1 = v2 <;> simp [h]
      rw [hr]
      clear e1 e2 hr
      go_enter Tryd.func36, Tryd.ntmps36
      go_wp2
      go_quiet (fail)
      go_wp2
      go_ret
      exact ⟨rfl, (Drawn0.refl _).step _⟩
    · have q2 : ((B n1).toList == (B n2).toList) = false := by rw [B_toList, B_toList]; simpa using e2
      have hr : decide ((s1, n1, v1) = (s2, n2, v2)) = false := by simp [e2]
      rw [hr]
      clear e1 e2 hr
      go_enter Tryd.func36, Tryd.ntmps36
      go_wp2
      go_quiet (fail)
      go_wp2
      go_ret
      exact ⟨rfl, (Drawn0.refl _).step _⟩
  · have q1 : ((B s1).toList == (B s2).toList) = false := by rw [B_toList, B_toList]; simpa using e1
    have hr : decide ((s1, n1, v1) = (s2, n2, v2)) = false := by simp [e1]
    rw [hr]
    clear e1 hr
    go_enter Tryd.func36, Tryd.ntmps36
    go_wp2
    go_quiet (fail)
    go_wp2
    go_ret
    exact ⟨rfl, (Drawn0.refl _).step _⟩
abbrev Op3 := Bs × Bs × Bs
def cellsOf (a : Op3) : Array Value := #[.string (B a.1), .string (B a.2.1), .string (B a.2.2)]
/-- A row of one option. -/
theorem one_row {W : World} {g : Nat} {a : Op3} (h : W.heap[g]? = some (Obj.cells (cellsOf a) 29 (0, 0))) : Kd.C kOpt W (some ⟨g, 0, none⟩) [a].length [a] := by
  refine ⟨rfl, Nat.le_trans (Nat.le_refl 1) (by decide), fun _ => ⟨_, rfl, fun j p hj => ?_⟩⟩
  match j, hj with
  | 0, hj =>
    obtain rfl := Option.some.inj hj
    refine ⟨_, rfl, kOpt_mk W a, fun i u hu => ?_⟩
    have h3 : kOpt.sz = 3 := rfl
    rw [Nat.zero_mul, Nat.zero_add, Go.WideShapes.add_plain, Nat.zero_add, blk_cell h]
    rw [← hu]
    unfold cellsOf
    simp
/-- What the slots of UnitMatch's region hold, once written. -/
def PVm (a b : Op3) : Nat → Value → World → Prop
  | 5, v, _ => v = .agg (cellsOf a)
  | 10, v, _ => v = .agg (cellsOf b)
  | 6, v, w => ∃ g, v = .slice (some ⟨g, 0, none⟩) 1 1 ∧ w.heap[g]? = some (Obj.cells (cellsOf a) 29 (0, 0))
  | 11, v, w => ∃ g, v = .slice (some ⟨g, 0, none⟩) 1 1 ∧ w.heap[g]? = some (Obj.cells (cellsOf b) 29 (0, 0))
  | 7, v, w => ∃ g c k, v = .slice (some ⟨g, 0, none⟩) 1 c ∧ w.cell? ⟨g, 0, none⟩ = some (pt k) ∧ OptAt w ⟨k, a.1, a.2.1, a.2.2⟩
  | 12, v, w => ∃ g c k, v = .slice (some ⟨g, 0, none⟩) 1 c ∧ w.cell? ⟨g, 0, none⟩ = some (pt k) ∧ OptAt w ⟨k, b.1, b.2.1, b.2.2⟩
  | 8, v, w => ∃ g k, v = .pointer (some ⟨g, 0, none⟩) ∧ w.cell? ⟨g, 0, none⟩ = some (pt k) ∧ OptAt w ⟨k, a.1, a.2.1, a.2.2⟩
  | 13, v, w => ∃ g k, v = .pointer (some ⟨g, 0, none⟩) ∧ w.cell? ⟨g, 0, none⟩ = some (pt k) ∧ OptAt w ⟨k, b.1, b.2.1, b.2.2⟩
  | 9, v, w => ∃ k, v = pt k ∧ OptAt w ⟨k, a.1, a.2.1, a.2.2⟩
  | 14, v, w => ∃ k, v = pt k ∧ OptAt w ⟨k, b.1, b.2.1, b.2.2⟩
  | 15, v, _ => v = .bool (decide (a = b))
  | 4, v, _ => v = .bool (decide (a = b))
  | _, _, _ => True
theorem OptAt.more {W W1 : World} {x : OptB} (h : OptAt W x) (hb : Below W.heap.size W W1) : OptAt W1 x := (hb.block x.k (blk_lt h)).trans h
theorem blk_more {W W1 : World} {k : Nat} {o : Obj} (h : W.heap[k]? = some o) (hb : Below W.heap.size W W1) : W1.heap[k]? = some o := (hb.block k (blk_lt h)).trans h
theorem PVm_more (a b : Op3) : ∀ (t : Nat) (v : Value) (w w' : World), PVm a b t v w → Below w.heap.size w w' → PVm a b t v w' := by
  intro t v w w' h hb
  unfold PVm at h ⊢
  split at h
  · exact h
  · exact h
  · obtain ⟨g, h1, h2⟩ := h; exact ⟨g, h1, blk_more h2 hb⟩
  · obtain ⟨g, h1, h2⟩ := h; exact ⟨g, h1, blk_more h2 hb⟩
  · obtain ⟨g, c, k, h1, h2, h3⟩ := h; exact ⟨g, c, k, h1, keepcell hb h2, h3.more hb⟩
  · obtain ⟨g, c, k, h1, h2, h3⟩ := h; exact ⟨g, c, k, h1, keepcell hb h2, h3.more hb⟩
  · obtain ⟨g, k, h1, h2, h3⟩ := h; exact ⟨g, k, h1, keepcell hb h2, h3.more hb⟩
  · obtain ⟨g, k, h1, h2, h3⟩ := h; exact ⟨g, k, h1, keepcell hb h2, h3.more hb⟩
  · obtain ⟨k, h1, h3⟩ := h; exact ⟨k, h1, h3.more hb⟩
  · obtain ⟨k, h1, h3⟩ := h; exact ⟨k, h1, h3.more hb⟩
  · exact h
  · exact h
  · trivial
theorem outside_of {ops : Array Oper} {t : Nat} (h : ops.all (fun o => o.dst != some t) = true) : Go.Last.Outside ops t := fun i o ho e => by
  have := Array.all_eq_true_iff_forall_mem.1 h o (Array.mem_of_getElem? ho)
  rw [e] at this
  simp at this
/-- options of one option, its first. -/
theorem options_one (g : Nat) (a : Op3) (w : World) (h : w.heap[g]? = some (Obj.cells (cellsOf a) 29 (0, 0))) :
    Calls Tryd.prog 35 #[.slice (some ⟨g, 0, none⟩) 1 1] w fun e w' => ∃ g7 c k, e = .returned (.slice (some ⟨g7, 0, none⟩) 1 c) ∧ Below w.heap.size w w' ∧ w'.cell? ⟨g7, 0, none⟩ = some (pt k) ∧ OptAt w' ⟨k, a.1, a.2.1, a.2.2⟩ := by
  refine (options_calls (some ⟨g, 0, none⟩) 1 [a] w (one_row h) (Nat.lt_of_lt_of_le (Nat.lt_succ_self 1) (by decide))).mono ?_
  rintro e w' ⟨v7, Os, rfl, hb, hR, hO, hm⟩
  have hl : Os.length = 1 := by have := congrArg List.length hm; rw [List.length_map] at this; exact this
  match Os, hl with
  | [o], _ =>
    obtain ⟨g7, c, rfl, _, hat⟩ := kR_at hR (by simp)
    have h1 := hO o (by simp)
    have h2 : OptB.op o = a := by simpa using hm
    subst h2
    exact ⟨g7, c, o.k, rfl, hb, hat 0 o.k rfl, h1⟩
set_option maxHeartbeats 40000000 in
set_option maxRecDepth 100000 in
theorem unit_match (a b : Op3) (w : World) :
    Calls Tryd.prog 15 #[.agg (cellsOf a), .agg (cellsOf b)] w fun e w' => e = .returned (.bool (decide (a = b))) ∧ Below w.heap.size w w' := by
  obtain ⟨hb0, hb1, hb2⟩ := alloc2_facts w (Obj.cells (cellsOf a) 29) (Obj.cells (cellsOf b) 29)
  have HB := Aside0.mk hb0
  have Hb1 := Aside0.mk hb1
  have Hb2 := Aside0.mk hb2
  clear hb0 hb1 hb2
  go_enter Tryd.func15, Tryd.ntmps15
  go_upto_region 1 with (fail)
  generalize ((w.alloc (Obj.cells (cellsOf a) 29)).alloc (Obj.cells (cellsOf b) 29)) = W at HB Hb1 Hb2 ⊢
  generalize w.heap.size + 1 = B2 at Hb2 ⊢
  generalize hB1 : w.heap.size = B1 at Hb1 ⊢
  rename_i hKr
  refine Go.Last.wp_region_mono (by kernel_rfl) (PVm a b) (fun W' => Below w.heap.size w W' ∧ W'.heap[B1]? = some (Obj.cells (cellsOf a) 29 (0, 0)) ∧ W'.heap[B2]? = some (Obj.cells (cellsOf b) 29 (0, 0))) (by kernel_rfl) (fun w1 w2 h hb => ⟨below_over h.1 hb, blk_more h.2.1 hb, blk_more h.2.2 hb⟩) (PVm_more a b) ⟨below_over HB.out (below_drew (Below.refl _ _)), Hb1.out, Hb2.out⟩ ?_ ?_
  · intro i o ho A w1 hI hold hdep K hK
    have e2 : A.tmps.getD 2 undef = .pointer (some ⟨B1, 0, none⟩) := hold 2 (outside_of (by kernel_rfl))
    have e3 : A.tmps.getD 3 undef = .pointer (some ⟨B2, 0, none⟩) := hold 3 (outside_of (by kernel_rfl))
    clear hold
    have hmu : ∀ (a : Act) (t : Nat), a.eval (.tmp t) = a.tmps.getD t undef := fun _ _ => rfl
    match i, ho with
    | 0, ho =>
      have ho' : some ({ dst := some 5, op := Op.load 29 (Operand.tmp 2), type := 29, pos := "units.go:93", after := #[], guard := none } : Oper) = some o := ho
      obtain rfl := Option.some.inj ho'
      clear ho ho'
      have c0 := cell_of_blk hI.2.1 0 _ rfl
      have c1 := cell_of_blk hI.2.1 1 _ rfl
      have c2 := cell_of_blk hI.2.1 2 _ rfl
      go_simp
      exact hK _ _ 5 rfl (Below.refl _ _) rfl
    | 1, ho =>
      have ho' : some ({ dst := some 6, op := Op.buildSlice 32 1 #[(0, Operand.tmp 5)], type := 32, pos := "units.go:93", after := #[{ on := 0, ground := Ground.data }], guard := none } : Oper) = some o := ho
      obtain rfl := Option.some.inj ho'
      clear ho ho'
      have pd := hdep { on := 0, ground := Ground.data } (by simp) (by kernel_rfl) _ 5 rfl rfl
      have pd' : A.tmps.getD 5 undef = .agg (cellsOf a) := pd
      unfold cellsOf at pd'
      clear pd hdep
      rw [Array.getD_eq_getD_getElem?] at pd'
      go_simp
      exact hK _ _ 6 rfl (below_new _ _) ⟨_, rfl, heap_alloc_new _ _⟩
    | 2, ho =>
      have ho' : some ({ dst := some 7, op := Op.call { callee := Callee.value (Operand.func 35), args := #[Operand.tmp 6], argTypes := #[32] }, type := 56, pos := "units.go:93", after := #[{ on := 1, ground := Ground.data }], guard := none } : Oper) = some o := ho
      obtain rfl := Option.some.inj ho'
      clear ho ho'
      have pd := hdep { on := 1, ground := Ground.data } (by simp) (by kernel_rfl) _ 6 rfl rfl
      obtain ⟨g, pd', hg⟩ := (pd : ∃ g, A.tmps.getD 6 undef = .slice (some ⟨g, 0, none⟩) 1 1 ∧ w1.heap[g]? = some (Obj.cells (cellsOf a) 29 (0, 0)))
      clear hdep
      rw [Array.getD_eq_getD_getElem?] at pd'
      go_simp
      refine (options_one g a w1 hg).mono ?_
      rintro e w2 ⟨g7, c, k, rfl, hb, h1, h2⟩
      exact hK _ _ 7 rfl hb ⟨_, _, _, rfl, h1, h2⟩
    | 3, ho =>
      have ho' : some ({ dst := some 8, op := Op.indexAddr 56 (Operand.tmp 7) (Operand.const (Value.int IntKind.i64 0)), type := 0, pos := "units.go:93", after := #[{ on := 2, ground := Ground.data }], guard := none } : Oper) = some o := ho
      obtain rfl := Option.some.inj ho'
      clear ho ho'
      have pd := hdep { on := 2, ground := Ground.data } (by simp) (by kernel_rfl) _ 7 rfl rfl
      obtain ⟨g, c, k, pd', hg, ho⟩ := (pd : ∃ g c k, A.tmps.getD 7 undef = .slice (some ⟨g, 0, none⟩) 1 c ∧ w1.cell? ⟨g, 0, none⟩ = some (pt k) ∧ OptAt w1 ⟨k, a.1, a.2.1, a.2.2⟩)
      clear hdep
      rw [Array.getD_eq_getD_getElem?] at pd'
      go_simp
      exact hK _ _ 8 rfl (Below.refl _ _) ⟨_, _, rfl, hg, ho⟩
    | 4, ho =>
      have ho' : some ({ dst := some 9, op := Op.load 55 (Operand.tmp 8), type := 55, pos := "units.go:93", after := #[{ on := 3, ground := Ground.data }], guard := none } : Oper) = some o := ho
      obtain rfl := Option.some.inj ho'
      clear ho ho'
      have pd := hdep { on := 3, ground := Ground.data } (by simp) (by kernel_rfl) _ 8 rfl rfl
      obtain ⟨g, k, pd', hg, ho⟩ := (pd : ∃ g k, A.tmps.getD 8 undef = .pointer (some ⟨g, 0, none⟩) ∧ w1.cell? ⟨g, 0, none⟩ = some (pt k) ∧ OptAt w1 ⟨k, a.1, a.2.1, a.2.2⟩)
      clear hdep
      rw [Array.getD_eq_getD_getElem?] at pd'
      unfold pt at hg
      go_simp
      exact hK _ _ 9 rfl (Below.refl _ _) ⟨_, rfl, ho⟩
    | 5, ho =>
      have ho' : some ({ dst := some 10, op := Op.load 29 (Operand.tmp 3), type := 29, pos := "units.go:93", after := #[], guard := none } : Oper) = some o := ho
      obtain rfl := Option.some.inj ho'
      clear ho ho'
      have c0 := cell_of_blk hI.2.2 0 _ rfl
      have c1 := cell_of_blk hI.2.2 1 _ rfl
      have c2 := cell_of_blk hI.2.2 2 _ rfl
      go_simp
      exact hK _ _ 10 rfl (Below.refl _ _) rfl
    | 6, ho =>
      have ho' : some ({ dst := some 11, op := Op.buildSlice 32 1 #[(0, Operand.tmp 10)], type := 32, pos := "units.go:93", after := #[{ on := 5, ground := Ground.data }], guard := none } : Oper) = some o := ho
      obtain rfl := Option.some.inj ho'
      clear ho ho'
      have pd := hdep { on := 5, ground := Ground.data } (by simp) (by kernel_rfl) _ 10 rfl rfl
      have pd' : A.tmps.getD 10 undef = .agg (cellsOf b) := pd
      unfold cellsOf at pd'
      clear pd hdep
      rw [Array.getD_eq_getD_getElem?] at pd'
      go_simp
      exact hK _ _ 11 rfl (below_new _ _) ⟨_, rfl, heap_alloc_new _ _⟩
    | 7, ho =>
      have ho' : some ({ dst := some 12, op := Op.call { callee := Callee.value (Operand.func 35), args := #[Operand.tmp 11], argTypes := #[32] }, type := 56, pos := "units.go:93", after := #[{ on := 6, ground := Ground.data }, { on := 2, ground := Ground.chain }], guard := none } : Oper) = some o := ho
      obtain rfl := Option.some.inj ho'
      clear ho ho'
      have pd := hdep { on := 6, ground := Ground.data } (by simp) (by kernel_rfl) _ 11 rfl rfl
      obtain ⟨g, pd', hg⟩ := (pd : ∃ g, A.tmps.getD 11 undef = .slice (some ⟨g, 0, none⟩) 1 1 ∧ w1.heap[g]? = some (Obj.cells (cellsOf b) 29 (0, 0)))
      clear hdep
      rw [Array.getD_eq_getD_getElem?] at pd'
      go_simp
      refine (options_one g b w1 hg).mono ?_
      rintro e w2 ⟨g7, c, k, rfl, hb, h1, h2⟩
      exact hK _ _ 12 rfl hb ⟨_, _, _, rfl, h1, h2⟩
    | 8, ho =>
      have ho' : some ({ dst := some 13, op := Op.indexAddr 56 (Operand.tmp 12) (Operand.const (Value.int IntKind.i64 0)), type := 0, pos := "units.go:93", after := #[{ on := 7, ground := Ground.data }], guard := none } : Oper) = some o := ho
      obtain rfl := Option.some.inj ho'
      clear ho ho'
      have pd := hdep { on := 7, ground := Ground.data } (by simp) (by kernel_rfl) _ 12 rfl rfl
      obtain ⟨g, c, k, pd', hg, ho⟩ := (pd : ∃ g c k, A.tmps.getD 12 undef = .slice (some ⟨g, 0, none⟩) 1 c ∧ w1.cell? ⟨g, 0, none⟩ = some (pt k) ∧ OptAt w1 ⟨k, b.1, b.2.1, b.2.2⟩)
      clear hdep
      rw [Array.getD_eq_getD_getElem?] at pd'
      go_simp
      exact hK _ _ 13 rfl (Below.refl _ _) ⟨_, _, rfl, hg, ho⟩
    | 9, ho =>
      have ho' : some ({ dst := some 14, op := Op.load 55 (Operand.tmp 13), type := 55, pos := "units.go:93", after := #[{ on := 8, ground := Ground.data }], guard := none } : Oper) = some o := ho
      obtain rfl := Option.some.inj ho'
      clear ho ho'
      have pd := hdep { on := 8, ground := Ground.data } (by simp) (by kernel_rfl) _ 13 rfl rfl
      obtain ⟨g, k, pd', hg, ho⟩ := (pd : ∃ g k, A.tmps.getD 13 undef = .pointer (some ⟨g, 0, none⟩) ∧ w1.cell? ⟨g, 0, none⟩ = some (pt k) ∧ OptAt w1 ⟨k, b.1, b.2.1, b.2.2⟩)
      clear hdep
      rw [Array.getD_eq_getD_getElem?] at pd'
      unfold pt at hg
      go_simp
      exact hK _ _ 14 rfl (Below.refl _ _) ⟨_, rfl, ho⟩
    | 10, ho =>
      have ho' : some ({ dst := some 15, op := Op.call { callee := Callee.value (Operand.func 36), args := #[Operand.tmp 9, Operand.tmp 14], argTypes := #[55, 55] }, type := 4, pos := "units.go:93", after := #[{ on := 4, ground := Ground.data }, { on := 9, ground := Ground.data }, { on := 7, ground := Ground.chain }], guard := none } : Oper) = some o := ho
      obtain rfl := Option.some.inj ho'
      clear ho ho'
      have pa := hdep { on := 4, ground := Ground.data } (by simp) (by kernel_rfl) _ 9 rfl rfl
      have pb := hdep { on := 9, ground := Ground.data } (by simp) (by kernel_rfl) _ 14 rfl rfl
      obtain ⟨k1, pa', h1⟩ := (pa : ∃ k, A.tmps.getD 9 undef = pt k ∧ OptAt w1 ⟨k, a.1, a.2.1, a.2.2⟩)
      obtain ⟨k2, pb', h2⟩ := (pb : ∃ k, A.tmps.getD 14 undef = pt k ∧ OptAt w1 ⟨k, b.1, b.2.1, b.2.2⟩)
      clear hdep
      rw [Array.getD_eq_getD_getElem?] at pa' pb'
      go_simp
      refine (match_calls k1 k2 a b w1 h1 h2).mono ?_
      rintro e w2 ⟨rfl, hd⟩
      exact hK _ _ 15 rfl hd.below rfl
    | 11, ho =>
      have ho' : some ({ dst := some 4, op := Op.assign (Operand.tmp 15), type := 4, pos := "units.go:93", after := #[{ on := 10, ground := Ground.data }, { on := 10, ground := Ground.chain }, { on := 0, ground := Ground.phase }, { on := 1, ground := Ground.phase }, { on := 2, ground := Ground.phase }, { on := 3, ground := Ground.phase }, { on := 4, ground := Ground.phase }, { on := 5, ground := Ground.phase }, { on := 6, ground := Ground.phase }, { on := 7, ground := Ground.phase }, { on := 8, ground := Ground.phase }, { on := 9, ground := Ground.phase }, { on := 10, ground := Ground.phase }], guard := none } : Oper) = some o := ho
      obtain rfl := Option.some.inj ho'
      clear ho ho'
      have pd := hdep { on := 10, ground := Ground.data } (by simp) (by kernel_rfl) _ 15 rfl rfl
      have pd' : A.tmps.getD 15 undef = .bool (decide (a = b)) := pd
      clear pd hdep
      rw [Array.getD_eq_getD_getElem?] at pd'
      go_simp
      exact hK _ _ 4 rfl (Below.refl _ _) rfl
    | n + 12, ho => exact absurd (Array.getElem?_eq_some_iff.1 ho).1 (by simp)
  · intro A w1 hd hI hold hpost
    have p4 := hpost 11 _ 4 rfl rfl
    have p4' : A.tmps.getD 4 undef = .bool (decide (a = b)) := p4
    refine hKr A w1 ?_
    go_wp2
    refine bodyPost_ret (results_tmp rfl _ _ _) hd ?_
    exact ⟨by rw [← p4'], hB1 ▸ hI.1⟩
end Go.Proofs.YtocdnceckljnaaaDoor.U
