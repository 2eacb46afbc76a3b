/- impl.UnitRead: the options of a text, as a list. Conditions: see each theorem. -/
import Derived.Test.YtocdnceckljnaaaDoorUp
import Derived.Defers
import Derived.Recover
namespace Go.Proofs.YtocdnceckljnaaaDoor.U
open Go.RowKit Go.Proofs.YtocdnceckljnaaaDoorW.PrintWords Go.Proofs.YtocdnceckljnaaaDoorW.PrintLast Go.Proofs.YtocdnceckljnaaaDoorW.PrintMore
set_option linter.unusedVariables false
set_option linter.unusedSimpArgs false
/-- The sections and the options of a text of bytes below 128; none: what is not looked at here. -/
def readF (T : Bs) : Option (List (Bs × List (Bs × Bs)) × List (Bs × Bs × Bs)) :=
  (lexF (3 * T.length + 10) .next T []).bind fun R => if R.length < 900000000 then putD R [] [] else none
theorem putD_len : ∀ (R : List PD) (S S' : List (Bs × List (Bs × Bs))) (O O' : List (Bs × Bs × Bs)), putD R S O = some (S', O') → O'.length ≤ O.length + R.length
  | [], S, S', O, O', h => by
    simp only [putD, Option.some.injEq, Prod.mk.injEq] at h
    rw [h.2]; simp
  | (true, s, n, v) :: r, S, S', O, O', h => by
    have := putD_len r _ S' O O' h
    simp only [List.length_cons]
    omega
  | (false, s, n, v) :: r, S, S', O, O', h => by
    simp only [putD] at h
    split at h
    · simp at h
    · have := putD_len r _ S' _ O' h
      rw [List.length_append] at this
      simp only [List.length_cons, List.length_singleton, List.length_nil] at this ⊢
      omega
set_option maxHeartbeats 4000000 in
set_option maxRecDepth 100000 in
theorem des_opts (T : ByteArray) (w : World) (S' : List (Bs × List (Bs × Bs))) (O' : List (Bs × Bs × Bs)) (ht : Tabs w) (ha : ∀ c ∈ T.data.toList, c.toNat < 128) (hT : T.size ≤ 1000000000) (hR : readF T.data.toList = some (S', O')) :
    Calls Tryd.prog 40 #[.string T] w fun e w' => ∃ (v7 : Value) (Os : List OptB), e = .returned (.tuple #[v7, .nilIface]) ∧ Below w.heap.size w w' ∧ kPtr.R 55 w' w.heap.size (fun _ => True) v7 (Os.map (·.k)) ∧ (∀ x ∈ Os, OptAt w' x) ∧ Os.map OptB.op = O' := by
  unfold readF at hR
  obtain ⟨R, hl, hR⟩ := Option.bind_eq_some_iff.mp hR
  split at hR
  · rename_i hRl
    have HC := Aside0.mk (des_all T w _ R S' O' ht ha hT hl hR hRl)
    clear hl hR hRl ha ht
    go_enter Tryd.func40, Tryd.ntmps40
    go_wp2_with (go_at_call 54; refine HC.out.mono ?_; rintro e w1 ⟨v6, v7, Ss, Os, rfl, hb, h1, h2, h3, h4, h5, h6⟩; have H := Aside0.mk (And.intro hb (And.intro h3 (And.intro h4 h6))); clear hb h1 h2 h3 h4 h5 h6)
    go_ret2
    exact ⟨_, Os, rfl, H.out⟩
  · simp at hR
def kOpt : Kd (Bs × Bs × Bs) := Kd.iso (Kd.pair Kd.string (Kd.pair Kd.string Kd.string)) (fun x => (B x.1, B x.2.1, B x.2.2))
theorem kOpt_mkM (w : World) (base : Nat) (ok : Nat → Prop) (x : Bs × Bs × Bs) : kOpt.M w base ok x [.string (B x.1), .string (B x.2.1), .string (B x.2.2)] :=
  ⟨[.string (B x.1)], _, rfl, rfl, [.string (B x.2.1)], [.string (B x.2.2)], rfl, rfl, rfl⟩
theorem koptE (q : Nat) (hq : q ∈ 29 :: kOpt.E) : q = 29 := by simpa [kOpt, Kd.iso, Kd.pair, Kd.string, Kd.scalar] using hq
theorem catch_idle (p q : Addr) (w : World) :
    CallsD Tryd.prog 39 #[.pointer (some p), .pointer (some q)] .returning w fun e u' w' => e = .returned (.tuple #[]) ∧ u' = .returning ∧ w' = w := by
  refine callsD_of_wpS Tryd.func39 rfl fun c₀ cs hu => ?_
  apply wpS_seq
  apply wpS_region
  simp [wpOpsS, go_sem, recoverD, hu, Tryd.ntmps39, Exit.thenS]
  refine wpS_cond (t := false) (by simp [Act.eval, Array.replicate]) ?_
  simp only [Bool.false_eq_true, if_false]
  refine wpS_of_wp (wp_skip ?_)
  cases c₀
  simp_all [bodyPostS, results, Tryd.results39]
theorem cell_of_blk {W : World} {b : Nat} {cs : Array Value} {t : TypeId} (hb : W.heap[b]? = some (.cells cs t (0, 0))) (i : Nat) (v : Value) (hv : cs[i]? = some v) : W.cell? ⟨b, i, none⟩ = some v := by
  unfold World.cell?
  simp only [hb]
  exact hv
set_option maxHeartbeats 40000000 in
set_option maxRecDepth 100000 in
theorem unit_read (T : ByteArray) (w : World) (S' : List (Bs × List (Bs × Bs))) (O' : List (Bs × Bs × Bs)) (ht : Tabs w) (ha : ∀ c ∈ T.data.toList, c.toNat < 128) (hT : T.size ≤ 1000000000) (hR : readF T.data.toList = some (S', O')) (hO : O'.length < 900000000) :
    Calls Tryd.prog 22 #[.string T] w fun e w' => ∃ v0 : Value, e = .returned (.tuple #[v0, .int .i64 0]) ∧ Kd.R kOpt 29 w' w.heap.size (fun _ => True) v0 O' ∧ Below w.heap.size w w' := by
  have HTb := Aside0.mk ht
  have HA := Aside0.mk ha
  have HT := Aside0.mk hT
  have HR0 := Aside0.mk hR
  have hrb := Aside0.mk hO
  have hnn : ∀ (w : World), (binOp .neq 61 .nilIface .nilIface).run Tryd.prog w = .ok (.bool false) w := fun _ => rfl
  clear ht ha hT hR hO
  have hmf := hmf
  go_enter_defers Tryd.func22, Tryd.ntmps22
  go_upto_region 2 with (fail)
  clear hmf
  obtain ⟨hb0, hb1, hb2⟩ := alloc2_facts w (Obj.cells #[Value.slice none 0 0] 32) (Obj.cells #[Value.int IntKind.i64 0] 3)
  have HB := Aside0.mk hb0
  have Hb1 := Aside0.mk hb1
  have Hb2 := Aside0.mk hb2
  have HTW := Aside0.mk (HTb.out.below hb0)
  clear hb0 hb1 hb2
  generalize ((w.alloc (Obj.cells #[Value.slice none 0 0] 32)).alloc (Obj.cells #[Value.int IntKind.i64 0] 3)) = W at HB Hb1 Hb2 HTW ⊢
  go_wp2_with (go_at_call 40; refine (des_opts T W S' O' HTW.out HA.out HT.out HR0.out).mono ?_; rintro e W1 ⟨v7, Os, rfl, hb, h1, h2, h3⟩; have HBW := Aside0.mk (below_over HB.out hb); have Hc1 := Aside0.mk ((hb.block _ (blk_lt Hb1.out)).trans Hb1.out); have Hc2 := Aside0.mk ((hb.block _ (blk_lt Hb2.out)).trans Hb2.out); have HRo := Aside0.mk (Kd.R_lower h1 HB.out.size); have HOs := Aside0.mk h2; have HOp := Aside0.mk h3; obtain ⟨A7, c7, hv7⟩ := Kd.R_slice h1; rw [List.length_map] at hv7; subst hv7; clear hb h1 h2 h3 Hb1 Hb2 HTW HB)
  have HB2b := Aside0.mk (show w.heap.size ≤ w.heap.size + 1 by omega)
  have hne0 : ¬ w.heap.size + 1 = w.heap.size := by omega
  have hne1 : ¬ w.heap.size = w.heap.size + 1 := by omega
  have hB12 := Aside0.mk hne1
  generalize w.heap.size + 1 = B2 at Hc2 hne0 hne1 hB12 HB2b ⊢
  have HB1b := Aside0.mk (Nat.le_refl w.heap.size)
  generalize hB1 : w.heap.size = B1 at Hc1 hne0 hne1 hB12 HB1b ⊢
  have HB1e := Aside0.mk hB1
  clear hB1
  have hol := Aside0.mk (show Os.length = O'.length by rw [← HOp.out, List.length_map])
  clear HTb HA HT HR0
  go_loopg [18] Os.length (fun kq v18 w' => ∃ (i : Nat) (u : Value), v18 = .int .i64 i ∧ Aside0 (i + kq = Os.length) ∧ Aside0 (w'.heap[B1]? = some (.cells #[u] 32 (0, 0))) ∧ Aside0 (w'.heap[B2]? = some (.cells #[.int .i64 0] 3 (0, 0))) ∧ Aside0 (Kd.R kOpt 29 w' w.heap.size (fun _ => True) u ((Os.map OptB.op).take i)) ∧ Aside0 (kPtr.R 55 w' w.heap.size (fun _ => True) (.slice A7 Os.length c7) (Os.map (·.k))) ∧ Aside0 (∀ x ∈ Os, OptAt w' x) ∧ Aside0 (Below w.heap.size w w'))
  case atStart => exact ⟨0, _, rfl, ⟨by omega⟩, Hc1, Hc2, ⟨Kd.R_nil _ _ _ _ _⟩, HRo, HOs, HBW⟩
  case round =>
    clear Hc1 Hc2 HRo HOs HBW
    obtain ⟨i, u, rfl, HI, Hb1, Hb2, HU, HR, HO, HBw⟩ := hrel
    obtain ⟨Au, cu, hu⟩ := Kd.R_slice HU.out
    rw [List.length_take, List.length_map, Nat.min_eq_left (by have := HI.out; omega)] at hu
    subst hu
    have hcb := cell_of_blk Hb1.out 0 _ rfl
    have hfb := blk_frozen Hb1.out 0
    have hcb2 := cell_of_blk Hb2.out 0 _ rfl
    have hfb2 := blk_frozen Hb2.out 0
    cases gk with
    | zero =>
      obtain rfl : i = Os.length := by have := HI.out; omega
      go_wp2_with fail
      refine leaves_cons (f := 39) (args := #[.pointer (some ⟨B1, 0, none⟩), .pointer (some ⟨B2, 0, none⟩)]) (by simp) (by simp [go_sem]) ?_
      refine (catch_idle ⟨B1, 0, none⟩ ⟨B2, 0, none⟩ _).mono ?_
      rintro e u' w'' ⟨rfl, rfl, rfl⟩
      have hs1 : (wr.setCell ⟨B1, 0, none⟩ (Value.slice Au Os.length cu)).cell? ⟨B1, 0, none⟩ = some (Value.slice Au Os.length cu) := by simp [go_sem, hcb]
      have hcb2' : (wr.setCell ⟨B1, 0, none⟩ (Value.slice Au Os.length cu)).cell? ⟨B2, 0, none⟩ = some (.int .i64 0) := by simp [go_sem, hcb2, hne0]
      have hs2 : ((wr.setCell ⟨B1, 0, none⟩ (Value.slice Au Os.length cu)).setCell ⟨B2, 0, none⟩ (.int .i64 0)).cell? ⟨B2, 0, none⟩ = some (.int .i64 0) := by simp [go_sem, hcb2']
      have hB2' : (wr.setCell ⟨B1, 0, none⟩ (Value.slice Au Os.length cu)).heap[B2]? = some (.cells #[.int .i64 0] 3 (0, 0)) := (Below.heap_setCell wr ⟨B1, 0, none⟩ _ B2 hne0).trans Hb2.out
      have hU : Kd.R kOpt 29 wr w.heap.size (fun _ => True) (.slice Au Os.length cu) O' := by
        have h := HU.out
        rw [List.take_of_length_le (by rw [List.length_map]; exact Nat.le_refl _), HOp.out] at h
        exact h
      have R1 := Aside0.mk (Kd.R_set (Kd.R_set hU Hb1.out (fun q hq => by rw [koptE q hq]; decide) 0 (Value.slice Au Os.length cu)) hB2' (fun q hq => by rw [koptE q hq]; decide) 0 (.int .i64 0))
      have BW := Aside0.mk (below_set (below_set HBw.out (Nat.le_of_eq HB1e.out) (v := Value.slice Au Os.length cu) (j := 0)) HB2b.out (v := .int .i64 0) (j := 0))
      clear hU hB2'
      simp [Leaves, settle, results, Tryd.results22, go_sem, hs1, hs2]
      exact ⟨R1.out, BW.out⟩
    | succ k1 =>
      have hi0 : i < Os.length := by have := HI.out; omega
      obtain ⟨x, hx⟩ : ∃ x, Os[i]? = some x := ⟨_, List.getElem?_eq_getElem hi0⟩
      obtain ⟨gA, cA, hvA, _, hAt⟩ := kR_at HR.out (by rw [List.length_map]; omega)
      have hpA := hAt i x.k (by rw [List.getElem?_map, hx]; rfl)
      obtain rfl : A7 = some ⟨gA, 0, none⟩ := by injection hvA
      have hX := Aside0.mk (HO.out x (List.mem_of_getElem? hx))
      have hm := Aside0.mk (show (Os.map OptB.op)[i]? = some (OptB.op x) by rw [List.getElem?_map, hx]; rfl)
      have g0 := cell_of_blk hX.out 0 _ rfl
      have g1 := cell_of_blk hX.out 1 _ rfl
      have g2 := cell_of_blk hX.out 2 _ rfl
      clear hAt hvA hx
      have q1 : decide (i < Os.length) = true := by simp; omega
      have z1 : (i : Int) < (Os.length : Int) := by omega
      have HI0 := Aside0.mk hi0
      clear hi0
      go_upto_region 8 with (fail)
      clear hcb2 hfb2 hne0 hne1
      refine wp_region_noPanic ?_
      refine Go.Last.wp_region_x (S := fun w' => w'.cell? ⟨B1, 0, none⟩ = some (Value.slice Au i cu) ∧ w'.cell? ⟨x.k, 0, none⟩ = some (.string (B x.s)) ∧ w'.cell? ⟨x.k, 1, none⟩ = some (.string (B x.n)) ∧ w'.cell? ⟨x.k, 2, none⟩ = some (.string (B x.v))) (n := 16) (by kernel_rfl) ?_
      have HS : (fun w' => w'.cell? ⟨B1, 0, none⟩ = some (Value.slice Au i cu) ∧ w'.cell? ⟨x.k, 0, none⟩ = some (.string (B x.s)) ∧ w'.cell? ⟨x.k, 1, none⟩ = some (.string (B x.n)) ∧ w'.cell? ⟨x.k, 2, none⟩ = some (.string (B x.v))) wr.drew := ⟨hcb, g0, g1, g2⟩
      have HUd := Aside0.mk (show Kd.R kOpt 29 wr.drew w.heap.size (fun _ => True) (.slice Au i cu) ((Os.map OptB.op).take i) from HU.out)
      have HRd := Aside0.mk (show kPtr.R 55 wr.drew w.heap.size (fun _ => True) (.slice (some ⟨gA, 0, none⟩) Os.length c7) (Os.map (·.k)) from HR.out)
      have HOd := Aside0.mk (show ∀ x ∈ Os, OptAt wr.drew x from HO.out)
      have HBd := Aside0.mk (show Below w.heap.size w wr.drew from ⟨HBw.out.os, HBw.out.tape, HBw.out.output, HBw.out.size, HBw.out.block⟩)
      have Hb1d := Aside0.mk (show wr.drew.heap[B1]? = some (.cells #[Value.slice Au i cu] 32 (0, 0)) from Hb1.out)
      have Hb2d := Aside0.mk (show wr.drew.heap[B2]? = some (.cells #[.int .i64 0] 3 (0, 0)) from Hb2.out)
      have hblkd := Aside0.mk (show OptAt wr.drew x from hX.out)
      change Go.Last.wpAnyX _ _ _ _ _ _ _ _ _ wr.drew
      clear hcb g0 g1 g2 hpA hfb HU HR HBw Hb1 Hb2 hX HO
      generalize wr.drew = wd at *
      show Go.Last.wpAnyX _ _ _ _ _ _ 17 _ _ _
      refine Go.Last.wpAnyX_at 17 rfl (by kernel_rfl) (by kernel_rfl) (by kernel_rfl) (by kernel_rfl) (fun _ _ _ h => h) (v := ?_) (Or.inl ⟨by rfl, ?_⟩) (by assumption) ?_
      rotate_left
      · intro w hSw
        (try dsimp only at hSw)
        go_split_ands
        go_simp
        first | done | with_reducible rfl
      (try simp only [Nat.reduceSub, Nat.reduceAdd, Act.put, List.setIfInBounds_toArray, List.set_cons_zero, List.set_cons_succ])
      refine Go.Last.wpAnyX_at 17 rfl (by kernel_rfl) (by kernel_rfl) (by kernel_rfl) (by kernel_rfl) (fun _ _ _ h => h) (v := ?_) (Or.inl ⟨by rfl, ?_⟩) (by assumption) ?_
      rotate_left
      · intro w hSw
        (try dsimp only at hSw)
        go_split_ands
        go_simp
        first | done | with_reducible rfl
      (try simp only [Nat.reduceSub, Nat.reduceAdd, Act.put, List.setIfInBounds_toArray, List.set_cons_zero, List.set_cons_succ])
      refine Go.Last.wpAnyX_at 17 rfl (by kernel_rfl) (by kernel_rfl) (by kernel_rfl) (by kernel_rfl) (fun _ _ _ h => h) (v := ?_) (Or.inl ⟨by rfl, ?_⟩) (by assumption) ?_
      rotate_left
      · intro w hSw
        (try dsimp only at hSw)
        go_split_ands
        go_simp
        first | done | with_reducible rfl
      (try simp only [Nat.reduceSub, Nat.reduceAdd, Act.put, List.setIfInBounds_toArray, List.set_cons_zero, List.set_cons_succ])
      refine Go.Last.wpAnyX_at 17 rfl (by kernel_rfl) (by kernel_rfl) (by kernel_rfl) (by kernel_rfl) (fun _ _ _ h => h) (v := ?_) (Or.inl ⟨by rfl, ?_⟩) (by assumption) ?_
      rotate_left
      · intro w hSw
        (try dsimp only at hSw)
        go_split_ands
        go_simp
        first | done | with_reducible rfl
      (try simp only [Nat.reduceSub, Nat.reduceAdd, Act.put, List.setIfInBounds_toArray, List.set_cons_zero, List.set_cons_succ])
      refine Go.Last.wpAnyX_at 17 rfl (by kernel_rfl) (by kernel_rfl) (by kernel_rfl) (by kernel_rfl) (fun _ _ _ h => h) (v := ?_) (Or.inl ⟨by rfl, ?_⟩) (by assumption) ?_
      rotate_left
      · intro w hSw
        (try dsimp only at hSw)
        go_split_ands
        go_simp
        first | done | with_reducible rfl
      (try simp only [Nat.reduceSub, Nat.reduceAdd, Act.put, List.setIfInBounds_toArray, List.set_cons_zero, List.set_cons_succ])
      refine Go.Last.wpAnyX_at 17 rfl (by kernel_rfl) (by kernel_rfl) (by kernel_rfl) (by kernel_rfl) (fun _ _ _ h => h) (v := ?_) (Or.inl ⟨by rfl, ?_⟩) (by assumption) ?_
      rotate_left
      · intro w hSw
        (try dsimp only at hSw)
        go_split_ands
        go_simp
        first | done | with_reducible rfl
      (try simp only [Nat.reduceSub, Nat.reduceAdd, Act.put, List.setIfInBounds_toArray, List.set_cons_zero, List.set_cons_succ])
      refine Go.Last.wpAnyX_at 17 rfl (by kernel_rfl) (by kernel_rfl) (by kernel_rfl) (by kernel_rfl) (fun _ _ _ h => h) (v := ?_) (Or.inl ⟨by rfl, ?_⟩) (by assumption) ?_
      rotate_left
      · intro w hSw
        (try dsimp only at hSw)
        go_split_ands
        go_simp
        first | done | with_reducible rfl
      (try simp only [Nat.reduceSub, Nat.reduceAdd, Act.put, List.setIfInBounds_toArray, List.set_cons_zero, List.set_cons_succ])
      refine Go.Last.wpAnyX_at 17 rfl (by kernel_rfl) (by kernel_rfl) (by kernel_rfl) (by kernel_rfl) (fun _ _ _ h => h) (v := ?_) (Or.inl ⟨by rfl, ?_⟩) (by assumption) ?_
      rotate_left
      · intro w hSw
        (try dsimp only at hSw)
        go_split_ands
        go_simp
        first | done | with_reducible rfl
      (try simp only [Nat.reduceSub, Nat.reduceAdd, Act.put, List.setIfInBounds_toArray, List.set_cons_zero, List.set_cons_succ])
      refine Go.Last.wpAnyX_at 17 rfl (by kernel_rfl) (by kernel_rfl) (by kernel_rfl) (by kernel_rfl) (fun _ _ _ h => h) (v := ?_) (Or.inl ⟨by rfl, ?_⟩) (by assumption) ?_
      rotate_left
      · intro w hSw
        (try dsimp only at hSw)
        go_split_ands
        go_simp
        first | done | with_reducible rfl
      (try simp only [Nat.reduceSub, Nat.reduceAdd, Act.put, List.setIfInBounds_toArray, List.set_cons_zero, List.set_cons_succ])
      refine Go.Last.wpAnyX_at 17 rfl (by kernel_rfl) (by kernel_rfl) (by kernel_rfl) (by kernel_rfl) (fun _ _ _ h => h) (v := ?_) (Or.inl ⟨by rfl, ?_⟩) (by assumption) ?_
      rotate_left
      · intro w hSw
        (try dsimp only at hSw)
        go_split_ands
        go_simp
        first | done | with_reducible rfl
      (try simp only [Nat.reduceSub, Nat.reduceAdd, Act.put, List.setIfInBounds_toArray, List.set_cons_zero, List.set_cons_succ])
      refine Go.Last.wpAnyX_at 17 rfl (by kernel_rfl) (by kernel_rfl) (by kernel_rfl) (by kernel_rfl) (fun _ _ _ h => h) (v := ?_) (Or.inl ⟨by rfl, ?_⟩) (by assumption) ?_
      rotate_left
      · intro w hSw
        (try dsimp only at hSw)
        go_split_ands
        go_simp
        first | done | with_reducible rfl
      (try simp only [Nat.reduceSub, Nat.reduceAdd, Act.put, List.setIfInBounds_toArray, List.set_cons_zero, List.set_cons_succ])
      refine Go.Last.wpAnyX_at 17 rfl (by kernel_rfl) (by kernel_rfl) (by kernel_rfl) (by kernel_rfl) (fun _ _ _ h => h) (v := ?_) (Or.inl ⟨by rfl, ?_⟩) (by assumption) ?_
      rotate_left
      · intro w hSw
        (try dsimp only at hSw)
        go_split_ands
        go_simp
        first | done | with_reducible rfl
      (try simp only [Nat.reduceSub, Nat.reduceAdd, Act.put, List.setIfInBounds_toArray, List.set_cons_zero, List.set_cons_succ])
      refine Go.Last.wpAnyX_at 17 rfl (by kernel_rfl) (by kernel_rfl) (by kernel_rfl) (by kernel_rfl) (fun _ _ _ h => h) (v := ?_) (Or.inl ⟨by rfl, ?_⟩) (by assumption) ?_
      rotate_left
      · intro w hSw
        (try dsimp only at hSw)
        go_split_ands
        go_simp
        first | done | with_reducible rfl
      (try simp only [Nat.reduceSub, Nat.reduceAdd, Act.put, List.setIfInBounds_toArray, List.set_cons_zero, List.set_cons_succ])
      refine Go.Last.wpAnyX_at 17 rfl (by kernel_rfl) (by kernel_rfl) (by kernel_rfl) (by kernel_rfl) (fun _ _ _ h => h) (v := ?_) (Or.inl ⟨by rfl, ?_⟩) (by assumption) ?_
      rotate_left
      · intro w hSw
        (try dsimp only at hSw)
        go_split_ands
        go_simp
        first | done | with_reducible rfl
      (try simp only [Nat.reduceSub, Nat.reduceAdd, Act.put, List.setIfInBounds_toArray, List.set_cons_zero, List.set_cons_succ])
      refine Go.Last.wpAnyX_one (i := 14) (o := { dst := some 36, op := Op.buildSlice 32 1 #[(0, Operand.tmp 35)], type := 32, pos := "units.go:60", after := #[{ on := 13, ground := Ground.data }], guard := none }) (by kernel_rfl) rfl ?_
      intro K1 hK1
      go_simp
      have HSb : (fun w' => w'.cell? ⟨B1, 0, none⟩ = some (Value.slice Au i cu) ∧ w'.cell? ⟨x.k, 0, none⟩ = some (.string (B x.s)) ∧ w'.cell? ⟨x.k, 1, none⟩ = some (.string (B x.n)) ∧ w'.cell? ⟨x.k, 2, none⟩ = some (.string (B x.v))) (wd.alloc (Obj.cells #[.string (B x.s), .string (B x.n), .string (B x.v)] 29)) := ⟨keepcell (below_new _ _) HS.1, keepcell (below_new _ _) HS.2.1, keepcell (below_new _ _) HS.2.2.1, keepcell (below_new _ _) HS.2.2.2⟩
      refine hK1 _ _ (fun _ => HSb) ?_
      clear hK1 K1
      (try simp only [Act.put, List.setIfInBounds_toArray, List.set_cons_zero, List.set_cons_succ])
      refine Go.Last.wpAnyX_one (i := 15) (o := { dst := some 37, op := Op.call { callee := Callee.builtin Builtin.append, args := #[Operand.tmp 22, Operand.tmp 36], argTypes := #[32, 32] }, type := 32, pos := "units.go:60", after := #[{ on := 0, ground := Ground.data }, { on := 14, ground := Ground.data }], guard := none }) (by kernel_rfl) rfl ?_
      intro K2 hK2
      have hlen := Aside0.mk (show (List.take i (Os.map OptB.op)).length = i by rw [List.length_take, List.length_map]; have := HI0.out; omega)
      have hneB := Aside0.mk (show some B1 ≠ (Value.slice Au i cu).ownBlock from Kd.R_ne HUd.out Hb1d.out (by decide))
      have hneI := Aside0.mk (show some x.k ≠ (Value.slice Au i cu).ownBlock from Kd.R_ne HUd.out hblkd.out (by decide))
      refine Kd.R_append_step (w0 := w) kOpt w.heap.size (by rfl) (.tmp 22) (.tmp 36) 32 29 (.agg #[.string ⟨#[]⟩, .string ⟨#[]⟩, .string ⟨#[]⟩]) 48 rfl (by kernel_rfl) (by kernel_rfl) (by decide) (by decide) (by decide) (Value.slice Au i cu) ((Os.map OptB.op).take i) (OptB.op x) [.string (B x.s), .string (B x.n), .string (B x.v)] (fun _ => True) (fun _ => False) rfl rfl (kOpt_mkM _ _ _ (OptB.op x)) (fun _ h => h.elim) (fun _ _ => trivial) HUd.out HBd.out HBd.out.size (by rw [hlen.out]; have := hrb.out; have := hol.out; have := HI0.out; omega) ?_
      intro v1 w1 HR1 HB1 hg hat
      have hT : (Os.map OptB.op).take i ++ [OptB.op x] = (Os.map OptB.op).take (i + 1) := by rw [List.take_add_one, hm.out]; rfl
      rw [hT] at HR1
      clear hT
      obtain ⟨Av, cv, hv⟩ := Kd.R_slice HR1
      rw [List.length_take, List.length_map, Nat.min_eq_left (by have := HI0.out; omega)] at hv
      subst hv
      have Hb1e := Aside0.mk ((hg.block _ (blk_lt Hb1d.out) hneB.out).trans Hb1d.out)
      have HSe : (fun w' => w'.cell? ⟨B1, 0, none⟩ = some (Value.slice Au i cu) ∧ w'.cell? ⟨x.k, 0, none⟩ = some (.string (B x.s)) ∧ w'.cell? ⟨x.k, 1, none⟩ = some (.string (B x.n)) ∧ w'.cell? ⟨x.k, 2, none⟩ = some (.string (B x.v))) w1 := ⟨cell_grown hg HS.1 hneB.out, cell_grown hg HS.2.1 hneI.out, cell_grown hg HS.2.2.1 hneI.out, cell_grown hg HS.2.2.2 hneI.out⟩
      refine hK2 _ _ (fun _ => HSe) ?_
      clear hK2 K2 HSb HS
      (try simp only [Act.put, List.setIfInBounds_toArray, List.set_cons_zero, List.set_cons_succ])
      refine Go.Last.wpAnyX_one (i := 16) (o := { dst := none, op := Op.store 32 (Operand.tmp 2) (Operand.tmp 37), type := 0, pos := "units.go:60", after := #[{ on := 15, ground := Ground.data }, { on := 15, ground := Ground.chain }, { on := 0, ground := Ground.phase }, { on := 1, ground := Ground.phase }, { on := 2, ground := Ground.phase }, { on := 3, ground := Ground.phase }, { on := 4, ground := Ground.phase }, { on := 5, ground := Ground.phase }, { on := 6, ground := Ground.phase }, { on := 7, ground := Ground.phase }, { on := 8, ground := Ground.phase }, { on := 9, ground := Ground.phase }, { on := 10, ground := Ground.phase }, { on := 11, ground := Ground.phase }, { on := 12, ground := Ground.phase }, { on := 13, ground := Ground.phase }, { on := 14, ground := Ground.phase }, { on := 15, ground := Ground.phase }], guard := none }) (by kernel_rfl) rfl ?_
      intro K3 hK3
      have hcB := cell_of_blk Hb1e.out 0 _ rfl
      have hfB := blk_frozen Hb1e.out 0
      go_simp
      refine hK3 _ _ (fun e => absurd rfl e) ?_
      refine Go.Last.wpAnyX_done (by kernel_rfl) ?_ _
      refine NoPanic.normal ?_
      have hne2 := Aside0.mk (show some B2 ≠ (Value.slice Au i cu).ownBlock from Kd.R_ne HUd.out Hb2d.out (by decide))
      have Hb2e := Aside0.mk ((hg.block _ (blk_lt Hb2d.out) hne2.out).trans Hb2d.out)
      have HRe := Aside0.mk (Kd.R_over HRd.out HUd.out (fun q hq => by have h : q = 55 := by simpa [kPtr, Kd.scalar] using hq
                                                                       rw [h]; decide) hg)
      have HOe := Aside0.mk (fun (y : OptB) (hy : y ∈ Os) => (show OptAt w1 y from blk_grown (HOd.out y hy) hg (Kd.R_ne HUd.out (HOd.out y hy) (by decide))))
      have Q1 := Aside0.mk (blk_set Hb1e.out 0 (Value.slice Av (i + 1) cv))
      have Q2 := Aside0.mk ((Below.heap_setCell w1 ⟨B1, 0, none⟩ (Value.slice Av (i + 1) cv) B2 (fun e => hB12.out e.symm)).trans Hb2e.out)
      have Q3 := Aside0.mk (Kd.R_set HR1 Hb1e.out (fun q hq => by rw [koptE q hq]; decide) 0 (Value.slice Av (i + 1) cv))
      have Q4 := Aside0.mk (kR_far HRe.out Hb1e.out (by decide) 0 (Value.slice Av (i + 1) cv))
      have Q6 := Aside0.mk (fun (y : OptB) (hy : y ∈ Os) => (show OptAt (w1.setCell ⟨B1, 0, none⟩ (Value.slice Av (i + 1) cv)) y from (Below.heap_setCell w1 ⟨B1, 0, none⟩ _ y.k (blk_ne (HOe.out y hy) Hb1e.out (by decide))).trans (HOe.out y hy)))
      have Q5 := Aside0.mk (below_set HB1 (Nat.le_of_eq HB1e.out) (v := Value.slice Av (i + 1) cv) (j := 0))
      have hw := Aside0.mk (show wrap64 ((i : Int) + 1) = ((i + 1 : Nat) : Int) from wr1 i (by have := hrb.out; have := hol.out; have := HI0.out; omega))
      clear hcB hfB HR1 HB1 HSe HUd HRd HBd Hb1d Hb2d hblkd Hb1e Hb2e HRe hg hat hK3 K3 hneB hneI hne2 HOd HOe hlen
      generalize w1.setCell ⟨B1, 0, none⟩ (Value.slice Av (i + 1) cv) = w2 at Q1 Q2 Q3 Q4 Q5 Q6 ⊢
      go_wp2
      go_roundg k1
      case measure => omega
      case rel =>
        refine ⟨i + 1, _, by first | rfl | (simp; done) | (rw [← hw.out]), ⟨by have := HI.out; omega⟩, ⟨by simpa using Q1.out⟩, Q2, Q3, Q4, Q6, ⟨?_⟩⟩
        exact Q5.out
end Go.Proofs.YtocdnceckljnaaaDoor.U
