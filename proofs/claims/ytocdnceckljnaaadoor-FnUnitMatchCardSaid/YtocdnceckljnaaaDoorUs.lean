/- impl.options, NewUnitOption, Match. Conditions: see each theorem. -/
import Derived.Test.YtocdnceckljnaaaDoorUq
import Derived.Test.YtocdnceckljnaaaDoorUr
import Derived.WideShapes
namespace Go.Proofs.YtocdnceckljnaaaDoor.U
open Go.RowKit Go.Proofs.YtocdnceckljnaaaDoorW.PrintWords Go.Proofs.YtocdnceckljnaaaDoorW.PrintLast Go.Proofs.YtocdnceckljnaaaDoorW.PrintMore
set_option linter.unusedVariables false
set_option linter.unusedSimpArgs false
theorem kOpt_open {w : World} {x : Bs × Bs × Bs} {cs : List Value} (h : kOpt.K w x cs) : cs = [.string (B x.1), .string (B x.2.1), .string (B x.2.2)] := by
  obtain ⟨_, _, rfl, rfl, ⟨_, _, rfl, rfl, rfl⟩⟩ := h
  rfl
theorem kOpt_mk (w : World) (x : Bs × Bs × Bs) : kOpt.K w x [.string (B x.1), .string (B x.2.1), .string (B x.2.2)] := kOpt.K_of_M (kOpt_mkM w 0 (fun _ => True) x)
set_option maxHeartbeats 4000000 in
set_option maxRecDepth 100000 in
theorem new_option (s n v : Bs) (W : World) : Calls Tryd.prog 49 #[.string (B s), .string (B n), .string (B v)] W fun e w' => ∃ k, e = .returned (pt k) ∧ OptAt w' ⟨k, s, n, v⟩ ∧ Below W.heap.size W w' ∧ W.heap.size ≤ k := by
  have HB := Aside0.mk (below_new W (Obj.cells #[.string (B s), .string (B n), .string (B v)] 64))
  have HN := Aside0.mk (show OptAt (W.alloc (Obj.cells #[.string (B s), .string (B n), .string (B v)] 64)) ⟨W.heap.size, s, n, v⟩ from heap_alloc_new W _)
  go_enter Tryd.func49, Tryd.ntmps49
  go_wp2
  go_ret
  exact ⟨_, rfl, HN.out, HB.out, Nat.le_refl _⟩
/-- The element of a row of options. -/
theorem opt_cells {w : World} {A : Option Addr} {l : List (Bs × Bs × Bs)} (hC : Kd.C kOpt w A l.length l) (i : Nat) (x : Bs × Bs × Bs) (hx : l[i]? = some x) : ∃ ad, A = some ad ∧ w.cell? (ad.add (i * 3)) = some (.string (B x.1)) ∧ w.cell? ⟨(ad.add (i * 3)).block, (ad.add (i * 3)).off + 1, none⟩ = some (.string (B x.2.1)) ∧ w.cell? ⟨(ad.add (i * 3)).block, (ad.add (i * 3)).off + 2, none⟩ = some (.string (B x.2.2)) := by
  have hi : i < l.length := (List.getElem?_eq_some_iff.1 hx).1
  obtain ⟨ad, cs, hA, _, hK, hc⟩ := Kd.C_get hC ([], [], []) (i : Int) (by omega) (by omega)
  rw [Int.toNat_natCast, List.getD_eq_getElem?_getD, hx] at hK
  have hK' := kOpt_open hK
  simp only [Option.getD_some] at hK'
  subst hK'
  have h0 : w.cell? (ad.add (i * 3 + 0)) = some (.string (B x.1)) := hc 0 _ rfl
  have h1 : w.cell? (ad.add (i * 3 + 1)) = some (.string (B x.2.1)) := hc 1 _ rfl
  have h2 : w.cell? (ad.add (i * 3 + 2)) = some (.string (B x.2.2)) := hc 2 _ rfl
  have e1 : (ad.add (i * 3)).block = ad.block := by unfold Addr.add; split <;> rfl
  have e2 : (ad.add (i * 3)).off = ad.off + i * 3 := by
    unfold Addr.add
    split
    · rename_i h; rw [h]; rfl
    · rfl
  have e3 : ∀ k, ad.add (k + 1) = ⟨ad.block, ad.off + (k + 1), none⟩ := fun k => by
    unfold Addr.add
    split
    · rename_i h; omega
    · rfl
  refine ⟨ad, hA, h0, ?_, ?_⟩
  · rw [e1, e2, Nat.add_assoc, ← e3]; exact h1
  · rw [e1, e2, Nat.add_assoc, ← e3]; exact h2
set_option maxHeartbeats 40000000 in
set_option maxRecDepth 100000 in
theorem options_calls (A : Option Addr) (cap : Nat) (l : List (Bs × Bs × Bs)) (w : World) (hC : Kd.C kOpt w A l.length l) (hl : l.length < 900000000) :
    Calls Tryd.prog 35 #[.slice A l.length cap] w fun e w' => ∃ (v7 : Value) (Os : List OptB), e = .returned v7 ∧ Below w.heap.size w w' ∧ kPtr.R 55 w' w.heap.size (fun _ => True) v7 (Os.map (·.k)) ∧ (∀ x ∈ Os, OptAt w' x) ∧ Os.map OptB.op = l := by
  have HC := Aside0.mk hC
  have HL := Aside0.mk hl
  have HB0 := Aside0.mk (Below.refl w.heap.size w)
  clear hC hl
  go_enter Tryd.func35, Tryd.ntmps35
  go_wp2
  go_loopg [8, 3] l.length (fun kq v8 v3 w' => ∃ (i : Nat) (Os : List OptB), v8 = .int .i64 i ∧ Aside0 (i + kq = l.length) ∧ Aside0 (Below w.heap.size w w') ∧ Aside0 (kPtr.R 55 w' w.heap.size (fun _ => True) v3 (Os.map (·.k))) ∧ Aside0 (∀ x ∈ Os, OptAt w' x) ∧ Aside0 (Os.map OptB.op = l.take i))
  case atStart => exact ⟨0, [], rfl, ⟨by omega⟩, HB0, ⟨Kd.R_nil _ _ _ _ _⟩, ⟨fun x hx => by simp at hx⟩, ⟨by simp⟩⟩
  case round =>
    clear HB0
    obtain ⟨i, Os, rfl, HI, HB, HR, HO, HM⟩ := hrel
    cases gk with
    | zero =>
      obtain rfl : i = l.length := by have := HI.out; omega
      have q1 : decide ((l.length : Int) < (l.length : Int)) = false := by simp
      go_wp2
      go_ret
      exact ⟨_, Os, rfl, HB.out, HR.out, HO.out, by rw [HM.out, List.take_length]⟩
    | succ k1 =>
      have hi : i < l.length := by have := HI.out; omega
      obtain ⟨x, hx⟩ : ∃ x, l[i]? = some x := ⟨_, List.getElem?_eq_getElem hi⟩
      obtain ⟨ad, rfl, c0, c1, c2⟩ := opt_cells HC.out i x hx
      have d0 := keepcell HB.out c0
      have d1 := keepcell HB.out c1
      have d2 := keepcell HB.out c2
      clear c0 c1 c2
      have q1 : decide (i < l.length) = true := by simp; omega
      have z1 : (i : Int) < (l.length : Int) := by omega
      have HX := Aside0.mk hx
      have HI0 := Aside0.mk hi
      clear hx hi
      go_upto_region 5 with (fail)
      have HB3 := Aside0.mk (below_over HB.out (below_new wr (Obj.cells #[Value.string (B x.1), Value.string (B x.2.1), Value.string (B x.2.2)] 29)))
      have HR3 := Aside0.mk (Kd.R_below HR.out (below_new wr (Obj.cells #[Value.string (B x.1), Value.string (B x.2.1), Value.string (B x.2.2)] 29)))
      have HO3 := Aside0.mk (fun (y : OptB) (hy : y ∈ Os) => (show OptAt (wr.alloc (Obj.cells #[Value.string (B x.1), Value.string (B x.2.1), Value.string (B x.2.2)] 29)) y from ((below_new wr _).block y.k (blk_lt (HO.out y hy))).trans (HO.out y hy)))
      have hb3 := heap_alloc_new wr (Obj.cells #[Value.string (B x.1), Value.string (B x.2.1), Value.string (B x.2.2)] 29)
      have f0 := cell_of_blk hb3 0 _ rfl
      have f1 := cell_of_blk hb3 1 _ rfl
      have f2 := cell_of_blk hb3 2 _ rfl
      clear HB HR HO d0 d1 d2 hb3
      generalize (wr.alloc (Obj.cells #[Value.string (B x.1), Value.string (B x.2.1), Value.string (B x.2.2)] 29)) = w3 at HB3 HR3 HO3 f0 f1 f2 ⊢
      generalize wr.heap.size = xb at *
      have hw1 := Aside0.mk (show wrap64 ((i : Int) + 1) = ((i + 1 : Nat) : Int) from wr1 i (by have := HI0.out; have := HL.out; omega))
      have hlm := Aside0.mk (show Os.length = i by have h := congrArg List.length HM.out; rw [List.length_map, List.length_take] at h; have := HI0.out; omega)
      go_wp2_with (first
        | (go_at_call 49; refine (new_option x.1 x.2.1 x.2.2 _).mono ?_; rintro e w4 ⟨k, rfl, ho, hb, _⟩; unfold pt; have HB4 := Aside0.mk (below_over HB3.out hb); have HR4 := Aside0.mk (Kd.R_below HR3.out hb); have HO4 := Aside0.mk (fun (y : OptB) (hy : y ∈ Os) => (show OptAt w4 y from (hb.block y.k (blk_lt (HO3.out y hy))).trans (HO3.out y hy))); have HN4 := Aside0.mk ho; clear ho hb)
        | ((with_reducible refine gate_builtin (b := .append) (xs := #[.tmp 12, .tmp 20]) rfl ?_); at_builtin; refine Kd.R_append kPtr (w0 := w) w.heap.size rfl (.tmp 12) (.tmp 20) 56 55 (.pointer none) 8 rfl Tryd.underlying56 (by kernel_rfl) rfl (by decide) (by decide) u3 (Os.map (·.k)) k [.pointer (some ⟨k, 0, none⟩)] (fun _ => True) (fun _ => False) rfl rfl rfl (fun _ h => h.elim) (fun _ _ => trivial) HR4.out HB4.out HB4.out.size (by rw [List.length_map, hlm.out]; have := HI0.out; have := HL.out; omega) ?_; intro v7 w5 ho hb hg hat; have HR5 := Aside0.mk ho; have HB5 := Aside0.mk hb; have HO5 := Aside0.mk (fun (y : OptB) (hy : OptAt w4 y) => (show OptAt w5 y from blk_grown hy hg (Kd.R_ne HR4.out hy (by decide)))); clear ho hb hg hat))
      go_roundg k1
      case measure => omega
      case rel =>
        refine ⟨i + 1, Os ++ [⟨k, x.1, x.2.1, x.2.2⟩], by first | rfl | (simp; done) | (rw [← hw1.out]), ⟨by have := HI.out; omega⟩, HB5, ⟨by rw [List.map_append]; exact HR5.out⟩, ⟨fun y hy => ?_⟩, ⟨?_⟩⟩
        · rcases List.mem_append.1 hy with hy | hy
          · exact HO5.out y (HO4.out y hy)
          · rw [List.mem_singleton.1 hy]
            exact HO5.out _ HN4.out
        · rw [List.map_append, HM.out, List.take_add_one, HX.out]
          rfl
end Go.Proofs.YtocdnceckljnaaaDoor.U
