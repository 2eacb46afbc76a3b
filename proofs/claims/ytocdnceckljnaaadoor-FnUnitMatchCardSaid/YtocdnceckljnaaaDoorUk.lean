/- The steps of the unit reader's lexer that write a datum: an option's value. Conditions: see each theorem. -/
import Derived.Test.YtocdnceckljnaaaDoorUj
namespace Go.Proofs.YtocdnceckljnaaaDoor.U
open Go.RowKit Go.Proofs.YtocdnceckljnaaaDoorW.PrintWords Go.Proofs.YtocdnceckljnaaaDoorW.PrintLast Go.Proofs.YtocdnceckljnaaaDoorW.PrintMore
set_option linter.unusedVariables false
set_option linter.unusedSimpArgs false
theorem alloc2_facts (w : World) (a b : Obj) : Below w.heap.size w ((w.alloc a).alloc b) ∧ ((w.alloc a).alloc b).heap[w.heap.size]? = some a ∧ ((w.alloc a).alloc b).heap[w.heap.size + 1]? = some b := by
  refine ⟨below_over (below_new _ _) (below_new _ _), ?_, ?_⟩
  · rw [heap_alloc_old _ _ (by rw [alloc_size']; omega)]
    exact heap_alloc_new _ _
  · rw [← alloc_size' w a]
    exact heap_alloc_new _ _
theorem cell_new' (w : World) (v : Value) (t : TypeId) (n : Nat) (hn : n = w.heap.size) : (w.alloc (.cells #[v] t)).cell? ⟨n, 0, none⟩ = some v := by
  subst hn
  exact cell_new w v t
/-- A store into a text's box. -/
theorem LS.setBox {w0 W : World} {gl gb : Nat} {T : ByteArray} {rest : Bs} {D : List Dat} {vd : Value} (h : LS w0 gl gb T W rest D vd) {b : Nat} {v : Value} (hb : Box W b v 9) (h0 : w0.heap.size ≤ b) (u : Value) : LS w0 gl gb T (W.setCell ⟨b, 0, none⟩ u) rest D vd := by
  obtain ⟨r, wd, last, hB, hr⟩ := h.lx.buf
  have far : ∀ (k : Nat) (o : Obj), W.heap[k]? = some o → k ≠ b → (W.setCell ⟨b, 0, none⟩ u).heap[k]? = some o := fun k o hk hne => (Below.heap_setCell W ⟨b, 0, none⟩ u k hne).trans hk
  have hsz : (W.setCell ⟨b, 0, none⟩ u).heap.size = W.heap.size := by simp [World.setCell]
  refine ⟨⟨below_set h.lx.below h0, h.lx.hgl, h.lx.hgb, h.lx.ne, far _ _ h.lx.lex (blk_ne h.lx.lex hb (by decide)), ⟨r, wd, last, ⟨far _ _ hB.blk (blk_ne hB.blk hb (by decide)), hB.le, hB.lew, hB.big⟩, hr⟩, h.lx.tabs, h.lx.asc⟩, ?_, ?_, ?_, h.apart⟩
  · exact Kd.R_set h.row hb (fun q hq => by rw [kE q hq]; decide) 0 u
  · exact DataAt.move h.data (fun k c t hk ht => (far k _ hk (blk_ne hk hb (by rcases ht with rfl | rfl | rfl | rfl <;> decide))).trans hk.symm)
  · intro x hx hs
    rw [hsz]
    exact h.new x hx hs
theorem suffix_str (l p : Bs) (W : World) (hl : l.length ≤ 4611686018427387000) : Calls Tryd.prog 134 #[.string (B l), .string (B p)] W fun e w' => e = .returned (.bool (Lib.hasSuffix l p)) ∧ w' = W :=
  Tryd.strings_HasSuffix (B l) (B p) W (by rw [B_size]; omega)
theorem has10_no (l : Bs) (h : (10 : UInt8) ∉ l) : Lib.hasSuffix l [10] = false := by
  cases hh : Lib.hasSuffix l [10] with
  | false => rfl
  | true =>
    obtain ⟨t, ht⟩ := (suffix_iff _ _).1 hh
    exact absurd (by rw [ht]; simp) h
theorem B_nil_append (l : Bs) : (⟨#[]⟩ : ByteArray) ++ B l = B l := by
  apply ByteArray.ext
  simp [ByteArray.data_append, B]
set_option maxHeartbeats 40000000 in
set_option maxRecDepth 100000 in
theorem optval_go {w0 W : World} {gl gb : Nat} {T : ByteArray} {D : List Dat} {vd : Value} (b1 b2 b3 b4 : Nat) (s nm rest : Bs) (h : LS w0 gl gb T W rest D vd) (k1 : Box W b1 (pt gl) 100) (k2 : Box W b2 (.string ⟨#[]⟩) 9) (k3 : Box W b3 (.string (B s)) 9) (k4 : Box W b4 (.string (B nm)) 9)
    (h0 : w0.heap.size ≤ b2) (h32 : b3 ≠ b2) (h42 : b4 ≠ b2) (h13 : (13 : UInt8) ∉ eolL rest) (ha : ∀ c ∈ eolL rest, c.toNat < 128) (hl : (eolL rest).length ≤ 4611686018427387000) (hs : Lib.hasSuffix (eolL rest) [92] = false) (hD : D.length < 1000000000) :
    Calls Tryd.prog 133 #[pt b1, pt b2, pt b3, pt b4] W fun e w' => ∃ fv vd' p b, e = ret fv ∧ LS w0 gl gb T w' (eolR rest) (D ++ [⟨false, s, nm, Lib.trimSpace (eolL rest), p, b, 0⟩]) vd' ∧ StepIs w0.heap.size w' gl (.secOpt s) fv := by
  have H := Aside0.mk h
  have hc1 := k1.cell
  have hc2 : True := trivial
  have K1 := Aside0.mk k1
  have K2 := Aside0.mk k2
  have K3 := Aside0.mk k3
  have K4 := Aside0.mk k4
  have H00 := Aside0.mk h0
  have H32 := Aside0.mk h32
  have H42 := Aside0.mk h42
  have H13 := Aside0.mk h13
  have HA := Aside0.mk ha
  have HL := Aside0.mk hl
  have HSF := Aside0.mk hs
  have HD := Aside0.mk hD
  have hnn : ∀ (w : World), (binOp .neq 61 .nilIface .nilIface).run Tryd.prog w = .ok (.bool false) w := fun _ => rfl
  have hcat := B_nil_append (eolL rest)
  clear h k1 k2 k3 k4 h0 h32 h42 h13 ha hl hs hD
  unfold pt at hc1 ⊢
  by_cases hT : (Lib.trimSpace (eolL rest)).length = 0
  · have q1 : (((Lib.trimSpace (eolL rest)).length : Int) != 0) = false := by rw [hT]; rfl
    have HT := Aside0.mk (List.eq_nil_of_length_eq_zero hT)
    generalize htv : Lib.trimSpace (eolL rest) = tv at *
    clear hT
    go_enter Tryd.func133, Tryd.ntmps133
    go_upto_region 14 with (first
      | (go_at_call 95; refine (to_eol rest H.out.lx H13.out HL.out).mono ?_; rintro e w1 ⟨v1, rfl, hs, hx, ht⟩; have HS1 := Aside0.mk hs; have H1 := Aside0.mk (H.out.on ht hx); have K11 := Aside0.mk (H.out.box ht K1.out (by decide)); have K21 := Aside0.mk (H.out.box ht K2.out (by decide)); have K31 := Aside0.mk (H.out.box ht K3.out (by decide)); have K41 := Aside0.mk (H.out.box ht K4.out (by decide)); have hk2 := K21.out.cell; clear hs hx ht)
      | (go_at_call 101; refine (trimmed_nil w1 W.heap.size v1 (eolL rest) HS1.out (Nat.le_trans HL.out (by decide)) HA.out H1.out.lx.tabW.bsp).mono ?_; rintro e w2 ⟨⟨A, c, rfl⟩, hw⟩; subst hw; rw [htv])
      | (go_at_call 134; refine (suffix_str [] [10] _ (by simp)).mono ?_; rintro e w3 ⟨rfl, hw⟩; subst hw)
      | (go_at_call 119; refine (trim_ascii [] _ (by simp) (by simp) H1.out.lx.tabW.ssp).mono ?_; rintro e w4 ⟨rfl, hb⟩; have H9 := Aside0.mk (H1.out.more hb); have K91 := Aside0.mk (K11.out.more hb); have K93 := Aside0.mk (K31.out.more hb); have K94 := Aside0.mk (K41.out.more hb); clear hb))
    rw [show Lib.trimSpace ([] : Bs) = tv from HT.out.symm ▸ rfl]
    clear hk2 HT htv hcat HS1 H1 K11 K21 K31 K41 H K1 K2 K3 K4
    obtain ⟨Av, cv, hvd⟩ : ∃ A c, vd = .slice A D.length c := by
      obtain ⟨A, c, h⟩ := Kd.R_slice H9.out.row
      rw [List.length_map] at h
      exact ⟨A, c, h⟩
    subst hvd
    have g1 := K91.out.cell
    have g2 := K93.out.cell
    have g4 := K94.out.cell
    have g3 := H9.out.lx.c1
    unfold pt at g1
    refine Go.Last.wp_region_x (S := fun w' => w'.cell? ⟨b1, 0, none⟩ = some (.pointer (some ⟨gl, 0, none⟩)) ∧ w'.cell? ⟨b3, 0, none⟩ = some (.string (B s)) ∧ w'.cell? ⟨b4, 0, none⟩ = some (.string (B nm)) ∧ w'.cell? ⟨gl, 1, none⟩ = some (.slice Av D.length cv)) (n := 16) (by kernel_rfl) ?_
    have HS : (fun w' => w'.cell? ⟨b1, 0, none⟩ = some (.pointer (some ⟨gl, 0, none⟩)) ∧ w'.cell? ⟨b3, 0, none⟩ = some (.string (B s)) ∧ w'.cell? ⟨b4, 0, none⟩ = some (.string (B nm)) ∧ w'.cell? ⟨gl, 1, none⟩ = some (.slice Av D.length cv)) w4.drew := ⟨g1, g2, g4, g3⟩
    have H2 := Aside0.mk (show LS w0 gl gb T w4.drew (eolR rest) D (.slice Av D.length cv) from H9.out.more (below_drew (Below.refl _ _)))
    have K12 := Aside0.mk (show Box w4.drew b1 (pt gl) 100 from K91.out)
    have K22 := Aside0.mk (show Box w4.drew b3 (.string (B s)) 9 from K93.out)
    have K42 := Aside0.mk (show Box w4.drew b4 (.string (B nm)) 9 from K94.out)
    change Go.Last.wpAnyX _ _ _ _ _ _ _ _ _ w4.drew
    clear g1 g2 g3 g4 hc1 hc2 H9 K91 K93 K94
    generalize w4.drew = wd at *
    show Go.Last.wpAnyX _ _ _ _ _ _ 17 _ _ _
    refine Go.Last.wpAnyX_at 17 rfl (by kernel_rfl) (by kernel_rfl) (by kernel_rfl) (by kernel_rfl) (fun _ _ _ h => h) (v := ?_) (Or.inl ⟨by rfl, ?_⟩) (by assumption) ?_
    rotate_left
    · intro w hSw
      (try dsimp only at hSw)
      go_split_ands
      go_simp
      first | done | with_reducible rfl
    (try simp only [Nat.reduceSub, Nat.reduceAdd, Act.put, List.setIfInBounds_toArray, List.set_cons_zero, List.set_cons_succ])
    refine Go.Last.wpAnyX_at 17 rfl (by kernel_rfl) (by kernel_rfl) (by kernel_rfl) (by kernel_rfl) (fun _ _ _ h => h) (v := ?_) (Or.inl ⟨by rfl, ?_⟩) (by assumption) ?_
    rotate_left
    · intro w hSw
      (try dsimp only at hSw)
      go_split_ands
      go_simp
      first | done | with_reducible rfl
    (try simp only [Nat.reduceSub, Nat.reduceAdd, Act.put, List.setIfInBounds_toArray, List.set_cons_zero, List.set_cons_succ])
    refine Go.Last.wpAnyX_at 17 rfl (by kernel_rfl) (by kernel_rfl) (by kernel_rfl) (by kernel_rfl) (fun _ _ _ h => h) (v := ?_) (Or.inl ⟨by rfl, ?_⟩) (by assumption) ?_
    rotate_left
    · intro w hSw
      (try dsimp only at hSw)
      go_split_ands
      go_simp
      first | done | with_reducible rfl
    (try simp only [Nat.reduceSub, Nat.reduceAdd, Act.put, List.setIfInBounds_toArray, List.set_cons_zero, List.set_cons_succ])
    refine Go.Last.wpAnyX_at 17 rfl (by kernel_rfl) (by kernel_rfl) (by kernel_rfl) (by kernel_rfl) (fun _ _ _ h => h) (v := ?_) (Or.inl ⟨by rfl, ?_⟩) (by assumption) ?_
    rotate_left
    · intro w hSw
      (try dsimp only at hSw)
      go_split_ands
      go_simp
      first | done | with_reducible rfl
    (try simp only [Nat.reduceSub, Nat.reduceAdd, Act.put, List.setIfInBounds_toArray, List.set_cons_zero, List.set_cons_succ])
    refine Go.Last.wpAnyX_at 17 rfl (by kernel_rfl) (by kernel_rfl) (by kernel_rfl) (by kernel_rfl) (fun _ _ _ h => h) (v := ?_) (Or.inl ⟨by rfl, ?_⟩) (by assumption) ?_
    rotate_left
    · intro w hSw
      (try dsimp only at hSw)
      go_split_ands
      go_simp
      first | done | with_reducible rfl
    (try simp only [Nat.reduceSub, Nat.reduceAdd, Act.put, List.setIfInBounds_toArray, List.set_cons_zero, List.set_cons_succ])
    refine Go.Last.wpAnyX_at 17 rfl (by kernel_rfl) (by kernel_rfl) (by kernel_rfl) (by kernel_rfl) (fun _ _ _ h => h) (v := ?_) (Or.inl ⟨by rfl, ?_⟩) (by assumption) ?_
    rotate_left
    · intro w hSw
      (try dsimp only at hSw)
      go_split_ands
      go_simp
      first | done | with_reducible rfl
    (try simp only [Nat.reduceSub, Nat.reduceAdd, Act.put, List.setIfInBounds_toArray, List.set_cons_zero, List.set_cons_succ])
    refine Go.Last.wpAnyX_at 17 rfl (by kernel_rfl) (by kernel_rfl) (by kernel_rfl) (by kernel_rfl) (fun _ _ _ h => h) (v := ?_) (Or.inl ⟨by rfl, ?_⟩) (by assumption) ?_
    rotate_left
    · intro w hSw
      (try dsimp only at hSw)
      go_split_ands
      go_simp
      first | done | with_reducible rfl
    (try simp only [Nat.reduceSub, Nat.reduceAdd, Act.put, List.setIfInBounds_toArray, List.set_cons_zero, List.set_cons_succ])
    refine Go.Last.wpAnyX_at 17 rfl (by kernel_rfl) (by kernel_rfl) (by kernel_rfl) (by kernel_rfl) (fun _ _ _ h => h) (v := ?_) (Or.inl ⟨by rfl, ?_⟩) (by assumption) ?_
    rotate_left
    · intro w hSw
      (try dsimp only at hSw)
      go_split_ands
      go_simp
      first | done | with_reducible rfl
    (try simp only [Nat.reduceSub, Nat.reduceAdd, Act.put, List.setIfInBounds_toArray, List.set_cons_zero, List.set_cons_succ])
    refine Go.Last.wpAnyX_at 17 rfl (by kernel_rfl) (by kernel_rfl) (by kernel_rfl) (by kernel_rfl) (fun _ _ _ h => h) (v := ?_) (Or.inl ⟨by rfl, ?_⟩) (by assumption) ?_
    rotate_left
    · intro w hSw
      (try dsimp only at hSw)
      go_split_ands
      go_simp
      first | done | with_reducible rfl
    (try simp only [Nat.reduceSub, Nat.reduceAdd, Act.put, List.setIfInBounds_toArray, List.set_cons_zero, List.set_cons_succ])
    refine Go.Last.wpAnyX_one (i := 9) (o := { dst := some 56, op := Op.box 64 (Operand.tmp 55), type := 55, pos := "deserialize.go:300", after := #[{ on := 8, ground := Ground.data }], guard := none }) (by kernel_rfl) rfl ?_
    intro K2 hK2
    go_simp
    have HSb : (fun w' => w'.cell? ⟨b1, 0, none⟩ = some (.pointer (some ⟨gl, 0, none⟩)) ∧ w'.cell? ⟨b3, 0, none⟩ = some (.string (B s)) ∧ w'.cell? ⟨b4, 0, none⟩ = some (.string (B nm)) ∧ w'.cell? ⟨gl, 1, none⟩ = some (.slice Av D.length cv)) (wd.alloc (Obj.cells #[.string (B s), .string (B nm), .string (B tv)] 64)) := ⟨keepcell (below_new _ _) HS.1, keepcell (below_new _ _) HS.2.1, keepcell (below_new _ _) HS.2.2.1, keepcell (below_new _ _) HS.2.2.2⟩
    refine hK2 _ _ (fun _ => HSb) ?_
    clear hK2 K2
    (try simp only [Act.put, List.setIfInBounds_toArray, List.set_cons_zero, List.set_cons_succ])
    refine Go.Last.wpAnyX_at 17 rfl (by kernel_rfl) (by kernel_rfl) (by kernel_rfl) (by kernel_rfl) (fun _ _ _ h => h) (v := ?_) (Or.inl ⟨by rfl, ?_⟩) (by assumption) ?_
    rotate_left
    · intro w hSw
      (try dsimp only at hSw)
      go_split_ands
      go_simp
      first | done | with_reducible rfl
    (try simp only [Nat.reduceSub, Nat.reduceAdd, Act.put, List.setIfInBounds_toArray, List.set_cons_zero, List.set_cons_succ])
    refine Go.Last.wpAnyX_one (i := 11) (o := { dst := some 58, op := Op.box 109 (Operand.tmp 57), type := 106, pos := "deserialize.go:300", after := #[{ on := 10, ground := Ground.data }], guard := none }) (by kernel_rfl) rfl ?_
    intro K3 hK3
    go_simp
    have HSc : (fun w' => w'.cell? ⟨b1, 0, none⟩ = some (.pointer (some ⟨gl, 0, none⟩)) ∧ w'.cell? ⟨b3, 0, none⟩ = some (.string (B s)) ∧ w'.cell? ⟨b4, 0, none⟩ = some (.string (B nm)) ∧ w'.cell? ⟨gl, 1, none⟩ = some (.slice Av D.length cv)) ((wd.alloc (Obj.cells #[.string (B s), .string (B nm), .string (B tv)] 64)).alloc (Obj.cells #[.int .i64 1, .pointer (some ⟨wd.heap.size, 0, none⟩), .pointer none] 109)) := ⟨keepcell (below_new _ _) HSb.1, keepcell (below_new _ _) HSb.2.1, keepcell (below_new _ _) HSb.2.2.1, keepcell (below_new _ _) HSb.2.2.2⟩
    refine hK3 _ _ (fun _ => HSc) ?_
    clear hK3 K3 HSb HS
    (try simp only [Act.put, List.setIfInBounds_toArray, List.set_cons_zero, List.set_cons_succ])
    have hal := alloc2_facts wd (Obj.cells #[.string (B s), .string (B nm), .string (B tv)] 64) (Obj.cells #[.int .i64 1, .pointer (some ⟨wd.heap.size, 0, none⟩), .pointer none] 109)
    have HAL := Aside0.mk hal
    clear hal
    generalize ((wd.alloc (Obj.cells #[.string (B s), .string (B nm), .string (B tv)] 64)).alloc (Obj.cells #[.int .i64 1, .pointer (some ⟨wd.heap.size, 0, none⟩), .pointer none] 109)) = w3 at HSc HAL ⊢
    have H3 := Aside0.mk (H2.out.more HAL.out.1)
    have K13 := Aside0.mk (K12.out.more HAL.out.1)
    have K23 := Aside0.mk (K22.out.more HAL.out.1)
    have K43 := Aside0.mk (K42.out.more HAL.out.1)
    have HAL2 := Aside0.mk HAL.out.2
    clear HAL H2 K12 K22 K42
    generalize wd.heap.size + 1 = p at *
    generalize wd.heap.size = b at *
    have HXB := Aside0.mk (show ∀ q ∈ (Dat.mk false s nm tv p b 0).blks, w3.heap[q.1]? = some q.2 by
      intro q hq
      unfold Dat.blks at hq
      simp only [Bool.false_eq_true, if_false, List.mem_cons, List.mem_nil_iff, or_false] at hq
      rcases hq with rfl | rfl
      · exact HAL2.out.2
      · exact HAL2.out.1)
    clear HAL2
    refine Go.Last.wpAnyX_one (i := 12) (o := { dst := some 59, op := Op.buildSlice 103 1 #[(0, Operand.tmp 58)], type := 103, pos := "deserialize.go:300", after := #[{ on := 11, ground := Ground.data }], guard := none }) (by kernel_rfl) rfl ?_
    intro K4 hK4
    go_simp
    have HSd : (fun w' => w'.cell? ⟨b1, 0, none⟩ = some (.pointer (some ⟨gl, 0, none⟩)) ∧ w'.cell? ⟨b3, 0, none⟩ = some (.string (B s)) ∧ w'.cell? ⟨b4, 0, none⟩ = some (.string (B nm)) ∧ w'.cell? ⟨gl, 1, none⟩ = some (.slice Av D.length cv)) (w3.alloc (Obj.cells #[.pointer (some ⟨p, 0, none⟩)] 106)) := ⟨keepcell (below_new _ _) HSc.1, keepcell (below_new _ _) HSc.2.1, keepcell (below_new _ _) HSc.2.2.1, keepcell (below_new _ _) HSc.2.2.2⟩
    refine hK4 _ _ (fun _ => HSd) ?_
    clear hK4 K4
    (try simp only [Act.put, List.setIfInBounds_toArray, List.set_cons_zero, List.set_cons_succ])
    refine Go.Last.wpAnyX_one (i := 13) (o := { dst := some 60, op := Op.call { callee := Callee.builtin Builtin.append, args := #[Operand.tmp 51, Operand.tmp 59], argTypes := #[103, 103] }, type := 103, pos := "deserialize.go:300", after := #[{ on := 4, ground := Ground.data }, { on := 12, ground := Ground.data }], guard := none }) (by kernel_rfl) rfl ?_
    intro K5 hK5
    refine Kd.R_append_step (w0 := w0) kPtr w0.heap.size (by rfl) (.tmp 51) (.tmp 59) 103 106 (.pointer none) 8 rfl (by kernel_rfl) (by kernel_rfl) (by decide) (by decide) (by decide) (Value.slice Av D.length cv) (D.map (·.p)) p [.pointer (some ⟨p, 0, none⟩)] (fun _ => True) (fun _ => False) rfl rfl rfl (fun _ h => h.elim) (fun _ _ => trivial) H3.out.row H3.out.lx.below H3.out.lx.below.size (by rw [List.length_map]; have := HD.out; omega) ?_
    intro v2 w4 HR1 HB1 hg hat
    obtain ⟨A2, c2, hv2⟩ : ∃ A c, v2 = .slice A (D.length + 1) c := by
      obtain ⟨A, c, h⟩ := Kd.R_slice HR1
      rw [List.length_append, List.length_map] at h
      exact ⟨A, c, h⟩
    subst hv2
    have HSe : (fun w' => w'.cell? ⟨b1, 0, none⟩ = some (.pointer (some ⟨gl, 0, none⟩)) ∧ w'.cell? ⟨b3, 0, none⟩ = some (.string (B s)) ∧ w'.cell? ⟨b4, 0, none⟩ = some (.string (B nm)) ∧ w'.cell? ⟨gl, 1, none⟩ = some (.slice Av D.length cv)) w4 := ⟨cell_grown hg HSc.1 (ne_own H3.out.row K13.out (by decide)), cell_grown hg HSc.2.1 (ne_own H3.out.row K23.out (by decide)), cell_grown hg HSc.2.2.1 (ne_own H3.out.row K43.out (by decide)), cell_grown hg HSc.2.2.2 (ne_own H3.out.row H3.out.lx.lex (by decide))⟩
    have HF := Aside0.mk (blk_frozen (blk_grown H3.out.lx.lex hg (ne_own H3.out.row H3.out.lx.lex (by decide))) 1)
    have HR := Aside0.mk HR1
    have HBx := Aside0.mk HB1
    have HG := Aside0.mk hg
    refine hK5 _ _ (fun _ => HSe) ?_
    clear hK5 K5 HSc HSd HR1 HB1 hg hat
    (try simp only [Act.put, List.setIfInBounds_toArray, List.set_cons_zero, List.set_cons_succ])
    refine Go.Last.wpAnyX_one (i := 14) (o := { dst := some 61, op := Op.nilCheck (Operand.tmp 47), type := 0, pos := "deserialize.go:300", after := #[{ on := 0, ground := Ground.data }, { on := 0, ground := Ground.phase }, { on := 1, ground := Ground.phase }, { on := 2, ground := Ground.phase }, { on := 3, ground := Ground.phase }, { on := 4, ground := Ground.phase }, { on := 5, ground := Ground.phase }, { on := 6, ground := Ground.phase }, { on := 7, ground := Ground.phase }, { on := 8, ground := Ground.phase }, { on := 9, ground := Ground.phase }, { on := 10, ground := Ground.phase }, { on := 11, ground := Ground.phase }, { on := 12, ground := Ground.phase }, { on := 13, ground := Ground.phase }], guard := none }) (by kernel_rfl) rfl ?_
    intro K7 hK7
    go_simp
    refine hK7 _ _ (fun _ => HSe) ?_
    clear hK7 K7
    (try simp only [Act.put, List.setIfInBounds_toArray, List.set_cons_zero, List.set_cons_succ])
    refine Go.Last.wpAnyX_one (i := 15) (o := { dst := some 62, op := Op.fieldAddr 105 (Operand.tmp 61) 1, type := 0, pos := "deserialize.go:300", after := #[{ on := 14, ground := Ground.data }, { on := 0, ground := Ground.phase }, { on := 1, ground := Ground.phase }, { on := 2, ground := Ground.phase }, { on := 3, ground := Ground.phase }, { on := 4, ground := Ground.phase }, { on := 5, ground := Ground.phase }, { on := 6, ground := Ground.phase }, { on := 7, ground := Ground.phase }, { on := 8, ground := Ground.phase }, { on := 9, ground := Ground.phase }, { on := 10, ground := Ground.phase }, { on := 11, ground := Ground.phase }, { on := 12, ground := Ground.phase }, { on := 13, ground := Ground.phase }], guard := none }) (by kernel_rfl) rfl ?_
    intro K8 hK8
    go_simp
    refine hK8 _ _ (fun _ => HSe) ?_
    clear hK8 K8
    (try simp only [Act.put, List.setIfInBounds_toArray, List.set_cons_zero, List.set_cons_succ])
    refine Go.Last.wpAnyX_one (i := 16) (o := { dst := none, op := Op.store 103 (Operand.tmp 62) (Operand.tmp 60), type := 0, pos := "deserialize.go:300", after := #[{ on := 15, ground := Ground.data }, { on := 13, ground := Ground.data }, { on := 13, ground := Ground.chain }, { on := 0, ground := Ground.phase }, { on := 1, ground := Ground.phase }, { on := 2, ground := Ground.phase }, { on := 3, ground := Ground.phase }, { on := 4, ground := Ground.phase }, { on := 5, ground := Ground.phase }, { on := 6, ground := Ground.phase }, { on := 7, ground := Ground.phase }, { on := 8, ground := Ground.phase }, { on := 9, ground := Ground.phase }, { on := 10, ground := Ground.phase }, { on := 11, ground := Ground.phase }, { on := 12, ground := Ground.phase }, { on := 13, ground := Ground.phase }], guard := none }) (by kernel_rfl) rfl ?_
    intro K6 hK6
    have hcB := HSe.2.2.2
    have hfB := HF.out
    go_simp
    refine hK6 _ _ (fun e => absurd rfl e) ?_
    refine Go.Last.wpAnyX_done (by kernel_rfl) ?_ _
    have H5 := Aside0.mk (H3.out.add ⟨false, s, nm, tv, p, b, 0⟩ HXB.out (fun h => by simp at h) (fun h => by simp at h) HR.out HBx.out HG.out)
    have K15 := Aside0.mk (Box.add (v1 := .slice A2 (D.length + 1) c2) H3.out HG.out K13.out (by decide) (by decide))
    have K25 := Aside0.mk (Box.add (v1 := .slice A2 (D.length + 1) c2) H3.out HG.out K23.out (by decide) (by decide))
    clear hK6 K6 HSe hcB hfB HF HR HBx HG H3 K13 K23 K43 HXB
    generalize w4.setCell ⟨gl, 1, none⟩ (.slice A2 (D.length + 1) c2) = w5 at H5 K15 K25 ⊢
    have hk51 := K15.out.cell
    have hk52 := K25.out.cell
    unfold pt at hk51
    go_wp2_with (go_at_call 102; refine (secopt_mk gl s _).mono ?_; rintro e w6 ⟨fv, rfl, hso, hb⟩; have H6 := Aside0.mk (H5.out.more hb); have HO := Aside0.mk hso; clear hso hb)
    go_ret2
    exact ⟨_, _, _, _, rfl, H6.out, HO.out⟩

  · have q1 : (((Lib.trimSpace (eolL rest)).length : Int) != 0) = true := by rw [bne_iff_ne]; omega
    have hz1 : ¬ 9223372036854775807 < (eolL rest).length := by have := HL.out; omega
    have hz2 : (B (eolL rest)).size = (eolL rest).length := B_size _
    generalize htv : Lib.trimSpace (eolL rest) = tv at *
    clear hT
    go_enter Tryd.func133, Tryd.ntmps133
    go_upto_region 14 with (first
      | (go_at_call 95; refine (to_eol rest H.out.lx H13.out HL.out).mono ?_; rintro e w1 ⟨v1, rfl, hs, hx, ht⟩; have HS1 := Aside0.mk hs; have H1 := Aside0.mk (H.out.on ht hx); have K11 := Aside0.mk (H.out.box ht K1.out (by decide)); have K21 := Aside0.mk (H.out.box ht K2.out (by decide)); have K31 := Aside0.mk (H.out.box ht K3.out (by decide)); have K41 := Aside0.mk (H.out.box ht K4.out (by decide)); have hk2 := K21.out.cell; have hcv := HS1.out.str; have hf2 := blk_frozen K21.out 0; have hb2 := Aside0.mk (blk_lt K2.out); clear hs hx ht)
      | (go_at_call 101; refine (trimmed_nil w1 W.heap.size v1 (eolL rest) HS1.out (Nat.le_trans HL.out (by decide)) HA.out H1.out.lx.tabW.bsp).mono ?_; rintro e w2 ⟨⟨A, c, rfl⟩, hw⟩; subst hw; rw [htv]; have hszw := Aside0.mk (show w2.heap.size = (w2.setCell ⟨b2, 0, none⟩ (.string (B (eolL rest)))).heap.size by simp [World.setCell]); have HSx := Aside0.mk (show Sl (w2.setCell ⟨b2, 0, none⟩ (.string (B (eolL rest)))) W.heap.size v1 (eolL rest) from HS1.out.turned ((Turned.refl w2 (at_ b2)).setCell (.inl rfl) _) (fun k hk => by rw [hk]; exact hb2.out)); have HLx := Aside0.mk (show LS w0 gl gb T (w2.setCell ⟨b2, 0, none⟩ (.string (B (eolL rest)))) (eolR rest) D vd from H1.out.setBox K21.out H00.out _); have KX1 := Aside0.mk (show Box (w2.setCell ⟨b2, 0, none⟩ (.string (B (eolL rest)))) b1 (pt gl) 100 from (Below.heap_setCell w2 ⟨b2, 0, none⟩ _ b1 (blk_ne K11.out K21.out (by decide))).trans K11.out); have KX2 := Aside0.mk (show Box (w2.setCell ⟨b2, 0, none⟩ (.string (B (eolL rest)))) b2 (.string (B (eolL rest))) 9 from by unfold Box; rw [blk_set K21.out]; rfl); have KX3 := Aside0.mk (show Box (w2.setCell ⟨b2, 0, none⟩ (.string (B (eolL rest)))) b3 (.string (B s)) 9 from (Below.heap_setCell w2 ⟨b2, 0, none⟩ _ b3 H32.out).trans K31.out); have KX4 := Aside0.mk (show Box (w2.setCell ⟨b2, 0, none⟩ (.string (B (eolL rest)))) b4 (.string (B nm)) 9 from (Below.heap_setCell w2 ⟨b2, 0, none⟩ _ b4 H42.out).trans K41.out))
      | (go_at_call 97; refine (has1 _ W.heap.size v1 (eolL rest) 92 92 rfl _ _ (HSx.out.below (below_new _ _)) (Nat.le_trans HL.out (by decide)) (cell_new' _ _ _ _ hszw.out)).mono ?_; rintro e w3 ⟨rfl, hw⟩; rw [HSF.out]; have HLy := Aside0.mk (show LS w0 gl gb T w3 (eolR rest) D vd by rw [hw]; exact HLx.out.more (below_new _ _)); have KY1 := Aside0.mk (show Box w3 b1 (pt gl) 100 by rw [hw]; exact KX1.out.more (below_new _ _)); have KY2 := Aside0.mk (show Box w3 b2 (.string (B (eolL rest))) 9 by rw [hw]; exact KX2.out.more (below_new _ _)); have KY3 := Aside0.mk (show Box w3 b3 (.string (B s)) 9 by rw [hw]; exact KX3.out.more (below_new _ _)); have KY4 := Aside0.mk (show Box w3 b4 (.string (B nm)) 9 by rw [hw]; exact KX4.out.more (below_new _ _)); have hky := KY2.out.cell; clear hw)
      | (go_at_call 134; refine (suffix_str (eolL rest) [10] _ HL.out).mono ?_; rintro e w5 ⟨rfl, hw⟩; subst hw; rw [has10_no _ (eol_no rest)])
      | (go_at_call 119; refine (trim_ascii (eolL rest) _ HL.out HA.out HLy.out.lx.tabW.ssp).mono ?_; rintro e w4 ⟨rfl, hb⟩; rw [htv]; have H9 := Aside0.mk (HLy.out.more hb); have K91 := Aside0.mk (KY1.out.more hb); have K93 := Aside0.mk (KY3.out.more hb); have K94 := Aside0.mk (KY4.out.more hb); clear hb))
    clear hk2 htv hcat HS1 H1 K11 K21 K31 K41 H K1 K2 K3 K4 HSx HLx KX1 KX2 KX3 KX4 HLy KY1 KY2 KY3 KY4 hky hcv hf2 hz1 hz2
    obtain ⟨Av, cv, hvd⟩ : ∃ A c, vd = .slice A D.length c := by
      obtain ⟨A, c, h⟩ := Kd.R_slice H9.out.row
      rw [List.length_map] at h
      exact ⟨A, c, h⟩
    subst hvd
    have g1 := K91.out.cell
    have g2 := K93.out.cell
    have g4 := K94.out.cell
    have g3 := H9.out.lx.c1
    unfold pt at g1
    refine Go.Last.wp_region_x (S := fun w' => w'.cell? ⟨b1, 0, none⟩ = some (.pointer (some ⟨gl, 0, none⟩)) ∧ w'.cell? ⟨b3, 0, none⟩ = some (.string (B s)) ∧ w'.cell? ⟨b4, 0, none⟩ = some (.string (B nm)) ∧ w'.cell? ⟨gl, 1, none⟩ = some (.slice Av D.length cv)) (n := 16) (by kernel_rfl) ?_
    have HS : (fun w' => w'.cell? ⟨b1, 0, none⟩ = some (.pointer (some ⟨gl, 0, none⟩)) ∧ w'.cell? ⟨b3, 0, none⟩ = some (.string (B s)) ∧ w'.cell? ⟨b4, 0, none⟩ = some (.string (B nm)) ∧ w'.cell? ⟨gl, 1, none⟩ = some (.slice Av D.length cv)) w4.drew := ⟨g1, g2, g4, g3⟩
    have H2 := Aside0.mk (show LS w0 gl gb T w4.drew (eolR rest) D (.slice Av D.length cv) from H9.out.more (below_drew (Below.refl _ _)))
    have K12 := Aside0.mk (show Box w4.drew b1 (pt gl) 100 from K91.out)
    have K22 := Aside0.mk (show Box w4.drew b3 (.string (B s)) 9 from K93.out)
    have K42 := Aside0.mk (show Box w4.drew b4 (.string (B nm)) 9 from K94.out)
    change Go.Last.wpAnyX _ _ _ _ _ _ _ _ _ w4.drew
    clear g1 g2 g3 g4 hc1 hc2 H9 K91 K93 K94
    generalize w4.drew = wd at *
    show Go.Last.wpAnyX _ _ _ _ _ _ 17 _ _ _
    refine Go.Last.wpAnyX_at 17 rfl (by kernel_rfl) (by kernel_rfl) (by kernel_rfl) (by kernel_rfl) (fun _ _ _ h => h) (v := ?_) (Or.inl ⟨by rfl, ?_⟩) (by assumption) ?_
    rotate_left
    · intro w hSw
      (try dsimp only at hSw)
      go_split_ands
      go_simp
      first | done | with_reducible rfl
    (try simp only [Nat.reduceSub, Nat.reduceAdd, Act.put, List.setIfInBounds_toArray, List.set_cons_zero, List.set_cons_succ])
    refine Go.Last.wpAnyX_at 17 rfl (by kernel_rfl) (by kernel_rfl) (by kernel_rfl) (by kernel_rfl) (fun _ _ _ h => h) (v := ?_) (Or.inl ⟨by rfl, ?_⟩) (by assumption) ?_
    rotate_left
    · intro w hSw
      (try dsimp only at hSw)
      go_split_ands
      go_simp
      first | done | with_reducible rfl
    (try simp only [Nat.reduceSub, Nat.reduceAdd, Act.put, List.setIfInBounds_toArray, List.set_cons_zero, List.set_cons_succ])
    refine Go.Last.wpAnyX_at 17 rfl (by kernel_rfl) (by kernel_rfl) (by kernel_rfl) (by kernel_rfl) (fun _ _ _ h => h) (v := ?_) (Or.inl ⟨by rfl, ?_⟩) (by assumption) ?_
    rotate_left
    · intro w hSw
      (try dsimp only at hSw)
      go_split_ands
      go_simp
      first | done | with_reducible rfl
    (try simp only [Nat.reduceSub, Nat.reduceAdd, Act.put, List.setIfInBounds_toArray, List.set_cons_zero, List.set_cons_succ])
    refine Go.Last.wpAnyX_at 17 rfl (by kernel_rfl) (by kernel_rfl) (by kernel_rfl) (by kernel_rfl) (fun _ _ _ h => h) (v := ?_) (Or.inl ⟨by rfl, ?_⟩) (by assumption) ?_
    rotate_left
    · intro w hSw
      (try dsimp only at hSw)
      go_split_ands
      go_simp
      first | done | with_reducible rfl
    (try simp only [Nat.reduceSub, Nat.reduceAdd, Act.put, List.setIfInBounds_toArray, List.set_cons_zero, List.set_cons_succ])
    refine Go.Last.wpAnyX_at 17 rfl (by kernel_rfl) (by kernel_rfl) (by kernel_rfl) (by kernel_rfl) (fun _ _ _ h => h) (v := ?_) (Or.inl ⟨by rfl, ?_⟩) (by assumption) ?_
    rotate_left
    · intro w hSw
      (try dsimp only at hSw)
      go_split_ands
      go_simp
      first | done | with_reducible rfl
    (try simp only [Nat.reduceSub, Nat.reduceAdd, Act.put, List.setIfInBounds_toArray, List.set_cons_zero, List.set_cons_succ])
    refine Go.Last.wpAnyX_at 17 rfl (by kernel_rfl) (by kernel_rfl) (by kernel_rfl) (by kernel_rfl) (fun _ _ _ h => h) (v := ?_) (Or.inl ⟨by rfl, ?_⟩) (by assumption) ?_
    rotate_left
    · intro w hSw
      (try dsimp only at hSw)
      go_split_ands
      go_simp
      first | done | with_reducible rfl
    (try simp only [Nat.reduceSub, Nat.reduceAdd, Act.put, List.setIfInBounds_toArray, List.set_cons_zero, List.set_cons_succ])
    refine Go.Last.wpAnyX_at 17 rfl (by kernel_rfl) (by kernel_rfl) (by kernel_rfl) (by kernel_rfl) (fun _ _ _ h => h) (v := ?_) (Or.inl ⟨by rfl, ?_⟩) (by assumption) ?_
    rotate_left
    · intro w hSw
      (try dsimp only at hSw)
      go_split_ands
      go_simp
      first | done | with_reducible rfl
    (try simp only [Nat.reduceSub, Nat.reduceAdd, Act.put, List.setIfInBounds_toArray, List.set_cons_zero, List.set_cons_succ])
    refine Go.Last.wpAnyX_at 17 rfl (by kernel_rfl) (by kernel_rfl) (by kernel_rfl) (by kernel_rfl) (fun _ _ _ h => h) (v := ?_) (Or.inl ⟨by rfl, ?_⟩) (by assumption) ?_
    rotate_left
    · intro w hSw
      (try dsimp only at hSw)
      go_split_ands
      go_simp
      first | done | with_reducible rfl
    (try simp only [Nat.reduceSub, Nat.reduceAdd, Act.put, List.setIfInBounds_toArray, List.set_cons_zero, List.set_cons_succ])
    refine Go.Last.wpAnyX_at 17 rfl (by kernel_rfl) (by kernel_rfl) (by kernel_rfl) (by kernel_rfl) (fun _ _ _ h => h) (v := ?_) (Or.inl ⟨by rfl, ?_⟩) (by assumption) ?_
    rotate_left
    · intro w hSw
      (try dsimp only at hSw)
      go_split_ands
      go_simp
      first | done | with_reducible rfl
    (try simp only [Nat.reduceSub, Nat.reduceAdd, Act.put, List.setIfInBounds_toArray, List.set_cons_zero, List.set_cons_succ])
    refine Go.Last.wpAnyX_one (i := 9) (o := { dst := some 56, op := Op.box 64 (Operand.tmp 55), type := 55, pos := "deserialize.go:300", after := #[{ on := 8, ground := Ground.data }], guard := none }) (by kernel_rfl) rfl ?_
    intro K2 hK2
    go_simp
    have HSb : (fun w' => w'.cell? ⟨b1, 0, none⟩ = some (.pointer (some ⟨gl, 0, none⟩)) ∧ w'.cell? ⟨b3, 0, none⟩ = some (.string (B s)) ∧ w'.cell? ⟨b4, 0, none⟩ = some (.string (B nm)) ∧ w'.cell? ⟨gl, 1, none⟩ = some (.slice Av D.length cv)) (wd.alloc (Obj.cells #[.string (B s), .string (B nm), .string (B tv)] 64)) := ⟨keepcell (below_new _ _) HS.1, keepcell (below_new _ _) HS.2.1, keepcell (below_new _ _) HS.2.2.1, keepcell (below_new _ _) HS.2.2.2⟩
    refine hK2 _ _ (fun _ => HSb) ?_
    clear hK2 K2
    (try simp only [Act.put, List.setIfInBounds_toArray, List.set_cons_zero, List.set_cons_succ])
    refine Go.Last.wpAnyX_at 17 rfl (by kernel_rfl) (by kernel_rfl) (by kernel_rfl) (by kernel_rfl) (fun _ _ _ h => h) (v := ?_) (Or.inl ⟨by rfl, ?_⟩) (by assumption) ?_
    rotate_left
    · intro w hSw
      (try dsimp only at hSw)
      go_split_ands
      go_simp
      first | done | with_reducible rfl
    (try simp only [Nat.reduceSub, Nat.reduceAdd, Act.put, List.setIfInBounds_toArray, List.set_cons_zero, List.set_cons_succ])
    refine Go.Last.wpAnyX_one (i := 11) (o := { dst := some 58, op := Op.box 109 (Operand.tmp 57), type := 106, pos := "deserialize.go:300", after := #[{ on := 10, ground := Ground.data }], guard := none }) (by kernel_rfl) rfl ?_
    intro K3 hK3
    go_simp
    have HSc : (fun w' => w'.cell? ⟨b1, 0, none⟩ = some (.pointer (some ⟨gl, 0, none⟩)) ∧ w'.cell? ⟨b3, 0, none⟩ = some (.string (B s)) ∧ w'.cell? ⟨b4, 0, none⟩ = some (.string (B nm)) ∧ w'.cell? ⟨gl, 1, none⟩ = some (.slice Av D.length cv)) ((wd.alloc (Obj.cells #[.string (B s), .string (B nm), .string (B tv)] 64)).alloc (Obj.cells #[.int .i64 1, .pointer (some ⟨wd.heap.size, 0, none⟩), .pointer none] 109)) := ⟨keepcell (below_new _ _) HSb.1, keepcell (below_new _ _) HSb.2.1, keepcell (below_new _ _) HSb.2.2.1, keepcell (below_new _ _) HSb.2.2.2⟩
    refine hK3 _ _ (fun _ => HSc) ?_
    clear hK3 K3 HSb HS
    (try simp only [Act.put, List.setIfInBounds_toArray, List.set_cons_zero, List.set_cons_succ])
    have hal := alloc2_facts wd (Obj.cells #[.string (B s), .string (B nm), .string (B tv)] 64) (Obj.cells #[.int .i64 1, .pointer (some ⟨wd.heap.size, 0, none⟩), .pointer none] 109)
    have HAL := Aside0.mk hal
    clear hal
    generalize ((wd.alloc (Obj.cells #[.string (B s), .string (B nm), .string (B tv)] 64)).alloc (Obj.cells #[.int .i64 1, .pointer (some ⟨wd.heap.size, 0, none⟩), .pointer none] 109)) = w3 at HSc HAL ⊢
    have H3 := Aside0.mk (H2.out.more HAL.out.1)
    have K13 := Aside0.mk (K12.out.more HAL.out.1)
    have K23 := Aside0.mk (K22.out.more HAL.out.1)
    have K43 := Aside0.mk (K42.out.more HAL.out.1)
    have HAL2 := Aside0.mk HAL.out.2
    clear HAL H2 K12 K22 K42
    generalize wd.heap.size + 1 = p at *
    generalize wd.heap.size = b at *
    have HXB := Aside0.mk (show ∀ q ∈ (Dat.mk false s nm tv p b 0).blks, w3.heap[q.1]? = some q.2 by
      intro q hq
      unfold Dat.blks at hq
      simp only [Bool.false_eq_true, if_false, List.mem_cons, List.mem_nil_iff, or_false] at hq
      rcases hq with rfl | rfl
      · exact HAL2.out.2
      · exact HAL2.out.1)
    clear HAL2
    refine Go.Last.wpAnyX_one (i := 12) (o := { dst := some 59, op := Op.buildSlice 103 1 #[(0, Operand.tmp 58)], type := 103, pos := "deserialize.go:300", after := #[{ on := 11, ground := Ground.data }], guard := none }) (by kernel_rfl) rfl ?_
    intro K4 hK4
    go_simp
    have HSd : (fun w' => w'.cell? ⟨b1, 0, none⟩ = some (.pointer (some ⟨gl, 0, none⟩)) ∧ w'.cell? ⟨b3, 0, none⟩ = some (.string (B s)) ∧ w'.cell? ⟨b4, 0, none⟩ = some (.string (B nm)) ∧ w'.cell? ⟨gl, 1, none⟩ = some (.slice Av D.length cv)) (w3.alloc (Obj.cells #[.pointer (some ⟨p, 0, none⟩)] 106)) := ⟨keepcell (below_new _ _) HSc.1, keepcell (below_new _ _) HSc.2.1, keepcell (below_new _ _) HSc.2.2.1, keepcell (below_new _ _) HSc.2.2.2⟩
    refine hK4 _ _ (fun _ => HSd) ?_
    clear hK4 K4
    (try simp only [Act.put, List.setIfInBounds_toArray, List.set_cons_zero, List.set_cons_succ])
    refine Go.Last.wpAnyX_one (i := 13) (o := { dst := some 60, op := Op.call { callee := Callee.builtin Builtin.append, args := #[Operand.tmp 51, Operand.tmp 59], argTypes := #[103, 103] }, type := 103, pos := "deserialize.go:300", after := #[{ on := 4, ground := Ground.data }, { on := 12, ground := Ground.data }], guard := none }) (by kernel_rfl) rfl ?_
    intro K5 hK5
    refine Kd.R_append_step (w0 := w0) kPtr w0.heap.size (by rfl) (.tmp 51) (.tmp 59) 103 106 (.pointer none) 8 rfl (by kernel_rfl) (by kernel_rfl) (by decide) (by decide) (by decide) (Value.slice Av D.length cv) (D.map (·.p)) p [.pointer (some ⟨p, 0, none⟩)] (fun _ => True) (fun _ => False) rfl rfl rfl (fun _ h => h.elim) (fun _ _ => trivial) H3.out.row H3.out.lx.below H3.out.lx.below.size (by rw [List.length_map]; have := HD.out; omega) ?_
    intro v2 w4 HR1 HB1 hg hat
    obtain ⟨A2, c2, hv2⟩ : ∃ A c, v2 = .slice A (D.length + 1) c := by
      obtain ⟨A, c, h⟩ := Kd.R_slice HR1
      rw [List.length_append, List.length_map] at h
      exact ⟨A, c, h⟩
    subst hv2
    have HSe : (fun w' => w'.cell? ⟨b1, 0, none⟩ = some (.pointer (some ⟨gl, 0, none⟩)) ∧ w'.cell? ⟨b3, 0, none⟩ = some (.string (B s)) ∧ w'.cell? ⟨b4, 0, none⟩ = some (.string (B nm)) ∧ w'.cell? ⟨gl, 1, none⟩ = some (.slice Av D.length cv)) w4 := ⟨cell_grown hg HSc.1 (ne_own H3.out.row K13.out (by decide)), cell_grown hg HSc.2.1 (ne_own H3.out.row K23.out (by decide)), cell_grown hg HSc.2.2.1 (ne_own H3.out.row K43.out (by decide)), cell_grown hg HSc.2.2.2 (ne_own H3.out.row H3.out.lx.lex (by decide))⟩
    have HF := Aside0.mk (blk_frozen (blk_grown H3.out.lx.lex hg (ne_own H3.out.row H3.out.lx.lex (by decide))) 1)
    have HR := Aside0.mk HR1
    have HBx := Aside0.mk HB1
    have HG := Aside0.mk hg
    refine hK5 _ _ (fun _ => HSe) ?_
    clear hK5 K5 HSc HSd HR1 HB1 hg hat
    (try simp only [Act.put, List.setIfInBounds_toArray, List.set_cons_zero, List.set_cons_succ])
    refine Go.Last.wpAnyX_one (i := 14) (o := { dst := some 61, op := Op.nilCheck (Operand.tmp 47), type := 0, pos := "deserialize.go:300", after := #[{ on := 0, ground := Ground.data }, { on := 0, ground := Ground.phase }, { on := 1, ground := Ground.phase }, { on := 2, ground := Ground.phase }, { on := 3, ground := Ground.phase }, { on := 4, ground := Ground.phase }, { on := 5, ground := Ground.phase }, { on := 6, ground := Ground.phase }, { on := 7, ground := Ground.phase }, { on := 8, ground := Ground.phase }, { on := 9, ground := Ground.phase }, { on := 10, ground := Ground.phase }, { on := 11, ground := Ground.phase }, { on := 12, ground := Ground.phase }, { on := 13, ground := Ground.phase }], guard := none }) (by kernel_rfl) rfl ?_
    intro K7 hK7
    go_simp
    refine hK7 _ _ (fun _ => HSe) ?_
    clear hK7 K7
    (try simp only [Act.put, List.setIfInBounds_toArray, List.set_cons_zero, List.set_cons_succ])
    refine Go.Last.wpAnyX_one (i := 15) (o := { dst := some 62, op := Op.fieldAddr 105 (Operand.tmp 61) 1, type := 0, pos := "deserialize.go:300", after := #[{ on := 14, ground := Ground.data }, { on := 0, ground := Ground.phase }, { on := 1, ground := Ground.phase }, { on := 2, ground := Ground.phase }, { on := 3, ground := Ground.phase }, { on := 4, ground := Ground.phase }, { on := 5, ground := Ground.phase }, { on := 6, ground := Ground.phase }, { on := 7, ground := Ground.phase }, { on := 8, ground := Ground.phase }, { on := 9, ground := Ground.phase }, { on := 10, ground := Ground.phase }, { on := 11, ground := Ground.phase }, { on := 12, ground := Ground.phase }, { on := 13, ground := Ground.phase }], guard := none }) (by kernel_rfl) rfl ?_
    intro K8 hK8
    go_simp
    refine hK8 _ _ (fun _ => HSe) ?_
    clear hK8 K8
    (try simp only [Act.put, List.setIfInBounds_toArray, List.set_cons_zero, List.set_cons_succ])
    refine Go.Last.wpAnyX_one (i := 16) (o := { dst := none, op := Op.store 103 (Operand.tmp 62) (Operand.tmp 60), type := 0, pos := "deserialize.go:300", after := #[{ on := 15, ground := Ground.data }, { on := 13, ground := Ground.data }, { on := 13, ground := Ground.chain }, { on := 0, ground := Ground.phase }, { on := 1, ground := Ground.phase }, { on := 2, ground := Ground.phase }, { on := 3, ground := Ground.phase }, { on := 4, ground := Ground.phase }, { on := 5, ground := Ground.phase }, { on := 6, ground := Ground.phase }, { on := 7, ground := Ground.phase }, { on := 8, ground := Ground.phase }, { on := 9, ground := Ground.phase }, { on := 10, ground := Ground.phase }, { on := 11, ground := Ground.phase }, { on := 12, ground := Ground.phase }, { on := 13, ground := Ground.phase }], guard := none }) (by kernel_rfl) rfl ?_
    intro K6 hK6
    have hcB := HSe.2.2.2
    have hfB := HF.out
    go_simp
    refine hK6 _ _ (fun e => absurd rfl e) ?_
    refine Go.Last.wpAnyX_done (by kernel_rfl) ?_ _
    have H5 := Aside0.mk (H3.out.add ⟨false, s, nm, tv, p, b, 0⟩ HXB.out (fun h => by simp at h) (fun h => by simp at h) HR.out HBx.out HG.out)
    have K15 := Aside0.mk (Box.add (v1 := .slice A2 (D.length + 1) c2) H3.out HG.out K13.out (by decide) (by decide))
    have K25 := Aside0.mk (Box.add (v1 := .slice A2 (D.length + 1) c2) H3.out HG.out K23.out (by decide) (by decide))
    clear hK6 K6 HSe hcB hfB HF HR HBx HG H3 K13 K23 K43 HXB
    generalize w4.setCell ⟨gl, 1, none⟩ (.slice A2 (D.length + 1) c2) = w5 at H5 K15 K25 ⊢
    have hk51 := K15.out.cell
    have hk52 := K25.out.cell
    unfold pt at hk51
    go_wp2_with (go_at_call 102; refine (secopt_mk gl s _).mono ?_; rintro e w6 ⟨fv, rfl, hso, hb⟩; have H6 := Aside0.mk (H5.out.more hb); have HO := Aside0.mk hso; clear hso hb)
    go_ret2
    exact ⟨_, _, _, _, rfl, H6.out, HO.out⟩
end Go.Proofs.YtocdnceckljnaaaDoor.U
