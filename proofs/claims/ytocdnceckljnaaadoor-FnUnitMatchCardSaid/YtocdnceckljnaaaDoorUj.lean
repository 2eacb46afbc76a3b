/- The steps of the unit reader's lexer that write a datum: behind a section's name. Conditions: see each theorem. -/
import Derived.Test.YtocdnceckljnaaaDoorUi
namespace Go.Proofs.YtocdnceckljnaaaDoor.U
open Go.RowKit Go.Proofs.YtocdnceckljnaaaDoorW.PrintWords Go.Proofs.YtocdnceckljnaaaDoorW.PrintLast Go.Proofs.YtocdnceckljnaaaDoorW.PrintMore
set_option linter.unusedVariables false
set_option linter.unusedSimpArgs false
theorem trimmed_nil (W : World) (base : Nat) (v : Value) (l : Bs) (h : Sl W base v l) (hl : l.length ≤ 4611686018427387904) (ha : ∀ c ∈ l, c.toNat < 128) (ht : Lib.TabIs Tryd.prog W "bytes.asciiSpace" .u8 Lib.asciiSpaceTab) :
    Calls Tryd.prog 101 #[v] W fun e w' => (∃ A c, e = .returned (.slice A (Lib.trimSpace l).length c)) ∧ w' = W := by
  obtain ⟨b, o, c, rfl, h1, hb, hlt, h4⟩ := h.bytes
  refine (Tryd.bytes_TrimSpace b o l.length c (nums l) W (nums_len l) h1 (by omega) h4 (fun i hi => ?_) ht).mono ?_
  · rw [nums_get l i hi]
    have := ha _ (List.getElem_mem hi)
    omega
  · rintro e w' ⟨he, hw⟩
    refine ⟨?_, hw⟩
    rw [bytesOf_nums] at he
    unfold Lib.bytesTrimSpace at he
    split at he
    · rename_i h0
      refine ⟨none, 0, ?_⟩
      have : Lib.trimSpace l = [] := by unfold Lib.trimSpace; rw [h0]; rfl
      rw [this]
      exact he
    · exact ⟨_, _, he⟩
theorem alloc3_facts (w : World) (a b c : Obj) : Below w.heap.size w (((w.alloc a).alloc b).alloc c) ∧ (((w.alloc a).alloc b).alloc c).heap.size = w.heap.size + 3 ∧ (((w.alloc a).alloc b).alloc c).heap[w.heap.size]? = some a ∧ (((w.alloc a).alloc b).alloc c).heap[w.heap.size + 1]? = some b ∧ (((w.alloc a).alloc b).alloc c).heap[w.heap.size + 1 + 1]? = some c := by
  refine ⟨below_over (below_over (below_new _ _) (below_new _ _)) (below_new _ _), by rw [alloc_size', alloc_size', alloc_size'], ?_, ?_, ?_⟩
  · rw [heap_alloc_old _ _ (by rw [alloc_size', alloc_size']; omega), heap_alloc_old _ _ (by rw [alloc_size']; omega)]
    exact heap_alloc_new _ _
  · rw [heap_alloc_old _ _ (by rw [alloc_size', alloc_size']; omega), ← alloc_size' w a]
    exact heap_alloc_new _ _
  · rw [← alloc_size' w a, ← alloc_size' (w.alloc a) b]
    exact heap_alloc_new _ _
theorem ne_own {α : Type} {d : Kd α} {e base : Nat} {ok : Nat → Prop} {W : World} {v : Value} {xs : List α} (h : d.R e W base ok v xs) {g t : Nat} {cs : Array Value} (hb : W.heap[g]? = some (.cells cs t (0, 0))) (ht : e ≠ t) : some g ≠ v.ownBlock := Kd.R_ne h hb ht
theorem LS.add {w0 W W4 : World} {gl gb : Nat} {T : ByteArray} {rest : Bs} {D : List Dat} {vd v1 : Value} (h : LS w0 gl gb T W rest D vd) (x : Dat) (hx : ∀ p ∈ x.blks, W.heap[p.1]? = some p.2) (hnew : x.isSec = true → (w0.heap.size ≤ x.b ∧ x.b < W.heap.size) ∧ (w0.heap.size ≤ x.be ∧ x.be < W.heap.size))
    (hap : x.isSec = true → ∀ y ∈ D, y.isSec = true → y.b ≠ x.b ∧ y.be ≠ x.be) (HR1 : kPtr.R 106 W4 w0.heap.size (fun _ => True) v1 (D.map (·.p) ++ [x.p])) (HB : Below w0.heap.size w0 W4) (hg : W.grownBy W4 vd.ownBlock) :
    LS w0 gl gb T (W4.setCell ⟨gl, 1, none⟩ v1) rest (D ++ [x]) v1 := by
  obtain ⟨r, wd, last, hB, hr⟩ := h.lx.buf
  have hl4 := blk_grown h.lx.lex hg (ne_own h.row h.lx.lex (by decide))
  have hb4 := blk_grown hB.blk hg (ne_own h.row hB.blk (by decide))
  have hdat : ∀ (k : Nat) (c : Array Value) (t : Nat), W.heap[k]? = some (Obj.cells c t (0, 0)) → (t = 109 ∨ t = 79 ∨ t = 80 ∨ t = 64) → (W4.setCell ⟨gl, 1, none⟩ v1).heap[k]? = W.heap[k]? := by
    intro k c t hk ht
    have h4 := blk_grown hk hg (ne_own h.row hk (by rcases ht with rfl | rfl | rfl | rfl <;> decide))
    have hne : k ≠ gl := blk_ne h4 hl4 (by rcases ht with rfl | rfl | rfl | rfl <;> decide)
    rw [Below.heap_setCell W4 ⟨gl, 1, none⟩ v1 k hne, h4, hk]
  refine ⟨⟨below_set HB h.lx.hgl, h.lx.hgl, h.lx.hgb, h.lx.ne, ?_, ⟨r, wd, last, ⟨?_, hB.le, hB.lew, hB.big⟩, hr⟩, h.lx.tabs, h.lx.asc⟩, ?_, ?_, ?_, ?_⟩
  · rw [blk_set hl4]
    rfl
  · exact (Below.heap_setCell W4 ⟨gl, 1, none⟩ v1 gb (fun e => h.lx.ne e.symm)).trans hb4
  · rw [List.map_append]
    exact Kd.R_set HR1 hl4 (fun q hq => by rw [kE q hq]; decide) 1 v1
  · intro y hy p hp
    rcases List.mem_append.1 hy with hy | hy
    · exact DataAt.move h.data hdat y hy p hp
    · rw [List.mem_singleton.1 hy] at hp
      have h1 := hx p hp
      obtain ⟨c, t, h2, h3⟩ := x.typed p hp
      rw [hdat p.1 c t (by rw [h1, h2]) h3]
      exact h1
  · have hsz : W.heap.size ≤ (W4.setCell ⟨gl, 1, none⟩ v1).heap.size := by
      have : (W4.setCell ⟨gl, 1, none⟩ v1).heap.size = W4.heap.size := by simp [World.setCell]
      rw [this]
      exact hg.size
    intro y hy hs
    rcases List.mem_append.1 hy with hy | hy
    · exact new_le (h.new y hy hs) hsz
    · rw [List.mem_singleton.1 hy] at hs ⊢
      exact new_le (hnew hs) hsz
  · rw [List.filter_append, List.pairwise_append]
    refine ⟨h.apart, ?_, ?_⟩
    · by_cases hs : x.isSec = true
      · simp [List.filter_cons, hs]
      · simp [List.filter_cons, hs]
    · intro y hy z hz
      have hz1 := List.mem_filter.1 hz
      obtain rfl : z = x := List.mem_singleton.1 hz1.1
      have hy1 := List.mem_filter.1 hy
      exact hap (by simpa using hz1.2) y hy1.1 (by simpa using hy1.2)
/-- A box stays. -/
theorem Box.add {w0 W W4 : World} {gl gb : Nat} {T : ByteArray} {rest : Bs} {D : List Dat} {vd v1 : Value} (h : LS w0 gl gb T W rest D vd) (hg : W.grownBy W4 vd.ownBlock) {b : Nat} {v : Value} {t : TypeId} (hb : Box W b v t) (h1 : 106 ≠ t) (h2 : t ≠ 105) : Box (W4.setCell ⟨gl, 1, none⟩ v1) b v t := by
  have hl4 := blk_grown h.lx.lex hg (ne_own h.row h.lx.lex (by decide))
  have hb4 := blk_grown hb hg (ne_own h.row hb h1)
  exact (Below.heap_setCell W4 ⟨gl, 1, none⟩ v1 b (blk_ne hb4 hl4 h2)).trans hb4
set_option maxHeartbeats 40000000 in
set_option maxRecDepth 100000 in
theorem suffix_go {w0 W : World} {gl gb : Nat} {T : ByteArray} {D : List Dat} {vd : Value} (b1 b2 : Nat) (s rest : Bs) (h : LS w0 gl gb T W rest D vd) (k1 : Box W b1 (pt gl) 100) (k2 : Box W b2 (.string (B s)) 9)
    (h13 : (13 : UInt8) ∉ eolL rest) (ha : ∀ c ∈ eolL rest, c.toNat < 128) (hl : (eolL rest).length ≤ 4611686018427387000) (ht : Lib.trimSpace (eolL rest) = []) (hD : D.length < 1000000000) :
    Calls Tryd.prog 100 #[pt b1, pt b2] W fun e w' => ∃ fv vd' p b be, e = ret fv ∧ LS w0 gl gb T w' (eolR rest) (D ++ [⟨true, s, [], [], p, b, be⟩]) vd' ∧ StepIs w0.heap.size w' gl (.secOpt s) fv := by
  have H := Aside0.mk h
  have hc1 := k1.cell
  have K1 := Aside0.mk k1
  have K2 := Aside0.mk k2
  have H13 := Aside0.mk h13
  have HA := Aside0.mk ha
  have HL := Aside0.mk hl
  have HT := Aside0.mk ht
  have HD := Aside0.mk hD
  have hnn : ∀ (w : World), (binOp .neq 61 .nilIface .nilIface).run Tryd.prog w = .ok (.bool false) w := fun _ => rfl
  clear h k1 k2 h13 ha hl ht hD
  unfold pt at hc1 ⊢
  go_enter Tryd.func100, Tryd.ntmps100
  go_upto_region 7 with (first
      | (go_at_call 95; refine (to_eol rest H.out.lx H13.out HL.out).mono ?_; rintro e w1 ⟨v1, rfl, hs, hx, ht⟩; have HS1 := Aside0.mk hs; have H1 := Aside0.mk (H.out.on ht hx); have K11 := Aside0.mk (H.out.box ht K1.out (by decide)); have K21 := Aside0.mk (H.out.box ht K2.out (by decide)); clear hs hx ht)
      | (go_at_call 101; refine (trimmed_nil w1 W.heap.size v1 (eolL rest) HS1.out (Nat.le_trans HL.out (by decide)) HA.out H1.out.lx.tabW.bsp).mono ?_; rintro e w2 ⟨⟨A, c, rfl⟩, hw⟩; subst hw; rw [HT.out]))
  obtain ⟨Av, cv, hvd⟩ : ∃ A c, vd = .slice A D.length c := by
    obtain ⟨A, c, h⟩ := Kd.R_slice H1.out.row
    rw [List.length_map] at h
    exact ⟨A, c, h⟩
  subst hvd
  have g1 := K11.out.cell
  have g2 := K21.out.cell
  have g3 := H1.out.lx.c1
  unfold pt at g1
  refine Go.Last.wp_region_x (S := fun w' => w'.cell? ⟨b1, 0, none⟩ = some (.pointer (some ⟨gl, 0, none⟩)) ∧ w'.cell? ⟨b2, 0, none⟩ = some (.string (B s)) ∧ w'.cell? ⟨gl, 1, none⟩ = some (.slice Av D.length cv)) (n := 15) (by kernel_rfl) ?_
  have HS : (fun w' => w'.cell? ⟨b1, 0, none⟩ = some (.pointer (some ⟨gl, 0, none⟩)) ∧ w'.cell? ⟨b2, 0, none⟩ = some (.string (B s)) ∧ w'.cell? ⟨gl, 1, none⟩ = some (.slice Av D.length cv)) w2.drew := ⟨g1, g2, g3⟩
  have H2 := Aside0.mk (show LS w0 gl gb T w2.drew (eolR rest) D (.slice Av D.length cv) from H1.out.more (below_drew (Below.refl _ _)))
  have K12 := Aside0.mk (show Box w2.drew b1 (pt gl) 100 from K11.out)
  have K22 := Aside0.mk (show Box w2.drew b2 (.string (B s)) 9 from K21.out)
  change Go.Last.wpAnyX _ _ _ _ _ _ _ _ _ w2.drew
  clear g1 g2 g3 hc1 H1 K11 K21 H K1 K2 HS1 H13 HA HL HT
  generalize w2.drew = wd at *
  show Go.Last.wpAnyX _ _ _ _ _ _ 16 _ _ _
  refine Go.Last.wpAnyX_at 16 rfl (by kernel_rfl) (by kernel_rfl) (by kernel_rfl) (by kernel_rfl) (fun _ _ _ h => h) (v := ?_) (Or.inl ⟨by rfl, ?_⟩) (by assumption) ?_
  rotate_left
  · intro w hSw
    (try dsimp only at hSw)
    go_split_ands
    go_simp
    first | done | with_reducible rfl
  (try simp only [Nat.reduceSub, Nat.reduceAdd, Act.put, List.setIfInBounds_toArray, List.set_cons_zero, List.set_cons_succ])
  refine Go.Last.wpAnyX_at 16 rfl (by kernel_rfl) (by kernel_rfl) (by kernel_rfl) (by kernel_rfl) (fun _ _ _ h => h) (v := ?_) (Or.inl ⟨by rfl, ?_⟩) (by assumption) ?_
  rotate_left
  · intro w hSw
    (try dsimp only at hSw)
    go_split_ands
    go_simp
    first | done | with_reducible rfl
  (try simp only [Nat.reduceSub, Nat.reduceAdd, Act.put, List.setIfInBounds_toArray, List.set_cons_zero, List.set_cons_succ])
  refine Go.Last.wpAnyX_at 16 rfl (by kernel_rfl) (by kernel_rfl) (by kernel_rfl) (by kernel_rfl) (fun _ _ _ h => h) (v := ?_) (Or.inl ⟨by rfl, ?_⟩) (by assumption) ?_
  rotate_left
  · intro w hSw
    (try dsimp only at hSw)
    go_split_ands
    go_simp
    first | done | with_reducible rfl
  (try simp only [Nat.reduceSub, Nat.reduceAdd, Act.put, List.setIfInBounds_toArray, List.set_cons_zero, List.set_cons_succ])
  refine Go.Last.wpAnyX_at 16 rfl (by kernel_rfl) (by kernel_rfl) (by kernel_rfl) (by kernel_rfl) (fun _ _ _ h => h) (v := ?_) (Or.inl ⟨by rfl, ?_⟩) (by assumption) ?_
  rotate_left
  · intro w hSw
    (try dsimp only at hSw)
    go_split_ands
    go_simp
    first | done | with_reducible rfl
  (try simp only [Nat.reduceSub, Nat.reduceAdd, Act.put, List.setIfInBounds_toArray, List.set_cons_zero, List.set_cons_succ])
  refine Go.Last.wpAnyX_at 16 rfl (by kernel_rfl) (by kernel_rfl) (by kernel_rfl) (by kernel_rfl) (fun _ _ _ h => h) (v := ?_) (Or.inl ⟨by rfl, ?_⟩) (by assumption) ?_
  rotate_left
  · intro w hSw
    (try dsimp only at hSw)
    go_split_ands
    go_simp
    first | done | with_reducible rfl
  (try simp only [Nat.reduceSub, Nat.reduceAdd, Act.put, List.setIfInBounds_toArray, List.set_cons_zero, List.set_cons_succ])
  refine Go.Last.wpAnyX_at 16 rfl (by kernel_rfl) (by kernel_rfl) (by kernel_rfl) (by kernel_rfl) (fun _ _ _ h => h) (v := ?_) (Or.inl ⟨by rfl, ?_⟩) (by assumption) ?_
  rotate_left
  · intro w hSw
    (try dsimp only at hSw)
    go_split_ands
    go_simp
    first | done | with_reducible rfl
  (try simp only [Nat.reduceSub, Nat.reduceAdd, Act.put, List.setIfInBounds_toArray, List.set_cons_zero, List.set_cons_succ])
  refine Go.Last.wpAnyX_one (i := 6) (o := { dst := some 28, op := Op.buildSlice 77 0 #[], type := 77, pos := "deserialize.go:174", after := #[], guard := none }) (by kernel_rfl) rfl ?_
  intro K1 hK1
  go_simp
  have HSa : (fun w' => w'.cell? ⟨b1, 0, none⟩ = some (.pointer (some ⟨gl, 0, none⟩)) ∧ w'.cell? ⟨b2, 0, none⟩ = some (.string (B s)) ∧ w'.cell? ⟨gl, 1, none⟩ = some (.slice Av D.length cv)) (wd.alloc (Obj.cells #[] 80)) := ⟨keepcell (below_new _ _) HS.1, keepcell (below_new _ _) HS.2.1, keepcell (below_new _ _) HS.2.2⟩
  refine hK1 _ _ (fun _ => HSa) ?_
  clear hK1 K1
  (try simp only [Act.put, List.setIfInBounds_toArray, List.set_cons_zero, List.set_cons_succ])
  refine Go.Last.wpAnyX_at 16 rfl (by kernel_rfl) (by kernel_rfl) (by kernel_rfl) (by kernel_rfl) (fun _ _ _ h => h) (v := ?_) (Or.inl ⟨by rfl, ?_⟩) (by assumption) ?_
  rotate_left
  · intro w hSw
    (try dsimp only at hSw)
    go_split_ands
    go_simp
    first | done | with_reducible rfl
  (try simp only [Nat.reduceSub, Nat.reduceAdd, Act.put, List.setIfInBounds_toArray, List.set_cons_zero, List.set_cons_succ])
  refine Go.Last.wpAnyX_one (i := 8) (o := { dst := some 30, op := Op.box 79 (Operand.tmp 29), type := 76, pos := "deserialize.go:174", after := #[{ on := 7, ground := Ground.data }], guard := none }) (by kernel_rfl) rfl ?_
  intro K2 hK2
  go_simp
  have HSb : (fun w' => w'.cell? ⟨b1, 0, none⟩ = some (.pointer (some ⟨gl, 0, none⟩)) ∧ w'.cell? ⟨b2, 0, none⟩ = some (.string (B s)) ∧ w'.cell? ⟨gl, 1, none⟩ = some (.slice Av D.length cv)) ((wd.alloc (Obj.cells #[] 80)).alloc (Obj.cells #[.string (B s), .slice (some ⟨wd.heap.size, 0, none⟩) 0 0] 79)) := ⟨keepcell (below_new _ _) HSa.1, keepcell (below_new _ _) HSa.2.1, keepcell (below_new _ _) HSa.2.2⟩
  refine hK2 _ _ (fun _ => HSb) ?_
  clear hK2 K2
  (try simp only [Act.put, List.setIfInBounds_toArray, List.set_cons_zero, List.set_cons_succ])
  refine Go.Last.wpAnyX_at 16 rfl (by kernel_rfl) (by kernel_rfl) (by kernel_rfl) (by kernel_rfl) (fun _ _ _ h => h) (v := ?_) (Or.inl ⟨by rfl, ?_⟩) (by assumption) ?_
  rotate_left
  · intro w hSw
    (try dsimp only at hSw)
    go_split_ands
    go_simp
    first | done | with_reducible rfl
  (try simp only [Nat.reduceSub, Nat.reduceAdd, Act.put, List.setIfInBounds_toArray, List.set_cons_zero, List.set_cons_succ])
  refine Go.Last.wpAnyX_one (i := 10) (o := { dst := some 32, op := Op.box 109 (Operand.tmp 31), type := 106, pos := "deserialize.go:174", after := #[{ on := 9, ground := Ground.data }], guard := none }) (by kernel_rfl) rfl ?_
  intro K3 hK3
  go_simp
  have HSc : (fun w' => w'.cell? ⟨b1, 0, none⟩ = some (.pointer (some ⟨gl, 0, none⟩)) ∧ w'.cell? ⟨b2, 0, none⟩ = some (.string (B s)) ∧ w'.cell? ⟨gl, 1, none⟩ = some (.slice Av D.length cv)) (((wd.alloc (Obj.cells #[] 80)).alloc (Obj.cells #[.string (B s), .slice (some ⟨wd.heap.size, 0, none⟩) 0 0] 79)).alloc (Obj.cells #[.int .i64 0, .pointer none, .pointer (some ⟨wd.heap.size + 1, 0, none⟩)] 109)) := ⟨keepcell (below_new _ _) HSb.1, keepcell (below_new _ _) HSb.2.1, keepcell (below_new _ _) HSb.2.2⟩
  refine hK3 _ _ (fun _ => HSc) ?_
  clear hK3 K3 HSa HSb HS
  (try simp only [Act.put, List.setIfInBounds_toArray, List.set_cons_zero, List.set_cons_succ])
  have hal := alloc3_facts wd (Obj.cells #[] 80) (Obj.cells #[.string (B s), .slice (some ⟨wd.heap.size, 0, none⟩) 0 0] 79) (Obj.cells #[.int .i64 0, .pointer none, .pointer (some ⟨wd.heap.size + 1, 0, none⟩)] 109)
  have HAL := Aside0.mk hal
  clear hal
  generalize (((wd.alloc (Obj.cells #[] 80)).alloc (Obj.cells #[.string (B s), .slice (some ⟨wd.heap.size, 0, none⟩) 0 0] 79)).alloc (Obj.cells #[.int .i64 0, .pointer none, .pointer (some ⟨wd.heap.size + 1, 0, none⟩)] 109)) = w3 at HSc HAL ⊢
  have HAP := Aside0.mk (fun (y : Dat) (hy : y ∈ D) (hs : y.isSec = true) => (show y.b ≠ wd.heap.size + 1 ∧ y.be ≠ wd.heap.size by have := H2.out.new y hy hs; omega))
  have HBb := Aside0.mk (show (w0.heap.size ≤ wd.heap.size + 1 ∧ wd.heap.size + 1 < w3.heap.size) ∧ (w0.heap.size ≤ wd.heap.size ∧ wd.heap.size < w3.heap.size) by have := HAL.out.2.1; have := H2.out.lx.below.size; omega)
  have H3 := Aside0.mk (H2.out.more HAL.out.1)
  have K13 := Aside0.mk (K12.out.more HAL.out.1)
  have K23 := Aside0.mk (K22.out.more HAL.out.1)
  have HAL2 := Aside0.mk HAL.out.2.2
  clear HAL H2 K12 K22
  generalize wd.heap.size + 1 + 1 = p at *
  generalize wd.heap.size + 1 = b at *
  generalize wd.heap.size = be at *
  have HXB := Aside0.mk (show ∀ q ∈ (Dat.mk true s [] [] p b be).blks, w3.heap[q.1]? = some q.2 by
    intro q hq
    unfold Dat.blks at hq
    simp only [if_true, List.mem_cons, List.mem_nil_iff, or_false] at hq
    rcases hq with rfl | rfl | rfl
    · exact HAL2.out.2.2
    · exact HAL2.out.2.1
    · exact HAL2.out.1)
  clear HAL2
  refine Go.Last.wpAnyX_one (i := 11) (o := { dst := some 33, op := Op.buildSlice 103 1 #[(0, Operand.tmp 32)], type := 103, pos := "deserialize.go:174", after := #[{ on := 10, ground := Ground.data }], guard := none }) (by kernel_rfl) rfl ?_
  intro K4 hK4
  go_simp
  have HSd : (fun w' => w'.cell? ⟨b1, 0, none⟩ = some (.pointer (some ⟨gl, 0, none⟩)) ∧ w'.cell? ⟨b2, 0, none⟩ = some (.string (B s)) ∧ w'.cell? ⟨gl, 1, none⟩ = some (.slice Av D.length cv)) (w3.alloc (Obj.cells #[.pointer (some ⟨p, 0, none⟩)] 106)) := ⟨keepcell (below_new _ _) HSc.1, keepcell (below_new _ _) HSc.2.1, keepcell (below_new _ _) HSc.2.2⟩
  refine hK4 _ _ (fun _ => HSd) ?_
  clear hK4 K4
  (try simp only [Act.put, List.setIfInBounds_toArray, List.set_cons_zero, List.set_cons_succ])
  refine Go.Last.wpAnyX_one (i := 12) (o := { dst := some 34, op := Op.call { callee := Callee.builtin Builtin.append, args := #[Operand.tmp 26, Operand.tmp 33], argTypes := #[103, 103] }, type := 103, pos := "deserialize.go:174", after := #[{ on := 4, ground := Ground.data }, { on := 11, ground := Ground.data }], guard := none }) (by kernel_rfl) rfl ?_
  intro K5 hK5
  refine Kd.R_append_step (w0 := w0) kPtr w0.heap.size (by rfl) (.tmp 26) (.tmp 33) 103 106 (.pointer none) 8 rfl (by kernel_rfl) (by kernel_rfl) (by decide) (by decide) (by decide) (Value.slice Av D.length cv) (D.map (·.p)) p [.pointer (some ⟨p, 0, none⟩)] (fun _ => True) (fun _ => False) rfl rfl rfl (fun _ h => h.elim) (fun _ _ => trivial) H3.out.row H3.out.lx.below H3.out.lx.below.size (by rw [List.length_map]; have := HD.out; omega) ?_
  intro v2 w4 HR1 HB1 hg hat
  obtain ⟨A2, c2, hv2⟩ : ∃ A c, v2 = .slice A (D.length + 1) c := by
    obtain ⟨A, c, h⟩ := Kd.R_slice HR1
    rw [List.length_append, List.length_map] at h
    exact ⟨A, c, h⟩
  subst hv2
  have HSe : (fun w' => w'.cell? ⟨b1, 0, none⟩ = some (.pointer (some ⟨gl, 0, none⟩)) ∧ w'.cell? ⟨b2, 0, none⟩ = some (.string (B s)) ∧ w'.cell? ⟨gl, 1, none⟩ = some (.slice Av D.length cv)) w4 := ⟨cell_grown hg HSc.1 (ne_own H3.out.row K13.out (by decide)), cell_grown hg HSc.2.1 (ne_own H3.out.row K23.out (by decide)), cell_grown hg HSc.2.2 (ne_own H3.out.row H3.out.lx.lex (by decide))⟩
  have HF := Aside0.mk (blk_frozen (blk_grown H3.out.lx.lex hg (ne_own H3.out.row H3.out.lx.lex (by decide))) 1)
  have HR := Aside0.mk HR1
  have HBx := Aside0.mk HB1
  have HG := Aside0.mk hg
  refine hK5 _ _ (fun _ => HSe) ?_
  clear hK5 K5 HSc HSd HR1 HB1 hg hat
  (try simp only [Act.put, List.setIfInBounds_toArray, List.set_cons_zero, List.set_cons_succ])
  refine Go.Last.wpAnyX_one (i := 13) (o := { dst := some 35, op := Op.nilCheck (Operand.tmp 22), type := 0, pos := "deserialize.go:174", after := #[{ on := 0, ground := Ground.data }, { on := 0, ground := Ground.phase }, { on := 1, ground := Ground.phase }, { on := 2, ground := Ground.phase }, { on := 3, ground := Ground.phase }, { on := 4, ground := Ground.phase }, { on := 5, ground := Ground.phase }, { on := 6, ground := Ground.phase }, { on := 7, ground := Ground.phase }, { on := 8, ground := Ground.phase }, { on := 9, ground := Ground.phase }, { on := 10, ground := Ground.phase }, { on := 11, ground := Ground.phase }, { on := 12, ground := Ground.phase }], guard := none }) (by kernel_rfl) rfl ?_
  intro K7 hK7
  go_simp
  refine hK7 _ _ (fun _ => HSe) ?_
  clear hK7 K7
  (try simp only [Act.put, List.setIfInBounds_toArray, List.set_cons_zero, List.set_cons_succ])
  refine Go.Last.wpAnyX_one (i := 14) (o := { dst := some 36, op := Op.fieldAddr 105 (Operand.tmp 35) 1, type := 0, pos := "deserialize.go:174", after := #[{ on := 13, ground := Ground.data }, { on := 0, ground := Ground.phase }, { on := 1, ground := Ground.phase }, { on := 2, ground := Ground.phase }, { on := 3, ground := Ground.phase }, { on := 4, ground := Ground.phase }, { on := 5, ground := Ground.phase }, { on := 6, ground := Ground.phase }, { on := 7, ground := Ground.phase }, { on := 8, ground := Ground.phase }, { on := 9, ground := Ground.phase }, { on := 10, ground := Ground.phase }, { on := 11, ground := Ground.phase }, { on := 12, ground := Ground.phase }], guard := none }) (by kernel_rfl) rfl ?_
  intro K8 hK8
  go_simp
  refine hK8 _ _ (fun _ => HSe) ?_
  clear hK8 K8
  (try simp only [Act.put, List.setIfInBounds_toArray, List.set_cons_zero, List.set_cons_succ])
  refine Go.Last.wpAnyX_one (i := 15) (o := { dst := none, op := Op.store 103 (Operand.tmp 36) (Operand.tmp 34), type := 0, pos := "deserialize.go:174", after := #[{ on := 14, ground := Ground.data }, { on := 12, ground := Ground.data }, { on := 12, ground := Ground.chain }, { on := 0, ground := Ground.phase }, { on := 1, ground := Ground.phase }, { on := 2, ground := Ground.phase }, { on := 3, ground := Ground.phase }, { on := 4, ground := Ground.phase }, { on := 5, ground := Ground.phase }, { on := 6, ground := Ground.phase }, { on := 7, ground := Ground.phase }, { on := 8, ground := Ground.phase }, { on := 9, ground := Ground.phase }, { on := 10, ground := Ground.phase }, { on := 11, ground := Ground.phase }, { on := 12, ground := Ground.phase }], guard := none }) (by kernel_rfl) rfl ?_
  intro K6 hK6
  have hcB := HSe.2.2
  have hfB := HF.out
  go_simp
  refine hK6 _ _ (fun e => absurd rfl e) ?_
  refine Go.Last.wpAnyX_done (by kernel_rfl) ?_ _
  have H5 := Aside0.mk (H3.out.add ⟨true, s, [], [], p, b, be⟩ HXB.out (fun _ => HBb.out) (fun _ => HAP.out) HR.out HBx.out HG.out)
  have K15 := Aside0.mk (Box.add (v1 := .slice A2 (D.length + 1) c2) H3.out HG.out K13.out (by decide) (by decide))
  have K25 := Aside0.mk (Box.add (v1 := .slice A2 (D.length + 1) c2) H3.out HG.out K23.out (by decide) (by decide))
  clear hK6 K6 HSe hcB hfB HF HR HBx HG H3 K13 K23 HXB HAP
  generalize w4.setCell ⟨gl, 1, none⟩ (.slice A2 (D.length + 1) c2) = w5 at H5 K15 K25 ⊢
  have hk51 := K15.out.cell
  have hk52 := K25.out.cell
  unfold pt at hk51
  go_wp2_with (go_at_call 102; refine (secopt_mk gl s _).mono ?_; rintro e w6 ⟨fv, rfl, hso, hb⟩; have H6 := Aside0.mk (H5.out.more hb); have HO := Aside0.mk hso; clear hso hb)
  go_ret2
  exact ⟨_, _, _, _, _, rfl, H6.out, HO.out⟩
end Go.Proofs.YtocdnceckljnaaaDoor.U
