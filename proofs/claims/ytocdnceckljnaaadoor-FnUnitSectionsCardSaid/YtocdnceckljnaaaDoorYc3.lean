/- The texts Uj, Uk, Ul, Um, Un, Up, Uq, without what the claims do not use, laid together by a program of this session (wip/tools/bundle.py). Conditions: those of each theorem. -/
import Derived.Test.YtocdnceckljnaaaDoorYc2
import Derived.Defers
import Derived.Recover
namespace Go.Proofs.YtocdnceckljnaaaDoor.U
open Go.RowKit Go.Proofs.YtocdnceckljnaaaDoorW.PrintWords Go.Proofs.YtocdnceckljnaaaDoorW.PrintLast Go.Proofs.YtocdnceckljnaaaDoorW.PrintMore
set_option linter.unusedVariables false
set_option linter.unusedSimpArgs false
theorem trimmed_nil (W : World) (base : Nat) (v : Value) (l : Bs) (h : Sl W base v l) (hl : l.length ≤ 4611686018427387904) (ha : ∀ c ∈ l, c.toNat < 128) (ht : Lib.TabIs Tryd.prog W "bytes.asciiSpace" .u8 Lib.asciiSpaceTab) :
    Calls Tryd.prog 101 #[v] W fun e w' => (∃ A c, e = .returned (.slice A (Lib.trimSpace l).length c)) ∧ w' = W := by
  obtain ⟨b, o, c, rfl, h1, hb, hlt, h4⟩ := h.bytes
  refine (Tryd.bytes_TrimSpace b o l.length c (nums l) W (nums_len l) h1 (by omega) h4 (fun i hi => ?_) ht).mono ?_
  · rw [nums_get l i hi]
    have := ha _ (List.getElem_mem hi)
    omega
  · rintro e w' ⟨he, hw⟩
    refine ⟨?_, hw⟩
    rw [bytesOf_nums] at he
    unfold Lib.bytesTrimSpace at he
    split at he
    · rename_i h0
      refine ⟨none, 0, ?_⟩
      have : Lib.trimSpace l = [] := by unfold Lib.trimSpace; rw [h0]; rfl
      rw [this]
      exact he
    · exact ⟨_, _, he⟩
theorem alloc3_facts (w : World) (a b c : Obj) : Below w.heap.size w (((w.alloc a).alloc b).alloc c) ∧ (((w.alloc a).alloc b).alloc c).heap.size = w.heap.size + 3 ∧ (((w.alloc a).alloc b).alloc c).heap[w.heap.size]? = some a ∧ (((w.alloc a).alloc b).alloc c).heap[w.heap.size + 1]? = some b ∧ (((w.alloc a).alloc b).alloc c).heap[w.heap.size + 1 + 1]? = some c := by
  refine ⟨below_over (below_over (below_new _ _) (below_new _ _)) (below_new _ _), by rw [alloc_size', alloc_size', alloc_size'], ?_, ?_, ?_⟩
  · rw [heap_alloc_old _ _ (by rw [alloc_size', alloc_size']; omega), heap_alloc_old _ _ (by rw [alloc_size']; omega)]
    exact heap_alloc_new _ _
  · rw [heap_alloc_old _ _ (by rw [alloc_size', alloc_size']; omega), ← alloc_size' w a]
    exact heap_alloc_new _ _
  · rw [← alloc_size' w a, ← alloc_size' (w.alloc a) b]
    exact heap_alloc_new _ _
theorem ne_own {α : Type} {d : Kd α} {e base : Nat} {ok : Nat → Prop} {W : World} {v : Value} {xs : List α} (h : d.R e W base ok v xs) {g t : Nat} {cs : Array Value} (hb : W.heap[g]? = some (.cells cs t (0, 0))) (ht : e ≠ t) : some g ≠ v.ownBlock := Kd.R_ne h hb ht
theorem LS.add {w0 W W4 : World} {gl gb : Nat} {T : ByteArray} {rest : Bs} {D : List Dat} {vd v1 : Value} (h : LS w0 gl gb T W rest D vd) (x : Dat) (hx : ∀ p ∈ x.blks, W.heap[p.1]? = some p.2) (hnew : x.isSec = true → (w0.heap.size ≤ x.b ∧ x.b < W.heap.size) ∧ (w0.heap.size ≤ x.be ∧ x.be < W.heap.size))
    (hap : x.isSec = true → ∀ y ∈ D, y.isSec = true → y.b ≠ x.b ∧ y.be ≠ x.be) (HR1 : kPtr.R 106 W4 w0.heap.size (fun _ => True) v1 (D.map (·.p) ++ [x.p])) (HB : Below w0.heap.size w0 W4) (hg : W.grownBy W4 vd.ownBlock) :
    LS w0 gl gb T (W4.setCell ⟨gl, 1, none⟩ v1) rest (D ++ [x]) v1 := by
  obtain ⟨r, wd, last, hB, hr⟩ := h.lx.buf
  have hl4 := blk_grown h.lx.lex hg (ne_own h.row h.lx.lex (by decide))
  have hb4 := blk_grown hB.blk hg (ne_own h.row hB.blk (by decide))
  have hdat : ∀ (k : Nat) (c : Array Value) (t : Nat), W.heap[k]? = some (Obj.cells c t (0, 0)) → (t = 109 ∨ t = 79 ∨ t = 80 ∨ t = 64) → (W4.setCell ⟨gl, 1, none⟩ v1).heap[k]? = W.heap[k]? := by
    intro k c t hk ht
    have h4 := blk_grown hk hg (ne_own h.row hk (by rcases ht with rfl | rfl | rfl | rfl <;> decide))
    have hne : k ≠ gl := blk_ne h4 hl4 (by rcases ht with rfl | rfl | rfl | rfl <;> decide)
    rw [Below.heap_setCell W4 ⟨gl, 1, none⟩ v1 k hne, h4, hk]
  refine ⟨⟨below_set HB h.lx.hgl, h.lx.hgl, h.lx.hgb, h.lx.ne, ?_, ⟨r, wd, last, ⟨?_, hB.le, hB.lew, hB.big⟩, hr⟩, h.lx.tabs, h.lx.asc⟩, ?_, ?_, ?_, ?_⟩
  · rw [blk_set hl4]
    rfl
  · exact (Below.heap_setCell W4 ⟨gl, 1, none⟩ v1 gb (fun e => h.lx.ne e.symm)).trans hb4
  · rw [List.map_append]
    exact Kd.R_set HR1 hl4 (fun q hq => by rw [kE q hq]; decide) 1 v1
  · intro y hy p hp
    rcases List.mem_append.1 hy with hy | hy
    · exact DataAt.move h.data hdat y hy p hp
    · rw [List.mem_singleton.1 hy] at hp
      have h1 := hx p hp
      obtain ⟨c, t, h2, h3⟩ := x.typed p hp
      rw [hdat p.1 c t (by rw [h1, h2]) h3]
      exact h1
  · have hsz : W.heap.size ≤ (W4.setCell ⟨gl, 1, none⟩ v1).heap.size := by
      have : (W4.setCell ⟨gl, 1, none⟩ v1).heap.size = W4.heap.size := by simp [World.setCell]
      rw [this]
      exact hg.size
    intro y hy hs
    rcases List.mem_append.1 hy with hy | hy
    · exact new_le (h.new y hy hs) hsz
    · rw [List.mem_singleton.1 hy] at hs ⊢
      exact new_le (hnew hs) hsz
  · rw [List.filter_append, List.pairwise_append]
    refine ⟨h.apart, ?_, ?_⟩
    · by_cases hs : x.isSec = true
      · simp [List.filter_cons, hs]
      · simp [List.filter_cons, hs]
    · intro y hy z hz
      have hz1 := List.mem_filter.1 hz
      obtain rfl : z = x := List.mem_singleton.1 hz1.1
      have hy1 := List.mem_filter.1 hy
      exact hap (by simpa using hz1.2) y hy1.1 (by simpa using hy1.2)
theorem Box.add {w0 W W4 : World} {gl gb : Nat} {T : ByteArray} {rest : Bs} {D : List Dat} {vd v1 : Value} (h : LS w0 gl gb T W rest D vd) (hg : W.grownBy W4 vd.ownBlock) {b : Nat} {v : Value} {t : TypeId} (hb : Box W b v t) (h1 : 106 ≠ t) (h2 : t ≠ 105) : Box (W4.setCell ⟨gl, 1, none⟩ v1) b v t := by
  have hl4 := blk_grown h.lx.lex hg (ne_own h.row h.lx.lex (by decide))
  have hb4 := blk_grown hb hg (ne_own h.row hb h1)
  exact (Below.heap_setCell W4 ⟨gl, 1, none⟩ v1 b (blk_ne hb4 hl4 h2)).trans hb4
set_option maxHeartbeats 40000000 in
set_option maxRecDepth 100000 in
theorem suffix_go {w0 W : World} {gl gb : Nat} {T : ByteArray} {D : List Dat} {vd : Value} (b1 b2 : Nat) (s rest : Bs) (h : LS w0 gl gb T W rest D vd) (k1 : Box W b1 (pt gl) 100) (k2 : Box W b2 (.string (B s)) 9)
    (h13 : (13 : UInt8) ∉ eolL rest) (ha : ∀ c ∈ eolL rest, c.toNat < 128) (hl : (eolL rest).length ≤ 4611686018427387000) (ht : Lib.trimSpace (eolL rest) = []) (hD : D.length < 1000000000) :
    Calls Tryd.prog 100 #[pt b1, pt b2] W fun e w' => ∃ fv vd' p b be, e = ret fv ∧ LS w0 gl gb T w' (eolR rest) (D ++ [⟨true, s, [], [], p, b, be⟩]) vd' ∧ StepIs w0.heap.size w' gl (.secOpt s) fv := by
  have H := Aside0.mk h
  have hc1 := k1.cell
  have K1 := Aside0.mk k1
  have K2 := Aside0.mk k2
  have H13 := Aside0.mk h13
  have HA := Aside0.mk ha
  have HL := Aside0.mk hl
  have HT := Aside0.mk ht
  have HD := Aside0.mk hD
  have hnn : ∀ (w : World), (binOp .neq 61 .nilIface .nilIface).run Tryd.prog w = .ok (.bool false) w := fun _ => rfl
  clear h k1 k2 h13 ha hl ht hD
  unfold pt at hc1 ⊢
  go_enter Tryd.func100, Tryd.ntmps100
  go_upto_region 7 with (first
      | (go_at_call 95; refine (to_eol rest H.out.lx H13.out HL.out).mono ?_; rintro e w1 ⟨v1, rfl, hs, hx, ht⟩; have HS1 := Aside0.mk hs; have H1 := Aside0.mk (H.out.on ht hx); have K11 := Aside0.mk (H.out.box ht K1.out (by decide)); have K21 := Aside0.mk (H.out.box ht K2.out (by decide)); clear hs hx ht)
      | (go_at_call 101; refine (trimmed_nil w1 W.heap.size v1 (eolL rest) HS1.out (Nat.le_trans HL.out (by decide)) HA.out H1.out.lx.tabW.bsp).mono ?_; rintro e w2 ⟨⟨A, c, rfl⟩, hw⟩; subst hw; rw [HT.out]))
  obtain ⟨Av, cv, hvd⟩ : ∃ A c, vd = .slice A D.length c := by
    obtain ⟨A, c, h⟩ := Kd.R_slice H1.out.row
    rw [List.length_map] at h
    exact ⟨A, c, h⟩
  subst hvd
  have g1 := K11.out.cell
  have g2 := K21.out.cell
  have g3 := H1.out.lx.c1
  unfold pt at g1
  refine Go.Last.wp_region_x (S := fun w' => w'.cell? ⟨b1, 0, none⟩ = some (.pointer (some ⟨gl, 0, none⟩)) ∧ w'.cell? ⟨b2, 0, none⟩ = some (.string (B s)) ∧ w'.cell? ⟨gl, 1, none⟩ = some (.slice Av D.length cv)) (n := 15) (by kernel_rfl) ?_
  have HS : (fun w' => w'.cell? ⟨b1, 0, none⟩ = some (.pointer (some ⟨gl, 0, none⟩)) ∧ w'.cell? ⟨b2, 0, none⟩ = some (.string (B s)) ∧ w'.cell? ⟨gl, 1, none⟩ = some (.slice Av D.length cv)) w2.drew := ⟨g1, g2, g3⟩
  have H2 := Aside0.mk (show LS w0 gl gb T w2.drew (eolR rest) D (.slice Av D.length cv) from H1.out.more (below_drew (Below.refl _ _)))
  have K12 := Aside0.mk (show Box w2.drew b1 (pt gl) 100 from K11.out)
  have K22 := Aside0.mk (show Box w2.drew b2 (.string (B s)) 9 from K21.out)
  change Go.Last.wpAnyX _ _ _ _ _ _ _ _ _ w2.drew
  clear g1 g2 g3 hc1 H1 K11 K21 H K1 K2 HS1 H13 HA HL HT
  generalize w2.drew = wd at *
  show Go.Last.wpAnyX _ _ _ _ _ _ 16 _ _ _
  refine Go.Last.wpAnyX_at 16 rfl (by kernel_rfl) (by kernel_rfl) (by kernel_rfl) (by kernel_rfl) (fun _ _ _ h => h) (v := ?_) (Or.inl ⟨by rfl, ?_⟩) (by assumption) ?_
  rotate_left
  · intro w hSw
    (try dsimp only at hSw)
    go_split_ands
    go_simp
    first | done | with_reducible rfl
  (try simp only [Nat.reduceSub, Nat.reduceAdd, Act.put, List.setIfInBounds_toArray, List.set_cons_zero, List.set_cons_succ])
  refine Go.Last.wpAnyX_at 16 rfl (by kernel_rfl) (by kernel_rfl) (by kernel_rfl) (by kernel_rfl) (fun _ _ _ h => h) (v := ?_) (Or.inl ⟨by rfl, ?_⟩) (by assumption) ?_
  rotate_left
  · intro w hSw
    (try dsimp only at hSw)
    go_split_ands
    go_simp
    first | done | with_reducible rfl
  (try simp only [Nat.reduceSub, Nat.reduceAdd, Act.put, List.setIfInBounds_toArray, List.set_cons_zero, List.set_cons_succ])
  refine Go.Last.wpAnyX_at 16 rfl (by kernel_rfl) (by kernel_rfl) (by kernel_rfl) (by kernel_rfl) (fun _ _ _ h => h) (v := ?_) (Or.inl ⟨by rfl, ?_⟩) (by assumption) ?_
  rotate_left
  · intro w hSw
    (try dsimp only at hSw)
    go_split_ands
    go_simp
    first | done | with_reducible rfl
  (try simp only [Nat.reduceSub, Nat.reduceAdd, Act.put, List.setIfInBounds_toArray, List.set_cons_zero, List.set_cons_succ])
  refine Go.Last.wpAnyX_at 16 rfl (by kernel_rfl) (by kernel_rfl) (by kernel_rfl) (by kernel_rfl) (fun _ _ _ h => h) (v := ?_) (Or.inl ⟨by rfl, ?_⟩) (by assumption) ?_
  rotate_left
  · intro w hSw
    (try dsimp only at hSw)
    go_split_ands
    go_simp
    first | done | with_reducible rfl
  (try simp only [Nat.reduceSub, Nat.reduceAdd, Act.put, List.setIfInBounds_toArray, List.set_cons_zero, List.set_cons_succ])
  refine Go.Last.wpAnyX_at 16 rfl (by kernel_rfl) (by kernel_rfl) (by kernel_rfl) (by kernel_rfl) (fun _ _ _ h => h) (v := ?_) (Or.inl ⟨by rfl, ?_⟩) (by assumption) ?_
  rotate_left
  · intro w hSw
    (try dsimp only at hSw)
    go_split_ands
    go_simp
    first | done | with_reducible rfl
  (try simp only [Nat.reduceSub, Nat.reduceAdd, Act.put, List.setIfInBounds_toArray, List.set_cons_zero, List.set_cons_succ])
  refine Go.Last.wpAnyX_at 16 rfl (by kernel_rfl) (by kernel_rfl) (by kernel_rfl) (by kernel_rfl) (fun _ _ _ h => h) (v := ?_) (Or.inl ⟨by rfl, ?_⟩) (by assumption) ?_
  rotate_left
  · intro w hSw
    (try dsimp only at hSw)
    go_split_ands
    go_simp
    first | done | with_reducible rfl
  (try simp only [Nat.reduceSub, Nat.reduceAdd, Act.put, List.setIfInBounds_toArray, List.set_cons_zero, List.set_cons_succ])
  refine Go.Last.wpAnyX_one (i := 6) (o := { dst := some 28, op := Op.buildSlice 77 0 #[], type := 77, pos := "deserialize.go:174", after := #[], guard := none }) (by kernel_rfl) rfl ?_
  intro K1 hK1
  go_simp
  have HSa : (fun w' => w'.cell? ⟨b1, 0, none⟩ = some (.pointer (some ⟨gl, 0, none⟩)) ∧ w'.cell? ⟨b2, 0, none⟩ = some (.string (B s)) ∧ w'.cell? ⟨gl, 1, none⟩ = some (.slice Av D.length cv)) (wd.alloc (Obj.cells #[] 80)) := ⟨keepcell (below_new _ _) HS.1, keepcell (below_new _ _) HS.2.1, keepcell (below_new _ _) HS.2.2⟩
  refine hK1 _ _ (fun _ => HSa) ?_
  clear hK1 K1
  (try simp only [Act.put, List.setIfInBounds_toArray, List.set_cons_zero, List.set_cons_succ])
  refine Go.Last.wpAnyX_at 16 rfl (by kernel_rfl) (by kernel_rfl) (by kernel_rfl) (by kernel_rfl) (fun _ _ _ h => h) (v := ?_) (Or.inl ⟨by rfl, ?_⟩) (by assumption) ?_
  rotate_left
  · intro w hSw
    (try dsimp only at hSw)
    go_split_ands
    go_simp
    first | done | with_reducible rfl
  (try simp only [Nat.reduceSub, Nat.reduceAdd, Act.put, List.setIfInBounds_toArray, List.set_cons_zero, List.set_cons_succ])
  refine Go.Last.wpAnyX_one (i := 8) (o := { dst := some 30, op := Op.box 79 (Operand.tmp 29), type := 76, pos := "deserialize.go:174", after := #[{ on := 7, ground := Ground.data }], guard := none }) (by kernel_rfl) rfl ?_
  intro K2 hK2
  go_simp
  have HSb : (fun w' => w'.cell? ⟨b1, 0, none⟩ = some (.pointer (some ⟨gl, 0, none⟩)) ∧ w'.cell? ⟨b2, 0, none⟩ = some (.string (B s)) ∧ w'.cell? ⟨gl, 1, none⟩ = some (.slice Av D.length cv)) ((wd.alloc (Obj.cells #[] 80)).alloc (Obj.cells #[.string (B s), .slice (some ⟨wd.heap.size, 0, none⟩) 0 0] 79)) := ⟨keepcell (below_new _ _) HSa.1, keepcell (below_new _ _) HSa.2.1, keepcell (below_new _ _) HSa.2.2⟩
  refine hK2 _ _ (fun _ => HSb) ?_
  clear hK2 K2
  (try simp only [Act.put, List.setIfInBounds_toArray, List.set_cons_zero, List.set_cons_succ])
  refine Go.Last.wpAnyX_at 16 rfl (by kernel_rfl) (by kernel_rfl) (by kernel_rfl) (by kernel_rfl) (fun _ _ _ h => h) (v := ?_) (Or.inl ⟨by rfl, ?_⟩) (by assumption) ?_
  rotate_left
  · intro w hSw
    (try dsimp only at hSw)
    go_split_ands
    go_simp
    first | done | with_reducible rfl
  (try simp only [Nat.reduceSub, Nat.reduceAdd, Act.put, List.setIfInBounds_toArray, List.set_cons_zero, List.set_cons_succ])
  refine Go.Last.wpAnyX_one (i := 10) (o := { dst := some 32, op := Op.box 109 (Operand.tmp 31), type := 106, pos := "deserialize.go:174", after := #[{ on := 9, ground := Ground.data }], guard := none }) (by kernel_rfl) rfl ?_
  intro K3 hK3
  go_simp
  have HSc : (fun w' => w'.cell? ⟨b1, 0, none⟩ = some (.pointer (some ⟨gl, 0, none⟩)) ∧ w'.cell? ⟨b2, 0, none⟩ = some (.string (B s)) ∧ w'.cell? ⟨gl, 1, none⟩ = some (.slice Av D.length cv)) (((wd.alloc (Obj.cells #[] 80)).alloc (Obj.cells #[.string (B s), .slice (some ⟨wd.heap.size, 0, none⟩) 0 0] 79)).alloc (Obj.cells #[.int .i64 0, .pointer none, .pointer (some ⟨wd.heap.size + 1, 0, none⟩)] 109)) := ⟨keepcell (below_new _ _) HSb.1, keepcell (below_new _ _) HSb.2.1, keepcell (below_new _ _) HSb.2.2⟩
  refine hK3 _ _ (fun _ => HSc) ?_
  clear hK3 K3 HSa HSb HS
  (try simp only [Act.put, List.setIfInBounds_toArray, List.set_cons_zero, List.set_cons_succ])
  have hal := alloc3_facts wd (Obj.cells #[] 80) (Obj.cells #[.string (B s), .slice (some ⟨wd.heap.size, 0, none⟩) 0 0] 79) (Obj.cells #[.int .i64 0, .pointer none, .pointer (some ⟨wd.heap.size + 1, 0, none⟩)] 109)
  have HAL := Aside0.mk hal
  clear hal
  generalize (((wd.alloc (Obj.cells #[] 80)).alloc (Obj.cells #[.string (B s), .slice (some ⟨wd.heap.size, 0, none⟩) 0 0] 79)).alloc (Obj.cells #[.int .i64 0, .pointer none, .pointer (some ⟨wd.heap.size + 1, 0, none⟩)] 109)) = w3 at HSc HAL ⊢
  have HAP := Aside0.mk (fun (y : Dat) (hy : y ∈ D) (hs : y.isSec = true) => (show y.b ≠ wd.heap.size + 1 ∧ y.be ≠ wd.heap.size by have := H2.out.new y hy hs; omega))
  have HBb := Aside0.mk (show (w0.heap.size ≤ wd.heap.size + 1 ∧ wd.heap.size + 1 < w3.heap.size) ∧ (w0.heap.size ≤ wd.heap.size ∧ wd.heap.size < w3.heap.size) by have := HAL.out.2.1; have := H2.out.lx.below.size; omega)
  have H3 := Aside0.mk (H2.out.more HAL.out.1)
  have K13 := Aside0.mk (K12.out.more HAL.out.1)
  have K23 := Aside0.mk (K22.out.more HAL.out.1)
  have HAL2 := Aside0.mk HAL.out.2.2
  clear HAL H2 K12 K22
  generalize wd.heap.size + 1 + 1 = p at *
  generalize wd.heap.size + 1 = b at *
  generalize wd.heap.size = be at *
  have HXB := Aside0.mk (show ∀ q ∈ (Dat.mk true s [] [] p b be).blks, w3.heap[q.1]? = some q.2 by
    intro q hq
    unfold Dat.blks at hq
    simp only [if_true, List.mem_cons, List.mem_nil_iff, or_false] at hq
    rcases hq with rfl | rfl | rfl
    · exact HAL2.out.2.2
    · exact HAL2.out.2.1
    · exact HAL2.out.1)
  clear HAL2
  refine Go.Last.wpAnyX_one (i := 11) (o := { dst := some 33, op := Op.buildSlice 103 1 #[(0, Operand.tmp 32)], type := 103, pos := "deserialize.go:174", after := #[{ on := 10, ground := Ground.data }], guard := none }) (by kernel_rfl) rfl ?_
  intro K4 hK4
  go_simp
  have HSd : (fun w' => w'.cell? ⟨b1, 0, none⟩ = some (.pointer (some ⟨gl, 0, none⟩)) ∧ w'.cell? ⟨b2, 0, none⟩ = some (.string (B s)) ∧ w'.cell? ⟨gl, 1, none⟩ = some (.slice Av D.length cv)) (w3.alloc (Obj.cells #[.pointer (some ⟨p, 0, none⟩)] 106)) := ⟨keepcell (below_new _ _) HSc.1, keepcell (below_new _ _) HSc.2.1, keepcell (below_new _ _) HSc.2.2⟩
  refine hK4 _ _ (fun _ => HSd) ?_
  clear hK4 K4
  (try simp only [Act.put, List.setIfInBounds_toArray, List.set_cons_zero, List.set_cons_succ])
  refine Go.Last.wpAnyX_one (i := 12) (o := { dst := some 34, op := Op.call { callee := Callee.builtin Builtin.append, args := #[Operand.tmp 26, Operand.tmp 33], argTypes := #[103, 103] }, type := 103, pos := "deserialize.go:174", after := #[{ on := 4, ground := Ground.data }, { on := 11, ground := Ground.data }], guard := none }) (by kernel_rfl) rfl ?_
  intro K5 hK5
  refine Kd.R_append_step (w0 := w0) kPtr w0.heap.size (by rfl) (.tmp 26) (.tmp 33) 103 106 (.pointer none) 8 rfl (by kernel_rfl) (by kernel_rfl) (by decide) (by decide) (by decide) (Value.slice Av D.length cv) (D.map (·.p)) p [.pointer (some ⟨p, 0, none⟩)] (fun _ => True) (fun _ => False) rfl rfl rfl (fun _ h => h.elim) (fun _ _ => trivial) H3.out.row H3.out.lx.below H3.out.lx.below.size (by rw [List.length_map]; have := HD.out; omega) ?_
  intro v2 w4 HR1 HB1 hg hat
  obtain ⟨A2, c2, hv2⟩ : ∃ A c, v2 = .slice A (D.length + 1) c := by
    obtain ⟨A, c, h⟩ := Kd.R_slice HR1
    rw [List.length_append, List.length_map] at h
    exact ⟨A, c, h⟩
  subst hv2
  have HSe : (fun w' => w'.cell? ⟨b1, 0, none⟩ = some (.pointer (some ⟨gl, 0, none⟩)) ∧ w'.cell? ⟨b2, 0, none⟩ = some (.string (B s)) ∧ w'.cell? ⟨gl, 1, none⟩ = some (.slice Av D.length cv)) w4 := ⟨cell_grown hg HSc.1 (ne_own H3.out.row K13.out (by decide)), cell_grown hg HSc.2.1 (ne_own H3.out.row K23.out (by decide)), cell_grown hg HSc.2.2 (ne_own H3.out.row H3.out.lx.lex (by decide))⟩
  have HF := Aside0.mk (blk_frozen (blk_grown H3.out.lx.lex hg (ne_own H3.out.row H3.out.lx.lex (by decide))) 1)
  have HR := Aside0.mk HR1
  have HBx := Aside0.mk HB1
  have HG := Aside0.mk hg
  refine hK5 _ _ (fun _ => HSe) ?_
  clear hK5 K5 HSc HSd HR1 HB1 hg hat
  (try simp only [Act.put, List.setIfInBounds_toArray, List.set_cons_zero, List.set_cons_succ])
  refine Go.Last.wpAnyX_one (i := 13) (o := { dst := some 35, op := Op.nilCheck (Operand.tmp 22), type := 0, pos := "deserialize.go:174", after := #[{ on := 0, ground := Ground.data }, { on := 0, ground := Ground.phase }, { on := 1, ground := Ground.phase }, { on := 2, ground := Ground.phase }, { on := 3, ground := Ground.phase }, { on := 4, ground := Ground.phase }, { on := 5, ground := Ground.phase }, { on := 6, ground := Ground.phase }, { on := 7, ground := Ground.phase }, { on := 8, ground := Ground.phase }, { on := 9, ground := Ground.phase }, { on := 10, ground := Ground.phase }, { on := 11, ground := Ground.phase }, { on := 12, ground := Ground.phase }], guard := none }) (by kernel_rfl) rfl ?_
  intro K7 hK7
  go_simp
  refine hK7 _ _ (fun _ => HSe) ?_
  clear hK7 K7
  (try simp only [Act.put, List.setIfInBounds_toArray, List.set_cons_zero, List.set_cons_succ])
  refine Go.Last.wpAnyX_one (i := 14) (o := { dst := some 36, op := Op.fieldAddr 105 (Operand.tmp 35) 1, type := 0, pos := "deserialize.go:174", after := #[{ on := 13, ground := Ground.data }, { on := 0, ground := Ground.phase }, { on := 1, ground := Ground.phase }, { on := 2, ground := Ground.phase }, { on := 3, ground := Ground.phase }, { on := 4, ground := Ground.phase }, { on := 5, ground := Ground.phase }, { on := 6, ground := Ground.phase }, { on := 7, ground := Ground.phase }, { on := 8, ground := Ground.phase }, { on := 9, ground := Ground.phase }, { on := 10, ground := Ground.phase }, { on := 11, ground := Ground.phase }, { on := 12, ground := Ground.phase }], guard := none }) (by kernel_rfl) rfl ?_
  intro K8 hK8
  go_simp
  refine hK8 _ _ (fun _ => HSe) ?_
  clear hK8 K8
  (try simp only [Act.put, List.setIfInBounds_toArray, List.set_cons_zero, List.set_cons_succ])
  refine Go.Last.wpAnyX_one (i := 15) (o := { dst := none, op := Op.store 103 (Operand.tmp 36) (Operand.tmp 34), type := 0, pos := "deserialize.go:174", after := #[{ on := 14, ground := Ground.data }, { on := 12, ground := Ground.data }, { on := 12, ground := Ground.chain }, { on := 0, ground := Ground.phase }, { on := 1, ground := Ground.phase }, { on := 2, ground := Ground.phase }, { on := 3, ground := Ground.phase }, { on := 4, ground := Ground.phase }, { on := 5, ground := Ground.phase }, { on := 6, ground := Ground.phase }, { on := 7, ground := Ground.phase }, { on := 8, ground := Ground.phase }, { on := 9, ground := Ground.phase }, { on := 10, ground := Ground.phase }, { on := 11, ground := Ground.phase }, { on := 12, ground := Ground.phase }], guard := none }) (by kernel_rfl) rfl ?_
  intro K6 hK6
  have hcB := HSe.2.2
  have hfB := HF.out
  go_simp
  refine hK6 _ _ (fun e => absurd rfl e) ?_
  refine Go.Last.wpAnyX_done (by kernel_rfl) ?_ _
  have H5 := Aside0.mk (H3.out.add ⟨true, s, [], [], p, b, be⟩ HXB.out (fun _ => HBb.out) (fun _ => HAP.out) HR.out HBx.out HG.out)
  have K15 := Aside0.mk (Box.add (v1 := .slice A2 (D.length + 1) c2) H3.out HG.out K13.out (by decide) (by decide))
  have K25 := Aside0.mk (Box.add (v1 := .slice A2 (D.length + 1) c2) H3.out HG.out K23.out (by decide) (by decide))
  clear hK6 K6 HSe hcB hfB HF HR HBx HG H3 K13 K23 HXB HAP
  generalize w4.setCell ⟨gl, 1, none⟩ (.slice A2 (D.length + 1) c2) = w5 at H5 K15 K25 ⊢
  have hk51 := K15.out.cell
  have hk52 := K25.out.cell
  unfold pt at hk51
  go_wp2_with (go_at_call 102; refine (secopt_mk gl s _).mono ?_; rintro e w6 ⟨fv, rfl, hso, hb⟩; have H6 := Aside0.mk (H5.out.more hb); have HO := Aside0.mk hso; clear hso hb)
  go_ret2
  exact ⟨_, _, _, _, _, rfl, H6.out, HO.out⟩
end Go.Proofs.YtocdnceckljnaaaDoor.U
namespace Go.Proofs.YtocdnceckljnaaaDoor.U
open Go.RowKit Go.Proofs.YtocdnceckljnaaaDoorW.PrintWords Go.Proofs.YtocdnceckljnaaaDoorW.PrintLast Go.Proofs.YtocdnceckljnaaaDoorW.PrintMore
set_option linter.unusedVariables false
set_option linter.unusedSimpArgs false
theorem alloc2_facts (w : World) (a b : Obj) : Below w.heap.size w ((w.alloc a).alloc b) ∧ ((w.alloc a).alloc b).heap[w.heap.size]? = some a ∧ ((w.alloc a).alloc b).heap[w.heap.size + 1]? = some b := by
  refine ⟨below_over (below_new _ _) (below_new _ _), ?_, ?_⟩
  · rw [heap_alloc_old _ _ (by rw [alloc_size']; omega)]
    exact heap_alloc_new _ _
  · rw [← alloc_size' w a]
    exact heap_alloc_new _ _
theorem cell_new' (w : World) (v : Value) (t : TypeId) (n : Nat) (hn : n = w.heap.size) : (w.alloc (.cells #[v] t)).cell? ⟨n, 0, none⟩ = some v := by
  subst hn
  exact cell_new w v t
theorem LS.setBox {w0 W : World} {gl gb : Nat} {T : ByteArray} {rest : Bs} {D : List Dat} {vd : Value} (h : LS w0 gl gb T W rest D vd) {b : Nat} {v : Value} (hb : Box W b v 9) (h0 : w0.heap.size ≤ b) (u : Value) : LS w0 gl gb T (W.setCell ⟨b, 0, none⟩ u) rest D vd := by
  obtain ⟨r, wd, last, hB, hr⟩ := h.lx.buf
  have far : ∀ (k : Nat) (o : Obj), W.heap[k]? = some o → k ≠ b → (W.setCell ⟨b, 0, none⟩ u).heap[k]? = some o := fun k o hk hne => (Below.heap_setCell W ⟨b, 0, none⟩ u k hne).trans hk
  have hsz : (W.setCell ⟨b, 0, none⟩ u).heap.size = W.heap.size := by simp [World.setCell]
  refine ⟨⟨below_set h.lx.below h0, h.lx.hgl, h.lx.hgb, h.lx.ne, far _ _ h.lx.lex (blk_ne h.lx.lex hb (by decide)), ⟨r, wd, last, ⟨far _ _ hB.blk (blk_ne hB.blk hb (by decide)), hB.le, hB.lew, hB.big⟩, hr⟩, h.lx.tabs, h.lx.asc⟩, ?_, ?_, ?_, h.apart⟩
  · exact Kd.R_set h.row hb (fun q hq => by rw [kE q hq]; decide) 0 u
  · exact DataAt.move h.data (fun k c t hk ht => (far k _ hk (blk_ne hk hb (by rcases ht with rfl | rfl | rfl | rfl <;> decide))).trans hk.symm)
  · intro x hx hs
    rw [hsz]
    exact h.new x hx hs
theorem suffix_str (l p : Bs) (W : World) (hl : l.length ≤ 4611686018427387000) : Calls Tryd.prog 134 #[.string (B l), .string (B p)] W fun e w' => e = .returned (.bool (Lib.hasSuffix l p)) ∧ w' = W :=
  Tryd.strings_HasSuffix (B l) (B p) W (by rw [B_size]; omega)
theorem has10_no (l : Bs) (h : (10 : UInt8) ∉ l) : Lib.hasSuffix l [10] = false := by
  cases hh : Lib.hasSuffix l [10] with
  | false => rfl
  | true =>
    obtain ⟨t, ht⟩ := (suffix_iff _ _).1 hh
    exact absurd (by rw [ht]; simp) h
theorem B_nil_append (l : Bs) : (⟨#[]⟩ : ByteArray) ++ B l = B l := by
  apply ByteArray.ext
  simp [ByteArray.data_append, B]
set_option maxHeartbeats 40000000 in
set_option maxRecDepth 100000 in
theorem optval_go {w0 W : World} {gl gb : Nat} {T : ByteArray} {D : List Dat} {vd : Value} (b1 b2 b3 b4 : Nat) (s nm rest : Bs) (h : LS w0 gl gb T W rest D vd) (k1 : Box W b1 (pt gl) 100) (k2 : Box W b2 (.string ⟨#[]⟩) 9) (k3 : Box W b3 (.string (B s)) 9) (k4 : Box W b4 (.string (B nm)) 9)
    (h0 : w0.heap.size ≤ b2) (h32 : b3 ≠ b2) (h42 : b4 ≠ b2) (h13 : (13 : UInt8) ∉ eolL rest) (ha : ∀ c ∈ eolL rest, c.toNat < 128) (hl : (eolL rest).length ≤ 4611686018427387000) (hs : Lib.hasSuffix (eolL rest) [92] = false) (hD : D.length < 1000000000) :
    Calls Tryd.prog 133 #[pt b1, pt b2, pt b3, pt b4] W fun e w' => ∃ fv vd' p b, e = ret fv ∧ LS w0 gl gb T w' (eolR rest) (D ++ [⟨false, s, nm, Lib.trimSpace (eolL rest), p, b, 0⟩]) vd' ∧ StepIs w0.heap.size w' gl (.secOpt s) fv := by
  have H := Aside0.mk h
  have hc1 := k1.cell
  have hc2 : True := trivial
  have K1 := Aside0.mk k1
  have K2 := Aside0.mk k2
  have K3 := Aside0.mk k3
  have K4 := Aside0.mk k4
  have H00 := Aside0.mk h0
  have H32 := Aside0.mk h32
  have H42 := Aside0.mk h42
  have H13 := Aside0.mk h13
  have HA := Aside0.mk ha
  have HL := Aside0.mk hl
  have HSF := Aside0.mk hs
  have HD := Aside0.mk hD
  have hnn : ∀ (w : World), (binOp .neq 61 .nilIface .nilIface).run Tryd.prog w = .ok (.bool false) w := fun _ => rfl
  have hcat := B_nil_append (eolL rest)
  clear h k1 k2 k3 k4 h0 h32 h42 h13 ha hl hs hD
  unfold pt at hc1 ⊢
  by_cases hT : (Lib.trimSpace (eolL rest)).length = 0
  · have q1 : (((Lib.trimSpace (eolL rest)).length : Int) != 0) = false := by rw [hT]; rfl
    have HT := Aside0.mk (List.eq_nil_of_length_eq_zero hT)
    generalize htv : Lib.trimSpace (eolL rest) = tv at *
    clear hT
    go_enter Tryd.func133, Tryd.ntmps133
    go_upto_region 14 with (first
      | (go_at_call 95; refine (to_eol rest H.out.lx H13.out HL.out).mono ?_; rintro e w1 ⟨v1, rfl, hs, hx, ht⟩; have HS1 := Aside0.mk hs; have H1 := Aside0.mk (H.out.on ht hx); have K11 := Aside0.mk (H.out.box ht K1.out (by decide)); have K21 := Aside0.mk (H.out.box ht K2.out (by decide)); have K31 := Aside0.mk (H.out.box ht K3.out (by decide)); have K41 := Aside0.mk (H.out.box ht K4.out (by decide)); have hk2 := K21.out.cell; clear hs hx ht)
      | (go_at_call 101; refine (trimmed_nil w1 W.heap.size v1 (eolL rest) HS1.out (Nat.le_trans HL.out (by decide)) HA.out H1.out.lx.tabW.bsp).mono ?_; rintro e w2 ⟨⟨A, c, rfl⟩, hw⟩; subst hw; rw [htv])
      | (go_at_call 134; refine (suffix_str [] [10] _ (by simp)).mono ?_; rintro e w3 ⟨rfl, hw⟩; subst hw)
      | (go_at_call 119; refine (trim_ascii [] _ (by simp) (by simp) H1.out.lx.tabW.ssp).mono ?_; rintro e w4 ⟨rfl, hb⟩; have H9 := Aside0.mk (H1.out.more hb); have K91 := Aside0.mk (K11.out.more hb); have K93 := Aside0.mk (K31.out.more hb); have K94 := Aside0.mk (K41.out.more hb); clear hb))
    rw [show Lib.trimSpace ([] : Bs) = tv from HT.out.symm ▸ rfl]
    clear hk2 HT htv hcat HS1 H1 K11 K21 K31 K41 H K1 K2 K3 K4
    obtain ⟨Av, cv, hvd⟩ : ∃ A c, vd = .slice A D.length c := by
      obtain ⟨A, c, h⟩ := Kd.R_slice H9.out.row
      rw [List.length_map] at h
      exact ⟨A, c, h⟩
    subst hvd
    have g1 := K91.out.cell
    have g2 := K93.out.cell
    have g4 := K94.out.cell
    have g3 := H9.out.lx.c1
    unfold pt at g1
    refine Go.Last.wp_region_x (S := fun w' => w'.cell? ⟨b1, 0, none⟩ = some (.pointer (some ⟨gl, 0, none⟩)) ∧ w'.cell? ⟨b3, 0, none⟩ = some (.string (B s)) ∧ w'.cell? ⟨b4, 0, none⟩ = some (.string (B nm)) ∧ w'.cell? ⟨gl, 1, none⟩ = some (.slice Av D.length cv)) (n := 16) (by kernel_rfl) ?_
    have HS : (fun w' => w'.cell? ⟨b1, 0, none⟩ = some (.pointer (some ⟨gl, 0, none⟩)) ∧ w'.cell? ⟨b3, 0, none⟩ = some (.string (B s)) ∧ w'.cell? ⟨b4, 0, none⟩ = some (.string (B nm)) ∧ w'.cell? ⟨gl, 1, none⟩ = some (.slice Av D.length cv)) w4.drew := ⟨g1, g2, g4, g3⟩
    have H2 := Aside0.mk (show LS w0 gl gb T w4.drew (eolR rest) D (.slice Av D.length cv) from H9.out.more (below_drew (Below.refl _ _)))
    have K12 := Aside0.mk (show Box w4.drew b1 (pt gl) 100 from K91.out)
    have K22 := Aside0.mk (show Box w4.drew b3 (.string (B s)) 9 from K93.out)
    have K42 := Aside0.mk (show Box w4.drew b4 (.string (B nm)) 9 from K94.out)
    change Go.Last.wpAnyX _ _ _ _ _ _ _ _ _ w4.drew
    clear g1 g2 g3 g4 hc1 hc2 H9 K91 K93 K94
    generalize w4.drew = wd at *
    show Go.Last.wpAnyX _ _ _ _ _ _ 17 _ _ _
    refine Go.Last.wpAnyX_at 17 rfl (by kernel_rfl) (by kernel_rfl) (by kernel_rfl) (by kernel_rfl) (fun _ _ _ h => h) (v := ?_) (Or.inl ⟨by rfl, ?_⟩) (by assumption) ?_
    rotate_left
    · intro w hSw
      (try dsimp only at hSw)
      go_split_ands
      go_simp
      first | done | with_reducible rfl
    (try simp only [Nat.reduceSub, Nat.reduceAdd, Act.put, List.setIfInBounds_toArray, List.set_cons_zero, List.set_cons_succ])
    refine Go.Last.wpAnyX_at 17 rfl (by kernel_rfl) (by kernel_rfl) (by kernel_rfl) (by kernel_rfl) (fun _ _ _ h => h) (v := ?_) (Or.inl ⟨by rfl, ?_⟩) (by assumption) ?_
    rotate_left
    · intro w hSw
      (try dsimp only at hSw)
      go_split_ands
      go_simp
      first | done | with_reducible rfl
    (try simp only [Nat.reduceSub, Nat.reduceAdd, Act.put, List.setIfInBounds_toArray, List.set_cons_zero, List.set_cons_succ])
    refine Go.Last.wpAnyX_at 17 rfl (by kernel_rfl) (by kernel_rfl) (by kernel_rfl) (by kernel_rfl) (fun _ _ _ h => h) (v := ?_) (Or.inl ⟨by rfl, ?_⟩) (by assumption) ?_
    rotate_left
    · intro w hSw
      (try dsimp only at hSw)
      go_split_ands
      go_simp
      first | done | with_reducible rfl
    (try simp only [Nat.reduceSub, Nat.reduceAdd, Act.put, List.setIfInBounds_toArray, List.set_cons_zero, List.set_cons_succ])
    refine Go.Last.wpAnyX_at 17 rfl (by kernel_rfl) (by kernel_rfl) (by kernel_rfl) (by kernel_rfl) (fun _ _ _ h => h) (v := ?_) (Or.inl ⟨by rfl, ?_⟩) (by assumption) ?_
    rotate_left
    · intro w hSw
      (try dsimp only at hSw)
      go_split_ands
      go_simp
      first | done | with_reducible rfl
    (try simp only [Nat.reduceSub, Nat.reduceAdd, Act.put, List.setIfInBounds_toArray, List.set_cons_zero, List.set_cons_succ])
    refine Go.Last.wpAnyX_at 17 rfl (by kernel_rfl) (by kernel_rfl) (by kernel_rfl) (by kernel_rfl) (fun _ _ _ h => h) (v := ?_) (Or.inl ⟨by rfl, ?_⟩) (by assumption) ?_
    rotate_left
    · intro w hSw
      (try dsimp only at hSw)
      go_split_ands
      go_simp
      first | done | with_reducible rfl
    (try simp only [Nat.reduceSub, Nat.reduceAdd, Act.put, List.setIfInBounds_toArray, List.set_cons_zero, List.set_cons_succ])
    refine Go.Last.wpAnyX_at 17 rfl (by kernel_rfl) (by kernel_rfl) (by kernel_rfl) (by kernel_rfl) (fun _ _ _ h => h) (v := ?_) (Or.inl ⟨by rfl, ?_⟩) (by assumption) ?_
    rotate_left
    · intro w hSw
      (try dsimp only at hSw)
      go_split_ands
      go_simp
      first | done | with_reducible rfl
    (try simp only [Nat.reduceSub, Nat.reduceAdd, Act.put, List.setIfInBounds_toArray, List.set_cons_zero, List.set_cons_succ])
    refine Go.Last.wpAnyX_at 17 rfl (by kernel_rfl) (by kernel_rfl) (by kernel_rfl) (by kernel_rfl) (fun _ _ _ h => h) (v := ?_) (Or.inl ⟨by rfl, ?_⟩) (by assumption) ?_
    rotate_left
    · intro w hSw
      (try dsimp only at hSw)
      go_split_ands
      go_simp
      first | done | with_reducible rfl
    (try simp only [Nat.reduceSub, Nat.reduceAdd, Act.put, List.setIfInBounds_toArray, List.set_cons_zero, List.set_cons_succ])
    refine Go.Last.wpAnyX_at 17 rfl (by kernel_rfl) (by kernel_rfl) (by kernel_rfl) (by kernel_rfl) (fun _ _ _ h => h) (v := ?_) (Or.inl ⟨by rfl, ?_⟩) (by assumption) ?_
    rotate_left
    · intro w hSw
      (try dsimp only at hSw)
      go_split_ands
      go_simp
      first | done | with_reducible rfl
    (try simp only [Nat.reduceSub, Nat.reduceAdd, Act.put, List.setIfInBounds_toArray, List.set_cons_zero, List.set_cons_succ])
    refine Go.Last.wpAnyX_at 17 rfl (by kernel_rfl) (by kernel_rfl) (by kernel_rfl) (by kernel_rfl) (fun _ _ _ h => h) (v := ?_) (Or.inl ⟨by rfl, ?_⟩) (by assumption) ?_
    rotate_left
    · intro w hSw
      (try dsimp only at hSw)
      go_split_ands
      go_simp
      first | done | with_reducible rfl
    (try simp only [Nat.reduceSub, Nat.reduceAdd, Act.put, List.setIfInBounds_toArray, List.set_cons_zero, List.set_cons_succ])
    refine Go.Last.wpAnyX_one (i := 9) (o := { dst := some 56, op := Op.box 64 (Operand.tmp 55), type := 55, pos := "deserialize.go:300", after := #[{ on := 8, ground := Ground.data }], guard := none }) (by kernel_rfl) rfl ?_
    intro K2 hK2
    go_simp
    have HSb : (fun w' => w'.cell? ⟨b1, 0, none⟩ = some (.pointer (some ⟨gl, 0, none⟩)) ∧ w'.cell? ⟨b3, 0, none⟩ = some (.string (B s)) ∧ w'.cell? ⟨b4, 0, none⟩ = some (.string (B nm)) ∧ w'.cell? ⟨gl, 1, none⟩ = some (.slice Av D.length cv)) (wd.alloc (Obj.cells #[.string (B s), .string (B nm), .string (B tv)] 64)) := ⟨keepcell (below_new _ _) HS.1, keepcell (below_new _ _) HS.2.1, keepcell (below_new _ _) HS.2.2.1, keepcell (below_new _ _) HS.2.2.2⟩
    refine hK2 _ _ (fun _ => HSb) ?_
    clear hK2 K2
    (try simp only [Act.put, List.setIfInBounds_toArray, List.set_cons_zero, List.set_cons_succ])
    refine Go.Last.wpAnyX_at 17 rfl (by kernel_rfl) (by kernel_rfl) (by kernel_rfl) (by kernel_rfl) (fun _ _ _ h => h) (v := ?_) (Or.inl ⟨by rfl, ?_⟩) (by assumption) ?_
    rotate_left
    · intro w hSw
      (try dsimp only at hSw)
      go_split_ands
      go_simp
      first | done | with_reducible rfl
    (try simp only [Nat.reduceSub, Nat.reduceAdd, Act.put, List.setIfInBounds_toArray, List.set_cons_zero, List.set_cons_succ])
    refine Go.Last.wpAnyX_one (i := 11) (o := { dst := some 58, op := Op.box 109 (Operand.tmp 57), type := 106, pos := "deserialize.go:300", after := #[{ on := 10, ground := Ground.data }], guard := none }) (by kernel_rfl) rfl ?_
    intro K3 hK3
    go_simp
    have HSc : (fun w' => w'.cell? ⟨b1, 0, none⟩ = some (.pointer (some ⟨gl, 0, none⟩)) ∧ w'.cell? ⟨b3, 0, none⟩ = some (.string (B s)) ∧ w'.cell? ⟨b4, 0, none⟩ = some (.string (B nm)) ∧ w'.cell? ⟨gl, 1, none⟩ = some (.slice Av D.length cv)) ((wd.alloc (Obj.cells #[.string (B s), .string (B nm), .string (B tv)] 64)).alloc (Obj.cells #[.int .i64 1, .pointer (some ⟨wd.heap.size, 0, none⟩), .pointer none] 109)) := ⟨keepcell (below_new _ _) HSb.1, keepcell (below_new _ _) HSb.2.1, keepcell (below_new _ _) HSb.2.2.1, keepcell (below_new _ _) HSb.2.2.2⟩
    refine hK3 _ _ (fun _ => HSc) ?_
    clear hK3 K3 HSb HS
    (try simp only [Act.put, List.setIfInBounds_toArray, List.set_cons_zero, List.set_cons_succ])
    have hal := alloc2_facts wd (Obj.cells #[.string (B s), .string (B nm), .string (B tv)] 64) (Obj.cells #[.int .i64 1, .pointer (some ⟨wd.heap.size, 0, none⟩), .pointer none] 109)
    have HAL := Aside0.mk hal
    clear hal
    generalize ((wd.alloc (Obj.cells #[.string (B s), .string (B nm), .string (B tv)] 64)).alloc (Obj.cells #[.int .i64 1, .pointer (some ⟨wd.heap.size, 0, none⟩), .pointer none] 109)) = w3 at HSc HAL ⊢
    have H3 := Aside0.mk (H2.out.more HAL.out.1)
    have K13 := Aside0.mk (K12.out.more HAL.out.1)
    have K23 := Aside0.mk (K22.out.more HAL.out.1)
    have K43 := Aside0.mk (K42.out.more HAL.out.1)
    have HAL2 := Aside0.mk HAL.out.2
    clear HAL H2 K12 K22 K42
    generalize wd.heap.size + 1 = p at *
    generalize wd.heap.size = b at *
    have HXB := Aside0.mk (show ∀ q ∈ (Dat.mk false s nm tv p b 0).blks, w3.heap[q.1]? = some q.2 by
      intro q hq
      unfold Dat.blks at hq
      simp only [Bool.false_eq_true, if_false, List.mem_cons, List.mem_nil_iff, or_false] at hq
      rcases hq with rfl | rfl
      · exact HAL2.out.2
      · exact HAL2.out.1)
    clear HAL2
    refine Go.Last.wpAnyX_one (i := 12) (o := { dst := some 59, op := Op.buildSlice 103 1 #[(0, Operand.tmp 58)], type := 103, pos := "deserialize.go:300", after := #[{ on := 11, ground := Ground.data }], guard := none }) (by kernel_rfl) rfl ?_
    intro K4 hK4
    go_simp
    have HSd : (fun w' => w'.cell? ⟨b1, 0, none⟩ = some (.pointer (some ⟨gl, 0, none⟩)) ∧ w'.cell? ⟨b3, 0, none⟩ = some (.string (B s)) ∧ w'.cell? ⟨b4, 0, none⟩ = some (.string (B nm)) ∧ w'.cell? ⟨gl, 1, none⟩ = some (.slice Av D.length cv)) (w3.alloc (Obj.cells #[.pointer (some ⟨p, 0, none⟩)] 106)) := ⟨keepcell (below_new _ _) HSc.1, keepcell (below_new _ _) HSc.2.1, keepcell (below_new _ _) HSc.2.2.1, keepcell (below_new _ _) HSc.2.2.2⟩
    refine hK4 _ _ (fun _ => HSd) ?_
    clear hK4 K4
    (try simp only [Act.put, List.setIfInBounds_toArray, List.set_cons_zero, List.set_cons_succ])
    refine Go.Last.wpAnyX_one (i := 13) (o := { dst := some 60, op := Op.call { callee := Callee.builtin Builtin.append, args := #[Operand.tmp 51, Operand.tmp 59], argTypes := #[103, 103] }, type := 103, pos := "deserialize.go:300", after := #[{ on := 4, ground := Ground.data }, { on := 12, ground := Ground.data }], guard := none }) (by kernel_rfl) rfl ?_
    intro K5 hK5
    refine Kd.R_append_step (w0 := w0) kPtr w0.heap.size (by rfl) (.tmp 51) (.tmp 59) 103 106 (.pointer none) 8 rfl (by kernel_rfl) (by kernel_rfl) (by decide) (by decide) (by decide) (Value.slice Av D.length cv) (D.map (·.p)) p [.pointer (some ⟨p, 0, none⟩)] (fun _ => True) (fun _ => False) rfl rfl rfl (fun _ h => h.elim) (fun _ _ => trivial) H3.out.row H3.out.lx.below H3.out.lx.below.size (by rw [List.length_map]; have := HD.out; omega) ?_
    intro v2 w4 HR1 HB1 hg hat
    obtain ⟨A2, c2, hv2⟩ : ∃ A c, v2 = .slice A (D.length + 1) c := by
      obtain ⟨A, c, h⟩ := Kd.R_slice HR1
      rw [List.length_append, List.length_map] at h
      exact ⟨A, c, h⟩
    subst hv2
    have HSe : (fun w' => w'.cell? ⟨b1, 0, none⟩ = some (.pointer (some ⟨gl, 0, none⟩)) ∧ w'.cell? ⟨b3, 0, none⟩ = some (.string (B s)) ∧ w'.cell? ⟨b4, 0, none⟩ = some (.string (B nm)) ∧ w'.cell? ⟨gl, 1, none⟩ = some (.slice Av D.length cv)) w4 := ⟨cell_grown hg HSc.1 (ne_own H3.out.row K13.out (by decide)), cell_grown hg HSc.2.1 (ne_own H3.out.row K23.out (by decide)), cell_grown hg HSc.2.2.1 (ne_own H3.out.row K43.out (by decide)), cell_grown hg HSc.2.2.2 (ne_own H3.out.row H3.out.lx.lex (by decide))⟩
    have HF := Aside0.mk (blk_frozen (blk_grown H3.out.lx.lex hg (ne_own H3.out.row H3.out.lx.lex (by decide))) 1)
    have HR := Aside0.mk HR1
    have HBx := Aside0.mk HB1
    have HG := Aside0.mk hg
    refine hK5 _ _ (fun _ => HSe) ?_
    clear hK5 K5 HSc HSd HR1 HB1 hg hat
    (try simp only [Act.put, List.setIfInBounds_toArray, List.set_cons_zero, List.set_cons_succ])
    refine Go.Last.wpAnyX_one (i := 14) (o := { dst := some 61, op := Op.nilCheck (Operand.tmp 47), type := 0, pos := "deserialize.go:300", after := #[{ on := 0, ground := Ground.data }, { on := 0, ground := Ground.phase }, { on := 1, ground := Ground.phase }, { on := 2, ground := Ground.phase }, { on := 3, ground := Ground.phase }, { on := 4, ground := Ground.phase }, { on := 5, ground := Ground.phase }, { on := 6, ground := Ground.phase }, { on := 7, ground := Ground.phase }, { on := 8, ground := Ground.phase }, { on := 9, ground := Ground.phase }, { on := 10, ground := Ground.phase }, { on := 11, ground := Ground.phase }, { on := 12, ground := Ground.phase }, { on := 13, ground := Ground.phase }], guard := none }) (by kernel_rfl) rfl ?_
    intro K7 hK7
    go_simp
    refine hK7 _ _ (fun _ => HSe) ?_
    clear hK7 K7
    (try simp only [Act.put, List.setIfInBounds_toArray, List.set_cons_zero, List.set_cons_succ])
    refine Go.Last.wpAnyX_one (i := 15) (o := { dst := some 62, op := Op.fieldAddr 105 (Operand.tmp 61) 1, type := 0, pos := "deserialize.go:300", after := #[{ on := 14, ground := Ground.data }, { on := 0, ground := Ground.phase }, { on := 1, ground := Ground.phase }, { on := 2, ground := Ground.phase }, { on := 3, ground := Ground.phase }, { on := 4, ground := Ground.phase }, { on := 5, ground := Ground.phase }, { on := 6, ground := Ground.phase }, { on := 7, ground := Ground.phase }, { on := 8, ground := Ground.phase }, { on := 9, ground := Ground.phase }, { on := 10, ground := Ground.phase }, { on := 11, ground := Ground.phase }, { on := 12, ground := Ground.phase }, { on := 13, ground := Ground.phase }], guard := none }) (by kernel_rfl) rfl ?_
    intro K8 hK8
    go_simp
    refine hK8 _ _ (fun _ => HSe) ?_
    clear hK8 K8
    (try simp only [Act.put, List.setIfInBounds_toArray, List.set_cons_zero, List.set_cons_succ])
    refine Go.Last.wpAnyX_one (i := 16) (o := { dst := none, op := Op.store 103 (Operand.tmp 62) (Operand.tmp 60), type := 0, pos := "deserialize.go:300", after := #[{ on := 15, ground := Ground.data }, { on := 13, ground := Ground.data }, { on := 13, ground := Ground.chain }, { on := 0, ground := Ground.phase }, { on := 1, ground := Ground.phase }, { on := 2, ground := Ground.phase }, { on := 3, ground := Ground.phase }, { on := 4, ground := Ground.phase }, { on := 5, ground := Ground.phase }, { on := 6, ground := Ground.phase }, { on := 7, ground := Ground.phase }, { on := 8, ground := Ground.phase }, { on := 9, ground := Ground.phase }, { on := 10, ground := Ground.phase }, { on := 11, ground := Ground.phase }, { on := 12, ground := Ground.phase }, { on := 13, ground := Ground.phase }], guard := none }) (by kernel_rfl) rfl ?_
    intro K6 hK6
    have hcB := HSe.2.2.2
    have hfB := HF.out
    go_simp
    refine hK6 _ _ (fun e => absurd rfl e) ?_
    refine Go.Last.wpAnyX_done (by kernel_rfl) ?_ _
    have H5 := Aside0.mk (H3.out.add ⟨false, s, nm, tv, p, b, 0⟩ HXB.out (fun h => by simp at h) (fun h => by simp at h) HR.out HBx.out HG.out)
    have K15 := Aside0.mk (Box.add (v1 := .slice A2 (D.length + 1) c2) H3.out HG.out K13.out (by decide) (by decide))
    have K25 := Aside0.mk (Box.add (v1 := .slice A2 (D.length + 1) c2) H3.out HG.out K23.out (by decide) (by decide))
    clear hK6 K6 HSe hcB hfB HF HR HBx HG H3 K13 K23 K43 HXB
    generalize w4.setCell ⟨gl, 1, none⟩ (.slice A2 (D.length + 1) c2) = w5 at H5 K15 K25 ⊢
    have hk51 := K15.out.cell
    have hk52 := K25.out.cell
    unfold pt at hk51
    go_wp2_with (go_at_call 102; refine (secopt_mk gl s _).mono ?_; rintro e w6 ⟨fv, rfl, hso, hb⟩; have H6 := Aside0.mk (H5.out.more hb); have HO := Aside0.mk hso; clear hso hb)
    go_ret2
    exact ⟨_, _, _, _, rfl, H6.out, HO.out⟩
  · have q1 : (((Lib.trimSpace (eolL rest)).length : Int) != 0) = true := by rw [bne_iff_ne]; omega
    have hz1 : ¬ 9223372036854775807 < (eolL rest).length := by have := HL.out; omega
    have hz2 : (B (eolL rest)).size = (eolL rest).length := B_size _
    generalize htv : Lib.trimSpace (eolL rest) = tv at *
    clear hT
    go_enter Tryd.func133, Tryd.ntmps133
    go_upto_region 14 with (first
      | (go_at_call 95; refine (to_eol rest H.out.lx H13.out HL.out).mono ?_; rintro e w1 ⟨v1, rfl, hs, hx, ht⟩; have HS1 := Aside0.mk hs; have H1 := Aside0.mk (H.out.on ht hx); have K11 := Aside0.mk (H.out.box ht K1.out (by decide)); have K21 := Aside0.mk (H.out.box ht K2.out (by decide)); have K31 := Aside0.mk (H.out.box ht K3.out (by decide)); have K41 := Aside0.mk (H.out.box ht K4.out (by decide)); have hk2 := K21.out.cell; have hcv := HS1.out.str; have hf2 := blk_frozen K21.out 0; have hb2 := Aside0.mk (blk_lt K2.out); clear hs hx ht)
      | (go_at_call 101; refine (trimmed_nil w1 W.heap.size v1 (eolL rest) HS1.out (Nat.le_trans HL.out (by decide)) HA.out H1.out.lx.tabW.bsp).mono ?_; rintro e w2 ⟨⟨A, c, rfl⟩, hw⟩; subst hw; rw [htv]; have hszw := Aside0.mk (show w2.heap.size = (w2.setCell ⟨b2, 0, none⟩ (.string (B (eolL rest)))).heap.size by simp [World.setCell]); have HSx := Aside0.mk (show Sl (w2.setCell ⟨b2, 0, none⟩ (.string (B (eolL rest)))) W.heap.size v1 (eolL rest) from HS1.out.turned ((Turned.refl w2 (at_ b2)).setCell (.inl rfl) _) (fun k hk => by rw [hk]; exact hb2.out)); have HLx := Aside0.mk (show LS w0 gl gb T (w2.setCell ⟨b2, 0, none⟩ (.string (B (eolL rest)))) (eolR rest) D vd from H1.out.setBox K21.out H00.out _); have KX1 := Aside0.mk (show Box (w2.setCell ⟨b2, 0, none⟩ (.string (B (eolL rest)))) b1 (pt gl) 100 from (Below.heap_setCell w2 ⟨b2, 0, none⟩ _ b1 (blk_ne K11.out K21.out (by decide))).trans K11.out); have KX2 := Aside0.mk (show Box (w2.setCell ⟨b2, 0, none⟩ (.string (B (eolL rest)))) b2 (.string (B (eolL rest))) 9 from by unfold Box; rw [blk_set K21.out]; rfl); have KX3 := Aside0.mk (show Box (w2.setCell ⟨b2, 0, none⟩ (.string (B (eolL rest)))) b3 (.string (B s)) 9 from (Below.heap_setCell w2 ⟨b2, 0, none⟩ _ b3 H32.out).trans K31.out); have KX4 := Aside0.mk (show Box (w2.setCell ⟨b2, 0, none⟩ (.string (B (eolL rest)))) b4 (.string (B nm)) 9 from (Below.heap_setCell w2 ⟨b2, 0, none⟩ _ b4 H42.out).trans K41.out))
      | (go_at_call 97; refine (has1 _ W.heap.size v1 (eolL rest) 92 92 rfl _ _ (HSx.out.below (below_new _ _)) (Nat.le_trans HL.out (by decide)) (cell_new' _ _ _ _ hszw.out)).mono ?_; rintro e w3 ⟨rfl, hw⟩; rw [HSF.out]; have HLy := Aside0.mk (show LS w0 gl gb T w3 (eolR rest) D vd by rw [hw]; exact HLx.out.more (below_new _ _)); have KY1 := Aside0.mk (show Box w3 b1 (pt gl) 100 by rw [hw]; exact KX1.out.more (below_new _ _)); have KY2 := Aside0.mk (show Box w3 b2 (.string (B (eolL rest))) 9 by rw [hw]; exact KX2.out.more (below_new _ _)); have KY3 := Aside0.mk (show Box w3 b3 (.string (B s)) 9 by rw [hw]; exact KX3.out.more (below_new _ _)); have KY4 := Aside0.mk (show Box w3 b4 (.string (B nm)) 9 by rw [hw]; exact KX4.out.more (below_new _ _)); have hky := KY2.out.cell; clear hw)
      | (go_at_call 134; refine (suffix_str (eolL rest) [10] _ HL.out).mono ?_; rintro e w5 ⟨rfl, hw⟩; subst hw; rw [has10_no _ (eol_no rest)])
      | (go_at_call 119; refine (trim_ascii (eolL rest) _ HL.out HA.out HLy.out.lx.tabW.ssp).mono ?_; rintro e w4 ⟨rfl, hb⟩; rw [htv]; have H9 := Aside0.mk (HLy.out.more hb); have K91 := Aside0.mk (KY1.out.more hb); have K93 := Aside0.mk (KY3.out.more hb); have K94 := Aside0.mk (KY4.out.more hb); clear hb))
    clear hk2 htv hcat HS1 H1 K11 K21 K31 K41 H K1 K2 K3 K4 HSx HLx KX1 KX2 KX3 KX4 HLy KY1 KY2 KY3 KY4 hky hcv hf2 hz1 hz2
    obtain ⟨Av, cv, hvd⟩ : ∃ A c, vd = .slice A D.length c := by
      obtain ⟨A, c, h⟩ := Kd.R_slice H9.out.row
      rw [List.length_map] at h
      exact ⟨A, c, h⟩
    subst hvd
    have g1 := K91.out.cell
    have g2 := K93.out.cell
    have g4 := K94.out.cell
    have g3 := H9.out.lx.c1
    unfold pt at g1
    refine Go.Last.wp_region_x (S := fun w' => w'.cell? ⟨b1, 0, none⟩ = some (.pointer (some ⟨gl, 0, none⟩)) ∧ w'.cell? ⟨b3, 0, none⟩ = some (.string (B s)) ∧ w'.cell? ⟨b4, 0, none⟩ = some (.string (B nm)) ∧ w'.cell? ⟨gl, 1, none⟩ = some (.slice Av D.length cv)) (n := 16) (by kernel_rfl) ?_
    have HS : (fun w' => w'.cell? ⟨b1, 0, none⟩ = some (.pointer (some ⟨gl, 0, none⟩)) ∧ w'.cell? ⟨b3, 0, none⟩ = some (.string (B s)) ∧ w'.cell? ⟨b4, 0, none⟩ = some (.string (B nm)) ∧ w'.cell? ⟨gl, 1, none⟩ = some (.slice Av D.length cv)) w4.drew := ⟨g1, g2, g4, g3⟩
    have H2 := Aside0.mk (show LS w0 gl gb T w4.drew (eolR rest) D (.slice Av D.length cv) from H9.out.more (below_drew (Below.refl _ _)))
    have K12 := Aside0.mk (show Box w4.drew b1 (pt gl) 100 from K91.out)
    have K22 := Aside0.mk (show Box w4.drew b3 (.string (B s)) 9 from K93.out)
    have K42 := Aside0.mk (show Box w4.drew b4 (.string (B nm)) 9 from K94.out)
    change Go.Last.wpAnyX _ _ _ _ _ _ _ _ _ w4.drew
    clear g1 g2 g3 g4 hc1 hc2 H9 K91 K93 K94
    generalize w4.drew = wd at *
    show Go.Last.wpAnyX _ _ _ _ _ _ 17 _ _ _
    refine Go.Last.wpAnyX_at 17 rfl (by kernel_rfl) (by kernel_rfl) (by kernel_rfl) (by kernel_rfl) (fun _ _ _ h => h) (v := ?_) (Or.inl ⟨by rfl, ?_⟩) (by assumption) ?_
    rotate_left
    · intro w hSw
      (try dsimp only at hSw)
      go_split_ands
      go_simp
      first | done | with_reducible rfl
    (try simp only [Nat.reduceSub, Nat.reduceAdd, Act.put, List.setIfInBounds_toArray, List.set_cons_zero, List.set_cons_succ])
    refine Go.Last.wpAnyX_at 17 rfl (by kernel_rfl) (by kernel_rfl) (by kernel_rfl) (by kernel_rfl) (fun _ _ _ h => h) (v := ?_) (Or.inl ⟨by rfl, ?_⟩) (by assumption) ?_
    rotate_left
    · intro w hSw
      (try dsimp only at hSw)
      go_split_ands
      go_simp
      first | done | with_reducible rfl
    (try simp only [Nat.reduceSub, Nat.reduceAdd, Act.put, List.setIfInBounds_toArray, List.set_cons_zero, List.set_cons_succ])
    refine Go.Last.wpAnyX_at 17 rfl (by kernel_rfl) (by kernel_rfl) (by kernel_rfl) (by kernel_rfl) (fun _ _ _ h => h) (v := ?_) (Or.inl ⟨by rfl, ?_⟩) (by assumption) ?_
    rotate_left
    · intro w hSw
      (try dsimp only at hSw)
      go_split_ands
      go_simp
      first | done | with_reducible rfl
    (try simp only [Nat.reduceSub, Nat.reduceAdd, Act.put, List.setIfInBounds_toArray, List.set_cons_zero, List.set_cons_succ])
    refine Go.Last.wpAnyX_at 17 rfl (by kernel_rfl) (by kernel_rfl) (by kernel_rfl) (by kernel_rfl) (fun _ _ _ h => h) (v := ?_) (Or.inl ⟨by rfl, ?_⟩) (by assumption) ?_
    rotate_left
    · intro w hSw
      (try dsimp only at hSw)
      go_split_ands
      go_simp
      first | done | with_reducible rfl
    (try simp only [Nat.reduceSub, Nat.reduceAdd, Act.put, List.setIfInBounds_toArray, List.set_cons_zero, List.set_cons_succ])
    refine Go.Last.wpAnyX_at 17 rfl (by kernel_rfl) (by kernel_rfl) (by kernel_rfl) (by kernel_rfl) (fun _ _ _ h => h) (v := ?_) (Or.inl ⟨by rfl, ?_⟩) (by assumption) ?_
    rotate_left
    · intro w hSw
      (try dsimp only at hSw)
      go_split_ands
      go_simp
      first | done | with_reducible rfl
    (try simp only [Nat.reduceSub, Nat.reduceAdd, Act.put, List.setIfInBounds_toArray, List.set_cons_zero, List.set_cons_succ])
    refine Go.Last.wpAnyX_at 17 rfl (by kernel_rfl) (by kernel_rfl) (by kernel_rfl) (by kernel_rfl) (fun _ _ _ h => h) (v := ?_) (Or.inl ⟨by rfl, ?_⟩) (by assumption) ?_
    rotate_left
    · intro w hSw
      (try dsimp only at hSw)
      go_split_ands
      go_simp
      first | done | with_reducible rfl
    (try simp only [Nat.reduceSub, Nat.reduceAdd, Act.put, List.setIfInBounds_toArray, List.set_cons_zero, List.set_cons_succ])
    refine Go.Last.wpAnyX_at 17 rfl (by kernel_rfl) (by kernel_rfl) (by kernel_rfl) (by kernel_rfl) (fun _ _ _ h => h) (v := ?_) (Or.inl ⟨by rfl, ?_⟩) (by assumption) ?_
    rotate_left
    · intro w hSw
      (try dsimp only at hSw)
      go_split_ands
      go_simp
      first | done | with_reducible rfl
    (try simp only [Nat.reduceSub, Nat.reduceAdd, Act.put, List.setIfInBounds_toArray, List.set_cons_zero, List.set_cons_succ])
    refine Go.Last.wpAnyX_at 17 rfl (by kernel_rfl) (by kernel_rfl) (by kernel_rfl) (by kernel_rfl) (fun _ _ _ h => h) (v := ?_) (Or.inl ⟨by rfl, ?_⟩) (by assumption) ?_
    rotate_left
    · intro w hSw
      (try dsimp only at hSw)
      go_split_ands
      go_simp
      first | done | with_reducible rfl
    (try simp only [Nat.reduceSub, Nat.reduceAdd, Act.put, List.setIfInBounds_toArray, List.set_cons_zero, List.set_cons_succ])
    refine Go.Last.wpAnyX_at 17 rfl (by kernel_rfl) (by kernel_rfl) (by kernel_rfl) (by kernel_rfl) (fun _ _ _ h => h) (v := ?_) (Or.inl ⟨by rfl, ?_⟩) (by assumption) ?_
    rotate_left
    · intro w hSw
      (try dsimp only at hSw)
      go_split_ands
      go_simp
      first | done | with_reducible rfl
    (try simp only [Nat.reduceSub, Nat.reduceAdd, Act.put, List.setIfInBounds_toArray, List.set_cons_zero, List.set_cons_succ])
    refine Go.Last.wpAnyX_one (i := 9) (o := { dst := some 56, op := Op.box 64 (Operand.tmp 55), type := 55, pos := "deserialize.go:300", after := #[{ on := 8, ground := Ground.data }], guard := none }) (by kernel_rfl) rfl ?_
    intro K2 hK2
    go_simp
    have HSb : (fun w' => w'.cell? ⟨b1, 0, none⟩ = some (.pointer (some ⟨gl, 0, none⟩)) ∧ w'.cell? ⟨b3, 0, none⟩ = some (.string (B s)) ∧ w'.cell? ⟨b4, 0, none⟩ = some (.string (B nm)) ∧ w'.cell? ⟨gl, 1, none⟩ = some (.slice Av D.length cv)) (wd.alloc (Obj.cells #[.string (B s), .string (B nm), .string (B tv)] 64)) := ⟨keepcell (below_new _ _) HS.1, keepcell (below_new _ _) HS.2.1, keepcell (below_new _ _) HS.2.2.1, keepcell (below_new _ _) HS.2.2.2⟩
    refine hK2 _ _ (fun _ => HSb) ?_
    clear hK2 K2
    (try simp only [Act.put, List.setIfInBounds_toArray, List.set_cons_zero, List.set_cons_succ])
    refine Go.Last.wpAnyX_at 17 rfl (by kernel_rfl) (by kernel_rfl) (by kernel_rfl) (by kernel_rfl) (fun _ _ _ h => h) (v := ?_) (Or.inl ⟨by rfl, ?_⟩) (by assumption) ?_
    rotate_left
    · intro w hSw
      (try dsimp only at hSw)
      go_split_ands
      go_simp
      first | done | with_reducible rfl
    (try simp only [Nat.reduceSub, Nat.reduceAdd, Act.put, List.setIfInBounds_toArray, List.set_cons_zero, List.set_cons_succ])
    refine Go.Last.wpAnyX_one (i := 11) (o := { dst := some 58, op := Op.box 109 (Operand.tmp 57), type := 106, pos := "deserialize.go:300", after := #[{ on := 10, ground := Ground.data }], guard := none }) (by kernel_rfl) rfl ?_
    intro K3 hK3
    go_simp
    have HSc : (fun w' => w'.cell? ⟨b1, 0, none⟩ = some (.pointer (some ⟨gl, 0, none⟩)) ∧ w'.cell? ⟨b3, 0, none⟩ = some (.string (B s)) ∧ w'.cell? ⟨b4, 0, none⟩ = some (.string (B nm)) ∧ w'.cell? ⟨gl, 1, none⟩ = some (.slice Av D.length cv)) ((wd.alloc (Obj.cells #[.string (B s), .string (B nm), .string (B tv)] 64)).alloc (Obj.cells #[.int .i64 1, .pointer (some ⟨wd.heap.size, 0, none⟩), .pointer none] 109)) := ⟨keepcell (below_new _ _) HSb.1, keepcell (below_new _ _) HSb.2.1, keepcell (below_new _ _) HSb.2.2.1, keepcell (below_new _ _) HSb.2.2.2⟩
    refine hK3 _ _ (fun _ => HSc) ?_
    clear hK3 K3 HSb HS
    (try simp only [Act.put, List.setIfInBounds_toArray, List.set_cons_zero, List.set_cons_succ])
    have hal := alloc2_facts wd (Obj.cells #[.string (B s), .string (B nm), .string (B tv)] 64) (Obj.cells #[.int .i64 1, .pointer (some ⟨wd.heap.size, 0, none⟩), .pointer none] 109)
    have HAL := Aside0.mk hal
    clear hal
    generalize ((wd.alloc (Obj.cells #[.string (B s), .string (B nm), .string (B tv)] 64)).alloc (Obj.cells #[.int .i64 1, .pointer (some ⟨wd.heap.size, 0, none⟩), .pointer none] 109)) = w3 at HSc HAL ⊢
    have H3 := Aside0.mk (H2.out.more HAL.out.1)
    have K13 := Aside0.mk (K12.out.more HAL.out.1)
    have K23 := Aside0.mk (K22.out.more HAL.out.1)
    have K43 := Aside0.mk (K42.out.more HAL.out.1)
    have HAL2 := Aside0.mk HAL.out.2
    clear HAL H2 K12 K22 K42
    generalize wd.heap.size + 1 = p at *
    generalize wd.heap.size = b at *
    have HXB := Aside0.mk (show ∀ q ∈ (Dat.mk false s nm tv p b 0).blks, w3.heap[q.1]? = some q.2 by
      intro q hq
      unfold Dat.blks at hq
      simp only [Bool.false_eq_true, if_false, List.mem_cons, List.mem_nil_iff, or_false] at hq
      rcases hq with rfl | rfl
      · exact HAL2.out.2
      · exact HAL2.out.1)
    clear HAL2
    refine Go.Last.wpAnyX_one (i := 12) (o := { dst := some 59, op := Op.buildSlice 103 1 #[(0, Operand.tmp 58)], type := 103, pos := "deserialize.go:300", after := #[{ on := 11, ground := Ground.data }], guard := none }) (by kernel_rfl) rfl ?_
    intro K4 hK4
    go_simp
    have HSd : (fun w' => w'.cell? ⟨b1, 0, none⟩ = some (.pointer (some ⟨gl, 0, none⟩)) ∧ w'.cell? ⟨b3, 0, none⟩ = some (.string (B s)) ∧ w'.cell? ⟨b4, 0, none⟩ = some (.string (B nm)) ∧ w'.cell? ⟨gl, 1, none⟩ = some (.slice Av D.length cv)) (w3.alloc (Obj.cells #[.pointer (some ⟨p, 0, none⟩)] 106)) := ⟨keepcell (below_new _ _) HSc.1, keepcell (below_new _ _) HSc.2.1, keepcell (below_new _ _) HSc.2.2.1, keepcell (below_new _ _) HSc.2.2.2⟩
    refine hK4 _ _ (fun _ => HSd) ?_
    clear hK4 K4
    (try simp only [Act.put, List.setIfInBounds_toArray, List.set_cons_zero, List.set_cons_succ])
    refine Go.Last.wpAnyX_one (i := 13) (o := { dst := some 60, op := Op.call { callee := Callee.builtin Builtin.append, args := #[Operand.tmp 51, Operand.tmp 59], argTypes := #[103, 103] }, type := 103, pos := "deserialize.go:300", after := #[{ on := 4, ground := Ground.data }, { on := 12, ground := Ground.data }], guard := none }) (by kernel_rfl) rfl ?_
    intro K5 hK5
    refine Kd.R_append_step (w0 := w0) kPtr w0.heap.size (by rfl) (.tmp 51) (.tmp 59) 103 106 (.pointer none) 8 rfl (by kernel_rfl) (by kernel_rfl) (by decide) (by decide) (by decide) (Value.slice Av D.length cv) (D.map (·.p)) p [.pointer (some ⟨p, 0, none⟩)] (fun _ => True) (fun _ => False) rfl rfl rfl (fun _ h => h.elim) (fun _ _ => trivial) H3.out.row H3.out.lx.below H3.out.lx.below.size (by rw [List.length_map]; have := HD.out; omega) ?_
    intro v2 w4 HR1 HB1 hg hat
    obtain ⟨A2, c2, hv2⟩ : ∃ A c, v2 = .slice A (D.length + 1) c := by
      obtain ⟨A, c, h⟩ := Kd.R_slice HR1
      rw [List.length_append, List.length_map] at h
      exact ⟨A, c, h⟩
    subst hv2
    have HSe : (fun w' => w'.cell? ⟨b1, 0, none⟩ = some (.pointer (some ⟨gl, 0, none⟩)) ∧ w'.cell? ⟨b3, 0, none⟩ = some (.string (B s)) ∧ w'.cell? ⟨b4, 0, none⟩ = some (.string (B nm)) ∧ w'.cell? ⟨gl, 1, none⟩ = some (.slice Av D.length cv)) w4 := ⟨cell_grown hg HSc.1 (ne_own H3.out.row K13.out (by decide)), cell_grown hg HSc.2.1 (ne_own H3.out.row K23.out (by decide)), cell_grown hg HSc.2.2.1 (ne_own H3.out.row K43.out (by decide)), cell_grown hg HSc.2.2.2 (ne_own H3.out.row H3.out.lx.lex (by decide))⟩
    have HF := Aside0.mk (blk_frozen (blk_grown H3.out.lx.lex hg (ne_own H3.out.row H3.out.lx.lex (by decide))) 1)
    have HR := Aside0.mk HR1
    have HBx := Aside0.mk HB1
    have HG := Aside0.mk hg
    refine hK5 _ _ (fun _ => HSe) ?_
    clear hK5 K5 HSc HSd HR1 HB1 hg hat
    (try simp only [Act.put, List.setIfInBounds_toArray, List.set_cons_zero, List.set_cons_succ])
    refine Go.Last.wpAnyX_one (i := 14) (o := { dst := some 61, op := Op.nilCheck (Operand.tmp 47), type := 0, pos := "deserialize.go:300", after := #[{ on := 0, ground := Ground.data }, { on := 0, ground := Ground.phase }, { on := 1, ground := Ground.phase }, { on := 2, ground := Ground.phase }, { on := 3, ground := Ground.phase }, { on := 4, ground := Ground.phase }, { on := 5, ground := Ground.phase }, { on := 6, ground := Ground.phase }, { on := 7, ground := Ground.phase }, { on := 8, ground := Ground.phase }, { on := 9, ground := Ground.phase }, { on := 10, ground := Ground.phase }, { on := 11, ground := Ground.phase }, { on := 12, ground := Ground.phase }, { on := 13, ground := Ground.phase }], guard := none }) (by kernel_rfl) rfl ?_
    intro K7 hK7
    go_simp
    refine hK7 _ _ (fun _ => HSe) ?_
    clear hK7 K7
    (try simp only [Act.put, List.setIfInBounds_toArray, List.set_cons_zero, List.set_cons_succ])
    refine Go.Last.wpAnyX_one (i := 15) (o := { dst := some 62, op := Op.fieldAddr 105 (Operand.tmp 61) 1, type := 0, pos := "deserialize.go:300", after := #[{ on := 14, ground := Ground.data }, { on := 0, ground := Ground.phase }, { on := 1, ground := Ground.phase }, { on := 2, ground := Ground.phase }, { on := 3, ground := Ground.phase }, { on := 4, ground := Ground.phase }, { on := 5, ground := Ground.phase }, { on := 6, ground := Ground.phase }, { on := 7, ground := Ground.phase }, { on := 8, ground := Ground.phase }, { on := 9, ground := Ground.phase }, { on := 10, ground := Ground.phase }, { on := 11, ground := Ground.phase }, { on := 12, ground := Ground.phase }, { on := 13, ground := Ground.phase }], guard := none }) (by kernel_rfl) rfl ?_
    intro K8 hK8
    go_simp
    refine hK8 _ _ (fun _ => HSe) ?_
    clear hK8 K8
    (try simp only [Act.put, List.setIfInBounds_toArray, List.set_cons_zero, List.set_cons_succ])
    refine Go.Last.wpAnyX_one (i := 16) (o := { dst := none, op := Op.store 103 (Operand.tmp 62) (Operand.tmp 60), type := 0, pos := "deserialize.go:300", after := #[{ on := 15, ground := Ground.data }, { on := 13, ground := Ground.data }, { on := 13, ground := Ground.chain }, { on := 0, ground := Ground.phase }, { on := 1, ground := Ground.phase }, { on := 2, ground := Ground.phase }, { on := 3, ground := Ground.phase }, { on := 4, ground := Ground.phase }, { on := 5, ground := Ground.phase }, { on := 6, ground := Ground.phase }, { on := 7, ground := Ground.phase }, { on := 8, ground := Ground.phase }, { on := 9, ground := Ground.phase }, { on := 10, ground := Ground.phase }, { on := 11, ground := Ground.phase }, { on := 12, ground := Ground.phase }, { on := 13, ground := Ground.phase }], guard := none }) (by kernel_rfl) rfl ?_
    intro K6 hK6
    have hcB := HSe.2.2.2
    have hfB := HF.out
    go_simp
    refine hK6 _ _ (fun e => absurd rfl e) ?_
    refine Go.Last.wpAnyX_done (by kernel_rfl) ?_ _
    have H5 := Aside0.mk (H3.out.add ⟨false, s, nm, tv, p, b, 0⟩ HXB.out (fun h => by simp at h) (fun h => by simp at h) HR.out HBx.out HG.out)
    have K15 := Aside0.mk (Box.add (v1 := .slice A2 (D.length + 1) c2) H3.out HG.out K13.out (by decide) (by decide))
    have K25 := Aside0.mk (Box.add (v1 := .slice A2 (D.length + 1) c2) H3.out HG.out K23.out (by decide) (by decide))
    clear hK6 K6 HSe hcB hfB HF HR HBx HG H3 K13 K23 K43 HXB
    generalize w4.setCell ⟨gl, 1, none⟩ (.slice A2 (D.length + 1) c2) = w5 at H5 K15 K25 ⊢
    have hk51 := K15.out.cell
    have hk52 := K25.out.cell
    unfold pt at hk51
    go_wp2_with (go_at_call 102; refine (secopt_mk gl s _).mono ?_; rintro e w6 ⟨fv, rfl, hso, hb⟩; have H6 := Aside0.mk (H5.out.more hb); have HO := Aside0.mk hso; clear hso hb)
    go_ret2
    exact ⟨_, _, _, _, rfl, H6.out, HO.out⟩
end Go.Proofs.YtocdnceckljnaaaDoor.U
namespace Go.Proofs.YtocdnceckljnaaaDoor.U
open Go.RowKit Go.Proofs.YtocdnceckljnaaaDoorW.PrintWords Go.Proofs.YtocdnceckljnaaaDoorW.PrintLast Go.Proofs.YtocdnceckljnaaaDoorW.PrintMore
set_option linter.unusedVariables false
set_option linter.unusedSimpArgs false
abbrev PD := Bool × Bs × Bs × Bs
def Dat.pd (x : Dat) : PD := (x.isSec, x.s, x.n, x.v)
def upto (d : UInt8) (r : Bs) : Bs := r.takeWhile (fun c => c != d)
def past (d : UInt8) (r : Bs) : Bs := (r.dropWhile (fun c => c != d)).drop 1
theorem upto_no (d : UInt8) (r : Bs) : d ∉ upto d r := fun h => by
  have := List.all_eq_true.1 (List.all_takeWhile (p := fun c : UInt8 => c != d) (l := r)) _ h
  simp at this
theorem upto_split (d : UInt8) (r : Bs) (h : d ∈ r) : r = upto d r ++ d :: past d r := by
  unfold upto past
  have hs : r = r.takeWhile (fun c => c != d) ++ r.dropWhile (fun c => c != d) := (List.takeWhile_append_dropWhile).symm
  cases hd : r.dropWhile (fun c => c != d) with
  | nil =>
    rw [hd, List.append_nil] at hs
    have hn := upto_no d r
    unfold upto at hn
    rw [← hs] at hn
    exact absurd h hn
  | cons x t =>
    have hx : x = d := by
      have hne : r.dropWhile (fun c => c != d) ≠ [] := by rw [hd]; simp
      have h2 := List.head_dropWhile_not (fun c : UInt8 => c != d) (l := r) hne
      simp only [hd, List.head_cons] at h2
      simpa using h2
    rw [hd, hx] at hs
    simpa using hs
def stepF : St → Bs → Option (Option St × Bs × List PD)
  | .next, [] => some (none, [], [])
  | .next, c :: r => some (some (if c.toNat = 91 then .secName else if c.toNat = 35 ∨ c.toNat = 59 then .ign none else .next), r, [])
  | .secName, rest => if (93 : UInt8) ∈ rest then some (some (.suffix (upto 93 rest)), past 93 rest, []) else none
  | .suffix s, rest => if (13 : UInt8) ∉ eolL rest ∧ Lib.trimSpace (eolL rest) = [] then some (some (.secOpt s), eolR rest, [(true, s, [], [])]) else none
  | .ign o, rest => if (13 : UInt8) ∉ eolL rest ∧ Lib.hasSuffix (cutEnd 32 (eolL rest)) [92] = false then some (some (match o with | none => .next | some s => .secOpt s), eolR rest, []) else none
  | .secOpt _, [] => some (none, [], [])
  | .secOpt s, c :: r => some (some (soStep s c r).1, (soStep s c r).2, [])
  | .optName s, rest => if (61 : UInt8) ∈ rest ∧ (10 : UInt8) ∉ upto 61 rest ∧ (13 : UInt8) ∉ upto 61 rest then some (some (.optVal s (Lib.trimSpace (upto 61 rest))), past 61 rest, []) else none
  | .optVal s n, rest => if (13 : UInt8) ∉ eolL rest ∧ Lib.hasSuffix (eolL rest) [92] = false then some (some (.secOpt s), eolR rest, [(false, s, n, Lib.trimSpace (eolL rest))]) else none
theorem eolL_len (r : Bs) : (eolL r).length ≤ r.length := (List.takeWhile_sublist _).length_le
theorem LS.len {w0 W : World} {gl gb : Nat} {T : ByteArray} {rest : Bs} {D : List Dat} {vd : Value} (h : LS w0 gl gb T W rest D vd) : rest.length ≤ T.size := by
  obtain ⟨r, wd, last, hB, hr⟩ := h.lx.buf
  have := congrArg List.length hr
  rw [List.length_drop, ← Lib.size_eq] at this
  omega
theorem LS.asc {w0 W : World} {gl gb : Nat} {T : ByteArray} {rest : Bs} {D : List Dat} {vd : Value} (h : LS w0 gl gb T W rest D vd) : ∀ c ∈ rest, c.toNat < 128 := by
  obtain ⟨r, wd, last, hB, hr⟩ := h.lx.buf
  intro c hc
  rw [← hr] at hc
  exact h.lx.asc c (List.mem_of_mem_drop hc)
theorem eolL_mem {r : Bs} {c : UInt8} (h : c ∈ eolL r) : c ∈ r := (List.takeWhile_sublist _).subset h
theorem upto_mem {d : UInt8} {r : Bs} {c : UInt8} (h : c ∈ upto d r) : c ∈ r := (List.takeWhile_sublist _).subset h
theorem upto_len (d : UInt8) (r : Bs) : (upto d r).length ≤ r.length := (List.takeWhile_sublist _).length_le
def NextOk (n0 : Nat) (W : World) (gl : Nat) : Option St → Value → Prop
  | none, fv => fv = .nilFunc
  | some s, fv => StepIs n0 W gl s fv
def After (w0 : World) (gl gb : Nat) (T : ByteArray) (D : List Dat) (st' : Option St) (rest' : Bs) (d : List PD) (e : Ending) (w' : World) : Prop :=
  ∃ fv' D' vd', e = ret fv' ∧ LS w0 gl gb T w' rest' D' vd' ∧ D'.map Dat.pd = D.map Dat.pd ++ d ∧ NextOk w0.heap.size w' gl st' fv'
theorem step_calls {w0 W : World} {gl gb : Nat} {T : ByteArray} {rest rest' : Bs} {D : List Dat} {vd fv : Value} {st : St} {st' : Option St} {d : List PD} (h : LS w0 gl gb T W rest D vd) (hs : StepIs w0.heap.size W gl st fv) (hF : stepF st rest = some (st', rest', d)) (hT : T.size ≤ 1000000000) (hD : D.length < 1000000000) :
    ∃ n fi ca, fv = .func (.func n) fi ca ∧ (∀ (args : Array Value) (w : World), (callFunc n args).run Tryd.prog w = .ok (.enter n args) w) ∧ Calls Tryd.prog n (fi ++ ca) W (After w0 gl gb T D st' rest' d) := by
  have hlen := h.len
  have hasc := h.asc
  have hel := eolL_len rest
  have keep : ∀ (e : Ending) (w' : World) (fv' vd' : Value), e = ret fv' → LS w0 gl gb T w' rest' D vd' → d = [] → NextOk w0.heap.size w' gl st' fv' → After w0 gl gb T D st' rest' d e w' :=
    fun e w' fv' vd' he hl hd hm => ⟨fv', D, vd', he, hl, by rw [hd, List.append_nil], hm⟩
  cases st with
  | next =>
    obtain rfl : fv = .func (.func 68) #[pt gl] #[] := hs
    refine ⟨68, _, _, rfl, enters_of Tryd.func68 (by kernel_rfl) rfl, ?_⟩
    cases rest with
    | nil =>
      simp only [stepF, Option.some.injEq, Prod.mk.injEq] at hF
      obtain ⟨rfl, rfl, rfl⟩ := hF
      exact (next_end h).mono fun e w' ⟨he, hl⟩ => keep e w' _ _ he hl rfl rfl
    | cons c r =>
      simp only [stepF, Option.some.injEq, Prod.mk.injEq] at hF
      obtain ⟨rfl, rfl, rfl⟩ := hF
      exact (next_go c r h).mono fun e w' ⟨fv', he, hl, hst⟩ => keep e w' _ _ he hl rfl hst
  | secName =>
    obtain rfl : fv = .func (.func 82) #[pt gl] #[] := hs
    refine ⟨82, _, _, rfl, enters_of Tryd.func82 (by kernel_rfl) rfl, ?_⟩
    simp only [stepF] at hF
    split at hF
    · rename_i hm
      simp only [Option.some.injEq, Prod.mk.injEq] at hF
      obtain ⟨rfl, rfl, rfl⟩ := hF
      have hsp := upto_split 93 rest hm
      have hul := upto_len 93 rest
      exact (secname_go (upto 93 rest) (past 93 rest) (hsp ▸ h) (upto_no 93 rest) (by omega)).mono fun e w' ⟨fv', he, hl, hst⟩ => keep e w' _ _ he hl rfl hst
    · simp at hF
  | suffix s =>
    obtain ⟨b1, b2, rfl, k1, k2⟩ := hs
    refine ⟨100, _, _, rfl, enters_of Tryd.func100 (by kernel_rfl) rfl, ?_⟩
    simp only [stepF] at hF
    split at hF
    · rename_i hm
      simp only [Option.some.injEq, Prod.mk.injEq] at hF
      obtain ⟨rfl, rfl, rfl⟩ := hF
      refine (suffix_go b1 b2 s rest h k1 k2 hm.1 (fun c hc => hasc c (eolL_mem hc)) (by omega) hm.2 hD).mono fun e w' ⟨fv', vd', p, b, be, he, hl, hst⟩ => ?_
      exact ⟨fv', _, vd', he, hl, by rw [List.map_append]; rfl, hst⟩
    · simp at hF
  | ign o =>
    obtain ⟨b1, b2, v, rfl, k1, k2, hv⟩ := hs
    refine ⟨94, _, _, rfl, enters_of Tryd.func94 (by kernel_rfl) rfl, ?_⟩
    simp only [stepF] at hF
    split at hF
    · rename_i hm
      simp only [Option.some.injEq, Prod.mk.injEq] at hF
      obtain ⟨rfl, rfl, rfl⟩ := hF
      refine (ign_go rest b1 b2 v h k1 k2 hm.1 (by omega) hm.2).mono fun e w' ⟨he, hl, hso⟩ => keep e w' _ _ he hl rfl ?_
      cases o with
      | none => exact hv
      | some s => exact hso s hv
    · simp at hF
  | secOpt s =>
    obtain ⟨b1, b2, rfl, k1, k2⟩ := hs
    refine ⟨107, _, _, rfl, enters_of Tryd.func107 (by kernel_rfl) rfl, ?_⟩
    cases rest with
    | nil =>
      simp only [stepF, Option.some.injEq, Prod.mk.injEq] at hF
      obtain ⟨rfl, rfl, rfl⟩ := hF
      exact (secopt_end b1 b2 s h k1 k2).mono fun e w' ⟨he, hl⟩ => keep e w' _ _ he hl rfl rfl
    | cons c r =>
      simp only [stepF, Option.some.injEq, Prod.mk.injEq] at hF
      obtain ⟨rfl, rfl, rfl⟩ := hF
      exact (secopt_go b1 b2 s c r h k1 k2 (hasc c (by simp))).mono fun e w' ⟨fv', he, hl, hst⟩ => keep e w' _ _ he hl rfl hst
  | optName s =>
    obtain ⟨b1, b2, rfl, k1, k2⟩ := hs
    refine ⟨118, _, _, rfl, enters_of Tryd.func118 (by kernel_rfl) rfl, ?_⟩
    simp only [stepF] at hF
    split at hF
    · rename_i hm
      simp only [Option.some.injEq, Prod.mk.injEq] at hF
      obtain ⟨rfl, rfl, rfl⟩ := hF
      have hsp := upto_split 61 rest hm.1
      have hul := upto_len 61 rest
      exact (optname_go b1 b2 s (upto 61 rest) (past 61 rest) (hsp ▸ h) k1 k2 (fun c hc => hasc c (upto_mem hc)) (upto_no 61 rest) hm.2.1 hm.2.2 (by omega)).mono fun e w' ⟨fv', he, hl, hst⟩ => keep e w' _ _ he hl rfl hst
    · simp at hF
  | optVal s n =>
    obtain ⟨b1, b2, b3, b4, rfl, k1, k2, k3, k4, h0, h32, h42⟩ := hs
    refine ⟨133, _, _, rfl, enters_of Tryd.func133 (by kernel_rfl) rfl, ?_⟩
    simp only [stepF] at hF
    split at hF
    · rename_i hm
      simp only [Option.some.injEq, Prod.mk.injEq] at hF
      obtain ⟨rfl, rfl, rfl⟩ := hF
      refine (optval_go b1 b2 b3 b4 s n rest h k1 k2 k3 k4 h0 h32 h42 hm.1 (fun c hc => hasc c (eolL_mem hc)) (by omega) hm.2 hD).mono fun e w' ⟨fv', vd', p, b, he, hl, hst⟩ => ?_
      exact ⟨fv', _, vd', he, hl, by rw [List.map_append]; rfl, hst⟩
    · simp at hF
end Go.Proofs.YtocdnceckljnaaaDoor.U
namespace Go.Proofs.YtocdnceckljnaaaDoor.U
open Go.RowKit Go.Proofs.YtocdnceckljnaaaDoorW.PrintWords Go.Proofs.YtocdnceckljnaaaDoorW.PrintLast Go.Proofs.YtocdnceckljnaaaDoorW.PrintMore
set_option linter.unusedVariables false
set_option linter.unusedSimpArgs false
def lexF : Nat → St → Bs → List PD → Option (List PD)
  | 0, _, _, _ => none
  | k + 1, st, rest, D =>
    if rest.length < 2048 ∨ (10 : UInt8) ∈ rest.take 2048 then
      (stepF st rest).bind fun x =>
        if D.length < 900000000 then
          match x.1 with
          | none => some (D ++ x.2.2)
          | some st' => lexF k st' x.2.1 (D ++ x.2.2)
        else none
    else none
theorem lexF_spec {k : Nat} {st : St} {rest : Bs} {D R : List PD} (h : lexF k st rest D = some R) : ∃ k1 st' rest' d, k = k1 + 1 ∧ (rest.length < 2048 ∨ (10 : UInt8) ∈ rest.take 2048) ∧ stepF st rest = some (st', rest', d) ∧ D.length < 900000000 ∧ (match st' with | none => R = D ++ d | some s => lexF k1 s rest' (D ++ d) = some R) := by
  cases k with
  | zero => simp [lexF] at h
  | succ k1 =>
    simp only [lexF] at h
    split at h
    · rename_i hc
      obtain ⟨⟨st', rest', d⟩, hs, h⟩ := Option.bind_eq_some_iff.mp h
      split at h
      · rename_i hd
        refine ⟨k1, st', rest', d, rfl, hc, hs, hd, ?_⟩
        cases st' with
        | none => exact (Option.some.inj h).symm
        | some s => exact h
      · simp at h
    · simp at h
theorem StepIs.more {n0 : Nat} {W W1 : World} {gl : Nat} {st : St} {fv : Value} (h : StepIs n0 W gl st fv) (hb : Below W.heap.size W W1) : StepIs n0 W1 gl st fv := by
  cases st with
  | next => exact h
  | secName => exact h
  | suffix s =>
    obtain ⟨b1, b2, e, k1, k2⟩ := h
    exact ⟨b1, b2, e, k1.more hb, k2.more hb⟩
  | ign o =>
    obtain ⟨b1, b2, v, e, k1, k2, hv⟩ := h
    refine ⟨b1, b2, v, e, k1.more hb, k2.more hb, ?_⟩
    cases o with
    | none => exact hv
    | some s => exact SecOptIs.more hv hb
  | secOpt s => exact SecOptIs.more h hb
  | optName s =>
    obtain ⟨b1, b2, e, k1, k2⟩ := h
    exact ⟨b1, b2, e, k1.more hb, k2.more hb⟩
  | optVal s n =>
    obtain ⟨b1, b2, b3, b4, e, k1, k2, k3, k4, h0⟩ := h
    exact ⟨b1, b2, b3, b4, e, k1.more hb, k2.more hb, k3.more hb, k4.more hb, h0⟩
theorem step_at {w0 W : World} {gl gb : Nat} {T : ByteArray} {rest rest' : Bs} {D : List Dat} {vd : Value} {st : St} {st' : Option St} {d : List PD} {n : Nat} {fi ca : Array Value} (h : LS w0 gl gb T W rest D vd) (hs : StepIs w0.heap.size W gl st (.func (.func n) fi ca)) (hF : stepF st rest = some (st', rest', d)) (hT : T.size ≤ 1000000000) (hD : D.length < 1000000000)
    {W' : World} (hb : Below W.heap.size W W') : Calls Tryd.prog n (fi ++ ca) W' (After w0 gl gb T D st' rest' d) := by
  obtain ⟨n2, fi2, ca2, he, _, hc⟩ := step_calls (h.more hb) (hs.more hb) hF hT hD
  injection he with h1 h2 h3
  injection h1 with h1
  subst h1 h2 h3
  exact hc
set_option maxHeartbeats 40000000 in
set_option maxRecDepth 100000 in
theorem lex_calls {w0 W : World} {gl gb : Nat} {T : ByteArray} {D : List Dat} {vd : Value} (k : Nat) (rest : Bs) (R : List PD) (h : LS w0 gl gb T W rest D vd) (hR : lexF k .next rest (D.map Dat.pd) = some R) (hT : T.size ≤ 1000000000) :
    Calls Tryd.prog 62 #[pt gl] W fun e w' => e = .returned (.tuple #[]) ∧ ∃ rest' D' vd', LS w0 gl gb T w' rest' D' vd' ∧ D'.map Dat.pd = R := by
  have H := Aside0.mk h
  have HR := Aside0.mk hR
  have HT := Aside0.mk hT
  have hmf := hmf
  have hnn : ∀ (w : World), (binOp .neq 61 .nilIface .nilIface).run Tryd.prog w = .ok (.bool false) w := fun _ => rfl
  have hn0 : ∀ (w : World), (binOp .neq 115 .nilFunc .nilFunc).run Tryd.prog w = .ok (.bool false) w := fun _ => rfl
  clear h hR hT
  unfold pt
  go_enter Tryd.func62, Tryd.ntmps62
  go_wp2
  go_loopg [2] k (fun kq v2 w' => ∃ (rest : Bs) (D : List Dat) (vd : Value), Aside0 (LS w0 gl gb T w' rest D vd) ∧ ((kq = 0 ∧ v2 = .nilFunc ∧ Aside0 (D.map Dat.pd = R)) ∨ ∃ st, Aside0 (StepIs w0.heap.size w' gl st v2) ∧ Aside0 (lexF kq st rest (D.map Dat.pd) = some R)))
  case atStart => exact ⟨rest, D, vd, H, .inr ⟨.next, ⟨rfl⟩, HR⟩⟩
  case round =>
    clear H HR
    obtain ⟨rest, D, vd, H, hst⟩ := hrel
    rcases hst with ⟨rfl, rfl, hR⟩ | ⟨st, hst, hR⟩
    · go_wp2
      go_end0
      exact ⟨rfl, rest, D, vd, H.out, hR.out⟩
    · obtain ⟨k1, st', rest', d, rfl, hc, hsF, hDl, hnx⟩ := lexF_spec hR.out
      obtain ⟨n, fi, ca, rfl, hent, hcall0⟩ := step_calls H.out hst.out hsF HT.out (by rw [List.length_map] at hDl; omega)
      have hneq : ∀ (w : World), (binOp .neq 115 (.func (.func n) fi ca) .nilFunc).run Tryd.prog w = .ok (.bool true) w := fun _ => rfl
      have hc0 := H.out.lx.c0
      have HC := Aside0.mk (fun (W' : World) (hb : Below wr.heap.size wr W') => step_at H.out hst.out hsF HT.out (by rw [List.length_map] at hDl; omega) hb)
      have HNX := Aside0.mk hnx
      have HE := Aside0.mk hent
      have HCC := Aside0.mk hc
      clear hcall0 hnx hsF hDl hc hR hst
      obtain ⟨r, wd, last, hB, hr⟩ := H.out.lx.buf
      have HBf := Aside0.mk hB
      have HRr := Aside0.mk hr
      clear hB hr
      have hbuf := Aside0.mk (buffered gb T r wd last false wr HBf.out)
      have hlen := Aside0.mk (show rest.length = T.size - r by rw [← HRr.out, List.length_drop, ← Lib.size_eq])
      by_cases hm : (2048 : Int) ≤ ((wd - r : Nat) : Int)
      · have q1 : decide ((2048 : Int) ≤ ((wd - r : Nat) : Int)) = true := decide_eq_true hm
        have HM := Aside0.mk (show 2048 ≤ wd - r by omega)
        have H10 := Aside0.mk (show (10 : UInt8) ∈ rest.take 2048 by
          rcases HCC.out with h | h
          · have h1 := hlen.out
            have h2 := HBf.out.lew
            omega
          · exact h)
        have HLL := Aside0.mk (show (T.extract r (r + 2048)).data.toList = rest.take 2048 by rw [Lib.extract_data, HRr.out, show r + 2048 - r = 2048 by omega])
        generalize wd - r = m at hbuf q1
        clear hm
        go_wp2_with (first
          | (go_at_call 69; refine hbuf.out.mono ?_; rintro e w1 ⟨rfl, hd⟩; have B1 := Aside0.mk hd.below; have H1 := Aside0.mk (H.out.more hd.below); have hc1 := H1.out.lx.c0; have HB1 := Aside0.mk (HBf.out.below hd.below); clear hd)
          | (go_at_call 70; refine (peek gb T r wd last false w1 HB1.out HM.out).mono ?_; rintro e w2 ⟨v, rfl, hs, hb⟩; rw [HLL.out] at hs; have HS := Aside0.mk hs; have B2 := Aside0.mk (below_over B1.out hb); clear hs hb)
          | (go_at_call 71; refine (newline_ w2 w1.heap.size v (rest.take 2048) HS.out (by rw [List.length_take]; omega) H10.out).mono ?_; rintro e w3 ⟨rfl, hw⟩; subst hw)
          | (refine (HC.out _ B2.out).mono ?_; rintro e w4 ⟨fv', D', vd', rfl, hl, hmp, hok⟩; have HL4 := Aside0.mk hl; have HMP := Aside0.mk hmp; have HOK := Aside0.mk hok; clear hl hmp hok; unfold ret))
        cases st' with
        | none =>
          go_roundg 0
          case measure => omega
          case rel => exact ⟨rest', D', vd', HL4, .inl ⟨rfl, HOK.out, ⟨by rw [HMP.out]; exact HNX.out.symm⟩⟩⟩
        | some s =>
          go_roundg k1
          case measure => omega
          case rel => exact ⟨rest', D', vd', HL4, .inr ⟨s, ⟨HOK.out⟩, ⟨by rw [HMP.out]; exact HNX.out⟩⟩⟩
      · have q1 : decide ((2048 : Int) ≤ ((wd - r : Nat) : Int)) = false := decide_eq_false hm
        generalize wd - r = m at hbuf q1
        clear hm
        go_wp2_with (first
          | (go_at_call 69; refine hbuf.out.mono ?_; rintro e w1 ⟨rfl, hd⟩; have B2 := Aside0.mk hd.below; have H1 := Aside0.mk (H.out.more hd.below); have hc1 := H1.out.lx.c0; clear hd)
          | (refine (HC.out _ B2.out).mono ?_; rintro e w4 ⟨fv', D', vd', rfl, hl, hmp, hok⟩; have HL4 := Aside0.mk hl; have HMP := Aside0.mk hmp; have HOK := Aside0.mk hok; clear hl hmp hok; unfold ret))
        cases st' with
        | none =>
          go_roundg 0
          case measure => omega
          case rel => exact ⟨rest', D', vd', HL4, .inl ⟨rfl, HOK.out, ⟨by rw [HMP.out]; exact HNX.out.symm⟩⟩⟩
        | some s =>
          go_roundg k1
          case measure => omega
          case rel => exact ⟨rest', D', vd', HL4, .inr ⟨s, ⟨HOK.out⟩, ⟨by rw [HMP.out]; exact HNX.out⟩⟩⟩
end Go.Proofs.YtocdnceckljnaaaDoor.U
namespace Go.Proofs.YtocdnceckljnaaaDoor.U
open Go.RowKit Go.Proofs.YtocdnceckljnaaaDoorW.PrintWords Go.Proofs.YtocdnceckljnaaaDoorW.PrintLast Go.Proofs.YtocdnceckljnaaaDoorW.PrintMore
set_option linter.unusedVariables false
set_option linter.unusedSimpArgs false
theorem two_new (W : World) (T : ByteArray) : Below W.heap.size W ((W.alloc (.cells #[.string T, .int .i64 0, .int .i64 0, .int .i64 0, .bool false] 114)).alloc (.cells #[.pointer (some ⟨W.heap.size, 0, none⟩), .slice none 0 0, .nilIface, .string ⟨#[]⟩] 105)) ∧
    ((W.alloc (.cells #[.string T, .int .i64 0, .int .i64 0, .int .i64 0, .bool false] 114)).alloc (.cells #[.pointer (some ⟨W.heap.size, 0, none⟩), .slice none 0 0, .nilIface, .string ⟨#[]⟩] 105)).heap[W.heap.size]? = some (.cells #[.string T, .int .i64 0, .int .i64 0, .int .i64 0, .bool false] 114 (0, 0)) ∧
    ((W.alloc (.cells #[.string T, .int .i64 0, .int .i64 0, .int .i64 0, .bool false] 114)).alloc (.cells #[.pointer (some ⟨W.heap.size, 0, none⟩), .slice none 0 0, .nilIface, .string ⟨#[]⟩] 105)).heap[W.heap.size + 1]? = some (.cells #[.pointer (some ⟨W.heap.size, 0, none⟩), .slice none 0 0, .nilIface, .string ⟨#[]⟩] 105 (0, 0)) := alloc2_facts W _ _
set_option maxHeartbeats 4000000 in
set_option maxRecDepth 100000 in
theorem new_lexer (T : ByteArray) (W : World) (ht : Tabs W) (ha : ∀ c ∈ T.data.toList, c.toNat < 128) (hT : T.size ≤ 4611686018427387904) :
    Calls Tryd.prog 61 #[.string T] W fun e w' => ∃ gl gb, e = .returned (pt gl) ∧ LS W gl gb T w' T.data.toList [] (.slice none 0 0) := by
  have H2 := Aside0.mk (two_new W T)
  go_enter Tryd.func61, Tryd.ntmps61
  go_wp2
  go_ret
  refine ⟨W.heap.size + 1, W.heap.size, rfl, ⟨H2.out.1, by omega, by omega, by omega, H2.out.2.2, ⟨0, 0, 0, ⟨H2.out.2.1, Nat.le_refl _, Nat.zero_le _, hT⟩, rfl⟩, ht, ha⟩, Kd.R_nil _ _ _ _ _, ?_, ?_, ?_⟩
  · intro x hx; simp at hx
  · intro x hx; simp at hx
  · simp
theorem kR_own {e base : Nat} {ok : Nat → Prop} {W : World} {v : Value} {xs : List Nat} (h : kPtr.R e W base ok v xs) : kPtr.R e W base (fun k => v.ownBlock = some k) v xs := by
  obtain ⟨h0, inner, ho, hr⟩ := h
  exact ⟨fun k hk => hk, inner, ho, hr.imp_ (fun _ _ hp => hp)⟩
theorem kR_any {e base : Nat} {ok : Nat → Prop} {W : World} {v : Value} {xs : List Nat} (h : kPtr.R e W base ok v xs) : kPtr.R e W base (fun _ => True) v xs := Kd.R_mono h (fun _ _ => trivial)
theorem kR_grown {e base : Nat} {ok : Nat → Prop} {W W1 : World} {v : Value} {xs : List Nat} {row : Option Nat} (h : kPtr.R e W base ok v xs) (hg : W.grownBy W1 row) (hne : ∀ k, v.ownBlock = some k → some k ≠ row) : kPtr.R e W1 base (fun _ => True) v xs :=
  kR_any (Kd.R_grown (kR_own h) hg hne)
theorem kR_typed {e base : Nat} {ok : Nat → Prop} {W : World} {v : Value} {xs : List Nat} (h : kPtr.R e W base ok v xs) (k : Nat) (hk : v.ownBlock = some k) : ∃ c, W.heap[k]? = some (Obj.cells c e (0, 0)) := by
  obtain ⟨_, inner, ho, _⟩ := h
  exact own_typed ho k hk
theorem kR_other {e e2 base b2 : Nat} {ok ok2 : Nat → Prop} {W W1 : World} {v v2 : Value} {xs ys : List Nat} (h : kPtr.R e W base ok v xs) (h2 : kPtr.R e2 W b2 ok2 v2 ys) (hg : W.grownBy W1 v2.ownBlock) (ht : e2 ≠ e) : kPtr.R e W1 base (fun _ => True) v xs :=
  kR_grown h hg (fun k hk => by
    obtain ⟨c, hc⟩ := kR_typed h k hk
    exact Kd.R_ne h2 hc ht)
theorem kR_far {e base : Nat} {ok : Nat → Prop} {W : World} {v : Value} {xs : List Nat} (h : kPtr.R e W base ok v xs) {b t : Nat} {c : Array Value} (hb : W.heap[b]? = some (.cells c t (0, 0))) (ht : e ≠ t) (j : Nat) (u : Value) : kPtr.R e (W.setCell ⟨b, j, none⟩ u) base (fun _ => True) v xs :=
  kR_any (Kd.R_set h hb (fun q hq => by
    have : q = e := by simpa [kPtr, Kd.scalar] using hq
    rw [this]; exact ht) j u)
structure EntB where
  k : Nat
  n : Bs
  v : Bs
structure SecB where
  b : Nat
  s : Bs
  ve : Value
  es : List EntB
structure OptB where
  k : Nat
  s : Bs
  n : Bs
  v : Bs
def OptAt (W : World) (x : OptB) : Prop := W.heap[x.k]? = some (.cells #[.string (B x.s), .string (B x.n), .string (B x.v)] 64 (0, 0))
def EntAt (W : World) (x : EntB) : Prop := W.heap[x.k]? = some (.cells #[.string (B x.n), .string (B x.v)] 81 (0, 0))
structure SecAt (W : World) (base : Nat) (x : SecB) : Prop where
  blk : W.heap[x.b]? = some (.cells #[.string (B x.s), x.ve] 79 (0, 0))
  row : kPtr.R 80 W base (fun _ => True) x.ve (x.es.map (·.k))
  ents : ∀ e ∈ x.es, EntAt W e
theorem SecAt.move {W W1 : World} {base : Nat} {x : SecB} (h : SecAt W base x) (hb : W1.heap[x.b]? = W.heap[x.b]?) (hr : kPtr.R 80 W1 base (fun _ => True) x.ve (x.es.map (·.k))) (he : ∀ (k : Nat) (c : Array Value), W.heap[k]? = some (Obj.cells c 81 (0, 0)) → W1.heap[k]? = W.heap[k]?) : SecAt W1 base x :=
  ⟨hb.trans h.blk, hr, fun e hm => (he e.k _ (h.ents e hm)).trans (h.ents e hm)⟩
structure DS (w0 W : World) (gl gb : Nat) (D : List Dat) (vd : Value) (rem : List Dat) (Ss : List SecB) (v6 : Value) (Os : List OptB) (v7 : Value) : Prop where
  below : Below w0.heap.size w0 W
  lex : W.heap[gl]? = some (.cells #[.pointer (some ⟨gb, 0, none⟩), vd, .nilIface, .string ⟨#[]⟩] 105 (0, 0))
  row : kPtr.R 106 W w0.heap.size (fun _ => True) vd (D.map (·.p))
  data : DataAt W rem
  secs : kPtr.R 76 W w0.heap.size (fun _ => True) v6 (Ss.map (·.b))
  secAt : ∀ x ∈ Ss, SecAt W w0.heap.size x
  opts : kPtr.R 55 W w0.heap.size (fun _ => True) v7 (Os.map (·.k))
  optAt : ∀ x ∈ Os, OptAt W x
  new : ∀ x ∈ rem, x.isSec = true → (w0.heap.size ≤ x.b ∧ x.b < W.heap.size) ∧ (w0.heap.size ≤ x.be ∧ x.be < W.heap.size)
  remA : (rem.filter (·.isSec)).Pairwise (fun x y => x.b ≠ y.b ∧ x.be ≠ y.be)
  apart : Ss.Pairwise (fun x y => x.b ≠ y.b ∧ x.ve.ownBlock ≠ y.ve.ownBlock)
  ge : ∀ x ∈ Ss, w0.heap.size ≤ x.b
  cross : ∀ x ∈ Ss, ∀ y ∈ rem, y.isSec = true → y.b ≠ x.b ∧ some y.be ≠ x.ve.ownBlock
namespace DS
variable {w0 W W1 : World} {gl gb : Nat} {D : List Dat} {vd : Value} {rem : List Dat} {Ss : List SecB} {v6 : Value} {Os : List OptB} {v7 : Value}
theorem more (h : DS w0 W gl gb D vd rem Ss v6 Os v7) (hb : Below W.heap.size W W1) : DS w0 W1 gl gb D vd rem Ss v6 Os v7 where
  below := (Turned.of_below hb (fun _ => False)).over h.below (fun _ h => h.elim)
  lex := (hb.block gl (blk_lt h.lex)).trans h.lex
  row := Kd.R_below h.row hb
  data := DataAt.move h.data (fun k c t hk _ => hb.block k (blk_lt hk))
  secs := Kd.R_below h.secs hb
  secAt := fun x hx => (h.secAt x hx).move (hb.block x.b (blk_lt (h.secAt x hx).blk)) (Kd.R_below (h.secAt x hx).row hb) (fun k c hk => hb.block k (blk_lt hk))
  opts := Kd.R_below h.opts hb
  optAt := fun x hx => (hb.block x.k (blk_lt (h.optAt x hx))).trans (h.optAt x hx)
  new := fun x hx hs => new_le (h.new x hx hs) hb.size
  remA := h.remA
  apart := h.apart
  ge := h.ge
  cross := h.cross
theorem tail {x : Dat} {r : List Dat} (h : DS w0 W gl gb D vd (x :: r) Ss v6 Os v7) : DS w0 W gl gb D vd r Ss v6 Os v7 where
  below := h.below
  lex := h.lex
  row := h.row
  data := fun y hy => h.data y (List.mem_cons_of_mem _ hy)
  secs := h.secs
  secAt := h.secAt
  opts := h.opts
  optAt := h.optAt
  new := fun y hy => h.new y (List.mem_cons_of_mem _ hy)
  remA := by
    have := h.remA
    rw [List.filter_cons] at this
    split at this
    · exact (List.pairwise_cons.1 this).2
    · exact this
  apart := h.apart
  ge := h.ge
  cross := fun y hy z hz => h.cross y hy z (List.mem_cons_of_mem _ hz)
theorem addOpt (h : DS w0 W gl gb D vd rem Ss v6 Os v7) (o : OptB) (ho : OptAt W o) {v7' : Value} (HR : kPtr.R 55 W1 w0.heap.size (fun _ => True) v7' (Os.map (·.k) ++ [o.k])) (HB : Below w0.heap.size w0 W1) (hg : W.grownBy W1 v7.ownBlock) :
    DS w0 W1 gl gb D vd rem Ss v6 (Os ++ [o]) v7' := by
  have st : ∀ (k : Nat) (c : Array Value) (t : Nat), W.heap[k]? = some (Obj.cells c t (0, 0)) → 55 ≠ t → W1.heap[k]? = W.heap[k]? := fun k c t hk ht => (blk_grown hk hg (Kd.R_ne h.opts hk ht)).trans hk.symm
  refine ⟨HB, (st _ _ _ h.lex (by decide)).trans h.lex, kR_other h.row h.opts hg (by decide), DataAt.move h.data (fun k c t hk ht => st k c t hk (by rcases ht with rfl | rfl | rfl | rfl <;> decide)), kR_other h.secs h.opts hg (by decide), ?_, ?_, ?_, fun x hx hs => new_le (h.new x hx hs) hg.size, h.remA, h.apart, h.ge, h.cross⟩
  · intro x hx
    have hs := h.secAt x hx
    exact hs.move (st _ _ _ hs.blk (by decide)) (kR_other hs.row h.opts hg (by decide)) (fun k c hk => st k c 81 hk (by decide))
  · rw [List.map_append]; exact HR
  · intro x hx
    rcases List.mem_append.1 hx with hx | hx
    · exact (st _ _ _ (h.optAt x hx) (by decide)).trans (h.optAt x hx)
    · rw [List.mem_singleton.1 hx]
      exact (st _ _ _ ho (by decide)).trans ho
theorem addSec {x : Dat} (h : DS w0 W gl gb D vd (x :: rem) Ss v6 Os v7) (hx : x.isSec = true) {v6' : Value} (HR : kPtr.R 76 W1 w0.heap.size (fun _ => True) v6' (Ss.map (·.b) ++ [x.b])) (HB : Below w0.heap.size w0 W1) (hg : W.grownBy W1 v6.ownBlock) :
    DS w0 W1 gl gb D vd rem (Ss ++ [⟨x.b, x.s, .slice (some ⟨x.be, 0, none⟩) 0 0, []⟩]) v6' Os v7 := by
  have st : ∀ (k : Nat) (c : Array Value) (t : Nat), W.heap[k]? = some (Obj.cells c t (0, 0)) → 76 ≠ t → W1.heap[k]? = W.heap[k]? := fun k c t hk ht => (blk_grown hk hg (Kd.R_ne h.secs hk ht)).trans hk.symm
  have ht := h.tail
  have hd := h.data x (List.mem_cons_self)
  unfold Dat.blks at hd
  rw [if_pos hx] at hd
  have hd1 : W.heap[x.b]? = some (Obj.cells #[.string (B x.s), .slice (some ⟨x.be, 0, none⟩) 0 0] 79 (0, 0)) := hd (x.b, _) (List.mem_cons_of_mem _ List.mem_cons_self)
  have hd2 : W.heap[x.be]? = some (Obj.cells #[] 80 (0, 0)) := hd (x.be, _) (List.mem_cons_of_mem _ (List.mem_cons_of_mem _ List.mem_cons_self))
  have hn := h.new x (List.mem_cons_self) hx
  refine ⟨HB, (st _ _ _ h.lex (by decide)).trans h.lex, kR_other h.row h.secs hg (by decide), DataAt.move ht.data (fun k c t hk ht => st k c t hk (by rcases ht with rfl | rfl | rfl | rfl <;> decide)), ?_, ?_, kR_other h.opts h.secs hg (by decide), ?_, fun y hy hs => new_le (ht.new y hy hs) hg.size, ht.remA, ?_, ?_, ?_⟩
  · rw [List.map_append]; exact HR
  · intro y hy
    rcases List.mem_append.1 hy with hy | hy
    · have hs := h.secAt y hy
      exact hs.move (st _ _ _ hs.blk (by decide)) (kR_other hs.row h.secs hg (by decide)) (fun k c hk => st k c 81 hk (by decide))
    · rw [List.mem_singleton.1 hy]
      refine ⟨(st _ _ _ hd1 (by decide)).trans hd1, ?_, fun e he => by simp at he⟩
      have hbe := (st _ _ _ hd2 (by decide)).trans hd2
      exact ⟨fun _ _ => trivial, [], ⟨rfl, .inr ⟨x.be, 0, #[], rfl, hn.2.1, hbe, Nat.le_refl _, by decide, by simp, rfl⟩⟩, ⟨rfl, fun j p hj => by simp at hj⟩⟩
  · intro y hy
    exact (st _ _ _ (h.optAt y hy) (by decide)).trans (h.optAt y hy)
  · rw [List.pairwise_append]
    refine ⟨h.apart, List.pairwise_singleton _ _, ?_⟩
    intro y hy z hz
    rw [List.mem_singleton.1 hz]
    have := h.cross y hy x (List.mem_cons_self) hx
    exact ⟨fun e => this.1 e.symm, fun e => this.2 e.symm⟩
  · intro y hy
    rcases List.mem_append.1 hy with hy | hy
    · exact h.ge y hy
    · rw [List.mem_singleton.1 hy]
      exact hn.1.1
  · intro y hy z hz hzs
    rcases List.mem_append.1 hy with hy | hy
    · exact h.cross y hy z (List.mem_cons_of_mem _ hz) hzs
    · rw [List.mem_singleton.1 hy]
      have hp := h.remA
      rw [List.filter_cons, if_pos hx] at hp
      have := (List.pairwise_cons.1 hp).1 z (List.mem_filter.2 ⟨hz, hzs⟩)
      refine ⟨fun e => this.1 e.symm, fun e => this.2 ?_⟩
      have e' : some z.be = some x.be := e
      exact (Option.some.inj e').symm
theorem addEnt {Sa : List SecB} {y : SecB} (h : DS w0 W gl gb D vd rem (Sa ++ [y]) v6 Os v7) (e : EntB) (he : EntAt W e) {ve' : Value} (HR : kPtr.R 80 W1 w0.heap.size (fun _ => True) ve' (y.es.map (·.k) ++ [e.k])) (HB : Below w0.heap.size w0 W1) (hg : W.grownBy W1 y.ve.ownBlock)
    (hat : ve'.ownBlock = y.ve.ownBlock ∨ ∃ b, ve'.ownBlock = some b ∧ W.heap.size ≤ b) : DS w0 (W1.setCell ⟨y.b, 1, none⟩ ve') gl gb D vd rem (Sa ++ [⟨y.b, y.s, ve', y.es ++ [e]⟩]) v6 Os v7 := by
  have hym : y ∈ Sa ++ [y] := by simp
  have hy := h.secAt y hym
  have hyb1 := blk_grown hy.blk hg (Kd.R_ne hy.row hy.blk (by decide))
  have st : ∀ (k : Nat) (o : Obj), W.heap[k]? = some o → some k ≠ y.ve.ownBlock → k ≠ y.b → (W1.setCell ⟨y.b, 1, none⟩ ve').heap[k]? = W.heap[k]? := fun k o hk h1 h2 =>
    (Below.heap_setCell W1 ⟨y.b, 1, none⟩ ve' k h2).trans ((blk_grown hk hg h1).trans hk.symm)
  have stt : ∀ (k : Nat) (c : Array Value) (t : Nat), W.heap[k]? = some (Obj.cells c t (0, 0)) → 80 ≠ t → t ≠ 79 → (W1.setCell ⟨y.b, 1, none⟩ ve').heap[k]? = W.heap[k]? := fun k c t hk h1 h2 =>
    st k _ hk (Kd.R_ne hy.row hk h1) (blk_ne hk hy.blk h2)
  have rt : ∀ {e2 b2 : Nat} {ok2 : Nat → Prop} {v : Value} {xs : List Nat}, kPtr.R e2 W b2 ok2 v xs → 80 ≠ e2 → e2 ≠ 79 → kPtr.R e2 (W1.setCell ⟨y.b, 1, none⟩ ve') b2 (fun _ => True) v xs := fun hr h1 h2 => kR_far (kR_other hr hy.row hg h1) hyb1 h2 1 ve'
  have hsz : W.heap.size ≤ (W1.setCell ⟨y.b, 1, none⟩ ve').heap.size := by
    have : (W1.setCell ⟨y.b, 1, none⟩ ve').heap.size = W1.heap.size := by simp [World.setCell]
    rw [this]
    exact hg.size
  have hap := List.pairwise_append.1 h.apart
  have hownlt : ∀ z ∈ Sa, ∀ k, z.ve.ownBlock = some k → k < W.heap.size := fun z hz k hk => by
    obtain ⟨c, hc⟩ := kR_typed (h.secAt z (List.mem_append_left _ hz)).row k hk
    exact blk_lt hc
  refine ⟨below_set HB (h.ge y hym), (stt _ _ _ h.lex (by decide) (by decide)).trans h.lex, rt h.row (by decide) (by decide), ?_, ?_, ?_, rt h.opts (by decide) (by decide), ?_, fun x hx hs => new_le (h.new x hx hs) hsz, h.remA, ?_, ?_, ?_⟩
  · intro z hz p hp
    have h1 := h.data z hz p hp
    have hc := h.cross y hym z hz
    unfold Dat.blks at hp
    split at hp
    · rename_i hs
      have hc := hc hs
      simp only [List.mem_cons, List.mem_nil_iff, or_false] at hp
      rcases hp with rfl | rfl | rfl
      · exact (stt _ _ _ h1 (by decide) (by decide)).trans h1
      · exact (st _ _ h1 (Kd.R_ne hy.row h1 (by decide)) hc.1).trans h1
      · exact (st _ _ h1 hc.2 (blk_ne h1 hy.blk (by decide))).trans h1
    · simp only [List.mem_cons, List.mem_nil_iff, or_false] at hp
      rcases hp with rfl | rfl
      · exact (stt _ _ _ h1 (by decide) (by decide)).trans h1
      · exact (stt _ _ _ h1 (by decide) (by decide)).trans h1
  · have := rt h.secs (by decide) (by decide)
    rw [List.map_append] at this ⊢
    exact this
  · intro x hx
    rcases List.mem_append.1 hx with hx | hx
    · have hs := h.secAt x (List.mem_append_left _ hx)
      have hne := hap.2.2 x hx y (by simp)
      refine hs.move (st _ _ hs.blk (Kd.R_ne hy.row hs.blk (by decide)) hne.1) ?_ (fun k c hk => stt k c 81 hk (by decide) (by decide))
      exact kR_far (kR_grown hs.row hg (fun k hk e2 => hne.2 (hk.trans e2))) hyb1 (by decide) 1 ve'
    · rw [List.mem_singleton.1 hx]
      refine ⟨by rw [blk_set hyb1]; rfl, ?_, ?_⟩
      · show kPtr.R 80 _ _ _ ve' ((y.es ++ [e]).map (·.k))
        rw [List.map_append]
        exact kR_far HR hyb1 (by decide) 1 ve'
      · intro e2 he2
        have he2' : e2 ∈ y.es ++ [e] := he2
        have hE : EntAt W e2 := by
          rcases List.mem_append.1 he2' with h3 | h3
          · exact hy.ents e2 h3
          · rw [List.mem_singleton.1 h3]; exact he
        exact (stt _ _ _ hE (by decide) (by decide)).trans hE
  · intro x hx
    exact (stt _ _ _ (h.optAt x hx) (by decide) (by decide)).trans (h.optAt x hx)
  · rw [List.pairwise_append]
    refine ⟨hap.1, List.pairwise_singleton _ _, ?_⟩
    intro z hz u hu
    rw [List.mem_singleton.1 hu]
    have hne := hap.2.2 z hz y (by simp)
    refine ⟨hne.1, ?_⟩
    show z.ve.ownBlock ≠ ve'.ownBlock
    rcases hat with h2 | ⟨b, h2, h3⟩
    · rw [h2]; exact hne.2
    · rw [h2]
      intro e2
      have := hownlt z hz b e2
      omega
  · intro x hx
    rcases List.mem_append.1 hx with hx | hx
    · exact h.ge x (List.mem_append_left _ hx)
    · rw [List.mem_singleton.1 hx]
      exact h.ge y hym
  · intro x hx z hz hzs
    rcases List.mem_append.1 hx with hx | hx
    · exact h.cross x (List.mem_append_left _ hx) z hz hzs
    · rw [List.mem_singleton.1 hx]
      have hc := h.cross y hym z hz hzs
      refine ⟨hc.1, ?_⟩
      show some z.be ≠ ve'.ownBlock
      rcases hat with h2 | ⟨b, h2, h3⟩
      · rw [h2]; exact hc.2
      · rw [h2]
        intro e2
        have := (h.new z hz hzs).2.2
        have := Option.some.inj e2
        omega
end DS
end Go.Proofs.YtocdnceckljnaaaDoor.U
namespace Go.Proofs.YtocdnceckljnaaaDoor.U
open Go.RowKit Go.Proofs.YtocdnceckljnaaaDoorW.PrintWords Go.Proofs.YtocdnceckljnaaaDoorW.PrintLast Go.Proofs.YtocdnceckljnaaaDoorW.PrintMore
set_option linter.unusedVariables false
set_option linter.unusedSimpArgs false
theorem kR_at {e base : Nat} {ok : Nat → Prop} {W : World} {v : Value} {xs : List Nat} (h : kPtr.R e W base ok v xs) (hp : 0 < xs.length) : ∃ g cap, v = .slice (some ⟨g, 0, none⟩) xs.length cap ∧ xs.length ≤ cap ∧ ∀ i x, xs[i]? = some x → W.cell? ⟨g, i, none⟩ = some (.pointer (some ⟨x, 0, none⟩)) := by
  obtain ⟨g, cap, rfl, hg, hlt, _⟩ := Kd.R_form h hp
  obtain ⟨A, c, hv, hl, hC⟩ := Kd.R_reads h
  injection hv with hA _ hcap
  subst hA hcap
  refine ⟨g, cap, rfl, hl, fun i x hx => ?_⟩
  have hi : i < xs.length := (List.getElem?_eq_some_iff.1 hx).1
  obtain ⟨ad, cs, hA, _, hK, hc⟩ := Kd.C_get hC 0 (i : Int) (by omega) (by omega)
  obtain rfl := Option.some.inj hA
  have hK' : cs = [.pointer (some ⟨xs.getD (i : Int).toNat 0, 0, none⟩)] := hK
  rw [Int.toNat_natCast, List.getD_eq_getElem?_getD, hx] at hK'
  have := hc 0 (.pointer (some ⟨x, 0, none⟩)) (by rw [hK']; rfl)
  by_cases h0 : i = 0
  · subst h0; simpa [Addr.add, kPtr, Kd.scalar] using this
  · simpa [Addr.add, kPtr, Kd.scalar, h0] using this
def SecB.sp (x : SecB) : Bs × List (Bs × Bs) := (x.s, x.es.map fun e => (e.n, e.v))
def OptB.op (x : OptB) : Bs × Bs × Bs := (x.s, x.n, x.v)
def addLast (S : List (Bs × List (Bs × Bs))) (e : Bs × Bs) : List (Bs × List (Bs × Bs)) := S.dropLast ++ (match S.getLast? with | none => [] | some y => [(y.1, y.2 ++ [e])])
def putD : List PD → List (Bs × List (Bs × Bs)) → List (Bs × Bs × Bs) → Option (List (Bs × List (Bs × Bs)) × List (Bs × Bs × Bs))
  | [], S, O => some (S, O)
  | (true, s, _, _) :: r, S, O => putD r (S ++ [(s, [])]) O
  | (false, s, n, v) :: r, S, O => if S = [] then none else putD r (addLast S (n, v)) (O ++ [(s, n, v)])
theorem addLast_at (Sa : List SecB) (y : SecB) (e : EntB) (ve : Value) : addLast ((Sa ++ [y]).map SecB.sp) (e.n, e.v) = (Sa ++ [SecB.mk y.b y.s ve (y.es ++ [e])]).map SecB.sp := by
  unfold addLast
  simp [SecB.sp]
theorem wr1 (n : Nat) (h : n ≤ 4611686018427387904) : wrap64 ((n : Int) + 1) = ((n + 1 : Nat) : Int) := by unfold wrap64; omega
theorem kR_fresh {e base g : Nat} {W : World} (hb : base ≤ g) (h : W.heap[g]? = some (Obj.cells #[] e (0, 0))) : kPtr.R e W base (fun _ => True) (.slice (some ⟨g, 0, none⟩) 0 0) [] :=
  ⟨fun _ _ => trivial, [], ⟨rfl, .inr ⟨g, 0, #[], rfl, hb, h, Nat.le_refl _, by decide, by simp, rfl⟩⟩, ⟨rfl, fun j p hj => by simp at hj⟩⟩
theorem ds_start {w0 W : World} {gl gb : Nat} {T : ByteArray} {rest : Bs} {D : List Dat} {vd : Value} (h : LS w0 gl gb T W rest D vd) :
    DS w0 ((W.alloc (.cells #[] 76)).alloc (.cells #[] 55)) gl gb D vd D [] (.slice (some ⟨W.heap.size, 0, none⟩) 0 0) [] (.slice (some ⟨W.heap.size + 1, 0, none⟩) 0 0) := by
  obtain ⟨hb, h1, h2⟩ := alloc2_facts W (.cells #[] 76) (.cells #[] 55)
  have h' := h.more hb
  have hsz := h.lx.below.size
  exact ⟨h'.lx.below, h'.lx.lex, h'.row, h'.data, kR_fresh hsz h1, fun x hx => by simp at hx, kR_fresh (by omega) h2, fun x hx => by simp at hx, h'.new, h'.apart, List.Pairwise.nil, fun x hx => by simp at hx, fun x hx => by simp at hx⟩
theorem DS.c1 {w0 W : World} {gl gb : Nat} {D : List Dat} {vd : Value} {rem : List Dat} {Ss : List SecB} {v6 : Value} {Os : List OptB} {v7 : Value} (h : DS w0 W gl gb D vd rem Ss v6 Os v7) : W.cell? ⟨gl, 1, none⟩ = some vd := by rw [blk_cell h.lex]; rfl
theorem DS.c2 {w0 W : World} {gl gb : Nat} {D : List Dat} {vd : Value} {rem : List Dat} {Ss : List SecB} {v6 : Value} {Os : List OptB} {v7 : Value} (h : DS w0 W gl gb D vd rem Ss v6 Os v7) : W.cell? ⟨gl, 2, none⟩ = some .nilIface := by rw [blk_cell h.lex]; rfl
set_option maxHeartbeats 40000000 in
set_option maxRecDepth 100000 in
theorem des_all (T : ByteArray) (w : World) (k : Nat) (R : List PD) (S' : List (Bs × List (Bs × Bs))) (O' : List (Bs × Bs × Bs)) (ht : Tabs w) (ha : ∀ c ∈ T.data.toList, c.toNat < 128) (hT : T.size ≤ 1000000000)
    (hR : lexF k .next T.data.toList [] = some R) (hP : putD R [] [] = some (S', O')) (hRl : R.length < 900000000) :
    Calls Tryd.prog 54 #[.string T] w fun e w' => ∃ (v6 v7 : Value) (Ss : List SecB) (Os : List OptB), e = .returned (.tuple #[v6, v7, .nilIface]) ∧ Below w.heap.size w w' ∧ kPtr.R 76 w' w.heap.size (fun _ => True) v6 (Ss.map (·.b)) ∧ (∀ x ∈ Ss, SecAt w' w.heap.size x) ∧ kPtr.R 55 w' w.heap.size (fun _ => True) v7 (Os.map (·.k)) ∧ (∀ x ∈ Os, OptAt w' x) ∧ Ss.map SecB.sp = S' ∧ Os.map OptB.op = O' := by
  have HTb := Aside0.mk ht
  have HA := Aside0.mk ha
  have HT := Aside0.mk hT
  have HR := Aside0.mk hR
  have HP := Aside0.mk hP
  have HRl := Aside0.mk hRl
  clear ht ha hT hR hP hRl
  go_enter Tryd.func54, Tryd.ntmps54
  go_wp2_with (first
    | (go_at_call 61; refine (new_lexer T w HTb.out HA.out (by have := HT.out; omega)).mono ?_; rintro e w1 ⟨gl, gb, rfl, hl⟩; unfold pt; have HL1 := Aside0.mk hl; clear hl)
    | (go_at_call 62; refine (lex_calls k _ R HL1.out HR.out HT.out).mono ?_; rintro e w2 ⟨rfl, rest', D, vd, hl, hmp⟩; have HL2 := Aside0.mk hl; have HMP := Aside0.mk hmp; have hc1 := hl.lx.c1; have hc1b := hl.lx.c2; obtain ⟨Av, cv, hvd⟩ := Kd.R_slice hl.row; rw [List.length_map] at hvd; subst hvd; have hcx := (ds_start hl).c1; have hlt := World.block_lt_of_cell? _ _ hc1; clear hl hmp HL1))
  have HD0 := Aside0.mk (ds_start HL2.out)
  have HDl := Aside0.mk (show D.length < 900000000 by have := congrArg List.length HMP.out; rw [List.length_map] at this; rw [this]; exact HRl.out)
  have HPd := Aside0.mk (show putD (D.map Dat.pd) [] [] = some (S', O') by rw [HMP.out]; exact HP.out)
  clear HL2 HMP hc1 hc1b hcx hlt HP HR HRl HT HA HTb
  generalize ((w2.alloc (Obj.cells #[] 76)).alloc (Obj.cells #[] 55)) = W at HD0 ⊢
  generalize (Value.slice (some { block := w2.heap.size, off := 0 }) 0 0) = v60 at HD0 ⊢
  generalize (Value.slice (some { block := w2.heap.size + 1, off := 0 }) 0 0) = v70 at HD0 ⊢
  go_loopg [23, 6, 7] D.length (fun kq v23 v6 v7 w' => ∃ (i : Nat) (Ss : List SecB) (Os : List OptB), v23 = .int .i64 i ∧ Aside0 (i + kq = D.length) ∧ Aside0 (DS w w' gl gb D (.slice Av D.length cv) (D.drop i) Ss v6 Os v7) ∧ Aside0 (putD ((D.drop i).map Dat.pd) (Ss.map SecB.sp) (Os.map OptB.op) = some (S', O')) ∧ Aside0 (Ss.length ≤ i ∧ Os.length ≤ i ∧ ∀ y ∈ Ss, y.es.length ≤ i))
  case atStart => exact ⟨0, [], [], rfl, ⟨by omega⟩, HD0, HPd, ⟨by simp⟩⟩
  case round =>
    clear HD0 HPd
    obtain ⟨i, Ss, Os, rfl, HK, HDS, HPd, HLn⟩ := hrel
    cases gk with
    | zero =>
      have hi : i = D.length := by have := HK.out; omega
      have hdr : D.drop i = [] := by rw [hi]; exact List.drop_length
      rw [hdr] at HPd HDS
      have hP2 := HPd.out
      simp only [List.map_nil, putD, Option.some.injEq, Prod.mk.injEq] at hP2
      have HP2 := Aside0.mk hP2
      have hc2 := HDS.out.c2
      have q1 : decide (i < D.length) = false := by rw [hi]; simp
      clear hi hdr hP2 HPd HK
      go_wp2
      go_quiet (fail)
      go_wp2
      refine bodyPost_ret (results_tmp3 rfl _ _ _) rfl ?_
      exact ⟨_, _, Ss, Os, rfl, (HDS.out.more (below_drewN' wr _)).below, (HDS.out.more (below_drewN' wr _)).secs, (HDS.out.more (below_drewN' wr _)).secAt, (HDS.out.more (below_drewN' wr _)).opts, (HDS.out.more (below_drewN' wr _)).optAt, HP2.out.1, HP2.out.2⟩
    | succ k1 =>
      have hi : i < D.length := by have := HK.out; omega
      obtain ⟨x, hx⟩ : ∃ x, D[i]? = some x := ⟨_, List.getElem?_eq_getElem hi⟩
      have hdr : D.drop i = x :: D.drop (i + 1) := by
        have := List.drop_eq_getElem_cons hi
        rw [List.getElem?_eq_getElem hi] at hx
        rw [this, Option.some.inj hx]
      obtain ⟨gA, cA, hvA, _, hAt⟩ := kR_at HDS.out.row (by rw [List.length_map]; omega)
      have hpA := hAt i x.p (by rw [List.getElem?_map, hx]; rfl)
      obtain rfl : Av = some ⟨gA, 0, none⟩ := by injection hvA
      clear hAt hvA hx
      rw [hdr] at HPd HDS
      have hdat := HDS.out.data x List.mem_cons_self
      have q1 : decide (i < D.length) = true := by simp; omega
      have z1 : (i : Int) < (D.length : Int) := by omega
      have hiL := Aside0.mk hi
      clear hi hdr
      generalize hrm : D.drop (i + 1) = rm at *
      have HRM := Aside0.mk hrm
      clear hrm
      by_cases hs : x.isSec = true
      · have hpd : (x :: rm).map Dat.pd = (true, x.s, x.n, x.v) :: rm.map Dat.pd := by rw [List.map_cons]; unfold Dat.pd; rw [hs]
        rw [hpd] at HPd
        unfold Dat.blks at hdat
        rw [if_pos hs] at hdat
        have hb := hdat _ List.mem_cons_self
        have HS := Aside0.mk hs
        have e0 := blk_cell hb 0
        have e2 := blk_cell hb 2
        have e0' : wr.cell? ⟨x.p, 0, none⟩ = some (.int .i64 0) := e0
        have e2' : wr.cell? ⟨x.p, 2, none⟩ = some (.pointer (some ⟨x.b, 0, none⟩)) := e2
        clear e0 e2 hb hdat hs hpd
        have hw1 := Aside0.mk (show wrap64 ((i : Int) + 1) = ((i + 1 : Nat) : Int) from wr1 i (by have := hiL.out; have := HDl.out; omega))
        go_wp2_with ((with_reducible refine gate_builtin (b := .append) (xs := #[.tmp 82, .tmp 87]) rfl ?_); at_builtin; refine Kd.R_append kPtr (w0 := w) w.heap.size rfl (.tmp 82) (.tmp 87) 75 76 (.pointer none) 8 rfl Tryd.underlying75 (by kernel_rfl) rfl (by decide) (by decide) u6 (Ss.map (·.b)) x.b [.pointer (some ⟨x.b, 0, none⟩)] (fun _ => True) (fun _ => False) rfl rfl rfl (fun _ h => h.elim) (fun _ _ => trivial) HDS.out.secs HDS.out.below HDS.out.below.size (by rw [List.length_map]; have := HLn.out.1; have := hiL.out; have := HDl.out; omega) ?_; intro v7 w9 ho hb hg hat; have HDS2 := Aside0.mk (HDS.out.addSec HS.out ho hb hg); clear ho hb hg hat)
        go_roundg k1
        case measure => omega
        case rel =>
          refine ⟨i + 1, _, Os, by first | rfl | (simp; done) | (rw [← hw1.out]), ⟨by have := HK.out; omega⟩, ⟨by rw [HRM.out]; exact HDS2.out⟩, ⟨?_⟩, ⟨?_⟩⟩
          · rw [HRM.out, List.map_append]
            exact HPd.out
          · rw [List.length_append]
            exact ⟨by have := HLn.out.1; simp only [List.length_singleton]; omega, by have := HLn.out.2.1; omega, fun y hy => by
              rcases List.mem_append.1 hy with hy | hy
              · have := HLn.out.2.2 y hy; omega
              · rw [List.mem_singleton.1 hy]; exact Nat.zero_le _⟩
      · have hs' : x.isSec = false := by simpa using hs
        have hpd : (x :: rm).map Dat.pd = (false, x.s, x.n, x.v) :: rm.map Dat.pd := by rw [List.map_cons]; unfold Dat.pd; rw [hs']
        rw [hpd] at HPd
        unfold Dat.blks at hdat
        rw [if_neg hs] at hdat
        have hb := hdat _ List.mem_cons_self
        have hb2 := hdat _ (List.mem_cons_of_mem _ List.mem_cons_self)
        have HB2 := Aside0.mk hb2
        have e0 := blk_cell hb 0
        have e1 := blk_cell hb 1
        have e0' : wr.cell? ⟨x.p, 0, none⟩ = some (.int .i64 1) := e0
        have e1' : wr.cell? ⟨x.p, 1, none⟩ = some (.pointer (some ⟨x.b, 0, none⟩)) := e1
        have f0 : wr.cell? ⟨x.b, 0, none⟩ = some (.string (B x.s)) := blk_cell hb2 0
        have f1 : wr.cell? ⟨x.b, 1, none⟩ = some (.string (B x.n)) := blk_cell hb2 1
        have f2 : wr.cell? ⟨x.b, 2, none⟩ = some (.string (B x.v)) := blk_cell hb2 2
        clear e0 e1 hb hb2 hdat hs hpd hs'
        have hP2 := HPd.out
        simp only [putD] at hP2
        split at hP2
        · simp at hP2
        rename_i hne
        have HP3 := Aside0.mk hP2
        have HNE := Aside0.mk hne
        clear hP2 hne HPd
        have hw1 := Aside0.mk (show wrap64 ((i : Int) + 1) = ((i + 1 : Nat) : Int) from wr1 i (by have := hiL.out; have := HDl.out; omega))
        go_upto_region 12 with (fail)
        have HO3 := Aside0.mk (show OptAt (wr.alloc (Obj.cells #[Value.string (B x.s), Value.string (B x.n), Value.string (B x.v)] 64)) ⟨wr.heap.size, x.s, x.n, x.v⟩ from heap_alloc_new wr _)
        have HDS3 := Aside0.mk ((HDS.out.more (below_new wr (Obj.cells #[Value.string (B x.s), Value.string (B x.n), Value.string (B x.v)] 64))).tail)
        clear hpA q1 z1 e0' e1' f0 f1 f2 HB2 HDS
        generalize (wr.alloc (Obj.cells #[Value.string (B x.s), Value.string (B x.n), Value.string (B x.v)] 64)) = w3 at HO3 HDS3 ⊢
        generalize wr.heap.size = ob at *
        obtain ⟨Sa, ⟨yb, ys, yve, yes⟩, rfl⟩ : ∃ Sa y, Ss = Sa ++ [y] := by
          rcases List.eq_nil_or_concat Ss with h | ⟨Sa, y, h⟩
          · exact absurd (by rw [h]; rfl) HNE.out
          · exact ⟨Sa, y, by rw [h, List.concat_eq_append]⟩
        obtain ⟨Ae, ce, hve⟩ : ∃ A c, yve = .slice A yes.length c := by
          obtain ⟨A, c, h⟩ := Kd.R_slice (HDS3.out.secAt ⟨yb, ys, yve, yes⟩ (by simp)).row
          rw [List.length_map] at h
          exact ⟨A, c, h⟩
        subst hve
        generalize hm : Sa.length = m at *
        have hlm : ((Sa ++ [SecB.mk yb ys (.slice Ae yes.length ce) yes]).map (·.b)).length = m + 1 := by simp [hm]
        obtain ⟨g6, c6, hv6, _, hAt6⟩ := kR_at HDS3.out.secs (by rw [hlm]; omega)
        rw [hlm] at hv6
        subst hv6
        have h6 := Aside0.mk (hAt6 m yb (by rw [← hm]; simp))
        have hvm : wrap64 (m : Int) = (m : Int) := wr0 m (by have h1 := HLn.out.1; have := hiL.out; have := HDl.out; rw [List.length_append] at h1; simp only [List.length_singleton] at h1; omega)
        have HM := Aside0.mk hm
        clear hAt6 hlm hm
        go_upto_region 16 with ((with_reducible refine gate_builtin (b := .append) (xs := #[.tmp 44, .tmp 45]) rfl ?_); at_builtin; refine Kd.R_append kPtr (w0 := w) w.heap.size rfl (.tmp 44) (.tmp 45) 56 55 (.pointer none) 8 rfl Tryd.underlying56 (by kernel_rfl) rfl (by decide) (by decide) u7 (Os.map (·.k)) ob [.pointer (some ⟨ob, 0, none⟩)] (fun _ => True) (fun _ => False) rfl rfl rfl (fun _ h => h.elim) (fun _ _ => trivial) HDS3.out.opts HDS3.out.below HDS3.out.below.size (by rw [List.length_map]; have := HLn.out.2.1; have := hiL.out; have := HDl.out; omega) ?_; intro v7 w4 ho hb hg hat; have HDS4 := Aside0.mk (HDS3.out.addOpt ⟨ob, x.s, x.n, x.v⟩ HO3.out ho hb hg); have HO4 := Aside0.mk (show OptAt w4 ⟨ob, x.s, x.n, x.v⟩ from blk_grown HO3.out hg (Kd.R_ne HDS3.out.opts HO3.out (by decide))); have h64 := Aside0.mk (cell_grown hg h6.out (fun e => by obtain ⟨c, hc⟩ := kR_typed HDS3.out.secs g6 rfl; exact Kd.R_ne HDS3.out.opts hc (by decide) e)); clear ho hb hg hat)
        have g1 := h64.out
        have g2 : w4.cell? ⟨yb, 1, none⟩ = some (.slice Ae yes.length ce) := blk_cell (HDS4.out.secAt ⟨yb, ys, .slice Ae yes.length ce, yes⟩ (by simp)).blk 1
        have g3 : w4.cell? ⟨ob, 1, none⟩ = some (.string (B x.n)) := blk_cell HO4.out 1
        have g4 : w4.cell? ⟨ob, 2, none⟩ = some (.string (B x.v)) := blk_cell HO4.out 2
        rw [hvm]
        clear hvm
        refine Go.Last.wp_region_x (S := fun w' => w'.cell? ⟨g6, m, none⟩ = some (.pointer (some ⟨yb, 0, none⟩)) ∧ w'.cell? ⟨yb, 1, none⟩ = some (.slice Ae yes.length ce) ∧ w'.cell? ⟨ob, 1, none⟩ = some (.string (B x.n)) ∧ w'.cell? ⟨ob, 2, none⟩ = some (.string (B x.v))) (n := 21) (by kernel_rfl) ?_
        have HS0 : (fun w' => w'.cell? ⟨g6, m, none⟩ = some (.pointer (some ⟨yb, 0, none⟩)) ∧ w'.cell? ⟨yb, 1, none⟩ = some (.slice Ae yes.length ce) ∧ w'.cell? ⟨ob, 1, none⟩ = some (.string (B x.n)) ∧ w'.cell? ⟨ob, 2, none⟩ = some (.string (B x.v))) w4.drew := ⟨g1, g2, g3, g4⟩
        have HDS5 := Aside0.mk (HDS4.out.more (below_drew (Below.refl w4.heap.size w4)))
        have zm : (m : Int) < (m : Int) + 1 := Int.lt_add_one_of_le (Int.le_refl (m : Int))
        change Go.Last.wpAnyX _ _ _ _ _ _ _ _ _ w4.drew
        clear g1 g2 g3 g4 HDS3 HO3 HO4 HDS4 h6 h64
        generalize w4.drew = wd at *
        show Go.Last.wpAnyX _ _ _ _ _ _ 22 _ _ _
        refine Go.Last.wpAnyX_at 22 rfl (by kernel_rfl) (by kernel_rfl) (by kernel_rfl) (by kernel_rfl) (fun _ _ _ h => h) (v := ?_) (Or.inl ⟨by rfl, ?_⟩) (by assumption) ?_
        rotate_left
        · intro w hSw
          (try dsimp only at hSw)
          go_split_ands
          go_simp
          first | done | with_reducible rfl
        (try simp only [Nat.reduceSub, Nat.reduceAdd, Act.put, List.setIfInBounds_toArray, List.set_cons_zero, List.set_cons_succ])
        refine Go.Last.wpAnyX_at 22 rfl (by kernel_rfl) (by kernel_rfl) (by kernel_rfl) (by kernel_rfl) (fun _ _ _ h => h) (v := ?_) (Or.inl ⟨by rfl, ?_⟩) (by assumption) ?_
        rotate_left
        · intro w hSw
          (try dsimp only at hSw)
          go_split_ands
          go_simp
          first | done | with_reducible rfl
        (try simp only [Nat.reduceSub, Nat.reduceAdd, Act.put, List.setIfInBounds_toArray, List.set_cons_zero, List.set_cons_succ])
        refine Go.Last.wpAnyX_at 22 rfl (by kernel_rfl) (by kernel_rfl) (by kernel_rfl) (by kernel_rfl) (fun _ _ _ h => h) (v := ?_) (Or.inl ⟨by rfl, ?_⟩) (by assumption) ?_
        rotate_left
        · intro w hSw
          (try dsimp only at hSw)
          go_split_ands
          go_simp
          first | done | with_reducible rfl
        (try simp only [Nat.reduceSub, Nat.reduceAdd, Act.put, List.setIfInBounds_toArray, List.set_cons_zero, List.set_cons_succ])
        refine Go.Last.wpAnyX_at 22 rfl (by kernel_rfl) (by kernel_rfl) (by kernel_rfl) (by kernel_rfl) (fun _ _ _ h => h) (v := ?_) (Or.inl ⟨by rfl, ?_⟩) (by assumption) ?_
        rotate_left
        · intro w hSw
          (try dsimp only at hSw)
          go_split_ands
          go_simp
          first | done | with_reducible rfl
        (try simp only [Nat.reduceSub, Nat.reduceAdd, Act.put, List.setIfInBounds_toArray, List.set_cons_zero, List.set_cons_succ])
        refine Go.Last.wpAnyX_at 22 rfl (by kernel_rfl) (by kernel_rfl) (by kernel_rfl) (by kernel_rfl) (fun _ _ _ h => h) (v := ?_) (Or.inl ⟨by rfl, ?_⟩) (by assumption) ?_
        rotate_left
        · intro w hSw
          (try dsimp only at hSw)
          go_split_ands
          go_simp
          first | done | with_reducible rfl
        (try simp only [Nat.reduceSub, Nat.reduceAdd, Act.put, List.setIfInBounds_toArray, List.set_cons_zero, List.set_cons_succ])
        refine Go.Last.wpAnyX_at 22 rfl (by kernel_rfl) (by kernel_rfl) (by kernel_rfl) (by kernel_rfl) (fun _ _ _ h => h) (v := ?_) (Or.inl ⟨by rfl, ?_⟩) (by assumption) ?_
        rotate_left
        · intro w hSw
          (try dsimp only at hSw)
          go_split_ands
          go_simp
          first | done | with_reducible rfl
        (try simp only [Nat.reduceSub, Nat.reduceAdd, Act.put, List.setIfInBounds_toArray, List.set_cons_zero, List.set_cons_succ])
        refine Go.Last.wpAnyX_at 22 rfl (by kernel_rfl) (by kernel_rfl) (by kernel_rfl) (by kernel_rfl) (fun _ _ _ h => h) (v := ?_) (Or.inl ⟨by rfl, ?_⟩) (by assumption) ?_
        rotate_left
        · intro w hSw
          (try dsimp only at hSw)
          go_split_ands
          go_simp
          first | done | with_reducible rfl
        (try simp only [Nat.reduceSub, Nat.reduceAdd, Act.put, List.setIfInBounds_toArray, List.set_cons_zero, List.set_cons_succ])
        refine Go.Last.wpAnyX_at 22 rfl (by kernel_rfl) (by kernel_rfl) (by kernel_rfl) (by kernel_rfl) (fun _ _ _ h => h) (v := ?_) (Or.inl ⟨by rfl, ?_⟩) (by assumption) ?_
        rotate_left
        · intro w hSw
          (try dsimp only at hSw)
          go_split_ands
          go_simp
          first | done | with_reducible rfl
        (try simp only [Nat.reduceSub, Nat.reduceAdd, Act.put, List.setIfInBounds_toArray, List.set_cons_zero, List.set_cons_succ])
        refine Go.Last.wpAnyX_at 22 rfl (by kernel_rfl) (by kernel_rfl) (by kernel_rfl) (by kernel_rfl) (fun _ _ _ h => h) (v := ?_) (Or.inl ⟨by rfl, ?_⟩) (by assumption) ?_
        rotate_left
        · intro w hSw
          (try dsimp only at hSw)
          go_split_ands
          go_simp
          first | done | with_reducible rfl
        (try simp only [Nat.reduceSub, Nat.reduceAdd, Act.put, List.setIfInBounds_toArray, List.set_cons_zero, List.set_cons_succ])
        refine Go.Last.wpAnyX_at 22 rfl (by kernel_rfl) (by kernel_rfl) (by kernel_rfl) (by kernel_rfl) (fun _ _ _ h => h) (v := ?_) (Or.inl ⟨by rfl, ?_⟩) (by assumption) ?_
        rotate_left
        · intro w hSw
          (try dsimp only at hSw)
          go_split_ands
          go_simp
          first | done | with_reducible rfl
        (try simp only [Nat.reduceSub, Nat.reduceAdd, Act.put, List.setIfInBounds_toArray, List.set_cons_zero, List.set_cons_succ])
        refine Go.Last.wpAnyX_at 22 rfl (by kernel_rfl) (by kernel_rfl) (by kernel_rfl) (by kernel_rfl) (fun _ _ _ h => h) (v := ?_) (Or.inl ⟨by rfl, ?_⟩) (by assumption) ?_
        rotate_left
        · intro w hSw
          (try dsimp only at hSw)
          go_split_ands
          go_simp
          first | done | with_reducible rfl
        (try simp only [Nat.reduceSub, Nat.reduceAdd, Act.put, List.setIfInBounds_toArray, List.set_cons_zero, List.set_cons_succ])
        refine Go.Last.wpAnyX_at 22 rfl (by kernel_rfl) (by kernel_rfl) (by kernel_rfl) (by kernel_rfl) (fun _ _ _ h => h) (v := ?_) (Or.inl ⟨by rfl, ?_⟩) (by assumption) ?_
        rotate_left
        · intro w hSw
          (try dsimp only at hSw)
          go_split_ands
          go_simp
          first | done | with_reducible rfl
        (try simp only [Nat.reduceSub, Nat.reduceAdd, Act.put, List.setIfInBounds_toArray, List.set_cons_zero, List.set_cons_succ])
        refine Go.Last.wpAnyX_at 22 rfl (by kernel_rfl) (by kernel_rfl) (by kernel_rfl) (by kernel_rfl) (fun _ _ _ h => h) (v := ?_) (Or.inl ⟨by rfl, ?_⟩) (by assumption) ?_
        rotate_left
        · intro w hSw
          (try dsimp only at hSw)
          go_split_ands
          go_simp
          first | done | with_reducible rfl
        (try simp only [Nat.reduceSub, Nat.reduceAdd, Act.put, List.setIfInBounds_toArray, List.set_cons_zero, List.set_cons_succ])
        refine Go.Last.wpAnyX_at 22 rfl (by kernel_rfl) (by kernel_rfl) (by kernel_rfl) (by kernel_rfl) (fun _ _ _ h => h) (v := ?_) (Or.inl ⟨by rfl, ?_⟩) (by assumption) ?_
        rotate_left
        · intro w hSw
          (try dsimp only at hSw)
          go_split_ands
          go_simp
          first | done | with_reducible rfl
        (try simp only [Nat.reduceSub, Nat.reduceAdd, Act.put, List.setIfInBounds_toArray, List.set_cons_zero, List.set_cons_succ])
        refine Go.Last.wpAnyX_at 22 rfl (by kernel_rfl) (by kernel_rfl) (by kernel_rfl) (by kernel_rfl) (fun _ _ _ h => h) (v := ?_) (Or.inl ⟨by rfl, ?_⟩) (by assumption) ?_
        rotate_left
        · intro w hSw
          (try dsimp only at hSw)
          go_split_ands
          go_simp
          first | done | with_reducible rfl
        (try simp only [Nat.reduceSub, Nat.reduceAdd, Act.put, List.setIfInBounds_toArray, List.set_cons_zero, List.set_cons_succ])
        refine Go.Last.wpAnyX_at 22 rfl (by kernel_rfl) (by kernel_rfl) (by kernel_rfl) (by kernel_rfl) (fun _ _ _ h => h) (v := ?_) (Or.inl ⟨by rfl, ?_⟩) (by assumption) ?_
        rotate_left
        · intro w hSw
          (try dsimp only at hSw)
          go_split_ands
          go_simp
          first | done | with_reducible rfl
        (try simp only [Nat.reduceSub, Nat.reduceAdd, Act.put, List.setIfInBounds_toArray, List.set_cons_zero, List.set_cons_succ])
        refine Go.Last.wpAnyX_one (i := 16) (o := { dst := some 70, op := Op.box 81 (Operand.tmp 69), type := 80, pos := "deserialize.go:99", after := #[{ on := 15, ground := Ground.data }], guard := none }) (by kernel_rfl) rfl ?_
        intro K2 hK2
        go_simp
        have HSb : (fun w' => w'.cell? ⟨g6, m, none⟩ = some (.pointer (some ⟨yb, 0, none⟩)) ∧ w'.cell? ⟨yb, 1, none⟩ = some (.slice Ae yes.length ce) ∧ w'.cell? ⟨ob, 1, none⟩ = some (.string (B x.n)) ∧ w'.cell? ⟨ob, 2, none⟩ = some (.string (B x.v))) (wd.alloc (Obj.cells #[.string (B x.n), .string (B x.v)] 81)) := ⟨keepcell (below_new _ _) HS0.1, keepcell (below_new _ _) HS0.2.1, keepcell (below_new _ _) HS0.2.2.1, keepcell (below_new _ _) HS0.2.2.2⟩
        refine hK2 _ _ (fun _ => HSb) ?_
        clear hK2 K2
        (try simp only [Act.put, List.setIfInBounds_toArray, List.set_cons_zero, List.set_cons_succ])
        have HE3 := Aside0.mk (show EntAt (wd.alloc (Obj.cells #[.string (B x.n), .string (B x.v)] 81)) ⟨wd.heap.size, x.n, x.v⟩ from heap_alloc_new wd _)
        have HDS6 := Aside0.mk (HDS5.out.more (below_new wd (Obj.cells #[.string (B x.n), .string (B x.v)] 81)))
        clear HS0 HDS5
        generalize (wd.alloc (Obj.cells #[.string (B x.n), .string (B x.v)] 81)) = w5 at HSb HE3 HDS6 ⊢
        generalize wd.heap.size = eb at *
        refine Go.Last.wpAnyX_one (i := 17) (o := { dst := some 71, op := Op.buildSlice 77 1 #[(0, Operand.tmp 70)], type := 77, pos := "deserialize.go:99", after := #[{ on := 16, ground := Ground.data }], guard := none }) (by kernel_rfl) rfl ?_
        intro K4 hK4
        go_simp
        have HSd : (fun w' => w'.cell? ⟨g6, m, none⟩ = some (.pointer (some ⟨yb, 0, none⟩)) ∧ w'.cell? ⟨yb, 1, none⟩ = some (.slice Ae yes.length ce) ∧ w'.cell? ⟨ob, 1, none⟩ = some (.string (B x.n)) ∧ w'.cell? ⟨ob, 2, none⟩ = some (.string (B x.v))) (w5.alloc (Obj.cells #[.pointer (some ⟨eb, 0, none⟩)] 80)) := ⟨keepcell (below_new _ _) HSb.1, keepcell (below_new _ _) HSb.2.1, keepcell (below_new _ _) HSb.2.2.1, keepcell (below_new _ _) HSb.2.2.2⟩
        refine hK4 _ _ (fun _ => HSd) ?_
        clear hK4 K4
        (try simp only [Act.put, List.setIfInBounds_toArray, List.set_cons_zero, List.set_cons_succ])
        refine Go.Last.wpAnyX_one (i := 18) (o := { dst := some 72, op := Op.call { callee := Callee.builtin Builtin.append, args := #[Operand.tmp 64, Operand.tmp 71], argTypes := #[77, 77] }, type := 77, pos := "deserialize.go:99", after := #[{ on := 10, ground := Ground.data }, { on := 17, ground := Ground.data }], guard := none }) (by kernel_rfl) rfl ?_
        intro K5 hK5
        have HSA := Aside0.mk (HDS6.out.secAt ⟨yb, ys, .slice Ae yes.length ce, yes⟩ (by simp))
        refine Kd.R_append_step (w0 := w) kPtr w.heap.size (by rfl) (.tmp 64) (.tmp 71) 77 80 (.pointer none) 8 rfl (by kernel_rfl) (by kernel_rfl) (by decide) (by decide) (by decide) (Value.slice Ae yes.length ce) (yes.map (·.k)) eb [.pointer (some ⟨eb, 0, none⟩)] (fun _ => True) (fun _ => False) rfl rfl rfl (fun _ h => h.elim) (fun _ _ => trivial) HSA.out.row HDS6.out.below HDS6.out.below.size (by rw [List.length_map]; have := HLn.out.2.2 ⟨yb, ys, .slice Ae yes.length ce, yes⟩ (by simp); have := hiL.out; have := HDl.out; have h4 : yes.length ≤ i := HLn.out.2.2 ⟨yb, ys, .slice Ae yes.length ce, yes⟩ (by simp); omega) ?_
        intro v8 w6 HR1 HB1 hg hat
        obtain ⟨A8, c8, hv8⟩ : ∃ A c, v8 = .slice A (yes.length + 1) c := by
          obtain ⟨A, c, h⟩ := Kd.R_slice HR1
          rw [List.length_append, List.length_map] at h
          exact ⟨A, c, h⟩
        subst hv8
        have HSe : (fun w' => w'.cell? ⟨g6, m, none⟩ = some (.pointer (some ⟨yb, 0, none⟩)) ∧ w'.cell? ⟨yb, 1, none⟩ = some (.slice Ae yes.length ce) ∧ w'.cell? ⟨ob, 1, none⟩ = some (.string (B x.n)) ∧ w'.cell? ⟨ob, 2, none⟩ = some (.string (B x.v))) w6 := ⟨cell_grown hg HSb.1 (fun e => by obtain ⟨c, hc⟩ := kR_typed HDS6.out.secs g6 rfl; exact Kd.R_ne HSA.out.row hc (by decide) e), cell_grown hg HSb.2.1 (Kd.R_ne HSA.out.row HSA.out.blk (by decide)), cell_grown hg HSb.2.2.1 (Kd.R_ne HSA.out.row (HDS6.out.optAt ⟨ob, x.s, x.n, x.v⟩ (by simp)) (by decide)), cell_grown hg HSb.2.2.2 (Kd.R_ne HSA.out.row (HDS6.out.optAt ⟨ob, x.s, x.n, x.v⟩ (by simp)) (by decide))⟩
        have HF := Aside0.mk (blk_frozen (blk_grown HSA.out.blk hg (Kd.R_ne HSA.out.row HSA.out.blk (by decide))) 1)
        have HDS7 := Aside0.mk (HDS6.out.addEnt ⟨eb, x.n, x.v⟩ HE3.out HR1 HB1 hg hat)
        refine hK5 _ _ (fun _ => HSe) ?_
        clear hK5 K5 HSb HSd HR1 HB1 hg hat HDS6 HE3 HSA
        (try simp only [Act.put, List.setIfInBounds_toArray, List.set_cons_zero, List.set_cons_succ])
        refine Go.Last.wpAnyX_one (i := 19) (o := { dst := some 73, op := Op.nilCheck (Operand.tmp 57), type := 0, pos := "deserialize.go:99", after := #[{ on := 3, ground := Ground.data }, { on := 0, ground := Ground.phase }, { on := 1, ground := Ground.phase }, { on := 2, ground := Ground.phase }, { on := 3, ground := Ground.phase }, { on := 4, ground := Ground.phase }, { on := 5, ground := Ground.phase }, { on := 6, ground := Ground.phase }, { on := 7, ground := Ground.phase }, { on := 8, ground := Ground.phase }, { on := 9, ground := Ground.phase }, { on := 10, ground := Ground.phase }, { on := 11, ground := Ground.phase }, { on := 12, ground := Ground.phase }, { on := 13, ground := Ground.phase }, { on := 14, ground := Ground.phase }, { on := 15, ground := Ground.phase }, { on := 16, ground := Ground.phase }, { on := 17, ground := Ground.phase }, { on := 18, ground := Ground.phase }], guard := none }) (by kernel_rfl) rfl ?_
        intro K7 hK7
        go_simp
        refine hK7 _ _ (fun _ => HSe) ?_
        clear hK7 K7
        (try simp only [Act.put, List.setIfInBounds_toArray, List.set_cons_zero, List.set_cons_succ])
        refine Go.Last.wpAnyX_one (i := 20) (o := { dst := some 74, op := Op.fieldAddr 79 (Operand.tmp 73) 1, type := 0, pos := "deserialize.go:99", after := #[{ on := 19, ground := Ground.data }, { on := 0, ground := Ground.phase }, { on := 1, ground := Ground.phase }, { on := 2, ground := Ground.phase }, { on := 3, ground := Ground.phase }, { on := 4, ground := Ground.phase }, { on := 5, ground := Ground.phase }, { on := 6, ground := Ground.phase }, { on := 7, ground := Ground.phase }, { on := 8, ground := Ground.phase }, { on := 9, ground := Ground.phase }, { on := 10, ground := Ground.phase }, { on := 11, ground := Ground.phase }, { on := 12, ground := Ground.phase }, { on := 13, ground := Ground.phase }, { on := 14, ground := Ground.phase }, { on := 15, ground := Ground.phase }, { on := 16, ground := Ground.phase }, { on := 17, ground := Ground.phase }, { on := 18, ground := Ground.phase }], guard := none }) (by kernel_rfl) rfl ?_
        intro K8 hK8
        go_simp
        refine hK8 _ _ (fun _ => HSe) ?_
        clear hK8 K8
        (try simp only [Act.put, List.setIfInBounds_toArray, List.set_cons_zero, List.set_cons_succ])
        refine Go.Last.wpAnyX_one (i := 21) (o := { dst := none, op := Op.store 77 (Operand.tmp 74) (Operand.tmp 72), type := 0, pos := "deserialize.go:99", after := #[{ on := 20, ground := Ground.data }, { on := 18, ground := Ground.data }, { on := 18, ground := Ground.chain }, { on := 0, ground := Ground.phase }, { on := 1, ground := Ground.phase }, { on := 2, ground := Ground.phase }, { on := 3, ground := Ground.phase }, { on := 4, ground := Ground.phase }, { on := 5, ground := Ground.phase }, { on := 6, ground := Ground.phase }, { on := 7, ground := Ground.phase }, { on := 8, ground := Ground.phase }, { on := 9, ground := Ground.phase }, { on := 10, ground := Ground.phase }, { on := 11, ground := Ground.phase }, { on := 12, ground := Ground.phase }, { on := 13, ground := Ground.phase }, { on := 14, ground := Ground.phase }, { on := 15, ground := Ground.phase }, { on := 16, ground := Ground.phase }, { on := 17, ground := Ground.phase }, { on := 18, ground := Ground.phase }], guard := none }) (by kernel_rfl) rfl ?_
        intro K6 hK6
        have hcB := HSe.2.1
        have hfB := HF.out
        go_simp
        refine hK6 _ _ (fun e => absurd rfl e) ?_
        refine Go.Last.wpAnyX_done (by kernel_rfl) ?_ _
        clear hK6 K6 HSe hcB hfB HF
        have HDS8 := Aside0.mk (show DS w (w6.setCell ⟨yb, 1, none⟩ (.slice A8 (yes.length + 1) c8)) gl gb D _ rm _ _ _ _ from HDS7.out)
        clear HDS7
        generalize w6.setCell ⟨yb, 1, none⟩ (.slice A8 (yes.length + 1) c8) = w7 at HDS8 ⊢
        go_wp2
        go_roundg k1
        case measure => omega
        case rel =>
          refine ⟨i + 1, _, _, by first | rfl | (simp; done) | (rw [← hw1.out]), ⟨by have := HK.out; omega⟩, ⟨by rw [HRM.out]; exact HDS8.out⟩, ⟨?_⟩, ⟨?_⟩⟩
          · rw [HRM.out, ← addLast_at (ve := .slice A8 (yes.length + 1) c8) Sa ⟨yb, ys, .slice Ae yes.length ce, yes⟩ ⟨eb, x.n, x.v⟩]
            have hm2 : List.map OptB.op (Os ++ [OptB.mk ob x.s x.n x.v]) = List.map OptB.op Os ++ [(x.s, x.n, x.v)] := by rw [List.map_append]; rfl
            rw [hm2]
            exact HP3.out
          · have h1 := HLn.out.1
            have h2 := HLn.out.2.1
            have h3 := HLn.out.2.2
            rw [List.length_append] at h1 ⊢
            rw [List.length_append]
            simp only [List.length_singleton] at h1 ⊢
            refine ⟨by omega, by omega, fun y hy => ?_⟩
            rcases List.mem_append.1 hy with hy | hy
            · have := h3 y (List.mem_append_left _ hy); omega
            · rw [List.mem_singleton.1 hy]
              have := h3 ⟨yb, ys, .slice Ae yes.length ce, yes⟩ (by simp)
              show (yes ++ [_]).length ≤ i + 1
              rw [List.length_append]
              exact Nat.succ_le_succ this
end Go.Proofs.YtocdnceckljnaaaDoor.U
namespace Go.Proofs.YtocdnceckljnaaaDoor.U
open Go.RowKit Go.Proofs.YtocdnceckljnaaaDoorW.PrintWords Go.Proofs.YtocdnceckljnaaaDoorW.PrintLast Go.Proofs.YtocdnceckljnaaaDoorW.PrintMore
set_option linter.unusedVariables false
set_option linter.unusedSimpArgs false
def readF (T : Bs) : Option (List (Bs × List (Bs × Bs)) × List (Bs × Bs × Bs)) :=
  (lexF (3 * T.length + 10) .next T []).bind fun R => if R.length < 900000000 then putD R [] [] else none
set_option maxHeartbeats 4000000 in
set_option maxRecDepth 100000 in
theorem des_opts (T : ByteArray) (w : World) (S' : List (Bs × List (Bs × Bs))) (O' : List (Bs × Bs × Bs)) (ht : Tabs w) (ha : ∀ c ∈ T.data.toList, c.toNat < 128) (hT : T.size ≤ 1000000000) (hR : readF T.data.toList = some (S', O')) :
    Calls Tryd.prog 40 #[.string T] w fun e w' => ∃ (v7 : Value) (Os : List OptB), e = .returned (.tuple #[v7, .nilIface]) ∧ Below w.heap.size w w' ∧ kPtr.R 55 w' w.heap.size (fun _ => True) v7 (Os.map (·.k)) ∧ (∀ x ∈ Os, OptAt w' x) ∧ Os.map OptB.op = O' := by
  unfold readF at hR
  obtain ⟨R, hl, hR⟩ := Option.bind_eq_some_iff.mp hR
  split at hR
  · rename_i hRl
    have HC := Aside0.mk (des_all T w _ R S' O' ht ha hT hl hR hRl)
    clear hl hR hRl ha ht
    go_enter Tryd.func40, Tryd.ntmps40
    go_wp2_with (go_at_call 54; refine HC.out.mono ?_; rintro e w1 ⟨v6, v7, Ss, Os, rfl, hb, h1, h2, h3, h4, h5, h6⟩; have H := Aside0.mk (And.intro hb (And.intro h3 (And.intro h4 h6))); clear hb h1 h2 h3 h4 h5 h6)
    go_ret2
    exact ⟨_, Os, rfl, H.out⟩
  · simp at hR
def kOpt : Kd (Bs × Bs × Bs) := Kd.iso (Kd.pair Kd.string (Kd.pair Kd.string Kd.string)) (fun x => (B x.1, B x.2.1, B x.2.2))
theorem kOpt_mkM (w : World) (base : Nat) (ok : Nat → Prop) (x : Bs × Bs × Bs) : kOpt.M w base ok x [.string (B x.1), .string (B x.2.1), .string (B x.2.2)] :=
  ⟨[.string (B x.1)], _, rfl, rfl, [.string (B x.2.1)], [.string (B x.2.2)], rfl, rfl, rfl⟩
theorem koptE (q : Nat) (hq : q ∈ 29 :: kOpt.E) : q = 29 := by simpa [kOpt, Kd.iso, Kd.pair, Kd.string, Kd.scalar] using hq
theorem catch_idle (p q : Addr) (w : World) :
    CallsD Tryd.prog 39 #[.pointer (some p), .pointer (some q)] .returning w fun e u' w' => e = .returned (.tuple #[]) ∧ u' = .returning ∧ w' = w := by
  refine callsD_of_wpS Tryd.func39 rfl fun c₀ cs hu => ?_
  apply wpS_seq
  apply wpS_region
  simp [wpOpsS, go_sem, recoverD, hu, Tryd.ntmps39, Exit.thenS]
  refine wpS_cond (t := false) (by simp [Act.eval, Array.replicate]) ?_
  simp only [Bool.false_eq_true, if_false]
  refine wpS_of_wp (wp_skip ?_)
  cases c₀
  simp_all [bodyPostS, results, Tryd.results39]
theorem cell_of_blk {W : World} {b : Nat} {cs : Array Value} {t : TypeId} (hb : W.heap[b]? = some (.cells cs t (0, 0))) (i : Nat) (v : Value) (hv : cs[i]? = some v) : W.cell? ⟨b, i, none⟩ = some v := by
  unfold World.cell?
  simp only [hb]
  exact hv
set_option maxHeartbeats 40000000 in
set_option maxRecDepth 100000 in
theorem unit_read (T : ByteArray) (w : World) (S' : List (Bs × List (Bs × Bs))) (O' : List (Bs × Bs × Bs)) (ht : Tabs w) (ha : ∀ c ∈ T.data.toList, c.toNat < 128) (hT : T.size ≤ 1000000000) (hR : readF T.data.toList = some (S', O')) (hO : O'.length < 900000000) :
    Calls Tryd.prog 22 #[.string T] w fun e w' => ∃ v0 : Value, e = .returned (.tuple #[v0, .int .i64 0]) ∧ Kd.R kOpt 29 w' w.heap.size (fun _ => True) v0 O' ∧ Below w.heap.size w w' := by
  have HTb := Aside0.mk ht
  have HA := Aside0.mk ha
  have HT := Aside0.mk hT
  have HR0 := Aside0.mk hR
  have hrb := Aside0.mk hO
  have hnn : ∀ (w : World), (binOp .neq 61 .nilIface .nilIface).run Tryd.prog w = .ok (.bool false) w := fun _ => rfl
  clear ht ha hT hR hO
  have hmf := hmf
  go_enter_defers Tryd.func22, Tryd.ntmps22
  go_upto_region 2 with (fail)
  clear hmf
  obtain ⟨hb0, hb1, hb2⟩ := alloc2_facts w (Obj.cells #[Value.slice none 0 0] 32) (Obj.cells #[Value.int IntKind.i64 0] 3)
  have HB := Aside0.mk hb0
  have Hb1 := Aside0.mk hb1
  have Hb2 := Aside0.mk hb2
  have HTW := Aside0.mk (HTb.out.below hb0)
  clear hb0 hb1 hb2
  generalize ((w.alloc (Obj.cells #[Value.slice none 0 0] 32)).alloc (Obj.cells #[Value.int IntKind.i64 0] 3)) = W at HB Hb1 Hb2 HTW ⊢
  go_wp2_with (go_at_call 40; refine (des_opts T W S' O' HTW.out HA.out HT.out HR0.out).mono ?_; rintro e W1 ⟨v7, Os, rfl, hb, h1, h2, h3⟩; have HBW := Aside0.mk (below_over HB.out hb); have Hc1 := Aside0.mk ((hb.block _ (blk_lt Hb1.out)).trans Hb1.out); have Hc2 := Aside0.mk ((hb.block _ (blk_lt Hb2.out)).trans Hb2.out); have HRo := Aside0.mk (Kd.R_lower h1 HB.out.size); have HOs := Aside0.mk h2; have HOp := Aside0.mk h3; obtain ⟨A7, c7, hv7⟩ := Kd.R_slice h1; rw [List.length_map] at hv7; subst hv7; clear hb h1 h2 h3 Hb1 Hb2 HTW HB)
  have HB2b := Aside0.mk (show w.heap.size ≤ w.heap.size + 1 by omega)
  have hne0 : ¬ w.heap.size + 1 = w.heap.size := by omega
  have hne1 : ¬ w.heap.size = w.heap.size + 1 := by omega
  have hB12 := Aside0.mk hne1
  generalize w.heap.size + 1 = B2 at Hc2 hne0 hne1 hB12 HB2b ⊢
  have HB1b := Aside0.mk (Nat.le_refl w.heap.size)
  generalize hB1 : w.heap.size = B1 at Hc1 hne0 hne1 hB12 HB1b ⊢
  have HB1e := Aside0.mk hB1
  clear hB1
  have hol := Aside0.mk (show Os.length = O'.length by rw [← HOp.out, List.length_map])
  clear HTb HA HT HR0
  go_loopg [18] Os.length (fun kq v18 w' => ∃ (i : Nat) (u : Value), v18 = .int .i64 i ∧ Aside0 (i + kq = Os.length) ∧ Aside0 (w'.heap[B1]? = some (.cells #[u] 32 (0, 0))) ∧ Aside0 (w'.heap[B2]? = some (.cells #[.int .i64 0] 3 (0, 0))) ∧ Aside0 (Kd.R kOpt 29 w' w.heap.size (fun _ => True) u ((Os.map OptB.op).take i)) ∧ Aside0 (kPtr.R 55 w' w.heap.size (fun _ => True) (.slice A7 Os.length c7) (Os.map (·.k))) ∧ Aside0 (∀ x ∈ Os, OptAt w' x) ∧ Aside0 (Below w.heap.size w w'))
  case atStart => exact ⟨0, _, rfl, ⟨by omega⟩, Hc1, Hc2, ⟨Kd.R_nil _ _ _ _ _⟩, HRo, HOs, HBW⟩
  case round =>
    clear Hc1 Hc2 HRo HOs HBW
    obtain ⟨i, u, rfl, HI, Hb1, Hb2, HU, HR, HO, HBw⟩ := hrel
    obtain ⟨Au, cu, hu⟩ := Kd.R_slice HU.out
    rw [List.length_take, List.length_map, Nat.min_eq_left (by have := HI.out; omega)] at hu
    subst hu
    have hcb := cell_of_blk Hb1.out 0 _ rfl
    have hfb := blk_frozen Hb1.out 0
    have hcb2 := cell_of_blk Hb2.out 0 _ rfl
    have hfb2 := blk_frozen Hb2.out 0
    cases gk with
    | zero =>
      obtain rfl : i = Os.length := by have := HI.out; omega
      go_wp2_with fail
      refine leaves_cons (f := 39) (args := #[.pointer (some ⟨B1, 0, none⟩), .pointer (some ⟨B2, 0, none⟩)]) (by simp) (by simp [go_sem]) ?_
      refine (catch_idle ⟨B1, 0, none⟩ ⟨B2, 0, none⟩ _).mono ?_
      rintro e u' w'' ⟨rfl, rfl, rfl⟩
      have hs1 : (wr.setCell ⟨B1, 0, none⟩ (Value.slice Au Os.length cu)).cell? ⟨B1, 0, none⟩ = some (Value.slice Au Os.length cu) := by simp [go_sem, hcb]
      have hcb2' : (wr.setCell ⟨B1, 0, none⟩ (Value.slice Au Os.length cu)).cell? ⟨B2, 0, none⟩ = some (.int .i64 0) := by simp [go_sem, hcb2, hne0]
      have hs2 : ((wr.setCell ⟨B1, 0, none⟩ (Value.slice Au Os.length cu)).setCell ⟨B2, 0, none⟩ (.int .i64 0)).cell? ⟨B2, 0, none⟩ = some (.int .i64 0) := by simp [go_sem, hcb2']
      have hB2' : (wr.setCell ⟨B1, 0, none⟩ (Value.slice Au Os.length cu)).heap[B2]? = some (.cells #[.int .i64 0] 3 (0, 0)) := (Below.heap_setCell wr ⟨B1, 0, none⟩ _ B2 hne0).trans Hb2.out
      have hU : Kd.R kOpt 29 wr w.heap.size (fun _ => True) (.slice Au Os.length cu) O' := by
        have h := HU.out
        rw [List.take_of_length_le (by rw [List.length_map]; exact Nat.le_refl _), HOp.out] at h
        exact h
      have R1 := Aside0.mk (Kd.R_set (Kd.R_set hU Hb1.out (fun q hq => by rw [koptE q hq]; decide) 0 (Value.slice Au Os.length cu)) hB2' (fun q hq => by rw [koptE q hq]; decide) 0 (.int .i64 0))
      have BW := Aside0.mk (below_set (below_set HBw.out (Nat.le_of_eq HB1e.out) (v := Value.slice Au Os.length cu) (j := 0)) HB2b.out (v := .int .i64 0) (j := 0))
      clear hU hB2'
      simp [Leaves, settle, results, Tryd.results22, go_sem, hs1, hs2]
      exact ⟨R1.out, BW.out⟩
    | succ k1 =>
      have hi0 : i < Os.length := by have := HI.out; omega
      obtain ⟨x, hx⟩ : ∃ x, Os[i]? = some x := ⟨_, List.getElem?_eq_getElem hi0⟩
      obtain ⟨gA, cA, hvA, _, hAt⟩ := kR_at HR.out (by rw [List.length_map]; omega)
      have hpA := hAt i x.k (by rw [List.getElem?_map, hx]; rfl)
      obtain rfl : A7 = some ⟨gA, 0, none⟩ := by injection hvA
      have hX := Aside0.mk (HO.out x (List.mem_of_getElem? hx))
      have hm := Aside0.mk (show (Os.map OptB.op)[i]? = some (OptB.op x) by rw [List.getElem?_map, hx]; rfl)
      have g0 := cell_of_blk hX.out 0 _ rfl
      have g1 := cell_of_blk hX.out 1 _ rfl
      have g2 := cell_of_blk hX.out 2 _ rfl
      clear hAt hvA hx
      have q1 : decide (i < Os.length) = true := by simp; omega
      have z1 : (i : Int) < (Os.length : Int) := by omega
      have HI0 := Aside0.mk hi0
      clear hi0
      go_upto_region 8 with (fail)
      clear hcb2 hfb2 hne0 hne1
      refine wp_region_noPanic ?_
      refine Go.Last.wp_region_x (S := fun w' => w'.cell? ⟨B1, 0, none⟩ = some (Value.slice Au i cu) ∧ w'.cell? ⟨x.k, 0, none⟩ = some (.string (B x.s)) ∧ w'.cell? ⟨x.k, 1, none⟩ = some (.string (B x.n)) ∧ w'.cell? ⟨x.k, 2, none⟩ = some (.string (B x.v))) (n := 16) (by kernel_rfl) ?_
      have HS : (fun w' => w'.cell? ⟨B1, 0, none⟩ = some (Value.slice Au i cu) ∧ w'.cell? ⟨x.k, 0, none⟩ = some (.string (B x.s)) ∧ w'.cell? ⟨x.k, 1, none⟩ = some (.string (B x.n)) ∧ w'.cell? ⟨x.k, 2, none⟩ = some (.string (B x.v))) wr.drew := ⟨hcb, g0, g1, g2⟩
      have HUd := Aside0.mk (show Kd.R kOpt 29 wr.drew w.heap.size (fun _ => True) (.slice Au i cu) ((Os.map OptB.op).take i) from HU.out)
      have HRd := Aside0.mk (show kPtr.R 55 wr.drew w.heap.size (fun _ => True) (.slice (some ⟨gA, 0, none⟩) Os.length c7) (Os.map (·.k)) from HR.out)
      have HOd := Aside0.mk (show ∀ x ∈ Os, OptAt wr.drew x from HO.out)
      have HBd := Aside0.mk (show Below w.heap.size w wr.drew from ⟨HBw.out.os, HBw.out.tape, HBw.out.output, HBw.out.size, HBw.out.block⟩)
      have Hb1d := Aside0.mk (show wr.drew.heap[B1]? = some (.cells #[Value.slice Au i cu] 32 (0, 0)) from Hb1.out)
      have Hb2d := Aside0.mk (show wr.drew.heap[B2]? = some (.cells #[.int .i64 0] 3 (0, 0)) from Hb2.out)
      have hblkd := Aside0.mk (show OptAt wr.drew x from hX.out)
      change Go.Last.wpAnyX _ _ _ _ _ _ _ _ _ wr.drew
      clear hcb g0 g1 g2 hpA hfb HU HR HBw Hb1 Hb2 hX HO
      generalize wr.drew = wd at *
      show Go.Last.wpAnyX _ _ _ _ _ _ 17 _ _ _
      refine Go.Last.wpAnyX_at 17 rfl (by kernel_rfl) (by kernel_rfl) (by kernel_rfl) (by kernel_rfl) (fun _ _ _ h => h) (v := ?_) (Or.inl ⟨by rfl, ?_⟩) (by assumption) ?_
      rotate_left
      · intro w hSw
        (try dsimp only at hSw)
        go_split_ands
        go_simp
        first | done | with_reducible rfl
      (try simp only [Nat.reduceSub, Nat.reduceAdd, Act.put, List.setIfInBounds_toArray, List.set_cons_zero, List.set_cons_succ])
      refine Go.Last.wpAnyX_at 17 rfl (by kernel_rfl) (by kernel_rfl) (by kernel_rfl) (by kernel_rfl) (fun _ _ _ h => h) (v := ?_) (Or.inl ⟨by rfl, ?_⟩) (by assumption) ?_
      rotate_left
      · intro w hSw
        (try dsimp only at hSw)
        go_split_ands
        go_simp
        first | done | with_reducible rfl
      (try simp only [Nat.reduceSub, Nat.reduceAdd, Act.put, List.setIfInBounds_toArray, List.set_cons_zero, List.set_cons_succ])
      refine Go.Last.wpAnyX_at 17 rfl (by kernel_rfl) (by kernel_rfl) (by kernel_rfl) (by kernel_rfl) (fun _ _ _ h => h) (v := ?_) (Or.inl ⟨by rfl, ?_⟩) (by assumption) ?_
      rotate_left
      · intro w hSw
        (try dsimp only at hSw)
        go_split_ands
        go_simp
        first | done | with_reducible rfl
      (try simp only [Nat.reduceSub, Nat.reduceAdd, Act.put, List.setIfInBounds_toArray, List.set_cons_zero, List.set_cons_succ])
      refine Go.Last.wpAnyX_at 17 rfl (by kernel_rfl) (by kernel_rfl) (by kernel_rfl) (by kernel_rfl) (fun _ _ _ h => h) (v := ?_) (Or.inl ⟨by rfl, ?_⟩) (by assumption) ?_
      rotate_left
      · intro w hSw
        (try dsimp only at hSw)
        go_split_ands
        go_simp
        first | done | with_reducible rfl
      (try simp only [Nat.reduceSub, Nat.reduceAdd, Act.put, List.setIfInBounds_toArray, List.set_cons_zero, List.set_cons_succ])
      refine Go.Last.wpAnyX_at 17 rfl (by kernel_rfl) (by kernel_rfl) (by kernel_rfl) (by kernel_rfl) (fun _ _ _ h => h) (v := ?_) (Or.inl ⟨by rfl, ?_⟩) (by assumption) ?_
      rotate_left
      · intro w hSw
        (try dsimp only at hSw)
        go_split_ands
        go_simp
        first | done | with_reducible rfl
      (try simp only [Nat.reduceSub, Nat.reduceAdd, Act.put, List.setIfInBounds_toArray, List.set_cons_zero, List.set_cons_succ])
      refine Go.Last.wpAnyX_at 17 rfl (by kernel_rfl) (by kernel_rfl) (by kernel_rfl) (by kernel_rfl) (fun _ _ _ h => h) (v := ?_) (Or.inl ⟨by rfl, ?_⟩) (by assumption) ?_
      rotate_left
      · intro w hSw
        (try dsimp only at hSw)
        go_split_ands
        go_simp
        first | done | with_reducible rfl
      (try simp only [Nat.reduceSub, Nat.reduceAdd, Act.put, List.setIfInBounds_toArray, List.set_cons_zero, List.set_cons_succ])
      refine Go.Last.wpAnyX_at 17 rfl (by kernel_rfl) (by kernel_rfl) (by kernel_rfl) (by kernel_rfl) (fun _ _ _ h => h) (v := ?_) (Or.inl ⟨by rfl, ?_⟩) (by assumption) ?_
      rotate_left
      · intro w hSw
        (try dsimp only at hSw)
        go_split_ands
        go_simp
        first | done | with_reducible rfl
      (try simp only [Nat.reduceSub, Nat.reduceAdd, Act.put, List.setIfInBounds_toArray, List.set_cons_zero, List.set_cons_succ])
      refine Go.Last.wpAnyX_at 17 rfl (by kernel_rfl) (by kernel_rfl) (by kernel_rfl) (by kernel_rfl) (fun _ _ _ h => h) (v := ?_) (Or.inl ⟨by rfl, ?_⟩) (by assumption) ?_
      rotate_left
      · intro w hSw
        (try dsimp only at hSw)
        go_split_ands
        go_simp
        first | done | with_reducible rfl
      (try simp only [Nat.reduceSub, Nat.reduceAdd, Act.put, List.setIfInBounds_toArray, List.set_cons_zero, List.set_cons_succ])
      refine Go.Last.wpAnyX_at 17 rfl (by kernel_rfl) (by kernel_rfl) (by kernel_rfl) (by kernel_rfl) (fun _ _ _ h => h) (v := ?_) (Or.inl ⟨by rfl, ?_⟩) (by assumption) ?_
      rotate_left
      · intro w hSw
        (try dsimp only at hSw)
        go_split_ands
        go_simp
        first | done | with_reducible rfl
      (try simp only [Nat.reduceSub, Nat.reduceAdd, Act.put, List.setIfInBounds_toArray, List.set_cons_zero, List.set_cons_succ])
      refine Go.Last.wpAnyX_at 17 rfl (by kernel_rfl) (by kernel_rfl) (by kernel_rfl) (by kernel_rfl) (fun _ _ _ h => h) (v := ?_) (Or.inl ⟨by rfl, ?_⟩) (by assumption) ?_
      rotate_left
      · intro w hSw
        (try dsimp only at hSw)
        go_split_ands
        go_simp
        first | done | with_reducible rfl
      (try simp only [Nat.reduceSub, Nat.reduceAdd, Act.put, List.setIfInBounds_toArray, List.set_cons_zero, List.set_cons_succ])
      refine Go.Last.wpAnyX_at 17 rfl (by kernel_rfl) (by kernel_rfl) (by kernel_rfl) (by kernel_rfl) (fun _ _ _ h => h) (v := ?_) (Or.inl ⟨by rfl, ?_⟩) (by assumption) ?_
      rotate_left
      · intro w hSw
        (try dsimp only at hSw)
        go_split_ands
        go_simp
        first | done | with_reducible rfl
      (try simp only [Nat.reduceSub, Nat.reduceAdd, Act.put, List.setIfInBounds_toArray, List.set_cons_zero, List.set_cons_succ])
      refine Go.Last.wpAnyX_at 17 rfl (by kernel_rfl) (by kernel_rfl) (by kernel_rfl) (by kernel_rfl) (fun _ _ _ h => h) (v := ?_) (Or.inl ⟨by rfl, ?_⟩) (by assumption) ?_
      rotate_left
      · intro w hSw
        (try dsimp only at hSw)
        go_split_ands
        go_simp
        first | done | with_reducible rfl
      (try simp only [Nat.reduceSub, Nat.reduceAdd, Act.put, List.setIfInBounds_toArray, List.set_cons_zero, List.set_cons_succ])
      refine Go.Last.wpAnyX_at 17 rfl (by kernel_rfl) (by kernel_rfl) (by kernel_rfl) (by kernel_rfl) (fun _ _ _ h => h) (v := ?_) (Or.inl ⟨by rfl, ?_⟩) (by assumption) ?_
      rotate_left
      · intro w hSw
        (try dsimp only at hSw)
        go_split_ands
        go_simp
        first | done | with_reducible rfl
      (try simp only [Nat.reduceSub, Nat.reduceAdd, Act.put, List.setIfInBounds_toArray, List.set_cons_zero, List.set_cons_succ])
      refine Go.Last.wpAnyX_at 17 rfl (by kernel_rfl) (by kernel_rfl) (by kernel_rfl) (by kernel_rfl) (fun _ _ _ h => h) (v := ?_) (Or.inl ⟨by rfl, ?_⟩) (by assumption) ?_
      rotate_left
      · intro w hSw
        (try dsimp only at hSw)
        go_split_ands
        go_simp
        first | done | with_reducible rfl
      (try simp only [Nat.reduceSub, Nat.reduceAdd, Act.put, List.setIfInBounds_toArray, List.set_cons_zero, List.set_cons_succ])
      refine Go.Last.wpAnyX_one (i := 14) (o := { dst := some 36, op := Op.buildSlice 32 1 #[(0, Operand.tmp 35)], type := 32, pos := "units.go:60", after := #[{ on := 13, ground := Ground.data }], guard := none }) (by kernel_rfl) rfl ?_
      intro K1 hK1
      go_simp
      have HSb : (fun w' => w'.cell? ⟨B1, 0, none⟩ = some (Value.slice Au i cu) ∧ w'.cell? ⟨x.k, 0, none⟩ = some (.string (B x.s)) ∧ w'.cell? ⟨x.k, 1, none⟩ = some (.string (B x.n)) ∧ w'.cell? ⟨x.k, 2, none⟩ = some (.string (B x.v))) (wd.alloc (Obj.cells #[.string (B x.s), .string (B x.n), .string (B x.v)] 29)) := ⟨keepcell (below_new _ _) HS.1, keepcell (below_new _ _) HS.2.1, keepcell (below_new _ _) HS.2.2.1, keepcell (below_new _ _) HS.2.2.2⟩
      refine hK1 _ _ (fun _ => HSb) ?_
      clear hK1 K1
      (try simp only [Act.put, List.setIfInBounds_toArray, List.set_cons_zero, List.set_cons_succ])
      refine Go.Last.wpAnyX_one (i := 15) (o := { dst := some 37, op := Op.call { callee := Callee.builtin Builtin.append, args := #[Operand.tmp 22, Operand.tmp 36], argTypes := #[32, 32] }, type := 32, pos := "units.go:60", after := #[{ on := 0, ground := Ground.data }, { on := 14, ground := Ground.data }], guard := none }) (by kernel_rfl) rfl ?_
      intro K2 hK2
      have hlen := Aside0.mk (show (List.take i (Os.map OptB.op)).length = i by rw [List.length_take, List.length_map]; have := HI0.out; omega)
      have hneB := Aside0.mk (show some B1 ≠ (Value.slice Au i cu).ownBlock from Kd.R_ne HUd.out Hb1d.out (by decide))
      have hneI := Aside0.mk (show some x.k ≠ (Value.slice Au i cu).ownBlock from Kd.R_ne HUd.out hblkd.out (by decide))
      refine Kd.R_append_step (w0 := w) kOpt w.heap.size (by rfl) (.tmp 22) (.tmp 36) 32 29 (.agg #[.string ⟨#[]⟩, .string ⟨#[]⟩, .string ⟨#[]⟩]) 48 rfl (by kernel_rfl) (by kernel_rfl) (by decide) (by decide) (by decide) (Value.slice Au i cu) ((Os.map OptB.op).take i) (OptB.op x) [.string (B x.s), .string (B x.n), .string (B x.v)] (fun _ => True) (fun _ => False) rfl rfl (kOpt_mkM _ _ _ (OptB.op x)) (fun _ h => h.elim) (fun _ _ => trivial) HUd.out HBd.out HBd.out.size (by rw [hlen.out]; have := hrb.out; have := hol.out; have := HI0.out; omega) ?_
      intro v1 w1 HR1 HB1 hg hat
      have hT : (Os.map OptB.op).take i ++ [OptB.op x] = (Os.map OptB.op).take (i + 1) := by rw [List.take_add_one, hm.out]; rfl
      rw [hT] at HR1
      clear hT
      obtain ⟨Av, cv, hv⟩ := Kd.R_slice HR1
      rw [List.length_take, List.length_map, Nat.min_eq_left (by have := HI0.out; omega)] at hv
      subst hv
      have Hb1e := Aside0.mk ((hg.block _ (blk_lt Hb1d.out) hneB.out).trans Hb1d.out)
      have HSe : (fun w' => w'.cell? ⟨B1, 0, none⟩ = some (Value.slice Au i cu) ∧ w'.cell? ⟨x.k, 0, none⟩ = some (.string (B x.s)) ∧ w'.cell? ⟨x.k, 1, none⟩ = some (.string (B x.n)) ∧ w'.cell? ⟨x.k, 2, none⟩ = some (.string (B x.v))) w1 := ⟨cell_grown hg HS.1 hneB.out, cell_grown hg HS.2.1 hneI.out, cell_grown hg HS.2.2.1 hneI.out, cell_grown hg HS.2.2.2 hneI.out⟩
      refine hK2 _ _ (fun _ => HSe) ?_
      clear hK2 K2 HSb HS
      (try simp only [Act.put, List.setIfInBounds_toArray, List.set_cons_zero, List.set_cons_succ])
      refine Go.Last.wpAnyX_one (i := 16) (o := { dst := none, op := Op.store 32 (Operand.tmp 2) (Operand.tmp 37), type := 0, pos := "units.go:60", after := #[{ on := 15, ground := Ground.data }, { on := 15, ground := Ground.chain }, { on := 0, ground := Ground.phase }, { on := 1, ground := Ground.phase }, { on := 2, ground := Ground.phase }, { on := 3, ground := Ground.phase }, { on := 4, ground := Ground.phase }, { on := 5, ground := Ground.phase }, { on := 6, ground := Ground.phase }, { on := 7, ground := Ground.phase }, { on := 8, ground := Ground.phase }, { on := 9, ground := Ground.phase }, { on := 10, ground := Ground.phase }, { on := 11, ground := Ground.phase }, { on := 12, ground := Ground.phase }, { on := 13, ground := Ground.phase }, { on := 14, ground := Ground.phase }, { on := 15, ground := Ground.phase }], guard := none }) (by kernel_rfl) rfl ?_
      intro K3 hK3
      have hcB := cell_of_blk Hb1e.out 0 _ rfl
      have hfB := blk_frozen Hb1e.out 0
      go_simp
      refine hK3 _ _ (fun e => absurd rfl e) ?_
      refine Go.Last.wpAnyX_done (by kernel_rfl) ?_ _
      refine NoPanic.normal ?_
      have hne2 := Aside0.mk (show some B2 ≠ (Value.slice Au i cu).ownBlock from Kd.R_ne HUd.out Hb2d.out (by decide))
      have Hb2e := Aside0.mk ((hg.block _ (blk_lt Hb2d.out) hne2.out).trans Hb2d.out)
      have HRe := Aside0.mk (Kd.R_over HRd.out HUd.out (fun q hq => by have h : q = 55 := by simpa [kPtr, Kd.scalar] using hq
                                                                       rw [h]; decide) hg)
      have HOe := Aside0.mk (fun (y : OptB) (hy : y ∈ Os) => (show OptAt w1 y from blk_grown (HOd.out y hy) hg (Kd.R_ne HUd.out (HOd.out y hy) (by decide))))
      have Q1 := Aside0.mk (blk_set Hb1e.out 0 (Value.slice Av (i + 1) cv))
      have Q2 := Aside0.mk ((Below.heap_setCell w1 ⟨B1, 0, none⟩ (Value.slice Av (i + 1) cv) B2 (fun e => hB12.out e.symm)).trans Hb2e.out)
      have Q3 := Aside0.mk (Kd.R_set HR1 Hb1e.out (fun q hq => by rw [koptE q hq]; decide) 0 (Value.slice Av (i + 1) cv))
      have Q4 := Aside0.mk (kR_far HRe.out Hb1e.out (by decide) 0 (Value.slice Av (i + 1) cv))
      have Q6 := Aside0.mk (fun (y : OptB) (hy : y ∈ Os) => (show OptAt (w1.setCell ⟨B1, 0, none⟩ (Value.slice Av (i + 1) cv)) y from (Below.heap_setCell w1 ⟨B1, 0, none⟩ _ y.k (blk_ne (HOe.out y hy) Hb1e.out (by decide))).trans (HOe.out y hy)))
      have Q5 := Aside0.mk (below_set HB1 (Nat.le_of_eq HB1e.out) (v := Value.slice Av (i + 1) cv) (j := 0))
      have hw := Aside0.mk (show wrap64 ((i : Int) + 1) = ((i + 1 : Nat) : Int) from wr1 i (by have := hrb.out; have := hol.out; have := HI0.out; omega))
      clear hcB hfB HR1 HB1 HSe HUd HRd HBd Hb1d Hb2d hblkd Hb1e Hb2e HRe hg hat hK3 K3 hneB hneI hne2 HOd HOe hlen
      generalize w1.setCell ⟨B1, 0, none⟩ (Value.slice Av (i + 1) cv) = w2 at Q1 Q2 Q3 Q4 Q5 Q6 ⊢
      go_wp2
      go_roundg k1
      case measure => omega
      case rel =>
        refine ⟨i + 1, _, by first | rfl | (simp; done) | (rw [← hw.out]), ⟨by have := HI.out; omega⟩, ⟨by simpa using Q1.out⟩, Q2, Q3, Q4, Q6, ⟨?_⟩⟩
        exact Q5.out
end Go.Proofs.YtocdnceckljnaaaDoor.U
