/- The texts QA0x2, QA0x3, without what the claims do not use, laid together by a program of this session (wip/tools/bundle.py). Conditions: those of each theorem. -/
import Derived.Test.YtabfehcpcjcomaaGreatDoorRc2
namespace Go.Proofs.YtabfehcpcjcomaaGreatDoor.QA0
open Go.RowKit Go.Proofs.YtabfehcpcjcomaaGreatDoorW.PrintWords Go.Proofs.YtabfehcpcjcomaaGreatDoorW.PrintLast Go.Proofs.YtabfehcpcjcomaaGreatDoorW.PrintMore
attribute [local go_sem] max2_int min2_int max_two min_two max_three min_three max_four min_four
set_option linter.unusedVariables false
set_option linter.unusedSimpArgs false
def strings_Fields.f (a0 : ByteArray) : Option (List ByteArray) := R.fieldsF a0
theorem strings_Fields.calls (a0 : ByteArray) (r : List ByteArray) (w : World) (h : strings_Fields.f a0 = some r) (ht : R.LTabs w := by first | assumption | exact Aside0.out ‹Aside0 (R.LTabs _)› | exact R.LTabs.below (Aside0.out ‹Aside0 (R.LTabs _)›) (by repeat (first | (with_reducible first | exact Aside0.out ‹Aside0 (Below _ _ _)› | exact Below.refl _ _ | apply below_alloc | apply pw_below_drewN | apply below_drew1)))) :
 Calls Tryz.prog 132 #[.string a0] w fun e w' => ∃ v0_ : Value, e = .returned (v0_) ∧ Kd.R Kd.string 9 w' w.heap.size (fun _ => True) v0_ r ∧ Below w.heap.size w w' :=
 R.fields_calls a0 r w h ht
end Go.Proofs.YtabfehcpcjcomaaGreatDoor.QA0
namespace Go.Proofs.YtabfehcpcjcomaaGreatDoor.QA0
open Go.RowKit Go.Proofs.YtabfehcpcjcomaaGreatDoorW.PrintWords Go.Proofs.YtabfehcpcjcomaaGreatDoorW.PrintLast Go.Proofs.YtabfehcpcjcomaaGreatDoorW.PrintMore
attribute [local go_sem] max2_int min2_int max_two min_two max_three min_three max_four min_four
set_option linter.unusedVariables false
set_option linter.unusedSimpArgs false
def IsS187 (w0 W : World) (g : Nat) (f0 : ByteArray) (f1 : ByteArray) (f2 : Int) (f3 : Option Int) : Prop := W.heap[g]? = some (.cells #[.string f0, .string f1, .int .i64 f2, errW f3] 187 (0, 0)) ∧ w0.heap.size ≤ g
theorem IsS187.grown {w0 W : World} {g : Nat} {f0 : ByteArray} {f1 : ByteArray} {f2 : Int} {f3 : Option Int} {W1 : World} {row : Option Nat} (h : IsS187 w0 W g f0 f1 f2 f3) (hw : W.grownBy W1 row) (hne : some g ≠ row) : IsS187 w0 W1 g f0 f1 f2 f3 := by
 obtain ⟨hb, hg⟩ := h; exact ⟨blk_grown hb hw hne, hg⟩
theorem IsS187.kept {w0 W : World} {g : Nat} {f0 : ByteArray} {f1 : ByteArray} {f2 : Int} {f3 : Option Int} {W1 : World} {S : Nat → Prop} (h : IsS187 w0 W g f0 f1 f2 f3) (hk : Kept W W1 S) (hne : ¬ S g) : IsS187 w0 W1 g f0 f1 f2 f3 := by
 obtain ⟨hb, hg⟩ := h; exact ⟨blk_kept hb hk hne, hg⟩
theorem IsS187.below {w0 W : World} {g : Nat} {f0 : ByteArray} {f1 : ByteArray} {f2 : Int} {f3 : Option Int} {W1 : World} (h : IsS187 w0 W g f0 f1 f2 f3) (hw : Below W.heap.size W W1) : IsS187 w0 W1 g f0 f1 f2 f3 := h.grown (grown_of_below hw none) (by simp)
theorem IsS187.alloc {w0 W : World} {g : Nat} {f0 : ByteArray} {f1 : ByteArray} {f2 : Int} {f3 : Option Int} (h : IsS187 w0 W g f0 f1 f2 f3) (o : Obj) : IsS187 w0 (W.alloc o) g f0 f1 f2 f3 := h.below (below_alloc (Below.refl _ _) o)
theorem IsS187.drewN {w0 W : World} {g : Nat} {f0 : ByteArray} {f1 : ByteArray} {f2 : Int} {f3 : Option Int} (h : IsS187 w0 W g f0 f1 f2 f3) (m : Nat) : IsS187 w0 (W.drewN m) g f0 f1 f2 f3 := h
theorem IsS187.drew {w0 W : World} {g : Nat} {f0 : ByteArray} {f1 : ByteArray} {f2 : Int} {f3 : Option Int} (h : IsS187 w0 W g f0 f1 f2 f3) : IsS187 w0 W.drew g f0 f1 f2 f3 := h
theorem IsS187.at_ {w0 W : World} {g : Nat} {f0 : ByteArray} {f1 : ByteArray} {f2 : Int} {f3 : Option Int} {w' : World} {m : Nat} (hq : W.drewN m = w') (h : IsS187 w0 W g f0 f1 f2 f3) : IsS187 w0 w' g f0 f1 f2 f3 := by subst hq; exact IsS187.drewN h m
theorem IsS187.apart {w0 W : World} {g : Nat} {f0 : ByteArray} {f1 : ByteArray} {f2 : Int} {f3 : Option Int} {α : Type} {d : Kd α} {e : Nat} {base : Nat} {ok : Nat → Prop} {v : Value} {xs : List α} (h : IsS187 w0 W g f0 f1 f2 f3) (ho : d.R e W base ok v xs) (ht : ∀ q, q ∈ e :: d.E → q ≠ 187) : d.R e W base (fun k => ok k ∧ k ≠ g) v xs := by
 obtain ⟨hb, hg⟩ := h; exact Kd.R_types ho hb ht
theorem IsS187.own_ne {w0 W : World} {g : Nat} {f0 : ByteArray} {f1 : ByteArray} {f2 : Int} {f3 : Option Int} {α : Type} {d : Kd α} {e : Nat} {base : Nat} {ok : Nat → Prop} {v : Value} {xs : List α} (h : IsS187 w0 W g f0 f1 f2 f3) (ho : d.R e W base ok v xs) (ht : e ≠ 187) : some g ≠ v.ownBlock := by
 obtain ⟨hb, hg⟩ := h; exact Kd.R_ne ho hb ht
theorem IsS187.ge {w0 W : World} {g : Nat} {f0 : ByteArray} {f1 : ByteArray} {f2 : Int} {f3 : Option Int} (h : IsS187 w0 W g f0 f1 f2 f3) : w0.heap.size ≤ g := by
 obtain ⟨hb, hg⟩ := h; exact hg
theorem cellS187_0 {W : World} {g : Nat} {f0 : ByteArray} {f1 : ByteArray} {f2 : Int} {f3 : Option Int} (h : W.heap[g]? = some (.cells #[.string f0, .string f1, .int .i64 f2, errW f3] 187 (0, 0))) : W.cell? ⟨g, 0, none⟩ = some (.string f0) := (blk_cell h 0).trans rfl
theorem IsS187.set_0 {w0 W : World} {g : Nat} {f0 : ByteArray} {f1 : ByteArray} {f2 : Int} {f3 : Option Int} (h : IsS187 w0 W g f0 f1 f2 f3) (x : ByteArray) : IsS187 w0 (W.setCell ⟨g, 0, none⟩ (.string x)) g x f1 f2 f3 := by
 obtain ⟨hb, hg⟩ := h; exact ⟨by simpa using blk_set hb 0 (.string x), hg⟩
theorem cellS187_1 {W : World} {g : Nat} {f0 : ByteArray} {f1 : ByteArray} {f2 : Int} {f3 : Option Int} (h : W.heap[g]? = some (.cells #[.string f0, .string f1, .int .i64 f2, errW f3] 187 (0, 0))) : W.cell? ⟨g, 1, none⟩ = some (.string f1) := (blk_cell h 1).trans rfl
theorem IsS187.set_1 {w0 W : World} {g : Nat} {f0 : ByteArray} {f1 : ByteArray} {f2 : Int} {f3 : Option Int} (h : IsS187 w0 W g f0 f1 f2 f3) (x : ByteArray) : IsS187 w0 (W.setCell ⟨g, 1, none⟩ (.string x)) g f0 x f2 f3 := by
 obtain ⟨hb, hg⟩ := h; exact ⟨by simpa using blk_set hb 1 (.string x), hg⟩
theorem cellS187_2 {W : World} {g : Nat} {f0 : ByteArray} {f1 : ByteArray} {f2 : Int} {f3 : Option Int} (h : W.heap[g]? = some (.cells #[.string f0, .string f1, .int .i64 f2, errW f3] 187 (0, 0))) : W.cell? ⟨g, 2, none⟩ = some (.int .i64 f2) := (blk_cell h 2).trans rfl
theorem IsS187.set_2 {w0 W : World} {g : Nat} {f0 : ByteArray} {f1 : ByteArray} {f2 : Int} {f3 : Option Int} (h : IsS187 w0 W g f0 f1 f2 f3) (x : Int) : IsS187 w0 (W.setCell ⟨g, 2, none⟩ (.int .i64 x)) g f0 f1 x f3 := by
 obtain ⟨hb, hg⟩ := h; exact ⟨by simpa using blk_set hb 2 (.int .i64 x), hg⟩
theorem cellS187_3 {W : World} {g : Nat} {f0 : ByteArray} {f1 : ByteArray} {f2 : Int} {f3 : Option Int} (h : W.heap[g]? = some (.cells #[.string f0, .string f1, .int .i64 f2, errW f3] 187 (0, 0))) : W.cell? ⟨g, 3, none⟩ = some (errW f3) := (blk_cell h 3).trans rfl
theorem IsS187.set_3 {w0 W : World} {g : Nat} {f0 : ByteArray} {f1 : ByteArray} {f2 : Int} {f3 : Option Int} (h : IsS187 w0 W g f0 f1 f2 f3) (x : Option Int) : IsS187 w0 (W.setCell ⟨g, 3, none⟩ (errW x)) g f0 f1 f2 x := by
 obtain ⟨hb, hg⟩ := h; exact ⟨by simpa using blk_set hb 3 (errW x), hg⟩
theorem IsS187.new (w0 W : World) (f0 : ByteArray) (f1 : ByteArray) (f2 : Int) (f3 : Option Int) (hB : Below w0.heap.size w0 W) : IsS187 w0 (W.alloc (.cells #[.string f0, .string f1, .int .i64 f2, errW f3] 187)) W.heap.size f0 f1 f2 f3 := ⟨by simpa using heap_alloc_new W _, hB.size⟩
set_option maxHeartbeats 4000000 in
set_option maxRecDepth 100000 in
theorem new_lines (T : ByteArray) (w0 w : World) (hB : Below w0.heap.size w0 w) :
 Calls Tryz.prog 135 #[.string T] w fun e w' => e = .returned (.pointer (some ⟨w.heap.size, 0, none⟩)) ∧ IsS187 w0 w' w.heap.size T ⟨#[]⟩ 65536 none ∧ Below w0.heap.size w0 w' ∧ Below w.heap.size w w' := by
 have HB := Aside0.mk hB; have HB' := Aside0.mk (Below.refl w.heap.size w); clear hB
 go_enter Tryz.func135, Tryz.ntmps135
 go_wp2
 go_ret
 exact ⟨rfl, IsS187.new w0 w T ⟨#[]⟩ 65536 none HB.out, below_alloc HB.out _, below_alloc HB'.out _⟩
def texts_NewLines.f (a0 : ByteArray) : Option (ByteArray × ByteArray × Int × Option Int) := some (a0, ⟨#[]⟩, 65536, none)
theorem texts_NewLines.calls (a0 : ByteArray) (r1 r2 : ByteArray) (r3 : Int) (r4 : Option Int) (w0 w : World) (hB : Below w0.heap.size w0 w) (h : texts_NewLines.f a0 = some (r1, r2, r3, r4)) :
 Calls Tryz.prog 135 #[.string a0] w fun e w' => ∃ g_ : Nat, e = .returned (.pointer (some ⟨g_, 0, none⟩)) ∧ IsS187 w0 w' g_ r1 r2 r3 r4 ∧ Below w0.heap.size w0 w' ∧ Below w.heap.size w w' := by
 unfold texts_NewLines.f at h
 simp only [Option.some.injEq, Prod.mk.injEq] at h; obtain ⟨rfl, rfl, rfl, rfl⟩ := h
 exact (new_lines a0 w0 w hB).mono fun e w' ⟨he, h1, h2, h3⟩ => ⟨_, he, h1, h2, h3⟩
set_option maxHeartbeats 4000000 in
set_option maxRecDepth 100000 in
theorem scan_line (g : Nat) (T L R l0 : ByteArray) (n : Nat) (m : Int) (w0 w : World) (hI : IsS187 w0 w g T l0 m none) (hB : Below w0.heap.size w0 w)
 (hT0 : 0 < T.size) (hn : n ≤ T.size) (hn2 : (n : Int) < m) (h10 : n < T.size → bt T (n : Int) = 10) (hno : ∀ i : Nat, i < n → bt T (i : Int) ≠ 10)
 (hL : T.extract 0 n = L) (hR : T.extract (n + 1) T.size = R) (hTs : T.size ≤ 4611686018427387904) :
 Calls Tryz.prog 136 #[.pointer (some ⟨g, 0, none⟩)] w fun e w' => e = .returned (.bool true) ∧ IsS187 w0 w' g R (if 0 < n ∧ bt L ((n : Int) - 1) = 13 then L.extract 0 (n - 1) else L) m none ∧ Below w0.heap.size w0 w' ∧ KeepBut w w' g none := by
 have HI0 := Aside0.mk hI; have HK := Aside0.mk (KeepBut.refl w g none); have HL := Aside0.mk hB.size; have HB := Aside0.mk hB; have HNO := Aside0.mk hno; have H10 := Aside0.mk h10
 have hLz : L.size = n := by rw [← hL, ByteArray.size_extract]; omega
 have HLe := Aside0.mk hL; have HRe := Aside0.mk hR; have HLs := Aside0.mk hLz
 have he : T.toList.isEmpty = false := by
  rw [Lib.toList_data]; rw [Lib.size_eq] at hT0; cases h : T.data.toList with
  | nil => rw [h] at hT0; simp at hT0
  | cons a l => rfl
 clear hI hB hno h10 hL hR hLz; obtain ⟨HGz2, hgz2⟩ := HI0.out; have hcz2_0 := cellS187_0 HGz2; have hcz2_1 := cellS187_1 HGz2; have hcz2_2 := cellS187_2 HGz2; have hcz2_3 := cellS187_3 HGz2; have hfz2_0 := blk_frozen HGz2 0; have hfz2_1 := blk_frozen HGz2 1; rw [errW_none] at hcz2_3; clear HGz2 hgz2
 go_enter Tryz.func136, Tryz.ntmps136
 go_wp2
 go_loop [3] (fun v => ∃ k : Nat, k ≤ n ∧ v = .int .i64 k) (fun v => n - (intOf v).toNat)
 case atStart => exact ⟨0, Nat.zero_le _, rfl⟩
 case round =>
  obtain ⟨k, hk, rfl⟩ := hrel
  have hx : ∀ h : k < T.size, ((T[k]'h).toNat : Int) = bt T (k : Int) := fun h => by simp [bt, h]
  by_cases hlt : k < n
  · have q1 : decide ((k : Int) < (T.size : Int)) = true := by simp; omega
    have t1 : (bt T (k : Int) != 10) = true := by rw [bne_iff_ne]; exact HNO.out k hlt
    go_wp2
    go_round
    case rel => exact ⟨k + 1, by omega, by go_num⟩
    case measure => simp [intOf]; omega
  · obtain rfl : k = n := by omega
    have q2 : decide (m ≤ (k : Int)) = false := by simp; omega
    clear hlt hk
    by_cases hend : k < T.size
    · have q1 : decide ((k : Int) < (T.size : Int)) = true := by simp; omega
      have t1 : (bt T (k : Int) != 10) = false := by rw [bne_eq_false_iff_eq]; exact H10.out hend
      go_wp2; rw [HLe.out, HRe.out]; have HI1 := Aside0.mk (show IsS187 w0 (((w.setCell { block := g, off := 1 } (Value.string { data := #[] })).setCell { block := g, off := 1 } (Value.string L)).setCell { block := g, off := 0 } (Value.string R)) g R L m none from IsS187.set_0 (IsS187.set_1 (IsS187.set_1 HI0.out _) _) _); have HB1 := Aside0.mk (show Below w0.heap.size w0 (((w.setCell { block := g, off := 1 } (Value.string { data := #[] })).setCell { block := g, off := 1 } (Value.string L)).setCell { block := g, off := 0 } (Value.string R)) from below_set (below_set (below_set HB.out (IsS187.ge HI0.out)) (IsS187.ge HI0.out)) (IsS187.ge HI0.out)); have HK1 := Aside0.mk (show KeepBut w (((w.setCell { block := g, off := 1 } (Value.string { data := #[] })).setCell { block := g, off := 1 } (Value.string L)).setCell { block := g, off := 0 } (Value.string R)) g none from KeepBut.set_ (KeepBut.set_ (KeepBut.set_ HK.out _ _) _ _) _ _); generalize (((w.setCell { block := g, off := 1 } (Value.string { data := #[] })).setCell { block := g, off := 1 } (Value.string L)).setCell { block := g, off := 0 } (Value.string R)) = W at HI1 HB1 HK1 ⊢; clear hcz2_0 hcz2_1 hcz2_2 hcz2_3 hfz2_0 hfz2_1; obtain ⟨HGz2, hgz2⟩ := HI1.out; have hcz2_1 := cellS187_1 HGz2; have hfz2_1 := blk_frozen HGz2 1; clear HGz2 hgz2; have hsz := HLs.out
      by_cases hp : 0 < k
      · have hd : decide ((0 : Int) < (L.size : Int)) = true := decide_eq_true (by omega)
        have hz1 : (1 : Int) ≤ (k : Int) := by omega
        have hz2 : (k : Int) - 1 < (k : Int) := by omega
        have hx2 : ∀ h : k - 1 < L.size, ((L[k - 1]'h).toNat : Int) = bt L ((k : Int) - 1) := fun h => by
         have e : ((k : Int) - 1).toNat = k - 1 := by omega
         have h' : ((k : Int) - 1).toNat < L.size := by omega
         have := bt_at L ((k : Int) - 1) h'; simp only [e] at this; exact this
        have HLz := Aside0.mk hsz
        by_cases h13 : bt L ((k : Int) - 1) = 13
        · have t13 : (bt L ((k : Int) - 1) == 13) = true := by rw [beq_iff_eq]; exact h13
          go_big_quiet (fail)
          go_wp2
          go_region
          go_wp2
          go_ret
          exact ⟨rfl, IsS187.set_1 (IsS187.drewN HI1.out _) _, below_set (pw_below_drewN HB1.out _) (IsS187.ge HI0.out), KeepBut.set_ (keep_drewN HK1.out _) _ _⟩
        · have t13 : (bt L ((k : Int) - 1) == 13) = false := by rw [beq_eq_false_iff_ne]; exact h13
          go_big_quiet (fail)
          go_wp2
          go_ret
          exact ⟨rfl, IsS187.drewN HI1.out _, pw_below_drewN HB1.out _, keep_drewN HK1.out _⟩
      · have hd : decide ((0 : Int) < (L.size : Int)) = false := decide_eq_false (by omega)
        go_big_quiet (fail)
        go_wp2
        go_ret
        exact ⟨rfl, IsS187.drewN HI1.out _, pw_below_drewN HB1.out _, keep_drewN HK1.out _⟩
    · have q1 : decide ((k : Int) < (T.size : Int)) = false := by simp; omega
      go_wp2
      have HR0 : T.extract k T.size = R := by
       rw [← HRe.out]
       have hkk : k = T.size := by omega
       subst hkk
       apply ByteArray.ext; simp
      rw [HLe.out, HR0]; have HI1 := Aside0.mk (show IsS187 w0 (((w.setCell { block := g, off := 1 } (Value.string { data := #[] })).setCell { block := g, off := 1 } (Value.string L)).setCell { block := g, off := 0 } (Value.string R)) g R L m none from IsS187.set_0 (IsS187.set_1 (IsS187.set_1 HI0.out _) _) _); have HB1 := Aside0.mk (show Below w0.heap.size w0 (((w.setCell { block := g, off := 1 } (Value.string { data := #[] })).setCell { block := g, off := 1 } (Value.string L)).setCell { block := g, off := 0 } (Value.string R)) from below_set (below_set (below_set HB.out (IsS187.ge HI0.out)) (IsS187.ge HI0.out)) (IsS187.ge HI0.out)); have HK1 := Aside0.mk (show KeepBut w (((w.setCell { block := g, off := 1 } (Value.string { data := #[] })).setCell { block := g, off := 1 } (Value.string L)).setCell { block := g, off := 0 } (Value.string R)) g none from KeepBut.set_ (KeepBut.set_ (KeepBut.set_ HK.out _ _) _ _) _ _); generalize (((w.setCell { block := g, off := 1 } (Value.string { data := #[] })).setCell { block := g, off := 1 } (Value.string L)).setCell { block := g, off := 0 } (Value.string R)) = W at HI1 HB1 HK1 ⊢; clear hcz2_0 hcz2_1 hcz2_2 hcz2_3 hfz2_0 hfz2_1; obtain ⟨HGz2, hgz2⟩ := HI1.out; have hcz2_1 := cellS187_1 HGz2; have hfz2_1 := blk_frozen HGz2 1; clear HGz2 hgz2; have hsz := HLs.out
      by_cases hp : 0 < k
      · have hd : decide ((0 : Int) < (L.size : Int)) = true := decide_eq_true (by omega)
        have hz1 : (1 : Int) ≤ (k : Int) := by omega
        have hz2 : (k : Int) - 1 < (k : Int) := by omega
        have hx2 : ∀ h : k - 1 < L.size, ((L[k - 1]'h).toNat : Int) = bt L ((k : Int) - 1) := fun h => by
         have e : ((k : Int) - 1).toNat = k - 1 := by omega
         have h' : ((k : Int) - 1).toNat < L.size := by omega
         have := bt_at L ((k : Int) - 1) h'; simp only [e] at this; exact this
        have HLz := Aside0.mk hsz
        by_cases h13 : bt L ((k : Int) - 1) = 13
        · have t13 : (bt L ((k : Int) - 1) == 13) = true := by rw [beq_iff_eq]; exact h13
          go_big_quiet (fail)
          go_wp2
          go_region
          go_wp2
          go_ret
          exact ⟨rfl, IsS187.set_1 (IsS187.drewN HI1.out _) _, below_set (pw_below_drewN HB1.out _) (IsS187.ge HI0.out), KeepBut.set_ (keep_drewN HK1.out _) _ _⟩
        · have t13 : (bt L ((k : Int) - 1) == 13) = false := by rw [beq_eq_false_iff_ne]; exact h13
          go_big_quiet (fail)
          go_wp2
          go_ret
          exact ⟨rfl, IsS187.drewN HI1.out _, pw_below_drewN HB1.out _, keep_drewN HK1.out _⟩
      · omega
set_option maxHeartbeats 4000000 in
set_option maxRecDepth 100000 in
theorem scan_end (g : Nat) (T l0 : ByteArray) (m : Int) (w0 w : World) (hI : IsS187 w0 w g T l0 m none) (hB : Below w0.heap.size w0 w) (hT : T.size = 0) :
 Calls Tryz.prog 136 #[.pointer (some ⟨g, 0, none⟩)] w fun e w' => e = .returned (.bool false) ∧ IsS187 w0 w' g T ⟨#[]⟩ m none ∧ Below w0.heap.size w0 w' ∧ KeepBut w w' g none := by
 have HI0 := Aside0.mk hI; have HK := Aside0.mk (KeepBut.refl w g none); have HL := Aside0.mk hB.size; have HB := Aside0.mk hB
 have he : T.toList.isEmpty = true := by
  rw [Lib.toList_data]; rw [Lib.size_eq] at hT; rw [List.eq_nil_of_length_eq_zero hT]; rfl
 clear hI hB hT; obtain ⟨HGz2, hgz2⟩ := HI0.out; have hcz2_0 := cellS187_0 HGz2; have hcz2_1 := cellS187_1 HGz2; have hcz2_2 := cellS187_2 HGz2; have hcz2_3 := cellS187_3 HGz2; have hfz2_1 := blk_frozen HGz2 1; rw [errW_none] at hcz2_3; clear HGz2 hgz2
 go_enter Tryz.func136, Tryz.ntmps136
 go_wp2
 go_ret
 exact ⟨rfl, IsS187.set_1 HI0.out _, below_set HB.out (IsS187.ge HI0.out), KeepBut.set_ HK.out _ _⟩
def nl (T : ByteArray) : Nat := (T.data.toList.takeWhile (fun c => c != 10)).length
theorem bt_list (T : ByteArray) (i : Nat) (h : i < T.size) : bt T (i : Int) = ((T.data.toList[i]'(by simpa using h)).toNat : Int) := by
 unfold bt
 rw [dif_pos (by simpa using h)]; simp only [Int.toNat_natCast, Array.getElem_toList]; rfl
theorem nl_le (T : ByteArray) : nl T ≤ T.size := by
 unfold nl
 have := (List.takeWhile_sublist (fun c : UInt8 => c != 10) (l := T.data.toList)).length_le
 simpa using this
theorem nl_ne (T : ByteArray) (i : Nat) (h : i < nl T) : bt T (i : Int) ≠ 10 := by
 have hs : i < T.size := Nat.lt_of_lt_of_le h (nl_le T); rw [bt_list T i hs]; have hl : i < (T.data.toList.takeWhile (fun c : UInt8 => c != 10)).length := h; have hm := List.getElem_mem hl; have hp := List.all_eq_true.1 (List.all_takeWhile (p := fun c : UInt8 => c != 10) (l := T.data.toList)) _ hm; have he : (T.data.toList.takeWhile (fun c : UInt8 => c != 10))[i] = T.data.toList[i]'(by simpa using hs) := (List.takeWhile_prefix _).getElem hl; rw [he] at hp; intro e
 have : (T.data.toList[i]'(by simpa using hs)) = 10 := by
  apply UInt8.toNat_inj.1
  have : ((T.data.toList[i]'(by simpa using hs)).toNat : Int) = 10 := e; have h10 : (10 : UInt8).toNat = 10 := rfl
  omega
 rw [this] at hp
 simp at hp
theorem nl_at (T : ByteArray) (h : nl T < T.size) : bt T ((nl T : Nat) : Int) = 10 := by
 rw [bt_list T _ h]; have hd := List.takeWhile_append_dropWhile (p := fun c : UInt8 => c != 10) (l := T.data.toList)
 have hl : nl T < T.data.toList.length := by simpa using h
 have hne : T.data.toList.dropWhile (fun c : UInt8 => c != 10) ≠ [] := by
  intro e; rw [e, List.append_nil] at hd; have := congrArg List.length hd
  unfold nl at hl
  omega
 have hh := List.head_dropWhile_not (fun c : UInt8 => c != 10) (l := T.data.toList) hne
 have e2 : T.data.toList[nl T]'hl = (T.data.toList.dropWhile (fun c : UInt8 => c != 10)).head hne := by
  have h3 : T.data.toList[nl T]? = some ((T.data.toList.dropWhile (fun c : UInt8 => c != 10)).head hne) := by
   conv => lhs; rw [← hd]
   unfold nl
   rw [List.getElem?_append_right (Nat.le_refl _), Nat.sub_self, ← List.head?_eq_getElem?, List.head?_eq_some_head hne]
  rw [List.getElem?_eq_getElem hl] at h3; exact Option.some.inj h3
 rw [e2]
 have : (T.data.toList.dropWhile (fun c : UInt8 => c != 10)).head hne = 10 := by simpa using hh
 rw [this]; rfl
def chomp (L : ByteArray) : ByteArray := if 0 < L.size ∧ bt L ((L.size : Int) - 1) = 13 then L.extract 0 (L.size - 1) else L
theorem scan_next (g : Nat) (T l0 : ByteArray) (m : Int) (w0 w : World) (hI : IsS187 w0 w g T l0 m none) (hB : Below w0.heap.size w0 w)
 (hT0 : 0 < T.size) (hn2 : (nl T : Int) < m) (hTs : T.size ≤ 4611686018427387904) :
 Calls Tryz.prog 136 #[.pointer (some ⟨g, 0, none⟩)] w fun e w' => e = .returned (.bool true) ∧ IsS187 w0 w' g (T.extract (nl T + 1) T.size) (chomp (T.extract 0 (nl T))) m none ∧ Below w0.heap.size w0 w' ∧ KeepBut w w' g none := by
 have hz : (T.extract 0 (nl T)).size = nl T := by rw [ByteArray.size_extract]; have := nl_le T; omega
 have := scan_line g T (T.extract 0 (nl T)) (T.extract (nl T + 1) T.size) l0 (nl T) m w0 w hI hB hT0 (nl_le T) hn2 (nl_at T) (nl_ne T) rfl rfl hTs
 unfold chomp
 rw [hz]; exact this
def scanF (T L : ByteArray) (m : Int) (e : Option Int) : Option (Bool × ByteArray × ByteArray × Int × Option Int) :=
 if e = none ∧ T.size ≤ 1048576 then
  if T.size = 0 then some (false, T, ⟨#[]⟩, m, none)
  else if (nl T : Int) < m then some (true, T.extract (nl T + 1) T.size, chomp (T.extract 0 (nl T)), m, none) else none
 else none
def texts_Lines_Scan.f (s0 s1 : ByteArray) (s2 : Int) (s3 : Option Int) : Option (Bool × ByteArray × ByteArray × Int × Option Int) := scanF s0 s1 s2 s3
theorem texts_Lines_Scan.calls (g : Nat) (s0_0 s0_1 : ByteArray) (s0_2 : Int) (s0_3 : Option Int) (r1 : Bool) (r2 r3 : ByteArray) (r4 : Int) (r5 : Option Int) (w0 w : World) (hI : IsS187 w0 w g s0_0 s0_1 s0_2 s0_3) (hB : Below w0.heap.size w0 w) (h : texts_Lines_Scan.f s0_0 s0_1 s0_2 s0_3 = some (r1, r2, r3, r4, r5)) :
 Calls Tryz.prog 136 #[.pointer (some ⟨g, 0, none⟩)] w fun e w' => e = .returned (.bool r1) ∧ IsS187 w0 w' g r2 r3 r4 r5 ∧ Below w0.heap.size w0 w' ∧ KeepBut w w' g none := by
 unfold texts_Lines_Scan.f scanF at h
 split at h
 · rename_i hs
   obtain ⟨rfl, hz⟩ := hs
   split at h
   · rename_i h0
     simp only [Option.some.injEq, Prod.mk.injEq] at h; obtain ⟨rfl, rfl, rfl, rfl, rfl⟩ := h; exact scan_end g s0_0 s0_1 s0_2 w0 w hI hB h0
   · split at h
     · rename_i h0 hn
       simp only [Option.some.injEq, Prod.mk.injEq] at h; obtain ⟨rfl, rfl, rfl, rfl, rfl⟩ := h; exact scan_next g s0_0 s0_1 s0_2 w0 w hI hB (by omega) hn (by omega)
     · cases h
 · cases h
def texts_Lines_Text.f (s0_0 : ByteArray) (s0_1 : ByteArray) (s0_2 : Int) (s0_3 : Option Int) : Option (ByteArray × ByteArray × ByteArray × Int × Option Int) := some (s0_1, s0_0, s0_1, s0_2, s0_3)
set_option maxHeartbeats 8000000 in
set_option maxRecDepth 100000 in
theorem texts_Lines_Text.calls (g : Nat) (s0_0 : ByteArray) (s0_1 : ByteArray) (s0_2 : Int) (s0_3 : Option Int) (r1 : ByteArray) (r2 : ByteArray) (r3 : ByteArray) (r4 : Int) (r5 : Option Int) (w0 w : World) (hI : IsS187 w0 w g s0_0 s0_1 s0_2 s0_3) (hB : Below w0.heap.size w0 w) (h : texts_Lines_Text.f s0_0 s0_1 s0_2 s0_3 = some (r1, r2, r3, r4, r5)) :
 Calls Tryz.prog 137 #[.pointer (some ⟨g, 0, none⟩)] w fun e w' => e = .returned (.string r1) ∧ IsS187 w0 w' g r2 r3 r4 r5 ∧ Below w0.heap.size w0 w' ∧ KeepBut w w' g none := by
 have HI0 := Aside0.mk hI; have HK := Aside0.mk (KeepBut.refl w g none); have HL := Aside0.mk hB.size; clear hI; have HW0 := Aside0.mk hB.size; have HB := Aside0.mk hB; clear hB; have H : (some (s0_1, s0_0, s0_1, s0_2, s0_3)) = some (r1, r2, r3, r4, r5) := h; clear h; simp only [Option.some.injEq, Prod.mk.injEq] at H; obtain ⟨rfl, rfl, rfl, rfl, rfl⟩ := H; obtain ⟨HGz2, hgz2⟩ := HI0.out; have hcz2_0 := cellS187_0 HGz2; have hcz2_1 := cellS187_1 HGz2; have hcz2_2 := cellS187_2 HGz2; have hcz2_3 := cellS187_3 HGz2; have hfz2_0 := blk_frozen HGz2 0; have hfz2_1 := blk_frozen HGz2 1; have hfz2_2 := blk_frozen HGz2 2; have hfz2_3 := blk_frozen HGz2 3; clear HGz2 hgz2
 go_enter Tryz.func137, Tryz.ntmps137
 go_wp2
 go_ret
 exact ⟨by first | rfl | (simp [errW_none, errW_some] <;> rfl) | (simp [*, errW_none, errW_some] <;> rfl), by repeat (first | (with_reducible first | exact HI0.out | apply IsS187.alloc | apply IsS187.drewN | apply IsS187.drew | apply IsS187.set_0 | apply IsS187.set_1 | apply IsS187.set_2 | apply IsS187.set_3) | exact HI0.out), by repeat (first | (with_reducible first | exact HB.out | apply below_alloc | apply pw_below_drewN | apply below_drew1 | refine below_set ?_ (IsS187.ge HI0.out)) | exact HB.out), by repeat (first | (with_reducible first | exact HK.out | apply KeepBut.set_ | apply keep_drewN | apply keep_drew | apply keep_alloc) | exact HK.out)⟩
end Go.Proofs.YtabfehcpcjcomaaGreatDoor.QA0
