/- laws.counters of three numbers. Conditions: the table uint64pow10 as laid. -/
import Derived.Test.YtabfehcpcjcomaaDoorFu
import Derived.Test.YtabfehcpcjcomaaDoorPx
namespace Go.Proofs.YtabfehcpcjcomaaDoor.R
open Go.RowKit Go.Proofs.YtabfehcpcjcomaaDoor.QP1 Go.Proofs.YtabfehcpcjcomaaDoorW.PrintWords Go.Proofs.YtabfehcpcjcomaaDoorW.PrintLast Go.Proofs.YtabfehcpcjcomaaDoorW.PrintMore
set_option linter.unusedVariables false
set_option linter.unusedSimpArgs false
def decB (n : Nat) : ByteArray := ⟨(Lib.decDigits n).toArray⟩
theorem decB_size (n : Nat) (h : n < 18446744073709551616) : (decB n).size ≤ 20 := by
  have h1 : (decB n).size = Lib.nDigits n := by rw [← Lib.decDigits_length]; simp [decB, ByteArray.size]
  rw [h1]
  by_cases h0 : n = 0
  · subst h0; have h0 : Lib.nDigits 0 = 1 := by rw [← Lib.decDigits_length, Lib.decDigits_one (by omega)]; rfl
    omega
  · have := Lib.numDigits_eq n (by omega) h; split at this <;> omega
/-- The variables that this law's road reads. -/
structure TTabs (w : World) : Prop where
  l : LTabs w
  p : Lib.TabIs Tryd.prog w "internal/strconv.uint64pow10" .u64 Lib.pow10Tab
theorem TTabs.below {w w' : World} (h : TTabs w) (hb : Below w.heap.size w w') : TTabs w' := ⟨h.l.below hb, Joins.tab_stays (B := w.heap.size) (g := 0) (by kernel_rfl) h.p hb (Nat.le_refl _)⟩
def acc (a b c : Nat) : Nat → ByteArray
  | 0 => ⟨#[]⟩
  | 1 => ⟨#[]⟩ ++ decB a
  | 2 => ((⟨#[]⟩ ++ decB a) ++ ⟨#[32]⟩) ++ decB b
  | _ => ((((⟨#[]⟩ ++ decB a) ++ ⟨#[32]⟩) ++ decB b) ++ ⟨#[32]⟩) ++ decB c
theorem acc_size (a b c : Nat) (ha : a < 18446744073709551616) (hb : b < 18446744073709551616) (hc : c < 18446744073709551616) (i : Nat) : (acc a b c i).size ≤ 62 := by
  have h1 := decB_size a ha
  have h2 := decB_size b hb
  have h3 := decB_size c hc
  have e : (⟨#[32]⟩ : ByteArray).size = 1 := rfl
  have e0 : (⟨#[]⟩ : ByteArray).size = 0 := rfl
  unfold acc
  split <;> simp only [ByteArray.size_append, e, e0] <;> omega
set_option maxHeartbeats 4000000 in
set_option maxRecDepth 100000 in
theorem counters_ok (a b c : Nat) (ha : a < 18446744073709551616) (hb : b < 18446744073709551616) (hc : c < 18446744073709551616) (g cap : Nat) (w : World) (hT : TTabs w) (h0 : w.cell? ⟨g, 0, none⟩ = some (.int .u64 a)) (h1 : w.cell? ⟨g, 1, none⟩ = some (.int .u64 b)) (h2 : w.cell? ⟨g, 2, none⟩ = some (.int .u64 c)) :
    Calls Tryd.prog 5 #[.slice (some ⟨g, 0, none⟩) 3 cap] w fun e w' => e = .returned (.string (acc a b c 3)) ∧ Below w.heap.size w w' := by
  have HT := Aside0.mk hT
  have H := Aside0.mk (And.intro h0 (And.intro h1 h2))
  have HL := Aside0.mk (And.intro ha (And.intro hb hc))
  clear hT h0 h1 h2 ha hb hc
  go_enter Tryd.func5, Tryd.ntmps5
  go_wp2
  go_loopg [3, 8] 3 (fun kq v3 v8 wr => ∃ i : Nat, Aside0 (kq + i = 3) ∧ v8 = .int .i64 i ∧ v3 = .string (acc a b c i) ∧ Aside0 (Below w.heap.size w wr))
  case atStart => exact ⟨0, ⟨rfl⟩, rfl, rfl, ⟨Below.refl _ _⟩⟩
  case round =>
    obtain ⟨i, HK, rfl, rfl, HB⟩ := hrel
    have hi : i ≤ 3 := by have := HK.out; omega
    have x0 := cell_below HB.out H.out.1
    have x1 := cell_below HB.out H.out.2.1
    have x2 := cell_below HB.out H.out.2.2
    have e0 : i = 0 ∨ i = 1 ∨ i = 2 ∨ i = 3 := by omega
    have la : (Lib.decDigits a).length ≤ 20 := decB_size a HL.out.1
    have lb : (Lib.decDigits b).length ≤ 20 := decB_size b HL.out.2.1
    have lc : (Lib.decDigits c).length ≤ 20 := decB_size c HL.out.2.2
    have s0 := acc_size a b c HL.out.1 HL.out.2.1 HL.out.2.2 0
    have s1 := acc_size a b c HL.out.1 HL.out.2.1 HL.out.2.2 1
    have s2 := acc_size a b c HL.out.1 HL.out.2.1 HL.out.2.2 2
    have f0 : ¬ 9223372036854775807 < (acc a b c 0).size + (Lib.decDigits a).length := by omega
    have f1 : ¬ 9223372036854775807 < (acc a b c 1).size + 1 := by omega
    have f1' : ¬ 9223372036854775807 < (acc a b c 1).size + 1 + (Lib.decDigits b).length := by omega
    have f2 : ¬ 9223372036854775807 < (acc a b c 2).size + 1 := by omega
    have f2' : ¬ 9223372036854775807 < (acc a b c 2).size + 1 + (Lib.decDigits c).length := by omega
    clear la lb lc s0 s1 s2
    rcases e0 with rfl | rfl | rfl | rfl
    · go_wp2_with (first | (go_at_call 12; refine (format_uint a HL.out.1 _ (HT.out.below HB.out).p).mono ?_; rintro e w3 ⟨rfl, hb3⟩))
      go_roundg 2
      case measure => have := HK.out; omega
      case rel => exact ⟨1, ⟨rfl⟩, rfl, rfl, ⟨keepB HB.out hb3 (Nat.le_refl _)⟩⟩
    · go_wp2_with (first | (go_at_call 12; refine (format_uint b HL.out.2.1 _ (HT.out.below HB.out).p).mono ?_; rintro e w3 ⟨rfl, hb3⟩))
      go_roundg 1
      case measure => have := HK.out; omega
      case rel => exact ⟨2, ⟨rfl⟩, rfl, rfl, ⟨keepB HB.out hb3 (Nat.le_refl _)⟩⟩
    · go_wp2_with (first | (go_at_call 12; refine (format_uint c HL.out.2.2 _ (HT.out.below HB.out).p).mono ?_; rintro e w3 ⟨rfl, hb3⟩))
      go_roundg 0
      case measure => have := HK.out; omega
      case rel => exact ⟨3, ⟨rfl⟩, rfl, rfl, ⟨keepB HB.out hb3 (Nat.le_refl _)⟩⟩
    · go_wp2
      go_ret
      exact ⟨rfl, HB.out⟩
def schedX (a b c : Nat) : S26 := ⟨⟨#[]⟩, 8, false, 0, 0, 0, ⟨#[]⟩, [⟨⟨#[82, 117, 110, 110, 105, 110, 103, 78, 97, 110, 111, 115, 101, 99, 111, 110, 100, 115]⟩, 3, false, 0, a, 0, ⟨#[]⟩, []⟩, ⟨⟨#[87, 97, 105, 116, 105, 110, 103, 78, 97, 110, 111, 115, 101, 99, 111, 110, 100, 115]⟩, 3, false, 0, b, 0, ⟨#[]⟩, []⟩, ⟨⟨#[82, 117, 110, 84, 105, 109, 101, 115, 108, 105, 99, 101, 115]⟩, 3, false, 0, c, 0, ⟨#[]⟩, []⟩]⟩
theorem schedX_ok (a b c : Nat) : impl_procfsProcSchedstat.f ⟨#[]⟩ a b c = some ((schedX a b c).f0, (schedX a b c).f1, (schedX a b c).f2, (schedX a b c).f3, (schedX a b c).f4, (schedX a b c).f5, (schedX a b c).f6, (schedX a b c).f7) := by
  rfl
set_option maxHeartbeats 8000000 in
set_option maxRecDepth 100000 in
/-- laws.FnTaskSchedstat, where the text is that of three numbers. -/
theorem law_sched (a b c : Nat) (ha : a < 18446744073709551616) (hb : b < 18446744073709551616) (hc : c < 18446744073709551616) (h3 : Three (acc a b c 3 ++ ⟨#[10]⟩) a b c) (w : World) (hT : TTabs w) :
    Calls Tryd.prog 3 #[.int .u64 a, .int .u64 b, .int .u64 c] w fun e w' => e = .returned (.bool true) ∧ Below w.heap.size w w' := by
  have hbk0 := blk_new w (.cells #[.int .u64 a, .int .u64 b, .int .u64 c] 22)
  have hB0 := below_alloc (Below.refl w.heap.size w) (.cells #[.int .u64 a, .int .u64 b, .int .u64 c] 22)
  have s3 := acc_size a b c ha hb hc 3
  have f3 : ¬ 9223372036854775807 < (acc a b c 3).size + 1 := by omega
  have HC := Aside0.mk (counters_ok a b c ha hb hc w.heap.size 3 _ (hT.below hB0) (cell_of_blk hbk0 0 _ rfl) (cell_of_blk hbk0 1 _ rfl) (cell_of_blk hbk0 2 _ rfl))
  have HB0 := Aside0.mk hB0
  have HT := Aside0.mk hT
  have H3 := Aside0.mk h3
  clear hbk0 hB0 s3 hT h3 ha hb hc
  go_enter Tryd.func3, Tryd.ntmps3
  go_wp2_with (first
    | (go_at_call 5; refine HC.out.mono ?_; rintro e w1 ⟨rfl, hb⟩; have HB1 := Aside0.mk (keepB HB0.out hb (Nat.le_refl _)); clear hb)
    | (go_at_call 4; refine (task_sched _ a b c H3.out _ (schedX a b c) (schedX_ok a b c)).mono ?_; rintro e w2 ⟨_, rfl, ⟨v7, rfl, hR⟩, hb2⟩; obtain ⟨A7, c7, e7⟩ := Kd.R_slice hR; have HR := Aside0.mk hR; have HBW2 := Aside0.mk (keepB HB1.out hb2 (Nat.le_refl _)); have E7 := Aside0.mk e7; have HB2 := Aside0.mk (blk_new w2 (.cells z8 26)); clear hR hb2 e7)
    | ((with_reducible refine gate_ (.store 26 (.tmp 7) (.tmp 17)) rfl ?_); refine store_node_event rfl rfl (.tmp 7) (.tmp 17) rfl w2.heap.size (schedX a b c) E7.out rfl rfl HB2.out rfl ?_; intro w3 hw3 hbk3; have HB23 := Aside0.mk (hw3 ▸ below_cells (below_alloc (Below.refl _ _) _) (Nat.le_refl _) _ : Below w2.heap.size w2 w3); obtain ⟨g, cap, hv, _⟩ := Kd.R_form HR.out (by simp [schedX]); have HR3 := Kd.R_below HR.out HB23.out; have k0 : w3.cell? ⟨g, 4, none⟩ = some (.int .u64 a) := (kidF HR3 hv 0 (by simp [schedX]) _ rfl).2; have k1 : w3.cell? ⟨g, 12, none⟩ = some (.int .u64 b) := (kidF HR3 hv 1 (by simp [schedX]) _ rfl).2; have k2 : w3.cell? ⟨g, 20, none⟩ = some (.int .u64 c) := (kidF HR3 hv 2 (by simp [schedX]) _ rfl).2; have hc7 : w3.cell? ⟨w2.heap.size, 7, none⟩ = some (.slice (some ⟨g, 0, none⟩) 3 cap) := by { have h7 := cell_of_blk hbk3 7 v7 rfl; rw [h7, hv]; rfl }; have HW3 := Aside0.mk hw3; have HE3 := Aside0.mk (keepB HBW2.out HB23.out (Nat.le_refl _)); clear hw3 hbk3 hv HR3)
    | (go_at_call 6; refine (lives_ok _ (HT.out.below HE3.out).l).mono ?_; rintro e w4 ⟨rfl, hb4⟩; have HB4 := Aside0.mk (keepB HE3.out hb4 (Nat.le_refl _)); clear hb4))
  go_ret
  exact ⟨rfl, HB4.out⟩
end Go.Proofs.YtabfehcpcjcomaaDoor.R
