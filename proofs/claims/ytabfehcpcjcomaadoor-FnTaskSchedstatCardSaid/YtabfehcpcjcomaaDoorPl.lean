/- texts.Read, procfs.parseLoad, FS.LoadAvg. Conditions: see each theorem. -/
import Derived.Test.YtabfehcpcjcomaaDoorPf
import Derived.Test.YtabfehcpcjcomaaDoorFl
import Derived.Lib.ItoaMem
import Derived.Deep.OwnRows
import Derived.Deep.RegionHeld3
namespace Go.Proofs.YtabfehcpcjcomaaDoor.R
open Go.RowKit Go.Proofs.YtabfehcpcjcomaaDoorW.PrintWords Go.Proofs.YtabfehcpcjcomaaDoorW.PrintLast Go.Proofs.YtabfehcpcjcomaaDoorW.PrintMore
set_option linter.unusedVariables false
set_option linter.unusedSimpArgs false
theorem below_bytes (w : World) (e : TypeId) (s : ByteArray) : Below w.heap.size w (Lib.bytesWorld w e s) := ⟨rfl, rfl, rfl, by rw [Lib.bytesWorld_size]; omega, fun j hj => Lib.bytesWorld_at_old w e s j hj⟩
/-- A row of bytes that reads as a text. -/
def Txt (w : World) (v : Value) (T : ByteArray) : Prop := ∃ b c, v = .slice (some ⟨b, 0, none⟩) T.size c ∧ ∀ j (hj : j < T.size), w.cell? ⟨b, j, none⟩ = some (.int .u8 (T.data.toList.getD j 0).toNat)
set_option maxHeartbeats 4000000 in
set_option maxRecDepth 100000 in
theorem read_text (T : ByteArray) (w : World) (h : T.size ≤ 1048576) :
    Calls Tryd.prog 32 #[.string T] w fun e w' => ∃ v, e = .returned (.tuple #[v, .nilIface]) ∧ Txt w' v T ∧ Below w.heap.size w w' := by
  have q : decide ((1048576 : Int) < (T.size : Int)) = false := decide_eq_false (by omega)
  have hcv := fun W => Lib.run_convert_string_bytes (P := Tryd.prog) W 9 65 5 T Tryd.underlying9 Tryd.underlying65 Tryd.underlying5
  go_enter Tryd.func32, Tryd.ntmps32
  go_wp2
  refine bodyPost_ret (results_tmp2 rfl _ _ _) rfl ⟨_, rfl, ⟨_, _, rfl, fun j hj => ?_⟩, below_bytes _ _ _⟩
  exact Lib.bytesWorld_cell w 5 T j hj
set_option maxHeartbeats 4000000 in
set_option maxRecDepth 100000 in
theorem path_ok (T : ByteArray) (v : Value) (w : World) :
    Calls Tryd.prog 31 #[.string T, v] w fun e w' => e = .returned (.string T) ∧ w' = w := by
  go_enter Tryd.func31, Tryd.ntmps31
  go_wp2
  go_ret
  exact ⟨rfl, rfl⟩
theorem cell_below {w w' : World} (h : Below w.heap.size w w') {a : Addr} {v : Value} (hc : w.cell? a = some v) : w'.cell? a = some v := by
  have hlt : a.block < w.heap.size := by
    rcases Nat.lt_or_ge a.block w.heap.size with h' | h'
    · exact h'
    · simp [World.cell?, Array.getElem?_eq_none h'] at hc
  rw [← hc]
  simp [World.cell?, h.block a.block hlt]
theorem keepB {B : Nat} {W w1 w2 : World} (h : Below B W w1) (h2 : Below w1.heap.size w1 w2) (hB : B ≤ W.heap.size) : Below B W w2 :=
  below_then h (Nat.le_trans hB h.size) h2
theorem FTabs.below {w w' : World} (h : FTabs w) (hb : Below w.heap.size w w') : FTabs w' := by
  obtain ⟨A, c, h1, h2, h3⟩ := h.pow
  exact ⟨cell_below hb h.opt, cell_below hb h.info, A, c, cell_below hb h1, h2, fun i hi => cell_below hb (h3 i hi)⟩
/-- The three loads as they are read. -/
def F3 (W : World) (g : Nat) (x0 x1 x2 : Nat) : Prop := W.heap[g]? = some (.cells #[.float .f64 x0, .float .f64 x1, .float .f64 x2] 23 (0, 0))
theorem info23 : (Tryd.prog.info? 23).map (fun i => (i.zero, i.size, i.bytes)) = some (some (.float .f64 0), 1, 8) := by kernel_rfl
theorem make3 (W : World) : (Instr.makeSlice 85 (.int .i64 3) (.int .i64 3)).run Tryd.prog W = .ok (.slice (some ⟨W.heap.size, 0, none⟩) 3 3) (W.alloc (.cells #[.float .f64 0, .float .f64 0, .float .f64 0] 23)) := by
  obtain ⟨i, hi, hz, h1, hb⟩ := info_parts info23
  have h := run_make_row (P := Tryd.prog) 85 23 i (.float .f64 0) Tryd.underlying85 hi hz h1 rfl .i64 .i64 3 (by rw [hb]; decide) (by decide) W
  have e : madeCells #[Value.float .f64 0] 3 = #[.float .f64 0, .float .f64 0, .float .f64 0] := by unfold madeCells; rw [show Array.range 3 = #[0, 1, 2] from by decide]; simp
  rw [e] at h
  exact h
/-- A part that spells a number. -/
structure Spells (T : Bs) (q : Nat) : Prop where
  num : Num T
  m : (rf T).m < 4503599627370496
  e : -22 ≤ rfExp T ∧ rfExp T ≤ 0
  q : fval (rf T).m (rfExp T) = some q
theorem store_f (W : World) (a : Addr) (x q : Nat) (h : W.cell? a = some (.float .f64 x)) (hf : W.frozen? a = false) : (store a (.float .f64 q)).run Tryd.prog W = .ok () (W.setCell a (.float .f64 q)) := by
  rw [run_store _ _ _ _ _ rfl, h]
  simp [hf]
set_option maxHeartbeats 4000000 in
set_option maxRecDepth 100000 in
theorem parse_load (T : ByteArray) (v : Value) (w : World) (hv : Txt w v T) (hT : FTabs w) (htab : Lib.TabIs Tryd.prog w "strings.asciiSpace" .u8 Lib.asciiSpaceTab) (hsz : T.size < 4294967281)
    (hascii : ∀ (j : Nat) b, T.data.toList[j]? = some b → b.toNat < 128) (t0 t1 t2 : Bs) (r : List Bs) (hF : Lib.fields T.data.toList = t0 :: t1 :: t2 :: r) (q0 q1 q2 : Nat) (h0 : Spells t0 q0) (h1 : Spells t1 q1) (h2 : Spells t2 q2) :
    Calls Tryd.prog 33 #[v] w fun e w' => ∃ g, e = .returned (.tuple #[.pointer (some ⟨g, 0, none⟩), .nilIface]) ∧ w'.heap[g]? = some (.cells #[.float .f64 q0, .float .f64 q1, .float .f64 q2] 53 (0, 0)) ∧ w.heap.size ≤ g ∧ Below w.heap.size w w' := by
  obtain ⟨b, c, rfl, hc⟩ := hv
  have hmk := make3
  have hB1 : Below w.heap.size w (w.alloc (.cells #[.float .f64 0, .float .f64 0, .float .f64 0] 23)) := below_alloc (Below.refl _ _) _
  obtain ⟨w1, hw1⟩ : ∃ w1, w1 = w.alloc (.cells #[.float .f64 0, .float .f64 0, .float .f64 0] 23) := ⟨_, rfl⟩
  have hcv := run_convert_bytes_back (P := Tryd.prog) (w.alloc (.cells #[.float .f64 0, .float .f64 0, .float .f64 0] 23)) 65 9 5 ⟨b, 0, none⟩ c T.data.toList Tryd.underlying65 Tryd.underlying5 Tryd.underlying9 (fun j hj => by
    rw [Lib.add_plain, Nat.zero_add]
    have hj' : j < T.size := by rw [Array.length_toList] at hj; exact hj
    rw [cell_below hB1 (hc j hj')]
    rw [List.getD_eq_getElem?_getD, List.getElem?_eq_getElem hj]
    rfl)
  have hlen : T.data.toList.length = T.size := by rw [Array.length_toList]; rfl
  rw [hlen] at hcv
  have hTT : (⟨T.data.toList.toArray⟩ : ByteArray) = T := by cases T; rfl
  rw [hTT] at hcv
  have htab1 := Lib.tabIs_alloc htab (.cells #[.float .f64 0, .float .f64 0, .float .f64 0] 23)
  have hfl : Calls Tryd.prog 41 #[.string T] (w.alloc (.cells #[.float .f64 0, .float .f64 0, .float .f64 0] 23)) fun e w2 => ∃ n : Nat, 3 ≤ n ∧ e = .returned (.slice (some ⟨w.heap.size + 1, 0, none⟩) n n) ∧ F3 w2 w.heap.size 0 0 0 ∧ w2.cell? ⟨w.heap.size + 1, 0, none⟩ = some (.string (B t0)) ∧ w2.cell? ⟨w.heap.size + 1, 1, none⟩ = some (.string (B t1)) ∧ w2.cell? ⟨w.heap.size + 1, 2, none⟩ = some (.string (B t2)) ∧ Below w.heap.size w w2 := by
    refine (Tryd.strings_Fields T (w.alloc (.cells #[.float .f64 0, .float .f64 0, .float .f64 0] 23)) hsz hascii htab1).mono ?_
    rintro e w2 ⟨rfl, rfl⟩
    rw [hF]
    have hs1 : (w.alloc (.cells #[.float .f64 0, .float .f64 0, .float .f64 0] 23)).heap.size = w.heap.size + 1 := by simp
    rw [hs1]
    refine ⟨(t0 :: t1 :: t2 :: r).length, by simp, rfl, blk_alloc (blk_new _ _) _, ?_, ?_, ?_, below_alloc hB1 _⟩
    · rw [← hs1, blk_cell (blk_new _ _)]; simp; rfl
    · rw [← hs1, blk_cell (blk_new _ _)]; simp; rfl
    · rw [← hs1, blk_cell (blk_new _ _)]; simp; rfl
  have HS := Aside0.mk (And.intro h0 (And.intro h1 h2))
  have HT := Aside0.mk hT
  have HF := Aside0.mk hfl
  clear hfl hTT hlen htab1 htab hascii hF h0 h1 h2 hc
  go_enter Tryd.func33, Tryd.ntmps33
  go_wp2_with (first | (go_at_call 41; refine HF.out.mono ?_; rintro e w2 ⟨n, hn3, rfl, hA, hc0, hc1, hc2, hB⟩))
  have HS1 := Aside0.mk (HT.out.below hB)
  have hi3 : (3 : Int) ≤ (n : Int) := by omega
  have HA0 := Aside0.mk hA
  have HB0 := Aside0.mk hB
  have HC := Aside0.mk (And.intro hc0 (And.intro hc1 hc2))
  clear hA hB hc0 hc1 hc2
  go_loopg [6, 20] 3 (fun kq v6 v20 wr => ∃ (i : Nat) (x0 x1 x2 : Nat), Aside0 (kq + i = 3) ∧ v20 = .int .i64 i ∧ v6 = .nilIface ∧ Aside0 (F3 wr w.heap.size x0 x1 x2) ∧ Aside0 (wr.cell? ⟨w.heap.size + 1, 0, none⟩ = some (.string (B t0)) ∧ wr.cell? ⟨w.heap.size + 1, 1, none⟩ = some (.string (B t1)) ∧ wr.cell? ⟨w.heap.size + 1, 2, none⟩ = some (.string (B t2))) ∧ Aside0 (Below w.heap.size w wr) ∧ Aside0 ((1 ≤ i → x0 = q0) ∧ (2 ≤ i → x1 = q1) ∧ (3 ≤ i → x2 = q2)))
  case atStart => exact ⟨0, 0, 0, 0, ⟨rfl⟩, rfl, rfl, HA0, HC, HB0, ⟨by omega, by omega, by omega⟩⟩
  case round =>
    clear HA0 HB0 HC HS1
    obtain ⟨i, x0, x1, x2, HK, rfl, rfl, HA, HC, HB, HX⟩ := hrel
    have hT := HT.out.below HB.out
    have HT1 := Aside0.mk hT
    clear hT
    have hi : i ≤ 3 := by have := HK.out; omega
    have hA := HA.out
    unfold F3 at hA
    obtain ⟨hc0, hc1, hc2⟩ := HC.out
    have hlt := blk_lt hA
    have hz0 := blk_frozen hA 0
    have hz1 := blk_frozen hA 1
    have hz2 := blk_frozen hA 2
    have hg0 : wr.cell? ⟨w.heap.size, 0, none⟩ = some (.float .f64 x0) := (blk_cell hA 0).trans rfl
    have hg1 : wr.cell? ⟨w.heap.size, 1, none⟩ = some (.float .f64 x1) := (blk_cell hA 1).trans rfl
    have hg2 : wr.cell? ⟨w.heap.size, 2, none⟩ = some (.float .f64 x2) := (blk_cell hA 2).trans rfl
    have hs0 := store_f wr ⟨w.heap.size, 0, none⟩ x0 q0 hg0 hz0
    have hs1 := store_f wr ⟨w.heap.size, 1, none⟩ x1 q1 hg1 hz1
    have hs2 := store_f wr ⟨w.heap.size, 2, none⟩ x2 q2 hg2 hz2
    have HA' := Aside0.mk hA
    clear hA
    have e0 : i = 0 ∨ i = 1 ∨ i = 2 ∨ i = 3 := by omega
    rcases e0 with rfl | rfl | rfl | rfl
    · go_wp2_with (first | (go_at_call 42; refine (parse_float t0 _ HS.out.1.num HS.out.1.m HS.out.1.e q0 HS.out.1.q HT1.out).mono ?_; rintro e w3 ⟨rfl, rfl⟩))
      go_roundg 2
      case measure => have := HK.out; omega
      case rel =>
        have hne : w.heap.size ≠ w.heap.size + 1 := by omega
        refine ⟨1, q0, x1, x2, ⟨by omega⟩, rfl, rfl, ⟨?_⟩, ⟨?_, ?_, ?_⟩, ⟨?_⟩, ⟨?_⟩⟩
        · unfold F3; rw [blk_set HA'.out]; rfl
        · exact (World.cell?_setCell_other _ _ _ _ (by simp)).trans hc0
        · exact (World.cell?_setCell_other _ _ _ _ (by simp)).trans hc1
        · exact (World.cell?_setCell_other _ _ _ _ (by simp)).trans hc2
        · exact HB.out.setCell (Nat.le_refl _) _
        · refine ⟨fun hh => ?_, fun hh => ?_, fun hh => ?_⟩
          · first | rfl | exact HX.out.1 (by omega) | omega
          · first | rfl | exact HX.out.2.1 (by omega) | omega
          · first | rfl | exact HX.out.2.2 (by omega) | omega
    · go_wp2_with (first | (go_at_call 42; refine (parse_float t1 _ HS.out.2.1.num HS.out.2.1.m HS.out.2.1.e q1 HS.out.2.1.q HT1.out).mono ?_; rintro e w3 ⟨rfl, rfl⟩))
      go_roundg 1
      case measure => have := HK.out; omega
      case rel =>
        have hne : w.heap.size ≠ w.heap.size + 1 := by omega
        refine ⟨2, x0, q1, x2, ⟨by omega⟩, rfl, rfl, ⟨?_⟩, ⟨?_, ?_, ?_⟩, ⟨?_⟩, ⟨?_⟩⟩
        · unfold F3; rw [blk_set HA'.out]; rfl
        · exact (World.cell?_setCell_other _ _ _ _ (by simp)).trans hc0
        · exact (World.cell?_setCell_other _ _ _ _ (by simp)).trans hc1
        · exact (World.cell?_setCell_other _ _ _ _ (by simp)).trans hc2
        · exact HB.out.setCell (Nat.le_refl _) _
        · refine ⟨fun hh => ?_, fun hh => ?_, fun hh => ?_⟩
          · first | rfl | exact HX.out.1 (by omega) | omega
          · first | rfl | exact HX.out.2.1 (by omega) | omega
          · first | rfl | exact HX.out.2.2 (by omega) | omega
    · go_wp2_with (first | (go_at_call 42; refine (parse_float t2 _ HS.out.2.2.num HS.out.2.2.m HS.out.2.2.e q2 HS.out.2.2.q HT1.out).mono ?_; rintro e w3 ⟨rfl, rfl⟩))
      go_roundg 0
      case measure => have := HK.out; omega
      case rel =>
        have hne : w.heap.size ≠ w.heap.size + 1 := by omega
        refine ⟨3, x0, x1, q2, ⟨by omega⟩, rfl, rfl, ⟨?_⟩, ⟨?_, ?_, ?_⟩, ⟨?_⟩, ⟨?_⟩⟩
        · unfold F3; rw [blk_set HA'.out]; rfl
        · exact (World.cell?_setCell_other _ _ _ _ (by simp)).trans hc0
        · exact (World.cell?_setCell_other _ _ _ _ (by simp)).trans hc1
        · exact (World.cell?_setCell_other _ _ _ _ (by simp)).trans hc2
        · exact HB.out.setCell (Nat.le_refl _) _
        · refine ⟨fun hh => ?_, fun hh => ?_, fun hh => ?_⟩
          · first | rfl | exact HX.out.1 (by omega) | omega
          · first | rfl | exact HX.out.2.1 (by omega) | omega
          · first | rfl | exact HX.out.2.2 (by omega) | omega
    · obtain ⟨rfl, rfl, rfl⟩ : x0 = q0 ∧ x1 = q1 ∧ x2 = q2 := ⟨HX.out.1 (by omega), HX.out.2.1 (by omega), HX.out.2.2 (by omega)⟩
      go_wp2
      have hb0 : Below wr.heap.size wr wr.drew := below_drew (Below.refl _ _)
      go_region_held3 (fun w' => Below wr.heap.size wr w' ∧ w'.cell? ⟨w.heap.size, 0, none⟩ = some (.float .f64 x0) ∧ w'.cell? ⟨w.heap.size, 1, none⟩ = some (.float .f64 x1) ∧ w'.cell? ⟨w.heap.size, 2, none⟩ = some (.float .f64 x2))
        (first
          | (go_split_ands; exact ⟨by assumption, by assumption, by assumption, by assumption⟩)
          | (go_split_ands; exact ⟨below_alloc (by assumption) _, cell_below (below_alloc (Below.refl _ _) _) (by assumption), cell_below (below_alloc (Below.refl _ _) _) (by assumption), cell_below (below_alloc (Below.refl _ _) _) (by assumption)⟩)
          | go_keep)
          (fail)
      rename_i hHeld
      have hbb := keepB HB.out hHeld.1 (Nat.le_refl _)
      clear hHeld
      go_wp2
      exact bodyPost_ret (results_tmp2 rfl _ _ _) rfl ⟨_, rfl, blk_drew (blk_new _ _), HB.out.size, hbb⟩
end Go.Proofs.YtabfehcpcjcomaaDoor.R
