/- The buffer of the unit reader (zzBuf): ReadBytes. Conditions: see each theorem. -/
import Derived.Test.YtocdnceckljnaaaDoorUb
namespace Go.Proofs.YtocdnceckljnaaaDoor.U
open Go.RowKit Go.Proofs.YtocdnceckljnaaaDoorW.PrintWords Go.Proofs.YtocdnceckljnaaaDoorW.PrintLast Go.Proofs.YtocdnceckljnaaaDoorW.PrintMore
set_option linter.unusedVariables false
set_option linter.unusedSimpArgs false
/-- A slice of bytes that was made behind 'base'. -/
structure Sl (W : World) (base : Nat) (v : Value) (l : List UInt8) : Prop where
  has : ∃ b o c, v = .slice (some ⟨b, o, none⟩) l.length c ∧ l.length ≤ c ∧ base ≤ b ∧ b < W.heap.size ∧ ∀ i u, l[i]? = some u → W.cell? ⟨b, o + i, none⟩ = some (.int .u8 u.toNat)
theorem keepcell {w1 w2 : World} (h : Below w1.heap.size w1 w2) {a : Addr} {v : Value} (hc : w1.cell? a = some v) : w2.cell? a = some v := by
  have hlt := World.block_lt_of_cell? w1 _ hc
  have hb := h.block _ hlt
  unfold World.cell? at hc ⊢
  rw [hb]
  exact hc
theorem below_bytes (w : World) (e : TypeId) (s : ByteArray) : Below w.heap.size w (Lib.bytesWorld w e s) := ⟨rfl, rfl, rfl, by rw [Lib.bytesWorld_size]; omega, fun j hj => Lib.bytesWorld_at_old w e s j hj⟩
theorem Sl_bytes (W : World) (L : ByteArray) (base : Nat) (hb : base ≤ W.heap.size) : Sl (Lib.bytesWorld W.drew 5 L) base (.slice (some ⟨W.heap.size, 0, none⟩) L.size (grownCap W.drew L.size 0 5)) L.data.toList := by
  have hl : L.data.toList.length = L.size := (Lib.size_eq L).symm
  refine ⟨W.heap.size, 0, grownCap W.drew L.size 0 5, by rw [hl], by rw [hl]; exact grownCap_ge _ _ _ _, hb, by rw [Lib.bytesWorld_size]; exact Nat.lt_succ_self _, fun i u hu => ?_⟩
  have hi : i < L.size := by rw [← hl]; exact (List.getElem?_eq_some_iff.1 hu).1
  have := Lib.bytesWorld_cell W.drew 5 L i hi
  rw [List.getD_eq_getElem?_getD, hu] at this
  rw [Nat.zero_add]
  exact this
theorem fill_endQ (g : Nat) (T : ByteArray) (r q : Nat) (last : Int) (w : World) (hq : q = T.size) (hB : BufAt w g T r q last false) :
    Calls Tryd.prog 85 #[.pointer (some ⟨g, 0, none⟩)] w fun e w' => e = .returned (.tuple #[]) ∧ BufAt w' g T r q last true ∧ Turned w w' (at_ g) := by
  subst hq
  exact fill_end g T r last w hB
set_option maxHeartbeats 4000000 in
set_option maxRecDepth 100000 in
theorem read_bytes (g : Nat) (T : ByteArray) (r wd : Nat) (last d : Int) (n : Nat) (w : World) (hB : BufAt w g T r wd last false) (hrn : r ≤ n) (hn : n ≤ T.size)
    (hno : ∀ i : Nat, r ≤ i → i < n → bt T (i : Int) ≠ d) (hd : n < T.size → bt T (n : Int) = d) :
    Calls Tryd.prog 92 #[.pointer (some ⟨g, 0, none⟩), .int .u8 d] w fun e w' => Turned w w' (at_ g) ∧
      ((n < T.size ∧ ∃ v, e = .returned (.tuple #[v, .nilIface]) ∧ Sl w' w.heap.size v (T.extract r (n + 1)).data.toList ∧ ∃ wd', BufAt w' g T (n + 1) wd' last false) ∨
       (n = T.size ∧ ∃ v, e = .returned (.tuple #[v, eof]) ∧ Sl w' w.heap.size v (T.extract r n).data.toList ∧ BufAt w' g T T.size T.size last false)) := by
  have HB := Aside0.mk hB
  have HT := Aside0.mk (Turned.refl w (at_ g))
  have HNO := Aside0.mk hno
  have HD := Aside0.mk hd
  have HN := Aside0.mk hn
  have hbig := hB.big
  have h1 := hB.c1
  clear hB hno hd
  go_enter Tryd.func92, Tryd.ntmps92
  go_wp2
  clear h1
  go_loopg [93] (2 * (T.size - wd) + 1) (fun kq v93 w' => ∃ (p q : Nat) (b : Bool), Aside0 (BufAt w' g T p q last b) ∧ Aside0 (Turned w w' (at_ g)) ∧ r ≤ p ∧ p ≤ n ∧ (b = true → q = T.size ∧ n = T.size) ∧ kq = 2 * (T.size - q) + (if b = true then 0 else 1))
  case atStart => exact ⟨r, wd, false, HB, HT, Nat.le_refl _, hrn, by simp, by simp⟩
  case round =>
    clear HB HT
    obtain ⟨p, q, b, HB, HT, hp, hpn, hbq, hkq⟩ := hrel
    have h0 := HB.out.c0
    have h1 := HB.out.c1
    have h2 := HB.out.c2
    have h4 := HB.out.c4
    have hle := HB.out.le
    have hlew := HB.out.lew
    go_wp2
    go_loop [7] (fun v => ∃ i : Nat, v = .int .i64 i ∧ p ≤ i ∧ i ≤ q ∧ i ≤ n) (fun v => q - (intOf v).toNat)
    case atStart => exact ⟨p, rfl, Nat.le_refl _, hle, hpn⟩
    case round =>
      obtain ⟨i, rfl, hpi, hiq, hin⟩ := hrel
      have hx : ∀ h : i < T.size, ((T[i]'h).toNat : Int) = bt T (i : Int) := fun h => by simp [bt, h]
      by_cases hlt : i < q
      · have q1 : decide ((i : Int) < (q : Int)) = true := by simp; omega
        have hiT : i < T.size := by omega
        by_cases hin' : i < n
        · have t1 : (bt T (i : Int) == d) = false := by rw [beq_eq_false_iff_ne]; exact HNO.out i (by omega) hin'
          go_wp2
          go_round
          case rel => exact ⟨i + 1, by go_num, by omega, by omega, by omega⟩
          case measure => simp [intOf]; omega
        · obtain rfl : i = n := by omega
          have t1 : (bt T (i : Int) == d) = true := by rw [beq_iff_eq]; exact HD.out hiT
          have hf1 := blk_frozen HB.out.blk 1
          go_wp2
          have hbf : b = false := by
            cases b with
            | false => rfl
            | true => have := (hbq rfl).2; omega
          subst hbf
          obtain ⟨m, hm⟩ : ∃ m : Nat, m = i + 1 := ⟨_, rfl⟩
          have hmi : (i : Int) + 1 = (m : Int) := by omega
          rw [hmi]
          have HB1 := Aside0.mk (show BufAt (wr.setCell ⟨g, 1, none⟩ (.int .i64 m)) g T m q last false from HB.out.set1 m (by omega))
          have HT1 := Aside0.mk (show Turned w (wr.setCell ⟨g, 1, none⟩ (.int .i64 m)) (at_ g) from HT.out.setCell (.inl rfl) _)
          generalize (wr.setCell ⟨g, 1, none⟩ (.int .i64 m)) = W at HB1 HT1 ⊢
          clear h0 h1 h2 h4 hx t1 q1 hlt hiT hf1 hpi hiq hle hlew hbig hp hpn hmi HB HT
          have h0 := HB1.out.c0
          have h1 := HB1.out.c1
          have z1 : (r : Int) ≤ (m : Int) := by omega
          have z2 : (m : Int) ≤ (T.size : Int) := by have := HB1.out.le; have := HB1.out.lew; omega
          have HM := Aside0.mk hm
          clear hm
          have z3 : r ≤ m := by omega
          have z4 : m ≤ T.size := by omega
          have hcv : ∀ w : World, (convert 9 33 (.string (T.extract r m))).run Tryd.prog w = .ok (.slice (some ⟨w.heap.size, 0, none⟩) (T.extract r m).size (grownCap w (T.extract r m).size 0 5)) (Lib.bytesWorld w 5 (T.extract r m)) := fun w => Lib.run_convert_string_bytes w 9 33 5 (T.extract r m) Tryd.underlying9 Tryd.underlying33 Tryd.underlying5
          go_region_held (fun w' => w'.cell? ⟨g, 0, none⟩ = some (.string T) ∧ w'.cell? ⟨g, 1, none⟩ = some (.int .i64 m)) (first | (go_split_ands; exact ⟨by assumption, by assumption⟩) | (go_split_ands; exact ⟨keepcell (below_bytes _ _ _) (by assumption), keepcell (below_bytes _ _ _) (by assumption)⟩) | go_keep) (first | fail)
          have hsl := Aside0.mk (Sl_bytes W (T.extract r m) w.heap.size HT1.out.size)
          have hszm : (T.extract r m).size = m - r := by rw [ByteArray.size_extract]; omega
          rw [hszm] at hsl
          have hms := HM.out
          go_wp2
          go_ret2
          exact ⟨HT1.out.drew.below (below_bytes _ _ _), .inl ⟨by omega, _, rfl, hms ▸ hsl.out, q, hms ▸ HB1.out.drew.below (below_bytes _ _ _)⟩⟩
      · obtain rfl : i = q := by omega
        have q1 : decide ((i : Int) < (i : Int)) = false := by simp
        have hf1 := blk_frozen HB.out.blk 1
        have hf4 := blk_frozen HB.out.blk 4
        cases b with
        | true =>
          obtain ⟨hb1, hb2⟩ := hbq rfl
          subst hb1
          clear hx hkq hbq
          go_wp2
          have HB1 := Aside0.mk (show BufAt ((wr.setCell ⟨g, 1, none⟩ (.int .i64 T.size)).setCell ⟨g, 4, none⟩ (.bool false)) g T T.size T.size last false from (HB.out.set1 T.size (Nat.le_refl _)).set4 false)
          have HT1 := Aside0.mk (show Turned w ((wr.setCell ⟨g, 1, none⟩ (.int .i64 T.size)).setCell ⟨g, 4, none⟩ (.bool false)) (at_ g) from (HT.out.setCell (.inl rfl) _).setCell (.inl rfl) _)
          generalize ((wr.setCell ⟨g, 1, none⟩ (.int .i64 T.size)).setCell ⟨g, 4, none⟩ (.bool false)) = W at HB1 HT1 ⊢
          have z3 : r ≤ T.size := by omega
          have HN2 := Aside0.mk hb2
          clear h0 h1 h2 h4 q1 hf1 hf4 hpi hiq hle hlew hbig hp hpn HB HT hb2 hin hn hrn
          have h0 := HB1.out.c0
          have h1 := HB1.out.c1
          have z1 : (r : Int) ≤ (T.size : Int) := by omega
          have hcv : ∀ w : World, (convert 9 33 (.string (T.extract r T.size))).run Tryd.prog w = .ok (.slice (some ⟨w.heap.size, 0, none⟩) (T.extract r T.size).size (grownCap w (T.extract r T.size).size 0 5)) (Lib.bytesWorld w 5 (T.extract r T.size)) := fun w => Lib.run_convert_string_bytes w 9 33 5 (T.extract r T.size) Tryd.underlying9 Tryd.underlying33 Tryd.underlying5
          go_region_held (fun w' => w'.cell? ⟨g, 0, none⟩ = some (.string T) ∧ w'.cell? ⟨g, 1, none⟩ = some (.int .i64 T.size)) (first | (go_split_ands; exact ⟨by assumption, by assumption⟩) | (go_split_ands; exact ⟨keepcell (below_bytes _ _ _) (by assumption), keepcell (below_bytes _ _ _) (by assumption)⟩) | go_keep) (first | fail)
          have hsl := Aside0.mk (Sl_bytes W (T.extract r T.size) w.heap.size HT1.out.size)
          have hszm : (T.extract r T.size).size = T.size - r := by rw [ByteArray.size_extract]; omega
          rw [hszm] at hsl
          go_wp2
          go_ret2
          exact ⟨HT1.out.drew.below (below_bytes _ _ _), .inr ⟨HN2.out, _, rfl, HN2.out ▸ hsl.out, HB1.out.drew.below (below_bytes _ _ _)⟩⟩
        | false =>
          clear hx hbq
          have v1 : IntKind.i64.wrap ((i : Int) - (p : Int)) = (i : Int) - (p : Int) := by unfold IntKind.wrap; simp [IntKind.bits, IntKind.signed]; omega
          by_cases h4 : (4096 : Int) ≤ (i : Int) - (p : Int)
          · have q2 : decide ((4096 : Int) ≤ (i : Int) - (p : Int)) = true := decide_eq_true h4
            by_cases hs : i = T.size
            · have HS := Aside0.mk hs
              clear hs
              go_wp2
              go_quiet (fail)
              go_wp2_with (go_at_call 85; refine (fill_endQ g T i i last _ HS.out ((HB.out.drewN _).set1 i (Nat.le_refl _))).mono ?_; rintro e w2 ⟨rfl, HB2, HT2⟩)
              go_roundg 0
              case measure => simp only [Bool.false_eq_true, if_false] at hkq; omega
              case rel => exact ⟨i, i, true, ⟨HB2⟩, ⟨((HT.out.drewN _).setCell (.inl rfl) _).trans HT2⟩, by omega, by omega, fun _ => ⟨HS.out, by have := HS.out; omega⟩, by simp [HS.out]⟩
            · go_wp2
              go_quiet (fail)
              go_wp2_with (go_at_call 85; refine (fill_more g T i i last false _ ((HB.out.drewN _).set1 i (Nat.le_refl _)) (by omega) _ rfl).mono ?_; rintro e w2 ⟨rfl, HB2, HT2⟩)
              go_roundg (2 * (T.size - min T.size (i + 4096)) + 1)
              case measure => simp only [Bool.false_eq_true, if_false] at hkq; omega
              case rel => exact ⟨i, _, false, ⟨HB2⟩, ⟨((HT.out.drewN _).setCell (.inl rfl) _).trans HT2⟩, by omega, by omega, fun e => by simp at e, by simp⟩
          · have H4 := Aside0.mk (show i < p + 4096 by omega)
            have q2 : decide ((4096 : Int) ≤ (i : Int) - (p : Int)) = false := decide_eq_false h4
            by_cases hs : i = T.size
            · have HS := Aside0.mk hs
              clear hs
              go_wp2
              go_quiet (fail)
              go_wp2_with (go_at_call 85; refine (fill_endQ g T p i last _ HS.out (HB.out.drewN _)).mono ?_; rintro e w2 ⟨rfl, HB2, HT2⟩)
              go_roundg 0
              case measure => simp only [Bool.false_eq_true, if_false] at hkq; omega
              case rel => exact ⟨p, i, true, ⟨HB2⟩, ⟨(HT.out.drewN _).trans HT2⟩, by omega, by omega, fun _ => ⟨HS.out, by have := HS.out; omega⟩, by simp [HS.out]⟩
            · go_wp2
              go_quiet (fail)
              go_wp2_with (go_at_call 85; refine (fill_more g T p i last false _ (HB.out.drewN _) (by omega) _ rfl).mono ?_; rintro e w2 ⟨rfl, HB2, HT2⟩)
              have h4' : i < p + 4096 := H4.out
              clear v1 h4
              go_roundg (2 * (T.size - min T.size (p + 4096)) + 1)
              case measure => simp only [Bool.false_eq_true, if_false] at hkq; omega
              case rel => exact ⟨p, _, false, ⟨HB2⟩, ⟨(HT.out.drewN _).trans HT2⟩, by omega, by omega, fun e => by simp at e, by simp⟩
end Go.Proofs.YtocdnceckljnaaaDoor.U
