/- The buffer of the unit reader (zzBuf): ReadRune, UnreadRune. Conditions: see each theorem. -/
import Derived.Test.YtocdnceckljnaaaDoorUa
import Derived.Test.YtocdnceckljnaaaDoorShelf
namespace Go.Proofs.YtocdnceckljnaaaDoor.U
open Go.RowKit Go.Proofs.YtocdnceckljnaaaDoorW.PrintWords Go.Proofs.YtocdnceckljnaaaDoorW.PrintLast Go.Proofs.YtocdnceckljnaaaDoorW.PrintMore
set_option linter.unusedVariables false
set_option linter.unusedSimpArgs false
/-- The error that says the end of a text. -/
abbrev eof : Value := .iface 139 (.agg #[])
theorem extract_nil (T : ByteArray) (n : Nat) : T.extract n n = ⟨#[]⟩ := by
  apply ByteArray.ext
  simp
theorem fill_endN (g : Nat) (T : ByteArray) (n : Nat) (last : Int) (w : World) (hn : T.size = n) (hB : BufAt w g T n n last false) :
    Calls Tryd.prog 85 #[.pointer (some ⟨g, 0, none⟩)] w fun e w' => e = .returned (.tuple #[]) ∧ BufAt w' g T n n last true ∧ Turned w w' (at_ g) := by
  subst hn
  exact fill_end g T T.size last w hB
set_option maxHeartbeats 4000000 in
set_option maxRecDepth 100000 in
theorem rune_end (g : Nat) (T : ByteArray) (last : Int) (w : World) (hB : BufAt w g T T.size T.size last false) :
    Calls Tryd.prog 80 #[.pointer (some ⟨g, 0, none⟩)] w fun e w' => e = .returned (.tuple #[.int .i32 0, .int .i64 0, eof]) ∧ BufAt w' g T T.size T.size T.size false ∧ Turned w w' (at_ g) := by
  have HB := Aside0.mk hB
  have HT := Aside0.mk (Turned.refl w (at_ g))
  have hbig := hB.big
  clear hB
  generalize hn : T.size = n at *
  have e0 : T.extract n n = ⟨#[]⟩ := extract_nil T n
  have q1 : decide ((n : Int) < (n : Int) + 4) = true := by simp; omega
  have v1 : IntKind.i64.wrap ((n : Int) + 4) = (n : Int) + 4 := by unfold IntKind.wrap; simp [IntKind.bits, IntKind.signed]; omega
  have hnr : ¬ n < 0 := by omega
  go_enter Tryd.func80, Tryd.ntmps80
  go_wp2
  go_loopg [52] 2 (fun kq v52 w' => ∃ b : Bool, Aside0 (BufAt w' g T n n last b) ∧ Aside0 (Turned w w' (at_ g)) ∧ (b = false ∧ kq = 2 ∨ b = true ∧ kq = 1))
  case atStart => exact ⟨false, HB, HT, .inl ⟨rfl, rfl⟩⟩
  case round =>
    clear HB HT
    obtain ⟨b, HB, HT, hb⟩ := hrel
    have h0 := HB.out.c0
    have h1 := HB.out.c1
    have h2 := HB.out.c2
    have h4 := HB.out.c4
    rcases hb with ⟨rfl, rfl⟩ | ⟨rfl, rfl⟩
    · go_wp2
      go_quiet ((go_at_call 90; exact Calls.quiet_of_same (full_nil _)))
      go_wp2_with (go_at_call 85; refine (fill_endN g T n last _ hn (HB.out.drewN _)).mono ?_; rintro e w2 ⟨rfl, HB2, HT2⟩)
      go_roundg 1
      case measure => omega
      case rel => exact ⟨true, ⟨HB2⟩, ⟨(HT.out.drewN _).trans HT2⟩, .inr ⟨rfl, rfl⟩⟩
    · have h3 := HB.out.c3
      have hf3 := blk_frozen HB.out.blk 3
      have hf4 := blk_frozen HB.out.blk 4
      go_wp2
      go_quiet ((go_at_call 90; exact Calls.quiet_of_same (full_nil _)))
      go_wp2
      go_quiet (fail)
      go_wp2
      go_ret3
      exact ⟨rfl, (((HB.out.drewN _).set3 _).drewN _).set4 _, ((((HT.out.drewN _).setCell (.inl rfl) _).drewN _).setCell (.inl rfl) _)⟩
/-- A callee that draws nothing, where draws stand ahead. -/
theorem quiet_same2 {P : Program} {f : FuncId} {args : Array Value} {w : World} {a n : Nat} {v : Value}
    (h : Calls P f args (w.drewN (a + n)) fun e w' => e = .returned v ∧ w' = w.drewN (a + n)) : Calls P f args (w.drewN (a + n)) fun e w'' => e = .returned v ∧ ∃ m, w'' = w.drewN (a + m) :=
  h.mono fun _ _ ⟨he, hm⟩ => ⟨he, n, hm⟩
theorem set1' {W : World} {g : Nat} {T : ByteArray} {r wd : Nat} {last : Int} {done : Bool} (h : BufAt W g T r wd last done) (k : Nat) (v : Int) (hv : v = (k : Int)) (hk : k ≤ wd) : BufAt (W.setCell ⟨g, 1, none⟩ (.int .i64 v)) g T k wd last done := hv ▸ h.set1 k hk
theorem bt_extract (T : ByteArray) (r m : Nat) (hr : r < m) (hm : m ≤ T.size) : bt (T.extract r m) 0 = bt T (r : Int) := by
  have h1 : 0 < (T.extract r m).size := by rw [ByteArray.size_extract]; omega
  have h2 : r < T.size := by omega
  unfold bt
  rw [dif_pos (by simpa using h1), dif_pos (by simpa using h2)]
  simp only [Int.toNat_natCast, ByteArray.getElem_extract]
  rfl
set_option maxHeartbeats 4000000 in
set_option maxRecDepth 100000 in
theorem rune_at (g : Nat) (T : ByteArray) (r wd : Nat) (last : Int) (c k : Nat) (w : World) (hB : BufAt w g T r wd last false) (hr : r < T.size) (hc : bt T (r : Int) = (c : Int)) (hc1 : c < 128)
    (hT3 : w.cell? ⟨3, c, none⟩ = some (.int .u8 240)) (hg : g ≠ 3) (hk : k = 2 ∧ wd = r ∨ k = 1 ∧ r < wd) :
    Calls Tryd.prog 80 #[.pointer (some ⟨g, 0, none⟩)] w fun e w' => e = .returned (.tuple #[.int .i32 c, .int .i64 1, .nilIface]) ∧ (∃ wd', BufAt w' g T (r + 1) wd' r false) ∧ Turned w w' (at_ g) := by
  have HB := Aside0.mk hB
  have HT := Aside0.mk (Turned.refl w (at_ g))
  have hbig := hB.big
  have v1 : IntKind.i64.wrap ((r : Int) + 4) = (r : Int) + 4 := by unfold IntKind.wrap; simp [IntKind.bits, IntKind.signed]; omega
  have v3 : IntKind.i64.wrap ((r : Int) + 1) = (r : Int) + 1 := by unfold IntKind.wrap; simp [IntKind.bits, IntKind.signed]; omega
  have q1 : decide ((r : Int) < (r : Int) + 4) = true := by simp; omega
  have HC := Aside0.mk hc
  have HR := Aside0.mk hr
  have HC1 := Aside0.mk hc1
  have H3 := Aside0.mk hT3
  have HG := Aside0.mk hg
  have hnr : ¬ r < 0 := by omega
  clear hB hc hr hc1 hT3 hg
  go_enter Tryd.func80, Tryd.ntmps80
  go_wp2
  go_loopg [52] k (fun kq v52 w' => ∃ wd : Nat, Aside0 (BufAt w' g T r wd last false) ∧ Aside0 (Turned w w' (at_ g)) ∧ (kq = 2 ∧ wd = r ∨ kq = 1 ∧ r < wd))
  case atStart => exact ⟨wd, HB, HT, hk⟩
  case round =>
    clear HB HT hk
    obtain ⟨wq, HB, HT, hb⟩ := hrel
    have h0 := HB.out.c0
    have h1 := HB.out.c1
    have h2 := HB.out.c2
    have h3 := HB.out.c3
    have h4 := HB.out.c4
    have hf1 := blk_frozen HB.out.blk 1
    have hf3 := blk_frozen HB.out.blk 3
    have hf4 := blk_frozen HB.out.blk 4
    have hle := HB.out.le
    have hlew := HB.out.lew
    rcases hb with ⟨rfl, rfl⟩ | ⟨rfl, hlt⟩
    · go_wp2
      go_quiet ((go_at_call 90; exact Calls.quiet_of_same (full_nil _)))
      go_wp2_with (go_at_call 85; refine (fill_more g T _ _ last false _ (HB.out.drewN _) HR.out _ rfl).mono ?_; rintro e w2 ⟨rfl, HB2, HT2⟩)
      go_roundg 1
      case measure => omega
      case rel => exact ⟨_, ⟨HB2⟩, ⟨(HT.out.drewN _).trans HT2⟩, .inr ⟨rfl, by have := HR.out; omega⟩⟩
    · have E0 := Aside0.mk (show 0 < (T.extract r wq).size by rw [ByteArray.size_extract]; omega)
      have E1 := Aside0.mk (show bt (T.extract r wq) 0 = (c : Int) from (bt_extract T r wq hlt hlew).trans HC.out)
      have E2 := Aside0.mk (show wr.cell? ⟨3, c, none⟩ = some (.int .u8 240) from HT.out.cell H3.out (fun e => HG.out e.symm))
      have ne : ¬ wq = r := by omega
      have q5 : ((r : Int) == (wq : Int)) = false := by rw [beq_eq_false_iff_ne]; omega
      have hlt' : r ≤ wq := by omega
      by_cases h4q : (wq : Int) < (r : Int) + 4
      · have q2 : decide ((wq : Int) < (r : Int) + 4) = true := decide_eq_true h4q
        go_wp2
        go_quiet ((go_at_call 90; exact Calls.quiet_of_same (full_ascii _ c _ E0.out E1.out E2.out HC1.out)))
        go_wp2
        go_quiet (fail)
        go_wp2
        go_quiet ((go_at_call 91; exact quiet_same2 (decode_ascii _ c _ E0.out E1.out HC1.out)))
        go_wp2
        go_ret3
        exact ⟨rfl, ⟨wq, set1' (((HB.out.drewN _).set3 _).drewN _) (r + 1) _ (by omega) (by omega)⟩, (((HT.out.drewN _).setCell (.inl rfl) _).drewN _).setCell (.inl rfl) _⟩
      · have q2 : decide ((wq : Int) < (r : Int) + 4) = false := decide_eq_false h4q
        go_wp2
        go_quiet (fail)
        go_wp2
        go_quiet (fail)
        go_wp2
        go_quiet ((go_at_call 91; exact quiet_same2 (decode_ascii _ c _ E0.out E1.out HC1.out)))
        go_wp2
        go_ret3
        exact ⟨rfl, ⟨wq, set1' (((HB.out.drewN _).set3 _).drewN _) (r + 1) _ (by omega) (by omega)⟩, (((HT.out.drewN _).setCell (.inl rfl) _).drewN _).setCell (.inl rfl) _⟩
set_option maxHeartbeats 4000000 in
theorem unread (g : Nat) (T : ByteArray) (r wd p : Nat) (w : World) (hB : BufAt w g T r wd p false) (hp : p ≤ r) :
    Calls Tryd.prog 109 #[.pointer (some ⟨g, 0, none⟩)] w fun e w' => e = .returned .nilIface ∧ BufAt w' g T p wd p false ∧ Turned w w' (at_ g) := by
  have HB := Aside0.mk hB
  have hle := Aside0.mk (Nat.le_trans hp hB.le)
  have HT := Aside0.mk (Turned.refl w (at_ g))
  have h1 := hB.c1
  have h3 := hB.c3
  have hf1 := blk_frozen hB.blk 1
  clear hB hp
  go_enter Tryd.func109, Tryd.ntmps109
  go_wp2
  go_ret
  exact ⟨rfl, HB.out.set1 p hle.out, HT.out.setCell (.inl rfl) _⟩
end Go.Proofs.YtocdnceckljnaaaDoor.U
