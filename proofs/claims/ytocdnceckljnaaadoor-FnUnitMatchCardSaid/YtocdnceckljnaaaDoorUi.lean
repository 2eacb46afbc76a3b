/- The steps of the unit reader's lexer: an option's name. Conditions: see each theorem. -/
import Derived.Test.YtocdnceckljnaaaDoorUh
namespace Go.Proofs.YtocdnceckljnaaaDoor.U
open Go.RowKit Go.Proofs.YtocdnceckljnaaaDoorW.PrintWords Go.Proofs.YtocdnceckljnaaaDoorW.PrintLast Go.Proofs.YtocdnceckljnaaaDoorW.PrintMore
set_option linter.unusedVariables false
set_option linter.unusedSimpArgs false
theorem encode_ascii (c : UInt8) (h : c.toNat < 128) : Utf8.encode (c.toNat : Int) = B [c] := by
  have hv : Utf8.valid (c.toNat : Int) = true := by
    unfold Utf8.valid
    simp
    omega
  unfold Utf8.encode
  simp only [hv, if_true, Int.toNat_natCast]
  rw [if_pos (by omega)]
  simp [B]
theorem B_append (a b : Bs) : B a ++ B b = B (a ++ b) := by
  apply ByteArray.ext
  simp [ByteArray.data_append, B]
theorem trim_ascii (a : Bs) (W : World) (hl : a.length ≤ 4611686018427387000) (ha : ∀ c ∈ a, c.toNat < 128) (ht : Lib.TabIs Tryd.prog W "strings.asciiSpace" .u8 Lib.asciiSpaceTab) :
    Calls Tryd.prog 119 #[.string (B a)] W fun e w' => e = .returned (.string (B (Lib.trimSpace a))) ∧ Below W.heap.size W w' := by
  refine (Tryd.strings_TrimSpace (B a) W (by rw [B_size]; omega) (fun j b hj => ha b (List.mem_of_getElem? hj)) ht).mono ?_
  rintro e w' ⟨he, hw⟩
  exact ⟨he, hw ▸ below_bytes _ _ _⟩
set_option maxHeartbeats 4000000 in
set_option maxRecDepth 100000 in
theorem optname_go {w0 W : World} {gl gb : Nat} {T : ByteArray} {D : List Dat} {vd : Value} (b1 b2 : Nat) (s a r : Bs) (h : LS w0 gl gb T W (a ++ 61 :: r) D vd) (k1 : Box W b1 (pt gl) 100) (k2 : Box W b2 (.string (B s)) 9)
    (ha : ∀ c ∈ a, c.toNat < 128) (hn : (61 : UInt8) ∉ a) (h10 : (10 : UInt8) ∉ a) (h13 : (13 : UInt8) ∉ a) (hl : a.length ≤ 4611686018427387000) :
    Calls Tryd.prog 118 #[pt b1, pt b2] W fun e w' => ∃ fv, e = ret fv ∧ LS w0 gl gb T w' r D vd ∧ StepIs w0.heap.size w' gl (.optVal s (Lib.trimSpace a)) fv := by
  have H := Aside0.mk h
  have K1 := Aside0.mk k1
  have K2 := Aside0.mk k2
  have HA := Aside0.mk ha
  have HN := Aside0.mk hn
  have H10 := Aside0.mk h10
  have H13 := Aside0.mk h13
  have HL := Aside0.mk hl
  have hnn : ∀ (w : World), (binOp .neq 61 .nilIface .nilIface).run Tryd.prog w = .ok (.bool false) w := fun _ => rfl
  clear h k1 k2 ha hn h10 h13 hl
  unfold pt
  go_enter Tryd.func118, Tryd.ntmps118
  go_wp2
  go_loopg [4] a.length (fun kq v4 w' => ∃ a1 a2, Aside0 (a = a1 ++ a2) ∧ v4 = .string (B a1) ∧ Aside0 (kq = a2.length) ∧ Aside0 (LS w0 gl gb T w' (a2 ++ 61 :: r) D vd) ∧ Aside0 (Box w' b1 (pt gl) 100) ∧ Aside0 (Box w' b2 (.string (B s)) 9))
  case atStart => exact ⟨[], a, ⟨rfl⟩, rfl, ⟨rfl⟩, H, K1, K2⟩
  case round =>
    clear H K1 K2
    obtain ⟨a1, a2, HE, rfl, HK, H, K1, K2⟩ := hrel
    have hk1 := K1.out.cell
    have hc0 := H.out.lx.c0
    unfold pt at hk1
    cases a2 with
    | nil =>
      have HX := Aside0.mk (show LS w0 gl gb T wr (61 :: r) D vd from H.out)
      have hA : B a1 = B a := by rw [HE.out, List.append_nil]
      rw [hA]
      clear hA
      go_wp2_with (first
        | (go_at_call 80; refine (rune_lx 61 r HX.out.lx).mono ?_; rintro e w1 ⟨rfl, hx, ht, _⟩; have H1 := Aside0.mk (HX.out.on ht hx); have KK1 := Aside0.mk (HX.out.box ht K1.out (by decide)); have KK2 := Aside0.mk (HX.out.box ht K2.out (by decide)); clear hx ht)
        | (go_at_call 119; refine (trim_ascii a _ HL.out HA.out H1.out.lx.tabW.ssp).mono ?_; rintro e w2 ⟨rfl, hb⟩; have H2 := Aside0.mk (H1.out.more hb); have hk21 := (KK1.out.more hb).cell; have hk22 := (KK2.out.more hb).cell; clear hb; unfold pt at hk21)
        | (go_at_call 120; refine (optval_mk w0.heap.size gl s _ _ rfl _ H2.out.lx.below.size).mono ?_; rintro e w3 ⟨fv, rfl, hso, hb⟩; have H3 := Aside0.mk (H2.out.more hb); have HO := Aside0.mk hso; clear hso hb))
      go_ret2
      exact ⟨_, rfl, H3.out, HO.out⟩
    | cons c a3 =>
      have HX := Aside0.mk (show LS w0 gl gb T wr (c :: (a3 ++ 61 :: r)) D vd from H.out)
      have hm : c ∈ a := by rw [HE.out]; simp
      have q1 : ((c.toNat : Int) == 10) = false := by rw [beq_eq_false_iff_ne]; intro e; exact H10.out ((UInt8.toNat_inj.1 (show c.toNat = (10 : UInt8).toNat by have : (10 : UInt8).toNat = 10 := rfl; omega)) ▸ hm)
      have q2 : ((c.toNat : Int) == 13) = false := by rw [beq_eq_false_iff_ne]; intro e; exact H13.out ((UInt8.toNat_inj.1 (show c.toNat = (13 : UInt8).toNat by have : (13 : UInt8).toNat = 13 := rfl; omega)) ▸ hm)
      have q3 : ((c.toNat : Int) == 61) = false := by rw [beq_eq_false_iff_ne]; intro e; exact HN.out ((UInt8.toNat_inj.1 (show c.toNat = (61 : UInt8).toNat by have : (61 : UInt8).toNat = 61 := rfl; omega)) ▸ hm)
      have hcv : Utf8.encode (c.toNat : Int) = B [c] := encode_ascii c (HA.out c hm)
      have hsz : ¬ 9223372036854775807 < a1.length + 1 := by
        have := HL.out
        have h2 := congrArg List.length HE.out
        rw [List.length_append] at h2
        omega
      have hs1 : (B a1).size = a1.length := B_size a1
      have hs2 : (B [c]).size = 1 := B_size [c]
      clear hm
      go_wp2_with (go_at_call 80; refine (rune_lx c _ HX.out.lx).mono ?_; rintro e w1 ⟨rfl, hx, ht, _⟩; have H1 := Aside0.mk (HX.out.on ht hx); have KK1 := Aside0.mk (HX.out.box ht K1.out (by decide)); have KK2 := Aside0.mk (HX.out.box ht K2.out (by decide)); clear hx ht)
      go_roundg a3.length
      case measure => rw [HK.out]; simp
      case rel => exact ⟨a1 ++ [c], a3, ⟨by rw [HE.out]; simp⟩, by rw [← B_append], ⟨rfl⟩, H1, KK1, KK2⟩
end Go.Proofs.YtocdnceckljnaaaDoor.U
