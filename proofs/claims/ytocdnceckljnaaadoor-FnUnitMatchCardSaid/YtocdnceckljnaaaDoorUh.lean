/- The steps of the unit reader's lexer: comments, the sign at a line's beginning, an option's name. Conditions: see each theorem. -/
import Derived.Test.YtocdnceckljnaaaDoorUg
namespace Go.Proofs.YtocdnceckljnaaaDoor.U
open Go.RowKit Go.Proofs.YtocdnceckljnaaaDoorW.PrintWords Go.Proofs.YtocdnceckljnaaaDoorW.PrintLast Go.Proofs.YtocdnceckljnaaaDoorW.PrintMore
set_option linter.unusedVariables false
set_option linter.unusedSimpArgs false
theorem LS.box {w0 W W1 : World} {gl gb : Nat} {T : ByteArray} {rest : Bs} {D : List Dat} {vd : Value} (h : LS w0 gl gb T W rest D vd) (ht : Turned W W1 (at_ gb)) {b : Nat} {v : Value} {t : TypeId} (hb : Box W b v t) (hne : t ≠ 114) : Box W1 b v t := by
  obtain ⟨r, wd, last, hB, _⟩ := h.lx.buf
  exact hb.turned ht (blk_ne hb hB.blk hne)
theorem LS.secopt {w0 W W1 : World} {gl gb : Nat} {T : ByteArray} {rest : Bs} {D : List Dat} {vd : Value} (h : LS w0 gl gb T W rest D vd) (ht : Turned W W1 (at_ gb)) {s : Bs} {fv : Value} (hf : SecOptIs W gl s fv) : SecOptIs W1 gl s fv := by
  obtain ⟨b1, b2, rfl, h1, h2⟩ := hf
  exact ⟨b1, b2, rfl, h.box ht h1 (by decide), h.box ht h2 (by decide)⟩
theorem has1 (W : World) (base : Nat) (v : Value) (l : Bs) (d : UInt8) (x : Int) (hx : x = ((d.toNat : Nat) : Int)) (b2 c2 : Nat) (h : Sl W base v l) (hl : l.length ≤ 4611686018427387904) (h2 : W.cell? ⟨b2, 0, none⟩ = some (.int .u8 x)) :
    Calls Tryd.prog 97 #[v, .slice (some ⟨b2, 0, none⟩) 1 c2] W fun e w' => e = .returned (.bool (Lib.hasSuffix l [d])) ∧ w' = W := by
  subst hx
  obtain ⟨b, o, c, rfl, h1, hb, hlt, h4⟩ := h.bytes
  have := Tryd.bytes_HasSuffix_all (some ⟨b, o, none⟩) (some ⟨b2, 0, none⟩) l.length c 1 c2 (nums l) (nums [d]) W (nums_len l) rfl h1 (by omega)
    (fun _ => ⟨b, o, rfl, h4⟩) (fun _ => ⟨b2, 0, rfl, fun i hi => by obtain rfl : i = 0 := by omega
                                                                     exact h2⟩)
  rw [bytesOf_nums, bytesOf_nums] at this
  exact this
theorem cutEnd_len (d : UInt8) (l : Bs) : (cutEnd d l).length ≤ l.length := by
  unfold cutEnd
  split
  · rw [List.length_dropLast]; omega
  · exact Nat.le_refl _
set_option maxHeartbeats 4000000 in
set_option maxRecDepth 100000 in
theorem ign_go {w0 W : World} {gl gb : Nat} {T : ByteArray} {D : List Dat} {vd : Value} (rest : Bs) (b1 b2 : Nat) (v : Value) (h : LS w0 gl gb T W rest D vd) (k1 : Box W b1 (pt gl) 100) (k2 : Box W b2 v 121)
    (h13 : (13 : UInt8) ∉ eolL rest) (hl : (eolL rest).length ≤ 4611686018427387000) (hb : Lib.hasSuffix (cutEnd 32 (eolL rest)) [92] = false) :
    Calls Tryd.prog 94 #[pt b1, pt b2] W fun e w' => e = ret v ∧ LS w0 gl gb T w' (eolR rest) D vd ∧ (∀ s, SecOptIs W gl s v → SecOptIs w' gl s v) := by
  have H := Aside0.mk h
  have hc1 := k1.cell
  have K2 := Aside0.mk k2
  have H13 := Aside0.mk h13
  have HL := Aside0.mk hl
  have HB := Aside0.mk hb
  have HS := Aside0.mk (fun (s : Bs) (hs : SecOptIs W gl s v) => hs)
  have hnn : ∀ (w : World), (binOp .neq 61 .nilIface .nilIface).run Tryd.prog w = .ok (.bool false) w := fun _ => rfl
  clear h k1 k2 h13 hl hb
  unfold pt at hc1 ⊢
  go_enter Tryd.func94, Tryd.ntmps94
  go_wp2
  go_loop [4] (fun _ => True) (fun _ => 0)
  case atStart => trivial
  case round =>
    go_wp2_with (first
      | (go_at_call 95; refine (to_eol rest H.out.lx H13.out HL.out).mono ?_; rintro e w1 ⟨v1, rfl, hs, hx, ht⟩; have HS1 := Aside0.mk hs; have H1 := Aside0.mk (H.out.on ht hx); have K21 := Aside0.mk (H.out.box ht K2.out (by decide)); have HO1 := Aside0.mk (fun s hs => H.out.secopt ht (HS.out s hs)); clear hs hx ht)
      | (go_at_call 96; refine (trim1' _ W.heap.size v1 (eolL rest) 32 32 rfl _ _ (HS1.out.below (below_new _ _)) (Nat.le_trans HL.out (by decide)) (cell_new _ _ _)).mono ?_; rintro e w2 ⟨⟨v2, rfl, hs2⟩, hw⟩; have HS2 := Aside0.mk hs2; have H2 := Aside0.mk (show LS w0 gl gb T w2 (eolR rest) D vd by rw [hw]; exact H1.out.more (below_new _ _)); have K22 := Aside0.mk (show Box w2 b2 v 121 by rw [hw]; exact K21.out.more (below_new _ _)); have HO2 := Aside0.mk (fun s hs => show SecOptIs w2 gl s v by rw [hw]; exact (HO1.out s hs).more (below_new _ _)); clear hs2 hw)
      | (go_at_call 97; refine (has1 _ W.heap.size v2 (cutEnd 32 (eolL rest)) 92 92 rfl _ _ (HS2.out.below (below_new _ _)) (Nat.le_trans (cutEnd_len _ _) (Nat.le_trans HL.out (by decide))) (cell_new _ _ _)).mono ?_; rintro e w3 ⟨rfl, hw⟩; rw [HB.out]; have H3 := Aside0.mk (show LS w0 gl gb T w3 (eolR rest) D vd by rw [hw]; exact H2.out.more (below_new _ _)); have hk := (show Box w3 b2 v 121 by rw [hw]; exact K22.out.more (below_new _ _)).cell; have HO3 := Aside0.mk (fun s hs => show SecOptIs w3 gl s v by rw [hw]; exact (HO2.out s hs).more (below_new _ _)); clear hw))
    go_ret2
    exact ⟨rfl, H3.out, HO3.out⟩
set_option maxHeartbeats 4000000 in
set_option maxRecDepth 100000 in
theorem secopt_end {w0 W : World} {gl gb : Nat} {T : ByteArray} {D : List Dat} {vd : Value} (b1 b2 : Nat) (s : Bs) (h : LS w0 gl gb T W [] D vd) (k1 : Box W b1 (pt gl) 100) (k2 : Box W b2 (.string (B s)) 9) :
    Calls Tryd.prog 107 #[pt b1, pt b2] W fun e w' => e = ret .nilFunc ∧ LS w0 gl gb T w' [] D vd := by
  have H := Aside0.mk h
  have hc0 := h.lx.c0
  have hc1 := k1.cell
  have hen : ∀ (w : World), (binOp .neq 61 eof .nilIface).run Tryd.prog w = .ok (.bool true) w := fun _ => rfl
  clear h k1 k2
  unfold pt at hc1 ⊢
  go_enter Tryd.func107, Tryd.ntmps107
  go_wp2_with (first
    | (go_at_call 80; refine (rune_lx_end H.out.lx).mono ?_; rintro e w1 ⟨rfl, hx, ht⟩; have H1 := Aside0.mk (H.out.on ht hx); clear hx ht)
    | (go_at_call 81; refine (eof_is _).mono ?_; rintro e w2 ⟨rfl, hb⟩; have H2 := Aside0.mk (H1.out.more hb); clear hb))
  go_ret2
  exact ⟨rfl, H2.out⟩
/-- What a sign at a line's beginning leads to, and what is left. -/
def soStep (s : Bs) (c : UInt8) (r : Bs) : St × Bs := if spN c.toNat = true then (.secOpt s, r) else if c.toNat = 91 then (.secName, r) else if c.toNat = 35 ∨ c.toNat = 59 then (.ign (some s), r) else (.optName s, c :: r)
set_option maxHeartbeats 4000000 in
set_option maxRecDepth 100000 in
theorem secopt_go {w0 W : World} {gl gb : Nat} {T : ByteArray} {D : List Dat} {vd : Value} (b1 b2 : Nat) (s : Bs) (c : UInt8) (r : Bs) (h : LS w0 gl gb T W (c :: r) D vd) (k1 : Box W b1 (pt gl) 100) (k2 : Box W b2 (.string (B s)) 9) (hc128 : c.toNat < 128) :
    Calls Tryd.prog 107 #[pt b1, pt b2] W fun e w' => ∃ fv, e = ret fv ∧ LS w0 gl gb T w' (soStep s c r).2 D vd ∧ StepIs w0.heap.size w' gl (soStep s c r).1 fv := by
  have H := Aside0.mk h
  have hc0 := h.lx.c0
  have hc1 := k1.cell
  have K1 := Aside0.mk k1
  have K2 := Aside0.mk k2
  have HC := Aside0.mk hc128
  have hnn : ∀ (w : World), (binOp .neq 61 .nilIface .nilIface).run Tryd.prog w = .ok (.bool false) w := fun _ => rfl
  have hmf := hmf
  clear h k1 k2 hc128
  unfold pt at hc1 ⊢
  by_cases h0 : spN c.toNat = true
  · rw [show soStep s c r = (.secOpt s, r) by unfold soStep; rw [if_pos h0]]
    go_enter Tryd.func107, Tryd.ntmps107
    go_wp2_with (first
      | (go_at_call 80; refine (rune_lx c r H.out.lx).mono ?_; rintro e w1 ⟨rfl, hx, ht, _⟩; have H1 := Aside0.mk (H.out.on ht hx); have hk1 := (H.out.box ht K1.out (by decide)).cell; have hk2 := (H.out.box ht K2.out (by decide)).cell; clear hx ht; unfold pt at hk1)
      | (go_at_call 108; refine (space_ c.toNat HC.out _).mono ?_; rintro e w2 ⟨rfl, rfl⟩; rw [h0])
      | (go_at_call 102; refine (secopt_mk gl s _).mono ?_; rintro e w3 ⟨fv, rfl, hso, hb⟩; have H3 := Aside0.mk (H1.out.more hb); have HO := Aside0.mk hso; clear hso hb))
    go_ret2
    exact ⟨_, rfl, H3.out, HO.out⟩
  · have hs0 : soStep s c r = if c.toNat = 91 then (.secName, r) else if c.toNat = 35 ∨ c.toNat = 59 then (.ign (some s), r) else (.optName s, c :: r) := by unfold soStep; rw [if_neg h0]
    rw [hs0]
    have h0' : spN c.toNat = false := by simpa using h0
    clear h0 hs0
    by_cases h1 : c.toNat = 91
    · rw [if_pos h1]
      have q1 : ((c.toNat : Int) == 91) = true := by rw [beq_iff_eq]; omega
      clear h1
      go_enter Tryd.func107, Tryd.ntmps107
      go_wp2_with (first
        | (go_at_call 80; refine (rune_lx c r H.out.lx).mono ?_; rintro e w1 ⟨rfl, hx, ht, _⟩; have H1 := Aside0.mk (H.out.on ht hx); have hk1 := (H.out.box ht K1.out (by decide)).cell; have hk2 := (H.out.box ht K2.out (by decide)).cell; clear hx ht; unfold pt at hk1)
        | (go_at_call 108; refine (space_ c.toNat HC.out _).mono ?_; rintro e w2 ⟨rfl, rfl⟩; rw [h0']))
      go_ret2
      exact ⟨_, rfl, H1.out, rfl⟩
    · rw [if_neg h1]
      have q1 : ((c.toNat : Int) == 91) = false := by rw [beq_eq_false_iff_ne]; omega
      clear h1
      by_cases h2 : c.toNat = 35 ∨ c.toNat = 59
      · rw [if_pos h2]
        have q2 : (c.toNat == 35 || c.toNat == 59) = true := by simpa using h2
        clear h2
        go_enter Tryd.func107, Tryd.ntmps107
        go_wp2_with (first
          | (go_at_call 80; refine (rune_lx c r H.out.lx).mono ?_; rintro e w1 ⟨rfl, hx, ht, _⟩; have H1 := Aside0.mk (H.out.on ht hx); have hk1 := (H.out.box ht K1.out (by decide)).cell; have hk2 := (H.out.box ht K2.out (by decide)).cell; clear hx ht; unfold pt at hk1)
          | (go_at_call 108; refine (space_ c.toNat HC.out _).mono ?_; rintro e w2 ⟨rfl, hw2⟩; subst hw2; rw [h0'])
          | (go_at_call 83; refine (comment_ c.toNat _).mono ?_; rintro e w4 ⟨rfl, hw4⟩; subst hw4; rw [q2]))
        have hb0 : Below w4.heap.size w4 w4.drew := below_drew (Below.refl _ _)
        go_region_held (fun w' => Below w4.heap.size w4 w' ∧ w'.cell? ⟨b1, 0, none⟩ = some (.pointer (some ⟨gl, 0, none⟩)) ∧ w'.cell? ⟨b2, 0, none⟩ = some (.string (B s)))
          (first
            | (go_split_ands; exact ⟨by assumption, by assumption, by assumption⟩)
            | (go_split_ands; exact ⟨below_over (by assumption) (by assumption), keepcell (by assumption) (by assumption), keepcell (by assumption) (by assumption)⟩)
            | go_keep)
          (first
            | (go_at_call 102; refine (secopt_mk gl s _).mono ?_; rintro e w5 ⟨fv, rfl, hso, hb5⟩; have HO5 := Aside0.mk hso; obtain ⟨d1, d2, rfl, _, _⟩ := hso)
            | (go_at_call 84; refine (ign_mk gl _ _ _ _).mono ?_; rintro e w6 ⟨e1, e2, rfl, k1, k2, hb6⟩; have HO6 := Aside0.mk (HO5.out.more hb6); have K61 := Aside0.mk k1; have K62 := Aside0.mk k2; clear k1 k2))
        rename_i hHeld
        have HH := Aside0.mk hHeld.1
        clear hHeld
        go_wp2
        go_ret2
        exact ⟨_, rfl, H1.out.more HH.out, e1, e2, _, rfl, K61.out, K62.out, HO6.out⟩
      · rw [if_neg h2]
        have q2 : (c.toNat == 35 || c.toNat == 59) = false := by simpa using h2
        clear h2
        go_enter Tryd.func107, Tryd.ntmps107
        go_wp2_with (first
          | (go_at_call 80; refine (rune_lx c r H.out.lx).mono ?_; rintro e w1 ⟨rfl, hx, ht, hun⟩; have H1 := Aside0.mk (H.out.on ht hx); have KK1 := Aside0.mk (H.out.box ht K1.out (by decide)); have KK2 := Aside0.mk (H.out.box ht K2.out (by decide)); have hk1 := KK1.out.cell; have hg := Aside0.mk (hun); have hcx := H1.out.lx.c0; clear hx ht hun; unfold pt at hk1)
          | (go_at_call 108; refine (space_ c.toNat HC.out _).mono ?_; rintro e w2 ⟨rfl, hw2⟩; subst hw2; rw [h0'])
          | (go_at_call 83; refine (comment_ c.toNat _).mono ?_; rintro e w4 ⟨rfl, hw4⟩; subst hw4; rw [q2])
          | (go_at_call 109; refine (unread_lx c r H1.out.lx hg.out).mono ?_; rintro e w5 ⟨rfl, hx, ht⟩; have H5 := Aside0.mk (H1.out.on ht hx); have hk51 := (H1.out.box ht KK1.out (by decide)).cell; have hk52 := (H1.out.box ht KK2.out (by decide)).cell; clear hx ht; unfold pt at hk51)
          | (go_at_call 110; refine (optname_mk w0.heap.size gl s _).mono ?_; rintro e w6 ⟨fv, rfl, hso, hb⟩; have H6 := Aside0.mk (H5.out.more hb); have HO := Aside0.mk hso; clear hso hb))
        go_ret2
        exact ⟨_, rfl, H6.out, HO.out⟩
end Go.Proofs.YtocdnceckljnaaaDoor.U
