/- The steps of the unit reader's lexer: the makers of steps; the steps that write no datum. Conditions: see each theorem. -/
import Derived.Test.YtocdnceckljnaaaDoorUf
namespace Go.Proofs.YtocdnceckljnaaaDoor.U
open Go.RowKit Go.Proofs.YtocdnceckljnaaaDoorW.PrintWords Go.Proofs.YtocdnceckljnaaaDoorW.PrintLast Go.Proofs.YtocdnceckljnaaaDoorW.PrintMore
set_option linter.unusedVariables false
set_option linter.unusedSimpArgs false
theorem hmf : ∀ (fn : Fn) (first cap : Array Value) (w : World), (Instr.makeFunc fn first cap).run Tryd.prog w = .ok (.func fn first cap) w := fun _ _ _ _ => rfl
theorem alloc_size' (w : World) (o : Obj) : (w.alloc o).heap.size = w.heap.size + 1 := by show (w.heap.push o).size = _; rw [Array.size_push]
/-- Two boxes, one behind the other. -/
theorem two_boxes (W : World) (v1 v2 : Value) (t1 t2 : TypeId) : Box ((W.alloc (.cells #[v1] t1)).alloc (.cells #[v2] t2)) W.heap.size v1 t1 ∧ Box ((W.alloc (.cells #[v1] t1)).alloc (.cells #[v2] t2)) (W.heap.size + 1) v2 t2 ∧ Below W.heap.size W ((W.alloc (.cells #[v1] t1)).alloc (.cells #[v2] t2)) := by
  refine ⟨(Box.new W v1 t1).more (below_new _ _), ?_, below_over (below_new _ _) (below_new _ _)⟩
  have := Box.new (W.alloc (.cells #[v1] t1)) v2 t2
  rw [alloc_size'] at this
  exact this
set_option maxHeartbeats 4000000 in
set_option maxRecDepth 100000 in
theorem secopt_mk (gl : Nat) (s : Bs) (W : World) : Calls Tryd.prog 102 #[pt gl, .string (B s)] W fun e w' => ∃ fv, e = .returned fv ∧ SecOptIs w' gl s fv ∧ Below W.heap.size W w' := by
  have hmf := hmf
  have H2 := Aside0.mk (two_boxes W (pt gl) (.string (B s)) 100 9)
  go_enter Tryd.func102, Tryd.ntmps102
  go_wp2
  go_ret
  exact ⟨_, rfl, ⟨_, _, rfl, H2.out.1, H2.out.2.1⟩, H2.out.2.2⟩
set_option maxHeartbeats 4000000 in
set_option maxRecDepth 100000 in
theorem suffix_mk (n0 : Nat) (gl : Nat) (s : Bs) (S : ByteArray) (hS : S = B s) (W : World) : Calls Tryd.prog 93 #[pt gl, .string S] W fun e w' => ∃ fv, e = .returned fv ∧ StepIs n0 w' gl (.suffix s) fv ∧ Below W.heap.size W w' := by
  subst hS
  have hmf := hmf
  have H2 := Aside0.mk (two_boxes W (pt gl) (.string (B s)) 100 9)
  go_enter Tryd.func93, Tryd.ntmps93
  go_wp2
  go_ret
  exact ⟨_, rfl, ⟨_, _, rfl, H2.out.1, H2.out.2.1⟩, H2.out.2.2⟩
set_option maxHeartbeats 4000000 in
set_option maxRecDepth 100000 in
theorem optname_mk (n0 : Nat) (gl : Nat) (s : Bs) (W : World) : Calls Tryd.prog 110 #[pt gl, .string (B s)] W fun e w' => ∃ fv, e = .returned fv ∧ StepIs n0 w' gl (.optName s) fv ∧ Below W.heap.size W w' := by
  have hmf := hmf
  have H2 := Aside0.mk (two_boxes W (pt gl) (.string (B s)) 100 9)
  go_enter Tryd.func110, Tryd.ntmps110
  go_wp2
  go_ret
  exact ⟨_, rfl, ⟨_, _, rfl, H2.out.1, H2.out.2.1⟩, H2.out.2.2⟩
set_option maxHeartbeats 4000000 in
set_option maxRecDepth 100000 in
theorem ign_mk (gl : Nat) (fn : Fn) (fi ca : Array Value) (W : World) : Calls Tryd.prog 84 #[pt gl, .func fn fi ca] W fun e w' => ∃ b1 b2, e = .returned (.func (.func 94) #[] #[pt b1, pt b2]) ∧ Box w' b1 (pt gl) 100 ∧ Box w' b2 (.func fn fi ca) 121 ∧ Below W.heap.size W w' := by
  have hmf := hmf
  have H2 := Aside0.mk (two_boxes W (pt gl) (.func fn fi ca) 100 121)
  go_enter Tryd.func84, Tryd.ntmps84
  go_wp2
  go_ret
  exact ⟨_, _, rfl, H2.out.1, H2.out.2.1, H2.out.2.2⟩
theorem four_boxes (W : World) (v1 v2 v3 v4 : Value) (t1 t2 t3 t4 : TypeId) : ∃ b1 b2 b3 b4, b1 = W.heap.size ∧ b2 = W.heap.size + 1 ∧ b3 = W.heap.size + 2 ∧ b4 = W.heap.size + 3 ∧
    Box ((((W.alloc (.cells #[v1] t1)).alloc (.cells #[v2] t2)).alloc (.cells #[v3] t3)).alloc (.cells #[v4] t4)) b1 v1 t1 ∧ Box ((((W.alloc (.cells #[v1] t1)).alloc (.cells #[v2] t2)).alloc (.cells #[v3] t3)).alloc (.cells #[v4] t4)) b2 v2 t2 ∧
    Box ((((W.alloc (.cells #[v1] t1)).alloc (.cells #[v2] t2)).alloc (.cells #[v3] t3)).alloc (.cells #[v4] t4)) b3 v3 t3 ∧ Box ((((W.alloc (.cells #[v1] t1)).alloc (.cells #[v2] t2)).alloc (.cells #[v3] t3)).alloc (.cells #[v4] t4)) b4 v4 t4 ∧
    Below W.heap.size W ((((W.alloc (.cells #[v1] t1)).alloc (.cells #[v2] t2)).alloc (.cells #[v3] t3)).alloc (.cells #[v4] t4)) := by
  obtain ⟨h1, h2, h3⟩ := two_boxes W v1 v2 t1 t2
  obtain ⟨k1, k2, k3⟩ := two_boxes ((W.alloc (.cells #[v1] t1)).alloc (.cells #[v2] t2)) v3 v4 t3 t4
  rw [alloc_size', alloc_size'] at k1 k2
  exact ⟨_, _, _, _, rfl, rfl, rfl, rfl, h1.more k3, h2.more k3, k1, k2, below_over h3 k3⟩
set_option maxHeartbeats 4000000 in
set_option maxRecDepth 100000 in
theorem optval_mk (n0 : Nat) (gl : Nat) (s n : Bs) (N : ByteArray) (hN : N = B n) (W : World) (hn0 : n0 ≤ W.heap.size) : Calls Tryd.prog 120 #[pt gl, .string (B s), .string N, .string ⟨#[]⟩] W fun e w' => ∃ fv, e = .returned fv ∧ StepIs n0 w' gl (.optVal s n) fv ∧ Below W.heap.size W w' := by
  subst hN
  have hmf := hmf
  obtain ⟨b1, b2, b3, b4, e1, e2, e3, e4, h1, h2, h3, h4, h5⟩ := four_boxes W (pt gl) (.string (B s)) (.string (B n)) (.string ⟨#[]⟩) 100 9 9 9
  have H1 := Aside0.mk h1
  have H2 := Aside0.mk h2
  have H3 := Aside0.mk h3
  have H4 := Aside0.mk h4
  have H5 := Aside0.mk h5
  have E := Aside0.mk (And.intro e1 (And.intro e2 (And.intro e3 e4)))
  clear h1 h2 h3 h4 h5 e1 e2 e3 e4
  go_enter Tryd.func120, Tryd.ntmps120
  go_wp2
  go_ret
  obtain ⟨e1, e2, e3, e4⟩ := E.out
  exact ⟨_, rfl, ⟨b1, b4, b2, b3, by rw [e1, e2, e3, e4]; rfl, H1.out, H4.out, H2.out, H3.out, by omega, by omega, by omega⟩, H5.out⟩
/-- The state of the lexer as a pair of values that it returns. -/
def ret (fv : Value) : Ending := .returned (.tuple #[fv, .nilIface])
theorem ruT {w0 W W1 : World} {gl gb : Nat} {T : ByteArray} {rest r1 : Bs} {D : List Dat} {vd : Value} (h : LS w0 gl gb T W rest D vd) (hl : Lx w0 gl gb T W1 r1 vd) (ht : Turned W W1 (at_ gb)) : LS w0 gl gb T W1 r1 D vd := h.on ht hl
set_option maxHeartbeats 4000000 in
set_option maxRecDepth 100000 in
theorem next_end {w0 W : World} {gl gb : Nat} {T : ByteArray} {D : List Dat} {vd : Value} (h : LS w0 gl gb T W [] D vd) :
    Calls Tryd.prog 68 #[pt gl] W fun e w' => e = ret .nilFunc ∧ LS w0 gl gb T w' [] D vd := by
  have H := Aside0.mk h
  have hc0 := h.lx.c0
  have hen : ∀ (w : World), (binOp .neq 61 eof .nilIface).run Tryd.prog w = .ok (.bool true) w := fun _ => rfl
  clear h
  unfold pt
  go_enter Tryd.func68, Tryd.ntmps68
  go_wp2_with (first
    | (go_at_call 80; refine (rune_lx_end H.out.lx).mono ?_; rintro e w1 ⟨rfl, hx, ht⟩; have H1 := Aside0.mk (H.out.on ht hx); clear hx ht)
    | (go_at_call 81; refine (eof_is _).mono ?_; rintro e w2 ⟨rfl, hb⟩; have H2 := Aside0.mk (H1.out.more hb); clear hb))
  go_ret2
  exact ⟨rfl, H2.out⟩
set_option maxHeartbeats 4000000 in
set_option maxRecDepth 100000 in
theorem next_go {w0 W : World} {gl gb : Nat} {T : ByteArray} {D : List Dat} {vd : Value} (c : UInt8) (r : Bs) (h : LS w0 gl gb T W (c :: r) D vd) :
    Calls Tryd.prog 68 #[pt gl] W fun e w' => ∃ fv, e = ret fv ∧ LS w0 gl gb T w' r D vd ∧ StepIs w0.heap.size w' gl (if c.toNat = 91 then .secName else if c.toNat = 35 ∨ c.toNat = 59 then .ign none else .next) fv := by
  have H := Aside0.mk h
  have hc0 := h.lx.c0
  have hnn : ∀ (w : World), (binOp .neq 61 .nilIface .nilIface).run Tryd.prog w = .ok (.bool false) w := fun _ => rfl
  have hmf := hmf
  clear h
  unfold pt
  by_cases h1 : c.toNat = 91
  · rw [if_pos h1]
    have q1 : ((c.toNat : Int) == 91) = true := by rw [beq_iff_eq]; omega
    clear h1
    go_enter Tryd.func68, Tryd.ntmps68
    go_wp2_with (go_at_call 80; refine (rune_lx c r H.out.lx).mono ?_; rintro e w1 ⟨rfl, hx, ht, _⟩; have H1 := Aside0.mk (H.out.on ht hx); clear hx ht)
    go_ret2
    exact ⟨_, rfl, H1.out, rfl⟩
  · rw [if_neg h1]
    have q1 : ((c.toNat : Int) == 91) = false := by rw [beq_eq_false_iff_ne]; omega
    clear h1
    by_cases h2 : c.toNat = 35 ∨ c.toNat = 59
    · rw [if_pos h2]
      have q2 : (c.toNat == 35 || c.toNat == 59) = true := by simpa using h2
      clear h2
      go_enter Tryd.func68, Tryd.ntmps68
      go_wp2_with (first
        | (go_at_call 80; refine (rune_lx c r H.out.lx).mono ?_; rintro e w1 ⟨rfl, hx, ht, _⟩; have H1 := Aside0.mk (H.out.on ht hx); clear hx ht)
        | (go_at_call 83; refine (comment_ c.toNat _).mono ?_; rintro e w2 ⟨rfl, rfl⟩; rw [q2])
        | (go_at_call 84; refine (ign_mk gl _ _ _ _).mono ?_; rintro e w3 ⟨b1, b2, rfl, k1, k2, hb⟩; have H3 := Aside0.mk (H1.out.more hb); have K1 := Aside0.mk k1; have K2 := Aside0.mk k2; clear k1 k2 hb))
      go_ret2
      exact ⟨_, rfl, H3.out, b1, b2, _, rfl, K1.out, K2.out, rfl⟩
    · rw [if_neg h2]
      have q2 : (c.toNat == 35 || c.toNat == 59) = false := by simpa using h2
      clear h2
      go_enter Tryd.func68, Tryd.ntmps68
      go_wp2_with (first
        | (go_at_call 80; refine (rune_lx c r H.out.lx).mono ?_; rintro e w1 ⟨rfl, hx, ht, _⟩; have H1 := Aside0.mk (H.out.on ht hx); clear hx ht)
        | (go_at_call 83; refine (comment_ c.toNat _).mono ?_; rintro e w2 ⟨rfl, rfl⟩; rw [q2]))
      go_ret2
      exact ⟨_, rfl, H1.out, rfl⟩
theorem wr0 (n : Nat) (h : n ≤ 4611686018427387904) : wrap64 (n : Int) = (n : Int) := by unfold wrap64; omega
theorem son_B (l : Bs) : strOfNums (nums l) = B l := by
  apply ByteArray.ext
  apply Array.toList_inj.1
  rw [strOfNums_data]
  unfold nums
  rw [List.map_map]
  show _ = l
  conv => rhs; rw [← List.map_id l]
  apply List.map_congr_left
  intro c _
  simp
/-- A slice of bytes as a string. -/
theorem Sl.str {W : World} {base : Nat} {v : Value} {l : Bs} (h : Sl W base v l) : (convert 33 9 v).run Tryd.prog W = .ok (.string (B l)) W := by
  obtain ⟨b, o, c, rfl, h1, h2, h3, h4⟩ := h.bytes
  rw [run_convert_bytes_arg W 33 5 Tryd.underlying33 Tryd.underlying5 b o l.length c (nums l) (nums_len l) h4 9 Tryd.underlying9, son_B]
theorem Sl.cut {W : World} {base : Nat} {v : Value} {a : Bs} {d : UInt8} (h : Sl W base v (a ++ [d])) : ∃ b o c, v = .slice (some ⟨b, o, none⟩) (a.length + 1) c ∧ a.length + 1 ≤ c ∧ (convert 33 9 (.slice (some ⟨b, o, none⟩) a.length c)).run Tryd.prog W = .ok (.string (B a)) W := by
  obtain ⟨b, o, c, rfl, h1, h2, h3, h4⟩ := h.has
  rw [List.length_append] at h1
  simp only [List.length_singleton] at h1
  refine ⟨b, o, c, by rw [List.length_append]; rfl, h1, Sl.str (base := base) ⟨b, o, c, rfl, by omega, h2, h3, fun i u hu => h4 i u ?_⟩⟩
  rw [List.getElem?_append_left (List.getElem?_eq_some_iff.1 hu).1]
  exact hu
set_option maxHeartbeats 4000000 in
set_option maxRecDepth 100000 in
theorem secname_go {w0 W : World} {gl gb : Nat} {T : ByteArray} {D : List Dat} {vd : Value} (a r : Bs) (h : LS w0 gl gb T W (a ++ 93 :: r) D vd) (ha : (93 : UInt8) ∉ a) (hl : a.length ≤ 4611686018427387000) :
    Calls Tryd.prog 82 #[pt gl] W fun e w' => ∃ fv, e = ret fv ∧ LS w0 gl gb T w' r D vd ∧ StepIs w0.heap.size w' gl (.suffix a) fv := by
  have H := Aside0.mk h
  have hc0 := h.lx.c0
  have hnn : ∀ (w : World), (binOp .neq 61 .nilIface .nilIface).run Tryd.prog w = .ok (.bool false) w := fun _ => rfl
  have HA := Aside0.mk ha
  have HL := Aside0.mk hl
  clear h ha hl
  generalize hm : a.length = m at HL
  have v1 : wrap64 (m : Int) = (m : Int) := wr0 m (Nat.le_trans HL.out (by decide))
  unfold pt
  go_enter Tryd.func82, Tryd.ntmps82
  go_wp2_with (first
    | (go_at_call 92; refine (read_lx 93 a r H.out.lx HA.out).mono ?_; rintro e w1 ⟨v1, rfl, hs, hx, ht⟩; have H1 := Aside0.mk (H.out.on ht hx); obtain ⟨b, o, c, rfl, hc, hcv⟩ := hs.cut; rw [hm] at hc hcv ⊢; clear hx ht hs; have hc2 : (m : Int) ≤ (c : Int) := Int.ofNat_le.2 (Nat.le_of_succ_le hc))
    | (go_at_call 93; refine (suffix_mk w0.heap.size gl a _ rfl _).mono ?_; rintro e w2 ⟨fv, rfl, hst, hb⟩; have H2 := Aside0.mk (H1.out.more hb); have HS := Aside0.mk hst; clear hst hb))
  go_ret2
  exact ⟨_, rfl, H2.out, HS.out⟩
end Go.Proofs.YtocdnceckljnaaaDoor.U
