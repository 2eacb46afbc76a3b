/- The lexer's loop. Conditions: see each theorem. -/
import Derived.Test.YtocdnceckljnaaaDoorUl
namespace Go.Proofs.YtocdnceckljnaaaDoor.U
open Go.RowKit Go.Proofs.YtocdnceckljnaaaDoorW.PrintWords Go.Proofs.YtocdnceckljnaaaDoorW.PrintLast Go.Proofs.YtocdnceckljnaaaDoorW.PrintMore
set_option linter.unusedVariables false
set_option linter.unusedSimpArgs false
/-- The lexer over lists of bytes: what is read, in order; none: what is not looked at here. -/
def lexF : Nat → St → Bs → List PD → Option (List PD)
  | 0, _, _, _ => none
  | k + 1, st, rest, D =>
    if rest.length < 2048 ∨ (10 : UInt8) ∈ rest.take 2048 then
      (stepF st rest).bind fun x =>
        if D.length < 900000000 then
          match x.1 with
          | none => some (D ++ x.2.2)
          | some st' => lexF k st' x.2.1 (D ++ x.2.2)
        else none
    else none
theorem lexF_spec {k : Nat} {st : St} {rest : Bs} {D R : List PD} (h : lexF k st rest D = some R) : ∃ k1 st' rest' d, k = k1 + 1 ∧ (rest.length < 2048 ∨ (10 : UInt8) ∈ rest.take 2048) ∧ stepF st rest = some (st', rest', d) ∧ D.length < 900000000 ∧ (match st' with | none => R = D ++ d | some s => lexF k1 s rest' (D ++ d) = some R) := by
  cases k with
  | zero => simp [lexF] at h
  | succ k1 =>
    simp only [lexF] at h
    split at h
    · rename_i hc
      obtain ⟨⟨st', rest', d⟩, hs, h⟩ := Option.bind_eq_some_iff.mp h
      split at h
      · rename_i hd
        refine ⟨k1, st', rest', d, rfl, hc, hs, hd, ?_⟩
        cases st' with
        | none => exact (Option.some.inj h).symm
        | some s => exact h
      · simp at h
    · simp at h
theorem StepIs.more {n0 : Nat} {W W1 : World} {gl : Nat} {st : St} {fv : Value} (h : StepIs n0 W gl st fv) (hb : Below W.heap.size W W1) : StepIs n0 W1 gl st fv := by
  cases st with
  | next => exact h
  | secName => exact h
  | suffix s =>
    obtain ⟨b1, b2, e, k1, k2⟩ := h
    exact ⟨b1, b2, e, k1.more hb, k2.more hb⟩
  | ign o =>
    obtain ⟨b1, b2, v, e, k1, k2, hv⟩ := h
    refine ⟨b1, b2, v, e, k1.more hb, k2.more hb, ?_⟩
    cases o with
    | none => exact hv
    | some s => exact SecOptIs.more hv hb
  | secOpt s => exact SecOptIs.more h hb
  | optName s =>
    obtain ⟨b1, b2, e, k1, k2⟩ := h
    exact ⟨b1, b2, e, k1.more hb, k2.more hb⟩
  | optVal s n =>
    obtain ⟨b1, b2, b3, b4, e, k1, k2, k3, k4, h0⟩ := h
    exact ⟨b1, b2, b3, b4, e, k1.more hb, k2.more hb, k3.more hb, k4.more hb, h0⟩
theorem step_at {w0 W : World} {gl gb : Nat} {T : ByteArray} {rest rest' : Bs} {D : List Dat} {vd : Value} {st : St} {st' : Option St} {d : List PD} {n : Nat} {fi ca : Array Value} (h : LS w0 gl gb T W rest D vd) (hs : StepIs w0.heap.size W gl st (.func (.func n) fi ca)) (hF : stepF st rest = some (st', rest', d)) (hT : T.size ≤ 1000000000) (hD : D.length < 1000000000)
    {W' : World} (hb : Below W.heap.size W W') : Calls Tryd.prog n (fi ++ ca) W' (After w0 gl gb T D st' rest' d) := by
  obtain ⟨n2, fi2, ca2, he, _, hc⟩ := step_calls (h.more hb) (hs.more hb) hF hT hD
  injection he with h1 h2 h3
  injection h1 with h1
  subst h1 h2 h3
  exact hc
set_option maxHeartbeats 40000000 in
set_option maxRecDepth 100000 in
theorem lex_calls {w0 W : World} {gl gb : Nat} {T : ByteArray} {D : List Dat} {vd : Value} (k : Nat) (rest : Bs) (R : List PD) (h : LS w0 gl gb T W rest D vd) (hR : lexF k .next rest (D.map Dat.pd) = some R) (hT : T.size ≤ 1000000000) :
    Calls Tryd.prog 62 #[pt gl] W fun e w' => e = .returned (.tuple #[]) ∧ ∃ rest' D' vd', LS w0 gl gb T w' rest' D' vd' ∧ D'.map Dat.pd = R := by
  have H := Aside0.mk h
  have HR := Aside0.mk hR
  have HT := Aside0.mk hT
  have hmf := hmf
  have hnn : ∀ (w : World), (binOp .neq 61 .nilIface .nilIface).run Tryd.prog w = .ok (.bool false) w := fun _ => rfl
  have hn0 : ∀ (w : World), (binOp .neq 115 .nilFunc .nilFunc).run Tryd.prog w = .ok (.bool false) w := fun _ => rfl
  clear h hR hT
  unfold pt
  go_enter Tryd.func62, Tryd.ntmps62
  go_wp2
  go_loopg [2] k (fun kq v2 w' => ∃ (rest : Bs) (D : List Dat) (vd : Value), Aside0 (LS w0 gl gb T w' rest D vd) ∧ ((kq = 0 ∧ v2 = .nilFunc ∧ Aside0 (D.map Dat.pd = R)) ∨ ∃ st, Aside0 (StepIs w0.heap.size w' gl st v2) ∧ Aside0 (lexF kq st rest (D.map Dat.pd) = some R)))
  case atStart => exact ⟨rest, D, vd, H, .inr ⟨.next, ⟨rfl⟩, HR⟩⟩
  case round =>
    clear H HR
    obtain ⟨rest, D, vd, H, hst⟩ := hrel
    rcases hst with ⟨rfl, rfl, hR⟩ | ⟨st, hst, hR⟩
    · go_wp2
      go_end0
      exact ⟨rfl, rest, D, vd, H.out, hR.out⟩
    · obtain ⟨k1, st', rest', d, rfl, hc, hsF, hDl, hnx⟩ := lexF_spec hR.out
      obtain ⟨n, fi, ca, rfl, hent, hcall0⟩ := step_calls H.out hst.out hsF HT.out (by rw [List.length_map] at hDl; omega)
      have hneq : ∀ (w : World), (binOp .neq 115 (.func (.func n) fi ca) .nilFunc).run Tryd.prog w = .ok (.bool true) w := fun _ => rfl
      have hc0 := H.out.lx.c0
      have HC := Aside0.mk (fun (W' : World) (hb : Below wr.heap.size wr W') => step_at H.out hst.out hsF HT.out (by rw [List.length_map] at hDl; omega) hb)
      have HNX := Aside0.mk hnx
      have HE := Aside0.mk hent
      have HCC := Aside0.mk hc
      clear hcall0 hnx hsF hDl hc hR hst
      obtain ⟨r, wd, last, hB, hr⟩ := H.out.lx.buf
      have HBf := Aside0.mk hB
      have HRr := Aside0.mk hr
      clear hB hr
      have hbuf := Aside0.mk (buffered gb T r wd last false wr HBf.out)
      have hlen := Aside0.mk (show rest.length = T.size - r by rw [← HRr.out, List.length_drop, ← Lib.size_eq])
      by_cases hm : (2048 : Int) ≤ ((wd - r : Nat) : Int)
      · have q1 : decide ((2048 : Int) ≤ ((wd - r : Nat) : Int)) = true := decide_eq_true hm
        have HM := Aside0.mk (show 2048 ≤ wd - r by omega)
        have H10 := Aside0.mk (show (10 : UInt8) ∈ rest.take 2048 by
          rcases HCC.out with h | h
          · have h1 := hlen.out
            have h2 := HBf.out.lew
            omega
          · exact h)
        have HLL := Aside0.mk (show (T.extract r (r + 2048)).data.toList = rest.take 2048 by rw [Lib.extract_data, HRr.out, show r + 2048 - r = 2048 by omega])
        generalize wd - r = m at hbuf q1
        clear hm
        go_wp2_with (first
          | (go_at_call 69; refine hbuf.out.mono ?_; rintro e w1 ⟨rfl, hd⟩; have B1 := Aside0.mk hd.below; have H1 := Aside0.mk (H.out.more hd.below); have hc1 := H1.out.lx.c0; have HB1 := Aside0.mk (HBf.out.below hd.below); clear hd)
          | (go_at_call 70; refine (peek gb T r wd last false w1 HB1.out HM.out).mono ?_; rintro e w2 ⟨v, rfl, hs, hb⟩; rw [HLL.out] at hs; have HS := Aside0.mk hs; have B2 := Aside0.mk (below_over B1.out hb); clear hs hb)
          | (go_at_call 71; refine (newline_ w2 w1.heap.size v (rest.take 2048) HS.out (by rw [List.length_take]; omega) H10.out).mono ?_; rintro e w3 ⟨rfl, hw⟩; subst hw)
          | (refine (HC.out _ B2.out).mono ?_; rintro e w4 ⟨fv', D', vd', rfl, hl, hmp, hok⟩; have HL4 := Aside0.mk hl; have HMP := Aside0.mk hmp; have HOK := Aside0.mk hok; clear hl hmp hok; unfold ret))
        cases st' with
        | none =>
          go_roundg 0
          case measure => omega
          case rel => exact ⟨rest', D', vd', HL4, .inl ⟨rfl, HOK.out, ⟨by rw [HMP.out]; exact HNX.out.symm⟩⟩⟩
        | some s =>
          go_roundg k1
          case measure => omega
          case rel => exact ⟨rest', D', vd', HL4, .inr ⟨s, ⟨HOK.out⟩, ⟨by rw [HMP.out]; exact HNX.out⟩⟩⟩
      · have q1 : decide ((2048 : Int) ≤ ((wd - r : Nat) : Int)) = false := decide_eq_false hm
        generalize wd - r = m at hbuf q1
        clear hm
        go_wp2_with (first
          | (go_at_call 69; refine hbuf.out.mono ?_; rintro e w1 ⟨rfl, hd⟩; have B2 := Aside0.mk hd.below; have H1 := Aside0.mk (H.out.more hd.below); have hc1 := H1.out.lx.c0; clear hd)
          | (refine (HC.out _ B2.out).mono ?_; rintro e w4 ⟨fv', D', vd', rfl, hl, hmp, hok⟩; have HL4 := Aside0.mk hl; have HMP := Aside0.mk hmp; have HOK := Aside0.mk hok; clear hl hmp hok; unfold ret))
        cases st' with
        | none =>
          go_roundg 0
          case measure => omega
          case rel => exact ⟨rest', D', vd', HL4, .inl ⟨rfl, HOK.out, ⟨by rw [HMP.out]; exact HNX.out.symm⟩⟩⟩
        | some s =>
          go_roundg k1
          case measure => omega
          case rel => exact ⟨rest', D', vd', HL4, .inr ⟨s, ⟨HOK.out⟩, ⟨by rw [HMP.out]; exact HNX.out⟩⟩⟩
end Go.Proofs.YtocdnceckljnaaaDoor.U
