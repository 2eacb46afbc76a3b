/- The texts Mb, Mc, Mo, Md, without what the claims do not use, laid together by a program of this session (wip/tools/bundle.py). Conditions: those of each theorem. -/
import Derived.Test.YtcpldcndhijecaaDoorZc2
import Derived.Deep.RegionHeld3
import Derived.OrdersHeld
import Derived.Defers
import Derived.Recover
namespace Go.Proofs.YtcpldcndhijecaaDoor.QT0
open Go.RowKit Go.Proofs.YtcpldcndhijecaaDoorW.PrintWords Go.Proofs.YtcpldcndhijecaaDoorW.PrintLast Go.Proofs.YtcpldcndhijecaaDoorW.PrintMore
set_option linter.unusedVariables false
set_option linter.unusedSimpArgs false
def str (fs : List ByteArray) (i : Nat) : ByteArray := fs.getD i ⟨#[]⟩
def joined (fs : List ByteArray) : ByteArray := ⟨(Lib.join (fs.map (·.data.toList)) [32]).toArray⟩
def parseLine (L : ByteArray) : Option Inf :=
  (mountinfo_zzSplit.f (L.size + 2) L ⟨#[32]⟩).bind fun fs =>
  if 10 ≤ fs.length ∧ fs.length < 100000 ∧ str fs (fs.length - 4) = ⟨#[45]⟩ ∧ (Lib.join (((fs.drop 6).take (fs.length - 10)).map (·.data.toList)) [32]).length ≤ 140737488355328 then
    (mountinfo_zzCut.f ((str fs 2).size + 2) (str fs 2) ⟨#[58]⟩).bind fun c =>
    if c.2.2 = true then
      (mountinfo_toInt.f (str fs 0)).bind fun i0 => (mountinfo_toInt.f (str fs 1)).bind fun i1 => (mountinfo_toInt.f c.1).bind fun i2 => (mountinfo_toInt.f c.2.1).bind fun i3 =>
      (mountinfo_unescape.f ((str fs 3).size + 2) (str fs 3)).bind fun m4 => (mountinfo_unescape.f ((str fs 4).size + 2) (str fs 4)).bind fun m5 =>
      (mountinfo_unescape.f ((str fs (fs.length - 3)).size + 2) (str fs (fs.length - 3))).bind fun m8 => (mountinfo_unescape.f ((str fs (fs.length - 2)).size + 2) (str fs (fs.length - 2))).bind fun m9 =>
      if m5.size ≤ 4611686018427387904 then some ⟨i0, i1, i2, i3, m4, m5, str fs 5, joined ((fs.drop 6).take (fs.length - 10)), m8, m9, str fs (fs.length - 1)⟩ else none
    else none
  else none
def readL (F : Inf → Bool × Bool) : Nat → ByteArray → List Inf → Option (List Inf)
  | 0, _, _ => none
  | k + 1, T, acc =>
    if T.size = 0 then some acc
    else if (nl T : Int) < 65536 then
      (parseLine (chomp (T.extract 0 (nl T)))).bind fun m =>
        if (F m).1 = true then readL F k (T.extract (nl T + 1) T.size) acc
        else if acc.length < 8796093022208 then
          if (F m).2 = true then some (acc ++ [m]) else readL F k (T.extract (nl T + 1) T.size) (acc ++ [m])
        else none
    else none
theorem parseLine_spec {L : ByteArray} {m : Inf} (h : parseLine L = some m) : ∃ fs c0 c1, mountinfo_zzSplit.f (L.size + 2) L ⟨#[32]⟩ = some fs ∧ 10 ≤ fs.length ∧ fs.length < 100000 ∧ str fs (fs.length - 4) = ⟨#[45]⟩ ∧
    (Lib.join (((fs.drop 6).take (fs.length - 10)).map (·.data.toList)) [32]).length ≤ 140737488355328 ∧ mountinfo_zzCut.f ((str fs 2).size + 2) (str fs 2) ⟨#[58]⟩ = some (c0, c1, true) ∧
    mountinfo_toInt.f (str fs 0) = some m.f0 ∧ mountinfo_toInt.f (str fs 1) = some m.f1 ∧ mountinfo_toInt.f c0 = some m.f2 ∧ mountinfo_toInt.f c1 = some m.f3 ∧
    mountinfo_unescape.f ((str fs 3).size + 2) (str fs 3) = some m.f4 ∧ mountinfo_unescape.f ((str fs 4).size + 2) (str fs 4) = some m.f5 ∧ m.f6 = str fs 5 ∧ m.f7 = joined ((fs.drop 6).take (fs.length - 10)) ∧
    mountinfo_unescape.f ((str fs (fs.length - 3)).size + 2) (str fs (fs.length - 3)) = some m.f8 ∧ mountinfo_unescape.f ((str fs (fs.length - 2)).size + 2) (str fs (fs.length - 2)) = some m.f9 ∧ m.f10 = str fs (fs.length - 1) ∧ m.f5.size ≤ 4611686018427387904 := by
  unfold parseLine at h
  obtain ⟨fs, hfs, h⟩ := Option.bind_eq_some_iff.mp h
  split at h
  · rename_i hc
    obtain ⟨⟨c0, c1, b⟩, hcut, h⟩ := Option.bind_eq_some_iff.mp h
    split at h
    · rename_i hb
      obtain ⟨i0, h0, h⟩ := Option.bind_eq_some_iff.mp h
      obtain ⟨i1, h1, h⟩ := Option.bind_eq_some_iff.mp h
      obtain ⟨i2, h2, h⟩ := Option.bind_eq_some_iff.mp h
      obtain ⟨i3, h3, h⟩ := Option.bind_eq_some_iff.mp h
      obtain ⟨i4, h4, h⟩ := Option.bind_eq_some_iff.mp h
      obtain ⟨i5, h5, h⟩ := Option.bind_eq_some_iff.mp h
      obtain ⟨i8, h8, h⟩ := Option.bind_eq_some_iff.mp h
      obtain ⟨i9, h9, h⟩ := Option.bind_eq_some_iff.mp h
      split at h
      rotate_left
      · simp at h
      rename_i hz
      obtain rfl := Option.some.inj h
      have hb' : b = true := hb
      subst hb'
      exact ⟨fs, c0, c1, hfs, hc.1, hc.2.1, hc.2.2.1, hc.2.2.2, hcut, h0, h1, h2, h3, h4, h5, rfl, rfl, h8, h9, rfl, hz⟩
    · simp at h
  · simp at h
def FilterIs (w0 : World) (F : Inf → Bool × Bool) (fv : Value) : Prop :=
  (fv = .nilFunc ∧ ∀ m, F m = (false, false)) ∨
  ∃ n caps, fv = .func (.func n) #[] caps ∧ (∀ (args : Array Value) (w : World), (callFunc n args).run Tryd.prog w = .ok (.enter n args) w) ∧ ∀ (W : World) (b : Nat) (m : Inf), Below w0.heap.size w0 W → W.heap[b]? = some (.cells m.cs.toArray 61 (0, 0)) → m.f5.size ≤ 4611686018427387904 →
    Calls Tryd.prog n (#[.pointer (some ⟨b, 0, none⟩)] ++ caps) W fun e w' => e = .returned (.tuple #[.bool (F m).1, .bool (F m).2]) ∧ Drawn0 W w'
theorem str_at {w : World} {base : Nat} {ok : Nat → Prop} {v : Value} {fs : List ByteArray} (h : Kd.R Kd.string 9 w base ok v fs) (hp : 0 < fs.length) :
    ∃ bk cap, v = .slice (some ⟨bk, 0, none⟩) fs.length cap ∧ fs.length ≤ cap ∧ bk < w.heap.size ∧ ∀ i : Nat, i < fs.length → w.cell? ⟨bk, i, none⟩ = some (.string (str fs i)) := by
  obtain ⟨g, cap, rfl, hg, hlt, _⟩ := Kd.R_form h hp
  obtain ⟨A, c, hv, hl, hC⟩ := Kd.R_reads h
  injection hv with hA _ hcap
  subst hA hcap
  refine ⟨g, cap, rfl, hl, hlt, fun i hi => ?_⟩
  obtain ⟨ad, cs, hA, _, hK, hc⟩ := Kd.C_get hC ⟨#[]⟩ (i : Int) (by omega) (by omega)
  obtain rfl := Option.some.inj hA
  have hK' : cs = [.string (str fs i)] := hK
  have := hc 0 (.string (str fs i)) (by rw [hK']; rfl)
  by_cases h0 : i = 0
  · subst h0; simpa [Addr.add, Kd.string, Kd.scalar] using this
  · simpa [Addr.add, Kd.string, Kd.scalar, h0] using this
theorem lt_of_some {α : Type} {a : Array α} {i : Nat} {x : α} (h : a[i]? = some x) : i < a.size := (Array.getElem?_eq_some_iff.1 h).1
theorem alloc_size (w : World) (o : Obj) : (w.alloc o).heap.size = w.heap.size + 1 := by show (w.heap.push o).size = _; rw [Array.size_push]
theorem info60 : (Tryd.prog.info? 60).map (fun i => (i.zero, i.size, i.bytes)) = some (some (.pointer none), 1, 8) := by kernel_rfl
theorem R_fresh0 (w : World) (base : Nat) (hb : base ≤ w.heap.size) : Kd.R (kptr 61 kInf) 60 (w.alloc (.cells #[] 60)) base (fun _ => True) (.slice (some ⟨w.heap.size, 0, none⟩) 0 0) [] :=
  ⟨fun _ _ => trivial, [], ⟨rfl, .inr ⟨w.heap.size, 0, #[], rfl, hb, by simpa using heap_alloc_new w _, Nat.le_refl _, by decide, by simp, rfl⟩⟩, ⟨rfl, fun j p hj => by simp at hj⟩⟩
theorem keepcell {w1 w2 : World} (h : Below w1.heap.size w1 w2) {a : Addr} {v : Value} (hc : w1.cell? a = some v) : w2.cell? a = some v := by
  have hlt := World.block_lt_of_cell? w1 _ hc
  have hb := h.block _ hlt
  unfold World.cell? at hc ⊢
  rw [hb]
  exact hc
theorem keepB {B : Nat} {W w1 w2 : World} (h : Below B W w1) (h2 : Below w1.heap.size w1 w2) (hB : B ≤ W.heap.size) : Below B W w2 :=
  ⟨h2.os.trans h.os, h2.tape.trans h.tape, h2.output.trans h.output, Nat.le_trans h.size h2.size, fun i hi => (h2.block i (Nat.lt_of_lt_of_le (Nat.lt_of_lt_of_le hi hB) h.size)).trans (h.block i hi)⟩
theorem join_any (bk cap p : Nat) (fs : List ByteArray) (W w : World) (hp : fs.length = p + 4) (h6 : 6 ≤ p) (hcap : fs.length ≤ cap) (hn : fs.length < 100000)
    (hcell : ∀ i : Nat, i < fs.length → W.cell? ⟨bk, i, none⟩ = some (.string (str fs i))) (hlen : (Lib.join (((fs.drop 6).take (fs.length - 10)).map (·.data.toList)) [32]).length ≤ 140737488355328) (hb : Below W.heap.size W w) :
    Calls Tryd.prog 47 #[.slice (some ⟨bk, 6, none⟩) (p - 6) (cap - 6), .string ⟨#[32]⟩] w fun e w' => e = .returned (.string (joined ((fs.drop 6).take (fs.length - 10)))) ∧ Below w.heap.size w w' := by
  have hl : ((fs.drop 6).take (fs.length - 10)).length = p - 6 := by rw [List.length_take, List.length_drop]; omega
  by_cases h0 : p = 6
  · have e : (fs.drop 6).take (fs.length - 10) = [] := List.eq_nil_of_length_eq_zero (by omega)
    subst h0
    rw [e]
    exact (Tryd.strings_Join_none (some ⟨bk, 6, none⟩) (cap - 6) ⟨#[32]⟩ w).mono fun e w' ⟨he, hw⟩ => ⟨he, hw ▸ Below.refl _ _⟩
  · have hbk : bk < W.heap.size := World.block_lt_of_cell? W _ (hcell 0 (by omega))
    have hc : ∀ (j : Nat) x, ((fs.drop 6).take (fs.length - 10))[j]? = some x → w.cell? ⟨bk, 6 + j, none⟩ = some (.string x) := by
      intro j x hj
      have hjl : j < p - 6 := by
        obtain ⟨hj', _⟩ := List.getElem?_eq_some_iff.1 hj
        omega
      rw [List.getElem?_take_of_lt (by omega), List.getElem?_drop] at hj
      have := keepcell hb (hcell (6 + j) (by omega))
      rw [this]
      unfold str
      rw [List.getD_eq_getElem?_getD, hj]
      rfl
    have := Tryd.strings_Join bk 6 (cap - 6) ((fs.drop 6).take (fs.length - 10)) ⟨#[32]⟩ w hc (Nat.lt_of_lt_of_le hbk hb.size) (by omega) (by omega) hlen
    rw [hl] at this
    exact this
theorem R_keep86 {w0 W W1 : World} {base g : Nat} {v : Value} {acc : List Inf} {f0 f1 : ByteArray} {f2 : Int} {f3 : Option Int} (h : Kd.R (kptr 61 kInf) 60 W base (fun _ => True) v acc) (hI : IsS86 w0 W g f0 f1 f2 f3) (hk : KeepBut W W1 g none) : Kd.R (kptr 61 kInf) 60 W1 base (fun _ => True) v acc :=
  Kd.R_mono (Kd.R_keep (Kd.R_types h hI.1 (by intro q hq; have : q = 60 ∨ q = 61 := by simpa [kptr, kInf, Kd.iso, Kd.pair, Kd.int, Kd.string, Kd.scalar] using hq
                                              omega)) hk (fun _ hk => hk.2)) (fun _ _ => trivial)
set_option maxHeartbeats 40000000 in
set_option maxRecDepth 100000 in
theorem gm_calls (F : Inf → Bool × Bool) (fv : Value) (k : Nat) (T : ByteArray) (r : List Inf) (w : World) (hF : FilterIs w F fv) (hTs : T.size ≤ 4611686018427387904) (h : readL F k T [] = some r) :
    Calls Tryd.prog 26 #[.string T, fv] w fun e w' => ∃ v0 : Value, e = .returned (.tuple #[v0, .nilIface]) ∧ Kd.R (kptr 61 kInf) 60 w' w.heap.size (fun _ => True) v0 r ∧ Below w.heap.size w w' := by
  have HB := Aside0.mk (Below.refl w.heap.size w)
  have HF := Aside0.mk hF
  have H' := Aside0.mk h
  clear h hF
  go_enter Tryd.func26, Tryd.ntmps26
  go_wp2_with (go_at_call 39; refine (new_lines T w _ HB.out).mono ?_; rintro e w1 ⟨rfl, HI, hb1, hb2⟩)
  have HI1 := Aside0.mk (IsS86.alloc HI (.cells #[] 60))
  have HB1 := Aside0.mk (below_alloc hb1 (.cells #[] 60))
  have HR1 := Aside0.mk (R_fresh0 w1 w.heap.size hb1.size)
  clear HI hb1 hb2
  generalize w1.alloc (.cells #[] 60) = W0 at HI1 HB1 HR1 ⊢
  generalize (Value.slice (some { block := w1.heap.size, off := 0 }) 0 0) = V0 at HR1 ⊢
  go_loopg [7] k (fun kq v7 w' => ∃ (T_ l_ : ByteArray) (acc : List Inf), Aside0 (readL F kq T_ acc = some r) ∧ Aside0 (kq ≤ k) ∧ T_.size ≤ 4611686018427387904 ∧ Aside0 (IsS86 w w' w.heap.size T_ l_ 65536 none) ∧ Aside0 (Kd.R (kptr 61 kInf) 60 w' w.heap.size (fun _ => True) v7 acc) ∧ Aside0 (Below w.heap.size w w'))
  case atStart => exact ⟨T, _, [], H', ⟨Nat.le_refl _⟩, hTs, HI1, HR1, HB1⟩
  case round =>
    clear H' HI1 HB1 HR1 hTs
    obtain ⟨T_, l_, acc, HA, HK1, hTs, HI, HR, HB1⟩ := hrel
    cases gk with
    | zero => exact absurd HA.out (by simp [readL])
    | succ k1 =>
      have H := HA.out
      clear HA
      simp only [readL] at H
      by_cases hT0 : T_.size = 0
      · rw [if_pos hT0] at H
        obtain rfl := Option.some.inj H
        go_wp2_with (first | (go_at_call 40; refine (scan_end w.heap.size T_ l_ 65536 w _ HI.out HB1.out hT0).mono ?_; rintro e w2 ⟨rfl, HI2, HB2, HK2⟩) | (go_at_call 48; refine (texts_Lines_Err.calls w.heap.size _ _ _ _ _ _ _ _ _ w _ HI2 HB2 rfl).mono ?_; rintro e w3 ⟨he, HI3, HB3, HK3⟩; rw [errW_none] at he; subst he))
        go_ret2
        exact ⟨_, rfl, R_keep86 (R_keep86 HR.out HI.out HK2) HI2 HK3, HB3⟩
      · rw [if_neg hT0] at H
        have hTp : 0 < T_.size := by omega
        by_cases hnl : (nl T_ : Int) < 65536
        · rw [if_pos hnl] at H
          obtain ⟨m, hm, H⟩ := Option.bind_eq_some_iff.mp H
          generalize hR_ : T_.extract (nl T_ + 1) T_.size = R_ at H
          have hRs : R_.size ≤ 4611686018427387904 := by rw [← hR_, ByteArray.size_extract]; omega
          obtain ⟨fs, c0, c1, q1, q2, q3, q4, q5, q6, q7, q8, q9, q10, q11, q12, q13, q14, q15, q16, q17, q18⟩ := parseLine_spec hm
          have Q1 := Aside0.mk q1
          have Q4 := Aside0.mk q4
          have Q5 := Aside0.mk q5
          have Q6 := Aside0.mk q6
          have Q7 := Aside0.mk q7
          have Q8 := Aside0.mk q8
          have Q9 := Aside0.mk q9
          have Q10 := Aside0.mk q10
          have Q11 := Aside0.mk q11
          have Q12 := Aside0.mk q12
          have Q13 := Aside0.mk q13
          have Q14 := Aside0.mk q14
          have Q15 := Aside0.mk q15
          have Q16 := Aside0.mk q16
          have Q17 := Aside0.mk q17
          have Q18 := Aside0.mk q18
          have HRr := Aside0.mk hR_
          have HN := Aside0.mk hnl
          clear q1 q4 q5 q6 q7 q8 q9 q10 q11 q12 q13 q14 q15 q16 q17 q18 hm hR_ hnl
          have H' := Aside0.mk H
          clear H
          go_wp2_with (first | (go_at_call 40; refine (scan_next w.heap.size T_ l_ 65536 w _ HI.out HB1.out hTp HN.out hTs).mono ?_; rintro e w2 ⟨rfl, HI2, HB2, HK2⟩; rw [HRr.out] at HI2; replace HI2 := Aside0.mk HI2; replace HB2 := Aside0.mk HB2; replace HK2 := Aside0.mk HK2) | (go_at_call 41; refine (texts_Lines_Text.calls w.heap.size _ _ _ _ _ _ _ _ _ w _ HI2.out HB2.out rfl).mono ?_; rintro e w3 ⟨rfl, HI3, HB3, HK3⟩; replace HI3 := Aside0.mk HI3; replace HB3 := Aside0.mk HB3; replace HK3 := Aside0.mk HK3) | (go_at_call 42; refine (mountinfo_zzSplit.calls _ _ _ fs _ Q1.out).mono ?_; rintro e w4 ⟨v9, rfl, HR9, hb4⟩; obtain ⟨bk, cap, rfl, hcap, hbk, hcell⟩ := str_at HR9 (Nat.lt_of_lt_of_le (by decide) q2); clear HR9; replace hcell := Aside0.mk hcell; replace hb4 := Aside0.mk hb4))
          have hcs : w4.cell? ⟨bk, fs.length - 4, none⟩ = some (.string ⟨#[45]⟩) := by rw [← Q4.out]; exact hcell.out _ (by omega)
          have hcs2 : w4.cell? ⟨bk, 2, none⟩ = some (.string (str fs 2)) := hcell.out 2 (by omega)
          go_loop [11] (fun v => v = .int .i64 ((fs.length : Int) - 4)) (fun _ => 0)
          case atStart => rfl
          case round =>
            subst hrel
            have hl1 : (4 : Int) ≤ (fs.length : Int) := by omega
            have hl2 : (fs.length : Int) - 4 < (fs.length : Int) := by omega
            have hl3 : ((fs.length : Int) - 4).toNat = fs.length - 4 := by omega
            go_wp2_with (first | (go_at_call 44; refine (mountinfo_zzCut.calls _ _ _ c0 c1 true _ Q6.out).mono ?_; rintro e w5 ⟨rfl, hd5⟩; replace hd5 := Aside0.mk hd5))
            obtain ⟨p, hp⟩ : ∃ p : Nat, fs.length = p + 4 := ⟨fs.length - 4, by omega⟩
            have hp1 : (fs.length : Int) - 4 = (p : Int) := by omega
            rw [hp1]
            have hW5 := Aside0.mk (hd5.out.below)
            have hsz5 := Aside0.mk (show w4.heap.size ≤ w5.heap.size from hd5.out.below.size)
            have C0 := keepcell hd5.out.below (hcell.out 0 (by omega))
            have C1 := keepcell hd5.out.below (hcell.out 1 (by omega))
            have C3 := keepcell hd5.out.below (hcell.out 3 (by omega))
            have C4 := keepcell hd5.out.below (hcell.out 4 (by omega))
            have C5 := keepcell hd5.out.below (hcell.out 5 (by omega))
            have Cp1 := keepcell hd5.out.below (hcell.out (p + 1) (by omega))
            have Cp2 := keepcell hd5.out.below (hcell.out (p + 2) (by omega))
            have Cp3 := keepcell hd5.out.below (hcell.out (p + 3) (by omega))
            have hcell5 := Aside0.mk (fun (i : Nat) (hi : i < fs.length) => keepcell hd5.out.below (hcell.out i hi))
            have e1 : str fs (fs.length - 3) = str fs (p + 1) := by congr 1; omega
            have e2 : str fs (fs.length - 2) = str fs (p + 2) := by congr 1; omega
            have e3 : str fs (fs.length - 1) = str fs (p + 3) := by congr 1; omega
            have Q15' := Aside0.mk (show mountinfo_unescape.f ((str fs (p + 1)).size + 2) (str fs (p + 1)) = some m.f8 from e1 ▸ Q15.out)
            have Q16' := Aside0.mk (show mountinfo_unescape.f ((str fs (p + 2)).size + 2) (str fs (p + 2)) = some m.f9 from e2 ▸ Q16.out)
            have Q17' := Aside0.mk (show m.f10 = str fs (p + 3) from e3 ▸ Q17.out)
            have hJ := Aside0.mk (fun w' hb => join_any bk cap p fs w5 w' hp (by omega) hcap q3 hcell5.out Q5.out hb)
            generalize str fs (p + 1) = xa at Cp1 Q15' e1
            generalize str fs (p + 2) = xb at Cp2 Q16' e2
            generalize str fs (p + 3) = xc at Cp3 Q17' e3
            clear hcs hcs2 hl1 hl2 hl3 hp1 e1 e2 e3
            have z0 : (6 : Int) ≤ (p : Int) := by omega
            have y0n : 0 < fs.length := by omega
            have zc : (6 : Int) ≤ (cap : Int) := by omega
            have zt2 : ((p : Int) + 1).toNat = p + 1 := by omega
            have zt3 : ((p : Int) + 2).toNat = p + 2 := by omega
            have zt4 : ((p : Int) + 3).toNat = p + 3 := by omega
            have zc6 : ¬ cap = 6 := by omega
            have zn1 : (0 : Int) ≤ (p : Int) + 1 := by omega
            have zn2 : (0 : Int) ≤ (p : Int) + 2 := by omega
            have zn3 : (0 : Int) ≤ (p : Int) + 3 := by omega
            have zt1 : ((p : Int) - 6).toNat = p - 6 := by omega
            have z1 : (p : Int) + 1 < (fs.length : Int) := by omega
            have z2 : (p : Int) + 2 < (fs.length : Int) := by omega
            have z3 : (p : Int) + 3 < (fs.length : Int) := by omega
            have z4 : (p : Int) ≤ (cap : Int) := by omega
            have y0 : (0 : Int) < (fs.length : Int) := by omega
            have y1 : (1 : Int) < (fs.length : Int) := by omega
            have y3 : (3 : Int) < (fs.length : Int) := by omega
            have y4 : (4 : Int) < (fs.length : Int) := by omega
            have y5 : (5 : Int) < (fs.length : Int) := by omega
            have v1 : IntKind.i64.wrap ((p : Int) + 1) = (p : Int) + 1 := by unfold IntKind.wrap; simp [IntKind.bits, IntKind.signed]; omega
            have v2 : IntKind.i64.wrap ((p : Int) + 2) = (p : Int) + 2 := by unfold IntKind.wrap; simp [IntKind.bits, IntKind.signed]; omega
            have v3 : IntKind.i64.wrap ((p : Int) + 3) = (p : Int) + 3 := by unfold IntKind.wrap; simp [IntKind.bits, IntKind.signed]; omega
            have HP := Aside0.mk hp
            clear hp
            clear q2 q3 hcap
            have hrefl5 : Below w5.heap.size w5 w5.drew := below_drew (Below.refl _ _)
            go_region_held3 (fun w' => Below w5.heap.size w5 w' ∧ w'.cell? ⟨bk, 0, none⟩ = some (.string (str fs 0)) ∧ w'.cell? ⟨bk, 1, none⟩ = some (.string (str fs 1)) ∧ w'.cell? ⟨bk, 3, none⟩ = some (.string (str fs 3)) ∧ w'.cell? ⟨bk, 4, none⟩ = some (.string (str fs 4)) ∧ w'.cell? ⟨bk, 5, none⟩ = some (.string (str fs 5)) ∧ w'.cell? ⟨bk, p + 1, none⟩ = some (.string xa) ∧ w'.cell? ⟨bk, p + 2, none⟩ = some (.string xb) ∧ w'.cell? ⟨bk, p + 3, none⟩ = some (.string xc))
              (first
                | (go_split_ands; exact ⟨by assumption, by assumption, by assumption, by assumption, by assumption, by assumption, by assumption, by assumption, by assumption⟩)
                | (go_split_ands; exact ⟨keepB (by assumption) (by assumption) (Nat.le_refl _), keepcell (by assumption) (by assumption), keepcell (by assumption) (by assumption), keepcell (by assumption) (by assumption), keepcell (by assumption) (by assumption), keepcell (by assumption) (by assumption), keepcell (by assumption) (by assumption), keepcell (by assumption) (by assumption), keepcell (by assumption) (by assumption)⟩)
                | (go_split_ands; exact ⟨below_alloc (by assumption) _, keepcell (below_alloc (Below.refl _ _) _) (by assumption), keepcell (below_alloc (Below.refl _ _) _) (by assumption), keepcell (below_alloc (Below.refl _ _) _) (by assumption), keepcell (below_alloc (Below.refl _ _) _) (by assumption), keepcell (below_alloc (Below.refl _ _) _) (by assumption), keepcell (below_alloc (Below.refl _ _) _) (by assumption), keepcell (below_alloc (Below.refl _ _) _) (by assumption), keepcell (below_alloc (Below.refl _ _) _) (by assumption)⟩)
                | go_keep)
              (first
                | (go_at_call_of 45 (Value.string (str fs 0)); with_reducible refine (mountinfo_toInt.calls (str fs 0) m.f0 _ Q7.out).mono ?_; rintro e w' ⟨rfl, hbq⟩)
                | (go_at_call_of 45 (Value.string (str fs 1)); with_reducible refine (mountinfo_toInt.calls (str fs 1) m.f1 _ Q8.out).mono ?_; rintro e w' ⟨rfl, hbq⟩)
                | (go_at_call_of 45 (Value.string (c0)); with_reducible refine (mountinfo_toInt.calls c0 m.f2 _ Q9.out).mono ?_; rintro e w' ⟨rfl, hbq⟩)
                | (go_at_call_of 45 (Value.string (c1)); with_reducible refine (mountinfo_toInt.calls c1 m.f3 _ Q10.out).mono ?_; rintro e w' ⟨rfl, hbq⟩)
                | (go_at_call_of 46 (Value.string (str fs 3)); with_reducible refine (mountinfo_unescape.calls _ (str fs 3) m.f4 _ Q11.out).mono ?_; rintro e w' ⟨rfl, hbq⟩)
                | (go_at_call_of 46 (Value.string (str fs 4)); with_reducible refine (mountinfo_unescape.calls _ (str fs 4) m.f5 _ Q12.out).mono ?_; rintro e w' ⟨rfl, hbq⟩)
                | (go_at_call_of 46 (Value.string xa); with_reducible refine (mountinfo_unescape.calls _ xa m.f8 _ Q15'.out).mono ?_; rintro e w' ⟨rfl, hbq⟩)
                | (go_at_call_of 46 (Value.string xb); with_reducible refine (mountinfo_unescape.calls _ xb m.f9 _ Q16'.out).mono ?_; rintro e w' ⟨rfl, hbq⟩)
                | (go_at_call 47; with_reducible refine (hJ.out _ (by first | assumption | (go_split_ands; assumption))).mono ?_; rintro e w' ⟨rfl, hbq⟩))
            rename_i hHeld
            have hb6 := Aside0.mk (hHeld.1)
            clear hHeld
            have hlt0 : w.heap.size ≤ w'.heap.size := by
              have k1 := HI3.out.below hb4.out
              have k2 := k1.lt
              have k3 := hsz5.out
              have k4 := hb6.out.size
              have k5 : (w'.alloc (Obj.cells #[Value.int IntKind.i64 m.f0, Value.int IntKind.i64 m.f1, Value.int IntKind.i64 m.f2, Value.int IntKind.i64 m.f3, Value.string m.f4, Value.string m.f5, Value.string (str fs 5), Value.string (joined (List.take (fs.length - 10) (List.drop 6 fs))), Value.string m.f8, Value.string m.f9, Value.string xc] 61)).heap.size = w'.heap.size + 1 := alloc_size _ _
              omega
            have hblk : (w'.alloc (Obj.cells #[Value.int IntKind.i64 m.f0, Value.int IntKind.i64 m.f1, Value.int IntKind.i64 m.f2, Value.int IntKind.i64 m.f3, Value.string m.f4, Value.string m.f5, Value.string (str fs 5), Value.string (joined (List.take (fs.length - 10) (List.drop 6 fs))), Value.string m.f8, Value.string m.f9, Value.string xc] 61)).heap[w'.heap.size]? = some (.cells m.cs.toArray 61 (0, 0)) := by
              unfold Inf.cs
              rw [Q13.out, Q14.out, Q17'.out]
              simpa using heap_alloc_new w' _
            have hblk := Aside0.mk hblk
            generalize (w'.alloc (Obj.cells #[Value.int IntKind.i64 m.f0, Value.int IntKind.i64 m.f1, Value.int IntKind.i64 m.f2, Value.int IntKind.i64 m.f3, Value.string m.f4, Value.string m.f5, Value.string (str fs 5), Value.string (joined (List.take (fs.length - 10) (List.drop 6 fs))), Value.string m.f8, Value.string m.f9, Value.string xc] 61)) = W6 at hb6 hblk ⊢
            generalize w'.heap.size = b at hlt0 hblk ⊢
            have HI6 := Aside0.mk (((HI3.out.below hb4.out).below hd5.out.below).below hb6.out)
            have HR6 := Aside0.mk (Kd.R_below (Kd.R_below (Kd.R_below (R_keep86 (R_keep86 HR.out HI.out HK2.out) HI2.out HK3.out) hb4.out) hd5.out.below) hb6.out)
            have HB6 := Aside0.mk (keepB (keepB (keepB HB3.out hb4.out (Nat.le_refl _)) hd5.out.below (Nat.le_refl _)) hb6.out (Nat.le_refl _))
            have hne := Aside0.mk (fun k (hk : k = b) => (⟨trivial, hk ▸ Kd.R_ne HR6.out hblk.out (by decide)⟩ : True ∧ some k ≠ u7.ownBlock))
            clear HR HI HB1 HI2 HB2 HK2 HI3 HB3 HK3 hb4 hd5 hW5 hsz5 hcell hcell5 C0 C1 C3 C4 C5 Cp1 Cp2 Cp3 hJ hb6
            clear Q1 Q4 Q5 Q6 Q7 Q8 Q9 Q10 Q11 Q12 Q13 Q14 Q15 Q16 Q17 Q15' Q16' Q17' HN HRr
            have H := H'.out
            clear H'
            rcases HF.out with ⟨hfv, hF0⟩ | ⟨fn, caps, hfv, hent, hFc⟩
            · subst hfv
              have hn0 : ∀ (w : World), (binOp .neq 51 .nilFunc .nilFunc).run Tryd.prog w = .ok (.bool false) w := fun _ => rfl
              rw [hF0 m, if_neg (by decide)] at H
              by_cases hacc : acc.length < 8796093022208
              · rw [if_pos hacc, if_neg (by decide)] at H
                have H' := Aside0.mk H
                clear H
                go_wp2_with ((with_reducible refine gate_builtin (b := .append) (xs := #[.tmp 111, .tmp 113]) rfl ?_); at_builtin; refine Kd.R_append (kptr 61 kInf) (w0 := w) w.heap.size rfl (.tmp 111) (.tmp 113) 54 60 (.pointer none) 8 rfl Tryd.underlying54 info60 rfl (by decide) (by omega) u7 acc m [.pointer (some ⟨b, 0, none⟩)] (fun _ => True) (fun k => k = b) rfl rfl (ptr_mkM hlt0 rfl hblk.out) hne.out (fun _ _ => trivial) HR6.out HB6.out HB6.out.size (by omega) ?_; intro v7 w7 ho hb hg hat; have HR7 := Aside0.mk ho; have HB7 := Aside0.mk hb; have hg7 := Aside0.mk hg; clear ho hb hg hat)
                go_roundg k1
                case measure => have := HK1.out; omega
                case rel => exact ⟨R_, _, acc ++ [m], H', ⟨by have := HK1.out; omega⟩, hRs, ⟨HI6.out.grown hg7.out (Kd.R_ne HR6.out HI6.out.1 (by decide))⟩, HR7, HB7⟩
              · rw [if_neg hacc] at H
                exact absurd H (by simp)
            · subst hfv
              have hFc := Aside0.mk hFc
              have hneqf : ∀ (w : World), (binOp .neq 51 (.func (.func fn) #[] caps) .nilFunc).run Tryd.prog w = .ok (.bool true) w := fun _ => rfl
              by_cases hs1 : (F m).1 = true
              · rw [if_pos hs1] at H
                have H' := Aside0.mk H
                clear H
                go_wp2_with (refine (hFc.out W6 b m HB6.out hblk.out Q18.out).mono ?_; rintro e w7 ⟨rfl, hd7⟩; replace hd7 := Aside0.mk hd7)
                go_roundg k1
                case measure => have := HK1.out; omega
                case rel => exact ⟨R_, _, acc, H', ⟨by have := HK1.out; omega⟩, hRs, ⟨HI6.out.below hd7.out.below⟩, ⟨Kd.R_below HR6.out hd7.out.below⟩, ⟨keepB HB6.out hd7.out.below (Nat.le_refl _)⟩⟩
              · rw [if_neg hs1] at H
                by_cases hacc : acc.length < 8796093022208
                · rw [if_pos hacc] at H
                  by_cases hs2 : (F m).2 = true
                  · rw [if_pos hs2] at H
                    obtain rfl := Option.some.inj H
                    clear H
                    go_wp2_with (first | (refine (hFc.out W6 b m HB6.out hblk.out Q18.out).mono ?_; rintro e w7 ⟨rfl, hd7⟩; replace hd7 := Aside0.mk hd7) | ((with_reducible refine gate_builtin (b := .append) (xs := #[.tmp 111, .tmp 113]) rfl ?_); at_builtin; refine Kd.R_append (kptr 61 kInf) (w0 := w) w.heap.size rfl (.tmp 111) (.tmp 113) 54 60 (.pointer none) 8 rfl Tryd.underlying54 info60 rfl (by decide) (by omega) u7 acc m [.pointer (some ⟨b, 0, none⟩)] (fun _ => True) (fun k => k = b) rfl rfl (ptr_mkM hlt0 rfl ((hd7.out.below.block _ (lt_of_some hblk.out)).trans hblk.out)) hne.out (fun _ _ => trivial) (Kd.R_below HR6.out hd7.out.below) (keepB HB6.out hd7.out.below (Nat.le_refl _)) (keepB HB6.out hd7.out.below (Nat.le_refl _)).size (by omega) ?_; intro v7 w9 ho hb hg hat; have HR9 := Aside0.mk ho; have HB9 := Aside0.mk hb; have hg9 := Aside0.mk hg; clear ho hb hg hat; have HI9 := Aside0.mk ((HI6.out.below hd7.out.below).grown hg9.out (Kd.R_ne HR6.out HI6.out.1 (by decide)))) | (go_at_call 48; refine (texts_Lines_Err.calls w.heap.size _ _ _ _ _ _ _ _ _ w _ HI9.out HB9.out rfl).mono ?_; rintro e w3 ⟨he, HI10, HB10, HK10⟩; rw [errW_none] at he; subst he))
                    go_ret2
                    exact ⟨_, rfl, R_keep86 HR9.out HI9.out HK10, HB10⟩
                  · rw [if_neg hs2] at H
                    have H' := Aside0.mk H
                    clear H
                    go_wp2_with (first | (refine (hFc.out W6 b m HB6.out hblk.out Q18.out).mono ?_; rintro e w7 ⟨rfl, hd7⟩; replace hd7 := Aside0.mk hd7) | ((with_reducible refine gate_builtin (b := .append) (xs := #[.tmp 111, .tmp 113]) rfl ?_); at_builtin; refine Kd.R_append (kptr 61 kInf) (w0 := w) w.heap.size rfl (.tmp 111) (.tmp 113) 54 60 (.pointer none) 8 rfl Tryd.underlying54 info60 rfl (by decide) (by omega) u7 acc m [.pointer (some ⟨b, 0, none⟩)] (fun _ => True) (fun k => k = b) rfl rfl (ptr_mkM hlt0 rfl ((hd7.out.below.block _ (lt_of_some hblk.out)).trans hblk.out)) hne.out (fun _ _ => trivial) (Kd.R_below HR6.out hd7.out.below) (keepB HB6.out hd7.out.below (Nat.le_refl _)) (keepB HB6.out hd7.out.below (Nat.le_refl _)).size (by omega) ?_; intro v7 w9 ho hb hg hat; have HR9 := Aside0.mk ho; have HB9 := Aside0.mk hb; have hg9 := Aside0.mk hg; clear ho hb hg hat; have HI9 := Aside0.mk ((HI6.out.below hd7.out.below).grown hg9.out (Kd.R_ne HR6.out HI6.out.1 (by decide)))))
                    go_roundg k1
                    case measure => have := HK1.out; omega
                    case rel => exact ⟨R_, _, acc ++ [m], H', ⟨by have := HK1.out; omega⟩, hRs, HI9, HR9, HB9⟩
                · rw [if_neg hacc] at H
                  exact absurd H (by simp)
        · rw [if_neg hnl] at H
          exact absurd H (by simp)
end Go.Proofs.YtcpldcndhijecaaDoor.QT0
namespace Go.Proofs.YtcpldcndhijecaaDoor.QT0
open Go.RowKit Go.Proofs.YtcpldcndhijecaaDoorW.PrintWords Go.Proofs.YtcpldcndhijecaaDoorW.PrintLast Go.Proofs.YtcpldcndhijecaaDoorW.PrintMore
set_option linter.unusedVariables false
set_option linter.unusedSimpArgs false
theorem cellInf {W : World} {b : Nat} {m : Inf} (hb : W.heap[b]? = some (.cells m.cs.toArray 61 (0, 0))) (i : Nat) (v : Value) (hv : m.cs.toArray[i]? = some v) : W.cell? ⟨b, i, none⟩ = some v := by
  unfold World.cell?
  simp only [hb]
  exact hv
def str0 (l : List ByteArray) (k : Nat) : ByteArray := l.getD k ⟨#[]⟩
def slash : ByteArray := ⟨#[47]⟩
def single (path : ByteArray) (m : Inf) : Bool × Bool := (!(m.f5.toList == path.toList), m.f5.toList == path.toList)
def parents (path : ByteArray) (m : Inf) : Bool × Bool := (!(m.f5.toList == [47]) && (!(m.f5.toList == path.toList) && !(Lib.hasPrefix path.data.toList (m.f5 ++ slash).data.toList)), false)
def prefix_ (path : ByteArray) (m : Inf) : Bool × Bool := (!(path.toList == [47]) && !(Lib.hasPrefix (m.f5 ++ slash).data.toList (path ++ slash).data.toList), false)
def types (l : List ByteArray) (m : Inf) : Bool × Bool := (!(l.any fun t => m.f8.toList == t.toList), false)
set_option maxHeartbeats 4000000 in
set_option maxRecDepth 100000 in
theorem single_any (b c : Nat) (path : ByteArray) (m : Inf) (W : World) (hb : W.heap[b]? = some (.cells m.cs.toArray 61 (0, 0))) (hc : W.cell? ⟨c, 0, none⟩ = some (.string path)) :
    Calls Tryd.prog 38 #[.pointer (some ⟨b, 0, none⟩), .pointer (some ⟨c, 0, none⟩)] W fun e w' => e = .returned (.tuple #[.bool (single path m).1, .bool (single path m).2]) ∧ Drawn0 W w' := by
  have h5 := cellInf hb 5 (.string m.f5) rfl
  unfold single
  clear hb
  generalize m.f5 = mp at *
  clear m
  by_cases h : mp.toList = path.toList
  · have c7 : (mp.toList == path.toList) = true := beq_iff_eq.mpr h
    clear h
    go_enter Tryd.func38, Tryd.ntmps38
    go_wp2
    go_quiet (fail)
    go_wp2
    go_ret2
    exact ⟨by simp [c7], by repeat (first | exact Drawn0.refl _ | apply Drawn0.step)⟩
  · have c7 : (mp.toList == path.toList) = false := beq_eq_false_iff_ne.mpr h
    clear h
    go_enter Tryd.func38, Tryd.ntmps38
    go_wp2
    go_quiet (fail)
    go_wp2
    go_ret2
    exact ⟨by simp [c7], by repeat (first | exact Drawn0.refl _ | apply Drawn0.step)⟩
set_option maxHeartbeats 4000000 in
set_option maxRecDepth 100000 in
theorem parents_any (b c : Nat) (path : ByteArray) (m : Inf) (W : World) (hz : m.f5.size ≤ 4611686018427387904) (hb : W.heap[b]? = some (.cells m.cs.toArray 61 (0, 0))) (hc : W.cell? ⟨c, 0, none⟩ = some (.string path)) :
    Calls Tryd.prog 35 #[.pointer (some ⟨b, 0, none⟩), .pointer (some ⟨c, 0, none⟩)] W fun e w' => e = .returned (.tuple #[.bool (parents path m).1, .bool (parents path m).2]) ∧ Drawn0 W w' := by
  have h5 := cellInf hb 5 (.string m.f5) rfl
  unfold parents slash
  clear hb
  generalize m.f5 = mp at *
  clear m
  by_cases h1 : mp.toList = [47]
  · have e1 : (mp.toList == [47]) = true := beq_iff_eq.mpr h1
    go_enter Tryd.func35, Tryd.ntmps35
    go_wp2
    go_ret2
    exact ⟨by simp [e1], by repeat (first | exact Drawn0.refl _ | apply Drawn0.step)⟩
  · have e1 : (mp.toList == [47]) = false := beq_eq_false_iff_ne.mpr h1
    by_cases h2 : mp.toList = path.toList
    · have e2 : (mp.toList == path.toList) = true := beq_iff_eq.mpr h2
      have h3 : ¬ path.toList = [47] := h2 ▸ h1
      go_enter Tryd.func35, Tryd.ntmps35
      go_wp2
      go_ret2
      exact ⟨by simp [e1, e2], by repeat (first | exact Drawn0.refl _ | apply Drawn0.step)⟩
    · have e2 : (mp.toList == path.toList) = false := beq_eq_false_iff_ne.mpr h2
      have hz1 : ¬ 9223372036854775807 < mp.size + 1 := by omega
      have hnot : ∀ (x : Bool) (w : World), (Op.unary .not (.bool x)).run Tryd.prog w = .ok (.bool (!x)) w := fun _ _ => rfl
      go_enter Tryd.func35, Tryd.ntmps35
      go_wp2_with (go_at_call 36; refine (Tryd.strings_HasPrefix _ _ _).mono ?_; rintro e w1 ⟨rfl, rfl⟩)
      go_ret2
      exact ⟨by simp [e1, e2], by repeat (first | exact Drawn0.refl _ | apply Drawn0.step)⟩
set_option maxHeartbeats 4000000 in
set_option maxRecDepth 100000 in
theorem prefix_any (b c : Nat) (path : ByteArray) (m : Inf) (W : World) (hz : m.f5.size ≤ 4611686018427387904) (hzp : path.size ≤ 4611686018427387904) (hb : W.heap[b]? = some (.cells m.cs.toArray 61 (0, 0))) (hc : W.cell? ⟨c, 0, none⟩ = some (.string path)) :
    Calls Tryd.prog 37 #[.pointer (some ⟨b, 0, none⟩), .pointer (some ⟨c, 0, none⟩)] W fun e w' => e = .returned (.tuple #[.bool (prefix_ path m).1, .bool (prefix_ path m).2]) ∧ Drawn0 W w' := by
  have h5 := cellInf hb 5 (.string m.f5) rfl
  unfold prefix_ slash
  clear hb
  generalize m.f5 = mp at *
  clear m
  by_cases h1 : path.toList = [47]
  · have e1 : (path.toList == [47]) = true := beq_iff_eq.mpr h1
    go_enter Tryd.func37, Tryd.ntmps37
    go_wp2
    go_quiet (fail)
    go_wp2
    go_ret2
    exact ⟨by simp [e1], by repeat (first | exact Drawn0.refl _ | apply Drawn0.step)⟩
  · have e1 : (path.toList == [47]) = false := beq_eq_false_iff_ne.mpr h1
    have hz1 : ¬ 9223372036854775807 < mp.size + 1 := by omega
    have hz2 : ¬ 9223372036854775807 < path.size + 1 := by omega
    have hnot : ∀ (x : Bool) (w : World), (Op.unary .not (.bool x)).run Tryd.prog w = .ok (.bool (!x)) w := fun _ _ => rfl
    go_enter Tryd.func37, Tryd.ntmps37
    go_wp2
    go_quiet ((go_at_call 36; exact Calls.quiet_of_same (Tryd.strings_HasPrefix _ _ _)))
    go_wp2
    go_ret2
    exact ⟨by simp [e1], by repeat (first | exact Drawn0.refl _ | apply Drawn0.step)⟩
set_option maxHeartbeats 4000000 in
set_option maxRecDepth 100000 in
theorem types_any (b c : Nat) (bk cap : Nat) (l : List ByteArray) (A : Option Addr) (m : Inf) (W : World) (hb : W.heap[b]? = some (.cells m.cs.toArray 61 (0, 0))) (hc : W.cell? ⟨c, 0, none⟩ = some (.slice A l.length cap)) (hC : Kd.C Kd.string W A l.length l) :
    Calls Tryd.prog 34 #[.pointer (some ⟨b, 0, none⟩), .pointer (some ⟨c, 0, none⟩)] W fun e w' => e = .returned (.tuple #[.bool (types l m).1, .bool (types l m).2]) ∧ Drawn0 W w' := by
  have h8 := cellInf hb 8 (.string m.f8) rfl
  have hl : l.length ≤ 9223372036854775807 := hC.2.1
  have HC := Aside0.mk hC
  unfold types
  clear hb hC
  generalize m.f8 = ty at *
  clear m
  go_enter Tryd.func34, Tryd.ntmps34
  go_wp2
  go_loop [9] (fun v => ∃ k : Nat, k ≤ l.length ∧ v = .int .i64 k ∧ (l.take k).any (fun t => ty.toList == t.toList) = false) (fun v => l.length - (intOf v).toNat)
  case atStart => exact ⟨0, Nat.zero_le _, rfl, rfl⟩
  case round =>
    obtain ⟨k, hk, rfl, hno⟩ := hrel
    have HNO := Aside0.mk hno
    clear hno
    by_cases hlt : k < l.length
    · obtain ⟨ad, cs, rfl, _, hK, hcell⟩ := Kd.C_get HC.out ⟨#[]⟩ (k : Int) (by omega) (by omega)
      have hK' : cs = [.string (str0 l k)] := hK
      have hx := hcell 0 (.string (str0 l k)) (by rw [hK']; rfl)
      have hx' : W.cell? (ad.add (((k : Int)).toNat * 1 + 0)) = some (.string (str0 l k)) := hx
      simp only [Int.toNat_natCast, Nat.mul_one, Nat.add_zero] at hx'
      clear hx hcell hK hK' HC
      have hg : l[k]? = some (str0 l k) := by
        unfold str0
        rw [List.getD_eq_getElem?_getD, List.getElem?_eq_getElem hlt]
        rfl
      by_cases he : ty.toList = (str0 l k).toList
      · have c7 : (ty.toList == (str0 l k).toList) = true := beq_iff_eq.mpr he
        have hany : (l.any fun t => ty.toList == t.toList) = true := List.any_eq_true.2 ⟨str0 l k, List.mem_of_getElem? hg, c7⟩
        have HA := Aside0.mk hany
        have HE := Aside0.mk he
        clear hg he hany
        go_wp2
        go_ret2
        exact ⟨by rw [HA.out]; rfl, by repeat (first | exact Drawn0.refl _ | apply Drawn0.step)⟩
      · have c7 : (ty.toList == (str0 l k).toList) = false := beq_eq_false_iff_ne.mpr he
        have hno1 : (l.take (k + 1)).any (fun t => ty.toList == t.toList) = false := by
          rw [List.take_add_one, hg, List.any_append, HNO.out]
          simp [c7]
        have HN1 := Aside0.mk hno1
        clear hg hno1
        go_wp2
        go_round
        case rel => exact ⟨k + 1, by omega, by go_num, HN1.out⟩
        case measure => simp [intOf]; omega
    · obtain rfl : k = l.length := by omega
      have hany : (l.any fun t => ty.toList == t.toList) = false := by
        have := HNO.out
        rw [List.take_length] at this
        exact this
      have HA := Aside0.mk hany
      clear hany
      go_wp2
      go_ret2
      exact ⟨by rw [HA.out]; rfl, by repeat (first | exact Drawn0.refl _ | apply Drawn0.step)⟩
theorem cell_new (w : World) (v : Value) (t : TypeId) : (w.alloc (.cells #[v] t)).cell? ⟨w.heap.size, 0, none⟩ = some v := by
  rw [World.cell?_alloc_at _ _ _ _ rfl]
  rfl
set_option maxHeartbeats 4000000 in
theorem single_mk (path : ByteArray) (w : World) : Calls Tryd.prog 25 #[.string path] w fun e w' => ∃ fv, e = .returned fv ∧ FilterIs w' (single path) fv ∧ Below w.heap.size w w' := by
  have hmf : ∀ (fn : Fn) (first cap : Array Value) (w : World), (Instr.makeFunc fn first cap).run Tryd.prog w = .ok (.func fn first cap) w := fun _ _ _ _ => rfl
  have HB := Aside0.mk (below_alloc (Below.refl w.heap.size w) (.cells #[.string path] 9))
  have hc := Aside0.mk (cell_new w (.string path) 9)
  go_enter Tryd.func25, Tryd.ntmps25
  go_wp2
  go_ret
  exact ⟨_, rfl, .inr ⟨38, _, rfl, enters_of Tryd.func38 (by kernel_rfl) rfl, fun W b m hB hb _ => single_any b _ path m W hb (keepcell hB hc.out)⟩, HB.out⟩
set_option maxHeartbeats 4000000 in
theorem parents_mk (path : ByteArray) (w : World) : Calls Tryd.prog 23 #[.string path] w fun e w' => ∃ fv, e = .returned fv ∧ FilterIs w' (parents path) fv ∧ Below w.heap.size w w' := by
  have hmf : ∀ (fn : Fn) (first cap : Array Value) (w : World), (Instr.makeFunc fn first cap).run Tryd.prog w = .ok (.func fn first cap) w := fun _ _ _ _ => rfl
  have HB := Aside0.mk (below_alloc (Below.refl w.heap.size w) (.cells #[.string path] 9))
  have hc := Aside0.mk (cell_new w (.string path) 9)
  go_enter Tryd.func23, Tryd.ntmps23
  go_wp2
  go_ret
  exact ⟨_, rfl, .inr ⟨35, _, rfl, enters_of Tryd.func35 (by kernel_rfl) rfl, fun W b m hB hb hz => parents_any b _ path m W hz hb (keepcell hB hc.out)⟩, HB.out⟩
set_option maxHeartbeats 4000000 in
theorem prefix_mk (path : ByteArray) (w : World) (hzp : path.size ≤ 4611686018427387904) : Calls Tryd.prog 24 #[.string path] w fun e w' => ∃ fv, e = .returned fv ∧ FilterIs w' (prefix_ path) fv ∧ Below w.heap.size w w' := by
  have hmf : ∀ (fn : Fn) (first cap : Array Value) (w : World), (Instr.makeFunc fn first cap).run Tryd.prog w = .ok (.func fn first cap) w := fun _ _ _ _ => rfl
  have HB := Aside0.mk (below_alloc (Below.refl w.heap.size w) (.cells #[.string path] 9))
  have hc := Aside0.mk (cell_new w (.string path) 9)
  go_enter Tryd.func24, Tryd.ntmps24
  go_wp2
  go_ret
  exact ⟨_, rfl, .inr ⟨37, _, rfl, enters_of Tryd.func37 (by kernel_rfl) rfl, fun W b m hB hb hz => prefix_any b _ path m W hz hzp hb (keepcell hB hc.out)⟩, HB.out⟩
set_option maxHeartbeats 4000000 in
theorem types_mk (l : List ByteArray) (A : Option Addr) (cap : Nat) (w : World) (hC : Kd.C Kd.string w A l.length l) : Calls Tryd.prog 22 #[.slice A l.length cap] w fun e w' => ∃ fv, e = .returned fv ∧ FilterIs w' (types l) fv ∧ Below w.heap.size w w' := by
  have hmf : ∀ (fn : Fn) (first cap : Array Value) (w : World), (Instr.makeFunc fn first cap).run Tryd.prog w = .ok (.func fn first cap) w := fun _ _ _ _ => rfl
  have HB := Aside0.mk (below_alloc (Below.refl w.heap.size w) (.cells #[.slice A l.length cap] 28))
  have hc := Aside0.mk (cell_new w (.slice A l.length cap) 28)
  have HC := Aside0.mk (Kd.C_below hC HB.out)
  clear hC
  go_enter Tryd.func22, Tryd.ntmps22
  go_wp2
  go_ret
  exact ⟨_, rfl, .inr ⟨34, _, rfl, enters_of Tryd.func34 (by kernel_rfl) rfl, fun W b m hB hb _ => types_any b _ 0 cap l A m W hb (keepcell hB hc.out) (Kd.C_below HC.out hB)⟩, HB.out⟩
end Go.Proofs.YtcpldcndhijecaaDoor.QT0
namespace Go.Last
open Go
section
variable {P : Program} {ops : Array Oper} {Q : Exit → Act → World → Prop} {md : Region.Mode} {S : World → Prop} {n : Nat}
def wpAnyX (P : Program) (md : Region.Mode) (ops : Array Oper) (Q : Exit → Act → World → Prop) (S : World → Prop) (n : Nat) : Nat → Array Bool → Act → World → Prop
  | 0, listed, a, w => Region.ready md ops listed = [] ∧ Q .normal a w
  | fuel + 1, listed, a, w =>
    (Region.ready md ops listed = [] → Q .normal a w) ∧
    ∀ i ∈ Region.ready md ops listed, wpOp P ops Q i (fun a' w' => (i ≠ n → S w') ∧ wpAnyX P md ops Q S n fuel (listed.setIfInBounds i true) a' w') a w
theorem wpAny_of_x : ∀ (fuel : Nat) (listed : Array Bool) (a : Act) (w : World), wpAnyX P md ops Q S n fuel listed a w → wpAny P md ops Q fuel listed a w
  | 0, _, _, _, h => h
  | fuel + 1, _, _, _, h => ⟨h.1, fun i hi => wpOp_mono (fun a' w' h' => wpAny_of_x fuel _ a' w' h'.2) (h.2 i hi)⟩
def waits (md : Region.Mode) (ops : Array Oper) (n i : Nat) : Bool := match ops[n]? with | some o => o.after.any (fun e => Region.binds md e && e.on == i) | none => true
theorem not_ready {i : Nat} (h : waits md ops n i = true) {listed : Array Bool} (hl : listed.getD i false = false) : n ∉ Region.ready md ops listed := by
  intro hn
  obtain ⟨_, o, ho, hall⟩ := mem_ready.1 hn
  unfold waits at h
  rw [ho] at h
  simp only at h
  obtain ⟨e, he, hb⟩ := Array.any_eq_true'.1 h
  rw [Bool.and_eq_true, beq_iff_eq] at hb
  have := hall e he hb.1
  rw [hb.2, hl] at this
  cases this
theorem wpAnyX_first {i : Nat} {oi : Oper} {v : Value} (hi : ops[i]? = some oi) (hwt : waits md ops n i = true) (hin : i ≠ n) (hsel : ∀ (j : Nat) (o : Oper) cs b, ops[j]? = some o → o.op ≠ .select cs b)
    (hQ : ∀ c a w, Q (.panic c) (a.put oi.dst v) w → Q (.panic c) a w) :
    ∀ (fuel : Nat) (listed : Array Bool) (a : Act) (w : World),
      (∀ j oj, ops[j]? = some oj → j ≠ i → listed.getD j true = false → (∀ e ∈ oj.after, Region.binds md e = true → e.on ≠ i) → oi.apart ops oj = true) →
      i ∈ Region.ready md ops listed → YieldsIf P ops S oi v a → S w →
      wpAnyX P md ops Q S n fuel (listed.setIfInBounds i true) (a.put oi.dst v) w → wpAnyX P md ops Q S n (fuel + 1) listed a w := by
  intro fuel
  induction fuel with
  | zero =>
    intro listed a w _ hr hy hS H
    refine ⟨fun h => (by rw [h] at hr; cases hr), fun j hj => ?_⟩
    by_cases hji : j = i
    · subst hji; exact hy.wpOp hi hS ⟨fun _ => hS, H⟩
    · have := ready_mono hj hji
      rw [H.1] at this
      cases this
  | succ fuel ih =>
    intro listed a w hfree hr hy hS H
    refine ⟨fun h => (by rw [h] at hr; cases hr), fun j hj => ?_⟩
    by_cases hji : j = i
    · subst hji; exact hy.wpOp hi hS ⟨fun _ => hS, H⟩
    · have h1 := H.2 j (ready_mono hj hji)
      have h0 := (mem_ready.1 hr).1
      have hil : i < listed.size := by
        rcases Nat.lt_or_ge i listed.size with h' | h'
        · exact h'
        · simp [Array.getElem?_eq_none h'] at h0
      have h0' : listed.getD i false = false := by
        simp [hil] at h0 ⊢
        exact h0
      have hjn : j ≠ n := fun e => not_ready hwt h0' (e ▸ hj)
      obtain ⟨hjun, oj, hoj, hall⟩ := mem_ready.1 hj
      have hnot : ∀ e ∈ oj.after, Region.binds md e = true → e.on ≠ i := fun e he hb heq => by
        have h1 := hall e he hb
        rw [heq, h0'] at h1
        cases h1
      have h2 := wpOp_putIf hoj (hfree j oj hoj hji hjun hnot) (fun cs b => hsel i oi cs b hi) (fun cs b => hsel j oj cs b hoj) hQ hy h1
      have hfree' : ∀ k ok, ops[k]? = some ok → k ≠ i → (listed.setIfInBounds j true).getD k true = false →
          (∀ e ∈ ok.after, Region.binds md e = true → e.on ≠ i) → oi.apart ops ok = true := fun k ok hk hki hun hno => by
        refine hfree k ok hk hki ?_ hno
        by_cases hjk : j = k
        · subst hjk; exact hjun
        · rw [getD_set_ne true hjk] at hun; exact hun
      refine wpOp_mono (fun a' w' h3 => ⟨h3.2.1, ih (listed.setIfInBounds j true) a' w' hfree' (ready_mono hr (Ne.symm hji)) h3.1 (h3.2.1 hjn) ?_⟩) h2
      rw [Array.setIfInBounds_comm _ _ hji]
      exact h3.2.2
theorem wpAnyX_take {i : Nat} {oi : Oper} {v : Value} {fuel : Nat} {listed : Array Bool} {a : Act} {w : World} (hi : ops[i]? = some oi)
    (hs : Region.noSelect ops = true) (hf : Region.free md ops listed i = true) (hr : (Region.ready md ops listed).contains i = true) (hwt : (waits md ops n i && i != n) = true)
    (hQ : ∀ c a w, Q (.panic c) (a.put oi.dst v) w → Q (.panic c) a w) (hy : YieldsIf P ops S oi v a) (hS : S w)
    (h : wpAnyX P md ops Q S n fuel (listed.setIfInBounds i true) (a.put oi.dst v) w) : wpAnyX P md ops Q S n (fuel + 1) listed a w :=
  wpAnyX_first hi (Bool.and_eq_true _ _ |>.mp hwt).1 (bne_iff_ne.1 (Bool.and_eq_true _ _ |>.mp hwt).2) (Region.noSelect_spec hs) hQ fuel listed a w (Region.free_spec hi hf) (by simpa using hr) hy hS h
theorem wpAnyX_at (N : Nat) {oi : Oper} {v : Value} {fuel : Nat} {listed : Array Bool} {a : Act} {w : World} (hi : ops[N - (fuel + 1)]? = some oi)
    (hs : Region.noSelect ops = true) (hf : Region.free md ops listed (N - (fuel + 1)) = true) (hr : (Region.ready md ops listed).contains (N - (fuel + 1)) = true) (hwt : (waits md ops n (N - (fuel + 1)) && (N - (fuel + 1)) != n) = true)
    (hQ : ∀ c a w, Q (.panic c) (a.put oi.dst v) w → Q (.panic c) a w) (hy : YieldsIf P ops S oi v a) (hS : S w)
    (h : wpAnyX P md ops Q S n fuel (listed.setIfInBounds (N - (fuel + 1)) true) (a.put oi.dst v) w) : wpAnyX P md ops Q S n (fuel + 1) listed a w :=
  wpAnyX_take hi hs hf hr hwt hQ hy hS h
theorem wpAnyX_one {i : Nat} {o : Oper} {fuel : Nat} {listed : Array Bool} {a : Act} {w : World} (hr : Region.ready md ops listed = [i]) (ho : ops[i]? = some o)
    (h : ∀ K' : Act → World → Prop, (∀ a w, (i ≠ n → S w) → wpAnyX P md ops Q S n fuel (listed.setIfInBounds i true) a w → K' a w) → if Region.wanted o (yielded ops a.tmps) = true then Oper.wp P o a w K' Q else K' (a.put o.dst undef) w) :
    wpAnyX P md ops Q S n (fuel + 1) listed a w :=
  ⟨fun h0 => (by rw [hr] at h0; cases h0), fun j hj => by
    rw [hr] at hj
    obtain rfl := List.mem_singleton.1 hj
    exact wpOp_step ho (fun K' hK => h K' (fun a w hS hW => hK a w ⟨hS, hW⟩))⟩
theorem wpAnyX_done {listed : Array Bool} {a : Act} {w : World} (hr : Region.ready md ops listed = []) (h : Q .normal a w) :
    ∀ fuel, wpAnyX P md ops Q S n fuel listed a w
  | 0 => ⟨hr, h⟩
  | _ + 1 => ⟨fun _ => h, by rw [hr]; simp⟩
theorem wp_region_x {id : Nat} {a : Act} {w : World} (hm : P.follows .mixedOrders = true)
    (h : wpAnyX P .any ops Q S n ops.size (Array.replicate ops.size false) a { w with drawn := w.drawn + 1 }) : (Code.region id ops true).wp P Q a w :=
  wp_region_any hm (wpAny_of_x _ _ _ _ h)
end
end Go.Last
namespace Go.Proofs.YtcpldcndhijecaaDoor.QT0
open Go.RowKit Go.Proofs.YtcpldcndhijecaaDoorW.PrintWords Go.Proofs.YtcpldcndhijecaaDoorW.PrintLast Go.Proofs.YtcpldcndhijecaaDoorW.PrintMore
set_option linter.unusedVariables false
set_option linter.unusedSimpArgs false
theorem kinfE (q : Nat) (hq : q ∈ 44 :: kInf.E) : q = 44 := by simpa [kInf, Kd.iso, Kd.pair, Kd.int, Kd.string, Kd.scalar] using hq
theorem kinf22 : ∀ q, q ∈ 44 :: kInf.E → q ≠ 22 := fun q hq => by rw [kinfE q hq]; decide
theorem kinf3 : ∀ q, q ∈ 44 :: kInf.E → q ≠ 3 := fun q hq => by rw [kinfE q hq]; decide
theorem kptrE (q : Nat) (hq : q ∈ 60 :: (kptr 61 kInf).E) : q = 60 ∨ q = 61 := by simpa [kptr, kInf, Kd.iso, Kd.pair, Kd.int, Kd.string, Kd.scalar] using hq
theorem kptr44 : ∀ q, q ∈ 60 :: (kptr 61 kInf).E → q ≠ 44 := fun q hq => by have := kptrE q hq; omega
theorem kptr22 : ∀ q, q ∈ 60 :: (kptr 61 kInf).E → q ≠ 22 := fun q hq => by have := kptrE q hq; omega
theorem catch_idle (p q : Addr) (w : World) :
    CallsD Tryd.prog 21 #[.pointer (some p), .pointer (some q)] .returning w fun e u' w' => e = .returned (.tuple #[]) ∧ u' = .returning ∧ w' = w := by
  refine callsD_of_wpS Tryd.func21 rfl fun c₀ cs hu => ?_
  apply wpS_seq
  apply wpS_region
  simp [wpOpsS, go_sem, recoverD, hu, Tryd.ntmps21, Exit.thenS]
  refine wpS_cond (t := false) (by simp [Act.eval, Array.replicate]) ?_
  simp only [Bool.false_eq_true, if_false]
  refine wpS_of_wp (wp_skip ?_)
  cases c₀
  simp_all [bodyPostS, results, Tryd.results21]
theorem cellInf' {W : World} {b : Nat} {m : Inf} (hb : W.heap[b]? = some (.cells m.cs.toArray 61 (0, 0))) (i : Nat) (v : Value) (hv : m.cs.toArray[i]? = some v) : W.cell? ⟨b, i, none⟩ = some v := by
  unfold World.cell?
  simp only [hb]
  exact hv
theorem below_over {w W W1 : World} (h : Below w.heap.size w W) (h1 : Below W.heap.size W W1) : Below w.heap.size w W1 :=
  ⟨h1.os.trans h.os, h1.tape.trans h.tape, h1.output.trans h.output, Nat.le_trans h.size h1.size, fun i hi => (h1.block i (Nat.lt_of_lt_of_le hi h.size)).trans (h.block i hi)⟩
theorem cell_of_blk {W : World} {b : Nat} {cs : Array Value} {t : TypeId} (hb : W.heap[b]? = some (.cells cs t (0, 0))) (i : Nat) (v : Value) (hv : cs[i]? = some v) : W.cell? ⟨b, i, none⟩ = some v := by
  unfold World.cell?
  simp only [hb]
  exact hv
theorem alloc_size' (w : World) (o : Obj) : (w.alloc o).heap.size = w.heap.size + 1 := by show (w.heap.push o).size = _; rw [Array.size_push]
theorem alloc3_size (w : World) (a b c : Obj) : (((w.alloc a).alloc b).alloc c).heap.size = w.heap.size + 3 := by rw [alloc_size', alloc_size', alloc_size']
theorem alloc3_0 (w : World) (a b c : Obj) : (((w.alloc a).alloc b).alloc c).heap[w.heap.size]? = some a := by
  rw [heap_alloc_old _ _ (by rw [alloc_size', alloc_size']; omega), heap_alloc_old _ _ (by rw [alloc_size']; omega)]
  exact heap_alloc_new _ _
theorem alloc3_1 (w : World) (a b c : Obj) : (((w.alloc a).alloc b).alloc c).heap[w.heap.size + 1]? = some b := by
  rw [heap_alloc_old _ _ (by rw [alloc_size', alloc_size']; omega), ← alloc_size' w a]
  exact heap_alloc_new _ _
theorem alloc3_2 (w : World) (a b c : Obj) : (((w.alloc a).alloc b).alloc c).heap[w.heap.size + 1 + 1]? = some c := by
  rw [← alloc_size' w a, ← alloc_size' (w.alloc a) b]
  exact heap_alloc_new _ _
end Go.Proofs.YtcpldcndhijecaaDoor.QT0
