/- Small functions of the unit reader: zzEOF, isComment, zzSpace, zzNewline, Buffered. Conditions: see each theorem. -/
import Derived.Test.YtocdnceckljnaaaDoorUc
namespace Go.Proofs.YtocdnceckljnaaaDoor.U
open Go.RowKit Go.Proofs.YtocdnceckljnaaaDoorW.PrintWords Go.Proofs.YtocdnceckljnaaaDoorW.PrintLast Go.Proofs.YtocdnceckljnaaaDoorW.PrintMore
set_option linter.unusedVariables false
set_option linter.unusedSimpArgs false
set_option maxHeartbeats 4000000 in
set_option maxRecDepth 100000 in
theorem eof_nil (w : World) : Calls Tryd.prog 81 #[.nilIface] w fun e w' => e = .returned (.bool false) ∧ Below w.heap.size w w' := by
  have HB := Aside0.mk (Below.refl w.heap.size w)
  have hta : ∀ w : World, (Instr.typeAssert .nilIface 61 139 true).run Tryd.prog w = .ok (.tuple #[.agg #[], .bool false]) w := fun _ => rfl
  go_enter Tryd.func81, Tryd.ntmps81
  go_wp2
  go_ret
  exact ⟨rfl, below_alloc HB.out _⟩
set_option maxHeartbeats 4000000 in
set_option maxRecDepth 100000 in
theorem eof_is (w : World) : Calls Tryd.prog 81 #[eof] w fun e w' => e = .returned (.bool true) ∧ Below w.heap.size w w' := by
  have HB := Aside0.mk (Below.refl w.heap.size w)
  have hta : ∀ w : World, (Instr.typeAssert eof 61 139 true).run Tryd.prog w = .ok (.tuple #[.agg #[], .bool true]) w := fun _ => rfl
  go_enter Tryd.func81, Tryd.ntmps81
  go_wp2
  go_ret
  exact ⟨rfl, below_alloc HB.out _⟩
set_option maxHeartbeats 4000000 in
set_option maxRecDepth 100000 in
theorem comment_ (c : Nat) (w : World) : Calls Tryd.prog 83 #[.int .i32 c] w fun e w' => e = .returned (.bool (c == 35 || c == 59)) ∧ w' = w := by
  by_cases h1 : c = 35
  · subst h1
    go_enter Tryd.func83, Tryd.ntmps83
    go_wp2
    go_ret
    exact ⟨rfl, rfl⟩
  · have q1 : ((c : Int) == 35) = false := by rw [beq_eq_false_iff_ne]; omega
    have e1 : (c == 35) = false := by rw [beq_eq_false_iff_ne]; exact h1
    have hi : ((c : Int) == 59) = (c == 59) := by
      rw [Bool.eq_iff_iff, beq_iff_eq, beq_iff_eq]; omega
    clear h1
    go_enter Tryd.func83, Tryd.ntmps83
    go_wp2
    go_ret
    exact ⟨by rw [e1]; rfl, rfl⟩
/-- White space below 128. -/
def spN (c : Nat) : Bool := c == 9 || c == 10 || c == 11 || c == 12 || c == 13 || c == 32
set_option maxHeartbeats 4000000 in
set_option maxRecDepth 100000 in
theorem space_ (c : Nat) (hc : c < 128) (w : World) : Calls Tryd.prog 108 #[.int .i32 c] w fun e w' => e = .returned (.bool (spN c)) ∧ w' = w := by
  by_cases h9 : c = 9
  · subst h9
    go_enter Tryd.func108, Tryd.ntmps108
    go_wp2
    go_ret
    exact ⟨rfl, rfl⟩
  by_cases h10 : c = 10
  · subst h10
    go_enter Tryd.func108, Tryd.ntmps108
    go_wp2
    go_ret
    exact ⟨rfl, rfl⟩
  by_cases h11 : c = 11
  · subst h11
    go_enter Tryd.func108, Tryd.ntmps108
    go_wp2
    go_ret
    exact ⟨rfl, rfl⟩
  by_cases h12 : c = 12
  · subst h12
    go_enter Tryd.func108, Tryd.ntmps108
    go_wp2
    go_ret
    exact ⟨rfl, rfl⟩
  by_cases h13 : c = 13
  · subst h13
    go_enter Tryd.func108, Tryd.ntmps108
    go_wp2
    go_ret
    exact ⟨rfl, rfl⟩
  by_cases h32 : c = 32
  · subst h32
    go_enter Tryd.func108, Tryd.ntmps108
    go_wp2
    go_ret
    exact ⟨rfl, rfl⟩
  have q9 : ((c : Int) == 9) = false := by rw [beq_eq_false_iff_ne]; omega
  have q10 : ((c : Int) == 10) = false := by rw [beq_eq_false_iff_ne]; omega
  have q11 : ((c : Int) == 11) = false := by rw [beq_eq_false_iff_ne]; omega
  have q12 : ((c : Int) == 12) = false := by rw [beq_eq_false_iff_ne]; omega
  have q13 : ((c : Int) == 13) = false := by rw [beq_eq_false_iff_ne]; omega
  have q32 : ((c : Int) == 32) = false := by rw [beq_eq_false_iff_ne]; omega
  have q133 : ((c : Int) == 133) = false := by rw [beq_eq_false_iff_ne]; omega
  have q160 : ((c : Int) == 160) = false := by rw [beq_eq_false_iff_ne]; omega
  have q5760 : ((c : Int) == 5760) = false := by rw [beq_eq_false_iff_ne]; omega
  have q8232 : ((c : Int) == 8232) = false := by rw [beq_eq_false_iff_ne]; omega
  have q8233 : ((c : Int) == 8233) = false := by rw [beq_eq_false_iff_ne]; omega
  have q8239 : ((c : Int) == 8239) = false := by rw [beq_eq_false_iff_ne]; omega
  have q8287 : ((c : Int) == 8287) = false := by rw [beq_eq_false_iff_ne]; omega
  have q12288 : ((c : Int) == 12288) = false := by rw [beq_eq_false_iff_ne]; omega
  have r1 : decide ((8192 : Int) ≤ (c : Int)) = false := decide_eq_false (by omega)
  have e : spN c = false := by
    unfold spN
    simp only [Bool.or_eq_false_iff, beq_eq_false_iff_ne]
    exact ⟨⟨⟨⟨⟨h9, h10⟩, h11⟩, h12⟩, h13⟩, h32⟩
  clear hc h9 h10 h11 h12 h13 h32
  go_enter Tryd.func108, Tryd.ntmps108
  go_wp2
  go_ret
  exact ⟨by rw [e]; rfl, rfl⟩
set_option maxHeartbeats 4000000 in
set_option maxRecDepth 100000 in
theorem newline_ (W : World) (base : Nat) (v : Value) (l : List UInt8) (h : Sl W base v l) (hl : l.length ≤ 4611686018427387904) (hm : (10 : UInt8) ∈ l) :
    Calls Tryd.prog 71 #[v] W fun e w' => e = .returned (.bool true) ∧ w' = W := by
  obtain ⟨b, o, c, rfl, hc, _, _, hcell⟩ := h.has
  have HC := Aside0.mk hcell
  have HM := Aside0.mk hm
  clear h hcell hm
  go_enter Tryd.func71, Tryd.ntmps71
  go_wp2
  go_loop [7] (fun v => ∃ k : Nat, k ≤ l.length ∧ v = .int .i64 k ∧ Aside0 (∀ i, i < k → l[i]? ≠ some 10)) (fun v => l.length - (intOf v).toNat)
  case atStart => exact ⟨0, Nat.zero_le _, rfl, ⟨fun i hi => absurd hi (Nat.not_lt_zero i)⟩⟩
  case round =>
    obtain ⟨k, hk, rfl, HN⟩ := hrel
    by_cases hlt : k < l.length
    · have hu : l[k]? = some l[k] := List.getElem?_eq_getElem hlt
      have hcell := HC.out k _ hu
      have HU := Aside0.mk hu
      clear hu
      generalize l[k] = u at hcell HU
      have q1 : decide ((k : Int) < (l.length : Int)) = true := by simp; omega
      by_cases h10 : (u.toNat : Int) = 10
      · have q2 : ((u.toNat : Int) == 10) = true := beq_iff_eq.2 h10
        clear h10
        go_wp2
        go_ret
        exact ⟨rfl, rfl⟩
      · have q2 : ((u.toNat : Int) == 10) = false := by rw [beq_eq_false_iff_ne]; exact h10
        have HN2 := Aside0.mk h10
        clear h10
        by_cases h13 : (u.toNat : Int) = 13
        · have q3 : ((u.toNat : Int) == 13) = true := beq_iff_eq.2 h13
          clear h13
          go_wp2
          go_ret
          exact ⟨rfl, rfl⟩
        · have q3 : ((u.toNat : Int) == 13) = false := by rw [beq_eq_false_iff_ne]; exact h13
          clear h13
          go_wp2
          go_round
          case rel =>
            refine ⟨k + 1, by omega, by go_num, ⟨fun i hi e => ?_⟩⟩
            rcases Nat.lt_or_ge i k with h | h
            · exact HN.out i h e
            · obtain rfl : i = k := by omega
              rw [HU.out] at e
              exact HN2.out (by rw [Option.some.inj e]; rfl)
          case measure => simp [intOf]; omega
    · exfalso
      obtain ⟨i, hi⟩ := List.getElem?_of_mem HM.out
      have := (List.getElem?_eq_some_iff.1 hi).1
      exact HN.out i (by omega) hi
set_option maxHeartbeats 4000000 in
set_option maxRecDepth 100000 in
theorem buffered (g : Nat) (T : ByteArray) (r wd : Nat) (last : Int) (dn : Bool) (w : World) (hB : BufAt w g T r wd last dn) :
    Calls Tryd.prog 69 #[.pointer (some ⟨g, 0, none⟩)] w fun e w' => e = .returned (.int .i64 ((wd - r : Nat) : Int)) ∧ Drawn0 w w' := by
  have h1 := hB.c1
  have h2 := hB.c2
  have hle := hB.le
  have hlew := hB.lew
  have hbig := hB.big
  have v1 : IntKind.i64.wrap ((wd : Int) - (r : Int)) = ((wd - r : Nat) : Int) := by unfold IntKind.wrap; simp [IntKind.bits, IntKind.signed]; omega
  clear hB hlew hbig hle
  go_enter Tryd.func69, Tryd.ntmps69
  go_wp2
  go_quiet (fail)
  go_wp2
  go_ret
  exact ⟨rfl, (Drawn0.refl _).step _⟩
theorem Sl_bytes0 (W : World) (L : ByteArray) (base : Nat) (hb : base ≤ W.heap.size) : Sl (Lib.bytesWorld W 5 L) base (.slice (some ⟨W.heap.size, 0, none⟩) L.size (grownCap W L.size 0 5)) L.data.toList := by
  have hl : L.data.toList.length = L.size := (Lib.size_eq L).symm
  refine ⟨W.heap.size, 0, grownCap W L.size 0 5, by rw [hl], by rw [hl]; exact grownCap_ge _ _ _ _, hb, by rw [Lib.bytesWorld_size]; exact Nat.lt_succ_self _, fun i u hu => ?_⟩
  have hi : i < L.size := by rw [← hl]; exact (List.getElem?_eq_some_iff.1 hu).1
  have := Lib.bytesWorld_cell W 5 L i hi
  rw [List.getD_eq_getElem?_getD, hu] at this
  rw [Nat.zero_add]
  exact this
theorem below_over {w W W1 : World} (h : Below w.heap.size w W) (h1 : Below W.heap.size W W1) : Below w.heap.size w W1 :=
  ⟨h1.os.trans h.os, h1.tape.trans h.tape, h1.output.trans h.output, Nat.le_trans h.size h1.size, fun i hi => (h1.block i (Nat.lt_of_lt_of_le hi h.size)).trans (h.block i hi)⟩
theorem below_drewN' (w : World) (n : Nat) : Below w.heap.size w (w.drewN n) := ((Drawn0.refl w).step n).below
set_option maxHeartbeats 4000000 in
set_option maxRecDepth 100000 in
theorem peek (g : Nat) (T : ByteArray) (r wd : Nat) (last : Int) (dn : Bool) (w : World) (hB : BufAt w g T r wd last dn) (h2048 : 2048 ≤ wd - r) :
    Calls Tryd.prog 70 #[.pointer (some ⟨g, 0, none⟩), .int .i64 2048] w fun e w' => ∃ v, e = .returned (.tuple #[v, .nilIface]) ∧ Sl w' w.heap.size v (T.extract r (r + 2048)).data.toList ∧ Below w.heap.size w w' := by
  have h0 := hB.c0
  have h1 := hB.c1
  have h2 := hB.c2
  have hle := hB.le
  have hlew := hB.lew
  have hbig := hB.big
  have v1 : IntKind.i64.wrap ((wd : Int) - (r : Int)) = (wd : Int) - (r : Int) := by unfold IntKind.wrap; simp [IntKind.bits, IntKind.signed]; omega
  obtain ⟨m, hm⟩ : ∃ m : Nat, m = r + 2048 := ⟨_, rfl⟩
  have v2 : IntKind.i64.wrap ((r : Int) + 2048) = (m : Int) := by unfold IntKind.wrap; simp [IntKind.bits, IntKind.signed]; omega
  have q1 : decide ((wd : Int) - (r : Int) < 2048) = false := decide_eq_false (by omega)
  have z1 : (r : Int) ≤ (m : Int) := by omega
  have z2 : (m : Int) ≤ (T.size : Int) := by omega
  have z3 : r ≤ m := by omega
  have z4 : m ≤ T.size := by omega
  have hszm : (T.extract r m).size = m - r := by rw [ByteArray.size_extract]; omega
  have HSZ := Aside0.mk hszm
  rw [← hm]
  have hcv : ∀ w : World, (convert 9 33 (.string (T.extract r m))).run Tryd.prog w = .ok (.slice (some ⟨w.heap.size, 0, none⟩) (T.extract r m).size (grownCap w (T.extract r m).size 0 5)) (Lib.bytesWorld w 5 (T.extract r m)) := fun w => Lib.run_convert_string_bytes w 9 33 5 (T.extract r m) Tryd.underlying9 Tryd.underlying33 Tryd.underlying5
  clear hB hlew hbig hle h2048 hm hszm
  go_enter Tryd.func70, Tryd.ntmps70
  go_wp2
  go_loop [35] (fun v => True) (fun _ => 0)
  case atStart => trivial
  case round =>
    go_wp2
    go_quiet (fail)
    have HQ := Aside0.mk (rfl : nq = nq)
    generalize nq = nq1 at HQ ⊢
    go_wp2
    go_quiet (fail)
    go_wp2
    go_region_held (fun w' => w'.cell? ⟨g, 0, none⟩ = some (.string T) ∧ w'.cell? ⟨g, 1, none⟩ = some (.int .i64 r)) (first | (go_split_ands; exact ⟨by assumption, by assumption⟩) | (go_split_ands; exact ⟨keepcell (below_bytes _ _ _) (by assumption), keepcell (below_bytes _ _ _) (by assumption)⟩) | go_keep) (first | fail)
    have HBW := Aside0.mk (fun n => below_over (below_drewN' w n) (below_bytes (w.drewN n) 5 (T.extract r m)))
    have hsl := Aside0.mk (Sl_bytes0 (w.drewN (nq1 + nq + 1)) (T.extract r m) w.heap.size (Nat.le_refl _))
    rw [HSZ.out] at hsl
    go_wp2
    go_ret2
    exact ⟨_, rfl, hsl.out, HBW.out _⟩
end Go.Proofs.YtocdnceckljnaaaDoor.U
