/- internal/strconv.readFloat at texts of at most 19 decimal digits and at most one dot. Conditions: see each theorem. -/
import Derived.Test.YtabfehcpcjcomaaDoorProg
import Derived.Test.YtabfehcpcjcomaaDoorShelf
import Derived.Test.YtabfehcpcjcomaaDoorWMore
import Derived.Test.YtabfehcpcjcomaaDoorWLast
import Derived.WalkKit
import Derived.WalkMore
namespace Go.Proofs.YtabfehcpcjcomaaDoor.R
open Go.RowKit Go.Proofs.YtabfehcpcjcomaaDoorW.PrintWords Go.Proofs.YtabfehcpcjcomaaDoorW.PrintLast Go.Proofs.YtabfehcpcjcomaaDoorW.PrintMore
set_option linter.unusedVariables false
set_option linter.unusedSimpArgs false
abbrev Bs := List UInt8
def B (l : Bs) : ByteArray := ⟨l.toArray⟩
theorem B_data (l : Bs) : (B l).data.toList = l := rfl
theorem B_size (l : Bs) : (B l).size = l.length := by simp [B, ByteArray.size]
theorem snoc_ind {α : Type} {P : List α → Prop} (h0 : P []) (h1 : ∀ l a, P l → P (l ++ [a])) (l : List α) : P l := by
  rw [← List.reverse_reverse l]
  induction l.reverse with
  | nil => exact h0
  | cons a t ih => rw [List.reverse_cons]; exact h1 _ _ ih
/-- What has been read of a number. -/
structure RS where
  m : Nat
  nd : Nat
  dp : Int
  dot : Bool
  dig : Bool
def RS.zero : RS := ⟨0, 0, 0, false, false⟩
def stepR (r : RS) (c : UInt8) : RS :=
  if c = 46 then { r with dot := true, dp := r.nd }
  else if c = 48 ∧ r.nd = 0 then { r with dig := true, dp := r.dp - 1 }
  else { r with dig := true, nd := r.nd + 1, m := r.m * 10 + (c.toNat - 48) }
def rf (p : Bs) : RS := p.foldl stepR RS.zero
theorem rf_snoc (p : Bs) (c : UInt8) : rf (p ++ [c]) = stepR (rf p) c := by unfold rf; rw [List.foldl_append]; rfl
/-- A number of at most 19 digits and at most one dot. -/
structure Num (T : Bs) : Prop where
  ch : ∀ c ∈ T, c = 46 ∨ (48 ≤ c.toNat ∧ c.toNat ≤ 57)
  len : T.length ≤ 19
  dots : ∀ p r, T = p ++ 46 :: r → (46 : UInt8) ∉ p
  dig : ∃ c ∈ T, 48 ≤ c.toNat ∧ c.toNat ≤ 57
theorem rf_bounds (p : Bs) (h : ∀ c ∈ p, c = 46 ∨ (48 ≤ c.toNat ∧ c.toNat ≤ 57)) : (rf p).nd ≤ p.length ∧ (rf p).m < 10 ^ (rf p).nd ∧ -(p.length : Int) ≤ (rf p).dp ∧ (rf p).dp ≤ p.length := by
  induction p using snoc_ind with
  | h0 => simp [rf, RS.zero]
  | h1 p c ih =>
    have h1 := ih (fun x hx => h x (List.mem_append_left _ hx))
    have h2 := h c (by simp)
    rw [rf_snoc, List.length_append, List.length_singleton]
    unfold stepR
    split
    · dsimp only; omega
    · split
      · dsimp only; omega
      · rename_i hc _
        dsimp only
        have h3 : 48 ≤ c.toNat ∧ c.toNat ≤ 57 := h2.resolve_left hc
        refine ⟨by omega, ?_, by omega, by omega⟩
        rw [Nat.pow_succ]
        omega
theorem rf_dot (p : Bs) (h : (46 : UInt8) ∉ p) : (rf p).dot = false := by
  induction p using snoc_ind with
  | h0 => rfl
  | h1 p c ih =>
    rw [rf_snoc]
    have hc : c ≠ 46 := fun e => h (by rw [e]; simp)
    have := ih (fun hm => h (List.mem_append_left _ hm))
    unfold stepR
    rw [if_neg hc]
    split <;> exact this
theorem rf_dig (p : Bs) (h : ∃ c ∈ p, 48 ≤ c.toNat ∧ c.toNat ≤ 57) : (rf p).dig = true := by
  induction p using snoc_ind with
  | h0 => simp at h
  | h1 p c ih =>
    rw [rf_snoc]
    unfold stepR
    by_cases hc : c = 46
    · rw [if_pos hc]
      obtain ⟨x, hx, hd⟩ := h
      rcases List.mem_append.1 hx with hx | hx
      · exact ih ⟨x, hx, hd⟩
      · rw [List.mem_singleton.1 hx, hc] at hd
        exact absurd hd (by decide)
    · rw [if_neg hc]
      split <;> rfl
/-- The decimal point's place, and the power of ten. -/
def rfDp (T : Bs) : Int := if (rf T).dot = true then (rf T).dp else (rf T).nd
def rfExp (T : Bs) : Int := if (rf T).m = 0 then 0 else rfDp T - (rf T).nd
theorem wr64 (z : Int) (h : -4611686018427387904 ≤ z ∧ z ≤ 4611686018427387904) : wrap64 z = z := by unfold wrap64; omega
theorem u64w (z : Int) (h : 0 ≤ z ∧ z < 18446744073709551616) : IntKind.u64.wrap z = z := by simp [IntKind.wrap, IntKind.bits, IntKind.signed]; omega
theorem at_B (T : Bs) (i : Nat) (c : UInt8) (h : T[i]? = some c) : bt (B T) (i : Int) = (c.toNat : Int) := by
  have hi : i < T.length := (List.getElem?_eq_some_iff.1 h).1
  have e : bt (B T) (i : Int) = (((B T)[i]'(by rw [B_size]; exact hi)).toNat : Int) := by
    unfold bt
    rw [dif_pos (by rw [Int.toNat_natCast, B_size]; exact hi)]
    rfl
  rw [e]
  have : T[i] = c := by rw [List.getElem?_eq_getElem hi] at h; exact Option.some.inj h
  rw [← this]
  rfl
theorem el_at (T : Bs) (S : ByteArray) (hS : S = B T) (i : Nat) (c : UInt8) (h : T[i]? = some c) : ∀ hh : i < S.size, (S[i]'hh) = c := by
  subst hS
  intro hh
  have hi : i < T.length := (List.getElem?_eq_some_iff.1 h).1
  have : T[i] = c := by rw [List.getElem?_eq_getElem hi] at h; exact Option.some.inj h
  exact this
theorem lower_not (c : UInt8) (h : c = 46 ∨ (48 ≤ c.toNat ∧ c.toNat ≤ 57)) : bits .or .u8 (c.toNat : Int) 32 ≠ 120 := by
  have key : ∀ n : Fin 256, (n.val = 46 ∨ (48 ≤ n.val ∧ n.val ≤ 57)) → bits .or .u8 ((n.val : Nat) : Int) 32 ≠ 120 := by decide +kernel
  have hn : c.toNat = 46 ∨ (48 ≤ c.toNat ∧ c.toNat ≤ 57) := h.imp (fun e => by rw [e]; rfl) id
  exact key ⟨c.toNat, c.toNat_lt⟩ hn
theorem results_tmp7 {fn : Func} {a b c d e f g : Tmp} (h : fn.results = #[.tmp a, .tmp b, .tmp c, .tmp d, .tmp e, .tmp f, .tmp g]) (t : Array Value) (P : Program) (w : World) :
    Sem.run P (results fn t) w = Result.ok (.tuple #[t.getD a undef, t.getD b undef, t.getD c undef, t.getD d undef, t.getD e undef, t.getD f undef, t.getD g undef]) w := by
  simp [results, h, go_sem]
set_option maxHeartbeats 40000000 in
set_option maxRecDepth 100000 in
theorem read_float (T : Bs) (w : World) (h : Num T) :
    Calls Tryd.prog 65 #[.string (B T)] w fun e w' => e = .returned (.tuple #[.int .u64 (rf T).m, .int .i64 (rfExp T), .bool false, .bool false, .bool false, .int .i64 T.length, .bool true]) ∧ w' = w := by
  have H := Aside0.mk h
  obtain ⟨S, hS⟩ : ∃ S, S = B T := ⟨_, rfl⟩
  rw [← hS]
  have HS := Aside0.mk hS
  have hsz0 : S.size = T.length := by rw [hS]; exact B_size T
  have HSZ := Aside0.mk hsz0
  have hl19 := Aside0.mk h.len
  have hl0 : 0 < T.length := by obtain ⟨c, hc, _⟩ := h.dig; exact List.length_pos_of_mem hc
  have z0 : decide ((S.size : Int) ≤ 0) = false := decide_eq_false (by omega)
  have z0' : 0 < S.size := by rw [hsz0]; exact hl0
  have z0i : (0 : Int) < (S.size : Int) := by omega
  have z0n : ¬ (S.size = 0) := by omega
  obtain ⟨c0, hc0⟩ : ∃ c, T[0]? = some c := ⟨_, List.getElem?_eq_getElem hl0⟩
  have hcm := h.ch c0 (List.mem_of_getElem? hc0)
  have hx0 := el_at T S hS 0 c0 hc0
  have n43 : ¬ ((c0.toNat : Int) = 43) := by rcases hcm with rfl | hcm <;> first | decide | omega
  have n45 : ¬ ((c0.toNat : Int) = 45) := by rcases hcm with rfl | hcm <;> first | decide | omega
  have q43 : ((c0.toNat : Int) == 43) = false := beq_eq_false_iff_ne.2 n43
  have q45 : ((c0.toNat : Int) == 45) = false := beq_eq_false_iff_ne.2 n45
  have HCM := Aside0.mk hcm
  have HL0 := Aside0.mk hl0
  have HC0 := Aside0.mk hc0
  clear h hcm hS hsz0 hl0 hc0
  go_enter Tryd.func65, Tryd.ntmps65
  go_wp2
  go_step3
  go_upto_region 12 with (fail)
  clear q43 q45 n43 n45 z0
  go_cut [54] (fun v54 wc => v54 = .bool false ∧ wc = w)
  case first =>
    by_cases h2 : 2 < T.length
    · have q2 : decide ((2 : Int) < (S.size : Int)) = true := by have := HSZ.out; simp; omega
      have q2' : decide (2 < S.size) = true := by have := HSZ.out; simp; omega
      obtain ⟨c1, hc1⟩ : ∃ c, T[1]? = some c := ⟨_, List.getElem?_eq_getElem (by omega)⟩
      have hx1 := el_at T S HS.out 1 c1 hc1
      have z1 : (1 : Int) < (S.size : Int) := by have := HSZ.out; omega
      have z1' : 1 < S.size := by have := HSZ.out; omega
      have hb : bits .or .u8 (c1.toNat : Int) 32 ≠ 120 := lower_not c1 (H.out.ch c1 (List.mem_of_getElem? hc1))
      have q120 : (bits .or .u8 (c1.toNat : Int) 32 == 120) = false := beq_eq_false_iff_ne.2 hb
      clear h2 hc1
      by_cases h48 : (c0.toNat : Int) = 48
      · have q48 : ((c0.toNat : Int) == 48) = true := beq_iff_eq.2 h48
        clear h48
        go_wp2_with (go_at_call 43; refine (Tryd.internal_strconv_lower _ _).mono ?_; rintro e w1 ⟨rfl, rfl⟩)
        go_meet
        case rel => exact ⟨by first | rfl | (simp; done) | (simp [*]; done), rfl⟩
      · have q48 : ((c0.toNat : Int) == 48) = false := beq_eq_false_iff_ne.2 h48
        clear h48
        go_wp2_with (go_at_call 43; refine (Tryd.internal_strconv_lower _ _).mono ?_; rintro e w1 ⟨rfl, rfl⟩)
        go_meet
        case rel => exact ⟨by first | rfl | (simp; done) | (simp [*]; done), rfl⟩
    · have q2 : decide ((2 : Int) < (S.size : Int)) = false := by have := HSZ.out; simp; omega
      have q2' : decide (2 < S.size) = false := by have := HSZ.out; simp; omega
      clear h2
      go_wp2
      go_meet
      case rel => exact ⟨by first | rfl | (simp; done) | (simp [*]; done), rfl⟩
  case rest =>
    obtain ⟨rfl, rfl⟩ := hcut
    go_upto_region 23 with (fail)
    go_step3
    go_wp2
    go_goals
    go_loopg [2, 5, 7, 9, 13, 14, 15, 16, 17] T.length (fun kq v2 v5 v7 v9 v13 v14 v15 v16 v17 wr => ∃ p r, Aside0 (T = p ++ r) ∧ Aside0 (kq = r.length) ∧ v2 = .int .u64 (rf p).m ∧ v5 = .bool false ∧ v7 = .int .i64 p.length ∧ v9 = .bool false ∧ v13 = .bool (rf p).dot ∧ v14 = .bool (rf p).dig ∧ v15 = .int .i64 (rf p).nd ∧ v16 = .int .i64 (rf p).nd ∧ v17 = .int .i64 (rf p).dp ∧ wr = wc)
    case atStart => exact ⟨[], T, ⟨rfl⟩, ⟨rfl⟩, rfl, rfl, rfl, rfl, rfl, rfl, rfl, rfl, rfl, rfl⟩
    case round =>
      obtain ⟨p, r, HT, HK, rfl, rfl, rfl, rfl, rfl, rfl, rfl, rfl, rfl, rfl⟩ := hrel
      obtain ⟨hb1, hb2, hb3, hb4⟩ := rf_bounds p (fun c hc => H.out.ch c (by rw [HT.out]; exact List.mem_append_left _ hc))
      cases r with
      | nil =>
        have hp : T = p := by rw [HT.out, List.append_nil]
        subst hp
        have hT1 := HSZ.out
        have z1 : ¬ ((T.length : Int) < (S.size : Int)) := by omega
        have q1 : decide ((T.length : Int) < (S.size : Int)) = false := decide_eq_false z1
        have q1' : decide (T.length < S.size) = false := decide_eq_false (by omega)
        have hdg := rf_dig T H.out.dig
        rw [hdg]
        have hd' : -(19 : Int) ≤ (rf T).dp ∧ (rf T).dp ≤ 19 ∧ (rf T).nd ≤ 19 := by have := hl19.out; omega
        have wd := wr64 ((rf T).dp - (rf T).nd) (by omega)
        have wn := wr64 (((rf T).nd : Int) - ((rf T).nd : Int)) (by omega)
        clear hT1 hb1 hb2 hb3 hb4 hd' hdg
        have WD := Aside0.mk wd
        have WN := Aside0.mk wn
        clear wd wn
        have key : ∀ e : Int, rfExp T = e → rfExp T = e := fun _ h => h
        by_cases hm : (rf T).m = 0
        · have qm : (((rf T).m : Int) != 0) = false := by rw [hm]; rfl
          have hE : rfExp T = 0 := by unfold rfExp; rw [if_pos hm]
          have HE := Aside0.mk hE
          clear hE hm key
          cases hdot : (rf T).dot
          · clear hdot
            go_wp2
            all_goals exact bodyPost_ret (results_tmp7 rfl _ _ _) rfl ⟨by rw [HE.out]; rfl, rfl⟩
          · clear hdot
            go_wp2
            all_goals exact bodyPost_ret (results_tmp7 rfl _ _ _) rfl ⟨by rw [HE.out]; rfl, rfl⟩
        · have qm : (((rf T).m : Int) != 0) = true := bne_iff_ne.2 (by omega)
          have hE : rfExp T = rfDp T - (rf T).nd := by unfold rfExp; rw [if_neg hm]
          cases hdot : (rf T).dot
          · have hE2 : rfExp T = wrap64 (((rf T).nd : Int) - ((rf T).nd : Int)) := by rw [WN.out, hE]; unfold rfDp; rw [hdot]; rfl
            have HE := Aside0.mk hE2
            clear hE hE2 hm key hdot
            go_wp2
            all_goals exact bodyPost_ret (results_tmp7 rfl _ _ _) rfl ⟨by rw [HE.out]; simp; exact (wr64 0 (by omega)).symm, rfl⟩
          · have hE2 : rfExp T = wrap64 ((rf T).dp - ((rf T).nd : Int)) := by rw [WD.out, hE]; unfold rfDp; rw [hdot]; rfl
            have HE := Aside0.mk hE2
            clear hE hE2 hm key hdot
            go_wp2
            all_goals exact bodyPost_ret (results_tmp7 rfl _ _ _) rfl ⟨by rw [HE.out]; rfl, rfl⟩
      | cons c r =>
        have hpl : p.length < T.length := by rw [HT.out]; simp
        have hT1 := HSZ.out
        have z1 : (p.length : Int) < (S.size : Int) := by omega
        have z1' : p.length < S.size := by omega
        have q1 : decide ((p.length : Int) < (S.size : Int)) = true := decide_eq_true z1
        have hg : T[p.length]? = some c := by rw [HT.out]; simp
        have hx := el_at T S HS.out p.length c hg
        have hcm := H.out.ch c (List.mem_of_getElem? hg)
        have n95 : ¬ ((c.toNat : Int) = 95) := by rcases hcm with rfl | hcm <;> first | decide | omega
        have q95 : ((c.toNat : Int) == 95) = false := beq_eq_false_iff_ne.2 n95
        have HCM := Aside0.mk hcm
        have HG := Aside0.mk hg
        clear hcm hg n95
        by_cases h46 : c = 46
        · have hd : (rf p).dot = false := rf_dot p (H.out.dots p r (by rw [HT.out, h46]))
          have q46 : ((c.toNat : Int) == 46) = true := by rw [h46]; rfl
          have H46 := Aside0.mk h46
          clear h46
          rw [hd]
          go_wp2
          go_goals
          go_roundg r.length
          case measure => have := HK.out; simp only [List.length_cons] at this; omega
          case rel =>
            have e := rf_snoc p c
            unfold stepR at e
            rw [if_pos H46.out] at e
            refine ⟨p ++ [c], r, ⟨by rw [HT.out]; simp⟩, ⟨rfl⟩, by rw [e], rfl, by rw [wr64 _ (by have := hl19.out; omega)]; simp, rfl, by rw [e], by rw [e], by rw [e], by rw [e], by rw [e], rfl⟩
        · have hr : 48 ≤ c.toNat ∧ c.toNat ≤ 57 := HCM.out.resolve_left h46
          have e := rf_snoc p c
          unfold stepR at e
          rw [if_neg h46] at e
          have q46 : ((c.toNat : Int) == 46) = false := beq_eq_false_iff_ne.2 (by omega)
          have qa : decide ((48 : Int) ≤ (c.toNat : Int)) = true := decide_eq_true (by omega)
          have qb : decide ((c.toNat : Int) ≤ (57 : Int)) = true := decide_eq_true (by omega)
          by_cases h0 : c = 48 ∧ (rf p).nd = 0
          · rw [if_pos h0] at e
            have E := Aside0.mk e
            have q48 : ((c.toNat : Int) == 48) = true := by rw [h0.1]; rfl
            have qn : (((rf p).nd : Int) == 0) = true := by rw [h0.2]; rfl
            clear e h0 h46 hr
            go_wp2
            go_goals
            go_roundg r.length
            case measure => have := HK.out; simp only [List.length_cons] at this; omega
            case rel =>
              have e := E.out
              refine ⟨p ++ [c], r, ⟨by rw [HT.out]; simp⟩, ⟨rfl⟩, by rw [e], rfl, by rw [wr64 _ (by have := hl19.out; omega)]; simp, rfl, by rw [e], by rw [e], by rw [e], by rw [e], by rw [e, wr64 _ (by have := hl19.out; omega)], rfl⟩
          · rw [if_neg h0] at e
            have E := Aside0.mk e
            have hlt : (rf p).nd < 19 := by have := hl19.out; omega
            have HR := Aside0.mk hr
            have HM : Aside0 ((rf p).m < 1000000000000000000) := ⟨Nat.lt_of_lt_of_le hb2 (by have : (10:Nat) ^ (rf p).nd ≤ 10 ^ 18 := Nat.pow_le_pow_right (by omega) (by omega); exact this)⟩
            have ql : decide (((rf p).nd : Int) < 19) = true := decide_eq_true (by omega)
            by_cases h48 : c = 48
            · have q48 : ((c.toNat : Int) == 48) = true := by rw [h48]; rfl
              have qn : (((rf p).nd : Int) == 0) = false := beq_eq_false_iff_ne.2 (by intro h; exact h0 ⟨h48, by omega⟩)
              clear e h0 h46 h48
              go_wp2
              go_goals
              go_roundg r.length
              case measure => have := HK.out; simp only [List.length_cons] at this; omega
              case rel =>
                have e := E.out
                have hr := HR.out
                have hm := HM.out
                refine ⟨p ++ [c], r, ⟨by rw [HT.out]; simp⟩, ⟨rfl⟩, by rw [e, u64w ((rf p).m * 10) (by omega), u64w _ (by omega)]; congr 1; dsimp only; omega, rfl, by rw [wr64 _ (by have := hl19.out; omega)]; simp, rfl, by rw [e], by rw [e], by rw [e]; rfl, by rw [e]; rfl, by rw [e], rfl⟩
            · have q48 : ((c.toNat : Int) == 48) = false := beq_eq_false_iff_ne.2 (by intro h; exact h48 (UInt8.toNat_inj.1 (by change c.toNat = 48; omega)))
              clear e h0 h46 h48
              go_wp2
              go_goals
              go_roundg r.length
              case measure => have := HK.out; simp only [List.length_cons] at this; omega
              case rel =>
                have e := E.out
                have hr := HR.out
                have hm := HM.out
                refine ⟨p ++ [c], r, ⟨by rw [HT.out]; simp⟩, ⟨rfl⟩, by rw [e, u64w ((rf p).m * 10) (by omega), u64w _ (by omega)]; congr 1; dsimp only; omega, rfl, by rw [wr64 _ (by have := hl19.out; omega)]; simp, rfl, by rw [e], by rw [e], by rw [e]; rfl, by rw [e]; rfl, by rw [e], rfl⟩
end Go.Proofs.YtabfehcpcjcomaaDoor.R
