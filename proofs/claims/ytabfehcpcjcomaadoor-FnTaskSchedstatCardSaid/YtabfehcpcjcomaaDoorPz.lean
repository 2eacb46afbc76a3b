/- The text of three numbers is read as these. Plain laws, no program. -/
import Derived.Test.YtabfehcpcjcomaaDoorPy
namespace Go.Proofs.YtabfehcpcjcomaaDoor.R
open Go.RowKit Go.Proofs.YtabfehcpcjcomaaDoor.QP1 Go.Proofs.YtabfehcpcjcomaaDoorW.PrintWords Go.Proofs.YtabfehcpcjcomaaDoorW.PrintLast Go.Proofs.YtabfehcpcjcomaaDoorW.PrintMore
set_option linter.unusedVariables false
set_option linter.unusedSimpArgs false
theorem pum_app (M : Nat) (r : List UInt8) : ∀ (l : List UInt8) (acc u : Nat), Lib.parseUintM M acc l = .ok u → Lib.parseUintM M acc (l ++ r) = Lib.parseUintM M u r
  | [], acc, u, h => by simp only [Lib.parseUintM] at h; cases h; rfl
  | c :: l, acc, u, h => by
    simp only [Lib.parseUintM, List.cons_append] at h ⊢
    split at h
    · rename_i h1
      rw [if_pos h1]
      split at h
      · cases h
      · rename_i h2
        rw [if_neg h2]
        split at h
        · cases h
        · rename_i h3
          rw [if_neg h3]
          exact pum_app M r l _ u h
    · cases h
theorem dg_nat (d : Nat) (h : d < 10) : (UInt8.ofNat (48 + d)).toNat = 48 + d := by
  rw [UInt8.toNat_ofNat']; omega
theorem pum_one (acc d : Nat) (hd : d < 10) (h : acc * 10 + d < 18446744073709551616) : Lib.parseUintM 18446744073709551615 acc [UInt8.ofNat (48 + d)] = .ok (acc * 10 + d) := by
  simp only [Lib.parseUintM, dg_nat d hd]
  rw [if_pos (by omega), if_neg (by omega), if_neg (by omega)]
  congr 1
  omega
theorem pum_dec (n : Nat) (hn : n < 18446744073709551616) : Lib.parseUintM 18446744073709551615 0 (Lib.decDigits n) = .ok n := by
  induction n using Nat.strongRecOn with
  | _ n ih =>
    rw [Lib.decDigits]
    by_cases h : n < 10
    · rw [dif_pos h, pum_one 0 n h (by omega)]
      congr 1; omega
    · rw [dif_neg h, pum_app _ _ _ _ _ (ih (n / 10) (by omega) (by omega)), pum_one _ _ (by omega) (by omega)]
      congr 1; omega
theorem dec_ne (n : Nat) : Lib.decDigits n ≠ [] := by
  rw [Lib.decDigits]
  split <;> simp
theorem dec_dig (n : Nat) : ∀ c ∈ Lib.decDigits n, 48 ≤ c.toNat ∧ c.toNat ≤ 57 := by
  induction n using Nat.strongRecOn with
  | _ n ih =>
    rw [Lib.decDigits]
    by_cases h : n < 10
    · rw [dif_pos h]
      intro c hc
      rw [List.mem_singleton.1 hc, dg_nat n h]
      omega
    · rw [dif_neg h]
      intro c hc
      rcases List.mem_append.1 hc with hc | hc
      · exact ih (n / 10) (by omega) c hc
      · rw [List.mem_singleton.1 hc, dg_nat _ (by omega)]
        omega
theorem pub_dec (n : Nat) (hn : n < 18446744073709551616) : Lib.parseUintB 64 (decB n).data.toList = .ok n := by
  show Lib.parseUintB 64 (Lib.decDigits n) = .ok n
  unfold Lib.parseUintB
  rw [if_neg (dec_ne n)]
  exact pum_dec n hn
theorem B_app (a b : Bs) : B a ++ B b = B (a ++ b) := by
  unfold B
  apply ByteArray.ext
  simp
theorem B_ext (P D R : Bs) (i j : Nat) (hi : i = P.length) (hj : j = P.length + D.length) : (B (P ++ (D ++ R))).extract i j = B D := by
  subst hi; subst hj
  unfold B
  apply ByteArray.ext
  simp [ByteArray.extract, ByteArray.copySlice]
theorem at_mid (P : Bs) (z : UInt8) (R : Bs) : bt (B (P ++ (z :: R))) (P.length : Int) = (z.toNat : Int) := at_B _ _ _ (by simp)
theorem scan (x1 : ByteArray) (x2 x7 x10 : Int) (x9 : List ByteArray) : ∀ (D P R : Bs) (k : Nat), (∀ c ∈ D, 48 ≤ c.toNat ∧ c.toNat ≤ 57) → (P ++ (D ++ R)).length < 1000 →
    procfs_zzNumbers.l2 (k + D.length) (B (P ++ (D ++ R))) x1 x2 x7 (P.length : Int) x9 x10 = procfs_zzNumbers.l2 k (B (P ++ (D ++ R))) x1 x2 x7 ((P ++ D).length : Int) x9 x10
  | [], P, R, k, _, _ => by simp
  | c :: D, P, R, k, hD, hl => by
    have hc := hD c (by simp)
    have hb : bt (B (P ++ (c :: D ++ R))) (P.length : Int) = (c.toNat : Int) := at_mid P c (D ++ R)
    have hs : (B (P ++ (c :: D ++ R))).size = (P ++ (c :: D ++ R)).length := B_size _
    rw [show k + (c :: D).length = (k + D.length) + 1 by simp; omega, procfs_zzNumbers.l2]
    rw [if_pos (by rw [hs]; simp; omega), if_pos (by omega), hb, if_pos (by omega), if_pos (by omega)]
    have hw : wrap64 ((P.length : Int) + 1) = ((P ++ [c]).length : Int) := by rw [wr64 _ (by simp at hl; omega)]; simp
    have e : P ++ (c :: D ++ R) = (P ++ [c]) ++ (D ++ R) := by simp
    rw [hw, e, scan x1 x2 x7 x10 x9 D (P ++ [c]) R k (fun d hd => hD d (by simp [hd])) (by rw [← e]; exact hl)]
    congr 1
    simp
theorem scan_end (x1 : ByteArray) (x2 x7 : Int) (x9 : List ByteArray) (D P R : Bs) (z : UInt8) (k : Nat) (hD : ∀ c ∈ D, 48 ≤ c.toNat ∧ c.toNat ≤ 57) (hne : D ≠ []) (hz : ¬ (48 ≤ z.toNat ∧ z.toNat ≤ 57)) (hl : (P ++ (D ++ z :: R)).length < 1000) (h9 : x9.length < 1000) :
    procfs_zzNumbers.l2 (k + 1 + D.length) (B (P ++ (D ++ z :: R))) x1 x2 x7 (P.length : Int) x9 (P.length : Int) = procfs_zzNumbers.l1 k (B (P ++ (D ++ z :: R))) x1 x2 x7 ((P ++ D).length : Int) (x9 ++ [B D]) := by
  rw [scan x1 x2 x7 _ x9 D P (z :: R) (k + 1) hD hl]
  have hd : 0 < D.length := List.length_pos_iff.2 hne
  have hb : bt (B (P ++ (D ++ z :: R))) ((P ++ D).length : Int) = (z.toNat : Int) := by
    have := at_mid (P ++ D) z R
    rw [List.append_assoc] at this
    exact this
  have hs : (B (P ++ (D ++ z :: R))).size = (P ++ (D ++ z :: R)).length := B_size _
  have hx : (B (P ++ (D ++ z :: R))).extract ((P.length : Int)).toNat (((P ++ D).length : Int)).toNat = B D := B_ext P D (z :: R) _ _ (by simp) (by simp; omega)
  have n1 : ((P ++ D).length : Int) < ((B (P ++ (D ++ z :: R))).size : Int) := by rw [hs]; simp; omega
  have n2 : ¬ (((P ++ D).length : Int) = (P.length : Int)) := by simp; omega
  have n3 : (0 : Int) ≤ ((P ++ D).length : Int) := by omega
  have n4 : (0 : Int) ≤ (P.length : Int) := by omega
  have n5 : (P.length : Int) ≤ ((P ++ D).length : Int) := by simp; omega
  have n6 : ((P ++ D).length : Int) ≤ ((B (P ++ (D ++ z :: R))).size : Int) := by omega
  have n7 : x9.length < 8796093022208 := by omega
  simp only [procfs_zzNumbers.l2]
  rw [if_pos n1, if_pos n3, hb]
  by_cases g1 : (z.toNat : Int) ≥ 48
  · have g2 : ¬ ((z.toNat : Int) ≤ 57) := by omega
    rw [if_pos g1, if_neg g2, if_neg n2, if_pos n4, if_pos n5, if_pos n6, if_pos n7, hx]
  · rw [if_neg g1, if_neg n2, if_pos n4, if_pos n5, if_pos n6, if_pos n7, hx]
/-- One blank between two numbers. -/
theorem step_mid (x1 : ByteArray) (x9 : List ByteArray) (P R : Bs) (k : Nat) (h2 : x9.length ≤ 3) (h1 : 1 < x9.length) (hl : (P ++ (32 :: R)).length < 1000) :
    procfs_zzNumbers.l1 (k + 2) (B (P ++ (32 :: R))) x1 3 0 (P.length : Int) x9 = procfs_zzNumbers.l2 k (B (P ++ (32 :: R))) x1 3 0 ((P ++ [32]).length : Int) x9 ((P ++ [32]).length : Int) := by
  have hs : (B (P ++ (32 :: R))).size = (P ++ (32 :: R)).length := B_size _
  have hb := at_mid P 32 R
  have hw : wrap64 ((P.length : Int) + 1) = ((P ++ [32]).length : Int) := by rw [wr64 _ (by simp at hl; omega)]; simp
  have n1 : (x9.length : Int) ≤ 3 := by omega
  have n2 : (x9.length : Int) > 1 := by omega
  have n3 : ¬ ((P.length : Int) = ((B (P ++ (32 :: R))).size : Int)) := by rw [hs]; simp; omega
  have n4 : (0 : Int) ≤ (P.length : Int) := by omega
  have n5 : (P.length : Int) < ((B (P ++ (32 :: R))).size : Int) := by rw [hs]; simp; omega
  simp only [procfs_zzNumbers.l1]
  rw [if_pos n1, if_pos n2, if_neg n3, if_pos n4, if_pos n5, hb, if_pos (by decide), hw]
  simp only [procfs_zzNumbers.j2]
theorem zz_three (da db dc : Bs) (ha : ∀ c ∈ da, 48 ≤ c.toNat ∧ c.toNat ≤ 57) (hb : ∀ c ∈ db, 48 ≤ c.toNat ∧ c.toNat ≤ 57) (hc : ∀ c ∈ dc, 48 ≤ c.toNat ∧ c.toNat ≤ 57) (na : da ≠ []) (nb : db ≠ []) (nc : dc ≠ []) (hl : (da ++ 32 :: (db ++ 32 :: (dc ++ [10]))).length < 1000) :
    ∃ k m, procfs_zzNumbers.f k (B (da ++ 32 :: (db ++ 32 :: (dc ++ [10])))) ⟨#[]⟩ 3 = some [m, B da, B db, B dc] := by
  obtain ⟨T, hT⟩ : ∃ T, T = da ++ 32 :: (db ++ 32 :: (dc ++ [10])) := ⟨_, rfl⟩
  have hs : (B T).size = T.length := B_size _
  have e1 : T = [] ++ (da ++ 32 :: (db ++ 32 :: (dc ++ [10]))) := hT
  have e1' : T = da ++ (32 :: (db ++ 32 :: (dc ++ [10]))) := hT
  have e2 : T = (da ++ [32]) ++ (db ++ 32 :: (dc ++ [10])) := by rw [hT]; simp
  have e2' : T = (da ++ [32] ++ db) ++ (32 :: (dc ++ [10])) := by rw [hT]; simp
  have e3 : T = (da ++ [32] ++ db ++ [32]) ++ (dc ++ 10 :: []) := by rw [hT]; simp
  have hlT : T.length < 1000 := by rw [hT]; exact hl
  have k1 := scan_end ⟨#[]⟩ 3 0 [⟨#[]⟩] da [] (db ++ 32 :: (dc ++ [10])) 32 (dc.length + 4 + 1 + db.length + 2) ha na (by decide) (by rw [← e1]; exact hlT) (by simp)
  have k2 := step_mid ⟨#[]⟩ [⟨#[]⟩, B da] da (db ++ 32 :: (dc ++ [10])) (dc.length + 4 + 1 + db.length) (by simp) (by simp) (by rw [← e1']; exact hlT)
  have k3 := scan_end ⟨#[]⟩ 3 0 [⟨#[]⟩, B da] db (da ++ [32]) (dc ++ [10]) 32 (dc.length + 4) hb nb (by decide) (by rw [← e2]; exact hlT) (by simp)
  have k4 := step_mid ⟨#[]⟩ [⟨#[]⟩, B da, B db] (da ++ [32] ++ db) (dc ++ [10]) (dc.length + 2) (by simp) (by simp) (by rw [← e2']; exact hlT)
  have k5 := scan_end ⟨#[]⟩ 3 0 [⟨#[]⟩, B da, B db] dc (da ++ [32] ++ db ++ [32]) [] 10 1 hc nc (by decide) (by rw [← e3]; exact hlT) (by simp)
  rw [← e1] at k1
  rw [← e1'] at k2
  rw [← e2] at k3
  rw [← e2'] at k4
  rw [← e3] at k5
  refine ⟨dc.length + 4 + 1 + db.length + 2 + 1 + da.length + 3, (B T).extract 0 (da ++ [32] ++ db ++ [32] ++ dc).length, ?_⟩
  rw [← hT]
  have w0 : wrap64 ((0 : Int) + ((⟨#[]⟩ : ByteArray).size : Int)) = 0 := wr64 0 (by omega)
  have x0 : ((B T).extract (0 : Int).toNat (0 : Int).toNat).toList = (⟨#[]⟩ : ByteArray).toList := by
    have : (B T).extract (0 : Int).toNat (0 : Int).toNat = ⟨#[]⟩ := B_ext [] [] T 0 0 rfl rfl
    rw [this]
  have n0 : (0 : Int) ≤ ((B T).size : Int) := by omega
  simp only [procfs_zzNumbers.f, procfs_zzNumbers.l0]
  rw [w0, if_pos n0, if_pos (Int.le_refl 0), if_pos (Int.le_refl 0), if_pos x0]
  rw [show dc.length + 4 + 1 + db.length + 2 + 1 + da.length + 2 = (dc.length + 4 + 1 + db.length + 2 + 1 + da.length + 1) + 1 from rfl]
  simp only [procfs_zzNumbers.l1]
  rw [if_pos (by decide), if_neg (by decide)]
  simp only [procfs_zzNumbers.j2]
  rw [show 1 + 1 + dc.length = dc.length + 2 by omega] at k5
  refine Eq.trans k1 (Eq.trans k2 (Eq.trans k3 (Eq.trans k4 (Eq.trans k5 ?_))))
  have hs2 : ((da ++ [32] ++ db ++ [32] ++ dc).length : Int) ≤ ((B T).size : Int) := by rw [hs, hT]; simp; omega
  simp only [procfs_zzNumbers.l1]
  rw [if_neg (by simp), if_pos (by simp), if_pos (Int.le_refl 0), if_pos (by omega), if_pos hs2, if_pos (by simp)]
  rfl
/-- The law's text. -/
theorem acc_text (a b c : Nat) : acc a b c 3 ++ ⟨#[10]⟩ = B (Lib.decDigits a ++ 32 :: (Lib.decDigits b ++ 32 :: (Lib.decDigits c ++ [10]))) := by
  have e0 : (⟨#[]⟩ : ByteArray) = B [] := rfl
  have e1 : (⟨#[32]⟩ : ByteArray) = B [32] := rfl
  have e2 : (⟨#[10]⟩ : ByteArray) = B [10] := rfl
  have ea : decB a = B (Lib.decDigits a) := rfl
  have eb : decB b = B (Lib.decDigits b) := rfl
  have ec : decB c = B (Lib.decDigits c) := rfl
  show (((((⟨#[]⟩ ++ decB a) ++ ⟨#[32]⟩) ++ decB b) ++ ⟨#[32]⟩) ++ decB c) ++ ⟨#[10]⟩ = _
  rw [e0, e1, e2, ea, eb, ec]
  simp only [B_app]
  congr 1
  simp
theorem three_ok (a b c : Nat) (ha : a < 18446744073709551616) (hb : b < 18446744073709551616) (hc : c < 18446744073709551616) : Three (acc a b c 3 ++ ⟨#[10]⟩) a b c := by
  have sa : (Lib.decDigits a).length ≤ 20 := decB_size a ha
  have sb : (Lib.decDigits b).length ≤ 20 := decB_size b hb
  have sc : (Lib.decDigits c).length ≤ 20 := decB_size c hc
  obtain ⟨k, m, h⟩ := zz_three (Lib.decDigits a) (Lib.decDigits b) (Lib.decDigits c) (dec_dig a) (dec_dig b) (dec_dig c) (dec_ne a) (dec_ne b) (dec_ne c) (by simp; omega)
  rw [acc_text]
  have z1 := decB_size a ha
  have z2 := decB_size b hb
  have z3 := decB_size c hc
  exact ⟨k, m, decB a, decB b, decB c, h, ⟨by omega, pub_dec a ha⟩, ⟨by omega, pub_dec b hb⟩, ⟨by omega, pub_dec c hc⟩⟩
/-- laws.FnTaskSchedstat: true at every input. -/
theorem law_true (a b c : Nat) (ha : a < 18446744073709551616) (hb : b < 18446744073709551616) (hc : c < 18446744073709551616) (w : World) (hT : TTabs w) :
    Calls Tryd.prog 3 #[.int .u64 a, .int .u64 b, .int .u64 c] w fun e w' => e = .returned (.bool true) ∧ Below w.heap.size w w' :=
  law_sched a b c ha hb hc (three_ok a b c ha hb hc) w hT
end Go.Proofs.YtabfehcpcjcomaaDoor.R
