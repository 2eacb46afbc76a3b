/- The texts Pf, CardFnUnitText, without what the claims do not use, laid together by a program of this session (wip/tools/bundle.py). Conditions: those of each theorem. -/
import Derived.Test.YtocdnceckljnaaaDoorYT1
namespace Go.Proofs.YtocdnceckljnaaaDoor.Pu
open Go.RowKit Go.Proofs.YtocdnceckljnaaaDoorW.PrintWords Go.Proofs.YtocdnceckljnaaaDoorW.PrintLast
open Go.Proofs.YtocdnceckljnaaaDoor.QV0
open Go.Proofs.YtocdnceckljnaaaDoor.U (Bs B B_data B_size Op3' keysF writeF accF secF linesF lineF)
set_option linter.unusedVariables false
set_option linter.unusedSimpArgs false
def Dn {α : Type} (F : Nat → Option α) : Prop := ∃ v, Ev F v
theorem Dn.ite {α : Type} {F : Nat → Option α} {c : Prop} [Decidable c] {X Y : Nat → Option α} (hF : ∀ k, F k = if c then X k else Y k) (hX : c → Dn X) (hY : ¬ c → Dn Y) : Dn F := by
  by_cases h : c
  · obtain ⟨v, hv⟩ := hX h
    exact ⟨v, Ev.same (fun k => by rw [hF k, if_pos h]) hv⟩
  · obtain ⟨v, hv⟩ := hY h
    exact ⟨v, Ev.same (fun k => by rw [hF k, if_neg h]) hv⟩
theorem Dn.some {α : Type} {F : Nat → Option α} (v : α) (h : ∀ k, F k = some v) : Dn F := ⟨v, Ev.of h⟩
theorem Dn.step {α : Type} {F G : Nat → Option α} (h : ∀ k, F (k + 1) = G k) (g : Dn G) : Dn F := by
  obtain ⟨v, hv⟩ := g
  exact ⟨v, Ev.step h hv⟩
theorem Dn.bind {α β : Type} {F : Nat → Option β} {A : Nat → Option α} {C : α → Nat → Option β} (hF : ∀ k, F k = (A k).bind fun t => C t k) (ha : Dn A) (hc : ∀ a, Dn (C a)) : Dn F := by
  obtain ⟨a, ha⟩ := ha
  obtain ⟨v, hv⟩ := hc a
  exact ⟨v, Ev.bind' hF ha hv⟩
theorem sectionName_dn (s : Bs) (hs : s.length ≤ 4611686018427387900) : ∀ (r pre : Bs), s = pre ++ r → Dn (fun k => spec_sectionName.l0 k (B s) ((B s).size : Int) (pre.length : Int))
  | [], pre, e => ⟨_, Ev.of1 fun k => by
    simp only [spec_sectionName.l0]
    rw [if_neg (by rw [B_size, e]; simp)]⟩
  | c :: r, pre, e => by
    have hlen : s.length = pre.length + (r.length + 1) := by rw [e]; simp
    have h1 : (pre.length : Int) < ((B s).size : Int) := by rw [B_size]; omega
    have ih := sectionName_dn s hs r (pre ++ [c]) (by rw [e]; simp)
    refine Dn.step (fun k => by simp only [spec_sectionName.l0]; rw [if_pos h1, if_pos (by omega), if_pos h1, wr_next _ (by omega), ← len_snoc pre c]) ?_
    exact Dn.ite (fun k => rfl) (fun _ => Dn.some _ fun k => rfl) fun _ => Dn.ite (fun k => rfl) (fun _ => Dn.some _ fun k => rfl) fun _ => Dn.ite (fun k => rfl) (fun _ => Dn.some _ fun k => rfl) fun _ => Dn.ite (fun k => rfl) (fun _ => Dn.some _ fun k => rfl) fun _ => ih
theorem optionName_dn (s : Bs) (hs : s.length ≤ 4611686018427387900) : ∀ (r pre : Bs), s = pre ++ r → Dn (fun k => spec_optionName.l0 k (B s) ((B s).size : Int) (pre.length : Int))
  | [], pre, e => by
    refine Dn.step (fun k => by simp only [spec_optionName.l0]; rw [if_neg (by rw [B_size, e]; simp)]) ?_
    refine Dn.ite (fun k => rfl) (fun _ => Dn.some _ fun k => rfl) fun h => ?_
    rw [B_toList] at h
    have hp : (0 : Int) < ((B s).size : Int) := by
      rw [B_size]
      have := List.length_pos_iff.2 h
      omega
    exact Dn.ite (fun k => rfl) (fun _ => Dn.ite (fun k => rfl) (fun _ => Dn.some _ fun k => rfl) fun _ => Dn.ite (fun k => rfl) (fun _ => Dn.some _ fun k => rfl) fun _ => Dn.some _ fun k => rfl) fun hn => absurd hp hn
  | c :: r, pre, e => by
    have hlen : s.length = pre.length + (r.length + 1) := by rw [e]; simp
    have h1 : (pre.length : Int) < ((B s).size : Int) := by rw [B_size]; omega
    have ih := optionName_dn s hs r (pre ++ [c]) (by rw [e]; simp)
    refine Dn.step (fun k => by simp only [spec_optionName.l0]; rw [if_pos h1, if_pos (by omega), if_pos h1, wr_next _ (by omega), ← len_snoc pre c]) ?_
    exact Dn.ite (fun k => rfl) (fun _ => Dn.some _ fun k => rfl) fun _ => Dn.ite (fun k => rfl) (fun _ => Dn.some _ fun k => rfl) fun _ => Dn.ite (fun k => rfl) (fun _ => Dn.some _ fun k => rfl) fun _ => Dn.ite (fun k => rfl) (fun _ => Dn.some _ fun k => rfl) fun _ => ih
theorem blank_dn (z : Int) : ∃ b, spec_blank.f z = some b := by
  unfold spec_blank.f
  split
  · exact ⟨_, rfl⟩
  · exact ⟨_, rfl⟩
theorem trim1_dn (s : Bs) : s.length ≤ 4611686018427387900 → Dn (fun k => spec_trimmed.l1 k (B s)) := by
  induction s using U.snoc_ind with
  | h0 =>
    intro _
    exact ⟨_, Ev.of1 fun k => by simp only [spec_trimmed.l1]; rw [if_pos (by rw [B_toList])]⟩
  | h1 l c ih =>
    intro hl
    rw [List.length_append, List.length_singleton] at hl
    have e1 : ¬ ((B (l ++ [c])).toList = ([] : List UInt8)) := by rw [B_toList]; simp
    have hw : wrap64 (((B (l ++ [c])).size : Int) - 1) = (l.length : Int) := by
      rw [B_size, List.length_append, List.length_singleton, wr_pred _ (by omega) (by omega)]
      simp
    have h1 : (l.length : Int) < ((B (l ++ [c])).size : Int) := by rw [B_size]; simp; omega
    obtain ⟨b, hb⟩ := blank_dn (bt (B (l ++ [c])) (l.length : Int))
    refine Dn.step (fun k => by simp only [spec_trimmed.l1]; rw [if_neg e1, hw, if_pos (by omega), if_pos h1, hb, Option.bind_some, if_pos (show (l.length : Int) ≤ ((B (l ++ [c])).size : Int) by omega), B_extract]) ?_
    refine Dn.ite (fun k => rfl) (fun _ => ?_) fun _ => Dn.some _ fun k => rfl
    have : ((l ++ [c]).drop 0).take ((l.length : Int).toNat - 0) = l := by simp
    rw [this]
    exact ih (by omega)
theorem trim0_dn (s : Bs) : s.length ≤ 4611686018427387900 → Dn (fun k => spec_trimmed.l0 k (B s)) := by
  intro hs
  have j : Dn (fun k => spec_trimmed.j1 k (B s)) := Dn.step (fun k => by simp only [spec_trimmed.j1]) (trim1_dn s hs)
  induction s with
  | nil => exact Dn.step (fun k => by simp only [spec_trimmed.l0]; rw [if_pos (by rw [B_toList])]) j
  | cons c t ih =>
    have hpos : (0 : Int) < ((B (c :: t)).size : Int) := by rw [B_size, List.length_cons]; omega
    obtain ⟨b, hb⟩ := blank_dn (bt (B (c :: t)) 0)
    rw [List.length_cons] at hs
    have j2 : Dn (fun k => spec_trimmed.j1 k (B t)) := Dn.step (fun k => by simp only [spec_trimmed.j1]) (trim1_dn t (by omega))
    have ht := ih (by omega) j2
    refine Dn.step (fun k => by simp only [spec_trimmed.l0]; rw [if_neg (by rw [B_toList]; simp), if_pos hpos, hb, Option.bind_some, if_pos (show (1 : Int) ≤ ((B (c :: t)).size : Int) by omega), B_extract]) ?_
    refine Dn.ite (fun k => rfl) (fun _ => ?_) fun _ => j
    have : ((c :: t).drop 1).take ((B (c :: t)).size - 1) = t := by rw [B_size]; simp
    rw [this]
    exact ht
theorem optionValue_dn (s : Bs) (hs : s.length ≤ 4611686018427387900) : ∀ (r pre : Bs), s = pre ++ r → Dn (fun k => spec_optionValue.l0 k (B s) ((B s).size : Int) (pre.length : Int))
  | [], pre, e => by
    refine Dn.step (fun k => by simp only [spec_optionValue.l0]; rw [if_neg (by rw [B_size, e]; simp)]) ?_
    refine Dn.bind (fun k => rfl) (trim0_dn s hs) fun t => ?_
    refine Dn.ite (fun k => rfl) (fun _ => ?_) fun _ => Dn.some _ fun k => rfl
    refine Dn.ite (fun k => rfl) (fun _ => Dn.some _ fun k => rfl) fun h => ?_
    rw [B_toList] at h
    have hp := List.length_pos_iff.2 h
    have hw : wrap64 (((B s).size : Int) - 1) = ((s.length - 1 : Nat) : Int) := by rw [B_size]; exact wr_pred _ hp (by omega)
    rw [hw]
    exact Dn.ite (fun k => rfl) (fun _ => Dn.ite (fun k => rfl) (fun _ => Dn.some _ fun k => rfl) fun hn => absurd (show ((s.length - 1 : Nat) : Int) < ((B s).size : Int) by rw [B_size]; omega) hn) fun hn => absurd (show (0 : Int) ≤ ((s.length - 1 : Nat) : Int) by omega) hn
  | c :: r, pre, e => by
    have hlen : s.length = pre.length + (r.length + 1) := by rw [e]; simp
    have h1 : (pre.length : Int) < ((B s).size : Int) := by rw [B_size]; omega
    have ih := optionValue_dn s hs r (pre ++ [c]) (by rw [e]; simp)
    refine Dn.step (fun k => by simp only [spec_optionValue.l0]; rw [if_pos h1, if_pos (by omega), if_pos h1, wr_next _ (by omega), ← len_snoc pre c]) ?_
    exact Dn.ite (fun k => rfl) (fun _ => Dn.ite (fun k => rfl) (fun _ => Dn.ite (fun k => rfl) (fun _ => Dn.some _ fun k => rfl) fun _ => ih) fun _ => Dn.some _ fun k => rfl) fun _ => Dn.ite (fun k => rfl) (fun _ => Dn.some _ fun k => rfl) fun _ => ih
def of73 (o : Op3') : S73 := ⟨B o.1, B o.2.1, B o.2.2⟩
theorem rd73 (l : List Op3') (pre : List Op3') (x : Op3') (r : List Op3') (h : l = pre ++ x :: r) : rd_T73 (l.map of73) (pre.length : Int) = of73 x := by
  unfold rd_T73
  rw [h]
  simp [List.getD_eq_getElem?_getD]
theorem writable_dn (L : List Op3') (hL : L.length ≤ 200) (hP : ∀ o ∈ L, Plain o) : ∀ (r pre : List Op3'), L = pre ++ r → Dn (fun k => spec_Writable.l0 k (L.map of73) (L.map of73) ((L.map of73).length : Int) (pre.length : Int))
  | [], pre, e => ⟨_, Ev.of1 fun k => by
    simp only [spec_Writable.l0]
    rw [if_neg (by rw [List.length_map, e]; simp)]⟩
  | o :: r, pre, e => by
    have hlen : L.length = pre.length + (r.length + 1) := by rw [e]; simp
    have h1 : (pre.length : Int) < ((L.map of73).length : Int) := by rw [List.length_map]; omega
    have hrd := rd73 L pre o r e
    have ho := hP o (by rw [e]; simp)
    have l1 := ho.s.len
    have l2 := ho.n.len
    have l3 := ho.v.len
    have ih := writable_dn L hL hP r (pre ++ [o]) (by rw [e]; simp)
    rw [snoc_len] at ih
    refine Dn.step (fun k => by simp only [spec_Writable.l0]; rw [if_pos h1, if_pos (by omega), if_pos h1, hrd, wr_next _ (by omega)]) ?_
    refine Dn.bind (fun k => rfl) (sectionName_dn o.1 (by omega) o.1 [] rfl) fun b1 => Dn.ite (fun k => rfl) (fun _ => ?_) fun _ => Dn.some _ fun k => rfl
    refine Dn.bind (fun k => rfl) (optionName_dn o.2.1 (by omega) o.2.1 [] rfl) fun b2 => Dn.ite (fun k => rfl) (fun _ => ?_) fun _ => Dn.some _ fun k => rfl
    refine Dn.bind (fun k => rfl) (optionValue_dn o.2.2 (by omega) o.2.2 [] rfl) fun b3 => Dn.ite (fun k => rfl) (fun _ => ?_) fun _ => Dn.some _ fun k => rfl
    exact Dn.ite (fun k => rfl) (fun _ => Dn.some _ fun k => rfl) fun _ => ih
def ent72 (o : Op3') : S72 := ⟨B o.2.1, B o.2.2⟩
def sec70 (L : List Op3') (s : Bs) : S70 := ⟨B s, (ofS L s).map ent72⟩
def secs70 (L : List Op3') : List S70 := (keysF L).map (sec70 L)
theorem ofS_snoc (L : List Op3') (o : Op3') (s : Bs) : ofS (L ++ [o]) s = ofS L s ++ if o.1 = s then [o] else [] := by
  unfold ofS
  rw [List.filter_append]
  congr 1
  by_cases h : o.1 = s
  · rw [if_pos h]; simp [h]
  · rw [if_neg h]; simp [h]
theorem ofS_none (L : List Op3') (s : Bs) (h : s ∉ keysF L) : ofS L s = [] := by
  unfold ofS
  rw [List.filter_eq_nil_iff]
  intro y hy
  simp only [decide_eq_true_eq]
  rintro rfl
  exact h ((U.mem_keysF L _).2 (List.mem_map.2 ⟨y, hy, rfl⟩))
theorem secs_new (L : List Op3') (o : Op3') (h : o.1 ∉ keysF L) : secs70 (L ++ [o]) = secs70 L ++ [⟨B o.1, [ent72 o]⟩] := by
  unfold secs70
  rw [U.keysF_snoc]
  unfold U.addKey
  rw [if_neg h, List.map_append]
  congr 1
  · refine List.map_congr_left fun s hs => ?_
    unfold sec70
    rw [ofS_snoc, if_neg (by rintro rfl; exact h hs), List.append_nil]
  · simp only [List.map_cons, List.map_nil]
    unfold sec70
    rw [ofS_snoc, if_pos rfl, ofS_none L o.1 h]
    rfl
theorem secs_old (L : List Op3') (o : Op3') (i : Nat) (hi : i < (keysF L).length) (h : (keysF L)[i] = o.1) : secs70 (L ++ [o]) = (secs70 L).set i ⟨B o.1, (ofS L o.1).map ent72 ++ [ent72 o]⟩ := by
  have hin : o.1 ∈ keysF L := h ▸ List.getElem_mem hi
  have hk : keysF (L ++ [o]) = keysF L := by rw [U.keysF_snoc]; unfold U.addKey; rw [if_pos hin]
  unfold secs70
  rw [hk]
  apply List.ext_getElem?
  intro j
  rw [List.getElem?_set, List.getElem?_map, List.getElem?_map]
  by_cases hj : i = j
  · subst hj
    rw [if_pos rfl, List.length_map, if_pos hi, List.getElem?_eq_getElem hi, h]
    simp only [Option.map_some]
    unfold sec70
    rw [ofS_snoc, if_pos rfl, List.map_append]
    rfl
  · rw [if_neg hj]
    cases hq : (keysF L)[j]? with
    | none => rfl
    | some s =>
      simp only [Option.map_some]
      unfold sec70
      have hne : ¬ o.1 = s := by
        intro e
        obtain ⟨hj2, hq2⟩ := List.getElem?_eq_some_iff.1 hq
        have := (List.getElem_inj (h₀ := hi) (h₁ := hj2) (keysF_nodup L)).1 (by rw [h, hq2, e])
        exact hj this
      rw [ofS_snoc, if_neg hne, List.append_nil]
theorem rd70 (L : List Op3') (ks pre : List Bs) (x : Bs) (r : List Bs) (h : ks = pre ++ x :: r) : rd_T70 (ks.map (sec70 L)) (pre.length : Int) = sec70 L x := by
  unfold rd_T70
  rw [h]
  simp [List.getD_eq_getElem?_getD]
section
variable (L : List Op3') (hL : L.length ≤ 200)
include hL
theorem s1_ev (pre : List Op3') (o : Op3') (r0 : List Op3') (e0 : L = pre ++ o :: r0) (v : List S70)
    (h : Ev (fun k => spec_Sections.l0 k (secs70 (pre ++ [o])) (L.map of73) ((L.map of73).length : Int) ((pre ++ [o]).length : Nat)) v) : ∀ (r p : List Bs) (at_ : Int), keysF pre = p ++ r → ((at_ = -1 ∧ o.1 ∉ p) ∨ ∃ i : Nat, ∃ hi : i < p.length, at_ = (i : Int) ∧ p[i] = o.1) →
    Ev (fun k => spec_Sections.l1 k (secs70 pre) at_ (L.map of73) ((L.map of73).length : Int) (pre.length : Int) ((secs70 pre).length : Int) (p.length : Int) (B o.1) (B o.2.1) (B o.2.2)) v
  | [], p, at_, e, hat => by
    rw [List.append_nil] at e
    have hlen : L.length = pre.length + (r0.length + 1) := by rw [e0]; simp
    have hkl := U.keysF_len pre
    have hsl : (secs70 pre).length = (keysF pre).length := by unfold secs70; rw [List.length_map]
    rw [snoc_len] at h
    have hent : ∀ s, ((ofS pre s).map ent72).length ≤ 200 := fun s => by
      have := ofS_len pre s
      rw [List.length_map]
      omega
    rcases hat with ⟨rfl, hn⟩ | ⟨i, hi, rfl, hp⟩
    · have hn2 : o.1 ∉ keysF pre := by rw [e]; exact hn
      have hy : wrap64 (((secs70 pre ++ [(⟨B o.1, ([] : List S72)⟩ : S70)]).length : Int) - 1) = ((secs70 pre).length : Int) := by
        rw [List.length_append, List.length_singleton, wr_pred _ (by omega) (by omega)]
        simp
      have hrd : rd_T70 (secs70 pre ++ [(⟨B o.1, ([] : List S72)⟩ : S70)]) ((secs70 pre).length : Int) = ⟨B o.1, []⟩ := by
        unfold rd_T70
        simp [List.getD_eq_getElem?_getD]
      have hset : (secs70 pre ++ [(⟨B o.1, ([] : List S72)⟩ : S70)]).set (secs70 pre).length ⟨B o.1, [] ++ [(⟨B o.2.1, B o.2.2⟩ : S72)]⟩ = secs70 (pre ++ [o]) := by
        rw [secs_new pre o hn2]
        simp [ent72]
      refine Ev.step (fun k => ?_) h
      simp only [spec_Sections.l1]
      rw [if_neg (by rw [hsl, e]; omega), if_pos (by decide), if_pos (by omega), Option.bind_some, hy, if_pos (by omega), if_pos (by rw [List.length_append, List.length_singleton]; omega), hrd, if_pos (by simp), Int.toNat_natCast, hset, wr_next _ (by omega)]
    · have hik : i < (keysF pre).length := by rw [e]; exact hi
      have hp2 : (keysF pre)[i] = o.1 := by
        have : (keysF pre)[i]? = p[i]? := by rw [e]
        rw [List.getElem?_eq_getElem hik, List.getElem?_eq_getElem hi] at this
        rw [Option.some.inj this, hp]
      have hrd : rd_T70 (secs70 pre) (i : Int) = sec70 pre o.1 := by
        unfold rd_T70 secs70
        rw [Int.toNat_natCast, List.getD_eq_getElem?_getD, List.getElem?_map, List.getElem?_eq_getElem hik, hp2]
        rfl
      refine Ev.step (fun k => ?_) h
      simp only [spec_Sections.l1]
      rw [if_neg (by rw [hsl, e]; omega), if_neg (by omega), if_pos (by omega), if_pos (by omega), hrd, if_pos (by have := hent o.1; unfold sec70; dsimp only; omega), Int.toNat_natCast, wr_next _ (by omega)]
      rw [secs_old pre o i hik hp2]
      rfl
  | s :: r, p, at_, e, hat => by
    have hlen : L.length = pre.length + (r0.length + 1) := by rw [e0]; simp
    have hkl := U.keysF_len pre
    have hsl : (secs70 pre).length = (keysF pre).length := by unfold secs70; rw [List.length_map]
    have hks : (keysF pre).length = p.length + (r.length + 1) := by rw [e]; simp
    have hrd := rd70 pre (keysF pre) p s r e
    have h1 : (p.length : Int) < ((secs70 pre).length : Int) := by omega
    have hw : wrap64 ((p.length : Int) + 1) = (((p ++ [s]).length : Nat) : Int) := by rw [wr_next _ (by omega), snoc_len]
    by_cases hs : s = o.1
    · have ih := s1_ev pre o r0 e0 v h r (p ++ [s]) (p.length : Int) (by rw [e]; simp) (.inr ⟨p.length, by simp, rfl, by simp [hs]⟩)
      refine Ev.step (fun k => ?_) ih
      simp only [spec_Sections.l1]
      rw [if_pos h1, if_pos (by omega), if_pos h1]
      show (if (rd_T70 (secs70 pre) (p.length : Int)).f0.toList = (B o.1).toList then _ else _) = _
      unfold secs70 at *
      rw [hrd, if_pos (by unfold sec70; dsimp only; rw [hs]), hw]
    · have ih := s1_ev pre o r0 e0 v h r (p ++ [s]) at_ (by rw [e]; simp) (by
        rcases hat with ⟨h1, h2⟩ | ⟨i, hi, h1, h2⟩
        · exact .inl ⟨h1, by simp [h2]; exact fun e => hs e.symm⟩
        · exact .inr ⟨i, by simp; omega, h1, by rw [List.getElem_append_left hi]; exact h2⟩)
      refine Ev.step (fun k => ?_) ih
      simp only [spec_Sections.l1]
      rw [if_pos h1, if_pos (by omega), if_pos h1]
      unfold secs70 at *
      rw [hrd, if_neg (by unfold sec70; dsimp only; rw [B_toList, B_toList]; exact hs), hw]
theorem s0_ev : ∀ (r pre : List Op3'), L = pre ++ r → Ev (fun k => spec_Sections.l0 k (secs70 pre) (L.map of73) ((L.map of73).length : Int) (pre.length : Int)) (secs70 L)
  | [], pre, e => by
    rw [List.append_nil] at e
    subst e
    refine Ev.of1 fun k => ?_
    simp only [spec_Sections.l0]
    rw [if_neg (by simp)]
  | o :: r, pre, e => by
    have hlen : L.length = pre.length + (r.length + 1) := by rw [e]; simp
    have h1 : (pre.length : Int) < ((L.map of73).length : Int) := by rw [List.length_map]; omega
    have hrd := rd73 L pre o r e
    have ih := s0_ev r (pre ++ [o]) (by rw [e]; simp)
    have := s1_ev L hL pre o r e (secs70 L) ih (keysF pre) [] (-1) rfl (.inl ⟨rfl, by simp⟩)
    refine Ev.step (fun k => ?_) this
    simp only [spec_Sections.l0]
    rw [if_pos h1, if_pos (by omega), if_pos h1, hrd]
    rfl
theorem sections_ev : Ev (fun k => spec_Sections.f k (L.map of73)) (secs70 L) := s0_ev L hL L [] rfl
theorem toSpec_ev : ∀ (r pre : List Op3'), L = pre ++ r → Ev (fun k => laws_toSpec.l0 k (pre.map of73) (L.map ofOp) ((L.map ofOp).length : Int) (pre.length : Int)) (L.map of73)
  | [], pre, e => by
    rw [List.append_nil] at e
    subst e
    refine Ev.of1 fun k => ?_
    simp only [laws_toSpec.l0]
    rw [if_neg (by simp)]
  | o :: r, pre, e => by
    have hlen : L.length = pre.length + (r.length + 1) := by rw [e]; simp
    have h1 : (pre.length : Int) < ((L.map ofOp).length : Int) := by rw [List.length_map]; omega
    have hrd := rd29 L pre o r e
    refine Ev.step (fun k => ?_) (toSpec_ev r (pre ++ [o]) (by rw [e]; simp))
    simp only [laws_toSpec.l0]
    rw [if_pos h1, if_pos (by omega), if_pos h1, if_pos (by rw [List.length_map]; omega), hrd, wr_next _ (by omega), snoc_len, List.map_append]
    rfl
end
theorem ents_lines (l : List Op3') : pEnts (l.map ent72) = linesF l := by
  induction l with
  | nil => rfl
  | cons o l ih =>
    unfold pEnts linesF at ih ⊢
    rw [List.map_cons, List.flatMap_cons, List.flatMap_cons, ih]
    congr 1
theorem part_sec (L : List Op3') (i : Nat) (hi : i < (keysF L).length) : pPart (secs70 L) i = (if 0 < i then [10] else []) ++ secF L ((keysF L).getD i []) := by
  have hg : (secs70 L).getD i z70 = sec70 L ((keysF L).getD i []) := by
    unfold secs70
    rw [List.getD_eq_getElem?_getD, List.getD_eq_getElem?_getD, List.getElem?_map, List.getElem?_eq_getElem hi]
    rfl
  unfold pPart
  rw [hg]
  congr 1
  unfold pHead sec70 secF
  dsimp only
  rw [ents_lines, B_data]
  unfold ofS
  simp only [List.append_assoc, List.cons_append, List.nil_append]
theorem pTo_acc (L : List Op3') (j : Nat) (hj : j ≤ (keysF L).length) : pTo (secs70 L) j ++ (if 0 < j ∧ j < (keysF L).length then [10] else []) = accF L (keysF L) j := by
  induction j with
  | zero => simp [pTo, accF]
  | succ j ih =>
    rw [pTo_succ, U.accF_succ, ← ih (by omega), part_sec L j (by omega)]
    have e1 : (if 0 < j ∧ j < (keysF L).length then ([10] : Bs) else []) = if 0 < j then [10] else [] := by
      by_cases h0 : 0 < j
      · rw [if_pos h0, if_pos ⟨h0, by omega⟩]
      · rw [if_neg h0, if_neg (fun h => h0 h.1)]
    have e2 : (if 0 < j + 1 ∧ j + 1 < (keysF L).length then ([10] : Bs) else []) = if j + 1 < (keysF L).length then [10] else [] := by
      by_cases h0 : j + 1 < (keysF L).length
      · rw [if_pos h0, if_pos ⟨by omega, h0⟩]
      · rw [if_neg h0, if_neg (fun h => h0 h.2)]
    rw [e1, e2]
    simp only [List.append_assoc]
theorem pTo_write (L : List Op3') : pTo (secs70 L) (secs70 L).length = writeF L := by
  have h := pTo_acc L _ (Nat.le_refl _)
  rw [if_neg (fun h => Nat.lt_irrefl _ h.2), List.append_nil] at h
  unfold writeF
  rw [← h]
  unfold secs70
  rw [List.length_map]
theorem short_of (L : List Op3') (hL : L.length ≤ 200) (hP : ∀ o ∈ L, Plain o) : pShort (secs70 L) = true := by
  unfold pShort
  have hk := U.keysF_len L
  simp only [Bool.and_eq_true, decide_eq_true_eq, List.all_eq_true]
  refine ⟨by unfold secs70; rw [List.length_map]; omega, fun s hs => ?_⟩
  obtain ⟨x, hx, rfl⟩ := List.mem_map.1 hs
  obtain ⟨o, ho, rfl⟩ := List.mem_map.1 ((U.mem_keysF _ _).1 hx)
  have hp := (hP o ho).s.len
  have hl := ofS_len L o.1
  unfold sec70
  dsimp only
  refine ⟨by rw [B_size]; omega, by rw [List.length_map]; omega, fun e he => ?_⟩
  obtain ⟨y, hy, rfl⟩ := List.mem_map.1 he
  have hq := hP y (List.mem_filter.1 hy).1
  have h1 := hq.n.len
  have h2 := hq.v.len
  unfold ent72
  exact ⟨by rw [B_size]; omega, by rw [B_size]; omega⟩
theorem print_ev (L : List Op3') (hL : L.length ≤ 200) (hP : ∀ o ∈ L, Plain o) : ∃ r : ByteArray × Int, Ev (fun k => spec_UnitPrint.f k (L.map of73)) r ∧ (r.2 = 1 → r.1 = B (writeF L)) := by
  obtain ⟨b, hb⟩ := writable_dn L hL hP L [] rfl
  have hb' : Ev (fun k => spec_Writable.f k (L.map of73)) b := hb
  cases b with
  | false => exact ⟨(⟨#[]⟩, 2), Ev.bind' (fun k => by unfold spec_UnitPrint.f; rfl) hb' (Ev.of fun k => by rw [if_neg (by simp)]), fun h => by simp at h⟩
  | true =>
    refine ⟨(B (writeF L), 1), Ev.bind' (fun k => by unfold spec_UnitPrint.f; rfl) hb' (Ev.same (fun k => by rw [if_pos rfl]) (Ev.bind (sections_ev L hL) (Ev.of fun k => by rw [if_pos (short_of L hL hP), pTo_write]))), fun _ => rfl⟩
theorem text_f (L : List Op3') : Ev (fun k => laws_FnUnitText.f k (L.map ofOp)) true := by
  obtain ⟨b7, h7, hf7⟩ := fits7_f L
  refine Ev.bind' (fun k => by unfold laws_FnUnitText.f; rfl) h7 ?_
  cases b7 with
  | false => exact Ev.of fun k => by rw [if_neg (by simp)]
  | true =>
    obtain ⟨hl, hfit⟩ := hf7 rfl
    obtain ⟨bp, hp, hpl⟩ := plains_f L hl hfit
    refine Ev.same (fun k => by rw [if_pos rfl]) (Ev.bind hp ?_)
    cases bp with
    | false => exact Ev.of fun k => by rw [if_neg (by simp)]
    | true =>
      obtain ⟨hL, hP⟩ := hpl rfl
      have ht : Ev (fun k => laws_toSpec.f k (L.map ofOp)) (L.map of73) := toSpec_ev L hL L [] rfl
      refine Ev.same (fun k => by rw [if_pos rfl]) (Ev.bind ht ?_)
      obtain ⟨r, hr, hr1⟩ := print_ev L hL hP
      refine Ev.bind hr ?_
      by_cases h1 : r.2 = 1
      · refine Ev.of fun k => ?_
        rw [if_pos h1, write_f L hL hP, Option.bind_some, ← write_text, hr1 h1, if_pos rfl]
        rfl
      · refine Ev.of fun k => ?_
        rw [if_neg h1]
        rfl
end Go.Proofs.YtocdnceckljnaaaDoor.Pu
namespace Go.Proofs.YtocdnceckljnaaaDoor.fnUnitText
open Go.ChangeShapes Go.WideShapes Go.ChangeAt Go.RowKit
open Go.Proofs.YtocdnceckljnaaaDoorW.PrintWords Go.Proofs.YtocdnceckljnaaaDoor.QV0 Go.Proofs.YtocdnceckljnaaaDoor.UCk
open Go.Proofs.YtocdnceckljnaaaDoor.U (Bs B Op3')
set_option linter.unusedVariables false
set_option linter.unusedSimpArgs false
theorem laid_met (os : Os) (args : Array Value) : laidMet Tryd.prog Rows.fnUnitTextRow.laid ((laidWorld os).forCall (fun _ _ => 0) ⟨#[], args, []⟩).memory :=
  (LaidIn.of_run [4, 6, N0, N0 + 1, 5, 8, 3] 8 (by kernel_rfl) (by kernel_rfl) (by kernel_rfl) (by kernel_rfl)).met
theorem witness_row (os : Os) {H : Type} (enc : TypeId × Value → H) :
    (OpenSpec.ofChange Rows.fnUnitTextSpec).preRow enc Tryd.prog Tryd.f6 Rows.fnUnitTextRow.domain false Rows.fnUnitTextRow.laid ((laidWorld os).forCall (fun _ _ => 0) ⟨#[], #[.slice none 0 0], []⟩).memory #[.slice none 0 0] := by
  have hw : (DataW.whole enc Tryd.prog ((laidWorld os).forCall (fun _ _ => 0) ⟨#[], #[.slice none 0 0], []⟩).memory Tryd.f6.params.toList Rows.fnUnitTextSpec.vars false (#[.slice none 0 0] : Array Value).toList 8).map (fun x => (x.1, x.2.1)) =
      some ([.nil], []) := by kernel_rfl
  obtain ⟨⟨x1, x2, x3⟩, hx, hx1⟩ := Option.map_eq_some_iff.1 hw
  simp only [Prod.mk.injEq] at hx1
  obtain ⟨rfl, rfl⟩ := hx1
  exact OpenSpec.preRow_of_cond 8 hx (by kernel_rfl) (fun k hk => by cases hk) (by kernel_rfl) (laid_met os _)
set_option maxRecDepth 100000 in
theorem lifted (os : Os) (started : os.Started) (H : Type) (enc : TypeId × Value → H) (F : Stop.Interp) :
    ReturnsInHanded {} Tryd.checked os 6 .any ((OpenSpec.ofChange Rows.fnUnitTextSpec).preRow enc Tryd.prog Tryd.f6 Rows.fnUnitTextRow.domain false Rows.fnUnitTextRow.laid) (((OpenSpec.ofChange Rows.fnUnitTextSpec).at F).post enc Tryd.prog Tryd.f6 false true false false) := by
  refine returnsInHanded_of_row (C := Tryd.checked) (s := OpenSpec.ofChange Rows.fnUnitTextSpec) own started (by kernel_rfl) Tryd.func6
    (witness_row_atRef (enc := enc) (C := Tryd.checked) false (laidWorld os) #[.slice none 0 0] rfl (by kernel_rfl) (by kernel_rfl) (by kernel_rfl) (witness_row os enc)) ?_
  intro W base args ds gs before hval0 hW hcnd _ hsz0 hL hsh _
  have hsz : (DataW.weightsEach Tryd.prog (Tryd.f6.params.toList ++ (OpenSpec.ofChange Rows.fnUnitTextSpec).bare.plain.varTypes Tryd.prog) (ds ++ gs)).all (· ≤ reachBytes) = true := hsz0
  have hval : ∀ (j : Nat) t v, Tryd.f6.params[j]? = some t → args[j]? = some v → Value.okWide Tryd.prog W .any base t v := hval0
  have hW' := hW
  obtain ⟨p, q, hA0, hV, rfl, hfz, hnd⟩ := hW
  have hA : DataW.TrodAll enc Tryd.prog W 0 (fun _ => true) true Tryd.f6.params.toList args.toList ds p := hA0
  rw [Tryd.params6] at hA hval hsz
  obtain ⟨v0, vs0, d0, ds0, p0, q0, hargs, rfl, rfl, h0, r0⟩ := trodAll_cons hA
  obtain ⟨rfl, rfl, rfl⟩ := trodAll_nil r0
  obtain rfl : args = #[v0] := by cases args; simp_all
  obtain ⟨rfl, rfl⟩ := trodVars_none hV
  obtain ⟨a0, len0, cap0, rfl⟩ := okWide_slice Tryd.underlying32 (hval 0 32 v0 rfl rfl)
  have k0 := h0
  have lt0 : ∀ x ∈ p0, x.block < W.heap.size := by obtain ⟨m, hm⟩ := k0; exact DataW.trod_lt m _ _ _ hm
  obtain ⟨l0, hlen0, hcap0, hC0⟩ : ∃ l : List S29, l.length = len0 ∧ len0 ≤ cap0 ∧ Kd.C k29 W a0 l.length l := by
    obtain ⟨fuel, hf⟩ := h0
    exact open_opts hf
  subst hlen0
  clear hA0 hval0 hsz0 hsz
  obtain ⟨L0, rfl⟩ := opts_map l0
  obtain ⟨k, hk⟩ := (Pu.text_f L0).get
  refine (laws_FnUnitText.calls k a0 cap0 _ true W (tabs_of hL) hC0 hcap0 hk).mono fun e W' ⟨he, bel⟩ => ?_
  subst he
  exact ⟨_, rfl, _, _, _, [], _, [], hW', trodAll_mk1 (shut_bool Tryd.underlying4 _), (trodAll_cons_mk (Below.trod laidOut (by kernel_rfl) (of_decide_eq_true (by kernel_rfl)) k0 bel lt0) trodAll_mk0), rfl, bel.frame _, fun h => by cases h⟩
theorem said : Rows.FnUnitTextSaid :=
  OpenClaim.holds_of_cond 6 Tryd.f6 rfl rfl rfl rfl rfl rfl rfl ⟨rfl, rfl, rfl, rfl, rfl⟩ rfl rfl rfl rfl rfl (by kernel_rfl) Tryd.func6 (by kernel_rfl)
    (of_decide_eq_true (by kernel_rfl)) (by unfold Func.isWrapper; first | (rw [if_pos (by decide +kernel)]; kernel_rfl) | (rw [if_neg (by decide +kernel)]; exact ⟨rfl, rfl⟩))
    (fun os started H enc _ F => by rw [OpenClaim.pre_eq_preRow]; exact lifted os started H enc F)
theorem plain (f : FuncId) (fn : Func) (hf : Tryd.pinned.checked.prog.funcNamed "pub-frontispiece/laws.FnUnitText" = some f) (hfn : Tryd.pinned.checked.prog.funcs[f]? = some fn) :
    true = Tryd.pinned.checked.prog.looks [] ∧ ∀ (j : Nat) t, fn.params[j]? = some t → Tryd.pinned.checked.prog.wantsStandIn t = false := by
  obtain rfl : f = 6 := Option.some.inj ((show Tryd.prog.funcNamed "pub-frontispiece/laws.FnUnitText" = some 6 by kernel_rfl).symm.trans hf) |>.symm
  obtain rfl : fn = Tryd.f6 := (Option.some.inj (Tryd.func6.symm.trans hfn)).symm
  refine ⟨by kernel_rfl, fun j t ht => ?_⟩
  rw [Tryd.params6] at ht
  obtain rfl : t = 32 := by simpa using Array.mem_of_getElem? ht
  exact (show Tryd.prog.wantsStandIn 32 = false by kernel_rfl)
theorem card : Rows.FnUnitTextCardSaid :=
  Claim7.holds_tied_plain_at .later [] _ _ _ _ said (fun _ h => by cases h) (by kernel_rfl) (fun _ h => by cases h) fnUnitText_row_tie rfl ⟨rfl, rfl⟩ (by kernel_rfl) rfl plain (by kernel_rfl)
#print axioms card
end Go.Proofs.YtocdnceckljnaaaDoor.fnUnitText
namespace Go.Proofs.YtocdnceckljnaaaDoor
theorem fnUnitText_card_holds : Rows.FnUnitTextCardSaid := fnUnitText.card
end Go.Proofs.YtocdnceckljnaaaDoor
