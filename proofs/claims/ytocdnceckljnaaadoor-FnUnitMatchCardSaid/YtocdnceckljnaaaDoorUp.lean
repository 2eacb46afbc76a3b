/- deserializeAll: the sections and the options of a text. Conditions: see each theorem. -/
import Derived.Test.YtocdnceckljnaaaDoorUn
namespace Go.Proofs.YtocdnceckljnaaaDoor.U
open Go.RowKit Go.Proofs.YtocdnceckljnaaaDoorW.PrintWords Go.Proofs.YtocdnceckljnaaaDoorW.PrintLast Go.Proofs.YtocdnceckljnaaaDoorW.PrintMore
set_option linter.unusedVariables false
set_option linter.unusedSimpArgs false
theorem kR_at {e base : Nat} {ok : Nat → Prop} {W : World} {v : Value} {xs : List Nat} (h : kPtr.R e W base ok v xs) (hp : 0 < xs.length) : ∃ g cap, v = .slice (some ⟨g, 0, none⟩) xs.length cap ∧ xs.length ≤ cap ∧ ∀ i x, xs[i]? = some x → W.cell? ⟨g, i, none⟩ = some (.pointer (some ⟨x, 0, none⟩)) := by
  obtain ⟨g, cap, rfl, hg, hlt, _⟩ := Kd.R_form h hp
  obtain ⟨A, c, hv, hl, hC⟩ := Kd.R_reads h
  injection hv with hA _ hcap
  subst hA hcap
  refine ⟨g, cap, rfl, hl, fun i x hx => ?_⟩
  have hi : i < xs.length := (List.getElem?_eq_some_iff.1 hx).1
  obtain ⟨ad, cs, hA, _, hK, hc⟩ := Kd.C_get hC 0 (i : Int) (by omega) (by omega)
  obtain rfl := Option.some.inj hA
  have hK' : cs = [.pointer (some ⟨xs.getD (i : Int).toNat 0, 0, none⟩)] := hK
  rw [Int.toNat_natCast, List.getD_eq_getElem?_getD, hx] at hK'
  have := hc 0 (.pointer (some ⟨x, 0, none⟩)) (by rw [hK']; rfl)
  by_cases h0 : i = 0
  · subst h0; simpa [Addr.add, kPtr, Kd.scalar] using this
  · simpa [Addr.add, kPtr, Kd.scalar, h0] using this
def SecB.sp (x : SecB) : Bs × List (Bs × Bs) := (x.s, x.es.map fun e => (e.n, e.v))
def OptB.op (x : OptB) : Bs × Bs × Bs := (x.s, x.n, x.v)
/-- An entry more in the last section. -/
def addLast (S : List (Bs × List (Bs × Bs))) (e : Bs × Bs) : List (Bs × List (Bs × Bs)) := S.dropLast ++ (match S.getLast? with | none => [] | some y => [(y.1, y.2 ++ [e])])
/-- Sections and options out of what was read. -/
def putD : List PD → List (Bs × List (Bs × Bs)) → List (Bs × Bs × Bs) → Option (List (Bs × List (Bs × Bs)) × List (Bs × Bs × Bs))
  | [], S, O => some (S, O)
  | (true, s, _, _) :: r, S, O => putD r (S ++ [(s, [])]) O
  | (false, s, n, v) :: r, S, O => if S = [] then none else putD r (addLast S (n, v)) (O ++ [(s, n, v)])
theorem addLast_at (Sa : List SecB) (y : SecB) (e : EntB) (ve : Value) : addLast ((Sa ++ [y]).map SecB.sp) (e.n, e.v) = (Sa ++ [SecB.mk y.b y.s ve (y.es ++ [e])]).map SecB.sp := by
  unfold addLast
  simp [SecB.sp]
theorem wr1 (n : Nat) (h : n ≤ 4611686018427387904) : wrap64 ((n : Int) + 1) = ((n + 1 : Nat) : Int) := by unfold wrap64; omega
theorem kR_fresh {e base g : Nat} {W : World} (hb : base ≤ g) (h : W.heap[g]? = some (Obj.cells #[] e (0, 0))) : kPtr.R e W base (fun _ => True) (.slice (some ⟨g, 0, none⟩) 0 0) [] :=
  ⟨fun _ _ => trivial, [], ⟨rfl, .inr ⟨g, 0, #[], rfl, hb, h, Nat.le_refl _, by decide, by simp, rfl⟩⟩, ⟨rfl, fun j p hj => by simp at hj⟩⟩
theorem ds_start {w0 W : World} {gl gb : Nat} {T : ByteArray} {rest : Bs} {D : List Dat} {vd : Value} (h : LS w0 gl gb T W rest D vd) :
    DS w0 ((W.alloc (.cells #[] 76)).alloc (.cells #[] 55)) gl gb D vd D [] (.slice (some ⟨W.heap.size, 0, none⟩) 0 0) [] (.slice (some ⟨W.heap.size + 1, 0, none⟩) 0 0) := by
  obtain ⟨hb, h1, h2⟩ := alloc2_facts W (.cells #[] 76) (.cells #[] 55)
  have h' := h.more hb
  have hsz := h.lx.below.size
  exact ⟨h'.lx.below, h'.lx.lex, h'.row, h'.data, kR_fresh hsz h1, fun x hx => by simp at hx, kR_fresh (by omega) h2, fun x hx => by simp at hx, h'.new, h'.apart, List.Pairwise.nil, fun x hx => by simp at hx, fun x hx => by simp at hx⟩
theorem DS.c1 {w0 W : World} {gl gb : Nat} {D : List Dat} {vd : Value} {rem : List Dat} {Ss : List SecB} {v6 : Value} {Os : List OptB} {v7 : Value} (h : DS w0 W gl gb D vd rem Ss v6 Os v7) : W.cell? ⟨gl, 1, none⟩ = some vd := by rw [blk_cell h.lex]; rfl
theorem DS.c2 {w0 W : World} {gl gb : Nat} {D : List Dat} {vd : Value} {rem : List Dat} {Ss : List SecB} {v6 : Value} {Os : List OptB} {v7 : Value} (h : DS w0 W gl gb D vd rem Ss v6 Os v7) : W.cell? ⟨gl, 2, none⟩ = some .nilIface := by rw [blk_cell h.lex]; rfl
set_option maxHeartbeats 40000000 in
set_option maxRecDepth 100000 in
theorem des_all (T : ByteArray) (w : World) (k : Nat) (R : List PD) (S' : List (Bs × List (Bs × Bs))) (O' : List (Bs × Bs × Bs)) (ht : Tabs w) (ha : ∀ c ∈ T.data.toList, c.toNat < 128) (hT : T.size ≤ 1000000000)
    (hR : lexF k .next T.data.toList [] = some R) (hP : putD R [] [] = some (S', O')) (hRl : R.length < 900000000) :
    Calls Tryd.prog 54 #[.string T] w fun e w' => ∃ (v6 v7 : Value) (Ss : List SecB) (Os : List OptB), e = .returned (.tuple #[v6, v7, .nilIface]) ∧ Below w.heap.size w w' ∧ kPtr.R 76 w' w.heap.size (fun _ => True) v6 (Ss.map (·.b)) ∧ (∀ x ∈ Ss, SecAt w' w.heap.size x) ∧ kPtr.R 55 w' w.heap.size (fun _ => True) v7 (Os.map (·.k)) ∧ (∀ x ∈ Os, OptAt w' x) ∧ Ss.map SecB.sp = S' ∧ Os.map OptB.op = O' := by
  have HTb := Aside0.mk ht
  have HA := Aside0.mk ha
  have HT := Aside0.mk hT
  have HR := Aside0.mk hR
  have HP := Aside0.mk hP
  have HRl := Aside0.mk hRl
  clear ht ha hT hR hP hRl
  go_enter Tryd.func54, Tryd.ntmps54
  go_wp2_with (first
    | (go_at_call 61; refine (new_lexer T w HTb.out HA.out (by have := HT.out; omega)).mono ?_; rintro e w1 ⟨gl, gb, rfl, hl⟩; unfold pt; have HL1 := Aside0.mk hl; clear hl)
    | (go_at_call 62; refine (lex_calls k _ R HL1.out HR.out HT.out).mono ?_; rintro e w2 ⟨rfl, rest', D, vd, hl, hmp⟩; have HL2 := Aside0.mk hl; have HMP := Aside0.mk hmp; have hc1 := hl.lx.c1; have hc1b := hl.lx.c2; obtain ⟨Av, cv, hvd⟩ := Kd.R_slice hl.row; rw [List.length_map] at hvd; subst hvd; have hcx := (ds_start hl).c1; have hlt := World.block_lt_of_cell? _ _ hc1; clear hl hmp HL1))
  have HD0 := Aside0.mk (ds_start HL2.out)
  have HDl := Aside0.mk (show D.length < 900000000 by have := congrArg List.length HMP.out; rw [List.length_map] at this; rw [this]; exact HRl.out)
  have HPd := Aside0.mk (show putD (D.map Dat.pd) [] [] = some (S', O') by rw [HMP.out]; exact HP.out)
  clear HL2 HMP hc1 hc1b hcx hlt HP HR HRl HT HA HTb
  generalize ((w2.alloc (Obj.cells #[] 76)).alloc (Obj.cells #[] 55)) = W at HD0 ⊢
  generalize (Value.slice (some { block := w2.heap.size, off := 0 }) 0 0) = v60 at HD0 ⊢
  generalize (Value.slice (some { block := w2.heap.size + 1, off := 0 }) 0 0) = v70 at HD0 ⊢
  go_loopg [23, 6, 7] D.length (fun kq v23 v6 v7 w' => ∃ (i : Nat) (Ss : List SecB) (Os : List OptB), v23 = .int .i64 i ∧ Aside0 (i + kq = D.length) ∧ Aside0 (DS w w' gl gb D (.slice Av D.length cv) (D.drop i) Ss v6 Os v7) ∧ Aside0 (putD ((D.drop i).map Dat.pd) (Ss.map SecB.sp) (Os.map OptB.op) = some (S', O')) ∧ Aside0 (Ss.length ≤ i ∧ Os.length ≤ i ∧ ∀ y ∈ Ss, y.es.length ≤ i))
  case atStart => exact ⟨0, [], [], rfl, ⟨by omega⟩, HD0, HPd, ⟨by simp⟩⟩
  case round =>
    clear HD0 HPd
    obtain ⟨i, Ss, Os, rfl, HK, HDS, HPd, HLn⟩ := hrel
    cases gk with
    | zero =>
      have hi : i = D.length := by have := HK.out; omega
      have hdr : D.drop i = [] := by rw [hi]; exact List.drop_length
      rw [hdr] at HPd HDS
      have hP2 := HPd.out
      simp only [List.map_nil, putD, Option.some.injEq, Prod.mk.injEq] at hP2
      have HP2 := Aside0.mk hP2
      have hc2 := HDS.out.c2
      have q1 : decide (i < D.length) = false := by rw [hi]; simp
      clear hi hdr hP2 HPd HK
      go_wp2
      go_quiet (fail)
      go_wp2
      refine bodyPost_ret (results_tmp3 rfl _ _ _) rfl ?_
      exact ⟨_, _, Ss, Os, rfl, (HDS.out.more (below_drewN' wr _)).below, (HDS.out.more (below_drewN' wr _)).secs, (HDS.out.more (below_drewN' wr _)).secAt, (HDS.out.more (below_drewN' wr _)).opts, (HDS.out.more (below_drewN' wr _)).optAt, HP2.out.1, HP2.out.2⟩
    | succ k1 =>
      have hi : i < D.length := by have := HK.out; omega
      obtain ⟨x, hx⟩ : ∃ x, D[i]? = some x := ⟨_, List.getElem?_eq_getElem hi⟩
      have hdr : D.drop i = x :: D.drop (i + 1) := by
        have := List.drop_eq_getElem_cons hi
        rw [List.getElem?_eq_getElem hi] at hx
        rw [this, Option.some.inj hx]
      obtain ⟨gA, cA, hvA, _, hAt⟩ := kR_at HDS.out.row (by rw [List.length_map]; omega)
      have hpA := hAt i x.p (by rw [List.getElem?_map, hx]; rfl)
      obtain rfl : Av = some ⟨gA, 0, none⟩ := by injection hvA
      clear hAt hvA hx
      rw [hdr] at HPd HDS
      have hdat := HDS.out.data x List.mem_cons_self
      have q1 : decide (i < D.length) = true := by simp; omega
      have z1 : (i : Int) < (D.length : Int) := by omega
      have hiL := Aside0.mk hi
      clear hi hdr
      generalize hrm : D.drop (i + 1) = rm at *
      have HRM := Aside0.mk hrm
      clear hrm
      by_cases hs : x.isSec = true
      · have hpd : (x :: rm).map Dat.pd = (true, x.s, x.n, x.v) :: rm.map Dat.pd := by rw [List.map_cons]; unfold Dat.pd; rw [hs]
        rw [hpd] at HPd
        unfold Dat.blks at hdat
        rw [if_pos hs] at hdat
        have hb := hdat _ List.mem_cons_self
        have HS := Aside0.mk hs
        have e0 := blk_cell hb 0
        have e2 := blk_cell hb 2
        have e0' : wr.cell? ⟨x.p, 0, none⟩ = some (.int .i64 0) := e0
        have e2' : wr.cell? ⟨x.p, 2, none⟩ = some (.pointer (some ⟨x.b, 0, none⟩)) := e2
        clear e0 e2 hb hdat hs hpd
        have hw1 := Aside0.mk (show wrap64 ((i : Int) + 1) = ((i + 1 : Nat) : Int) from wr1 i (by have := hiL.out; have := HDl.out; omega))
        go_wp2_with ((with_reducible refine gate_builtin (b := .append) (xs := #[.tmp 82, .tmp 87]) rfl ?_); at_builtin; refine Kd.R_append kPtr (w0 := w) w.heap.size rfl (.tmp 82) (.tmp 87) 75 76 (.pointer none) 8 rfl Tryd.underlying75 (by kernel_rfl) rfl (by decide) (by decide) u6 (Ss.map (·.b)) x.b [.pointer (some ⟨x.b, 0, none⟩)] (fun _ => True) (fun _ => False) rfl rfl rfl (fun _ h => h.elim) (fun _ _ => trivial) HDS.out.secs HDS.out.below HDS.out.below.size (by rw [List.length_map]; have := HLn.out.1; have := hiL.out; have := HDl.out; omega) ?_; intro v7 w9 ho hb hg hat; have HDS2 := Aside0.mk (HDS.out.addSec HS.out ho hb hg); clear ho hb hg hat)
        go_roundg k1
        case measure => omega
        case rel =>
          refine ⟨i + 1, _, Os, by first | rfl | (simp; done) | (rw [← hw1.out]), ⟨by have := HK.out; omega⟩, ⟨by rw [HRM.out]; exact HDS2.out⟩, ⟨?_⟩, ⟨?_⟩⟩
          · rw [HRM.out, List.map_append]
            exact HPd.out
          · rw [List.length_append]
            exact ⟨by have := HLn.out.1; simp only [List.length_singleton]; omega, by have := HLn.out.2.1; omega, fun y hy => by
              rcases List.mem_append.1 hy with hy | hy
              · have := HLn.out.2.2 y hy; omega
              · rw [List.mem_singleton.1 hy]; exact Nat.zero_le _⟩
      · have hs' : x.isSec = false := by simpa using hs
        have hpd : (x :: rm).map Dat.pd = (false, x.s, x.n, x.v) :: rm.map Dat.pd := by rw [List.map_cons]; unfold Dat.pd; rw [hs']
        rw [hpd] at HPd
        unfold Dat.blks at hdat
        rw [if_neg hs] at hdat
        have hb := hdat _ List.mem_cons_self
        have hb2 := hdat _ (List.mem_cons_of_mem _ List.mem_cons_self)
        have HB2 := Aside0.mk hb2
        have e0 := blk_cell hb 0
        have e1 := blk_cell hb 1
        have e0' : wr.cell? ⟨x.p, 0, none⟩ = some (.int .i64 1) := e0
        have e1' : wr.cell? ⟨x.p, 1, none⟩ = some (.pointer (some ⟨x.b, 0, none⟩)) := e1
        have f0 : wr.cell? ⟨x.b, 0, none⟩ = some (.string (B x.s)) := blk_cell hb2 0
        have f1 : wr.cell? ⟨x.b, 1, none⟩ = some (.string (B x.n)) := blk_cell hb2 1
        have f2 : wr.cell? ⟨x.b, 2, none⟩ = some (.string (B x.v)) := blk_cell hb2 2
        clear e0 e1 hb hb2 hdat hs hpd hs'
        have hP2 := HPd.out
        simp only [putD] at hP2
        split at hP2
        · simp at hP2
        rename_i hne
        have HP3 := Aside0.mk hP2
        have HNE := Aside0.mk hne
        clear hP2 hne HPd
        have hw1 := Aside0.mk (show wrap64 ((i : Int) + 1) = ((i + 1 : Nat) : Int) from wr1 i (by have := hiL.out; have := HDl.out; omega))
        go_upto_region 12 with (fail)
        have HO3 := Aside0.mk (show OptAt (wr.alloc (Obj.cells #[Value.string (B x.s), Value.string (B x.n), Value.string (B x.v)] 64)) ⟨wr.heap.size, x.s, x.n, x.v⟩ from heap_alloc_new wr _)
        have HDS3 := Aside0.mk ((HDS.out.more (below_new wr (Obj.cells #[Value.string (B x.s), Value.string (B x.n), Value.string (B x.v)] 64))).tail)
        clear hpA q1 z1 e0' e1' f0 f1 f2 HB2 HDS
        generalize (wr.alloc (Obj.cells #[Value.string (B x.s), Value.string (B x.n), Value.string (B x.v)] 64)) = w3 at HO3 HDS3 ⊢
        generalize wr.heap.size = ob at *
        obtain ⟨Sa, ⟨yb, ys, yve, yes⟩, rfl⟩ : ∃ Sa y, Ss = Sa ++ [y] := by
          rcases List.eq_nil_or_concat Ss with h | ⟨Sa, y, h⟩
          · exact absurd (by rw [h]; rfl) HNE.out
          · exact ⟨Sa, y, by rw [h, List.concat_eq_append]⟩
        obtain ⟨Ae, ce, hve⟩ : ∃ A c, yve = .slice A yes.length c := by
          obtain ⟨A, c, h⟩ := Kd.R_slice (HDS3.out.secAt ⟨yb, ys, yve, yes⟩ (by simp)).row
          rw [List.length_map] at h
          exact ⟨A, c, h⟩
        subst hve
        generalize hm : Sa.length = m at *
        have hlm : ((Sa ++ [SecB.mk yb ys (.slice Ae yes.length ce) yes]).map (·.b)).length = m + 1 := by simp [hm]
        obtain ⟨g6, c6, hv6, _, hAt6⟩ := kR_at HDS3.out.secs (by rw [hlm]; omega)
        rw [hlm] at hv6
        subst hv6
        have h6 := Aside0.mk (hAt6 m yb (by rw [← hm]; simp))
        have hvm : wrap64 (m : Int) = (m : Int) := wr0 m (by have h1 := HLn.out.1; have := hiL.out; have := HDl.out; rw [List.length_append] at h1; simp only [List.length_singleton] at h1; omega)
        have HM := Aside0.mk hm
        clear hAt6 hlm hm
        go_upto_region 16 with ((with_reducible refine gate_builtin (b := .append) (xs := #[.tmp 44, .tmp 45]) rfl ?_); at_builtin; refine Kd.R_append kPtr (w0 := w) w.heap.size rfl (.tmp 44) (.tmp 45) 56 55 (.pointer none) 8 rfl Tryd.underlying56 (by kernel_rfl) rfl (by decide) (by decide) u7 (Os.map (·.k)) ob [.pointer (some ⟨ob, 0, none⟩)] (fun _ => True) (fun _ => False) rfl rfl rfl (fun _ h => h.elim) (fun _ _ => trivial) HDS3.out.opts HDS3.out.below HDS3.out.below.size (by rw [List.length_map]; have := HLn.out.2.1; have := hiL.out; have := HDl.out; omega) ?_; intro v7 w4 ho hb hg hat; have HDS4 := Aside0.mk (HDS3.out.addOpt ⟨ob, x.s, x.n, x.v⟩ HO3.out ho hb hg); have HO4 := Aside0.mk (show OptAt w4 ⟨ob, x.s, x.n, x.v⟩ from blk_grown HO3.out hg (Kd.R_ne HDS3.out.opts HO3.out (by decide))); have h64 := Aside0.mk (cell_grown hg h6.out (fun e => by obtain ⟨c, hc⟩ := kR_typed HDS3.out.secs g6 rfl; exact Kd.R_ne HDS3.out.opts hc (by decide) e)); clear ho hb hg hat)
        have g1 := h64.out
        have g2 : w4.cell? ⟨yb, 1, none⟩ = some (.slice Ae yes.length ce) := blk_cell (HDS4.out.secAt ⟨yb, ys, .slice Ae yes.length ce, yes⟩ (by simp)).blk 1
        have g3 : w4.cell? ⟨ob, 1, none⟩ = some (.string (B x.n)) := blk_cell HO4.out 1
        have g4 : w4.cell? ⟨ob, 2, none⟩ = some (.string (B x.v)) := blk_cell HO4.out 2
        rw [hvm]
        clear hvm
        refine Go.Last.wp_region_x (S := fun w' => w'.cell? ⟨g6, m, none⟩ = some (.pointer (some ⟨yb, 0, none⟩)) ∧ w'.cell? ⟨yb, 1, none⟩ = some (.slice Ae yes.length ce) ∧ w'.cell? ⟨ob, 1, none⟩ = some (.string (B x.n)) ∧ w'.cell? ⟨ob, 2, none⟩ = some (.string (B x.v))) (n := 21) (by kernel_rfl) ?_
        have HS0 : (fun w' => w'.cell? ⟨g6, m, none⟩ = some (.pointer (some ⟨yb, 0, none⟩)) ∧ w'.cell? ⟨yb, 1, none⟩ = some (.slice Ae yes.length ce) ∧ w'.cell? ⟨ob, 1, none⟩ = some (.string (B x.n)) ∧ w'.cell? ⟨ob, 2, none⟩ = some (.string (B x.v))) w4.drew := ⟨g1, g2, g3, g4⟩
        have HDS5 := Aside0.mk (HDS4.out.more (below_drew (Below.refl w4.heap.size w4)))
        have zm : (m : Int) < (m : Int) + 1 := Int.lt_add_one_of_le (Int.le_refl (m : Int))
        change Go.Last.wpAnyX _ _ _ _ _ _ _ _ _ w4.drew
        clear g1 g2 g3 g4 HDS3 HO3 HO4 HDS4 h6 h64
        generalize w4.drew = wd at *
        show Go.Last.wpAnyX _ _ _ _ _ _ 22 _ _ _
        refine Go.Last.wpAnyX_at 22 rfl (by kernel_rfl) (by kernel_rfl) (by kernel_rfl) (by kernel_rfl) (fun _ _ _ h => h) (v := ?_) (Or.inl ⟨by rfl, ?_⟩) (by assumption) ?_
        rotate_left
        · intro w hSw
          (try dsimp only at hSw)
          go_split_ands
          go_simp
          first | done | with_reducible rfl
        (try simp only [Nat.reduceSub, Nat.reduceAdd, Act.put, List.setIfInBounds_toArray, List.set_cons_zero, List.set_cons_succ])
        refine Go.Last.wpAnyX_at 22 rfl (by kernel_rfl) (by kernel_rfl) (by kernel_rfl) (by kernel_rfl) (fun _ _ _ h => h) (v := ?_) (Or.inl ⟨by rfl, ?_⟩) (by assumption) ?_
        rotate_left
        · intro w hSw
          (try dsimp only at hSw)
          go_split_ands
          go_simp
          first | done | with_reducible rfl
        (try simp only [Nat.reduceSub, Nat.reduceAdd, Act.put, List.setIfInBounds_toArray, List.set_cons_zero, List.set_cons_succ])
        refine Go.Last.wpAnyX_at 22 rfl (by kernel_rfl) (by kernel_rfl) (by kernel_rfl) (by kernel_rfl) (fun _ _ _ h => h) (v := ?_) (Or.inl ⟨by rfl, ?_⟩) (by assumption) ?_
        rotate_left
        · intro w hSw
          (try dsimp only at hSw)
          go_split_ands
          go_simp
          first | done | with_reducible rfl
        (try simp only [Nat.reduceSub, Nat.reduceAdd, Act.put, List.setIfInBounds_toArray, List.set_cons_zero, List.set_cons_succ])
        refine Go.Last.wpAnyX_at 22 rfl (by kernel_rfl) (by kernel_rfl) (by kernel_rfl) (by kernel_rfl) (fun _ _ _ h => h) (v := ?_) (Or.inl ⟨by rfl, ?_⟩) (by assumption) ?_
        rotate_left
        · intro w hSw
          (try dsimp only at hSw)
          go_split_ands
          go_simp
          first | done | with_reducible rfl
        (try simp only [Nat.reduceSub, Nat.reduceAdd, Act.put, List.setIfInBounds_toArray, List.set_cons_zero, List.set_cons_succ])
        refine Go.Last.wpAnyX_at 22 rfl (by kernel_rfl) (by kernel_rfl) (by kernel_rfl) (by kernel_rfl) (fun _ _ _ h => h) (v := ?_) (Or.inl ⟨by rfl, ?_⟩) (by assumption) ?_
        rotate_left
        · intro w hSw
          (try dsimp only at hSw)
          go_split_ands
          go_simp
          first | done | with_reducible rfl
        (try simp only [Nat.reduceSub, Nat.reduceAdd, Act.put, List.setIfInBounds_toArray, List.set_cons_zero, List.set_cons_succ])
        refine Go.Last.wpAnyX_at 22 rfl (by kernel_rfl) (by kernel_rfl) (by kernel_rfl) (by kernel_rfl) (fun _ _ _ h => h) (v := ?_) (Or.inl ⟨by rfl, ?_⟩) (by assumption) ?_
        rotate_left
        · intro w hSw
          (try dsimp only at hSw)
          go_split_ands
          go_simp
          first | done | with_reducible rfl
        (try simp only [Nat.reduceSub, Nat.reduceAdd, Act.put, List.setIfInBounds_toArray, List.set_cons_zero, List.set_cons_succ])
        refine Go.Last.wpAnyX_at 22 rfl (by kernel_rfl) (by kernel_rfl) (by kernel_rfl) (by kernel_rfl) (fun _ _ _ h => h) (v := ?_) (Or.inl ⟨by rfl, ?_⟩) (by assumption) ?_
        rotate_left
        · intro w hSw
          (try dsimp only at hSw)
          go_split_ands
          go_simp
          first | done | with_reducible rfl
        (try simp only [Nat.reduceSub, Nat.reduceAdd, Act.put, List.setIfInBounds_toArray, List.set_cons_zero, List.set_cons_succ])
        refine Go.Last.wpAnyX_at 22 rfl (by kernel_rfl) (by kernel_rfl) (by kernel_rfl) (by kernel_rfl) (fun _ _ _ h => h) (v := ?_) (Or.inl ⟨by rfl, ?_⟩) (by assumption) ?_
        rotate_left
        · intro w hSw
          (try dsimp only at hSw)
          go_split_ands
          go_simp
          first | done | with_reducible rfl
        (try simp only [Nat.reduceSub, Nat.reduceAdd, Act.put, List.setIfInBounds_toArray, List.set_cons_zero, List.set_cons_succ])
        refine Go.Last.wpAnyX_at 22 rfl (by kernel_rfl) (by kernel_rfl) (by kernel_rfl) (by kernel_rfl) (fun _ _ _ h => h) (v := ?_) (Or.inl ⟨by rfl, ?_⟩) (by assumption) ?_
        rotate_left
        · intro w hSw
          (try dsimp only at hSw)
          go_split_ands
          go_simp
          first | done | with_reducible rfl
        (try simp only [Nat.reduceSub, Nat.reduceAdd, Act.put, List.setIfInBounds_toArray, List.set_cons_zero, List.set_cons_succ])
        refine Go.Last.wpAnyX_at 22 rfl (by kernel_rfl) (by kernel_rfl) (by kernel_rfl) (by kernel_rfl) (fun _ _ _ h => h) (v := ?_) (Or.inl ⟨by rfl, ?_⟩) (by assumption) ?_
        rotate_left
        · intro w hSw
          (try dsimp only at hSw)
          go_split_ands
          go_simp
          first | done | with_reducible rfl
        (try simp only [Nat.reduceSub, Nat.reduceAdd, Act.put, List.setIfInBounds_toArray, List.set_cons_zero, List.set_cons_succ])
        refine Go.Last.wpAnyX_at 22 rfl (by kernel_rfl) (by kernel_rfl) (by kernel_rfl) (by kernel_rfl) (fun _ _ _ h => h) (v := ?_) (Or.inl ⟨by rfl, ?_⟩) (by assumption) ?_
        rotate_left
        · intro w hSw
          (try dsimp only at hSw)
          go_split_ands
          go_simp
          first | done | with_reducible rfl
        (try simp only [Nat.reduceSub, Nat.reduceAdd, Act.put, List.setIfInBounds_toArray, List.set_cons_zero, List.set_cons_succ])
        refine Go.Last.wpAnyX_at 22 rfl (by kernel_rfl) (by kernel_rfl) (by kernel_rfl) (by kernel_rfl) (fun _ _ _ h => h) (v := ?_) (Or.inl ⟨by rfl, ?_⟩) (by assumption) ?_
        rotate_left
        · intro w hSw
          (try dsimp only at hSw)
          go_split_ands
          go_simp
          first | done | with_reducible rfl
        (try simp only [Nat.reduceSub, Nat.reduceAdd, Act.put, List.setIfInBounds_toArray, List.set_cons_zero, List.set_cons_succ])
        refine Go.Last.wpAnyX_at 22 rfl (by kernel_rfl) (by kernel_rfl) (by kernel_rfl) (by kernel_rfl) (fun _ _ _ h => h) (v := ?_) (Or.inl ⟨by rfl, ?_⟩) (by assumption) ?_
        rotate_left
        · intro w hSw
          (try dsimp only at hSw)
          go_split_ands
          go_simp
          first | done | with_reducible rfl
        (try simp only [Nat.reduceSub, Nat.reduceAdd, Act.put, List.setIfInBounds_toArray, List.set_cons_zero, List.set_cons_succ])
        refine Go.Last.wpAnyX_at 22 rfl (by kernel_rfl) (by kernel_rfl) (by kernel_rfl) (by kernel_rfl) (fun _ _ _ h => h) (v := ?_) (Or.inl ⟨by rfl, ?_⟩) (by assumption) ?_
        rotate_left
        · intro w hSw
          (try dsimp only at hSw)
          go_split_ands
          go_simp
          first | done | with_reducible rfl
        (try simp only [Nat.reduceSub, Nat.reduceAdd, Act.put, List.setIfInBounds_toArray, List.set_cons_zero, List.set_cons_succ])
        refine Go.Last.wpAnyX_at 22 rfl (by kernel_rfl) (by kernel_rfl) (by kernel_rfl) (by kernel_rfl) (fun _ _ _ h => h) (v := ?_) (Or.inl ⟨by rfl, ?_⟩) (by assumption) ?_
        rotate_left
        · intro w hSw
          (try dsimp only at hSw)
          go_split_ands
          go_simp
          first | done | with_reducible rfl
        (try simp only [Nat.reduceSub, Nat.reduceAdd, Act.put, List.setIfInBounds_toArray, List.set_cons_zero, List.set_cons_succ])
        refine Go.Last.wpAnyX_at 22 rfl (by kernel_rfl) (by kernel_rfl) (by kernel_rfl) (by kernel_rfl) (fun _ _ _ h => h) (v := ?_) (Or.inl ⟨by rfl, ?_⟩) (by assumption) ?_
        rotate_left
        · intro w hSw
          (try dsimp only at hSw)
          go_split_ands
          go_simp
          first | done | with_reducible rfl
        (try simp only [Nat.reduceSub, Nat.reduceAdd, Act.put, List.setIfInBounds_toArray, List.set_cons_zero, List.set_cons_succ])
        refine Go.Last.wpAnyX_one (i := 16) (o := { dst := some 70, op := Op.box 81 (Operand.tmp 69), type := 80, pos := "deserialize.go:99", after := #[{ on := 15, ground := Ground.data }], guard := none }) (by kernel_rfl) rfl ?_
        intro K2 hK2
        go_simp
        have HSb : (fun w' => w'.cell? ⟨g6, m, none⟩ = some (.pointer (some ⟨yb, 0, none⟩)) ∧ w'.cell? ⟨yb, 1, none⟩ = some (.slice Ae yes.length ce) ∧ w'.cell? ⟨ob, 1, none⟩ = some (.string (B x.n)) ∧ w'.cell? ⟨ob, 2, none⟩ = some (.string (B x.v))) (wd.alloc (Obj.cells #[.string (B x.n), .string (B x.v)] 81)) := ⟨keepcell (below_new _ _) HS0.1, keepcell (below_new _ _) HS0.2.1, keepcell (below_new _ _) HS0.2.2.1, keepcell (below_new _ _) HS0.2.2.2⟩
        refine hK2 _ _ (fun _ => HSb) ?_
        clear hK2 K2
        (try simp only [Act.put, List.setIfInBounds_toArray, List.set_cons_zero, List.set_cons_succ])
        have HE3 := Aside0.mk (show EntAt (wd.alloc (Obj.cells #[.string (B x.n), .string (B x.v)] 81)) ⟨wd.heap.size, x.n, x.v⟩ from heap_alloc_new wd _)
        have HDS6 := Aside0.mk (HDS5.out.more (below_new wd (Obj.cells #[.string (B x.n), .string (B x.v)] 81)))
        clear HS0 HDS5
        generalize (wd.alloc (Obj.cells #[.string (B x.n), .string (B x.v)] 81)) = w5 at HSb HE3 HDS6 ⊢
        generalize wd.heap.size = eb at *
        refine Go.Last.wpAnyX_one (i := 17) (o := { dst := some 71, op := Op.buildSlice 77 1 #[(0, Operand.tmp 70)], type := 77, pos := "deserialize.go:99", after := #[{ on := 16, ground := Ground.data }], guard := none }) (by kernel_rfl) rfl ?_
        intro K4 hK4
        go_simp
        have HSd : (fun w' => w'.cell? ⟨g6, m, none⟩ = some (.pointer (some ⟨yb, 0, none⟩)) ∧ w'.cell? ⟨yb, 1, none⟩ = some (.slice Ae yes.length ce) ∧ w'.cell? ⟨ob, 1, none⟩ = some (.string (B x.n)) ∧ w'.cell? ⟨ob, 2, none⟩ = some (.string (B x.v))) (w5.alloc (Obj.cells #[.pointer (some ⟨eb, 0, none⟩)] 80)) := ⟨keepcell (below_new _ _) HSb.1, keepcell (below_new _ _) HSb.2.1, keepcell (below_new _ _) HSb.2.2.1, keepcell (below_new _ _) HSb.2.2.2⟩
        refine hK4 _ _ (fun _ => HSd) ?_
        clear hK4 K4
        (try simp only [Act.put, List.setIfInBounds_toArray, List.set_cons_zero, List.set_cons_succ])
        refine Go.Last.wpAnyX_one (i := 18) (o := { dst := some 72, op := Op.call { callee := Callee.builtin Builtin.append, args := #[Operand.tmp 64, Operand.tmp 71], argTypes := #[77, 77] }, type := 77, pos := "deserialize.go:99", after := #[{ on := 10, ground := Ground.data }, { on := 17, ground := Ground.data }], guard := none }) (by kernel_rfl) rfl ?_
        intro K5 hK5
        have HSA := Aside0.mk (HDS6.out.secAt ⟨yb, ys, .slice Ae yes.length ce, yes⟩ (by simp))
        refine Kd.R_append_step (w0 := w) kPtr w.heap.size (by rfl) (.tmp 64) (.tmp 71) 77 80 (.pointer none) 8 rfl (by kernel_rfl) (by kernel_rfl) (by decide) (by decide) (by decide) (Value.slice Ae yes.length ce) (yes.map (·.k)) eb [.pointer (some ⟨eb, 0, none⟩)] (fun _ => True) (fun _ => False) rfl rfl rfl (fun _ h => h.elim) (fun _ _ => trivial) HSA.out.row HDS6.out.below HDS6.out.below.size (by rw [List.length_map]; have := HLn.out.2.2 ⟨yb, ys, .slice Ae yes.length ce, yes⟩ (by simp); have := hiL.out; have := HDl.out; have h4 : yes.length ≤ i := HLn.out.2.2 ⟨yb, ys, .slice Ae yes.length ce, yes⟩ (by simp); omega) ?_
        intro v8 w6 HR1 HB1 hg hat
        obtain ⟨A8, c8, hv8⟩ : ∃ A c, v8 = .slice A (yes.length + 1) c := by
          obtain ⟨A, c, h⟩ := Kd.R_slice HR1
          rw [List.length_append, List.length_map] at h
          exact ⟨A, c, h⟩
        subst hv8
        have HSe : (fun w' => w'.cell? ⟨g6, m, none⟩ = some (.pointer (some ⟨yb, 0, none⟩)) ∧ w'.cell? ⟨yb, 1, none⟩ = some (.slice Ae yes.length ce) ∧ w'.cell? ⟨ob, 1, none⟩ = some (.string (B x.n)) ∧ w'.cell? ⟨ob, 2, none⟩ = some (.string (B x.v))) w6 := ⟨cell_grown hg HSb.1 (fun e => by obtain ⟨c, hc⟩ := kR_typed HDS6.out.secs g6 rfl; exact Kd.R_ne HSA.out.row hc (by decide) e), cell_grown hg HSb.2.1 (Kd.R_ne HSA.out.row HSA.out.blk (by decide)), cell_grown hg HSb.2.2.1 (Kd.R_ne HSA.out.row (HDS6.out.optAt ⟨ob, x.s, x.n, x.v⟩ (by simp)) (by decide)), cell_grown hg HSb.2.2.2 (Kd.R_ne HSA.out.row (HDS6.out.optAt ⟨ob, x.s, x.n, x.v⟩ (by simp)) (by decide))⟩
        have HF := Aside0.mk (blk_frozen (blk_grown HSA.out.blk hg (Kd.R_ne HSA.out.row HSA.out.blk (by decide))) 1)
        have HDS7 := Aside0.mk (HDS6.out.addEnt ⟨eb, x.n, x.v⟩ HE3.out HR1 HB1 hg hat)
        refine hK5 _ _ (fun _ => HSe) ?_
        clear hK5 K5 HSb HSd HR1 HB1 hg hat HDS6 HE3 HSA
        (try simp only [Act.put, List.setIfInBounds_toArray, List.set_cons_zero, List.set_cons_succ])
        refine Go.Last.wpAnyX_one (i := 19) (o := { dst := some 73, op := Op.nilCheck (Operand.tmp 57), type := 0, pos := "deserialize.go:99", after := #[{ on := 3, ground := Ground.data }, { on := 0, ground := Ground.phase }, { on := 1, ground := Ground.phase }, { on := 2, ground := Ground.phase }, { on := 3, ground := Ground.phase }, { on := 4, ground := Ground.phase }, { on := 5, ground := Ground.phase }, { on := 6, ground := Ground.phase }, { on := 7, ground := Ground.phase }, { on := 8, ground := Ground.phase }, { on := 9, ground := Ground.phase }, { on := 10, ground := Ground.phase }, { on := 11, ground := Ground.phase }, { on := 12, ground := Ground.phase }, { on := 13, ground := Ground.phase }, { on := 14, ground := Ground.phase }, { on := 15, ground := Ground.phase }, { on := 16, ground := Ground.phase }, { on := 17, ground := Ground.phase }, { on := 18, ground := Ground.phase }], guard := none }) (by kernel_rfl) rfl ?_
        intro K7 hK7
        go_simp
        refine hK7 _ _ (fun _ => HSe) ?_
        clear hK7 K7
        (try simp only [Act.put, List.setIfInBounds_toArray, List.set_cons_zero, List.set_cons_succ])
        refine Go.Last.wpAnyX_one (i := 20) (o := { dst := some 74, op := Op.fieldAddr 79 (Operand.tmp 73) 1, type := 0, pos := "deserialize.go:99", after := #[{ on := 19, ground := Ground.data }, { on := 0, ground := Ground.phase }, { on := 1, ground := Ground.phase }, { on := 2, ground := Ground.phase }, { on := 3, ground := Ground.phase }, { on := 4, ground := Ground.phase }, { on := 5, ground := Ground.phase }, { on := 6, ground := Ground.phase }, { on := 7, ground := Ground.phase }, { on := 8, ground := Ground.phase }, { on := 9, ground := Ground.phase }, { on := 10, ground := Ground.phase }, { on := 11, ground := Ground.phase }, { on := 12, ground := Ground.phase }, { on := 13, ground := Ground.phase }, { on := 14, ground := Ground.phase }, { on := 15, ground := Ground.phase }, { on := 16, ground := Ground.phase }, { on := 17, ground := Ground.phase }, { on := 18, ground := Ground.phase }], guard := none }) (by kernel_rfl) rfl ?_
        intro K8 hK8
        go_simp
        refine hK8 _ _ (fun _ => HSe) ?_
        clear hK8 K8
        (try simp only [Act.put, List.setIfInBounds_toArray, List.set_cons_zero, List.set_cons_succ])
        refine Go.Last.wpAnyX_one (i := 21) (o := { dst := none, op := Op.store 77 (Operand.tmp 74) (Operand.tmp 72), type := 0, pos := "deserialize.go:99", after := #[{ on := 20, ground := Ground.data }, { on := 18, ground := Ground.data }, { on := 18, ground := Ground.chain }, { on := 0, ground := Ground.phase }, { on := 1, ground := Ground.phase }, { on := 2, ground := Ground.phase }, { on := 3, ground := Ground.phase }, { on := 4, ground := Ground.phase }, { on := 5, ground := Ground.phase }, { on := 6, ground := Ground.phase }, { on := 7, ground := Ground.phase }, { on := 8, ground := Ground.phase }, { on := 9, ground := Ground.phase }, { on := 10, ground := Ground.phase }, { on := 11, ground := Ground.phase }, { on := 12, ground := Ground.phase }, { on := 13, ground := Ground.phase }, { on := 14, ground := Ground.phase }, { on := 15, ground := Ground.phase }, { on := 16, ground := Ground.phase }, { on := 17, ground := Ground.phase }, { on := 18, ground := Ground.phase }], guard := none }) (by kernel_rfl) rfl ?_
        intro K6 hK6
        have hcB := HSe.2.1
        have hfB := HF.out
        go_simp
        refine hK6 _ _ (fun e => absurd rfl e) ?_
        refine Go.Last.wpAnyX_done (by kernel_rfl) ?_ _
        clear hK6 K6 HSe hcB hfB HF
        have HDS8 := Aside0.mk (show DS w (w6.setCell ⟨yb, 1, none⟩ (.slice A8 (yes.length + 1) c8)) gl gb D _ rm _ _ _ _ from HDS7.out)
        clear HDS7
        generalize w6.setCell ⟨yb, 1, none⟩ (.slice A8 (yes.length + 1) c8) = w7 at HDS8 ⊢
        go_wp2
        go_roundg k1
        case measure => omega
        case rel =>
          refine ⟨i + 1, _, _, by first | rfl | (simp; done) | (rw [← hw1.out]), ⟨by have := HK.out; omega⟩, ⟨by rw [HRM.out]; exact HDS8.out⟩, ⟨?_⟩, ⟨?_⟩⟩
          · rw [HRM.out, ← addLast_at (ve := .slice A8 (yes.length + 1) c8) Sa ⟨yb, ys, .slice Ae yes.length ce, yes⟩ ⟨eb, x.n, x.v⟩]
            have hm2 : List.map OptB.op (Os ++ [OptB.mk ob x.s x.n x.v]) = List.map OptB.op Os ++ [(x.s, x.n, x.v)] := by rw [List.map_append]; rfl
            rw [hm2]
            exact HP3.out
          · have h1 := HLn.out.1
            have h2 := HLn.out.2.1
            have h3 := HLn.out.2.2
            rw [List.length_append] at h1 ⊢
            rw [List.length_append]
            simp only [List.length_singleton] at h1 ⊢
            refine ⟨by omega, by omega, fun y hy => ?_⟩
            rcases List.mem_append.1 hy with hy | hy
            · have := h3 y (List.mem_append_left _ hy); omega
            · rw [List.mem_singleton.1 hy]
              have := h3 ⟨yb, ys, .slice Ae yes.length ce, yes⟩ (by simp)
              show (yes ++ [_]).length ≤ i + 1
              rw [List.length_append]
              exact Nat.succ_le_succ this
end Go.Proofs.YtocdnceckljnaaaDoor.U
