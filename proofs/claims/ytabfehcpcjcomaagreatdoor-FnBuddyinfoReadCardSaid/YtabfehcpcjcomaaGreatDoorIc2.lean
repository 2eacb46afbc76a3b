/- The texts Zt, Zs, Shelf, Rf, Pf, Fl, Za, Pl, QA0x0, QA0x1, Pm, Pt, Pv, without what the claims do not use, laid together by a program of this session (wip/tools/bundle.py). Conditions: those of each theorem. -/
import Derived.Test.YtabfehcpcjcomaaGreatDoorIc1
import Derived.Shelf.Strconv.Itoa0
import Derived.Shelf.Strconv.Itoa1
import Derived.Shelf.LaysM
import Derived.Shelf.Strconv.Itoa2
import Derived.Shelf.Strconv.Clone
import Derived.Shelf.Strconv.Lower
import Derived.Shelf.Strconv.ParseUint10
import Derived.Shelf.Strconv.ParseUintEmpty
import Derived.Shelf.Strconv.ParseUint10b64
import Derived.Shelf.Strconv.ParseUint10b32
import Derived.Shelf.Strconv.ParseUint10b16
import Derived.Shelf.Strconv.ParseUint10b8
import Derived.Shelf.Strconv.ParseUint10At
import Derived.Ground.MpProg
import Derived.Shelf.Pu.ParseUintPublic10
import Derived.Shelf.Strings.Fields
import Derived.Shelf.Unicode.Latin
import Derived.Shelf.Bits.Mul64
import Derived.Shelf.Unicode.Is16White
import Derived.Shelf.Unicode.IsSpaceAny
import Derived.Shelf.Unicode.Is16WhiteD
import Derived.Shelf.Unicode.IsSpaceAnyD
import Derived.Shelf.Strings.FieldsAny
import Derived.Shelf.Strings.FieldsFuncAny
import Derived.Shelf.Unicode.Is16Any
import Derived.Shelf.Unicode.Is32Any
import Derived.Shelf.Unicode.ExclAny
import Derived.Test.YtabfehcpcjcomaaGreatDoorProg
import Derived.WalkKit
import Derived.WalkMore
import Derived.Laws.FloatArith
import Derived.Laws.Externs
import Derived.Lib.ItoaMem
import Derived.Lib.SmallJoins
import Derived.Deep.OwnRows
import Derived.Deep.RegionHeld3
import Derived.Below
import Derived.Deep.Draws
import Derived.Deep.AppendLies
import Derived.Maps.AppendAt
import Derived.OwnWalk
import Derived.Laws.BytesArg
import Derived.Laws.MakeOwn
import Derived.Laws.OwnMore
import Derived.Tactics
import Derived.Lib.ConvBytes
import Derived.Laws.Slices
import Derived.KernelRfl
import Derived.RowKit3
import Derived.Deep.LoopGhost
import Derived.Deep.QuietTactic
import Derived.BigQuiet
import Derived.WideLaws
import Derived.Deep.DeepCutAuto
import Derived.Deep.CutBlock
import Derived.Laws.Rows
import Derived.Lib.AppendStr
import Derived.ArgAppend
import Derived.Laws.IdiomCopy
import Derived.OrdersHeld
import Derived.Laws.BitsLemmas
import Derived.RowKit
import Derived.Defers
import Derived.Recover
namespace Go.Proofs.YtabfehcpcjcomaaGreatDoor.R
open Go.RowKit
theorem sa {α : Type} (l : List α) (i : Nat) (a : α) : l.toArray.setIfInBounds i a = (l.set i a).toArray := List.setIfInBounds_toArray l i a
theorem sb {α : Type} (x : α) (xs : List α) (a : α) : (x :: xs).set 0 a = a :: xs := List.set_cons_zero
theorem sc {α : Type} (x : α) (xs : List α) (n : Nat) (a : α) : (x :: xs).set (n + 1) a = x :: xs.set n a := List.set_cons_succ
def tf (t f : Nat) : Array Bool := (List.replicate t true ++ List.replicate f false).toArray
end Go.Proofs.YtabfehcpcjcomaaGreatDoor.R
namespace Go.Proofs.YtabfehcpcjcomaaGreatDoor.R
open Go.RowKit Go.Proofs.YtabfehcpcjcomaaGreatDoorW.PrintWords Go.Proofs.YtabfehcpcjcomaaGreatDoorW.PrintLast Go.Proofs.YtabfehcpcjcomaaGreatDoorW.PrintMore
theorem bl {P Q : Prop} (q : Q) (h : Q → P := by intro h; (with_reducible repeat (first | refine blk_drewN ?_ _ | refine blk_drew ?_ | refine blk_alloc ?_ _)); exact h) : P := h q
theorem hb {P Q : Prop} (q : Q) (h : Q → P := by intro h; repeat (first | (with_reducible first | exact h | apply below_alloc | apply pw_below_drewN | apply below_drew1) | exact h)) : P := h q
theorem hc1 {P Q A : Prop} (q : Q) (a : A) (h : Q → A → P := by intro h a; repeat (first | (with_reducible first | exact h | apply below_alloc | apply pw_below_drewN | apply below_drew1 | refine below_set ?_ a) | exact h)) : P := h q a
theorem hc2 {P Q A B : Prop} (q : Q) (a : A) (b : B) (h : Q → A → B → P := by intro h a b; repeat (first | (with_reducible first | exact h | apply below_alloc | apply pw_below_drewN | apply below_drew1 | refine below_set ?_ a | refine below_set ?_ b) | exact h)) : P := h q a b
theorem hc3 {P Q A B C : Prop} (q : Q) (a : A) (b : B) (c : C) (h : Q → A → B → C → P := by intro h a b c; repeat (first | (with_reducible first | exact h | apply below_alloc | apply pw_below_drewN | apply below_drew1 | refine below_set ?_ a | refine below_set ?_ b | refine below_set ?_ c) | exact h)) : P := h q a b c
theorem hc4 {P Q A B C D : Prop} (q : Q) (a : A) (b : B) (c : C) (d : D) (h : Q → A → B → C → D → P := by intro h a b c d; repeat (first | (with_reducible first | exact h | apply below_alloc | apply pw_below_drewN | apply below_drew1 | refine below_set ?_ a | refine below_set ?_ b | refine below_set ?_ c | refine below_set ?_ d) | exact h)) : P := h q a b c d
theorem lr {P Q : Prop} (q : Q) (h : Q → P := by intro h; (with_reducible repeat (first | apply Kd.R_alloc | apply Kd.R_drewN | apply Kd.R_drew)); exact h) : P := h q
theorem ln {P Q : Prop} (q : Q) (h : Q → P := by intro h; (with_reducible repeat (first | apply Kd.N_alloc | apply Kd.N_drewN | apply Kd.N_drew)); exact h) : P := h q
theorem ls {P Q : Prop} (q : Q) (h : Q → P := by intro h; (with_reducible repeat (first | apply Kd.S_alloc | apply Kd.S_drewN | apply Kd.S_drew)); exact h) : P := h q
theorem lv {P Q : Prop} (q : Q) (h : Q → P := by intro h; (with_reducible repeat (first | apply Kd.V_alloc | apply Kd.V_drewN | apply Kd.V_drew)); exact h) : P := h q
theorem od {p : Prop} [Decidable p] (h : decide p = true := by first | (with_reducible assumption) | assumption) : p := of_decide_eq_true h
theorem tp {p : Prop} (h : p := by (try simp only [List.map_toArray, List.map_cons, List.map_nil]); first | done | rfl | (simp only [List.length_drop, List.length_take]; rfl)) : p := h
theorem rs {p : Prop} (h : p := by first | rfl | (simp; done) | (simp [*]; done)) : p := h
section
variable {P : Program} {ops : Array Oper} {Q : Exit → Act → World → Prop} {md : Region.Mode} {S : World → Prop} {ds : List Nat} {T : Bool × List (List Nat × List Nat)}
theorem ao {l l' : Array Bool} {i : Nat} (hT : rtab md ops = T) (h : anyT T l.toList l'.toList i = true := by kernel_rfl) : anyB md ops l l' i = true := any_of hT h
theorem oo {l l' : Array Bool} {i : Nat} (hT : rtab md ops = T) (h : (readyT T.2 l.toList == [i] && l.toList.set i true == l'.toList) = true := by kernel_rfl) : readyB md ops l l' i = true := one_of hT h
theorem dn {l : Array Bool} (hT : rtab md ops = T) (h : (readyT T.2 l.toList == []) = true := by kernel_rfl) : (Region.ready md ops l == []) = true := done_of hT h
theorem pu {i : Nat} {N : Option Tmp} {oi : Oper} {fuel : Nat} {l : Array Bool} {a : Act} {w : World} (l' : Array Bool) (hi : ops[i]? = some oi) (hN : oi.dst = N) (hc : anyB md ops l l' i = true)
    {a' : Act} (ha : a.put N undef = a') (h : wpAnyLast P md ops Q S ds fuel l' a' w)
    (hQ : ∀ c a w, Q (.panic c) (a.put oi.dst undef) w → Q (.panic c) a w := by exact fun _ _ _ h => h) (hy : Region.wanted oi (yielded ops a.tmps) = false := by rfl) : wpAnyLast P md ops Q S ds (fuel + 1) l a w :=
  pure_ (v := undef) l' hi hN hc hQ (.inr ⟨hy, rfl⟩) ha h
theorem pv {i : Nat} {N : Option Tmp} {oi : Oper} {v : Value} {fuel : Nat} {l : Array Bool} {a : Act} {w : World} (l' : Array Bool) (hi : ops[i]? = some oi) (hN : oi.dst = N) (hc : anyB md ops l l' i = true)
    (hy : ∀ w, (execOp a.eval oi).run P w = .ok (.value v) w) {a' : Act} (ha : a.put N v = a') (h : wpAnyLast P md ops Q S ds fuel l' a' w)
    (hQ : ∀ c a w, Q (.panic c) (a.put oi.dst v) w → Q (.panic c) a w := by exact fun _ _ _ h => h) (hw : Region.wanted oi (yielded ops a.tmps) = true := by rfl) : wpAnyLast P md ops Q S ds (fuel + 1) l a w :=
  pure_ l' hi hN hc hQ (.inl ⟨hw, hy⟩) ha h
end
end Go.Proofs.YtabfehcpcjcomaaGreatDoor.R
namespace Go.Proofs
open Go.Shelf
def Tryz.lays321_ren : Go.Shelf.Ren := ⟨fun | 321 => 159 | n => n, fun | 5 => 5 | n => n, fun | n => n⟩
theorem Tryz.lays321 : Go.Proofs.Lays.n321 Tryz.prog Tryz.lays321_ren := {
  mixed := by kernel_rfl
  f321 := Tryz.func159.trans (congrArg some (by kernel_rfl))
  t5 := Tryz.underlying5
  a5 := Tryz.isAgg5
  z5 := Tryz.sizeOf5
  v5 := Tryz.zeroValue5 }
open Go.RowKit in
theorem Tryz.internal_strconv_lower (c : Int) (w : World) :
    Calls Tryz.prog 159 #[.int .u8 c] w fun e w' => e = .returned (.int .u8 (bits .or .u8 c 32)) ∧ w' = w := Any.internal_strconv_lower Tryz.lays321 c w
def Tryz.lays157_ren : Go.Shelf.Ren := ⟨fun | 157 => 132 | 229 => 144 | 199 => 145 | 261 => 152 | 311 => 162 | 312 => 163 | n => n, fun | 9 => 9 | 31 => 42 | 3 => 3 | 5 => 5 | 4 => 4 | 119 => 182 | 0 => 0 | 40 => 184 | 152 => 194 | 21 => 21 | 154 => 196 | 51 => 112 | 141 => 198 | 196 => 213 | 193 => 210 | 198 => 216 | 49 => 214 | 194 => 211 | 201 => 219 | 226 => 228 | 46 => 173 | 227 => 229 | n => n, fun | 0 => 1 | 6 => 2 | n => n⟩
theorem Tryz.lays157 : Go.Proofs.Lays.n157 Tryz.prog Tryz.lays157_ren := {
  mixed := by kernel_rfl
  f157 := Tryz.func132.trans (congrArg some (by kernel_rfl))
  f199 := Tryz.func145.trans (congrArg some (by kernel_rfl))
  f229 := Tryz.func144.trans (congrArg some (by kernel_rfl))
  f261 := Tryz.func152.trans (congrArg some (by kernel_rfl))
  f311 := Tryz.func162.trans (congrArg some (by kernel_rfl))
  f312 := Tryz.func163.trans (congrArg some (by kernel_rfl))
  t0 := Tryz.underlying0
  a0 := Tryz.isAgg0
  z0 := Tryz.sizeOf0
  v0 := Tryz.zeroValue0
  t3 := Tryz.underlying3
  a3 := Tryz.isAgg3
  z3 := Tryz.sizeOf3
  v3 := Tryz.zeroValue3
  t4 := Tryz.underlying4
  a4 := Tryz.isAgg4
  z4 := Tryz.sizeOf4
  v4 := Tryz.zeroValue4
  t5 := Tryz.underlying5
  a5 := Tryz.isAgg5
  z5 := Tryz.sizeOf5
  v5 := Tryz.zeroValue5
  t9 := Tryz.underlying9
  a9 := Tryz.isAgg9
  z9 := Tryz.sizeOf9
  v9 := Tryz.zeroValue9
  t21 := Tryz.underlying21
  a21 := Tryz.isAgg21
  z21 := Tryz.sizeOf21
  v21 := Tryz.zeroValue21
  t31 := Tryz.underlying42
  a31 := Tryz.isAgg42
  z31 := Tryz.sizeOf42
  v31 := Tryz.zeroValue42
  t40 := Tryz.underlying184
  a40 := Tryz.isAgg184
  z40 := Tryz.sizeOf184
  v40 := Tryz.zeroValue184
  t46 := Tryz.underlying173
  a46 := Tryz.isAgg173
  z46 := Tryz.sizeOf173
  v46 := Tryz.zeroValue173
  t49 := Tryz.underlying214
  a49 := Tryz.isAgg214
  z49 := Tryz.sizeOf214
  v49 := Tryz.zeroValue214
  t51 := Tryz.underlying112
  a51 := Tryz.isAgg112
  z51 := Tryz.sizeOf112
  v51 := Tryz.zeroValue112
  t119 := Tryz.underlying182
  a119 := Tryz.isAgg182
  z119 := Tryz.sizeOf182
  t141 := Tryz.underlying198
  a141 := Tryz.isAgg198
  z141 := Tryz.sizeOf198
  v141 := Tryz.zeroValue198
  t152 := Tryz.underlying194
  a152 := Tryz.isAgg194
  z152 := Tryz.sizeOf194
  v152 := Tryz.zeroValue194
  t154 := Tryz.underlying196
  a154 := Tryz.isAgg196
  z154 := Tryz.sizeOf196
  v154 := Tryz.zeroValue196
  t193 := Tryz.underlying210
  a193 := Tryz.isAgg210
  z193 := Tryz.sizeOf210
  v193 := Tryz.zeroValue210
  t194 := Tryz.underlying211
  a194 := Tryz.isAgg211
  z194 := Tryz.sizeOf211
  v194 := Tryz.zeroValue211
  t196 := Tryz.underlying213
  a196 := Tryz.isAgg213
  z196 := Tryz.sizeOf213
  v196 := Tryz.zeroValue213
  t198 := Tryz.underlying216
  a198 := Tryz.isAgg216
  z198 := Tryz.sizeOf216
  v198 := Tryz.zeroValue216
  t201 := Tryz.underlying219
  a201 := Tryz.isAgg219
  z201 := Tryz.sizeOf219
  v201 := Tryz.zeroValue219
  t226 := Tryz.underlying228
  a226 := Tryz.isAgg228
  z226 := Tryz.sizeOf228
  v226 := Tryz.zeroValue228
  t227 := Tryz.underlying229
  a227 := Tryz.isAgg229
  z227 := Tryz.sizeOf229
  v227 := Tryz.zeroValue229
  g0 := by kernel_rfl
  g6 := by kernel_rfl }
open Go.RowKit Go.Lib in
theorem Tryz.strings_Fields (s : ByteArray) (w : World) (hs : s.size < 4294967281) (hascii : ∀ (j : Nat) b, s.data.toList[j]? = some b → b.toNat < 128) (htab : Lib.TabIs Tryz.prog w "strings.asciiSpace" .u8 Lib.asciiSpaceTab) :
    Calls Tryz.prog 132 #[.string s] w fun e w' =>
      e = .returned (.slice (some ⟨w.heap.size, 0, none⟩) (Lib.fields s.data.toList).length (Lib.fields s.data.toList).length) ∧ w' = w.alloc (.cells ((Lib.fields s.data.toList).map fun l => Value.string ⟨l.toArray⟩).toArray 9) := Any.strings_Fields Tryz.lays157 (by kernel_rfl) (by kernel_rfl) s w hs hascii htab
end Go.Proofs
namespace Go.Proofs.YtabfehcpcjcomaaGreatDoor.R
open Go.RowKit Go.Proofs.YtabfehcpcjcomaaGreatDoorW.PrintWords Go.Proofs.YtabfehcpcjcomaaGreatDoorW.PrintLast Go.Proofs.YtabfehcpcjcomaaGreatDoorW.PrintMore
set_option linter.unusedVariables false
set_option linter.unusedSimpArgs false
abbrev Bs := List UInt8
def B (l : Bs) : ByteArray := ⟨l.toArray⟩
theorem B_data (l : Bs) : (B l).data.toList = l := rfl
theorem B_size (l : Bs) : (B l).size = l.length := by simp [B, ByteArray.size]
theorem snoc_ind {α : Type} {P : List α → Prop} (h0 : P []) (h1 : ∀ l a, P l → P (l ++ [a])) (l : List α) : P l := by
  rw [← List.reverse_reverse l]
  induction l.reverse with
  | nil => exact h0
  | cons a t ih => rw [List.reverse_cons]; exact h1 _ _ ih
structure RS where
  m : Nat
  nd : Nat
  dp : Int
  dot : Bool
  dig : Bool
def RS.zero : RS := ⟨0, 0, 0, false, false⟩
def stepR (r : RS) (c : UInt8) : RS :=
  if c = 46 then { r with dot := true, dp := r.nd }
  else if c = 48 ∧ r.nd = 0 then { r with dig := true, dp := r.dp - 1 }
  else { r with dig := true, nd := r.nd + 1, m := r.m * 10 + (c.toNat - 48) }
def rf (p : Bs) : RS := p.foldl stepR RS.zero
theorem rf_snoc (p : Bs) (c : UInt8) : rf (p ++ [c]) = stepR (rf p) c := by unfold rf; rw [List.foldl_append]; rfl
structure Num (T : Bs) : Prop where
  ch : ∀ c ∈ T, c = 46 ∨ (48 ≤ c.toNat ∧ c.toNat ≤ 57)
  len : T.length ≤ 19
  dots : ∀ p r, T = p ++ 46 :: r → (46 : UInt8) ∉ p
  dig : ∃ c ∈ T, 48 ≤ c.toNat ∧ c.toNat ≤ 57
theorem rf_bounds (p : Bs) (h : ∀ c ∈ p, c = 46 ∨ (48 ≤ c.toNat ∧ c.toNat ≤ 57)) : (rf p).nd ≤ p.length ∧ (rf p).m < 10 ^ (rf p).nd ∧ -(p.length : Int) ≤ (rf p).dp ∧ (rf p).dp ≤ p.length := by
  induction p using snoc_ind with
  | h0 => simp [rf, RS.zero]
  | h1 p c ih =>
    have h1 := ih (fun x hx => h x (List.mem_append_left _ hx))
    have h2 := h c (by simp)
    rw [rf_snoc, List.length_append, List.length_singleton]
    unfold stepR
    split
    · dsimp only; omega
    · split
      · dsimp only; omega
      · rename_i hc _
        dsimp only
        have h3 : 48 ≤ c.toNat ∧ c.toNat ≤ 57 := h2.resolve_left hc
        refine ⟨by omega, ?_, by omega, by omega⟩
        rw [Nat.pow_succ]
        omega
theorem rf_dot (p : Bs) (h : (46 : UInt8) ∉ p) : (rf p).dot = false := by
  induction p using snoc_ind with
  | h0 => rfl
  | h1 p c ih =>
    rw [rf_snoc]
    have hc : c ≠ 46 := fun e => h (by rw [e]; simp)
    have := ih (fun hm => h (List.mem_append_left _ hm))
    unfold stepR
    rw [if_neg hc]
    split <;> exact this
theorem rf_dig (p : Bs) (h : ∃ c ∈ p, 48 ≤ c.toNat ∧ c.toNat ≤ 57) : (rf p).dig = true := by
  induction p using snoc_ind with
  | h0 => simp at h
  | h1 p c ih =>
    rw [rf_snoc]
    unfold stepR
    by_cases hc : c = 46
    · rw [if_pos hc]
      obtain ⟨x, hx, hd⟩ := h
      rcases List.mem_append.1 hx with hx | hx
      · exact ih ⟨x, hx, hd⟩
      · rw [List.mem_singleton.1 hx, hc] at hd
        exact absurd hd (by decide)
    · rw [if_neg hc]
      split <;> rfl
def rfDp (T : Bs) : Int := if (rf T).dot = true then (rf T).dp else (rf T).nd
def rfExp (T : Bs) : Int := if (rf T).m = 0 then 0 else rfDp T - (rf T).nd
theorem wr64 (z : Int) (h : -4611686018427387904 ≤ z ∧ z ≤ 4611686018427387904) : wrap64 z = z := by unfold wrap64; omega
theorem u64w (z : Int) (h : 0 ≤ z ∧ z < 18446744073709551616) : IntKind.u64.wrap z = z := by simp [IntKind.wrap, IntKind.bits, IntKind.signed]; omega
theorem at_B (T : Bs) (i : Nat) (c : UInt8) (h : T[i]? = some c) : bt (B T) (i : Int) = (c.toNat : Int) := by
  have hi : i < T.length := (List.getElem?_eq_some_iff.1 h).1
  have e : bt (B T) (i : Int) = (((B T)[i]'(by rw [B_size]; exact hi)).toNat : Int) := by
    unfold bt
    rw [dif_pos (by rw [Int.toNat_natCast, B_size]; exact hi)]
    rfl
  rw [e]
  have : T[i] = c := by rw [List.getElem?_eq_getElem hi] at h; exact Option.some.inj h
  rw [← this]
  rfl
theorem el_at (T : Bs) (S : ByteArray) (hS : S = B T) (i : Nat) (c : UInt8) (h : T[i]? = some c) : ∀ hh : i < S.size, (S[i]'hh) = c := by
  subst hS
  intro hh
  have hi : i < T.length := (List.getElem?_eq_some_iff.1 h).1
  have : T[i] = c := by rw [List.getElem?_eq_getElem hi] at h; exact Option.some.inj h
  exact this
theorem lower_not (c : UInt8) (h : c = 46 ∨ (48 ≤ c.toNat ∧ c.toNat ≤ 57)) : bits .or .u8 (c.toNat : Int) 32 ≠ 120 := by
  have key : ∀ n : Fin 256, (n.val = 46 ∨ (48 ≤ n.val ∧ n.val ≤ 57)) → bits .or .u8 ((n.val : Nat) : Int) 32 ≠ 120 := by decide +kernel
  have hn : c.toNat = 46 ∨ (48 ≤ c.toNat ∧ c.toNat ≤ 57) := h.imp (fun e => by rw [e]; rfl) id
  exact key ⟨c.toNat, c.toNat_lt⟩ hn
theorem results_tmp7 {fn : Func} {a b c d e f g : Tmp} (h : fn.results = #[.tmp a, .tmp b, .tmp c, .tmp d, .tmp e, .tmp f, .tmp g]) (t : Array Value) (P : Program) (w : World) :
    Sem.run P (results fn t) w = Result.ok (.tuple #[t.getD a undef, t.getD b undef, t.getD c undef, t.getD d undef, t.getD e undef, t.getD f undef, t.getD g undef]) w := by
  simp [results, h, go_sem]
set_option maxHeartbeats 40000000 in
set_option maxRecDepth 100000 in
theorem read_float (T : Bs) (w : World) (h : Num T) :
    Calls Tryz.prog 169 #[.string (B T)] w fun e w' => e = .returned (.tuple #[.int .u64 (rf T).m, .int .i64 (rfExp T), .bool false, .bool false, .bool false, .int .i64 T.length, .bool true]) ∧ w' = w := by
  have H := Aside0.mk h
  obtain ⟨S, hS⟩ : ∃ S, S = B T := ⟨_, rfl⟩
  rw [← hS]
  have HS := Aside0.mk hS
  have hsz0 : S.size = T.length := by rw [hS]; exact B_size T
  have HSZ := Aside0.mk hsz0
  have hl19 := Aside0.mk h.len
  have hl0 : 0 < T.length := by obtain ⟨c, hc, _⟩ := h.dig; exact List.length_pos_of_mem hc
  have z0 : decide ((S.size : Int) ≤ 0) = false := decide_eq_false (by omega)
  have z0' : 0 < S.size := by rw [hsz0]; exact hl0
  have z0i : (0 : Int) < (S.size : Int) := by omega
  have z0n : ¬ (S.size = 0) := by omega
  obtain ⟨c0, hc0⟩ : ∃ c, T[0]? = some c := ⟨_, List.getElem?_eq_getElem hl0⟩
  have hcm := h.ch c0 (List.mem_of_getElem? hc0)
  have hx0 := el_at T S hS 0 c0 hc0
  have n43 : ¬ ((c0.toNat : Int) = 43) := by rcases hcm with rfl | hcm <;> first | decide | omega
  have n45 : ¬ ((c0.toNat : Int) = 45) := by rcases hcm with rfl | hcm <;> first | decide | omega
  have q43 : ((c0.toNat : Int) == 43) = false := beq_eq_false_iff_ne.2 n43
  have q45 : ((c0.toNat : Int) == 45) = false := beq_eq_false_iff_ne.2 n45
  have HCM := Aside0.mk hcm
  have HL0 := Aside0.mk hl0
  have HC0 := Aside0.mk hc0
  clear h hcm hS hsz0 hl0 hc0
  go_enter Tryz.func169, Tryz.ntmps169
  go_wp2
  go_step3
  go_upto_region 12 with (fail)
  clear q43 q45 n43 n45 z0
  go_cut [54] (fun v54 wc => v54 = .bool false ∧ wc = w)
  case first =>
    by_cases h2 : 2 < T.length
    · have q2 : decide ((2 : Int) < (S.size : Int)) = true := by have := HSZ.out; simp; omega
      have q2' : decide (2 < S.size) = true := by have := HSZ.out; simp; omega
      obtain ⟨c1, hc1⟩ : ∃ c, T[1]? = some c := ⟨_, List.getElem?_eq_getElem (by omega)⟩
      have hx1 := el_at T S HS.out 1 c1 hc1
      have z1 : (1 : Int) < (S.size : Int) := by have := HSZ.out; omega
      have z1' : 1 < S.size := by have := HSZ.out; omega
      have hb : bits .or .u8 (c1.toNat : Int) 32 ≠ 120 := lower_not c1 (H.out.ch c1 (List.mem_of_getElem? hc1))
      have q120 : (bits .or .u8 (c1.toNat : Int) 32 == 120) = false := beq_eq_false_iff_ne.2 hb
      clear h2 hc1
      by_cases h48 : (c0.toNat : Int) = 48
      · have q48 : ((c0.toNat : Int) == 48) = true := beq_iff_eq.2 h48
        clear h48
        go_wp2_with (go_at_call 159; refine (Tryz.internal_strconv_lower _ _).mono ?_; rintro e w1 ⟨rfl, rfl⟩)
        go_meet
        case rel => exact ⟨by first | rfl | (simp; done) | (simp [*]; done), rfl⟩
      · have q48 : ((c0.toNat : Int) == 48) = false := beq_eq_false_iff_ne.2 h48
        clear h48
        go_wp2_with (go_at_call 159; refine (Tryz.internal_strconv_lower _ _).mono ?_; rintro e w1 ⟨rfl, rfl⟩)
        go_meet
        case rel => exact ⟨by first | rfl | (simp; done) | (simp [*]; done), rfl⟩
    · have q2 : decide ((2 : Int) < (S.size : Int)) = false := by have := HSZ.out; simp; omega
      have q2' : decide (2 < S.size) = false := by have := HSZ.out; simp; omega
      clear h2
      go_wp2
      go_meet
      case rel => exact ⟨by first | rfl | (simp; done) | (simp [*]; done), rfl⟩
  case rest =>
    obtain ⟨rfl, rfl⟩ := hcut
    go_upto_region 23 with (fail)
    go_step3
    go_wp2
    go_goals
    go_loopg [2, 5, 7, 9, 13, 14, 15, 16, 17] T.length (fun kq v2 v5 v7 v9 v13 v14 v15 v16 v17 wr => ∃ p r, Aside0 (T = p ++ r) ∧ Aside0 (kq = r.length) ∧ v2 = .int .u64 (rf p).m ∧ v5 = .bool false ∧ v7 = .int .i64 p.length ∧ v9 = .bool false ∧ v13 = .bool (rf p).dot ∧ v14 = .bool (rf p).dig ∧ v15 = .int .i64 (rf p).nd ∧ v16 = .int .i64 (rf p).nd ∧ v17 = .int .i64 (rf p).dp ∧ wr = wc)
    case atStart => exact ⟨[], T, ⟨rfl⟩, ⟨rfl⟩, rfl, rfl, rfl, rfl, rfl, rfl, rfl, rfl, rfl, rfl⟩
    case round =>
      obtain ⟨p, r, HT, HK, rfl, rfl, rfl, rfl, rfl, rfl, rfl, rfl, rfl, rfl⟩ := hrel
      obtain ⟨hb1, hb2, hb3, hb4⟩ := rf_bounds p (fun c hc => H.out.ch c (by rw [HT.out]; exact List.mem_append_left _ hc))
      cases r with
      | nil =>
        have hp : T = p := by rw [HT.out, List.append_nil]
        subst hp
        have hT1 := HSZ.out
        have z1 : ¬ ((T.length : Int) < (S.size : Int)) := by omega
        have q1 : decide ((T.length : Int) < (S.size : Int)) = false := decide_eq_false z1
        have q1' : decide (T.length < S.size) = false := decide_eq_false (by omega)
        have hdg := rf_dig T H.out.dig
        rw [hdg]
        have hd' : -(19 : Int) ≤ (rf T).dp ∧ (rf T).dp ≤ 19 ∧ (rf T).nd ≤ 19 := by have := hl19.out; omega
        have wd := wr64 ((rf T).dp - (rf T).nd) (by omega)
        have wn := wr64 (((rf T).nd : Int) - ((rf T).nd : Int)) (by omega)
        clear hT1 hb1 hb2 hb3 hb4 hd' hdg
        have WD := Aside0.mk wd
        have WN := Aside0.mk wn
        clear wd wn
        have key : ∀ e : Int, rfExp T = e → rfExp T = e := fun _ h => h
        by_cases hm : (rf T).m = 0
        · have qm : (((rf T).m : Int) != 0) = false := by rw [hm]; rfl
          have hE : rfExp T = 0 := by unfold rfExp; rw [if_pos hm]
          have HE := Aside0.mk hE
          clear hE hm key
          cases hdot : (rf T).dot
          · clear hdot
            go_wp2
            all_goals exact bodyPost_ret (results_tmp7 rfl _ _ _) rfl ⟨by rw [HE.out]; rfl, rfl⟩
          · clear hdot
            go_wp2
            all_goals exact bodyPost_ret (results_tmp7 rfl _ _ _) rfl ⟨by rw [HE.out]; rfl, rfl⟩
        · have qm : (((rf T).m : Int) != 0) = true := bne_iff_ne.2 (by omega)
          have hE : rfExp T = rfDp T - (rf T).nd := by unfold rfExp; rw [if_neg hm]
          cases hdot : (rf T).dot
          · have hE2 : rfExp T = wrap64 (((rf T).nd : Int) - ((rf T).nd : Int)) := by rw [WN.out, hE]; unfold rfDp; rw [hdot]; rfl
            have HE := Aside0.mk hE2
            clear hE hE2 hm key hdot
            go_wp2
            all_goals exact bodyPost_ret (results_tmp7 rfl _ _ _) rfl ⟨by rw [HE.out]; simp; exact (wr64 0 (by omega)).symm, rfl⟩
          · have hE2 : rfExp T = wrap64 ((rf T).dp - ((rf T).nd : Int)) := by rw [WD.out, hE]; unfold rfDp; rw [hdot]; rfl
            have HE := Aside0.mk hE2
            clear hE hE2 hm key hdot
            go_wp2
            all_goals exact bodyPost_ret (results_tmp7 rfl _ _ _) rfl ⟨by rw [HE.out]; rfl, rfl⟩
      | cons c r =>
        have hpl : p.length < T.length := by rw [HT.out]; simp
        have hT1 := HSZ.out
        have z1 : (p.length : Int) < (S.size : Int) := by omega
        have z1' : p.length < S.size := by omega
        have q1 : decide ((p.length : Int) < (S.size : Int)) = true := decide_eq_true z1
        have hg : T[p.length]? = some c := by rw [HT.out]; simp
        have hx := el_at T S HS.out p.length c hg
        have hcm := H.out.ch c (List.mem_of_getElem? hg)
        have n95 : ¬ ((c.toNat : Int) = 95) := by rcases hcm with rfl | hcm <;> first | decide | omega
        have q95 : ((c.toNat : Int) == 95) = false := beq_eq_false_iff_ne.2 n95
        have HCM := Aside0.mk hcm
        have HG := Aside0.mk hg
        clear hcm hg n95
        by_cases h46 : c = 46
        · have hd : (rf p).dot = false := rf_dot p (H.out.dots p r (by rw [HT.out, h46]))
          have q46 : ((c.toNat : Int) == 46) = true := by rw [h46]; rfl
          have H46 := Aside0.mk h46
          clear h46
          rw [hd]
          go_wp2
          go_goals
          go_roundg r.length
          case measure => have := HK.out; simp only [List.length_cons] at this; omega
          case rel =>
            have e := rf_snoc p c
            unfold stepR at e
            rw [if_pos H46.out] at e
            refine ⟨p ++ [c], r, ⟨by rw [HT.out]; simp⟩, ⟨rfl⟩, by rw [e], rfl, by rw [wr64 _ (by have := hl19.out; omega)]; simp, rfl, by rw [e], by rw [e], by rw [e], by rw [e], by rw [e], rfl⟩
        · have hr : 48 ≤ c.toNat ∧ c.toNat ≤ 57 := HCM.out.resolve_left h46
          have e := rf_snoc p c
          unfold stepR at e
          rw [if_neg h46] at e
          have q46 : ((c.toNat : Int) == 46) = false := beq_eq_false_iff_ne.2 (by omega)
          have qa : decide ((48 : Int) ≤ (c.toNat : Int)) = true := decide_eq_true (by omega)
          have qb : decide ((c.toNat : Int) ≤ (57 : Int)) = true := decide_eq_true (by omega)
          by_cases h0 : c = 48 ∧ (rf p).nd = 0
          · rw [if_pos h0] at e
            have E := Aside0.mk e
            have q48 : ((c.toNat : Int) == 48) = true := by rw [h0.1]; rfl
            have qn : (((rf p).nd : Int) == 0) = true := by rw [h0.2]; rfl
            clear e h0 h46 hr
            go_wp2
            go_goals
            go_roundg r.length
            case measure => have := HK.out; simp only [List.length_cons] at this; omega
            case rel =>
              have e := E.out
              refine ⟨p ++ [c], r, ⟨by rw [HT.out]; simp⟩, ⟨rfl⟩, by rw [e], rfl, by rw [wr64 _ (by have := hl19.out; omega)]; simp, rfl, by rw [e], by rw [e], by rw [e], by rw [e], by rw [e, wr64 _ (by have := hl19.out; omega)], rfl⟩
          · rw [if_neg h0] at e
            have E := Aside0.mk e
            have hlt : (rf p).nd < 19 := by have := hl19.out; omega
            have HR := Aside0.mk hr
            have HM : Aside0 ((rf p).m < 1000000000000000000) := ⟨Nat.lt_of_lt_of_le hb2 (by have : (10:Nat) ^ (rf p).nd ≤ 10 ^ 18 := Nat.pow_le_pow_right (by omega) (by omega); exact this)⟩
            have ql : decide (((rf p).nd : Int) < 19) = true := decide_eq_true (by omega)
            by_cases h48 : c = 48
            · have q48 : ((c.toNat : Int) == 48) = true := by rw [h48]; rfl
              have qn : (((rf p).nd : Int) == 0) = false := beq_eq_false_iff_ne.2 (by intro h; exact h0 ⟨h48, by omega⟩)
              clear e h0 h46 h48
              go_wp2
              go_goals
              go_roundg r.length
              case measure => have := HK.out; simp only [List.length_cons] at this; omega
              case rel =>
                have e := E.out
                have hr := HR.out
                have hm := HM.out
                refine ⟨p ++ [c], r, ⟨by rw [HT.out]; simp⟩, ⟨rfl⟩, by rw [e, u64w ((rf p).m * 10) (by omega), u64w _ (by omega)]; congr 1; dsimp only; omega, rfl, by rw [wr64 _ (by have := hl19.out; omega)]; simp, rfl, by rw [e], by rw [e], by rw [e]; rfl, by rw [e]; rfl, by rw [e], rfl⟩
            · have q48 : ((c.toNat : Int) == 48) = false := beq_eq_false_iff_ne.2 (by intro h; exact h48 (UInt8.toNat_inj.1 (by change c.toNat = 48; omega)))
              clear e h0 h46 h48
              go_wp2
              go_goals
              go_roundg r.length
              case measure => have := HK.out; simp only [List.length_cons] at this; omega
              case rel =>
                have e := E.out
                have hr := HR.out
                have hm := HM.out
                refine ⟨p ++ [c], r, ⟨by rw [HT.out]; simp⟩, ⟨rfl⟩, by rw [e, u64w ((rf p).m * 10) (by omega), u64w _ (by omega)]; congr 1; dsimp only; omega, rfl, by rw [wr64 _ (by have := hl19.out; omega)]; simp, rfl, by rw [e], by rw [e], by rw [e]; rfl, by rw [e]; rfl, by rw [e], rfl⟩
end Go.Proofs.YtabfehcpcjcomaaGreatDoor.R
namespace Go.Proofs.YtabfehcpcjcomaaGreatDoor.R
open Go.RowKit Go.Proofs.YtabfehcpcjcomaaGreatDoorW.PrintWords Go.Proofs.YtabfehcpcjcomaaGreatDoorW.PrintLast Go.Proofs.YtabfehcpcjcomaaGreatDoorW.PrintMore
set_option linter.unusedVariables false
set_option linter.unusedSimpArgs false
def pow10F : List Nat := [4607182418800017408, 4621819117588971520, 4636737291354636288, 4652007308841189376, 4666723172467343360, 4681608360884174848, 4696837146684686336, 4711630319722168320, 4726483295884279808, 4741671816366391296, 4756540486875873280, 4771362005757984768, 4786511204640096256, 4801453603149578240, 4816244402031689728, 4831355200913801216, 4846369599423283200, 4861130398305394688, 4876203697187506176, 4891288408196988160, 4906019910204099648, 4921056587992461136, 4936209963552724370]
def fval (m : Nat) (e : Int) : Option Nat :=
  if m = 0 then some 0 else if e = 0 then some (floatOfInt .f64 m) else floatBits .quo .f64 (floatOfInt .f64 m) (pow10F.getD (-e).toNat 0)
structure FTabs (w : World) : Prop where
  opt : w.cell? ⟨6, 0, none⟩ = some (.bool true)
  info : w.cell? ⟨7, 0, none⟩ = some (.int .u64 52)
  pow : ∃ (A : Addr) (c : Nat), w.cell? ⟨10, 0, none⟩ = some (.slice (some A) 23 c) ∧ 23 ≤ c ∧ ∀ i, i < 23 → w.cell? (A.add i) = some (.float .f64 (pow10F.getD i 0))
set_option maxHeartbeats 4000000 in
set_option maxRecDepth 100000 in
theorem special_no (T : Bs) (w : World) (h : Num T) : Calls Tryz.prog 168 #[.string (B T)] w fun e w' => e = .returned (.tuple #[.float .f64 0, .int .i64 0, .bool false]) ∧ w' = w := by
  obtain ⟨S, hS⟩ : ∃ S, S = B T := ⟨_, rfl⟩
  rw [← hS]
  have hsz0 : S.size = T.length := by rw [hS]; exact B_size T
  have hl0 : 0 < T.length := by obtain ⟨c, hc, _⟩ := h.dig; exact List.length_pos_of_mem hc
  obtain ⟨c0, hc0⟩ : ∃ c, T[0]? = some c := ⟨_, List.getElem?_eq_getElem hl0⟩
  have hcm := h.ch c0 (List.mem_of_getElem? hc0)
  have hx0 := el_at T S hS 0 c0 hc0
  have z0 : (0 : Int) < (S.size : Int) := by omega
  have z0' : 0 < S.size := by omega
  have z0n : ¬ (S.size = 0) := by omega
  have z0q : ((S.size : Int) == 0) = false := beq_eq_false_iff_ne.2 (by omega)
  have key : ∀ k : Int, k = 43 ∨ k = 45 ∨ k = 105 ∨ k = 73 ∨ k = 110 ∨ k = 78 → ((c0.toNat : Int) == k) = false := by
    intro k hk
    refine beq_eq_false_iff_ne.2 ?_
    rcases hcm with rfl | hcm <;> rcases hk with rfl | rfl | rfl | rfl | rfl | rfl <;> first | decide | omega
  have q1 := key 43 (by omega)
  have q2 := key 45 (by omega)
  have q3 := key 105 (by omega)
  have q4 := key 73 (by omega)
  have q5 := key 110 (by omega)
  have q6 := key 78 (by omega)
  clear key hcm hS hsz0 h hc0
  go_enter Tryz.func168, Tryz.ntmps168
  go_wp2
  all_goals exact bodyPost_ret (results_tmp3 rfl _ _ _) rfl ⟨rfl, rfl⟩
set_option maxHeartbeats 4000000 in
set_option maxRecDepth 100000 in
theorem exact_ok (m : Nat) (hm : m < 4503599627370496) (hm0 : m ≠ 0) (e : Int) (he : -22 ≤ e ∧ e ≤ 0) (q : Nat) (hq : fval m e = some q) (w : World) (hT : FTabs w) :
    Calls Tryz.prog 179 #[.int .u64 m, .int .i64 e, .bool false] w fun r w' => r = .returned (.tuple #[.float .f64 q, .bool true]) ∧ w' = w := by
  have h9 := hT.info
  obtain ⟨A, c, h12, hc, hp⟩ := hT.pow
  have hdv : (m : Int) / 4503599627370496 = 0 := by omega
  have hdq : ((m : Int) / 4503599627370496 != 0) = false := by rw [hdv]; rfl
  by_cases h0 : e = 0
  · subst h0
    have hq' : floatOfInt .f64 m = q := by unfold fval at hq; rw [if_neg hm0, if_pos rfl] at hq; exact Option.some.inj hq
    clear hdv
    go_enter Tryz.func179, Tryz.ntmps179
    go_wp2
    all_goals exact bodyPost_ret (results_tmp2 rfl _ _ _) rfl ⟨rfl, rfl⟩
  · obtain ⟨k, hk⟩ : ∃ k : Nat, e = -(k : Int) := ⟨(-e).toNat, by omega⟩
    have hk1 : 1 ≤ k ∧ k ≤ 22 := by omega
    have hq' : floatBits .quo .f64 (floatOfInt .f64 m) (pow10F.getD k 0) = some q := by
      unfold fval at hq
      rw [if_neg hm0, if_neg h0, hk, Int.neg_neg] at hq
      exact hq
    have hquo : ∀ W, (binOp .quo 31 (.float .f64 (floatOfInt .f64 m)) (.float .f64 (pow10F.getD k 0))).run Tryz.prog W = .ok (.float .f64 q) W := fun W => run_float_arith W .quo 31 .f64 _ _ _ hq'
    have hcell := hp k (by omega)
    subst hk
    have n1 : wrap64 (-(-(k : Int))) = k := by rw [Int.neg_neg]; exact wr64 _ (by omega)
    have n2 : wrap64 ((k : Int)) = k := wr64 _ (by omega)
    have e0 : ((-(k : Int)) == 0) = false := beq_eq_false_iff_ne.2 (by omega)
    have e1 : decide (0 < (-(k : Int))) = false := decide_eq_false (by omega)
    have e2 : decide ((-(k : Int)) < 0) = true := decide_eq_true (by omega)
    have e3 : decide ((-22 : Int) ≤ (-(k : Int))) = true := decide_eq_true (by omega)
    have e4 : (k : Int) < 23 := by omega
    have e5 : (0 : Int) ≤ k := by omega
    have e6 : k < 23 := by omega
    generalize pow10F.getD k 0 = pv at hquo hcell
    clear hq hq' hdv hp
    go_enter Tryz.func179, Tryz.ntmps179
    go_wp2
    all_goals exact bodyPost_ret (results_tmp2 rfl _ _ _) rfl ⟨rfl, rfl⟩
set_option maxHeartbeats 4000000 in
set_option maxRecDepth 100000 in
theorem bool2_false (w : World) : Calls Tryz.prog 177 #[.bool false] w fun r w' => r = .returned (.int .u64 0) ∧ w' = w := by
  go_enter Tryz.func177, Tryz.ntmps177
  go_wp2
  go_ret
  exact ⟨rfl, rfl⟩
theorem from_bits (n : Int) (w : World) : (callFunc 178 #[.int .u64 n]).run Tryz.prog w = .ok (.value (.float .f64 n.toNat)) w := by
  rw [run_callFunc_extern (e := Extern.MathFloatBits.float64frombits) Tryz.func178 (by kernel_rfl) (by kernel_rfl) (by kernel_rfl) (by kernel_rfl)]
  rfl
set_option maxHeartbeats 4000000 in
set_option maxRecDepth 100000 in
theorem atof64_ok (T : Bs) (w : World) (h : Num T) (hm : (rf T).m < 4503599627370496) (he : -22 ≤ rfExp T ∧ rfExp T ≤ 0) (q : Nat) (hq : fval (rf T).m (rfExp T) = some q) (hT : FTabs w) :
    Calls Tryz.prog 165 #[.string (B T)] w fun r w' => r = .returned (.tuple #[.float .f64 q, .int .i64 T.length, .nilIface]) ∧ w' = w := by
  have h8 := hT.opt
  have H := Aside0.mk h
  have HT := Aside0.mk hT
  have HQ := Aside0.mk hq
  have HM := Aside0.mk hm
  have HE := Aside0.mk he
  have e1 : decide ((310 : Int) < rfExp T) = false := decide_eq_false (by omega)
  have e2 : decide (rfExp T < (-345 : Int)) = false := decide_eq_false (by omega)
  by_cases h0 : (rf T).m = 0
  · have q0 : (((rf T).m : Int) == 0) = true := by rw [h0]; rfl
    have hqz : q = 0 := by unfold fval at hq; rw [if_pos h0] at hq; exact (Option.some.inj hq).symm
    subst hqz
    clear hq hm he h hT h0
    have hfb := from_bits
    go_enter Tryz.func165, Tryz.ntmps165
    go_wp2_with (first
      | (go_at_call 168; refine (special_no T _ H.out).mono ?_; rintro e w1 ⟨rfl, rfl⟩)
      | (go_at_call 169; refine (read_float T _ H.out).mono ?_; rintro e w1 ⟨rfl, rfl⟩)
      | (go_at_call 177; refine (bool2_false _).mono ?_; rintro e w1 ⟨rfl, rfl⟩))
    all_goals exact bodyPost_ret (results_tmp3 rfl _ _ _) rfl ⟨rfl, rfl⟩
  · have q0 : (((rf T).m : Int) == 0) = false := beq_eq_false_iff_ne.2 (by omega)
    have H0 := Aside0.mk h0
    clear hq hm he h hT h0
    go_enter Tryz.func165, Tryz.ntmps165
    go_wp2_with (first
      | (go_at_call 168; refine (special_no T _ H.out).mono ?_; rintro e w1 ⟨rfl, rfl⟩)
      | (go_at_call 169; refine (read_float T _ H.out).mono ?_; rintro e w1 ⟨rfl, rfl⟩)
      | (go_at_call 177; refine (bool2_false _).mono ?_; rintro e w1 ⟨rfl, rfl⟩)
      | (go_at_call 179; refine (exact_ok _ HM.out H0.out _ HE.out _ HQ.out _ HT.out).mono ?_; rintro e w1 ⟨rfl, rfl⟩))
    all_goals exact bodyPost_ret (results_tmp3 rfl _ _ _) rfl ⟨rfl, rfl⟩
set_option maxHeartbeats 4000000 in
set_option maxRecDepth 100000 in
theorem float_prefix (T : Bs) (w : World) (h : Num T) (hm : (rf T).m < 4503599627370496) (he : -22 ≤ rfExp T ∧ rfExp T ≤ 0) (q : Nat) (hq : fval (rf T).m (rfExp T) = some q) (hT : FTabs w) :
    Calls Tryz.prog 153 #[.string (B T), .int .i64 64] w fun r w' => r = .returned (.tuple #[.float .f64 q, .int .i64 T.length, .nilIface]) ∧ w' = w := by
  go_enter Tryz.func153, Tryz.ntmps153
  go_wp2_with (first
    | (go_at_call 165; refine (atof64_ok T _ h hm he q hq hT).mono ?_; rintro e w1 ⟨rfl, rfl⟩))
  all_goals exact bodyPost_ret (results_tmp3 rfl _ _ _) rfl ⟨rfl, rfl⟩
set_option maxHeartbeats 4000000 in
set_option maxRecDepth 100000 in
theorem parse_float_in (T : Bs) (w : World) (h : Num T) (hm : (rf T).m < 4503599627370496) (he : -22 ≤ rfExp T ∧ rfExp T ≤ 0) (q : Nat) (hq : fval (rf T).m (rfExp T) = some q) (hT : FTabs w) :
    Calls Tryz.prog 146 #[.string (B T), .int .i64 64] w fun r w' => r = .returned (.tuple #[.float .f64 q, .nilIface]) ∧ w' = w := by
  have hsz := B_size T
  go_enter Tryz.func146, Tryz.ntmps146
  go_wp2_with (first
    | (go_at_call 153; refine (float_prefix T _ h hm he q hq hT).mono ?_; rintro e w1 ⟨rfl, rfl⟩))
  all_goals exact bodyPost_ret (results_tmp2 rfl _ _ _) rfl ⟨rfl, rfl⟩
set_option maxHeartbeats 4000000 in
set_option maxRecDepth 100000 in
theorem parse_float (T : Bs) (w : World) (h : Num T) (hm : (rf T).m < 4503599627370496) (he : -22 ≤ rfExp T ∧ rfExp T ≤ 0) (q : Nat) (hq : fval (rf T).m (rfExp T) = some q) (hT : FTabs w) :
    Calls Tryz.prog 133 #[.string (B T), .int .i64 64] w fun r w' => r = .returned (.tuple #[.float .f64 q, .nilIface]) ∧ w' = w := by
  go_enter Tryz.func133, Tryz.ntmps133
  go_wp2_with (first
    | (go_at_call 146; refine (parse_float_in T _ h hm he q hq hT).mono ?_; rintro e w1 ⟨rfl, rfl⟩))
  all_goals exact bodyPost_ret (results_tmp2 rfl _ _ _) rfl ⟨rfl, rfl⟩
end Go.Proofs.YtabfehcpcjcomaaGreatDoor.R
namespace Go.Proofs.YtabfehcpcjcomaaGreatDoorW.PrintLast
open Go Go.RowKit Go.Proofs.YtabfehcpcjcomaaGreatDoorW.PrintWords
def kF64 : Kd Nat := Kd.scalar (Value.float .f64) (fun _ => rfl)
theorem at_f64 {w : World} {A : Option Addr} {n : Nat} {xs : List Nat} (h : kF64.C w A n xs) (i : Int) (h0 : 0 ≤ i) (h1 : i < n) : ∃ ad, A = some ad ∧ w.cell? (ad.add i.toNat) = some (.float .f64 (rdOf 0 xs i)) :=
  ReadsOf.at_ (Kd.reads_of_C (enc := Value.float .f64) (d := 0) (h1 := fun _ => rfl) h) i h0 h1
@[go_sem] theorem run_store_float (P : Program) (w : World) (a : Addr) (k : FloatKind) (q : Nat) (m : Mode) : (store a (.float k q) m).run P w = stored P w a (.float k q) m := run_store P w a _ m rfl
end Go.Proofs.YtabfehcpcjcomaaGreatDoorW.PrintLast
namespace Go.Proofs.YtabfehcpcjcomaaGreatDoor.R
open Go.RowKit Go.Proofs.YtabfehcpcjcomaaGreatDoorW.PrintWords Go.Proofs.YtabfehcpcjcomaaGreatDoorW.PrintLast Go.Proofs.YtabfehcpcjcomaaGreatDoorW.PrintMore
set_option linter.unusedVariables false
set_option linter.unusedSimpArgs false
theorem cell_below {w w' : World} (h : Below w.heap.size w w') {a : Addr} {v : Value} (hc : w.cell? a = some v) : w'.cell? a = some v := by
  have hlt : a.block < w.heap.size := by
    rcases Nat.lt_or_ge a.block w.heap.size with h' | h'
    · exact h'
    · simp [World.cell?, Array.getElem?_eq_none h'] at hc
  rw [← hc]
  simp [World.cell?, h.block a.block hlt]
theorem keepB {B : Nat} {W w1 w2 : World} (h : Below B W w1) (h2 : Below w1.heap.size w1 w2) (hB : B ≤ W.heap.size) : Below B W w2 :=
  below_then h (Nat.le_trans hB h.size) h2
theorem FTabs.below {w w' : World} (h : FTabs w) (hb : Below w.heap.size w w') : FTabs w' := by
  obtain ⟨A, c, h1, h2, h3⟩ := h.pow
  exact ⟨cell_below hb h.opt, cell_below hb h.info, A, c, cell_below hb h1, h2, fun i hi => cell_below hb (h3 i hi)⟩
structure LTabs (w : World) : Prop where
  f : FTabs w
  s : Lib.TabIs Tryz.prog w "strings.asciiSpace" .u8 Lib.asciiSpaceTab
theorem LTabs.below {w w' : World} (h : LTabs w) (hb : Below w.heap.size w w') : LTabs w' := ⟨h.f.below hb, Joins.tab_stays (B := w.heap.size) (g := 1) (by kernel_rfl) h.s hb (Nat.le_refl _)⟩
def bs (l : List UInt8) : ByteArray := ⟨l.toArray⟩
def Asc (T : ByteArray) : Bool := T.data.toList.all (fun c => decide (c.toNat < 128))
def fieldsF (T : ByteArray) : Option (List ByteArray) := if T.size ≤ 1048576 ∧ Asc T = true then some ((Lib.fields T.data.toList).map bs) else none
theorem cntF_le : ∀ (l : List UInt8) (b : Bool), Lib.cntF b l ≤ l.length
  | [], _ => by simp [Lib.cntF]
  | c :: l, b => by
    have := cntF_le l (Lib.isSp c)
    simp only [Lib.cntF, List.length_cons]
    split <;> omega
theorem fields_len (l : List UInt8) : (Lib.fields l).length ≤ l.length + 1 := by
  unfold Lib.fields
  rw [Lib.fieldsGo_length]
  have := cntF_le l ([] : List UInt8).isEmpty
  split <;> omega
theorem fields_calls (T : ByteArray) (r : List ByteArray) (w : World) (h : fieldsF T = some r) (hT : LTabs w) :
    Calls Tryz.prog 132 #[.string T] w fun e w' => ∃ v0_ : Value, e = .returned v0_ ∧ Kd.R Kd.string 9 w' w.heap.size (fun _ => True) v0_ r ∧ Below w.heap.size w w' := by
  unfold fieldsF at h
  split at h
  · rename_i hs
    obtain ⟨hs, ha⟩ := hs
    obtain rfl := Option.some.inj h
    have hlen : T.data.toList.length = T.size := by rw [Array.length_toList]; rfl
    have hf := fields_len T.data.toList
    refine (Tryz.strings_Fields T w (by omega) (fun j b hb => ?_) hT.s).mono ?_
    · exact of_decide_eq_true (List.all_eq_true.1 ha b (List.mem_of_getElem? hb))
    · rintro e w' ⟨rfl, rfl⟩
      refine ⟨_, rfl, Kd.R_of_own ?_ (fun _ _ => trivial), below_alloc (Below.refl _ _) _⟩
      refine ⟨by simp [encs], .inr ⟨w.heap.size, _, _, by simp; rfl, Nat.le_refl _, blk_new _ _, by simp, ?_, by simp, ?_⟩⟩
      · unfold maxLen; omega
      · simp only [encs, List.map_map, Nat.mul_one, List.length_map]
        rw [List.take_of_length_le (by simp)]
        rfl
  · cases h
@[go_sem] theorem float_bits (n : Nat) (w : World) : (callFunc 95 #[.float .f64 n]).run Tryz.prog w = .ok (.value (.int .u64 (n : Int))) w := by
  rw [run_callFunc_extern (e := Extern.MathFloatBits.float64bits) Tryz.func95 (by kernel_rfl) (by kernel_rfl) (by kernel_rfl) (by kernel_rfl)]
  rfl
def numOk (T : Bs) : Bool := T.all (fun c => c == 46 || (48 ≤ c.toNat && c.toNat ≤ 57)) && decide (T.length ≤ 19) && decide ((T.filter (· == 46)).length ≤ 1) && T.any (fun c => 48 ≤ c.toNat && c.toNat ≤ 57)
theorem num_of (T : Bs) (hc : T.all (fun c => c == 46 || (48 ≤ c.toNat && c.toNat ≤ 57)) = true) (hl : T.length ≤ 19) (hd : (T.filter (· == 46)).length ≤ 1) (hg : T.any (fun c => 48 ≤ c.toNat && c.toNat ≤ 57) = true) : Num T where
  ch c h := by
    have := List.all_eq_true.1 hc c h
    simp only [Bool.or_eq_true, beq_iff_eq, Bool.and_eq_true, decide_eq_true_eq] at this
    exact this
  len := hl
  dots p r e := by
    intro hp
    rw [e, List.filter_append, List.filter_cons] at hd
    simp only [BEq.rfl, if_true, List.length_append, List.length_cons] at hd
    have : 0 < (p.filter (· == 46)).length := List.length_pos_of_mem (List.mem_filter.2 ⟨hp, by simp⟩)
    omega
  dig := by
    obtain ⟨c, h, hc⟩ := List.any_eq_true.1 hg
    simp only [Bool.and_eq_true, decide_eq_true_eq] at hc
    exact ⟨c, h, hc⟩
def floatF (T : ByteArray) (n : Int) : Option (Nat × Option Int) :=
  if n = 64 ∧ numOk T.data.toList = true ∧ (rf T.data.toList).m < 4503599627370496 ∧ -22 ≤ rfExp T.data.toList ∧ rfExp T.data.toList ≤ 0 then (fval (rf T.data.toList).m (rfExp T.data.toList)).map fun q => (q, none)
  else none
theorem float_calls (T : ByteArray) (n : Int) (r1 : Nat) (r2 : Option Int) (w : World) (h : floatF T n = some (r1, r2)) (hT : LTabs w) :
    Calls Tryz.prog 133 #[.string T, .int .i64 n] w fun e w' => e = .returned (.tuple #[.float .f64 r1, .nilIface]) ∧ r2 = none ∧ w' = w := by
  unfold floatF at h
  split at h
  · rename_i hs
    obtain ⟨rfl, hn, hm, he1, he2⟩ := hs
    obtain ⟨q, hq, h⟩ := Option.map_eq_some_iff.1 h
    simp only [Prod.mk.injEq] at h
    obtain ⟨rfl, rfl⟩ := h
    unfold numOk at hn
    simp only [Bool.and_eq_true, decide_eq_true_eq] at hn
    have hN := num_of T.data.toList hn.1.1.1 hn.1.1.2 hn.1.2 hn.2
    have hTT : B T.data.toList = T := by cases T; rfl
    have := parse_float T.data.toList w hN hm ⟨he1, he2⟩ q hq hT.f
    rw [hTT] at this
    exact this.mono fun e w' ⟨he, hw⟩ => ⟨he, rfl, hw⟩
  · cases h
end Go.Proofs.YtabfehcpcjcomaaGreatDoor.R
namespace Go.Proofs.YtabfehcpcjcomaaGreatDoorW.PrintLast
open Go Go.RowKit Go.Proofs.YtabfehcpcjcomaaGreatDoorW.PrintWords
theorem goesT_ {P : Program} {ops : Array Oper} {Q : Exit → Act → World → Prop} {oi : Oper} {N : Option Tmp} {a : Act} {w : World} {K : Act → World → Prop} {f : FuncId} {fn : Func} {as_ : Array Operand} {ts : Array TypeId} {p : Operand} (hf : P.funcs[f]? = some fn) (hname : (fn.name == "runtime.NumGoroutine") = false) (hb : fn.body.isSome = true) (args : Array Value)
    (hw : Region.wanted oi (yielded ops a.tmps) = true) (hN : oi.dst = N) (hop : oi.op = .call { callee := .value p, args := as_, argTypes := ts }) (hp : a.eval p = .func (.func f) #[] #[]) (hargs : as_.map a.eval = args)
    (h : Calls P f args w fun e w' => ∃ v, e = .returned v ∧ K (a.put N v) w') : if Region.wanted oi (yielded ops a.tmps) = true then Oper.wp P oi a w K Q else K (a.put N undef) w := by
  refine call_ f args hw hN ?_ h
  have he := enters_ hf hname hb args w
  unfold execOp
  simp [hop, resolve, Deferred.ofValue, invoke, hp, hargs, he]
end Go.Proofs.YtabfehcpcjcomaaGreatDoorW.PrintLast
namespace Go.Proofs.YtabfehcpcjcomaaGreatDoor.R
open Go.RowKit Go.Proofs.YtabfehcpcjcomaaGreatDoorW.PrintWords Go.Proofs.YtabfehcpcjcomaaGreatDoorW.PrintLast Go.Proofs.YtabfehcpcjcomaaGreatDoorW.PrintMore
set_option linter.unusedVariables false
set_option linter.unusedSimpArgs false
theorem below_bytes (w : World) (e : TypeId) (s : ByteArray) : Below w.heap.size w (Lib.bytesWorld w e s) := ⟨rfl, rfl, rfl, by rw [Lib.bytesWorld_size]; omega, fun j hj => Lib.bytesWorld_at_old w e s j hj⟩
def Txt (w : World) (v : Value) (T : ByteArray) : Prop := ∃ b c, v = .slice (some ⟨b, 0, none⟩) T.size c ∧ ∀ j (hj : j < T.size), w.cell? ⟨b, j, none⟩ = some (.int .u8 (T.data.toList.getD j 0).toNat)
set_option maxHeartbeats 4000000 in
set_option maxRecDepth 100000 in
theorem read_text (T : ByteArray) (w : World) (h : T.size ≤ 1048576) :
    Calls Tryz.prog 105 #[.string T] w fun e w' => ∃ v, e = .returned (.tuple #[v, .nilIface]) ∧ Txt w' v T ∧ Below w.heap.size w w' := by
  have q : decide ((1048576 : Int) < (T.size : Int)) = false := decide_eq_false (by omega)
  have hcv := fun W => Lib.run_convert_string_bytes (P := Tryz.prog) W 9 136 5 T Tryz.underlying9 Tryz.underlying136 Tryz.underlying5
  go_enter Tryz.func105, Tryz.ntmps105
  go_wp2
  refine bodyPost_ret (results_tmp2 rfl _ _ _) rfl ⟨_, rfl, ⟨_, _, rfl, fun j hj => ?_⟩, below_bytes _ _ _⟩
  exact Lib.bytesWorld_cell w 5 T j hj
set_option maxHeartbeats 4000000 in
set_option maxRecDepth 100000 in
theorem path_ok (T : ByteArray) (v : Value) (w : World) :
    Calls Tryz.prog 104 #[.string T, v] w fun e w' => e = .returned (.string T) ∧ w' = w := by
  go_enter Tryz.func104, Tryz.ntmps104
  go_wp2
  go_ret
  exact ⟨rfl, rfl⟩
def F3 (W : World) (g : Nat) (x0 x1 x2 : Nat) : Prop := W.heap[g]? = some (.cells #[.float .f64 x0, .float .f64 x1, .float .f64 x2] 31 (0, 0))
theorem info31 : (Tryz.prog.info? 31).map (fun i => (i.zero, i.size, i.bytes)) = some (some (.float .f64 0), 1, 8) := by kernel_rfl
theorem make3 (W : World) : (Instr.makeSlice 77 (.int .i64 3) (.int .i64 3)).run Tryz.prog W = .ok (.slice (some ⟨W.heap.size, 0, none⟩) 3 3) (W.alloc (.cells #[.float .f64 0, .float .f64 0, .float .f64 0] 31)) := by
  obtain ⟨i, hi, hz, h1, hb⟩ := info_parts info31
  have h := run_make_row (P := Tryz.prog) 77 31 i (.float .f64 0) Tryz.underlying77 hi hz h1 rfl .i64 .i64 3 (by rw [hb]; decide) (by decide) W
  have e : madeCells #[Value.float .f64 0] 3 = #[.float .f64 0, .float .f64 0, .float .f64 0] := by unfold madeCells; rw [show Array.range 3 = #[0, 1, 2] from by decide]; simp
  rw [e] at h
  exact h
structure Spells (T : Bs) (q : Nat) : Prop where
  num : Num T
  m : (rf T).m < 4503599627370496
  e : -22 ≤ rfExp T ∧ rfExp T ≤ 0
  q : fval (rf T).m (rfExp T) = some q
theorem store_f (W : World) (a : Addr) (x q : Nat) (h : W.cell? a = some (.float .f64 x)) (hf : W.frozen? a = false) : (store a (.float .f64 q)).run Tryz.prog W = .ok () (W.setCell a (.float .f64 q)) := by
  rw [run_store _ _ _ _ _ rfl, h]
  simp [hf]
set_option maxHeartbeats 4000000 in
set_option maxRecDepth 100000 in
theorem parse_load (T : ByteArray) (v : Value) (w : World) (hv : Txt w v T) (hT : FTabs w) (htab : Lib.TabIs Tryz.prog w "strings.asciiSpace" .u8 Lib.asciiSpaceTab) (hsz : T.size < 4294967281)
    (hascii : ∀ (j : Nat) b, T.data.toList[j]? = some b → b.toNat < 128) (t0 t1 t2 : Bs) (r : List Bs) (hF : Lib.fields T.data.toList = t0 :: t1 :: t2 :: r) (q0 q1 q2 : Nat) (h0 : Spells t0 q0) (h1 : Spells t1 q1) (h2 : Spells t2 q2) :
    Calls Tryz.prog 106 #[v] w fun e w' => ∃ g, e = .returned (.tuple #[.pointer (some ⟨g, 0, none⟩), .nilIface]) ∧ w'.heap[g]? = some (.cells #[.float .f64 q0, .float .f64 q1, .float .f64 q2] 68 (0, 0)) ∧ w.heap.size ≤ g ∧ Below w.heap.size w w' := by
  obtain ⟨b, c, rfl, hc⟩ := hv
  have hmk := make3
  have hB1 : Below w.heap.size w (w.alloc (.cells #[.float .f64 0, .float .f64 0, .float .f64 0] 31)) := below_alloc (Below.refl _ _) _
  obtain ⟨w1, hw1⟩ : ∃ w1, w1 = w.alloc (.cells #[.float .f64 0, .float .f64 0, .float .f64 0] 31) := ⟨_, rfl⟩
  have hcv := run_convert_bytes_back (P := Tryz.prog) (w.alloc (.cells #[.float .f64 0, .float .f64 0, .float .f64 0] 31)) 136 9 5 ⟨b, 0, none⟩ c T.data.toList Tryz.underlying136 Tryz.underlying5 Tryz.underlying9 (fun j hj => by
    rw [Lib.add_plain, Nat.zero_add]
    have hj' : j < T.size := by rw [Array.length_toList] at hj; exact hj
    rw [cell_below hB1 (hc j hj')]
    rw [List.getD_eq_getElem?_getD, List.getElem?_eq_getElem hj]
    rfl)
  have hlen : T.data.toList.length = T.size := by rw [Array.length_toList]; rfl
  rw [hlen] at hcv
  have hTT : (⟨T.data.toList.toArray⟩ : ByteArray) = T := by cases T; rfl
  rw [hTT] at hcv
  have htab1 := Lib.tabIs_alloc htab (.cells #[.float .f64 0, .float .f64 0, .float .f64 0] 31)
  have hfl : Calls Tryz.prog 132 #[.string T] (w.alloc (.cells #[.float .f64 0, .float .f64 0, .float .f64 0] 31)) fun e w2 => ∃ n : Nat, 3 ≤ n ∧ e = .returned (.slice (some ⟨w.heap.size + 1, 0, none⟩) n n) ∧ F3 w2 w.heap.size 0 0 0 ∧ w2.cell? ⟨w.heap.size + 1, 0, none⟩ = some (.string (B t0)) ∧ w2.cell? ⟨w.heap.size + 1, 1, none⟩ = some (.string (B t1)) ∧ w2.cell? ⟨w.heap.size + 1, 2, none⟩ = some (.string (B t2)) ∧ Below w.heap.size w w2 := by
    refine (Tryz.strings_Fields T (w.alloc (.cells #[.float .f64 0, .float .f64 0, .float .f64 0] 31)) hsz hascii htab1).mono ?_
    rintro e w2 ⟨rfl, rfl⟩
    rw [hF]
    have hs1 : (w.alloc (.cells #[.float .f64 0, .float .f64 0, .float .f64 0] 31)).heap.size = w.heap.size + 1 := by simp
    rw [hs1]
    refine ⟨(t0 :: t1 :: t2 :: r).length, by simp, rfl, blk_alloc (blk_new _ _) _, ?_, ?_, ?_, below_alloc hB1 _⟩
    · rw [← hs1, blk_cell (blk_new _ _)]; simp; rfl
    · rw [← hs1, blk_cell (blk_new _ _)]; simp; rfl
    · rw [← hs1, blk_cell (blk_new _ _)]; simp; rfl
  have HS := Aside0.mk (And.intro h0 (And.intro h1 h2))
  have HT := Aside0.mk hT
  have HF := Aside0.mk hfl
  clear hfl hTT hlen htab1 htab hascii hF h0 h1 h2 hc
  go_enter Tryz.func106, Tryz.ntmps106
  go_wp2_with (first | (go_at_call 132; refine HF.out.mono ?_; rintro e w2 ⟨n, hn3, rfl, hA, hc0, hc1, hc2, hB⟩))
  have HS1 := Aside0.mk (HT.out.below hB)
  have hi3 : (3 : Int) ≤ (n : Int) := by omega
  have HA0 := Aside0.mk hA
  have HB0 := Aside0.mk hB
  have HC := Aside0.mk (And.intro hc0 (And.intro hc1 hc2))
  clear hA hB hc0 hc1 hc2
  go_loopg [6, 20] 3 (fun kq v6 v20 wr => ∃ (i : Nat) (x0 x1 x2 : Nat), Aside0 (kq + i = 3) ∧ v20 = .int .i64 i ∧ v6 = .nilIface ∧ Aside0 (F3 wr w.heap.size x0 x1 x2) ∧ Aside0 (wr.cell? ⟨w.heap.size + 1, 0, none⟩ = some (.string (B t0)) ∧ wr.cell? ⟨w.heap.size + 1, 1, none⟩ = some (.string (B t1)) ∧ wr.cell? ⟨w.heap.size + 1, 2, none⟩ = some (.string (B t2))) ∧ Aside0 (Below w.heap.size w wr) ∧ Aside0 ((1 ≤ i → x0 = q0) ∧ (2 ≤ i → x1 = q1) ∧ (3 ≤ i → x2 = q2)))
  case atStart => exact ⟨0, 0, 0, 0, ⟨rfl⟩, rfl, rfl, HA0, HC, HB0, ⟨by omega, by omega, by omega⟩⟩
  case round =>
    clear HA0 HB0 HC HS1
    obtain ⟨i, x0, x1, x2, HK, rfl, rfl, HA, HC, HB, HX⟩ := hrel
    have hT := HT.out.below HB.out
    have HT1 := Aside0.mk hT
    clear hT
    have hi : i ≤ 3 := by have := HK.out; omega
    have hA := HA.out
    unfold F3 at hA
    obtain ⟨hc0, hc1, hc2⟩ := HC.out
    have hlt := blk_lt hA
    have hz0 := blk_frozen hA 0
    have hz1 := blk_frozen hA 1
    have hz2 := blk_frozen hA 2
    have hg0 : wr.cell? ⟨w.heap.size, 0, none⟩ = some (.float .f64 x0) := (blk_cell hA 0).trans rfl
    have hg1 : wr.cell? ⟨w.heap.size, 1, none⟩ = some (.float .f64 x1) := (blk_cell hA 1).trans rfl
    have hg2 : wr.cell? ⟨w.heap.size, 2, none⟩ = some (.float .f64 x2) := (blk_cell hA 2).trans rfl
    have hs0 := store_f wr ⟨w.heap.size, 0, none⟩ x0 q0 hg0 hz0
    have hs1 := store_f wr ⟨w.heap.size, 1, none⟩ x1 q1 hg1 hz1
    have hs2 := store_f wr ⟨w.heap.size, 2, none⟩ x2 q2 hg2 hz2
    have HA' := Aside0.mk hA
    clear hA
    have e0 : i = 0 ∨ i = 1 ∨ i = 2 ∨ i = 3 := by omega
    rcases e0 with rfl | rfl | rfl | rfl
    · go_wp2_with (first | (go_at_call 133; refine (parse_float t0 _ HS.out.1.num HS.out.1.m HS.out.1.e q0 HS.out.1.q HT1.out).mono ?_; rintro e w3 ⟨rfl, rfl⟩))
      go_roundg 2
      case measure => have := HK.out; omega
      case rel =>
        have hne : w.heap.size ≠ w.heap.size + 1 := by omega
        refine ⟨1, q0, x1, x2, ⟨by omega⟩, rfl, rfl, ⟨?_⟩, ⟨?_, ?_, ?_⟩, ⟨?_⟩, ⟨?_⟩⟩
        · unfold F3; rw [blk_set HA'.out]; rfl
        · exact (World.cell?_setCell_other _ _ _ _ (by simp)).trans hc0
        · exact (World.cell?_setCell_other _ _ _ _ (by simp)).trans hc1
        · exact (World.cell?_setCell_other _ _ _ _ (by simp)).trans hc2
        · exact HB.out.setCell (Nat.le_refl _) _
        · refine ⟨fun hh => ?_, fun hh => ?_, fun hh => ?_⟩
          · first | rfl | exact HX.out.1 (by omega) | omega
          · first | rfl | exact HX.out.2.1 (by omega) | omega
          · first | rfl | exact HX.out.2.2 (by omega) | omega
    · go_wp2_with (first | (go_at_call 133; refine (parse_float t1 _ HS.out.2.1.num HS.out.2.1.m HS.out.2.1.e q1 HS.out.2.1.q HT1.out).mono ?_; rintro e w3 ⟨rfl, rfl⟩))
      go_roundg 1
      case measure => have := HK.out; omega
      case rel =>
        have hne : w.heap.size ≠ w.heap.size + 1 := by omega
        refine ⟨2, x0, q1, x2, ⟨by omega⟩, rfl, rfl, ⟨?_⟩, ⟨?_, ?_, ?_⟩, ⟨?_⟩, ⟨?_⟩⟩
        · unfold F3; rw [blk_set HA'.out]; rfl
        · exact (World.cell?_setCell_other _ _ _ _ (by simp)).trans hc0
        · exact (World.cell?_setCell_other _ _ _ _ (by simp)).trans hc1
        · exact (World.cell?_setCell_other _ _ _ _ (by simp)).trans hc2
        · exact HB.out.setCell (Nat.le_refl _) _
        · refine ⟨fun hh => ?_, fun hh => ?_, fun hh => ?_⟩
          · first | rfl | exact HX.out.1 (by omega) | omega
          · first | rfl | exact HX.out.2.1 (by omega) | omega
          · first | rfl | exact HX.out.2.2 (by omega) | omega
    · go_wp2_with (first | (go_at_call 133; refine (parse_float t2 _ HS.out.2.2.num HS.out.2.2.m HS.out.2.2.e q2 HS.out.2.2.q HT1.out).mono ?_; rintro e w3 ⟨rfl, rfl⟩))
      go_roundg 0
      case measure => have := HK.out; omega
      case rel =>
        have hne : w.heap.size ≠ w.heap.size + 1 := by omega
        refine ⟨3, x0, x1, q2, ⟨by omega⟩, rfl, rfl, ⟨?_⟩, ⟨?_, ?_, ?_⟩, ⟨?_⟩, ⟨?_⟩⟩
        · unfold F3; rw [blk_set HA'.out]; rfl
        · exact (World.cell?_setCell_other _ _ _ _ (by simp)).trans hc0
        · exact (World.cell?_setCell_other _ _ _ _ (by simp)).trans hc1
        · exact (World.cell?_setCell_other _ _ _ _ (by simp)).trans hc2
        · exact HB.out.setCell (Nat.le_refl _) _
        · refine ⟨fun hh => ?_, fun hh => ?_, fun hh => ?_⟩
          · first | rfl | exact HX.out.1 (by omega) | omega
          · first | rfl | exact HX.out.2.1 (by omega) | omega
          · first | rfl | exact HX.out.2.2 (by omega) | omega
    · obtain ⟨rfl, rfl, rfl⟩ : x0 = q0 ∧ x1 = q1 ∧ x2 = q2 := ⟨HX.out.1 (by omega), HX.out.2.1 (by omega), HX.out.2.2 (by omega)⟩
      go_wp2
      have hb0 : Below wr.heap.size wr wr.drew := below_drew (Below.refl _ _)
      go_region_held3 (fun w' => Below wr.heap.size wr w' ∧ w'.cell? ⟨w.heap.size, 0, none⟩ = some (.float .f64 x0) ∧ w'.cell? ⟨w.heap.size, 1, none⟩ = some (.float .f64 x1) ∧ w'.cell? ⟨w.heap.size, 2, none⟩ = some (.float .f64 x2))
        (first
          | (go_split_ands; exact ⟨by assumption, by assumption, by assumption, by assumption⟩)
          | (go_split_ands; exact ⟨below_alloc (by assumption) _, cell_below (below_alloc (Below.refl _ _) _) (by assumption), cell_below (below_alloc (Below.refl _ _) _) (by assumption), cell_below (below_alloc (Below.refl _ _) _) (by assumption)⟩)
          | go_keep)
          (fail)
      rename_i hHeld
      have hbb := keepB HB.out hHeld.1 (Nat.le_refl _)
      clear hHeld
      go_wp2
      exact bodyPost_ret (results_tmp2 rfl _ _ _) rfl ⟨_, rfl, blk_drew (blk_new _ _), HB.out.size, hbb⟩
end Go.Proofs.YtabfehcpcjcomaaGreatDoor.R
namespace Go.Proofs.YtabfehcpcjcomaaGreatDoor.QA0
open Go.RowKit Go.Proofs.YtabfehcpcjcomaaGreatDoorW.PrintWords Go.Proofs.YtabfehcpcjcomaaGreatDoorW.PrintLast Go.Proofs.YtabfehcpcjcomaaGreatDoorW.PrintMore
attribute [local go_sem] max2_int min2_int max_two min_two max_three min_three max_four min_four
set_option linter.unusedVariables false
set_option linter.unusedSimpArgs false
def errW : Option Int → Value
 | none => .nilIface
 | some c => .iface 0 (.int .i64 c)
theorem errW_none : errW none = .nilIface := rfl
theorem errW_some (c : Int) : errW (some c) = .iface 0 (.int .i64 c) := rfl
theorem info9 : (Tryz.prog.info? 9).map (fun i => (i.zero, i.size, i.bytes)) = some (some (.string ⟨#[]⟩), 1, 16) := by kernel_rfl
theorem info30 : (Tryz.prog.info? 30).map (fun i => (i.zero, i.size, i.bytes)) = some (some (.int .u64 0), 1, 8) := by kernel_rfl
theorem info31 : (Tryz.prog.info? 31).map (fun i => (i.zero, i.size, i.bytes)) = some (some (.float .f64 0), 1, 8) := by kernel_rfl
theorem info34 : (Tryz.prog.info? 34).map (fun i => (i.zero, i.size, i.bytes)) = some (some (.agg #[(.string ⟨#[]⟩), (.int .i64 0), (.bool false), (.int .i64 0), (.int .u64 0), (.float .f64 0), (.string ⟨#[]⟩), (.slice none 0 0)]), 8, 96) := by kernel_rfl
theorem info38 : (Tryz.prog.info? 38).map (fun i => (i.zero, i.size, i.bytes)) = some (some (.agg #[(.string ⟨#[]⟩), (.int .i64 0), (.bool false), (.int .i64 0), (.int .u64 0), (.float .f64 0), (.string ⟨#[]⟩), (.slice none 0 0)]), 8, 96) := by kernel_rfl
theorem info48 : (Tryz.prog.info? 48).map (fun i => (i.zero, i.size, i.bytes)) = some (some (.agg #[(.string ⟨#[]⟩), (.slice none 0 0), (.slice none 0 0)]), 3, 64) := by kernel_rfl
theorem info79 : (Tryz.prog.info? 79).map (fun i => (i.zero, i.size, i.bytes)) = some (some (.agg #[(.string ⟨#[]⟩), (.string ⟨#[]⟩), (.slice none 0 0)]), 3, 56) := by kernel_rfl
structure S34 where
 f0 : ByteArray
 f1 : Int
 f2 : Bool
 f3 : Int
 f4 : Int
 f5 : Nat
 f6 : ByteArray
 f7 : (List S34)
def z34 : S34 := ⟨(⟨#[]⟩ : ByteArray), (0 : Int), false, (0 : Int), (0 : Int), 0, (⟨#[]⟩ : ByteArray), ([] : List S34)⟩
def F34 (d : Kd S34) : Kd S34 := Kd.iso (Kd.pair Kd.string (Kd.pair (Kd.int .i64) (Kd.pair Kd.bool (Kd.pair (Kd.int .i64) (Kd.pair (Kd.int .u64) (Kd.pair kF64 (Kd.pair Kd.string (Kd.slice 34 d)))))))) (fun x : S34 => (x.f0, x.f1, x.f2, x.f3, x.f4, x.f5, x.f6, x.f7))
theorem mono34 : Kd.Mono F34 := Kd.mono_iso _ (Kd.mono_pair (Kd.mono_const _) (Kd.mono_pair (Kd.mono_const _) (Kd.mono_pair (Kd.mono_const _) (Kd.mono_pair (Kd.mono_const _) (Kd.mono_pair (Kd.mono_const _) (Kd.mono_pair (Kd.mono_const _) (Kd.mono_pair (Kd.mono_const _) (Kd.mono_slice 34 Kd.mono_id))))))))
theorem sub34 : Kd.Sub F34 [34] := Kd.sub_iso _ (Kd.sub_pair (Kd.sub_const _ (by decide)) (Kd.sub_pair (Kd.sub_const _ (by decide)) (Kd.sub_pair (Kd.sub_const _ (by decide)) (Kd.sub_pair (Kd.sub_const _ (by decide)) (Kd.sub_pair (Kd.sub_const _ (by decide)) (Kd.sub_pair (Kd.sub_const _ (by decide)) (Kd.sub_pair (Kd.sub_const _ (by decide)) (Kd.sub_slice 34 (by decide) Kd.sub_id))))))))
theorem sz34 : ∀ n, (Kd.upto F34 8 [34] n).sz = 8 := Kd.upto_sz (fun _ => rfl)
def k34 : Kd S34 := Kd.fix F34 8 [34] sz34 (Kd.upto_E sub34)
theorem k34_open {w : World} {x : S34} {cs : List Value} (h : k34.K w x cs) : ∃ A7 c7, cs = [.string x.f0, .int .i64 x.f1, .bool x.f2, .int .i64 x.f3, .int .u64 x.f4, .float .f64 x.f5, .string x.f6, .slice A7 x.f7.length c7] ∧ x.f7.length ≤ c7 ∧ k34.C w A7 x.f7.length x.f7 := by
 obtain ⟨n, h⟩ := h; cases n with
 | zero => exact h.elim
 | succ n =>
  obtain ⟨_, _, rfl, rfl, ⟨_, _, rfl, rfl, ⟨_, _, rfl, rfl, ⟨_, _, rfl, rfl, ⟨_, _, rfl, rfl, ⟨_, _, rfl, rfl, ⟨_, _, rfl, rfl, ⟨A7, c7, rfl, l7, g7⟩⟩⟩⟩⟩⟩⟩⟩ := h; exact ⟨A7, c7, rfl, l7, Kd.fix_C g7⟩
theorem k34_mkM (w : World) (base : Nat) (ok : Nat → Prop) (x : S34) {v7 : Value} (g7 : k34.R 34 w base ok v7 x.f7) : k34.M w base ok x [.string x.f0, .int .i64 x.f1, .bool x.f2, .int .i64 x.f3, .int .u64 x.f4, .float .f64 x.f5, .string x.f6, v7] := by
 obtain ⟨n7, q7⟩ := Kd.fix_R_back mono34 g7; have r7 := Kd.upto_R_le mono34 sz34 (show n7 ≤ n7 by omega) q7; exact ⟨n7 + 1, ⟨[.string x.f0], [.int .i64 x.f1, .bool x.f2, .int .i64 x.f3, .int .u64 x.f4, .float .f64 x.f5, .string x.f6, v7], rfl, rfl, ⟨[.int .i64 x.f1], [.bool x.f2, .int .i64 x.f3, .int .u64 x.f4, .float .f64 x.f5, .string x.f6, v7], rfl, rfl, ⟨[.bool x.f2], [.int .i64 x.f3, .int .u64 x.f4, .float .f64 x.f5, .string x.f6, v7], rfl, rfl, ⟨[.int .i64 x.f3], [.int .u64 x.f4, .float .f64 x.f5, .string x.f6, v7], rfl, rfl, ⟨[.int .u64 x.f4], [.float .f64 x.f5, .string x.f6, v7], rfl, rfl, ⟨[.float .f64 x.f5], [.string x.f6, v7], rfl, rfl, ⟨[.string x.f6], [v7], rfl, rfl, ⟨v7, rfl, r7⟩⟩⟩⟩⟩⟩⟩⟩⟩
def rd_T34 (xs : List S34) (i : Int) : S34 := xs.getD i.toNat z34
theorem at_T34 {w : World} {A : Option Addr} {n : Nat} {xs : List S34} (h : Kd.C k34 w A n xs) (i : Int) (h0 : 0 ≤ i) (h1 : i < n) : ∃ ad A7 c7, A = some ad ∧ w.cell? (ad.add (i.toNat * 8)) = some (.string (rd_T34 xs i).f0) ∧ w.cell? ⟨(ad.add (i.toNat * 8)).block, (ad.add (i.toNat * 8)).off + 1, none⟩ = some (.int .i64 (rd_T34 xs i).f1) ∧ w.cell? ⟨(ad.add (i.toNat * 8)).block, (ad.add (i.toNat * 8)).off + 2, none⟩ = some (.bool (rd_T34 xs i).f2) ∧ w.cell? ⟨(ad.add (i.toNat * 8)).block, (ad.add (i.toNat * 8)).off + 3, none⟩ = some (.int .i64 (rd_T34 xs i).f3) ∧ w.cell? ⟨(ad.add (i.toNat * 8)).block, (ad.add (i.toNat * 8)).off + 4, none⟩ = some (.int .u64 (rd_T34 xs i).f4) ∧ w.cell? ⟨(ad.add (i.toNat * 8)).block, (ad.add (i.toNat * 8)).off + 5, none⟩ = some (.float .f64 (rd_T34 xs i).f5) ∧ w.cell? ⟨(ad.add (i.toNat * 8)).block, (ad.add (i.toNat * 8)).off + 6, none⟩ = some (.string (rd_T34 xs i).f6) ∧ w.cell? ⟨(ad.add (i.toNat * 8)).block, (ad.add (i.toNat * 8)).off + 7, none⟩ = some (.slice A7 (rd_T34 xs i).f7.length c7) ∧ (rd_T34 xs i).f7.length ≤ c7 ∧ k34.C w A7 (rd_T34 xs i).f7.length (rd_T34 xs i).f7 := by
 obtain ⟨ad, c, e, _, hK, hc0⟩ := Kd.C_get h z34 i h0 h1; have hc : ∀ j u, c[j]? = some u → w.cell? (ad.add (i.toNat * 8 + j)) = some u := hc0; obtain ⟨A7, c7, rfl, l7, g7⟩ := k34_open hK; exact ⟨ad, A7, c7, e, hc 0 _ rfl, by rw [← add_field _ _ 1 (by omega)]; exact hc 1 _ rfl, by rw [← add_field _ _ 2 (by omega)]; exact hc 2 _ rfl, by rw [← add_field _ _ 3 (by omega)]; exact hc 3 _ rfl, by rw [← add_field _ _ 4 (by omega)]; exact hc 4 _ rfl, by rw [← add_field _ _ 5 (by omega)]; exact hc 5 _ rfl, by rw [← add_field _ _ 6 (by omega)]; exact hc 6 _ rfl, by rw [← add_field _ _ 7 (by omega)]; exact hc 7 _ rfl, l7, g7⟩
structure S79 where
 f0 : ByteArray
 f1 : ByteArray
 f2 : (List Nat)
def z79 : S79 := ⟨(⟨#[]⟩ : ByteArray), (⟨#[]⟩ : ByteArray), ([] : List Nat)⟩
def k79 : Kd S79 := Kd.iso (Kd.pair Kd.string (Kd.pair Kd.string (Kd.slice 31 kF64))) (fun x : S79 => (x.f0, x.f1, x.f2))
theorem k79_open {w : World} {x : S79} {cs : List Value} (h : k79.K w x cs) : ∃ A2 c2, cs = [.string x.f0, .string x.f1, .slice A2 x.f2.length c2] ∧ x.f2.length ≤ c2 ∧ kF64.C w A2 x.f2.length x.f2 := by
 obtain ⟨_, _, rfl, rfl, ⟨_, _, rfl, rfl, ⟨A2, c2, rfl, l2, g2⟩⟩⟩ := h; exact ⟨A2, c2, rfl, l2, g2⟩
theorem k79_mkM (w : World) (base : Nat) (ok : Nat → Prop) (x : S79) {v2 : Value} (g2 : kF64.R 31 w base ok v2 x.f2) : k79.M w base ok x [.string x.f0, .string x.f1, v2] := ⟨[.string x.f0], [.string x.f1, v2], rfl, rfl, ⟨[.string x.f1], [v2], rfl, rfl, ⟨v2, rfl, g2⟩⟩⟩
def rd_T79 (xs : List S79) (i : Int) : S79 := xs.getD i.toNat z79
theorem at_T79 {w : World} {A : Option Addr} {n : Nat} {xs : List S79} (h : Kd.C k79 w A n xs) (i : Int) (h0 : 0 ≤ i) (h1 : i < n) : ∃ ad A2 c2, A = some ad ∧ w.cell? (ad.add (i.toNat * 3)) = some (.string (rd_T79 xs i).f0) ∧ w.cell? ⟨(ad.add (i.toNat * 3)).block, (ad.add (i.toNat * 3)).off + 1, none⟩ = some (.string (rd_T79 xs i).f1) ∧ w.cell? ⟨(ad.add (i.toNat * 3)).block, (ad.add (i.toNat * 3)).off + 2, none⟩ = some (.slice A2 (rd_T79 xs i).f2.length c2) ∧ (rd_T79 xs i).f2.length ≤ c2 ∧ kF64.C w A2 (rd_T79 xs i).f2.length (rd_T79 xs i).f2 := by
 obtain ⟨ad, c, e, _, hK, hc0⟩ := Kd.C_get h z79 i h0 h1; have hc : ∀ j u, c[j]? = some u → w.cell? (ad.add (i.toNat * 3 + j)) = some u := hc0; obtain ⟨A2, c2, rfl, l2, g2⟩ := k79_open hK; exact ⟨ad, A2, c2, e, hc 0 _ rfl, by rw [← add_field _ _ 1 (by omega)]; exact hc 1 _ rfl, by rw [← add_field _ _ 2 (by omega)]; exact hc 2 _ rfl, l2, g2⟩
structure S48 where
 f0 : ByteArray
 f1 : (List Int)
 f2 : (List ByteArray)
def z48 : S48 := ⟨(⟨#[]⟩ : ByteArray), ([] : List Int), ([] : List ByteArray)⟩
def k48 : Kd S48 := Kd.iso (Kd.pair Kd.string (Kd.pair (Kd.slice 30 (Kd.int .u64)) (Kd.slice 9 Kd.string))) (fun x : S48 => (x.f0, x.f1, x.f2))
theorem k48_open {w : World} {x : S48} {cs : List Value} (h : k48.K w x cs) : ∃ A1 c1 A2 c2, cs = [.string x.f0, .slice A1 x.f1.length c1, .slice A2 x.f2.length c2] ∧ x.f1.length ≤ c1 ∧ (Kd.int .u64).C w A1 x.f1.length x.f1 ∧ x.f2.length ≤ c2 ∧ Kd.string.C w A2 x.f2.length x.f2 := by
 obtain ⟨_, _, rfl, rfl, ⟨_, _, rfl, ⟨A1, c1, rfl, l1, g1⟩, ⟨A2, c2, rfl, l2, g2⟩⟩⟩ := h; exact ⟨A1, c1, A2, c2, rfl, l1, g1, l2, g2⟩
theorem k48_mkM (w : World) (base : Nat) (ok : Nat → Prop) (x : S48) {v1 : Value} (g1 : (Kd.int .u64).R 30 w base ok v1 x.f1) {v2 : Value} (g2 : Kd.string.R 9 w base ok v2 x.f2) : k48.M w base ok x [.string x.f0, v1, v2] := ⟨[.string x.f0], [v1, v2], rfl, rfl, ⟨[v1], [v2], rfl, ⟨v1, rfl, g1⟩, ⟨v2, rfl, g2⟩⟩⟩
def rd_T48 (xs : List S48) (i : Int) : S48 := xs.getD i.toNat z48
theorem at_T48 {w : World} {A : Option Addr} {n : Nat} {xs : List S48} (h : Kd.C k48 w A n xs) (i : Int) (h0 : 0 ≤ i) (h1 : i < n) : ∃ ad A1 c1 A2 c2, A = some ad ∧ w.cell? (ad.add (i.toNat * 3)) = some (.string (rd_T48 xs i).f0) ∧ w.cell? ⟨(ad.add (i.toNat * 3)).block, (ad.add (i.toNat * 3)).off + 1, none⟩ = some (.slice A1 (rd_T48 xs i).f1.length c1) ∧ w.cell? ⟨(ad.add (i.toNat * 3)).block, (ad.add (i.toNat * 3)).off + 2, none⟩ = some (.slice A2 (rd_T48 xs i).f2.length c2) ∧ (rd_T48 xs i).f1.length ≤ c1 ∧ (Kd.int .u64).C w A1 (rd_T48 xs i).f1.length (rd_T48 xs i).f1 ∧ (rd_T48 xs i).f2.length ≤ c2 ∧ Kd.string.C w A2 (rd_T48 xs i).f2.length (rd_T48 xs i).f2 := by
 obtain ⟨ad, c, e, _, hK, hc0⟩ := Kd.C_get h z48 i h0 h1; have hc : ∀ j u, c[j]? = some u → w.cell? (ad.add (i.toNat * 3 + j)) = some u := hc0; obtain ⟨A1, c1, A2, c2, rfl, l1, g1, l2, g2⟩ := k48_open hK; exact ⟨ad, A1, c1, A2, c2, e, hc 0 _ rfl, by rw [← add_field _ _ 1 (by omega)]; exact hc 1 _ rfl, by rw [← add_field _ _ 2 (by omega)]; exact hc 2 _ rfl, l1, g1, l2, g2⟩
structure S38 where
 f0 : ByteArray
 f1 : Int
 f2 : Bool
 f3 : Int
 f4 : Int
 f5 : Nat
 f6 : ByteArray
 f7 : (List S38)
def z38 : S38 := ⟨(⟨#[]⟩ : ByteArray), (0 : Int), false, (0 : Int), (0 : Int), 0, (⟨#[]⟩ : ByteArray), ([] : List S38)⟩
def F38 (d : Kd S38) : Kd S38 := Kd.iso (Kd.pair Kd.string (Kd.pair (Kd.int .i64) (Kd.pair Kd.bool (Kd.pair (Kd.int .i64) (Kd.pair (Kd.int .u64) (Kd.pair kF64 (Kd.pair Kd.string (Kd.slice 38 d)))))))) (fun x : S38 => (x.f0, x.f1, x.f2, x.f3, x.f4, x.f5, x.f6, x.f7))
theorem mono38 : Kd.Mono F38 := Kd.mono_iso _ (Kd.mono_pair (Kd.mono_const _) (Kd.mono_pair (Kd.mono_const _) (Kd.mono_pair (Kd.mono_const _) (Kd.mono_pair (Kd.mono_const _) (Kd.mono_pair (Kd.mono_const _) (Kd.mono_pair (Kd.mono_const _) (Kd.mono_pair (Kd.mono_const _) (Kd.mono_slice 38 Kd.mono_id))))))))
theorem sub38 : Kd.Sub F38 [38] := Kd.sub_iso _ (Kd.sub_pair (Kd.sub_const _ (by decide)) (Kd.sub_pair (Kd.sub_const _ (by decide)) (Kd.sub_pair (Kd.sub_const _ (by decide)) (Kd.sub_pair (Kd.sub_const _ (by decide)) (Kd.sub_pair (Kd.sub_const _ (by decide)) (Kd.sub_pair (Kd.sub_const _ (by decide)) (Kd.sub_pair (Kd.sub_const _ (by decide)) (Kd.sub_slice 38 (by decide) Kd.sub_id))))))))
theorem sz38 : ∀ n, (Kd.upto F38 8 [38] n).sz = 8 := Kd.upto_sz (fun _ => rfl)
def k38 : Kd S38 := Kd.fix F38 8 [38] sz38 (Kd.upto_E sub38)
theorem k38_open {w : World} {x : S38} {cs : List Value} (h : k38.K w x cs) : ∃ A7 c7, cs = [.string x.f0, .int .i64 x.f1, .bool x.f2, .int .i64 x.f3, .int .u64 x.f4, .float .f64 x.f5, .string x.f6, .slice A7 x.f7.length c7] ∧ x.f7.length ≤ c7 ∧ k38.C w A7 x.f7.length x.f7 := by
 obtain ⟨n, h⟩ := h; cases n with
 | zero => exact h.elim
 | succ n =>
  obtain ⟨_, _, rfl, rfl, ⟨_, _, rfl, rfl, ⟨_, _, rfl, rfl, ⟨_, _, rfl, rfl, ⟨_, _, rfl, rfl, ⟨_, _, rfl, rfl, ⟨_, _, rfl, rfl, ⟨A7, c7, rfl, l7, g7⟩⟩⟩⟩⟩⟩⟩⟩ := h; exact ⟨A7, c7, rfl, l7, Kd.fix_C g7⟩
theorem k38_mk (w : World) (x : S38) {A7 : Option Addr} {c7 : Nat} (l7 : x.f7.length ≤ c7) (g7 : k38.C w A7 x.f7.length x.f7) : k38.K w x [.string x.f0, .int .i64 x.f1, .bool x.f2, .int .i64 x.f3, .int .u64 x.f4, .float .f64 x.f5, .string x.f6, .slice A7 x.f7.length c7] := by
 obtain ⟨n7, q7⟩ := Kd.fix_C_back mono38 g7; have r7 := Kd.upto_C_le mono38 sz38 (show n7 ≤ n7 by omega) q7; exact ⟨n7 + 1, ⟨[.string x.f0], [.int .i64 x.f1, .bool x.f2, .int .i64 x.f3, .int .u64 x.f4, .float .f64 x.f5, .string x.f6, .slice A7 x.f7.length c7], rfl, rfl, ⟨[.int .i64 x.f1], [.bool x.f2, .int .i64 x.f3, .int .u64 x.f4, .float .f64 x.f5, .string x.f6, .slice A7 x.f7.length c7], rfl, rfl, ⟨[.bool x.f2], [.int .i64 x.f3, .int .u64 x.f4, .float .f64 x.f5, .string x.f6, .slice A7 x.f7.length c7], rfl, rfl, ⟨[.int .i64 x.f3], [.int .u64 x.f4, .float .f64 x.f5, .string x.f6, .slice A7 x.f7.length c7], rfl, rfl, ⟨[.int .u64 x.f4], [.float .f64 x.f5, .string x.f6, .slice A7 x.f7.length c7], rfl, rfl, ⟨[.float .f64 x.f5], [.string x.f6, .slice A7 x.f7.length c7], rfl, rfl, ⟨[.string x.f6], [.slice A7 x.f7.length c7], rfl, rfl, ⟨A7, c7, rfl, l7, r7⟩⟩⟩⟩⟩⟩⟩⟩⟩
theorem k38_mkM (w : World) (base : Nat) (ok : Nat → Prop) (x : S38) {v7 : Value} (g7 : k38.R 38 w base ok v7 x.f7) : k38.M w base ok x [.string x.f0, .int .i64 x.f1, .bool x.f2, .int .i64 x.f3, .int .u64 x.f4, .float .f64 x.f5, .string x.f6, v7] := by
 obtain ⟨n7, q7⟩ := Kd.fix_R_back mono38 g7; have r7 := Kd.upto_R_le mono38 sz38 (show n7 ≤ n7 by omega) q7; exact ⟨n7 + 1, ⟨[.string x.f0], [.int .i64 x.f1, .bool x.f2, .int .i64 x.f3, .int .u64 x.f4, .float .f64 x.f5, .string x.f6, v7], rfl, rfl, ⟨[.int .i64 x.f1], [.bool x.f2, .int .i64 x.f3, .int .u64 x.f4, .float .f64 x.f5, .string x.f6, v7], rfl, rfl, ⟨[.bool x.f2], [.int .i64 x.f3, .int .u64 x.f4, .float .f64 x.f5, .string x.f6, v7], rfl, rfl, ⟨[.int .i64 x.f3], [.int .u64 x.f4, .float .f64 x.f5, .string x.f6, v7], rfl, rfl, ⟨[.int .u64 x.f4], [.float .f64 x.f5, .string x.f6, v7], rfl, rfl, ⟨[.float .f64 x.f5], [.string x.f6, v7], rfl, rfl, ⟨[.string x.f6], [v7], rfl, rfl, ⟨v7, rfl, r7⟩⟩⟩⟩⟩⟩⟩⟩⟩
theorem k38_mkF (W : World) (ok : Nat → Prop) (x : S38) {A7 : Option Addr} {c7 : Nat} (l7 : x.f7.length ≤ c7) (g7 : Kd.F k38 W ok A7 x.f7.length x.f7) : Kd.FK k38 W ok x [.string x.f0, .int .i64 x.f1, .bool x.f2, .int .i64 x.f3, .int .u64 x.f4, .float .f64 x.f5, .string x.f6, .slice A7 x.f7.length c7] := fun W2 hW => k38_mk W2 x l7 (g7 W2 hW)
def rd_T38 (xs : List S38) (i : Int) : S38 := xs.getD i.toNat z38
theorem at_T38 {w : World} {A : Option Addr} {n : Nat} {xs : List S38} (h : Kd.C k38 w A n xs) (i : Int) (h0 : 0 ≤ i) (h1 : i < n) : ∃ ad A7 c7, A = some ad ∧ w.cell? (ad.add (i.toNat * 8)) = some (.string (rd_T38 xs i).f0) ∧ w.cell? ⟨(ad.add (i.toNat * 8)).block, (ad.add (i.toNat * 8)).off + 1, none⟩ = some (.int .i64 (rd_T38 xs i).f1) ∧ w.cell? ⟨(ad.add (i.toNat * 8)).block, (ad.add (i.toNat * 8)).off + 2, none⟩ = some (.bool (rd_T38 xs i).f2) ∧ w.cell? ⟨(ad.add (i.toNat * 8)).block, (ad.add (i.toNat * 8)).off + 3, none⟩ = some (.int .i64 (rd_T38 xs i).f3) ∧ w.cell? ⟨(ad.add (i.toNat * 8)).block, (ad.add (i.toNat * 8)).off + 4, none⟩ = some (.int .u64 (rd_T38 xs i).f4) ∧ w.cell? ⟨(ad.add (i.toNat * 8)).block, (ad.add (i.toNat * 8)).off + 5, none⟩ = some (.float .f64 (rd_T38 xs i).f5) ∧ w.cell? ⟨(ad.add (i.toNat * 8)).block, (ad.add (i.toNat * 8)).off + 6, none⟩ = some (.string (rd_T38 xs i).f6) ∧ w.cell? ⟨(ad.add (i.toNat * 8)).block, (ad.add (i.toNat * 8)).off + 7, none⟩ = some (.slice A7 (rd_T38 xs i).f7.length c7) ∧ (rd_T38 xs i).f7.length ≤ c7 ∧ k38.C w A7 (rd_T38 xs i).f7.length (rd_T38 xs i).f7 := by
 obtain ⟨ad, c, e, _, hK, hc0⟩ := Kd.C_get h z38 i h0 h1; have hc : ∀ j u, c[j]? = some u → w.cell? (ad.add (i.toNat * 8 + j)) = some u := hc0; obtain ⟨A7, c7, rfl, l7, g7⟩ := k38_open hK; exact ⟨ad, A7, c7, e, hc 0 _ rfl, by rw [← add_field _ _ 1 (by omega)]; exact hc 1 _ rfl, by rw [← add_field _ _ 2 (by omega)]; exact hc 2 _ rfl, by rw [← add_field _ _ 3 (by omega)]; exact hc 3 _ rfl, by rw [← add_field _ _ 4 (by omega)]; exact hc 4 _ rfl, by rw [← add_field _ _ 5 (by omega)]; exact hc 5 _ rfl, by rw [← add_field _ _ 6 (by omega)]; exact hc 6 _ rfl, by rw [← add_field _ _ 7 (by omega)]; exact hc 7 _ rfl, l7, g7⟩
end Go.Proofs.YtabfehcpcjcomaaGreatDoor.QA0
namespace Go.Proofs.YtabfehcpcjcomaaGreatDoor.QA0
open Go.RowKit Go.Proofs.YtabfehcpcjcomaaGreatDoorW.PrintWords Go.Proofs.YtabfehcpcjcomaaGreatDoorW.PrintLast Go.Proofs.YtabfehcpcjcomaaGreatDoorW.PrintMore
attribute [local go_sem] max2_int min2_int max_two min_two max_three min_three max_four min_four
set_option linter.unusedVariables false
set_option linter.unusedSimpArgs false
def impl_procfsLoadAvg.f (a0 : ByteArray) (a1_0 : Nat) (a1_1 : Nat) (a1_2 : Nat) : Option (ByteArray × Int × Bool × Int × Int × Nat × ByteArray × (List (S34))) := if ([] : List (S34)).length < 1466015503701 then ((some (([] : List (S34)) ++ [(⟨(⟨#[76, 111, 97, 100, 49]⟩ : ByteArray), 4, false, 0, 0, a1_0, (⟨#[]⟩ : ByteArray), ([] : List (S34))⟩ : S34)] : List (S34))).bind fun y104 => (if y104.length < 1466015503701 then ((some (y104 ++ [(⟨(⟨#[76, 111, 97, 100, 53]⟩ : ByteArray), 4, false, 0, 0, a1_1, (⟨#[]⟩ : ByteArray), ([] : List (S34))⟩ : S34)] : List (S34))).bind fun y107 => (if y107.length < 1466015503701 then (some (a0, 8, false, 0, 0, 0, (⟨#[]⟩ : ByteArray), (y107 ++ [(⟨(⟨#[76, 111, 97, 100, 49, 53]⟩ : ByteArray), 4, false, 0, 0, a1_2, (⟨#[]⟩ : ByteArray), ([] : List (S34))⟩ : S34)]))) else (none))) else (none))) else (none)
set_option maxHeartbeats 8000000 in
set_option maxRecDepth 100000 in
theorem impl_procfsLoadAvg.calls (a0 : ByteArray) (a1_0 : Nat) (a1_1 : Nat) (a1_2 : Nat) (r1 : ByteArray) (r2 : Int) (r3 : Bool) (r4 : Int) (r5 : Int) (r6 : Nat) (r7 : ByteArray) (r8 : List (S34)) (w : World) (h : impl_procfsLoadAvg.f a0 a1_0 a1_1 a1_2 = some (r1, r2, r3, r4, r5, r6, r7, r8)) :
 Calls Tryz.prog 46 #[.string a0, .agg #[.float .f64 a1_0, .float .f64 a1_1, .float .f64 a1_2]] w fun e w' => ∃ v7_ : Value, e = .returned (.agg #[.string r1, .int .i64 r2, .bool r3, .int .i64 r4, .int .u64 r5, .float .f64 r6, .string r7, v7_]) ∧ Kd.R k34 34 w' w.heap.size (fun _ => True) v7_ r8 ∧ Below w.heap.size w w' := by
 have hu68 := Tryz.underlying68; have hu34 := Tryz.underlying34; have HB := Aside0.mk (Below.refl w.heap.size w); have H : (if ([] : List (S34)).length < 1466015503701 then ((some (([] : List (S34)) ++ [(⟨(⟨#[76, 111, 97, 100, 49]⟩ : ByteArray), 4, false, 0, 0, a1_0, (⟨#[]⟩ : ByteArray), ([] : List (S34))⟩ : S34)] : List (S34))).bind fun y104 => (if y104.length < 1466015503701 then ((some (y104 ++ [(⟨(⟨#[76, 111, 97, 100, 53]⟩ : ByteArray), 4, false, 0, 0, a1_1, (⟨#[]⟩ : ByteArray), ([] : List (S34))⟩ : S34)] : List (S34))).bind fun y107 => (if y107.length < 1466015503701 then (some (a0, 8, false, 0, 0, 0, (⟨#[]⟩ : ByteArray), (y107 ++ [(⟨(⟨#[76, 111, 97, 100, 49, 53]⟩ : ByteArray), 4, false, 0, 0, a1_2, (⟨#[]⟩ : ByteArray), ([] : List (S34))⟩ : S34)]))) else (none))) else (none))) else (none)) = some (r1, r2, r3, r4, r5, r6, r7, r8) := h; clear h
 by_cases c3 : ([] : List (S34)).length < 1466015503701
 · rw [if_pos c3] at H; have LMc3 := Aside0.mk c3; clear c3; obtain ⟨y104, hy104⟩ : ∃ y_ : List (S34), y_ = (([] : List (S34)) ++ [(⟨(⟨#[76, 111, 97, 100, 49]⟩ : ByteArray), 4, false, 0, 0, a1_0, (⟨#[]⟩ : ByteArray), ([] : List (S34))⟩ : S34)]) := ⟨_, rfl⟩
   replace H : (if y104.length < 1466015503701 then ((some (y104 ++ [(⟨(⟨#[76, 111, 97, 100, 53]⟩ : ByteArray), 4, false, 0, 0, a1_1, (⟨#[]⟩ : ByteArray), ([] : List (S34))⟩ : S34)] : List (S34))).bind fun y107 => (if y107.length < 1466015503701 then (some (a0, 8, false, 0, 0, 0, (⟨#[]⟩ : ByteArray), (y107 ++ [(⟨(⟨#[76, 111, 97, 100, 49, 53]⟩ : ByteArray), 4, false, 0, 0, a1_2, (⟨#[]⟩ : ByteArray), ([] : List (S34))⟩ : S34)]))) else (none))) else (none)) = some (r1, r2, r3, r4, r5, r6, r7, r8) := by first | (rw [hy104]; with_reducible exact H) | (have H2_ := (Option.bind_some _ _).symm.trans H; rw [hy104]; with_reducible exact H2_) | (have H2_ := (Option.bind_some _ _).symm.trans H; with_reducible exact H2_) | with_reducible exact H | (rw [hy104]; exact H) | exact H
   have Ny104 := Aside0.mk hy104; clear hy104
   by_cases c4 : y104.length < 1466015503701
   · rw [if_pos c4] at H; have LMc4 := Aside0.mk c4; clear c4; obtain ⟨y107, hy107⟩ : ∃ y_ : List (S34), y_ = (y104 ++ [(⟨(⟨#[76, 111, 97, 100, 53]⟩ : ByteArray), 4, false, 0, 0, a1_1, (⟨#[]⟩ : ByteArray), ([] : List (S34))⟩ : S34)]) := ⟨_, rfl⟩
     replace H : (if y107.length < 1466015503701 then (some (a0, 8, false, 0, 0, 0, (⟨#[]⟩ : ByteArray), (y107 ++ [(⟨(⟨#[76, 111, 97, 100, 49, 53]⟩ : ByteArray), 4, false, 0, 0, a1_2, (⟨#[]⟩ : ByteArray), ([] : List (S34))⟩ : S34)]))) else (none)) = some (r1, r2, r3, r4, r5, r6, r7, r8) := by first | (rw [hy107]; with_reducible exact H) | (have H2_ := (Option.bind_some _ _).symm.trans H; rw [hy107]; with_reducible exact H2_) | (have H2_ := (Option.bind_some _ _).symm.trans H; with_reducible exact H2_) | with_reducible exact H | (rw [hy107]; exact H) | exact H
     have Ny107 := Aside0.mk hy107; clear hy107
     by_cases c5 : y107.length < 1466015503701
     · rw [if_pos c5] at H; have LMc5 := Aside0.mk c5; clear c5; obtain ⟨y110, hy110⟩ : ∃ y_ : List (S34), y_ = (y107 ++ [(⟨(⟨#[76, 111, 97, 100, 49, 53]⟩ : ByteArray), 4, false, 0, 0, a1_2, (⟨#[]⟩ : ByteArray), ([] : List (S34))⟩ : S34)]) := ⟨_, rfl⟩
       replace H : (some (a0, 8, false, 0, 0, 0, (⟨#[]⟩ : ByteArray), y110)) = some (r1, r2, r3, r4, r5, r6, r7, r8) := by first | (rw [hy110]; with_reducible exact H) | (have H2_ := (Option.bind_some _ _).symm.trans H; rw [hy110]; with_reducible exact H2_) | (have H2_ := (Option.bind_some _ _).symm.trans H; with_reducible exact H2_) | with_reducible exact H | (rw [hy110]; exact H) | exact H
       have Ny110 := Aside0.mk hy110; clear hy110; simp only [Option.some.injEq, Prod.mk.injEq] at H; obtain ⟨rfl, rfl, rfl, rfl, rfl, rfl, rfl, rfl⟩ := H
       go_enter Tryz.func46, Tryz.ntmps46
       go_wp2_with (first | ((with_reducible refine gate_dst (N := 3) rfl ?_); refine box_event ?hg (N := 3) ?hd (cs := #[.float .f64 a1_0, .float .f64 a1_1, .float .f64 a1_2]) (t := 68) ?hr ?_; (case hd => rfl); (case hg => rfl); (case hr => first | (go_simp; done) | (go_simp; rfl)); intro gb101 hg w6 hbox hb; have n0_ := Aside0.mk (below_step (R.hb HB.out) hb); have n1_ := Aside0.mk (hbox); have n2_ := Aside0.mk ((by rw [hg]; exact (below_size (R.hb HB.out)) : w.heap.size ≤ gb101)); have n3_ := n2_; clear HB; have HB := n0_; have BK101 := n1_; have GW101 := n2_; have GE101 := n3_; clear n0_ n1_ n2_ n3_; clear hb hbox hg) | ((with_reducible refine gate_dst (N := 4) rfl ?_); refine box_event ?hg (N := 4) ?hd (cs := #[.string ⟨#[]⟩, .int .i64 0, .bool false, .int .i64 0, .int .u64 0, .float .f64 0, .string ⟨#[]⟩, .slice none 0 0]) (t := 34) ?hr ?_; (case hd => rfl); (case hg => rfl); (case hr => first | (go_simp; done) | (go_simp; rfl)); intro gb102 hg w7 hbox hb; have n0_ := Aside0.mk (blk_below (g := gb101) (o := .cells #[.float .f64 a1_0, .float .f64 a1_1, .float .f64 a1_2] 68 (0, 0)) (R.bl BK101.out) hb); have n1_ := Aside0.mk (below_step (R.hc1 HB.out GE101.out) hb); have n2_ := Aside0.mk (hbox); have n3_ := Aside0.mk ((by rw [hg]; exact (below_size (R.hc1 HB.out GE101.out)) : w.heap.size ≤ gb102)); have n4_ := n3_; have n5_ := Aside0.mk ((by rw [hg]; exact Nat.ne_of_lt (blk_lt (g := gb101) (o := .cells #[.float .f64 a1_0, .float .f64 a1_1, .float .f64 a1_2] 68 (0, 0)) (R.bl BK101.out)) : gb101 ≠ gb102)); have n6_ := Aside0.mk ((by rw [hg]; exact Nat.ne_of_gt (blk_lt (g := gb101) (o := .cells #[.float .f64 a1_0, .float .f64 a1_1, .float .f64 a1_2] 68 (0, 0)) (R.bl BK101.out)) : gb102 ≠ gb101)); clear BK101; clear HB; have BK101 := n0_; have HB := n1_; have BK102 := n2_; have GW102 := n3_; have GE102 := n4_; have NB101_102 := n5_; have NB102_101 := n6_; clear n0_ n1_ n2_ n3_ n4_ n5_ n6_; clear hb hbox hg) | ((with_reducible refine gate_dst (N := 5) rfl ?_); refine box_event ?hg (N := 5) ?hd (cs := #[.string ⟨#[]⟩, .int .i64 0, .bool false, .int .i64 0, .int .u64 0, .float .f64 0, .string ⟨#[]⟩, .slice none 0 0]) (t := 34) ?hr ?_; (case hd => rfl); (case hg => rfl); (case hr => first | (go_simp; done) | (go_simp; rfl)); intro gb103 hg w8 hbox hb; have n0_ := Aside0.mk (blk_below (g := gb101) (o := .cells #[.float .f64 a1_0, .float .f64 a1_1, .float .f64 a1_2] 68 (0, 0)) (R.bl BK101.out) hb); have n1_ := Aside0.mk (blk_below (g := gb102) (o := .cells #[.string ⟨#[]⟩, .int .i64 0, .bool false, .int .i64 0, .int .u64 0, .float .f64 0, .string ⟨#[]⟩, .slice none 0 0] 34 (0, 0)) (R.bl BK102.out) hb); have n2_ := Aside0.mk (below_step (R.hc2 HB.out GE101.out GE102.out) hb); have n3_ := Aside0.mk (hbox); have n4_ := Aside0.mk ((by rw [hg]; exact (below_size (R.hc2 HB.out GE101.out GE102.out)) : w.heap.size ≤ gb103)); have n5_ := n4_; have n6_ := Aside0.mk ((by rw [hg]; exact Nat.ne_of_lt (blk_lt (g := gb101) (o := .cells #[.float .f64 a1_0, .float .f64 a1_1, .float .f64 a1_2] 68 (0, 0)) (R.bl BK101.out)) : gb101 ≠ gb103)); have n7_ := Aside0.mk ((by rw [hg]; exact Nat.ne_of_gt (blk_lt (g := gb101) (o := .cells #[.float .f64 a1_0, .float .f64 a1_1, .float .f64 a1_2] 68 (0, 0)) (R.bl BK101.out)) : gb103 ≠ gb101)); have n8_ := Aside0.mk ((by rw [hg]; exact Nat.ne_of_lt (blk_lt (g := gb102) (o := .cells #[.string ⟨#[]⟩, .int .i64 0, .bool false, .int .i64 0, .int .u64 0, .float .f64 0, .string ⟨#[]⟩, .slice none 0 0] 34 (0, 0)) (R.bl BK102.out)) : gb102 ≠ gb103)); have n9_ := Aside0.mk ((by rw [hg]; exact Nat.ne_of_gt (blk_lt (g := gb102) (o := .cells #[.string ⟨#[]⟩, .int .i64 0, .bool false, .int .i64 0, .int .u64 0, .float .f64 0, .string ⟨#[]⟩, .slice none 0 0] 34 (0, 0)) (R.bl BK102.out)) : gb103 ≠ gb102)); clear BK101; clear BK102; clear HB; have BK101 := n0_; have BK102 := n1_; have HB := n2_; have BK103 := n3_; have GW103 := n4_; have GE103 := n5_; have NB101_103 := n6_; have NB103_101 := n7_; have NB102_103 := n8_; have NB103_102 := n9_; clear n0_ n1_ n2_ n3_ n4_ n5_ n6_ n7_ n8_ n9_; clear hb hbox hg; have hnb9 := NB103_101.out; have hnc9 := NB101_103.out; have hnb10 := NB103_102.out; have hnc10 := NB102_103.out; have hcz11_0 : w8.cell? ⟨gb103, 0, none⟩ = some (.string ⟨#[]⟩) := (blk_cell BK103.out 0).trans rfl; have hcz11_1 : w8.cell? ⟨gb103, 1, none⟩ = some (.int .i64 0) := (blk_cell BK103.out 1).trans rfl; have hcz11_2 : w8.cell? ⟨gb103, 2, none⟩ = some (.bool false) := (blk_cell BK103.out 2).trans rfl; have hcz11_3 : w8.cell? ⟨gb103, 3, none⟩ = some (.int .i64 0) := (blk_cell BK103.out 3).trans rfl; have hcz11_4 : w8.cell? ⟨gb103, 4, none⟩ = some (.int .u64 0) := (blk_cell BK103.out 4).trans rfl; have hcz11_5 : w8.cell? ⟨gb103, 5, none⟩ = some (.float .f64 0) := (blk_cell BK103.out 5).trans rfl; have hcz11_6 : w8.cell? ⟨gb103, 6, none⟩ = some (.string ⟨#[]⟩) := (blk_cell BK103.out 6).trans rfl; have hcz11_7 : w8.cell? ⟨gb103, 7, none⟩ = some (.slice none 0 0) := (blk_cell BK103.out 7).trans rfl; have hfz11_0 := blk_frozen BK103.out 0; have hfz11_1 := blk_frozen BK103.out 1; have hfz11_2 := blk_frozen BK103.out 2; have hfz11_3 := blk_frozen BK103.out 3; have hfz11_4 := blk_frozen BK103.out 4; have hfz11_5 := blk_frozen BK103.out 5; have hfz11_6 := blk_frozen BK103.out 6; have hfz11_7 := blk_frozen BK103.out 7; have hnb12 := NB101_102.out; have hnc12 := NB102_101.out; have hcz13_0 : w8.cell? ⟨gb101, 0, none⟩ = some (.float .f64 a1_0) := (blk_cell BK101.out 0).trans rfl; have hcz13_1 : w8.cell? ⟨gb101, 1, none⟩ = some (.float .f64 a1_1) := (blk_cell BK101.out 1).trans rfl; have hcz13_2 : w8.cell? ⟨gb101, 2, none⟩ = some (.float .f64 a1_2) := (blk_cell BK101.out 2).trans rfl; have hfz13_0 := blk_frozen BK101.out 0; have hfz13_1 := blk_frozen BK101.out 1; have hfz13_2 := blk_frozen BK101.out 2) | ((with_reducible refine gate_builtin (b := .append) (xs := #[.tmp 9, .tmp 13]) rfl ?_); at_builtin; refine Kd.R_append k34 (w0 := w) w.heap.size rfl (.tmp 9) (.tmp 13) 32 34 (.agg #[(.string ⟨#[]⟩), (.int .i64 0), (.bool false), (.int .i64 0), (.int .u64 0), (.float .f64 0), (.string ⟨#[]⟩), (.slice none 0 0)]) 96 rfl Tryz.underlying32 info34 rfl (by decide) (by omega) (.slice none 0 0) ([] : List (S34)) (⟨(⟨#[76, 111, 97, 100, 49]⟩ : ByteArray), 4, false, 0, 0, a1_0, (⟨#[]⟩ : ByteArray), ([] : List (S34))⟩ : S34) [.string ⟨#[76, 111, 97, 100, 49]⟩, .int .i64 4, .bool false, .int .i64 0, .int .u64 0, .float .f64 a1_0, .string ⟨#[]⟩, .slice none 0 0] (fun k_ => k_ ≠ gb102 ∧ k_ ≠ gb103) (fun k_ => ((fun k_ => k_ ≠ gb102 ∧ k_ ≠ gb103)) k_ ∧ some k_ ≠ (.slice none 0 0 : Value).ownBlock) rfl (by first | (go_simp; done) | (go_simp; rfl)) ?aP (fun _ hk => hk) ?aF ?aO ?aB ?aS ?aL ?_; (case aP => exact k34_mkM _ _ _ (⟨(⟨#[76, 111, 97, 100, 49]⟩ : ByteArray), 4, false, 0, 0, a1_0, (⟨#[]⟩ : ByteArray), ([] : List (S34))⟩ : S34) (Kd.R_nil _ _ _ _ _)); (case aB => exact (R.hc3 HB.out GE101.out GE102.out GE103.out)); (case aF => exact (fun k_ hk => ⟨Kd.freshB (g := gb102) (o := .cells #[.string ⟨#[]⟩, .int .i64 0, .bool false, .int .i64 0, .int .u64 0, .float .f64 0, .string ⟨#[]⟩, .slice none 0 0] 34 (0, 0)) (by (with_reducible repeat (first | refine blk_drewN ?_ _ | refine blk_drew ?_ | refine blk_alloc ?_ _)); refine blk_far ?_ NB102_103.out _; (with_reducible repeat (first | refine blk_drewN ?_ _ | refine blk_drew ?_ | refine blk_alloc ?_ _)); refine blk_far ?_ NB102_103.out _; (with_reducible repeat (first | refine blk_drewN ?_ _ | refine blk_drew ?_ | refine blk_alloc ?_ _)); refine blk_far ?_ NB102_103.out _; (with_reducible repeat (first | refine blk_drewN ?_ _ | refine blk_drew ?_ | refine blk_alloc ?_ _)); refine blk_far ?_ NB102_103.out _; (with_reducible repeat (first | refine blk_drewN ?_ _ | refine blk_drew ?_ | refine blk_alloc ?_ _)); refine blk_far ?_ NB102_103.out _; (with_reducible repeat (first | refine blk_drewN ?_ _ | refine blk_drew ?_ | refine blk_alloc ?_ _)); refine blk_far ?_ NB102_103.out _; (with_reducible repeat (first | refine blk_drewN ?_ _ | refine blk_drew ?_ | refine blk_alloc ?_ _)); refine blk_far ?_ NB102_103.out _; (with_reducible repeat (first | refine blk_drewN ?_ _ | refine blk_drew ?_ | refine blk_alloc ?_ _)); refine blk_far ?_ NB102_103.out _; (with_reducible repeat (first | refine blk_drewN ?_ _ | refine blk_drew ?_ | refine blk_alloc ?_ _)); exact BK102.out) k_ hk, Kd.freshB (g := gb103) (o := .cells #[.string a0, .int .i64 8, .bool false, .int .i64 0, .int .u64 0, .float .f64 0, .string ⟨#[]⟩, .slice none 0 0] 34 (0, 0)) (by (with_reducible repeat (first | refine blk_drewN ?_ _ | refine blk_drew ?_ | refine blk_alloc ?_ _)); refine blk_put (cs := #[.string a0, .int .i64 8, .bool false, .int .i64 0, .int .u64 0, .float .f64 0, .string ⟨#[]⟩, .slice none 0 0]) ?_ 7 _ rfl; (with_reducible repeat (first | refine blk_drewN ?_ _ | refine blk_drew ?_ | refine blk_alloc ?_ _)); refine blk_put (cs := #[.string a0, .int .i64 8, .bool false, .int .i64 0, .int .u64 0, .float .f64 0, .string ⟨#[]⟩, .slice none 0 0]) ?_ 6 _ rfl; (with_reducible repeat (first | refine blk_drewN ?_ _ | refine blk_drew ?_ | refine blk_alloc ?_ _)); refine blk_put (cs := #[.string a0, .int .i64 8, .bool false, .int .i64 0, .int .u64 0, .float .f64 0, .string ⟨#[]⟩, .slice none 0 0]) ?_ 5 _ rfl; (with_reducible repeat (first | refine blk_drewN ?_ _ | refine blk_drew ?_ | refine blk_alloc ?_ _)); refine blk_put (cs := #[.string a0, .int .i64 8, .bool false, .int .i64 0, .int .u64 0, .float .f64 0, .string ⟨#[]⟩, .slice none 0 0]) ?_ 4 _ rfl; (with_reducible repeat (first | refine blk_drewN ?_ _ | refine blk_drew ?_ | refine blk_alloc ?_ _)); refine blk_put (cs := #[.string a0, .int .i64 8, .bool false, .int .i64 0, .int .u64 0, .float .f64 0, .string ⟨#[]⟩, .slice none 0 0]) ?_ 3 _ rfl; (with_reducible repeat (first | refine blk_drewN ?_ _ | refine blk_drew ?_ | refine blk_alloc ?_ _)); refine blk_put (cs := #[.string a0, .int .i64 8, .bool false, .int .i64 0, .int .u64 0, .float .f64 0, .string ⟨#[]⟩, .slice none 0 0]) ?_ 2 _ rfl; (with_reducible repeat (first | refine blk_drewN ?_ _ | refine blk_drew ?_ | refine blk_alloc ?_ _)); refine blk_put (cs := #[.string a0, .int .i64 0, .bool false, .int .i64 0, .int .u64 0, .float .f64 0, .string ⟨#[]⟩, .slice none 0 0]) ?_ 1 _ rfl; (with_reducible repeat (first | refine blk_drewN ?_ _ | refine blk_drew ?_ | refine blk_alloc ?_ _)); refine blk_put (cs := #[.string ⟨#[]⟩, .int .i64 0, .bool false, .int .i64 0, .int .u64 0, .float .f64 0, .string ⟨#[]⟩, .slice none 0 0]) ?_ 0 _ rfl; (with_reducible repeat (first | refine blk_drewN ?_ _ | refine blk_drew ?_ | refine blk_alloc ?_ _)); exact BK103.out) k_ hk⟩)); (case aO => exact ((Kd.R_nil _ _ _ _ (fun k_ => k_ ≠ gb102 ∧ k_ ≠ gb103)))); (case aS => exact (below_size (R.hc3 HB.out GE101.out GE102.out GE103.out))); (case aL => have := LMc3.out; omega); intro v105 w14 ho hb hg hat; rw [← Ny104.out] at ho; have n0_ := Aside0.mk (blk_grown (g := gb101) (o := .cells #[.float .f64 a1_0, .float .f64 a1_1, .float .f64 a1_2] 68 (0, 0)) (by (with_reducible repeat (first | refine blk_drewN ?_ _ | refine blk_drew ?_ | refine blk_alloc ?_ _)); refine blk_far ?_ NB101_103.out _; (with_reducible repeat (first | refine blk_drewN ?_ _ | refine blk_drew ?_ | refine blk_alloc ?_ _)); refine blk_far ?_ NB101_103.out _; (with_reducible repeat (first | refine blk_drewN ?_ _ | refine blk_drew ?_ | refine blk_alloc ?_ _)); refine blk_far ?_ NB101_103.out _; (with_reducible repeat (first | refine blk_drewN ?_ _ | refine blk_drew ?_ | refine blk_alloc ?_ _)); refine blk_far ?_ NB101_103.out _; (with_reducible repeat (first | refine blk_drewN ?_ _ | refine blk_drew ?_ | refine blk_alloc ?_ _)); refine blk_far ?_ NB101_103.out _; (with_reducible repeat (first | refine blk_drewN ?_ _ | refine blk_drew ?_ | refine blk_alloc ?_ _)); refine blk_far ?_ NB101_103.out _; (with_reducible repeat (first | refine blk_drewN ?_ _ | refine blk_drew ?_ | refine blk_alloc ?_ _)); refine blk_far ?_ NB101_103.out _; (with_reducible repeat (first | refine blk_drewN ?_ _ | refine blk_drew ?_ | refine blk_alloc ?_ _)); refine blk_far ?_ NB101_103.out _; (with_reducible repeat (first | refine blk_drewN ?_ _ | refine blk_drew ?_ | refine blk_alloc ?_ _)); exact BK101.out) hg (by simp [Value.ownBlock])); have n1_ := Aside0.mk (blk_grown (g := gb102) (o := .cells #[.string ⟨#[]⟩, .int .i64 0, .bool false, .int .i64 0, .int .u64 0, .float .f64 0, .string ⟨#[]⟩, .slice none 0 0] 34 (0, 0)) (by (with_reducible repeat (first | refine blk_drewN ?_ _ | refine blk_drew ?_ | refine blk_alloc ?_ _)); refine blk_far ?_ NB102_103.out _; (with_reducible repeat (first | refine blk_drewN ?_ _ | refine blk_drew ?_ | refine blk_alloc ?_ _)); refine blk_far ?_ NB102_103.out _; (with_reducible repeat (first | refine blk_drewN ?_ _ | refine blk_drew ?_ | refine blk_alloc ?_ _)); refine blk_far ?_ NB102_103.out _; (with_reducible repeat (first | refine blk_drewN ?_ _ | refine blk_drew ?_ | refine blk_alloc ?_ _)); refine blk_far ?_ NB102_103.out _; (with_reducible repeat (first | refine blk_drewN ?_ _ | refine blk_drew ?_ | refine blk_alloc ?_ _)); refine blk_far ?_ NB102_103.out _; (with_reducible repeat (first | refine blk_drewN ?_ _ | refine blk_drew ?_ | refine blk_alloc ?_ _)); refine blk_far ?_ NB102_103.out _; (with_reducible repeat (first | refine blk_drewN ?_ _ | refine blk_drew ?_ | refine blk_alloc ?_ _)); refine blk_far ?_ NB102_103.out _; (with_reducible repeat (first | refine blk_drewN ?_ _ | refine blk_drew ?_ | refine blk_alloc ?_ _)); refine blk_far ?_ NB102_103.out _; (with_reducible repeat (first | refine blk_drewN ?_ _ | refine blk_drew ?_ | refine blk_alloc ?_ _)); exact BK102.out) hg (by simp [Value.ownBlock])); have n2_ := Aside0.mk (blk_grown (g := gb103) (o := .cells #[.string a0, .int .i64 8, .bool false, .int .i64 0, .int .u64 0, .float .f64 0, .string ⟨#[]⟩, .slice none 0 0] 34 (0, 0)) (by (with_reducible repeat (first | refine blk_drewN ?_ _ | refine blk_drew ?_ | refine blk_alloc ?_ _)); refine blk_put (cs := #[.string a0, .int .i64 8, .bool false, .int .i64 0, .int .u64 0, .float .f64 0, .string ⟨#[]⟩, .slice none 0 0]) ?_ 7 _ rfl; (with_reducible repeat (first | refine blk_drewN ?_ _ | refine blk_drew ?_ | refine blk_alloc ?_ _)); refine blk_put (cs := #[.string a0, .int .i64 8, .bool false, .int .i64 0, .int .u64 0, .float .f64 0, .string ⟨#[]⟩, .slice none 0 0]) ?_ 6 _ rfl; (with_reducible repeat (first | refine blk_drewN ?_ _ | refine blk_drew ?_ | refine blk_alloc ?_ _)); refine blk_put (cs := #[.string a0, .int .i64 8, .bool false, .int .i64 0, .int .u64 0, .float .f64 0, .string ⟨#[]⟩, .slice none 0 0]) ?_ 5 _ rfl; (with_reducible repeat (first | refine blk_drewN ?_ _ | refine blk_drew ?_ | refine blk_alloc ?_ _)); refine blk_put (cs := #[.string a0, .int .i64 8, .bool false, .int .i64 0, .int .u64 0, .float .f64 0, .string ⟨#[]⟩, .slice none 0 0]) ?_ 4 _ rfl; (with_reducible repeat (first | refine blk_drewN ?_ _ | refine blk_drew ?_ | refine blk_alloc ?_ _)); refine blk_put (cs := #[.string a0, .int .i64 8, .bool false, .int .i64 0, .int .u64 0, .float .f64 0, .string ⟨#[]⟩, .slice none 0 0]) ?_ 3 _ rfl; (with_reducible repeat (first | refine blk_drewN ?_ _ | refine blk_drew ?_ | refine blk_alloc ?_ _)); refine blk_put (cs := #[.string a0, .int .i64 8, .bool false, .int .i64 0, .int .u64 0, .float .f64 0, .string ⟨#[]⟩, .slice none 0 0]) ?_ 2 _ rfl; (with_reducible repeat (first | refine blk_drewN ?_ _ | refine blk_drew ?_ | refine blk_alloc ?_ _)); refine blk_put (cs := #[.string a0, .int .i64 0, .bool false, .int .i64 0, .int .u64 0, .float .f64 0, .string ⟨#[]⟩, .slice none 0 0]) ?_ 1 _ rfl; (with_reducible repeat (first | refine blk_drewN ?_ _ | refine blk_drew ?_ | refine blk_alloc ?_ _)); refine blk_put (cs := #[.string ⟨#[]⟩, .int .i64 0, .bool false, .int .i64 0, .int .u64 0, .float .f64 0, .string ⟨#[]⟩, .slice none 0 0]) ?_ 0 _ rfl; (with_reducible repeat (first | refine blk_drewN ?_ _ | refine blk_drew ?_ | refine blk_alloc ?_ _)); exact BK103.out) hg (by simp [Value.ownBlock])); have n3_ := Aside0.mk (hb); have n4_ := Aside0.mk (ho); clear BK101; clear BK102; clear BK103; clear HB; have BK101 := n0_; have BK102 := n1_; have BK103 := n2_; have HB := n3_; have HO106 := n4_; clear n0_ n1_ n2_ n3_ n4_; clear ho hb hg hat; obtain ⟨Ao15, co15, eo15⟩ := Kd.R_slice HO106.out; subst eo15; have hcz16_0 : w14.cell? ⟨gb103, 0, none⟩ = some (.string a0) := (blk_cell BK103.out 0).trans rfl; have hcz16_1 : w14.cell? ⟨gb103, 1, none⟩ = some (.int .i64 8) := (blk_cell BK103.out 1).trans rfl; have hcz16_2 : w14.cell? ⟨gb103, 2, none⟩ = some (.bool false) := (blk_cell BK103.out 2).trans rfl; have hcz16_3 : w14.cell? ⟨gb103, 3, none⟩ = some (.int .i64 0) := (blk_cell BK103.out 3).trans rfl; have hcz16_4 : w14.cell? ⟨gb103, 4, none⟩ = some (.int .u64 0) := (blk_cell BK103.out 4).trans rfl; have hcz16_5 : w14.cell? ⟨gb103, 5, none⟩ = some (.float .f64 0) := (blk_cell BK103.out 5).trans rfl; have hcz16_6 : w14.cell? ⟨gb103, 6, none⟩ = some (.string ⟨#[]⟩) := (blk_cell BK103.out 6).trans rfl; have hcz16_7 : w14.cell? ⟨gb103, 7, none⟩ = some (.slice none 0 0) := (blk_cell BK103.out 7).trans rfl; have hfz16_0 := blk_frozen BK103.out 0; have hfz16_1 := blk_frozen BK103.out 1; have hfz16_2 := blk_frozen BK103.out 2; have hfz16_3 := blk_frozen BK103.out 3; have hfz16_4 := blk_frozen BK103.out 4; have hfz16_5 := blk_frozen BK103.out 5; have hfz16_6 := blk_frozen BK103.out 6; have hfz16_7 := blk_frozen BK103.out 7; have hcz17_0 : w14.cell? ⟨gb101, 0, none⟩ = some (.float .f64 a1_0) := (blk_cell BK101.out 0).trans rfl; have hcz17_1 : w14.cell? ⟨gb101, 1, none⟩ = some (.float .f64 a1_1) := (blk_cell BK101.out 1).trans rfl; have hcz17_2 : w14.cell? ⟨gb101, 2, none⟩ = some (.float .f64 a1_2) := (blk_cell BK101.out 2).trans rfl; have hfz17_0 := blk_frozen BK101.out 0; have hfz17_1 := blk_frozen BK101.out 1; have hfz17_2 := blk_frozen BK101.out 2) | ((with_reducible refine gate_builtin (b := .append) (xs := #[.tmp 17, .tmp 21]) rfl ?_); at_builtin; refine Kd.R_append k34 (w0 := w) w.heap.size rfl (.tmp 17) (.tmp 21) 32 34 (.agg #[(.string ⟨#[]⟩), (.int .i64 0), (.bool false), (.int .i64 0), (.int .u64 0), (.float .f64 0), (.string ⟨#[]⟩), (.slice none 0 0)]) 96 rfl Tryz.underlying32 info34 rfl (by decide) (by omega) (.slice Ao15 y104.length co15) y104 (⟨(⟨#[76, 111, 97, 100, 53]⟩ : ByteArray), 4, false, 0, 0, a1_1, (⟨#[]⟩ : ByteArray), ([] : List (S34))⟩ : S34) [.string ⟨#[76, 111, 97, 100, 53]⟩, .int .i64 4, .bool false, .int .i64 0, .int .u64 0, .float .f64 a1_1, .string ⟨#[]⟩, .slice none 0 0] (fun k_ => k_ ≠ gb102 ∧ k_ ≠ gb103) (fun k_ => ((fun k_ => k_ ≠ gb102 ∧ k_ ≠ gb103)) k_ ∧ some k_ ≠ (.slice Ao15 y104.length co15 : Value).ownBlock) rfl (by first | (go_simp; done) | (go_simp; rfl)) ?aP (fun _ hk => hk) ?aF ?aO ?aB ?aS ?aL ?_; (case aP => exact k34_mkM _ _ _ (⟨(⟨#[76, 111, 97, 100, 53]⟩ : ByteArray), 4, false, 0, 0, a1_1, (⟨#[]⟩ : ByteArray), ([] : List (S34))⟩ : S34) (Kd.R_nil _ _ _ _ _)); (case aB => exact (R.hc3 HB.out GE101.out GE102.out GE103.out)); (case aF => exact (fun k_ hk => ⟨Kd.freshB (g := gb102) (o := .cells #[.string ⟨#[]⟩, .int .i64 0, .bool false, .int .i64 0, .int .u64 0, .float .f64 0, .string ⟨#[]⟩, .slice none 0 0] 34 (0, 0)) (by (with_reducible repeat (first | refine blk_drewN ?_ _ | refine blk_drew ?_ | refine blk_alloc ?_ _)); refine blk_far ?_ NB102_103.out _; (with_reducible repeat (first | refine blk_drewN ?_ _ | refine blk_drew ?_ | refine blk_alloc ?_ _)); exact BK102.out) k_ hk, Kd.freshB (g := gb103) (o := .cells #[.string a0, .int .i64 8, .bool false, .int .i64 0, .int .u64 0, .float .f64 0, .string ⟨#[]⟩, .slice Ao15 y104.length co15] 34 (0, 0)) (by (with_reducible repeat (first | refine blk_drewN ?_ _ | refine blk_drew ?_ | refine blk_alloc ?_ _)); refine blk_put (cs := #[.string a0, .int .i64 8, .bool false, .int .i64 0, .int .u64 0, .float .f64 0, .string ⟨#[]⟩, .slice none 0 0]) ?_ 7 _ rfl; (with_reducible repeat (first | refine blk_drewN ?_ _ | refine blk_drew ?_ | refine blk_alloc ?_ _)); exact BK103.out) k_ hk⟩)); (case aO => exact (by (with_reducible repeat (first | apply Kd.R_alloc | apply Kd.R_drewN | apply Kd.R_drew)); exact Kd.R_mono (Kd.R_far (p := ⟨gb103, 7, none⟩) (Kd.R_mono HO106.out (fun k_ hk => (⟨hk, hk.2⟩ : _ ∧ k_ ≠ gb103))) (fun _ hk => hk.2) (.slice Ao15 y104.length co15)) (fun _ hk => ⟨hk.1.1, hk.1.2⟩))); (case aS => exact (below_size (R.hc3 HB.out GE101.out GE102.out GE103.out))); (case aL => have := LMc4.out; omega); intro v108 w18 ho hb hg hat; rw [← Ny107.out] at ho; have n0_ := Aside0.mk (blk_grown (g := gb101) (o := .cells #[.float .f64 a1_0, .float .f64 a1_1, .float .f64 a1_2] 68 (0, 0)) (by (with_reducible repeat (first | refine blk_drewN ?_ _ | refine blk_drew ?_ | refine blk_alloc ?_ _)); refine blk_far ?_ NB101_103.out _; (with_reducible repeat (first | refine blk_drewN ?_ _ | refine blk_drew ?_ | refine blk_alloc ?_ _)); exact BK101.out) hg (Kd.R_ne HO106.out BK101.out (by decide))); have n1_ := Aside0.mk (blk_grown (g := gb102) (o := .cells #[.string ⟨#[]⟩, .int .i64 0, .bool false, .int .i64 0, .int .u64 0, .float .f64 0, .string ⟨#[]⟩, .slice none 0 0] 34 (0, 0)) (by (with_reducible repeat (first | refine blk_drewN ?_ _ | refine blk_drew ?_ | refine blk_alloc ?_ _)); refine blk_far ?_ NB102_103.out _; (with_reducible repeat (first | refine blk_drewN ?_ _ | refine blk_drew ?_ | refine blk_alloc ?_ _)); exact BK102.out) hg (Kd.R_away HO106.out (fun _ hk => hk.1))); have n2_ := Aside0.mk (blk_grown (g := gb103) (o := .cells #[.string a0, .int .i64 8, .bool false, .int .i64 0, .int .u64 0, .float .f64 0, .string ⟨#[]⟩, .slice Ao15 y104.length co15] 34 (0, 0)) (by (with_reducible repeat (first | refine blk_drewN ?_ _ | refine blk_drew ?_ | refine blk_alloc ?_ _)); refine blk_put (cs := #[.string a0, .int .i64 8, .bool false, .int .i64 0, .int .u64 0, .float .f64 0, .string ⟨#[]⟩, .slice none 0 0]) ?_ 7 _ rfl; (with_reducible repeat (first | refine blk_drewN ?_ _ | refine blk_drew ?_ | refine blk_alloc ?_ _)); exact BK103.out) hg (Kd.R_away HO106.out (fun _ hk => hk.2))); have n3_ := Aside0.mk (hb); have n4_ := Aside0.mk (ho); clear BK101; clear BK102; clear BK103; clear HB; clear HO106; have BK101 := n0_; have BK102 := n1_; have BK103 := n2_; have HB := n3_; have HO109 := n4_; clear n0_ n1_ n2_ n3_ n4_; clear ho hb hg hat; obtain ⟨Ao19, co19, eo19⟩ := Kd.R_slice HO109.out; subst eo19; have hcz20_0 : w18.cell? ⟨gb103, 0, none⟩ = some (.string a0) := (blk_cell BK103.out 0).trans rfl; have hcz20_1 : w18.cell? ⟨gb103, 1, none⟩ = some (.int .i64 8) := (blk_cell BK103.out 1).trans rfl; have hcz20_2 : w18.cell? ⟨gb103, 2, none⟩ = some (.bool false) := (blk_cell BK103.out 2).trans rfl; have hcz20_3 : w18.cell? ⟨gb103, 3, none⟩ = some (.int .i64 0) := (blk_cell BK103.out 3).trans rfl; have hcz20_4 : w18.cell? ⟨gb103, 4, none⟩ = some (.int .u64 0) := (blk_cell BK103.out 4).trans rfl; have hcz20_5 : w18.cell? ⟨gb103, 5, none⟩ = some (.float .f64 0) := (blk_cell BK103.out 5).trans rfl; have hcz20_6 : w18.cell? ⟨gb103, 6, none⟩ = some (.string ⟨#[]⟩) := (blk_cell BK103.out 6).trans rfl; have hcz20_7 : w18.cell? ⟨gb103, 7, none⟩ = some (.slice Ao15 y104.length co15) := (blk_cell BK103.out 7).trans rfl; have hfz20_0 := blk_frozen BK103.out 0; have hfz20_1 := blk_frozen BK103.out 1; have hfz20_2 := blk_frozen BK103.out 2; have hfz20_3 := blk_frozen BK103.out 3; have hfz20_4 := blk_frozen BK103.out 4; have hfz20_5 := blk_frozen BK103.out 5; have hfz20_6 := blk_frozen BK103.out 6; have hfz20_7 := blk_frozen BK103.out 7; have hcz21_0 : w18.cell? ⟨gb101, 0, none⟩ = some (.float .f64 a1_0) := (blk_cell BK101.out 0).trans rfl; have hcz21_1 : w18.cell? ⟨gb101, 1, none⟩ = some (.float .f64 a1_1) := (blk_cell BK101.out 1).trans rfl; have hcz21_2 : w18.cell? ⟨gb101, 2, none⟩ = some (.float .f64 a1_2) := (blk_cell BK101.out 2).trans rfl; have hfz21_0 := blk_frozen BK101.out 0; have hfz21_1 := blk_frozen BK101.out 1; have hfz21_2 := blk_frozen BK101.out 2) | ((with_reducible refine gate_builtin (b := .append) (xs := #[.tmp 25, .tmp 29]) rfl ?_); at_builtin; refine Kd.R_append k34 (w0 := w) w.heap.size rfl (.tmp 25) (.tmp 29) 32 34 (.agg #[(.string ⟨#[]⟩), (.int .i64 0), (.bool false), (.int .i64 0), (.int .u64 0), (.float .f64 0), (.string ⟨#[]⟩), (.slice none 0 0)]) 96 rfl Tryz.underlying32 info34 rfl (by decide) (by omega) (.slice Ao19 y107.length co19) y107 (⟨(⟨#[76, 111, 97, 100, 49, 53]⟩ : ByteArray), 4, false, 0, 0, a1_2, (⟨#[]⟩ : ByteArray), ([] : List (S34))⟩ : S34) [.string ⟨#[76, 111, 97, 100, 49, 53]⟩, .int .i64 4, .bool false, .int .i64 0, .int .u64 0, .float .f64 a1_2, .string ⟨#[]⟩, .slice none 0 0] (fun k_ => k_ ≠ gb102 ∧ k_ ≠ gb103) (fun k_ => ((fun k_ => k_ ≠ gb102 ∧ k_ ≠ gb103)) k_ ∧ some k_ ≠ (.slice Ao19 y107.length co19 : Value).ownBlock) rfl (by first | (go_simp; done) | (go_simp; rfl)) ?aP (fun _ hk => hk) ?aF ?aO ?aB ?aS ?aL ?_; (case aP => exact k34_mkM _ _ _ (⟨(⟨#[76, 111, 97, 100, 49, 53]⟩ : ByteArray), 4, false, 0, 0, a1_2, (⟨#[]⟩ : ByteArray), ([] : List (S34))⟩ : S34) (Kd.R_nil _ _ _ _ _)); (case aB => exact (R.hc3 HB.out GE101.out GE102.out GE103.out)); (case aF => exact (fun k_ hk => ⟨Kd.freshB (g := gb102) (o := .cells #[.string ⟨#[]⟩, .int .i64 0, .bool false, .int .i64 0, .int .u64 0, .float .f64 0, .string ⟨#[]⟩, .slice none 0 0] 34 (0, 0)) (by (with_reducible repeat (first | refine blk_drewN ?_ _ | refine blk_drew ?_ | refine blk_alloc ?_ _)); refine blk_far ?_ NB102_103.out _; (with_reducible repeat (first | refine blk_drewN ?_ _ | refine blk_drew ?_ | refine blk_alloc ?_ _)); exact BK102.out) k_ hk, Kd.freshB (g := gb103) (o := .cells #[.string a0, .int .i64 8, .bool false, .int .i64 0, .int .u64 0, .float .f64 0, .string ⟨#[]⟩, .slice Ao19 y107.length co19] 34 (0, 0)) (by (with_reducible repeat (first | refine blk_drewN ?_ _ | refine blk_drew ?_ | refine blk_alloc ?_ _)); refine blk_put (cs := #[.string a0, .int .i64 8, .bool false, .int .i64 0, .int .u64 0, .float .f64 0, .string ⟨#[]⟩, .slice Ao15 y104.length co15]) ?_ 7 _ rfl; (with_reducible repeat (first | refine blk_drewN ?_ _ | refine blk_drew ?_ | refine blk_alloc ?_ _)); exact BK103.out) k_ hk⟩)); (case aO => exact (by (with_reducible repeat (first | apply Kd.R_alloc | apply Kd.R_drewN | apply Kd.R_drew)); exact Kd.R_mono (Kd.R_far (p := ⟨gb103, 7, none⟩) (Kd.R_mono HO109.out (fun k_ hk => (⟨hk, hk.2⟩ : _ ∧ k_ ≠ gb103))) (fun _ hk => hk.2) (.slice Ao19 y107.length co19)) (fun _ hk => ⟨hk.1.1, hk.1.2⟩))); (case aS => exact (below_size (R.hc3 HB.out GE101.out GE102.out GE103.out))); (case aL => have := LMc5.out; omega); intro v111 w22 ho hb hg hat; rw [← Ny110.out] at ho; have n0_ := Aside0.mk (blk_grown (g := gb101) (o := .cells #[.float .f64 a1_0, .float .f64 a1_1, .float .f64 a1_2] 68 (0, 0)) (by (with_reducible repeat (first | refine blk_drewN ?_ _ | refine blk_drew ?_ | refine blk_alloc ?_ _)); refine blk_far ?_ NB101_103.out _; (with_reducible repeat (first | refine blk_drewN ?_ _ | refine blk_drew ?_ | refine blk_alloc ?_ _)); exact BK101.out) hg (Kd.R_ne HO109.out BK101.out (by decide))); have n1_ := Aside0.mk (blk_grown (g := gb102) (o := .cells #[.string ⟨#[]⟩, .int .i64 0, .bool false, .int .i64 0, .int .u64 0, .float .f64 0, .string ⟨#[]⟩, .slice none 0 0] 34 (0, 0)) (by (with_reducible repeat (first | refine blk_drewN ?_ _ | refine blk_drew ?_ | refine blk_alloc ?_ _)); refine blk_far ?_ NB102_103.out _; (with_reducible repeat (first | refine blk_drewN ?_ _ | refine blk_drew ?_ | refine blk_alloc ?_ _)); exact BK102.out) hg (Kd.R_away HO109.out (fun _ hk => hk.1))); have n2_ := Aside0.mk (blk_grown (g := gb103) (o := .cells #[.string a0, .int .i64 8, .bool false, .int .i64 0, .int .u64 0, .float .f64 0, .string ⟨#[]⟩, .slice Ao19 y107.length co19] 34 (0, 0)) (by (with_reducible repeat (first | refine blk_drewN ?_ _ | refine blk_drew ?_ | refine blk_alloc ?_ _)); refine blk_put (cs := #[.string a0, .int .i64 8, .bool false, .int .i64 0, .int .u64 0, .float .f64 0, .string ⟨#[]⟩, .slice Ao15 y104.length co15]) ?_ 7 _ rfl; (with_reducible repeat (first | refine blk_drewN ?_ _ | refine blk_drew ?_ | refine blk_alloc ?_ _)); exact BK103.out) hg (Kd.R_away HO109.out (fun _ hk => hk.2))); have n3_ := Aside0.mk (hb); have n4_ := Aside0.mk (ho); clear BK101; clear BK102; clear BK103; clear HB; clear HO109; have BK101 := n0_; have BK102 := n1_; have BK103 := n2_; have HB := n3_; have HO112 := n4_; clear n0_ n1_ n2_ n3_ n4_; clear ho hb hg hat; obtain ⟨Ao23, co23, eo23⟩ := Kd.R_slice HO112.out; subst eo23; have hcz24_0 : w22.cell? ⟨gb103, 0, none⟩ = some (.string a0) := (blk_cell BK103.out 0).trans rfl; have hcz24_1 : w22.cell? ⟨gb103, 1, none⟩ = some (.int .i64 8) := (blk_cell BK103.out 1).trans rfl; have hcz24_2 : w22.cell? ⟨gb103, 2, none⟩ = some (.bool false) := (blk_cell BK103.out 2).trans rfl; have hcz24_3 : w22.cell? ⟨gb103, 3, none⟩ = some (.int .i64 0) := (blk_cell BK103.out 3).trans rfl; have hcz24_4 : w22.cell? ⟨gb103, 4, none⟩ = some (.int .u64 0) := (blk_cell BK103.out 4).trans rfl; have hcz24_5 : w22.cell? ⟨gb103, 5, none⟩ = some (.float .f64 0) := (blk_cell BK103.out 5).trans rfl; have hcz24_6 : w22.cell? ⟨gb103, 6, none⟩ = some (.string ⟨#[]⟩) := (blk_cell BK103.out 6).trans rfl; have hcz24_7 : w22.cell? ⟨gb103, 7, none⟩ = some (.slice Ao19 y107.length co19) := (blk_cell BK103.out 7).trans rfl; have hfz24_0 := blk_frozen BK103.out 0; have hfz24_1 := blk_frozen BK103.out 1; have hfz24_2 := blk_frozen BK103.out 2; have hfz24_3 := blk_frozen BK103.out 3; have hfz24_4 := blk_frozen BK103.out 4; have hfz24_5 := blk_frozen BK103.out 5; have hfz24_6 := blk_frozen BK103.out 6; have hfz24_7 := blk_frozen BK103.out 7; have hcz25_0 : w22.cell? ⟨gb102, 0, none⟩ = some (.string ⟨#[]⟩) := (blk_cell BK102.out 0).trans rfl; have hcz25_1 : w22.cell? ⟨gb102, 1, none⟩ = some (.int .i64 0) := (blk_cell BK102.out 1).trans rfl; have hcz25_2 : w22.cell? ⟨gb102, 2, none⟩ = some (.bool false) := (blk_cell BK102.out 2).trans rfl; have hcz25_3 : w22.cell? ⟨gb102, 3, none⟩ = some (.int .i64 0) := (blk_cell BK102.out 3).trans rfl; have hcz25_4 : w22.cell? ⟨gb102, 4, none⟩ = some (.int .u64 0) := (blk_cell BK102.out 4).trans rfl; have hcz25_5 : w22.cell? ⟨gb102, 5, none⟩ = some (.float .f64 0) := (blk_cell BK102.out 5).trans rfl; have hcz25_6 : w22.cell? ⟨gb102, 6, none⟩ = some (.string ⟨#[]⟩) := (blk_cell BK102.out 6).trans rfl; have hcz25_7 : w22.cell? ⟨gb102, 7, none⟩ = some (.slice none 0 0) := (blk_cell BK102.out 7).trans rfl; have hfz25_0 := blk_frozen BK102.out 0; have hfz25_1 := blk_frozen BK102.out 1; have hfz25_2 := blk_frozen BK102.out 2; have hfz25_3 := blk_frozen BK102.out 3; have hfz25_4 := blk_frozen BK102.out 4; have hfz25_5 := blk_frozen BK102.out 5; have hfz25_6 := blk_frozen BK102.out 6; have hfz25_7 := blk_frozen BK102.out 7))
       refine bodyPost_ret (results_cell_row rfl _ _ gb102 34 #[.string a0, .int .i64 8, .bool false, .int .i64 0, .int .u64 0, .float .f64 0, .string ⟨#[]⟩, .slice Ao23 y110.length co23] (0, 0) _ rfl (by (with_reducible repeat (first | refine blk_drewN ?_ _ | refine blk_drew ?_ | refine blk_alloc ?_ _)); refine blk_put (cs := #[.string a0, .int .i64 8, .bool false, .int .i64 0, .int .u64 0, .float .f64 0, .string ⟨#[]⟩, .slice none 0 0]) ?_ 7 _ rfl; (with_reducible repeat (first | refine blk_drewN ?_ _ | refine blk_drew ?_ | refine blk_alloc ?_ _)); refine blk_put (cs := #[.string a0, .int .i64 8, .bool false, .int .i64 0, .int .u64 0, .float .f64 0, .string ⟨#[]⟩, .slice none 0 0]) ?_ 6 _ rfl; (with_reducible repeat (first | refine blk_drewN ?_ _ | refine blk_drew ?_ | refine blk_alloc ?_ _)); refine blk_put (cs := #[.string a0, .int .i64 8, .bool false, .int .i64 0, .int .u64 0, .float .f64 0, .string ⟨#[]⟩, .slice none 0 0]) ?_ 5 _ rfl; (with_reducible repeat (first | refine blk_drewN ?_ _ | refine blk_drew ?_ | refine blk_alloc ?_ _)); refine blk_put (cs := #[.string a0, .int .i64 8, .bool false, .int .i64 0, .int .u64 0, .float .f64 0, .string ⟨#[]⟩, .slice none 0 0]) ?_ 4 _ rfl; (with_reducible repeat (first | refine blk_drewN ?_ _ | refine blk_drew ?_ | refine blk_alloc ?_ _)); refine blk_put (cs := #[.string a0, .int .i64 8, .bool false, .int .i64 0, .int .u64 0, .float .f64 0, .string ⟨#[]⟩, .slice none 0 0]) ?_ 3 _ rfl; (with_reducible repeat (first | refine blk_drewN ?_ _ | refine blk_drew ?_ | refine blk_alloc ?_ _)); refine blk_put (cs := #[.string a0, .int .i64 8, .bool false, .int .i64 0, .int .u64 0, .float .f64 0, .string ⟨#[]⟩, .slice none 0 0]) ?_ 2 _ rfl; (with_reducible repeat (first | refine blk_drewN ?_ _ | refine blk_drew ?_ | refine blk_alloc ?_ _)); refine blk_put (cs := #[.string a0, .int .i64 0, .bool false, .int .i64 0, .int .u64 0, .float .f64 0, .string ⟨#[]⟩, .slice none 0 0]) ?_ 1 _ rfl; (with_reducible repeat (first | refine blk_drewN ?_ _ | refine blk_drew ?_ | refine blk_alloc ?_ _)); refine blk_put (cs := #[.string ⟨#[]⟩, .int .i64 0, .bool false, .int .i64 0, .int .u64 0, .float .f64 0, .string ⟨#[]⟩, .slice none 0 0]) ?_ 0 _ rfl; (with_reducible repeat (first | refine blk_drewN ?_ _ | refine blk_drew ?_ | refine blk_alloc ?_ _)); refine blk_far ?_ NB102_103.out _; (with_reducible repeat (first | refine blk_drewN ?_ _ | refine blk_drew ?_ | refine blk_alloc ?_ _)); exact BK102.out) Tryz.underlying34 rfl (by kernel_rfl)) rfl ?_; exact ⟨_, by first | rfl | (simp [errW_none, errW_some] <;> rfl) | (simp [*, errW_none, errW_some] <;> rfl), by (with_reducible repeat (first | apply Kd.R_alloc | apply Kd.R_drewN | apply Kd.R_drew)); exact Kd.R_mono (Kd.R_far (p := ⟨gb102, 7, none⟩) (Kd.R_far (p := ⟨gb102, 6, none⟩) (Kd.R_far (p := ⟨gb102, 5, none⟩) (Kd.R_far (p := ⟨gb102, 4, none⟩) (Kd.R_far (p := ⟨gb102, 3, none⟩) (Kd.R_far (p := ⟨gb102, 2, none⟩) (Kd.R_far (p := ⟨gb102, 1, none⟩) (Kd.R_far (p := ⟨gb102, 0, none⟩) (Kd.R_far (p := ⟨gb103, 7, none⟩) (Kd.R_mono (Kd.R_mono HO112.out (fun k_ hk => (⟨hk, hk.2⟩ : _ ∧ k_ ≠ gb103))) (fun k_ hk => (⟨hk, hk.1.1⟩ : _ ∧ k_ ≠ gb102))) (fun _ hk => hk.1.2) (.slice Ao23 y110.length co23)) (fun _ hk => hk.2) (.string a0)) (fun _ hk => hk.2) (.int .i64 8)) (fun _ hk => hk.2) (.bool false)) (fun _ hk => hk.2) (.int .i64 0)) (fun _ hk => hk.2) (.int .u64 0)) (fun _ hk => hk.2) (.float .f64 0)) (fun _ hk => hk.2) (.string ⟨#[]⟩)) (fun _ hk => hk.2) (.slice Ao23 y110.length co23)) (fun _ hk => trivial), by repeat (first | (with_reducible first | exact HB.out | apply below_alloc | apply pw_below_drewN | apply below_drew1 | refine below_set ?_ GE101.out | refine below_set ?_ GE102.out | refine below_set ?_ GE103.out) | exact HB.out)⟩
     · rw [if_neg c5] at H; exact absurd H (by simp)
   · rw [if_neg c4] at H; exact absurd H (by simp)
 · rw [if_neg c3] at H; exact absurd H (by simp)
end Go.Proofs.YtabfehcpcjcomaaGreatDoor.QA0
namespace Go.Proofs.YtabfehcpcjcomaaGreatDoor.R
open Go.RowKit Go.Proofs.YtabfehcpcjcomaaGreatDoor.QA0 Go.Proofs.YtabfehcpcjcomaaGreatDoorW.PrintWords Go.Proofs.YtabfehcpcjcomaaGreatDoorW.PrintLast Go.Proofs.YtabfehcpcjcomaaGreatDoorW.PrintMore
set_option linter.unusedVariables false
set_option linter.unusedSimpArgs false
set_option maxHeartbeats 4000000 in
set_option maxRecDepth 100000 in
theorem text_fs (T : ByteArray) (w : World) :
    Calls Tryz.prog 42 #[.string T] w fun e w' => e = .returned (.agg #[.string T]) ∧ Below w.heap.size w w' := by
  go_enter Tryz.func42, Tryz.ntmps42
  go_wp2
  exact bodyPost_ret (results_cell_row rfl _ _ w.heap.size 64 #[.string T] (0, 0) _ rfl (blk_new _ _) Tryz.underlying64 rfl (by kernel_rfl)) rfl ⟨rfl, below_alloc (Below.refl _ _) _⟩
structure Loads (T : ByteArray) (q0 q1 q2 : Nat) : Prop where
  sz : T.size ≤ 1048576
  ascii : ∀ (j : Nat) b, T.data.toList[j]? = some b → b.toNat < 128
  parts : ∃ t0 t1 t2 r, Lib.fields T.data.toList = t0 :: t1 :: t2 :: r ∧ Spells t0 q0 ∧ Spells t1 q1 ∧ Spells t2 q2
set_option maxHeartbeats 4000000 in
set_option maxRecDepth 100000 in
theorem load_avg (T : ByteArray) (q0 q1 q2 : Nat) (h : Loads T q0 q1 q2) (w : World) (hT : LTabs w) :
    Calls Tryz.prog 43 #[.agg #[.string T]] w fun e w' => ∃ g, e = .returned (.tuple #[.pointer (some ⟨g, 0, none⟩), .nilIface]) ∧ w'.heap[g]? = some (.cells #[.float .f64 q0, .float .f64 q1, .float .f64 q2] 68 (0, 0)) ∧ w.heap.size ≤ g ∧ Below w.heap.size w w' := by
  obtain ⟨t0, t1, t2, r, hF, h0, h1, h2⟩ := h.parts
  have hb01 : Below w.heap.size w ((w.alloc (.cells #[.string T] 64)).alloc (.cells #[.string ⟨#[108, 111, 97, 100, 97, 118, 103]⟩] 9)) := below_alloc (below_alloc (Below.refl _ _) _) _
  go_enter Tryz.func43, Tryz.ntmps43
  go_wp2_with (first
    | (go_at_call 104; refine (path_ok T _ _).mono ?_; rintro e w1 ⟨rfl, rfl⟩)
    | (go_at_call 105; refine (read_text T _ h.sz).mono ?_; rintro e w2 ⟨v, rfl, hv, hb2⟩; have hbw := keepB hb01 hb2 (Nat.le_refl _))
    | (go_at_call 106; refine (parse_load T _ _ hv (hT.below hbw).f (hT.below hbw).s (by have := h.sz; omega) h.ascii t0 t1 t2 r hF q0 q1 q2 h0 h1 h2).mono ?_; rintro e w3 ⟨g, rfl, hg, hle, hb3⟩))
  exact bodyPost_ret (results_tmp2 rfl _ _ _) rfl ⟨g, rfl, hg, Nat.le_trans hbw.size hle, keepB hbw hb3 (Nat.le_refl _)⟩
section
variable {α : Type} {d : Kd α} {e base : Nat} {ok : Nat → Prop} {w : World} {v : Value} {xs : List α}
theorem R_cells (h : d.R e w base ok v xs) (b : Nat) (hb : b < base) (vs : List Value) : d.R e (w.setCells b 0 vs) base ok v xs :=
  Kd.R_mono (Kd.R_step (Kd.R_bound h) (fun k ho hk => setCells_far vs 0 k (by have := ho.2.1; omega))) (fun k hk => hk.1)
end
theorem below_cells {B b : Nat} {W w1 : World} (h : Below B W w1) (hb : B ≤ b) (vs : List Value) : Below B W (w1.setCells b 0 vs) := by
  obtain ⟨h1, h2, h3, h4⟩ := setCells_same b vs 0 w1
  exact ⟨h1.trans h.os, h2.trans h.tape, h3.trans h.output, by rw [h4]; exact h.size, fun k hk => (setCells_far vs 0 k (by omega)).trans (h.block k hk)⟩
def nodeL (x : S34) (v7 : Value) : List Value := [.string x.f0, .int .i64 x.f1, .bool x.f2, .int .i64 x.f3, .int .u64 x.f4, .float .f64 x.f5, .string x.f6, v7]
def nodeV (x : S34) (v7 : Value) : Value := .agg #[.string x.f0, .int .i64 x.f1, .bool x.f2, .int .i64 x.f3, .int .u64 x.f4, .float .f64 x.f5, .string x.f6, v7]
def IsNode (W : World) (base : Nat) (v : Value) (x : S34) : Prop := ∃ v7, v = nodeV x v7 ∧ Kd.R k34 34 W base (fun _ => True) v7 x.f7
theorem store_node {W : World} {b : Nat} {cur : Array Value} (x : S34) {v7 : Value} {n c : Nat} {A : Option Addr} (h7 : v7 = .slice A n c) (hh : W.heap[b]? = some (.cells cur 34 (0, 0))) (hs : cur.size = 8) :
    (Instr.storeAt 34 (.pointer (some ⟨b, 0, none⟩)) (nodeV x v7)).run Tryz.prog W = .ok () (W.setCells b 0 (nodeL x v7)) := by
  subst h7
  refine run_store_run (P := Tryz.prog) 34 _ (nodeL x _) hh rfl ?_ (by rw [hs]; exact Nat.le_refl _) ?_
  · kernel_rfl
  · intro q hq
    simp only [nodeL, List.mem_cons, List.not_mem_nil, or_false] at hq
    rcases hq with rfl | rfl | rfl | rfl | rfl | rfl | rfl | rfl <;> rfl
theorem node_blk {W : World} {b : Nat} {cur : Array Value} (x : S34) (v7 : Value) (hh : W.heap[b]? = some (.cells cur 34 (0, 0))) (hs : cur.size = 8) :
    (W.setCells b 0 (nodeL x v7)).heap[b]? = some (.cells (nodeL x v7).toArray 34 (0, 0)) := by
  obtain ⟨cur', h1, h2, h3⟩ := setCells_row (nodeL x v7) 0 W cur hh (by rw [hs]; exact Nat.le_refl _)
  rw [h1]
  have : cur' = (nodeL x v7).toArray := by
    apply Array.toList_inj.1
    rw [h3]
    have hd : cur.toList.drop (0 + (nodeL x v7).length) = [] := List.drop_eq_nil_of_le (by rw [Array.length_toList, hs]; exact Nat.le_refl _)
    rw [hd]
    simp
  rw [this]
section
variable {ops : Array Oper} {rest : List Oper} {o : Oper} {a : Act} {Q : Exit → Act → World → Prop}
theorem store_node_event {W : World} (hgd : o.guard = none) (hd : o.dst = none) (p v : Operand) (ho : o.op = .store 34 p v) (b : Nat) {cur : Array Value} (x : S34) {v7 : Value} {n c : Nat} {A : Option Addr} (h7 : v7 = .slice A n c)
    (hp : a.eval p = .pointer (some ⟨b, 0, none⟩)) (hv : a.eval v = nodeV x v7) (hh : W.heap[b]? = some (.cells cur 34 (0, 0))) (hs : cur.size = 8)
    (h : ∀ W', W' = W.setCells b 0 (nodeL x v7) → W'.heap[b]? = some (.cells (nodeL x v7).toArray 34 (0, 0)) → wpList Tryz.prog ops Q rest a W') : wpList Tryz.prog ops Q (o :: rest) a W := by
  have hrun := store_node x h7 hh hs
  refine wpList_plain hgd fun K hK => ?_
  unfold Oper.wp execOp
  simp only [ho, hp, hv, Sem.run_bind, Sem.run_pure, Result.andThen_ok, hrun]
  show K (a.put o.dst undef) _
  rw [hd]
  exact hK _ _ (h _ rfl (node_blk x v7 hh hs))
end
theorem node_done {w W1 w2 : World} {b : Nat} {x : S34} {v7 : Value} (hba : Below w.heap.size w W1) (hw : w.heap.size ≤ b) (hb : b < W1.heap.size) (hb2 : Below W1.heap.size W1 w2) (hR : Kd.R k34 34 w2 W1.heap.size (fun _ => True) v7 x.f7) :
    IsNode (w2.setCells b 0 (nodeL x v7)) w.heap.size (nodeV x v7) x ∧ Below w.heap.size w (w2.setCells b 0 (nodeL x v7)) :=
  ⟨⟨v7, rfl, Kd.R_lower (R_cells hR b hb _) hba.size⟩, below_cells (keepB hba hb2 (Nat.le_refl _)) hw _⟩
set_option maxHeartbeats 4000000 in
set_option maxRecDepth 100000 in
theorem pointer_load (n : ByteArray) (g : Nat) (q0 q1 q2 : Nat) (w : World) (hg : w.heap[g]? = some (.cells #[.float .f64 q0, .float .f64 q1, .float .f64 q2] 68 (0, 0))) (x : S34) (hx : impl_procfsLoadAvg.f n q0 q1 q2 = some (x.f0, x.f1, x.f2, x.f3, x.f4, x.f5, x.f6, x.f7)) :
    Calls Tryz.prog 45 #[.string n, .pointer (some ⟨g, 0, none⟩), .func (.func 46) #[] #[]] w fun e w' => ∃ v, e = .returned v ∧ IsNode w' w.heap.size v x ∧ Below w.heap.size w w' := by
  have hBa : Below w.heap.size w (w.alloc (.cells #[.string ⟨#[]⟩, .int .i64 0, .bool false, .int .i64 0, .int .u64 0, .float .f64 0, .string ⟨#[]⟩, .slice none 0 0] 34)) := below_alloc (Below.refl _ _) _
  have HX := Aside0.mk hx
  have hg1 := blk_below hg hBa
  have hb1 := blk_new w (.cells #[.string ⟨#[]⟩, .int .i64 0, .bool false, .int .i64 0, .int .u64 0, .float .f64 0, .string ⟨#[]⟩, .slice none 0 0] 34)
  have hs1 : (w.alloc (.cells #[.string ⟨#[]⟩, .int .i64 0, .bool false, .int .i64 0, .int .u64 0, .float .f64 0, .string ⟨#[]⟩, .slice none 0 0] 34)).heap.size = w.heap.size + 1 := by simp
  have HBa := Aside0.mk hBa
  have Hg := Aside0.mk hg1
  have Hb := Aside0.mk hb1
  have Hs := Aside0.mk hs1
  clear hBa hg1 hb1 hs1 hg hx
  go_enter Tryz.func45, Tryz.ntmps45
  go_upto_region 3 with (fail)
  generalize (w.alloc (.cells #[.string ⟨#[]⟩, .int .i64 0, .bool false, .int .i64 0, .int .u64 0, .float .f64 0, .string ⟨#[]⟩, .slice none 0 0] 34)) = W1 at HBa Hg Hb Hs ⊢
  have c0 : W1.cell? ⟨g, 0, none⟩ = some (.float .f64 q0) := (blk_cell Hg.out 0).trans rfl
  have c1 : W1.cell? ⟨g, 1, none⟩ = some (.float .f64 q1) := (blk_cell Hg.out 1).trans rfl
  have c2 : W1.cell? ⟨g, 2, none⟩ = some (.float .f64 q2) := (blk_cell Hg.out 2).trans rfl
  go_wp2_with (first | (go_at_call 46; refine (impl_procfsLoadAvg.calls n q0 q1 q2 _ _ _ _ _ _ _ _ _ HX.out).mono ?_; rintro e w2 ⟨v7, rfl, hR, hb2⟩; obtain ⟨A7, c7, e7⟩ := Kd.R_slice hR; have hbk := blk_below Hb.out hb2; have HR := Aside0.mk hR; have Hb2 := Aside0.mk hb2; have E7 := Aside0.mk e7; have HBK := Aside0.mk hbk; clear hR hb2 e7 hbk) | ((with_reducible refine gate_ (.store 34 (.tmp 6) (.tmp 16)) rfl ?_); refine store_node_event rfl rfl (.tmp 6) (.tmp 16) rfl w.heap.size x E7.out rfl rfl HBK.out rfl ?_; intro w3 hw3 hbk3))
  subst hw3
  exact bodyPost_ret (results_cell_row rfl _ _ w.heap.size 34 (nodeL x v7).toArray (0, 0) _ rfl hbk3 Tryz.underlying34 rfl (by kernel_rfl)) rfl ⟨_, rfl, node_done HBa.out (Nat.le_refl _) (by have := Hs.out; omega) Hb2.out HR.out⟩
set_option maxHeartbeats 4000000 in
set_option maxRecDepth 100000 in
theorem load_node (g : Nat) (q0 q1 q2 : Nat) (w : World) (hg : w.heap[g]? = some (.cells #[.float .f64 q0, .float .f64 q1, .float .f64 q2] 68 (0, 0))) (x : S34) (hx : impl_procfsLoadAvg.f ⟨#[]⟩ q0 q1 q2 = some (x.f0, x.f1, x.f2, x.f3, x.f4, x.f5, x.f6, x.f7)) :
    Calls Tryz.prog 44 #[.pointer (some ⟨g, 0, none⟩)] w fun e w' => ∃ v, e = .returned v ∧ IsNode w' w.heap.size v x ∧ Below w.heap.size w w' := by
  have hBa : Below w.heap.size w (w.alloc (.cells #[.string ⟨#[]⟩, .int .i64 0, .bool false, .int .i64 0, .int .u64 0, .float .f64 0, .string ⟨#[]⟩, .slice none 0 0] 34)) := below_alloc (Below.refl _ _) _
  have hb1 := blk_new w (.cells #[.string ⟨#[]⟩, .int .i64 0, .bool false, .int .i64 0, .int .u64 0, .float .f64 0, .string ⟨#[]⟩, .slice none 0 0] 34)
  have hs1 : (w.alloc (.cells #[.string ⟨#[]⟩, .int .i64 0, .bool false, .int .i64 0, .int .u64 0, .float .f64 0, .string ⟨#[]⟩, .slice none 0 0] 34)).heap.size = w.heap.size + 1 := by simp
  have HX := Aside0.mk hx
  have Hg := Aside0.mk (blk_below hg hBa)
  have HBa := Aside0.mk hBa
  have Hb := Aside0.mk hb1
  have Hs := Aside0.mk hs1
  clear hBa hb1 hs1 hg hx
  go_enter Tryz.func44, Tryz.ntmps44
  go_upto_region 1 with (fail)
  generalize (w.alloc (.cells #[.string ⟨#[]⟩, .int .i64 0, .bool false, .int .i64 0, .int .u64 0, .float .f64 0, .string ⟨#[]⟩, .slice none 0 0] 34)) = W1 at HBa Hg Hb Hs ⊢
  go_wp2_with (first | (go_at_call 45; refine (pointer_load ⟨#[]⟩ g q0 q1 q2 _ Hg.out x HX.out).mono ?_; rintro e w2 ⟨_, rfl, ⟨v7, rfl, hR⟩, hb2⟩; obtain ⟨A7, c7, e7⟩ := Kd.R_slice hR; have hbk := blk_below Hb.out hb2; have HR := Aside0.mk hR; have Hb2 := Aside0.mk hb2; have E7 := Aside0.mk e7; have HBK := Aside0.mk hbk; clear hR hb2 e7 hbk) | ((with_reducible refine gate_ (.store 34 (.tmp 2) (.tmp 4)) rfl ?_); refine store_node_event rfl rfl (.tmp 2) (.tmp 4) rfl w.heap.size x E7.out rfl rfl HBK.out rfl ?_; intro w3 hw3 hbk3))
  subst hw3
  exact bodyPost_ret (results_cell_row rfl _ _ w.heap.size 34 (nodeL x v7).toArray (0, 0) _ rfl hbk3 Tryz.underlying34 rfl (by kernel_rfl)) rfl ⟨_, rfl, node_done HBa.out (Nat.le_refl _) (by have := Hs.out; omega) Hb2.out HR.out⟩
end Go.Proofs.YtabfehcpcjcomaaGreatDoor.R
namespace Go.Proofs.YtabfehcpcjcomaaGreatDoor.R
open Go.RowKit Go.Proofs.YtabfehcpcjcomaaGreatDoor.QA0 Go.Proofs.YtabfehcpcjcomaaGreatDoorW.PrintWords Go.Proofs.YtabfehcpcjcomaaGreatDoorW.PrintLast Go.Proofs.YtabfehcpcjcomaaGreatDoorW.PrintMore
set_option linter.unusedVariables false
set_option linter.unusedSimpArgs false
theorem hmf : ∀ (fn : Fn) (first cap : Array Value) (w : World), (Instr.makeFunc fn first cap).run Tryz.prog w = .ok (.func fn first cap) w := fun _ _ _ _ => rfl
theorem alloc2_facts (w : World) (a b : Obj) : Below w.heap.size w ((w.alloc a).alloc b) ∧ ((w.alloc a).alloc b).heap[w.heap.size]? = some a ∧ ((w.alloc a).alloc b).heap[w.heap.size + 1]? = some b := by
  refine ⟨below_alloc (below_alloc (Below.refl _ _) _) _, blk_alloc (blk_new _ _) _, ?_⟩
  have h := blk_new (w.alloc a) b
  rw [show (w.alloc a).heap.size = w.heap.size + 1 by simp] at h
  exact h
theorem cell_of_blk {W : World} {b : Nat} {cs : Array Value} {t : TypeId} (hb : W.heap[b]? = some (.cells cs t (0, 0))) (i : Nat) (v : Value) (hv : cs[i]? = some v) : W.cell? ⟨b, i, none⟩ = some v := by
  rw [blk_cell hb i]; exact hv
def z8 : Array Value := #[.string ⟨#[]⟩, .int .i64 0, .bool false, .int .i64 0, .int .u64 0, .float .f64 0, .string ⟨#[]⟩, .slice none 0 0]
theorem catch103 (p q : Addr) (w : World) :
    CallsD Tryz.prog 103 #[.pointer (some p), .pointer (some q)] .returning w fun e u' w' => e = .returned (.tuple #[]) ∧ u' = .returning ∧ w' = w := by
  refine callsD_of_wpS Tryz.func103 rfl fun c₀ cs hu => ?_
  apply wpS_seq
  apply wpS_region
  simp [wpOpsS, go_sem, recoverD, hu, Tryz.ntmps103, Exit.thenS]
  refine wpS_cond (t := false) (by simp [Act.eval, Array.replicate]) ?_
  simp only [Bool.false_eq_true, if_false]
  refine wpS_of_wp (wp_skip ?_)
  cases c₀
  simp_all [bodyPostS, results, Tryz.results103]
theorem results_cc {fn : Func} {p q : Tmp} (h : fn.results = #[.cell p 34, .cell q 3]) (tmps : Array Value) (w : World) (b1 b2 : Nat) (cs : Array Value) (n : Int) (hp : tmps.getD p undef = .pointer (some ⟨b1, 0, none⟩)) (hq : tmps.getD q undef = .pointer (some ⟨b2, 0, none⟩))
    (hb1 : w.heap[b1]? = some (.cells cs 34 (0, 0))) (hs : cs.size = 8) (hb2 : w.heap[b2]? = some (.cells #[.int .i64 n] 3 (0, 0))) :
    Sem.run Tryz.prog (results fn tmps) w = .ok (.tuple #[.agg cs, .int .i64 n]) w := by
  have hp' : tmps[p]?.getD undef = .pointer (some ⟨b1, 0, none⟩) := by simpa using hp
  have hq' : tmps[q]?.getD undef = .pointer (some ⟨b2, 0, none⟩) := by simpa using hq
  have hc := cell_of_blk hb2 0 (.int .i64 n) rfl
  have h1 := run_loadVar_row (P := Tryz.prog) w b1 34 34 cs (0, 0) _ hb1 Tryz.underlying34 rfl (by rw [hs]; kernel_rfl)
  have h2 : Sem.run Tryz.prog (loadVar 3 ⟨b2, 0, none⟩) w = .ok (.int .i64 n) w := by simp [go_sem, hc]
  simp [results, h, hp', hq', asAddr, h1, h2]
theorem results_ct {fn : Func} {p q : Tmp} (h : fn.results = #[.cell p 34, .tmp q]) (tmps : Array Value) (w : World) (b1 : Nat) (cs : Array Value) (v : Value) (hp : tmps.getD p undef = .pointer (some ⟨b1, 0, none⟩)) (hq : tmps.getD q undef = v)
    (hb1 : w.heap[b1]? = some (.cells cs 34 (0, 0))) (hs : cs.size = 8) : Sem.run Tryz.prog (results fn tmps) w = .ok (.tuple #[.agg cs, v]) w := by
  have hp' : tmps[p]?.getD undef = .pointer (some ⟨b1, 0, none⟩) := by simpa using hp
  have hq' : tmps[q]?.getD undef = v := by simpa using hq
  have h1 := run_loadVar_row (P := Tryz.prog) w b1 34 34 cs (0, 0) _ hb1 Tryz.underlying34 rfl (by rw [hs]; kernel_rfl)
  simp [results, h, hp', hq', asAddr, h1]
theorem node_done2 {w w1 w2 : World} {x : S34} {v7 : Value} (hba : Below w.heap.size w w1) (h1 : w.heap.size + 1 < w1.heap.size) (hb2 : Below w1.heap.size w1 w2) (hR : Kd.R k34 34 w2 w1.heap.size (fun _ => True) v7 x.f7) (u : Value) :
    IsNode ((w2.setCells w.heap.size 0 (nodeL x v7)).setCell ⟨w.heap.size + 1, 0, none⟩ u) w.heap.size (nodeV x v7) x ∧ Below w.heap.size w ((w2.setCells w.heap.size 0 (nodeL x v7)).setCell ⟨w.heap.size + 1, 0, none⟩ u) := by
  refine ⟨⟨v7, rfl, Kd.R_lower (Kd.R_mono (Kd.R_far (p := ⟨w.heap.size + 1, 0, none⟩) (Kd.R_bound (R_cells hR w.heap.size (by omega) _)) (fun k hk => ?_) u) (fun k hk => hk.1)) hba.size⟩, below_set (below_cells (keepB hba hb2 (Nat.le_refl _)) (Nat.le_refl _) _) (by omega)⟩
  have := hk.2.1
  show k ≠ w.heap.size + 1
  omega
set_option maxHeartbeats 40000000 in
set_option maxRecDepth 100000 in
theorem tree_load (T : ByteArray) (q0 q1 q2 : Nat) (h : Loads T q0 q1 q2) (w : World) (hT : LTabs w) (x : S34) (hx : impl_procfsLoadAvg.f ⟨#[]⟩ q0 q1 q2 = some (x.f0, x.f1, x.f2, x.f3, x.f4, x.f5, x.f6, x.f7)) :
    Calls Tryz.prog 41 #[.func (.func 43) #[.agg #[.string T]] #[], .func (.func 44) #[] #[]] w fun e w' => ∃ v, e = .returned (.tuple #[v, .int .i64 0]) ∧ IsNode w' w.heap.size v x ∧ Below w.heap.size w w' := by
  have HL := Aside0.mk h
  have HTb := Aside0.mk hT
  have HX := Aside0.mk hx
  have hnn : ∀ (w : World), (binOp .neq 133 .nilIface .nilIface).run Tryz.prog w = .ok (.bool false) w := fun _ => rfl
  clear h hT hx
  have hmf := hmf
  go_enter_defers Tryz.func41, Tryz.ntmps41
  go_upto_region 2 with (fail)
  clear hmf
  obtain ⟨hb0, hb1, hb2⟩ := alloc2_facts w (.cells z8 34) (.cells #[.int .i64 0] 3)
  have hs := (show ((w.alloc (.cells z8 34)).alloc (.cells #[.int .i64 0] 3)).heap.size = w.heap.size + 1 + 1 by simp)
  unfold z8 at hb0 hb1 hb2 hs
  have HB := Aside0.mk hb0
  have Hb1 := Aside0.mk hb1
  have Hb2 := Aside0.mk hb2
  have Hs := Aside0.mk hs
  have HTW := Aside0.mk (HTb.out.below hb0)
  clear hb0 hb1 hb2 hs
  generalize ((w.alloc (.cells #[.string ⟨#[]⟩, .int .i64 0, .bool false, .int .i64 0, .int .u64 0, .float .f64 0, .string ⟨#[]⟩, .slice none 0 0] 34)).alloc (.cells #[.int .i64 0] 3)) = W at HB Hb1 Hb2 HTW Hs ⊢
  go_wp2_with (first
    | (go_at_call 43; refine (load_avg T q0 q1 q2 HL.out _ HTW.out).mono ?_; rintro e w1 ⟨g, rfl, hg, hle, hb⟩; have HG := Aside0.mk hg; have HBW1 := Aside0.mk hb; clear hg hle hb)
    | (go_at_call 44; refine (load_node g q0 q1 q2 _ HG.out x HX.out).mono ?_; rintro e w2 ⟨_, rfl, ⟨v7, rfl, hR⟩, hb2⟩; obtain ⟨A7, c7, e7⟩ := Kd.R_slice hR; have HR := Aside0.mk hR; have HBW2 := Aside0.mk hb2; have E7 := Aside0.mk e7; have HBK := Aside0.mk (blk_below (blk_below Hb1.out HBW1.out) hb2); have HBI := Aside0.mk (blk_below (blk_below Hb2.out HBW1.out) hb2); clear hR hb2 e7)
    | ((with_reducible refine gate_ (.store 34 (.tmp 4) (.tmp 19)) rfl ?_); refine store_node_event rfl rfl (.tmp 4) (.tmp 19) rfl w.heap.size x E7.out rfl rfl HBK.out rfl ?_; intro w3 hw3 hbk3; have HI3 := Aside0.mk (by rw [hw3]; exact (setCells_far (nodeL x v7) 0 (w.heap.size + 1) (by omega)).trans HBI.out : w3.heap[w.heap.size + 1]? = some (.cells #[.int .i64 0] 3 (0, 0))); have HW3 := Aside0.mk hw3; have HB3 := Aside0.mk hbk3; clear hw3 hbk3; have hc5 := cell_of_blk HI3.out 0 _ rfl; have hf5 := blk_frozen HI3.out 0))
  refine leaves_cons (f := 103) (args := #[.pointer (some ⟨w.heap.size, 0, none⟩), .pointer (some ⟨w.heap.size + 1, 0, none⟩)]) (by simp) (by simp [go_sem]) ?_
  refine (catch103 ⟨w.heap.size, 0, none⟩ ⟨w.heap.size + 1, 0, none⟩ _).mono ?_
  rintro e u' w'' ⟨rfl, rfl, rfl⟩
  have hb1' : (w3.setCell ⟨w.heap.size + 1, 0, none⟩ (.int .i64 0)).heap[w.heap.size]? = some (.cells (nodeL x v7).toArray 34 (0, 0)) := (Below.heap_setCell w3 _ _ w.heap.size (by show w.heap.size ≠ w.heap.size + 1; omega)).trans HB3.out
  have hb2' : (w3.setCell ⟨w.heap.size + 1, 0, none⟩ (.int .i64 0)).heap[w.heap.size + 1]? = some (.cells #[.int .i64 0] 3 (0, 0)) := blk_set HI3.out 0 _
  have hnd := node_done2 (keepB HB.out HBW1.out (Nat.le_refl _)) (by have := HBW1.out.size; have := Hs.out; omega) HBW2.out HR.out (.int .i64 0)
  rw [← HW3.out] at hnd
  simp only [Leaves, settle]
  exact ⟨_, results_cc rfl _ _ w.heap.size (w.heap.size + 1) _ _ rfl rfl hb1' rfl hb2', _, rfl, hnd⟩
set_option maxHeartbeats 4000000 in
set_option maxRecDepth 100000 in
theorem loadavg_ok (T : ByteArray) (q0 q1 q2 : Nat) (h : Loads T q0 q1 q2) (w : World) (hT : LTabs w) (x : S34) (hx : impl_procfsLoadAvg.f ⟨#[]⟩ q0 q1 q2 = some (x.f0, x.f1, x.f2, x.f3, x.f4, x.f5, x.f6, x.f7)) :
    Calls Tryz.prog 12 #[.string T] w fun e w' => ∃ v, e = .returned (.tuple #[v, .int .i64 0]) ∧ IsNode w' w.heap.size v x ∧ Below w.heap.size w w' := by
  have hb1 := blk_new w (.cells z8 34)
  have hB := below_alloc (Below.refl w.heap.size w) (.cells z8 34)
  have hs := (show (w.alloc (.cells z8 34)).heap.size = w.heap.size + 1 by simp)
  unfold z8 at hb1 hB hs
  have HB := Aside0.mk hB
  have Hb1 := Aside0.mk hb1
  have Hs := Aside0.mk hs
  have HL := Aside0.mk h
  have HTW := Aside0.mk (hT.below hB)
  have HX := Aside0.mk hx
  clear hb1 hB hs h hT hx
  have hmf := hmf
  go_enter Tryz.func12, Tryz.ntmps12
  go_upto_region 1 with (fail)
  generalize (w.alloc (.cells #[.string ⟨#[]⟩, .int .i64 0, .bool false, .int .i64 0, .int .u64 0, .float .f64 0, .string ⟨#[]⟩, .slice none 0 0] 34)) = W at HB Hb1 HTW Hs ⊢
  go_wp2_with (first
    | (go_at_call 42; refine (text_fs T _).mono ?_; rintro e w1 ⟨rfl, hb⟩; have HBW1 := Aside0.mk hb; clear hb)
    | (go_at_call 41; refine (tree_load T q0 q1 q2 HL.out _ (HTW.out.below HBW1.out) x HX.out).mono ?_; rintro e w2 ⟨_, rfl, ⟨v7, rfl, hR⟩, hb2⟩; obtain ⟨A7, c7, e7⟩ := Kd.R_slice hR; have HR := Aside0.mk hR; have HBW2 := Aside0.mk hb2; have E7 := Aside0.mk e7; have HBK := Aside0.mk (blk_below (blk_below Hb1.out HBW1.out) hb2); clear hR hb2 e7)
    | ((with_reducible refine gate_ (.store 34 (.tmp 2) (.tmp 8)) rfl ?_); refine store_node_event rfl rfl (.tmp 2) (.tmp 8) rfl w.heap.size x E7.out rfl rfl HBK.out rfl ?_; intro w3 hw3 hbk3; have HW3 := Aside0.mk hw3; have HB3 := Aside0.mk hbk3; clear hw3 hbk3))
  have hnd := node_done (keepB HB.out HBW1.out (Nat.le_refl _)) (Nat.le_refl _) (by have := HBW1.out.size; have := Hs.out; omega) HBW2.out HR.out
  rw [← HW3.out] at hnd
  exact bodyPost_ret (results_ct rfl _ _ w.heap.size _ _ rfl rfl HB3.out rfl) rfl ⟨_, rfl, hnd⟩
end Go.Proofs.YtabfehcpcjcomaaGreatDoor.R
namespace Go.Proofs.YtabfehcpcjcomaaGreatDoor.R
open Go.RowKit Go.Proofs.YtabfehcpcjcomaaGreatDoor.QA0 Go.Proofs.YtabfehcpcjcomaaGreatDoorW.PrintWords Go.Proofs.YtabfehcpcjcomaaGreatDoorW.PrintLast Go.Proofs.YtabfehcpcjcomaaGreatDoorW.PrintMore
set_option linter.unusedVariables false
set_option linter.unusedSimpArgs false
def livesT : ByteArray := ⟨#[48, 46, 53, 32, 48, 46, 50, 53, 32, 48, 46, 55, 53, 32, 49, 47, 52, 57, 55, 32, 49, 49, 57, 52, 55, 10]⟩
theorem sp0 : Spells [48, 46, 53] 4602678819172646912 := ⟨num_of _ (by decide) (by decide) (by decide) (by decide), by decide, by decide, by decide +kernel⟩
theorem sp1 : Spells [48, 46, 50, 53] 4598175219545276416 := ⟨num_of _ (by decide) (by decide) (by decide) (by decide), by decide, by decide, by decide +kernel⟩
theorem sp2 : Spells [48, 46, 55, 53] 4604930618986332160 := ⟨num_of _ (by decide) (by decide) (by decide) (by decide), by decide, by decide, by decide +kernel⟩
theorem livesLoads : Loads livesT 4602678819172646912 4598175219545276416 4604930618986332160 where
  sz := by decide
  ascii := by
    intro j b h
    have : livesT.data.toList.all (fun c => c.toNat < 128) = true := by decide
    exact of_decide_eq_true (List.all_eq_true.1 this b (List.mem_of_getElem? h))
  parts := ⟨[48, 46, 53], [48, 46, 50, 53], [48, 46, 55, 53], _, (by decide +kernel : Lib.fields livesT.data.toList = [48, 46, 53] :: [48, 46, 50, 53] :: [48, 46, 55, 53] :: [[49, 47, 52, 57, 55], [49, 49, 57, 52, 55]]), sp0, sp1, sp2⟩
def livesX : S34 := ⟨⟨#[]⟩, 8, false, 0, 0, 0, ⟨#[]⟩, [⟨⟨#[76, 111, 97, 100, 49]⟩, 4, false, 0, 0, 4602678819172646912, ⟨#[]⟩, []⟩, ⟨⟨#[76, 111, 97, 100, 53]⟩, 4, false, 0, 0, 4598175219545276416, ⟨#[]⟩, []⟩, ⟨⟨#[76, 111, 97, 100, 49, 53]⟩, 4, false, 0, 0, 4604930618986332160, ⟨#[]⟩, []⟩]⟩
theorem livesX_ok : impl_procfsLoadAvg.f ⟨#[]⟩ 4602678819172646912 4598175219545276416 4604930618986332160 = some (livesX.f0, livesX.f1, livesX.f2, livesX.f3, livesX.f4, livesX.f5, livesX.f6, livesX.f7) := by
  rfl
theorem kidF {W : World} {base : Nat} {v : Value} {xs : List S34} (h : Kd.R k34 34 W base (fun _ => True) v xs) {g cap : Nat} (hv : v = .slice (some ⟨g, 0, none⟩) xs.length cap) (i : Nat) (hi : i < xs.length) (x : S34) (hx : xs[i]? = some x) :
    W.cell? ⟨g, i * 8 + 5, none⟩ = some (.float .f64 x.f5) ∧ W.cell? ⟨g, i * 8 + 4, none⟩ = some (.int .u64 x.f4) := by
  subst hv
  have hC := (Kd.R_reads' h).2.2
  obtain ⟨ad, A7, c7, e, h0, h1, h2, h3, h4, h5, _⟩ := at_T34 hC (i : Int) (by omega) (by omega)
  injection e with e
  subst e
  rw [Int.toNat_natCast, Lib.add_plain] at h4 h5
  have hr : rd_T34 xs (i : Int) = x := by unfold rd_T34; rw [Int.toNat_natCast, List.getD_eq_getElem?_getD, hx]; rfl
  rw [hr] at h4 h5
  simp only [Nat.zero_add] at h4 h5
  exact ⟨h5, h4⟩
set_option maxHeartbeats 4000000 in
set_option maxRecDepth 100000 in
theorem lives_ok (w : World) (hT : LTabs w) : Calls Tryz.prog 28 #[] w fun e w' => e = .returned (.bool true) ∧ Below w.heap.size w w' := by
  have HT := Aside0.mk hT
  have hlt : livesT = ⟨#[48, 46, 53, 32, 48, 46, 50, 53, 32, 48, 46, 55, 53, 32, 49, 47, 52, 57, 55, 32, 49, 49, 57, 52, 55, 10]⟩ := rfl
  have HLT := Aside0.mk hlt
  have o0 : (FloatKind.f64.format.order 4602678819172646912 4602678819172646912 == some Ordering.eq) = true := by decide +kernel
  have o1 : (FloatKind.f64.format.order 4598175219545276416 4598175219545276416 == some Ordering.eq) = true := by decide +kernel
  have o2 : (FloatKind.f64.format.order 4604930618986332160 4604930618986332160 == some Ordering.eq) = true := by decide +kernel
  clear hT hlt
  go_enter Tryz.func28, Tryz.ntmps28
  go_wp2_with (first
    | (go_at_call 12; refine (loadavg_ok livesT _ _ _ livesLoads _ HT.out livesX livesX_ok).mono ?_; rintro e w2 ⟨_, rfl, ⟨v7, rfl, hR⟩, hb2⟩; obtain ⟨A7, c7, e7⟩ := Kd.R_slice hR; have HR := Aside0.mk hR; have HBW2 := Aside0.mk hb2; have E7 := Aside0.mk e7; have hs := (show (w2.alloc (.cells z8 34)).heap.size = w2.heap.size + 1 by simp); have HB2 := Aside0.mk (blk_new w2 (.cells z8 34)); have Hs := Aside0.mk hs; clear hR hb2 e7 hs)
    | ((with_reducible refine gate_ (.store 34 (.tmp 1) (.tmp 5)) rfl ?_); refine store_node_event rfl rfl (.tmp 1) (.tmp 5) rfl w2.heap.size livesX E7.out rfl rfl HB2.out rfl ?_; intro w3 hw3 hbk3; have HB23 := Aside0.mk (hw3 ▸ below_cells (below_alloc (Below.refl _ _) _) (Nat.le_refl _) _ : Below w2.heap.size w2 w3); obtain ⟨g, cap, hv, _⟩ := Kd.R_form HR.out (by decide); have HR3 := Kd.R_below HR.out HB23.out; have k0 : w3.cell? ⟨g, 5, none⟩ = some (.float .f64 4602678819172646912) := (kidF HR3 hv 0 (by decide) _ rfl).1; have k1 : w3.cell? ⟨g, 13, none⟩ = some (.float .f64 4598175219545276416) := (kidF HR3 hv 1 (by decide) _ rfl).1; have k2 : w3.cell? ⟨g, 21, none⟩ = some (.float .f64 4604930618986332160) := (kidF HR3 hv 2 (by decide) _ rfl).1; have hc7 : w3.cell? ⟨w2.heap.size, 7, none⟩ = some (.slice (some ⟨g, 0, none⟩) 3 cap) := by { have h7 := cell_of_blk hbk3 7 v7 rfl; rw [h7, hv]; rfl }; have HW3 := Aside0.mk hw3; have HR3 := Aside0.mk HR3; clear hw3 hbk3 hv))
  go_ret
  refine ⟨rfl, ?_⟩
  exact keepB HBW2.out HB23.out (Nat.le_refl _)
end Go.Proofs.YtabfehcpcjcomaaGreatDoor.R
