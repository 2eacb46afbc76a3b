/- The lexer's steps over lists of bytes, and that the program's steps do the same. Conditions: see each theorem. -/
import Derived.Test.YtocdnceckljnaaaDoorUk
namespace Go.Proofs.YtocdnceckljnaaaDoor.U
open Go.RowKit Go.Proofs.YtocdnceckljnaaaDoorW.PrintWords Go.Proofs.YtocdnceckljnaaaDoorW.PrintLast Go.Proofs.YtocdnceckljnaaaDoorW.PrintMore
set_option linter.unusedVariables false
set_option linter.unusedSimpArgs false
/-- What is read, without the blocks. -/
abbrev PD := Bool × Bs × Bs × Bs
def Dat.pd (x : Dat) : PD := (x.isSec, x.s, x.n, x.v)
/-- A text up to a byte, and behind it. -/
def upto (d : UInt8) (r : Bs) : Bs := r.takeWhile (fun c => c != d)
def past (d : UInt8) (r : Bs) : Bs := (r.dropWhile (fun c => c != d)).drop 1
theorem upto_no (d : UInt8) (r : Bs) : d ∉ upto d r := fun h => by
  have := List.all_eq_true.1 (List.all_takeWhile (p := fun c : UInt8 => c != d) (l := r)) _ h
  simp at this
theorem upto_split (d : UInt8) (r : Bs) (h : d ∈ r) : r = upto d r ++ d :: past d r := by
  unfold upto past
  have hs : r = r.takeWhile (fun c => c != d) ++ r.dropWhile (fun c => c != d) := (List.takeWhile_append_dropWhile).symm
  cases hd : r.dropWhile (fun c => c != d) with
  | nil =>
    rw [hd, List.append_nil] at hs
    have hn := upto_no d r
    unfold upto at hn
    rw [← hs] at hn
    exact absurd h hn
  | cons x t =>
    have hx : x = d := by
      have hne : r.dropWhile (fun c => c != d) ≠ [] := by rw [hd]; simp
      have h2 := List.head_dropWhile_not (fun c : UInt8 => c != d) (l := r) hne
      simp only [hd, List.head_cons] at h2
      simpa using h2
    rw [hd, hx] at hs
    simpa using hs
/-- One step: the next one, what is left, what was read. -/
def stepF : St → Bs → Option (Option St × Bs × List PD)
  | .next, [] => some (none, [], [])
  | .next, c :: r => some (some (if c.toNat = 91 then .secName else if c.toNat = 35 ∨ c.toNat = 59 then .ign none else .next), r, [])
  | .secName, rest => if (93 : UInt8) ∈ rest then some (some (.suffix (upto 93 rest)), past 93 rest, []) else none
  | .suffix s, rest => if (13 : UInt8) ∉ eolL rest ∧ Lib.trimSpace (eolL rest) = [] then some (some (.secOpt s), eolR rest, [(true, s, [], [])]) else none
  | .ign o, rest => if (13 : UInt8) ∉ eolL rest ∧ Lib.hasSuffix (cutEnd 32 (eolL rest)) [92] = false then some (some (match o with | none => .next | some s => .secOpt s), eolR rest, []) else none
  | .secOpt _, [] => some (none, [], [])
  | .secOpt s, c :: r => some (some (soStep s c r).1, (soStep s c r).2, [])
  | .optName s, rest => if (61 : UInt8) ∈ rest ∧ (10 : UInt8) ∉ upto 61 rest ∧ (13 : UInt8) ∉ upto 61 rest then some (some (.optVal s (Lib.trimSpace (upto 61 rest))), past 61 rest, []) else none
  | .optVal s n, rest => if (13 : UInt8) ∉ eolL rest ∧ Lib.hasSuffix (eolL rest) [92] = false then some (some (.secOpt s), eolR rest, [(false, s, n, Lib.trimSpace (eolL rest))]) else none
theorem eolL_len (r : Bs) : (eolL r).length ≤ r.length := (List.takeWhile_sublist _).length_le
theorem LS.len {w0 W : World} {gl gb : Nat} {T : ByteArray} {rest : Bs} {D : List Dat} {vd : Value} (h : LS w0 gl gb T W rest D vd) : rest.length ≤ T.size := by
  obtain ⟨r, wd, last, hB, hr⟩ := h.lx.buf
  have := congrArg List.length hr
  rw [List.length_drop, ← Lib.size_eq] at this
  omega
theorem LS.asc {w0 W : World} {gl gb : Nat} {T : ByteArray} {rest : Bs} {D : List Dat} {vd : Value} (h : LS w0 gl gb T W rest D vd) : ∀ c ∈ rest, c.toNat < 128 := by
  obtain ⟨r, wd, last, hB, hr⟩ := h.lx.buf
  intro c hc
  rw [← hr] at hc
  exact h.lx.asc c (List.mem_of_mem_drop hc)
theorem eolL_mem {r : Bs} {c : UInt8} (h : c ∈ eolL r) : c ∈ r := (List.takeWhile_sublist _).subset h
theorem upto_mem {d : UInt8} {r : Bs} {c : UInt8} (h : c ∈ upto d r) : c ∈ r := (List.takeWhile_sublist _).subset h
theorem upto_len (d : UInt8) (r : Bs) : (upto d r).length ≤ r.length := (List.takeWhile_sublist _).length_le
/-- The step that comes next, or none. -/
def NextOk (n0 : Nat) (W : World) (gl : Nat) : Option St → Value → Prop
  | none, fv => fv = .nilFunc
  | some s, fv => StepIs n0 W gl s fv
/-- What a step's call leaves. -/
def After (w0 : World) (gl gb : Nat) (T : ByteArray) (D : List Dat) (st' : Option St) (rest' : Bs) (d : List PD) (e : Ending) (w' : World) : Prop :=
  ∃ fv' D' vd', e = ret fv' ∧ LS w0 gl gb T w' rest' D' vd' ∧ D'.map Dat.pd = D.map Dat.pd ++ d ∧ NextOk w0.heap.size w' gl st' fv'
theorem step_calls {w0 W : World} {gl gb : Nat} {T : ByteArray} {rest rest' : Bs} {D : List Dat} {vd fv : Value} {st : St} {st' : Option St} {d : List PD} (h : LS w0 gl gb T W rest D vd) (hs : StepIs w0.heap.size W gl st fv) (hF : stepF st rest = some (st', rest', d)) (hT : T.size ≤ 1000000000) (hD : D.length < 1000000000) :
    ∃ n fi ca, fv = .func (.func n) fi ca ∧ (∀ (args : Array Value) (w : World), (callFunc n args).run Tryd.prog w = .ok (.enter n args) w) ∧ Calls Tryd.prog n (fi ++ ca) W (After w0 gl gb T D st' rest' d) := by
  have hlen := h.len
  have hasc := h.asc
  have hel := eolL_len rest
  have keep : ∀ (e : Ending) (w' : World) (fv' vd' : Value), e = ret fv' → LS w0 gl gb T w' rest' D vd' → d = [] → NextOk w0.heap.size w' gl st' fv' → After w0 gl gb T D st' rest' d e w' :=
    fun e w' fv' vd' he hl hd hm => ⟨fv', D, vd', he, hl, by rw [hd, List.append_nil], hm⟩
  cases st with
  | next =>
    obtain rfl : fv = .func (.func 68) #[pt gl] #[] := hs
    refine ⟨68, _, _, rfl, enters_of Tryd.func68 (by kernel_rfl) rfl, ?_⟩
    cases rest with
    | nil =>
      simp only [stepF, Option.some.injEq, Prod.mk.injEq] at hF
      obtain ⟨rfl, rfl, rfl⟩ := hF
      exact (next_end h).mono fun e w' ⟨he, hl⟩ => keep e w' _ _ he hl rfl rfl
    | cons c r =>
      simp only [stepF, Option.some.injEq, Prod.mk.injEq] at hF
      obtain ⟨rfl, rfl, rfl⟩ := hF
      exact (next_go c r h).mono fun e w' ⟨fv', he, hl, hst⟩ => keep e w' _ _ he hl rfl hst
  | secName =>
    obtain rfl : fv = .func (.func 82) #[pt gl] #[] := hs
    refine ⟨82, _, _, rfl, enters_of Tryd.func82 (by kernel_rfl) rfl, ?_⟩
    simp only [stepF] at hF
    split at hF
    · rename_i hm
      simp only [Option.some.injEq, Prod.mk.injEq] at hF
      obtain ⟨rfl, rfl, rfl⟩ := hF
      have hsp := upto_split 93 rest hm
      have hul := upto_len 93 rest
      exact (secname_go (upto 93 rest) (past 93 rest) (hsp ▸ h) (upto_no 93 rest) (by omega)).mono fun e w' ⟨fv', he, hl, hst⟩ => keep e w' _ _ he hl rfl hst
    · simp at hF
  | suffix s =>
    obtain ⟨b1, b2, rfl, k1, k2⟩ := hs
    refine ⟨100, _, _, rfl, enters_of Tryd.func100 (by kernel_rfl) rfl, ?_⟩
    simp only [stepF] at hF
    split at hF
    · rename_i hm
      simp only [Option.some.injEq, Prod.mk.injEq] at hF
      obtain ⟨rfl, rfl, rfl⟩ := hF
      refine (suffix_go b1 b2 s rest h k1 k2 hm.1 (fun c hc => hasc c (eolL_mem hc)) (by omega) hm.2 hD).mono fun e w' ⟨fv', vd', p, b, be, he, hl, hst⟩ => ?_
      exact ⟨fv', _, vd', he, hl, by rw [List.map_append]; rfl, hst⟩
    · simp at hF
  | ign o =>
    obtain ⟨b1, b2, v, rfl, k1, k2, hv⟩ := hs
    refine ⟨94, _, _, rfl, enters_of Tryd.func94 (by kernel_rfl) rfl, ?_⟩
    simp only [stepF] at hF
    split at hF
    · rename_i hm
      simp only [Option.some.injEq, Prod.mk.injEq] at hF
      obtain ⟨rfl, rfl, rfl⟩ := hF
      refine (ign_go rest b1 b2 v h k1 k2 hm.1 (by omega) hm.2).mono fun e w' ⟨he, hl, hso⟩ => keep e w' _ _ he hl rfl ?_
      cases o with
      | none => exact hv
      | some s => exact hso s hv
    · simp at hF
  | secOpt s =>
    obtain ⟨b1, b2, rfl, k1, k2⟩ := hs
    refine ⟨107, _, _, rfl, enters_of Tryd.func107 (by kernel_rfl) rfl, ?_⟩
    cases rest with
    | nil =>
      simp only [stepF, Option.some.injEq, Prod.mk.injEq] at hF
      obtain ⟨rfl, rfl, rfl⟩ := hF
      exact (secopt_end b1 b2 s h k1 k2).mono fun e w' ⟨he, hl⟩ => keep e w' _ _ he hl rfl rfl
    | cons c r =>
      simp only [stepF, Option.some.injEq, Prod.mk.injEq] at hF
      obtain ⟨rfl, rfl, rfl⟩ := hF
      exact (secopt_go b1 b2 s c r h k1 k2 (hasc c (by simp))).mono fun e w' ⟨fv', he, hl, hst⟩ => keep e w' _ _ he hl rfl hst
  | optName s =>
    obtain ⟨b1, b2, rfl, k1, k2⟩ := hs
    refine ⟨118, _, _, rfl, enters_of Tryd.func118 (by kernel_rfl) rfl, ?_⟩
    simp only [stepF] at hF
    split at hF
    · rename_i hm
      simp only [Option.some.injEq, Prod.mk.injEq] at hF
      obtain ⟨rfl, rfl, rfl⟩ := hF
      have hsp := upto_split 61 rest hm.1
      have hul := upto_len 61 rest
      exact (optname_go b1 b2 s (upto 61 rest) (past 61 rest) (hsp ▸ h) k1 k2 (fun c hc => hasc c (upto_mem hc)) (upto_no 61 rest) hm.2.1 hm.2.2 (by omega)).mono fun e w' ⟨fv', he, hl, hst⟩ => keep e w' _ _ he hl rfl hst
    · simp at hF
  | optVal s n =>
    obtain ⟨b1, b2, b3, b4, rfl, k1, k2, k3, k4, h0, h32, h42⟩ := hs
    refine ⟨133, _, _, rfl, enters_of Tryd.func133 (by kernel_rfl) rfl, ?_⟩
    simp only [stepF] at hF
    split at hF
    · rename_i hm
      simp only [Option.some.injEq, Prod.mk.injEq] at hF
      obtain ⟨rfl, rfl, rfl⟩ := hF
      refine (optval_go b1 b2 b3 b4 s n rest h k1 k2 k3 k4 h0 h32 h42 hm.1 (fun c hc => hasc c (eolL_mem hc)) (by omega) hm.2 hD).mono fun e w' ⟨fv', vd', p, b, he, hl, hst⟩ => ?_
      exact ⟨fv', _, vd', he, hl, by rw [List.map_append]; rfl, hst⟩
    · simp at hF
end Go.Proofs.YtocdnceckljnaaaDoor.U
