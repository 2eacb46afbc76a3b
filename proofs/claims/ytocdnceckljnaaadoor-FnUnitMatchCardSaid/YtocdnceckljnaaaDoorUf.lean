/- The steps of the unit reader's lexer: their states, what they do to a text as lists of bytes; the plain steps. Conditions: see each theorem. -/
import Derived.Test.YtocdnceckljnaaaDoorUe
import Derived.Test.YtocdnceckljnaaaDoorUo
namespace Go.Proofs.YtocdnceckljnaaaDoor.U
open Go.RowKit Go.Proofs.YtocdnceckljnaaaDoorW.PrintWords Go.Proofs.YtocdnceckljnaaaDoorW.PrintLast Go.Proofs.YtocdnceckljnaaaDoorW.PrintMore
set_option linter.unusedVariables false
set_option linter.unusedSimpArgs false
/-- A text of these bytes. -/
def B (l : Bs) : ByteArray := ⟨l.toArray⟩
theorem B_data (l : Bs) : (B l).data.toList = l := rfl
theorem B_size (l : Bs) : (B l).size = l.length := by simp [B, ByteArray.size]
/-- What is read: a section, an option; the blocks where they lie. -/
structure Dat where
  isSec : Bool
  s : Bs
  n : Bs
  v : Bs
  p : Nat
  b : Nat
  be : Nat
def Dat.blks (x : Dat) : List (Nat × Obj) :=
  if x.isSec = true then [(x.p, .cells #[.int .i64 0, .pointer none, .pointer (some ⟨x.b, 0, none⟩)] 109 (0, 0)), (x.b, .cells #[.string (B x.s), .slice (some ⟨x.be, 0, none⟩) 0 0] 79 (0, 0)), (x.be, .cells #[] 80 (0, 0))]
  else [(x.p, .cells #[.int .i64 1, .pointer (some ⟨x.b, 0, none⟩), .pointer none] 109 (0, 0)), (x.b, .cells #[.string (B x.s), .string (B x.n), .string (B x.v)] 64 (0, 0))]
theorem Dat.typed (x : Dat) : ∀ p ∈ x.blks, ∃ c t, p.2 = .cells c t (0, 0) ∧ (t = 109 ∨ t = 79 ∨ t = 80 ∨ t = 64) := by
  intro p hp
  unfold Dat.blks at hp
  split at hp
  · simp only [List.mem_cons, List.mem_nil_iff, or_false] at hp
    rcases hp with rfl | rfl | rfl
    · exact ⟨_, _, rfl, by decide⟩
    · exact ⟨_, _, rfl, by decide⟩
    · exact ⟨_, _, rfl, by decide⟩
  · simp only [List.mem_cons, List.mem_nil_iff, or_false] at hp
    rcases hp with rfl | rfl
    · exact ⟨_, _, rfl, by decide⟩
    · exact ⟨_, _, rfl, by decide⟩
/-- The data lie there. -/
def DataAt (W : World) (D : List Dat) : Prop := ∀ x ∈ D, ∀ p ∈ x.blks, W.heap[p.1]? = some p.2
theorem DataAt.move {W W1 : World} {D : List Dat} (h : DataAt W D) (hm : ∀ (k : Nat) (c : Array Value) (t : Nat), W.heap[k]? = some (Obj.cells c t (0, 0)) → (t = 109 ∨ t = 79 ∨ t = 80 ∨ t = 64) → W1.heap[k]? = W.heap[k]?) : DataAt W1 D := by
  intro x hx p hp
  have h1 := h x hx p hp
  obtain ⟨c, t, h2, h3⟩ := x.typed p hp
  rw [hm p.1 c t (by rw [h1, h2]) h3]
  exact h1
/-- Pointers as they are. -/
def kPtr : Kd Nat := Kd.scalar (fun b => .pointer (some ⟨b, 0, none⟩)) (fun _ => rfl)
/-- The reader's state with what was read. -/
structure LS (w0 : World) (gl gb : Nat) (T : ByteArray) (W : World) (rest : Bs) (D : List Dat) (vd : Value) : Prop where
  lx : Lx w0 gl gb T W rest vd
  row : kPtr.R 106 W w0.heap.size (fun _ => True) vd (D.map (·.p))
  data : DataAt W D
  new : ∀ x ∈ D, x.isSec = true → (w0.heap.size ≤ x.b ∧ x.b < W.heap.size) ∧ (w0.heap.size ≤ x.be ∧ x.be < W.heap.size)
  apart : (D.filter (·.isSec)).Pairwise (fun x y => x.b ≠ y.b ∧ x.be ≠ y.be)
theorem new_le {a b be n m : Nat} (h : (a ≤ b ∧ b < n) ∧ (a ≤ be ∧ be < n)) (hl : n ≤ m) : (a ≤ b ∧ b < m) ∧ (a ≤ be ∧ be < m) := by omega
theorem kE (q : Nat) (h : q ∈ 106 :: kPtr.E) : q = 106 := by simpa [kPtr, Kd.scalar] using h
namespace LS
variable {w0 W W1 : World} {gl gb : Nat} {T : ByteArray} {rest : Bs} {D : List Dat} {vd : Value}
theorem more (h : LS w0 gl gb T W rest D vd) (hb : Below W.heap.size W W1) : LS w0 gl gb T W1 rest D vd :=
  ⟨h.lx.more hb, Kd.R_below h.row hb, DataAt.move h.data (fun k c t hk _ => hb.block k (blk_lt hk)), fun x hx hs => new_le (h.new x hx hs) hb.size, h.apart⟩
/-- The buffer has moved on. -/
theorem on (h : LS w0 gl gb T W rest D vd) (ht : Turned W W1 (at_ gb)) {rest' : Bs} (hl : Lx w0 gl gb T W1 rest' vd) : LS w0 gl gb T W1 rest' D vd := by
  obtain ⟨r, wd, last, hB, _⟩ := h.lx.buf
  refine ⟨hl, ?_, DataAt.move h.data (fun k c t hk hq => ?_), fun x hx hs => new_le (h.new x hx hs) ht.size, h.apart⟩
  · exact Kd.R_mono (Kd.R_kept (Kd.R_types h.row hB.blk (fun q hq => by rw [kE q hq]; decide)) ht.kept (fun k hk e => hk.2 e)) (fun _ _ => trivial)
  · refine ht.kept.2 k (blk_lt hk) (fun e => ?_)
    have hne : k ≠ gb := blk_ne hk hB.blk (by rcases hq with rfl | rfl | rfl | rfl <;> decide)
    exact hne e
end LS
/-- The lexer's steps. -/
inductive St where
  | next
  | secName
  | suffix (s : Bs)
  | ign (s : Option Bs)
  | secOpt (s : Bs)
  | optName (s : Bs)
  | optVal (s n : Bs)
/-- A box of the closure's. -/
def Box (W : World) (b : Nat) (v : Value) (t : TypeId) : Prop := W.heap[b]? = some (.cells #[v] t (0, 0))
def pt (b : Nat) : Value := .pointer (some ⟨b, 0, none⟩)
def NextIs (gl : Nat) (fv : Value) : Prop := fv = .func (.func 68) #[pt gl] #[]
def SecOptIs (W : World) (gl : Nat) (s : Bs) (fv : Value) : Prop := ∃ b1 b2, fv = .func (.func 107) #[] #[pt b1, pt b2] ∧ Box W b1 (pt gl) 100 ∧ Box W b2 (.string (B s)) 9
/-- A function value is this step. -/
def StepIs (n0 : Nat) (W : World) (gl : Nat) : St → Value → Prop
  | .next, fv => NextIs gl fv
  | .secName, fv => fv = .func (.func 82) #[pt gl] #[]
  | .suffix s, fv => ∃ b1 b2, fv = .func (.func 100) #[] #[pt b1, pt b2] ∧ Box W b1 (pt gl) 100 ∧ Box W b2 (.string (B s)) 9
  | .ign o, fv => ∃ b1 b2 v, fv = .func (.func 94) #[] #[pt b1, pt b2] ∧ Box W b1 (pt gl) 100 ∧ Box W b2 v 121 ∧ (match o with | none => NextIs gl v | some s => SecOptIs W gl s v)
  | .secOpt s, fv => SecOptIs W gl s fv
  | .optName s, fv => ∃ b1 b2, fv = .func (.func 118) #[] #[pt b1, pt b2] ∧ Box W b1 (pt gl) 100 ∧ Box W b2 (.string (B s)) 9
  | .optVal s n, fv => ∃ b1 b2 b3 b4, fv = .func (.func 133) #[] #[pt b1, pt b2, pt b3, pt b4] ∧ Box W b1 (pt gl) 100 ∧ Box W b2 (.string ⟨#[]⟩) 9 ∧ Box W b3 (.string (B s)) 9 ∧ Box W b4 (.string (B n)) 9 ∧ n0 ≤ b2 ∧ b3 ≠ b2 ∧ b4 ≠ b2
theorem Box.more {W W1 : World} {b : Nat} {v : Value} {t : TypeId} (h : Box W b v t) (hb : Below W.heap.size W W1) : Box W1 b v t := (hb.block b (blk_lt h)).trans h
theorem Box.turned {W W1 : World} {b : Nat} {v : Value} {t : TypeId} {S : Nat → Prop} (h : Box W b v t) (ht : Turned W W1 S) (hn : ¬ S b) : Box W1 b v t := ht.blk h hn
theorem Box.cell {W : World} {b : Nat} {v : Value} {t : TypeId} (h : Box W b v t) : W.cell? ⟨b, 0, none⟩ = some v := by rw [blk_cell h]; rfl
theorem Box.new (W : World) (v : Value) (t : TypeId) : Box (W.alloc (.cells #[v] t)) W.heap.size v t := blk_new W _
theorem SecOptIs.more {W W1 : World} {gl : Nat} {s : Bs} {fv : Value} (h : SecOptIs W gl s fv) (hb : Below W.heap.size W W1) : SecOptIs W1 gl s fv := by
  obtain ⟨b1, b2, rfl, h1, h2⟩ := h
  exact ⟨b1, b2, rfl, h1.more hb, h2.more hb⟩
end Go.Proofs.YtocdnceckljnaaaDoor.U
