/- Where deserializeAll's lists lie, and how they stay. Conditions: see each theorem. -/
import Derived.Test.YtocdnceckljnaaaDoorUm
namespace Go.Proofs.YtocdnceckljnaaaDoor.U
open Go.RowKit Go.Proofs.YtocdnceckljnaaaDoorW.PrintWords Go.Proofs.YtocdnceckljnaaaDoorW.PrintLast Go.Proofs.YtocdnceckljnaaaDoorW.PrintMore
set_option linter.unusedVariables false
set_option linter.unusedSimpArgs false
theorem two_new (W : World) (T : ByteArray) : Below W.heap.size W ((W.alloc (.cells #[.string T, .int .i64 0, .int .i64 0, .int .i64 0, .bool false] 114)).alloc (.cells #[.pointer (some ⟨W.heap.size, 0, none⟩), .slice none 0 0, .nilIface, .string ⟨#[]⟩] 105)) ∧
    ((W.alloc (.cells #[.string T, .int .i64 0, .int .i64 0, .int .i64 0, .bool false] 114)).alloc (.cells #[.pointer (some ⟨W.heap.size, 0, none⟩), .slice none 0 0, .nilIface, .string ⟨#[]⟩] 105)).heap[W.heap.size]? = some (.cells #[.string T, .int .i64 0, .int .i64 0, .int .i64 0, .bool false] 114 (0, 0)) ∧
    ((W.alloc (.cells #[.string T, .int .i64 0, .int .i64 0, .int .i64 0, .bool false] 114)).alloc (.cells #[.pointer (some ⟨W.heap.size, 0, none⟩), .slice none 0 0, .nilIface, .string ⟨#[]⟩] 105)).heap[W.heap.size + 1]? = some (.cells #[.pointer (some ⟨W.heap.size, 0, none⟩), .slice none 0 0, .nilIface, .string ⟨#[]⟩] 105 (0, 0)) := alloc2_facts W _ _
set_option maxHeartbeats 4000000 in
set_option maxRecDepth 100000 in
theorem new_lexer (T : ByteArray) (W : World) (ht : Tabs W) (ha : ∀ c ∈ T.data.toList, c.toNat < 128) (hT : T.size ≤ 4611686018427387904) :
    Calls Tryd.prog 61 #[.string T] W fun e w' => ∃ gl gb, e = .returned (pt gl) ∧ LS W gl gb T w' T.data.toList [] (.slice none 0 0) := by
  have H2 := Aside0.mk (two_new W T)
  go_enter Tryd.func61, Tryd.ntmps61
  go_wp2
  go_ret
  refine ⟨W.heap.size + 1, W.heap.size, rfl, ⟨H2.out.1, by omega, by omega, by omega, H2.out.2.2, ⟨0, 0, 0, ⟨H2.out.2.1, Nat.le_refl _, Nat.zero_le _, hT⟩, rfl⟩, ht, ha⟩, Kd.R_nil _ _ _ _ _, ?_, ?_, ?_⟩
  · intro x hx; simp at hx
  · intro x hx; simp at hx
  · simp
/-- A row of pointers: only its own block counts. -/
theorem kR_own {e base : Nat} {ok : Nat → Prop} {W : World} {v : Value} {xs : List Nat} (h : kPtr.R e W base ok v xs) : kPtr.R e W base (fun k => v.ownBlock = some k) v xs := by
  obtain ⟨h0, inner, ho, hr⟩ := h
  exact ⟨fun k hk => hk, inner, ho, hr.imp_ (fun _ _ hp => hp)⟩
theorem kR_any {e base : Nat} {ok : Nat → Prop} {W : World} {v : Value} {xs : List Nat} (h : kPtr.R e W base ok v xs) : kPtr.R e W base (fun _ => True) v xs := Kd.R_mono h (fun _ _ => trivial)
theorem kR_grown {e base : Nat} {ok : Nat → Prop} {W W1 : World} {v : Value} {xs : List Nat} {row : Option Nat} (h : kPtr.R e W base ok v xs) (hg : W.grownBy W1 row) (hne : ∀ k, v.ownBlock = some k → some k ≠ row) : kPtr.R e W1 base (fun _ => True) v xs :=
  kR_any (Kd.R_grown (kR_own h) hg hne)
theorem kR_typed {e base : Nat} {ok : Nat → Prop} {W : World} {v : Value} {xs : List Nat} (h : kPtr.R e W base ok v xs) (k : Nat) (hk : v.ownBlock = some k) : ∃ c, W.heap[k]? = some (Obj.cells c e (0, 0)) := by
  obtain ⟨_, inner, ho, _⟩ := h
  exact own_typed ho k hk
/-- Rows of other types stay where a row of pointers grows. -/
theorem kR_other {e e2 base b2 : Nat} {ok ok2 : Nat → Prop} {W W1 : World} {v v2 : Value} {xs ys : List Nat} (h : kPtr.R e W base ok v xs) (h2 : kPtr.R e2 W b2 ok2 v2 ys) (hg : W.grownBy W1 v2.ownBlock) (ht : e2 ≠ e) : kPtr.R e W1 base (fun _ => True) v xs :=
  kR_grown h hg (fun k hk => by
    obtain ⟨c, hc⟩ := kR_typed h k hk
    exact Kd.R_ne h2 hc ht)
theorem kR_far {e base : Nat} {ok : Nat → Prop} {W : World} {v : Value} {xs : List Nat} (h : kPtr.R e W base ok v xs) {b t : Nat} {c : Array Value} (hb : W.heap[b]? = some (.cells c t (0, 0))) (ht : e ≠ t) (j : Nat) (u : Value) : kPtr.R e (W.setCell ⟨b, j, none⟩ u) base (fun _ => True) v xs :=
  kR_any (Kd.R_set h hb (fun q hq => by
    have : q = e := by simpa [kPtr, Kd.scalar] using hq
    rw [this]; exact ht) j u)
structure EntB where
  k : Nat
  n : Bs
  v : Bs
structure SecB where
  b : Nat
  s : Bs
  ve : Value
  es : List EntB
structure OptB where
  k : Nat
  s : Bs
  n : Bs
  v : Bs
/-- An option's block, an entry's block, a section's. -/
def OptAt (W : World) (x : OptB) : Prop := W.heap[x.k]? = some (.cells #[.string (B x.s), .string (B x.n), .string (B x.v)] 64 (0, 0))
def EntAt (W : World) (x : EntB) : Prop := W.heap[x.k]? = some (.cells #[.string (B x.n), .string (B x.v)] 81 (0, 0))
structure SecAt (W : World) (base : Nat) (x : SecB) : Prop where
  blk : W.heap[x.b]? = some (.cells #[.string (B x.s), x.ve] 79 (0, 0))
  row : kPtr.R 80 W base (fun _ => True) x.ve (x.es.map (·.k))
  ents : ∀ e ∈ x.es, EntAt W e
theorem SecAt.move {W W1 : World} {base : Nat} {x : SecB} (h : SecAt W base x) (hb : W1.heap[x.b]? = W.heap[x.b]?) (hr : kPtr.R 80 W1 base (fun _ => True) x.ve (x.es.map (·.k))) (he : ∀ (k : Nat) (c : Array Value), W.heap[k]? = some (Obj.cells c 81 (0, 0)) → W1.heap[k]? = W.heap[k]?) : SecAt W1 base x :=
  ⟨hb.trans h.blk, hr, fun e hm => (he e.k _ (h.ents e hm)).trans (h.ents e hm)⟩
/-- The lists of deserializeAll: Ss the sections, Os the options so far, rem the data still to come. -/
structure DS (w0 W : World) (gl gb : Nat) (D : List Dat) (vd : Value) (rem : List Dat) (Ss : List SecB) (v6 : Value) (Os : List OptB) (v7 : Value) : Prop where
  below : Below w0.heap.size w0 W
  lex : W.heap[gl]? = some (.cells #[.pointer (some ⟨gb, 0, none⟩), vd, .nilIface, .string ⟨#[]⟩] 105 (0, 0))
  row : kPtr.R 106 W w0.heap.size (fun _ => True) vd (D.map (·.p))
  data : DataAt W rem
  secs : kPtr.R 76 W w0.heap.size (fun _ => True) v6 (Ss.map (·.b))
  secAt : ∀ x ∈ Ss, SecAt W w0.heap.size x
  opts : kPtr.R 55 W w0.heap.size (fun _ => True) v7 (Os.map (·.k))
  optAt : ∀ x ∈ Os, OptAt W x
  new : ∀ x ∈ rem, x.isSec = true → (w0.heap.size ≤ x.b ∧ x.b < W.heap.size) ∧ (w0.heap.size ≤ x.be ∧ x.be < W.heap.size)
  remA : (rem.filter (·.isSec)).Pairwise (fun x y => x.b ≠ y.b ∧ x.be ≠ y.be)
  apart : Ss.Pairwise (fun x y => x.b ≠ y.b ∧ x.ve.ownBlock ≠ y.ve.ownBlock)
  ge : ∀ x ∈ Ss, w0.heap.size ≤ x.b
  cross : ∀ x ∈ Ss, ∀ y ∈ rem, y.isSec = true → y.b ≠ x.b ∧ some y.be ≠ x.ve.ownBlock
namespace DS
variable {w0 W W1 : World} {gl gb : Nat} {D : List Dat} {vd : Value} {rem : List Dat} {Ss : List SecB} {v6 : Value} {Os : List OptB} {v7 : Value}
theorem more (h : DS w0 W gl gb D vd rem Ss v6 Os v7) (hb : Below W.heap.size W W1) : DS w0 W1 gl gb D vd rem Ss v6 Os v7 where
  below := (Turned.of_below hb (fun _ => False)).over h.below (fun _ h => h.elim)
  lex := (hb.block gl (blk_lt h.lex)).trans h.lex
  row := Kd.R_below h.row hb
  data := DataAt.move h.data (fun k c t hk _ => hb.block k (blk_lt hk))
  secs := Kd.R_below h.secs hb
  secAt := fun x hx => (h.secAt x hx).move (hb.block x.b (blk_lt (h.secAt x hx).blk)) (Kd.R_below (h.secAt x hx).row hb) (fun k c hk => hb.block k (blk_lt hk))
  opts := Kd.R_below h.opts hb
  optAt := fun x hx => (hb.block x.k (blk_lt (h.optAt x hx))).trans (h.optAt x hx)
  new := fun x hx hs => new_le (h.new x hx hs) hb.size
  remA := h.remA
  apart := h.apart
  ge := h.ge
  cross := h.cross
/-- Of the data the first has been looked at. -/
theorem tail {x : Dat} {r : List Dat} (h : DS w0 W gl gb D vd (x :: r) Ss v6 Os v7) : DS w0 W gl gb D vd r Ss v6 Os v7 where
  below := h.below
  lex := h.lex
  row := h.row
  data := fun y hy => h.data y (List.mem_cons_of_mem _ hy)
  secs := h.secs
  secAt := h.secAt
  opts := h.opts
  optAt := h.optAt
  new := fun y hy => h.new y (List.mem_cons_of_mem _ hy)
  remA := by
    have := h.remA
    rw [List.filter_cons] at this
    split at this
    · exact (List.pairwise_cons.1 this).2
    · exact this
  apart := h.apart
  ge := h.ge
  cross := fun y hy z hz => h.cross y hy z (List.mem_cons_of_mem _ hz)
/-- The options' row has grown. -/
theorem addOpt (h : DS w0 W gl gb D vd rem Ss v6 Os v7) (o : OptB) (ho : OptAt W o) {v7' : Value} (HR : kPtr.R 55 W1 w0.heap.size (fun _ => True) v7' (Os.map (·.k) ++ [o.k])) (HB : Below w0.heap.size w0 W1) (hg : W.grownBy W1 v7.ownBlock) :
    DS w0 W1 gl gb D vd rem Ss v6 (Os ++ [o]) v7' := by
  have st : ∀ (k : Nat) (c : Array Value) (t : Nat), W.heap[k]? = some (Obj.cells c t (0, 0)) → 55 ≠ t → W1.heap[k]? = W.heap[k]? := fun k c t hk ht => (blk_grown hk hg (Kd.R_ne h.opts hk ht)).trans hk.symm
  refine ⟨HB, (st _ _ _ h.lex (by decide)).trans h.lex, kR_other h.row h.opts hg (by decide), DataAt.move h.data (fun k c t hk ht => st k c t hk (by rcases ht with rfl | rfl | rfl | rfl <;> decide)), kR_other h.secs h.opts hg (by decide), ?_, ?_, ?_, fun x hx hs => new_le (h.new x hx hs) hg.size, h.remA, h.apart, h.ge, h.cross⟩
  · intro x hx
    have hs := h.secAt x hx
    exact hs.move (st _ _ _ hs.blk (by decide)) (kR_other hs.row h.opts hg (by decide)) (fun k c hk => st k c 81 hk (by decide))
  · rw [List.map_append]; exact HR
  · intro x hx
    rcases List.mem_append.1 hx with hx | hx
    · exact (st _ _ _ (h.optAt x hx) (by decide)).trans (h.optAt x hx)
    · rw [List.mem_singleton.1 hx]
      exact (st _ _ _ ho (by decide)).trans ho
/-- The sections' row has grown by the datum at hand. -/
theorem addSec {x : Dat} (h : DS w0 W gl gb D vd (x :: rem) Ss v6 Os v7) (hx : x.isSec = true) {v6' : Value} (HR : kPtr.R 76 W1 w0.heap.size (fun _ => True) v6' (Ss.map (·.b) ++ [x.b])) (HB : Below w0.heap.size w0 W1) (hg : W.grownBy W1 v6.ownBlock) :
    DS w0 W1 gl gb D vd rem (Ss ++ [⟨x.b, x.s, .slice (some ⟨x.be, 0, none⟩) 0 0, []⟩]) v6' Os v7 := by
  have st : ∀ (k : Nat) (c : Array Value) (t : Nat), W.heap[k]? = some (Obj.cells c t (0, 0)) → 76 ≠ t → W1.heap[k]? = W.heap[k]? := fun k c t hk ht => (blk_grown hk hg (Kd.R_ne h.secs hk ht)).trans hk.symm
  have ht := h.tail
  have hd := h.data x (List.mem_cons_self)
  unfold Dat.blks at hd
  rw [if_pos hx] at hd
  have hd1 : W.heap[x.b]? = some (Obj.cells #[.string (B x.s), .slice (some ⟨x.be, 0, none⟩) 0 0] 79 (0, 0)) := hd (x.b, _) (List.mem_cons_of_mem _ List.mem_cons_self)
  have hd2 : W.heap[x.be]? = some (Obj.cells #[] 80 (0, 0)) := hd (x.be, _) (List.mem_cons_of_mem _ (List.mem_cons_of_mem _ List.mem_cons_self))
  have hn := h.new x (List.mem_cons_self) hx
  refine ⟨HB, (st _ _ _ h.lex (by decide)).trans h.lex, kR_other h.row h.secs hg (by decide), DataAt.move ht.data (fun k c t hk ht => st k c t hk (by rcases ht with rfl | rfl | rfl | rfl <;> decide)), ?_, ?_, kR_other h.opts h.secs hg (by decide), ?_, fun y hy hs => new_le (ht.new y hy hs) hg.size, ht.remA, ?_, ?_, ?_⟩
  · rw [List.map_append]; exact HR
  · intro y hy
    rcases List.mem_append.1 hy with hy | hy
    · have hs := h.secAt y hy
      exact hs.move (st _ _ _ hs.blk (by decide)) (kR_other hs.row h.secs hg (by decide)) (fun k c hk => st k c 81 hk (by decide))
    · rw [List.mem_singleton.1 hy]
      refine ⟨(st _ _ _ hd1 (by decide)).trans hd1, ?_, fun e he => by simp at he⟩
      have hbe := (st _ _ _ hd2 (by decide)).trans hd2
      exact ⟨fun _ _ => trivial, [], ⟨rfl, .inr ⟨x.be, 0, #[], rfl, hn.2.1, hbe, Nat.le_refl _, by decide, by simp, rfl⟩⟩, ⟨rfl, fun j p hj => by simp at hj⟩⟩
  · intro y hy
    exact (st _ _ _ (h.optAt y hy) (by decide)).trans (h.optAt y hy)
  · rw [List.pairwise_append]
    refine ⟨h.apart, List.pairwise_singleton _ _, ?_⟩
    intro y hy z hz
    rw [List.mem_singleton.1 hz]
    have := h.cross y hy x (List.mem_cons_self) hx
    exact ⟨fun e => this.1 e.symm, fun e => this.2 e.symm⟩
  · intro y hy
    rcases List.mem_append.1 hy with hy | hy
    · exact h.ge y hy
    · rw [List.mem_singleton.1 hy]
      exact hn.1.1
  · intro y hy z hz hzs
    rcases List.mem_append.1 hy with hy | hy
    · exact h.cross y hy z (List.mem_cons_of_mem _ hz) hzs
    · rw [List.mem_singleton.1 hy]
      have hp := h.remA
      rw [List.filter_cons, if_pos hx] at hp
      have := (List.pairwise_cons.1 hp).1 z (List.mem_filter.2 ⟨hz, hzs⟩)
      refine ⟨fun e => this.1 e.symm, fun e => this.2 ?_⟩
      have e' : some z.be = some x.be := e
      exact (Option.some.inj e').symm
/-- The last section has grown by an entry. -/
theorem addEnt {Sa : List SecB} {y : SecB} (h : DS w0 W gl gb D vd rem (Sa ++ [y]) v6 Os v7) (e : EntB) (he : EntAt W e) {ve' : Value} (HR : kPtr.R 80 W1 w0.heap.size (fun _ => True) ve' (y.es.map (·.k) ++ [e.k])) (HB : Below w0.heap.size w0 W1) (hg : W.grownBy W1 y.ve.ownBlock)
    (hat : ve'.ownBlock = y.ve.ownBlock ∨ ∃ b, ve'.ownBlock = some b ∧ W.heap.size ≤ b) : DS w0 (W1.setCell ⟨y.b, 1, none⟩ ve') gl gb D vd rem (Sa ++ [⟨y.b, y.s, ve', y.es ++ [e]⟩]) v6 Os v7 := by
  have hym : y ∈ Sa ++ [y] := by simp
  have hy := h.secAt y hym
  have hyb1 := blk_grown hy.blk hg (Kd.R_ne hy.row hy.blk (by decide))
  have st : ∀ (k : Nat) (o : Obj), W.heap[k]? = some o → some k ≠ y.ve.ownBlock → k ≠ y.b → (W1.setCell ⟨y.b, 1, none⟩ ve').heap[k]? = W.heap[k]? := fun k o hk h1 h2 =>
    (Below.heap_setCell W1 ⟨y.b, 1, none⟩ ve' k h2).trans ((blk_grown hk hg h1).trans hk.symm)
  have stt : ∀ (k : Nat) (c : Array Value) (t : Nat), W.heap[k]? = some (Obj.cells c t (0, 0)) → 80 ≠ t → t ≠ 79 → (W1.setCell ⟨y.b, 1, none⟩ ve').heap[k]? = W.heap[k]? := fun k c t hk h1 h2 =>
    st k _ hk (Kd.R_ne hy.row hk h1) (blk_ne hk hy.blk h2)
  have rt : ∀ {e2 b2 : Nat} {ok2 : Nat → Prop} {v : Value} {xs : List Nat}, kPtr.R e2 W b2 ok2 v xs → 80 ≠ e2 → e2 ≠ 79 → kPtr.R e2 (W1.setCell ⟨y.b, 1, none⟩ ve') b2 (fun _ => True) v xs := fun hr h1 h2 => kR_far (kR_other hr hy.row hg h1) hyb1 h2 1 ve'
  have hsz : W.heap.size ≤ (W1.setCell ⟨y.b, 1, none⟩ ve').heap.size := by
    have : (W1.setCell ⟨y.b, 1, none⟩ ve').heap.size = W1.heap.size := by simp [World.setCell]
    rw [this]
    exact hg.size
  have hap := List.pairwise_append.1 h.apart
  have hownlt : ∀ z ∈ Sa, ∀ k, z.ve.ownBlock = some k → k < W.heap.size := fun z hz k hk => by
    obtain ⟨c, hc⟩ := kR_typed (h.secAt z (List.mem_append_left _ hz)).row k hk
    exact blk_lt hc
  refine ⟨below_set HB (h.ge y hym), (stt _ _ _ h.lex (by decide) (by decide)).trans h.lex, rt h.row (by decide) (by decide), ?_, ?_, ?_, rt h.opts (by decide) (by decide), ?_, fun x hx hs => new_le (h.new x hx hs) hsz, h.remA, ?_, ?_, ?_⟩
  · intro z hz p hp
    have h1 := h.data z hz p hp
    have hc := h.cross y hym z hz
    unfold Dat.blks at hp
    split at hp
    · rename_i hs
      have hc := hc hs
      simp only [List.mem_cons, List.mem_nil_iff, or_false] at hp
      rcases hp with rfl | rfl | rfl
      · exact (stt _ _ _ h1 (by decide) (by decide)).trans h1
      · exact (st _ _ h1 (Kd.R_ne hy.row h1 (by decide)) hc.1).trans h1
      · exact (st _ _ h1 hc.2 (blk_ne h1 hy.blk (by decide))).trans h1
    · simp only [List.mem_cons, List.mem_nil_iff, or_false] at hp
      rcases hp with rfl | rfl
      · exact (stt _ _ _ h1 (by decide) (by decide)).trans h1
      · exact (stt _ _ _ h1 (by decide) (by decide)).trans h1
  · have := rt h.secs (by decide) (by decide)
    rw [List.map_append] at this ⊢
    exact this
  · intro x hx
    rcases List.mem_append.1 hx with hx | hx
    · have hs := h.secAt x (List.mem_append_left _ hx)
      have hne := hap.2.2 x hx y (by simp)
      refine hs.move (st _ _ hs.blk (Kd.R_ne hy.row hs.blk (by decide)) hne.1) ?_ (fun k c hk => stt k c 81 hk (by decide) (by decide))
      exact kR_far (kR_grown hs.row hg (fun k hk e2 => hne.2 (hk.trans e2))) hyb1 (by decide) 1 ve'
    · rw [List.mem_singleton.1 hx]
      refine ⟨by rw [blk_set hyb1]; rfl, ?_, ?_⟩
      · show kPtr.R 80 _ _ _ ve' ((y.es ++ [e]).map (·.k))
        rw [List.map_append]
        exact kR_far HR hyb1 (by decide) 1 ve'
      · intro e2 he2
        have he2' : e2 ∈ y.es ++ [e] := he2
        have hE : EntAt W e2 := by
          rcases List.mem_append.1 he2' with h3 | h3
          · exact hy.ents e2 h3
          · rw [List.mem_singleton.1 h3]; exact he
        exact (stt _ _ _ hE (by decide) (by decide)).trans hE
  · intro x hx
    exact (stt _ _ _ (h.optAt x hx) (by decide) (by decide)).trans (h.optAt x hx)
  · rw [List.pairwise_append]
    refine ⟨hap.1, List.pairwise_singleton _ _, ?_⟩
    intro z hz u hu
    rw [List.mem_singleton.1 hu]
    have hne := hap.2.2 z hz y (by simp)
    refine ⟨hne.1, ?_⟩
    show z.ve.ownBlock ≠ ve'.ownBlock
    rcases hat with h2 | ⟨b, h2, h3⟩
    · rw [h2]; exact hne.2
    · rw [h2]
      intro e2
      have := hownlt z hz b e2
      omega
  · intro x hx
    rcases List.mem_append.1 hx with hx | hx
    · exact h.ge x (List.mem_append_left _ hx)
    · rw [List.mem_singleton.1 hx]
      exact h.ge y hym
  · intro x hx z hz hzs
    rcases List.mem_append.1 hx with hx | hx
    · exact h.cross x (List.mem_append_left _ hx) z hz hzs
    · rw [List.mem_singleton.1 hx]
      have hc := h.cross y hym z hz hzs
      refine ⟨hc.1, ?_⟩
      show some z.be ≠ ve'.ownBlock
      rcases hat with h2 | ⟨b, h2, h3⟩
      · rw [h2]; exact hc.2
      · rw [h2]
        intro e2
        have := (h.new z hz hzs).2.2
        have := Option.some.inj e2
        omega
end DS
end Go.Proofs.YtocdnceckljnaaaDoor.U
