import PyProof.Rows.All
import Wide.All
import OpenK.AllK
import Wide.FinOn
import PySem.Challenge.RW_wn0008_01

set_option Elab.async false

section
open PySem PySem.W PyProof.Rows
set_option maxRecDepth 100000
namespace Mine

/-! ## views -/
abbrev View := Addr → Option Obj
def VLe (g g' : View) : Prop := ∀ b o, g b = some o → g' b = some o
def VIn (g : View) (h : Heap) : Prop := ∀ b o, g b = some o → h.get? b = some o
theorem VLe.refl (g : View) : VLe g g := fun _ _ e => e
theorem VLe.trans {g g' g'' : View} (a : VLe g g') (b : VLe g' g'') : VLe g g'' := fun x o e => b x o (a x o e)

/-- all that stands outside ws stays -/
def KB (ws : List Addr) (h h' : Heap) : Prop := ∀ b o, b ∉ ws → h.get? b = some o → h'.get? b = some o
theorem KB.refl (ws : List Addr) (h : Heap) : KB ws h h := fun _ _ _ e => e
theorem KB.trans {ws : List Addr} {h h' h'' : Heap} (a : KB ws h h') (b : KB ws h' h'') : KB ws h h'' := fun x o n e => b x o n (a x o n e)
theorem KB.mono {ws ws' : List Addr} {h h' : Heap} (a : KB ws h h') (s : ∀ b ∈ ws, b ∈ ws') : KB ws' h h' := fun x o n e => a x o (fun m => n (s x m)) e
theorem KB.ofKeeps {ws : List Addr} {s s' : Shared} (k : Keeps s s') : KB ws s.heap s'.heap := fun b o _ e => by
  obtain ⟨h', tk, rfl, hk⟩ := k; exact hk b o e

theorem keeps_refl (s : Shared) : Keeps s s := ⟨s.heap, s.toks, rfl, fun _ _ e => e⟩
theorem keeps_trans {a b c : Shared} (x : Keeps a b) (y : Keeps b c) : Keeps a c := by
  obtain ⟨h, t, rfl, k⟩ := x
  obtain ⟨h', t', rfl, k'⟩ := y
  exact ⟨h', t', rfl, fun b o e => k' b o (k b o e)⟩
theorem keeps_get {s s' : Shared} (x : Keeps s s') {b : Addr} {o : Obj} (e : s.heap.get? b = some o) : s'.heap.get? b = some o := by
  obtain ⟨h, t, rfl, k⟩ := x; exact k b o e
theorem keeps_toks {s : Shared} (n : Nat) : Keeps s { s with toks := n } := ⟨s.heap, n, rfl, fun _ _ e => e⟩
theorem keeps_push {s : Shared} (o : Obj) (n : Nat) : Keeps s { s with heap := s.heap.push o, toks := n } := ⟨_, n, rfl, fun _ _ e => Heap.get?_push_of_some o e⟩

structure Grow (g : View) (s : Shared) (g' : View) (s' : Shared) : Prop where
  keeps : Keeps s s'
  le : VLe g g'
  inn : VIn g' s'.heap
  new : ∀ b o, g' b = some o → g b = some o ∨ s.heap.get? b = none

theorem Grow.refl {g : View} {s : Shared} (i : VIn g s.heap) : Grow g s g s := ⟨keeps_refl s, VLe.refl g, i, fun _ _ e => .inl e⟩
theorem Grow.trans {g g' g'' : View} {s s' s'' : Shared} (a : Grow g s g' s') (b : Grow g' s' g'' s'') : Grow g s g'' s'' := by
  refine ⟨keeps_trans a.keeps b.keeps, a.le.trans b.le, b.inn, fun x o e => ?_⟩
  rcases b.new x o e with h | h
  · exact a.new x o h
  · right
    cases hx : s.heap.get? x with
    | none => rfl
    | some o' => rw [keeps_get a.keeps hx] at h; cases h
theorem Grow.out {g g' : View} {s s' : Shared} (a : Grow g s g' s') {b : Addr} {o : Obj} (hb : s.heap.get? b = some o) (hg : g b = none) : g' b = none := by
  cases hx : g' b with
  | none => rfl
  | some o' =>
    rcases a.new b o' hx with h | h
    · rw [hg] at h; cases h
    · rw [hb] at h; cases h
/-- nothing new is kept -/
theorem Grow.ofKeeps {g : View} {s s' : Shared} (i : VIn g s.heap) (k : Keeps s s') : Grow g s g s' :=
  ⟨k, VLe.refl g, fun b o e => keeps_get k (i b o e), fun _ _ e => .inl e⟩
/-- the largest growth -/
def maxg (g : View) (s s' : Shared) : View := fun b => if (s.heap.get? b).isSome then g b else s'.heap.get? b
theorem Grow.max {g : View} {s s' : Shared} (i : VIn g s.heap) (k : Keeps s s') : Grow g s (maxg g s s') s' := by
  refine ⟨k, fun b o e => ?_, fun b o e => ?_, fun b o e => ?_⟩
  · simp [maxg, i b o e, e]
  · unfold maxg at e
    split at e
    · exact keeps_get k (i b o e)
    · exact e
  · unfold maxg at e
    split at e
    · exact .inl e
    · rename_i h; right; simpa using h
theorem maxg_new {g : View} {s s' : Shared} {b : Addr} (h : s.heap.get? b = none) : maxg g s s' b = s'.heap.get? b := by simp [maxg, h]

/-! ## what stands in a view -/
abbrev Rp (α : Type) := View → Value → α → Prop
def Mono {α : Type} (R : Rp α) : Prop := ∀ (g g' : View) (v : Value) (x : α), VLe g g' → R g v x → R g' v x
def RInt : Rp Int := fun _ v i => ∃ t, v = .int i t
def RNat : Rp Nat := fun _ v i => ∃ t, v = .int (i : Int) t
def RStr : Rp Str := fun _ v x => ∃ t, v = .str x t
def RBytes : Rp (Array UInt8) := fun _ v x => ∃ t, v = .bytes x t
def RBool : Rp Bool := fun _ v x => v = .bool x
theorem mono_RInt : Mono RInt := fun _ _ _ _ _ h => h
theorem mono_RNat : Mono RNat := fun _ _ _ _ _ h => h
theorem mono_RStr : Mono RStr := fun _ _ _ _ _ h => h
theorem mono_RBytes : Mono RBytes := fun _ _ _ _ _ h => h
theorem mono_RBool : Mono RBool := fun _ _ _ _ _ h => h
abbrev listObj (vs : List Value) (n : Nat) : Obj := { cls := .type "list", data := .seq vs.toArray n }
abbrev tupObj (vs : List Value) : Obj := { cls := .type "tuple", data := .seq vs.toArray }
def RList {α : Type} (R : Rp α) : Rp (List α) := fun g v xs => ∃ a vs n, v = .ref a ∧ g a = some (listObj vs n) ∧ Paired (R g) vs xs
theorem Paired.mono' {α β : Type} {F G : α → β → Prop} (h : ∀ a b, F a b → G a b) : ∀ {l : List α} {m : List β}, Paired F l m → Paired G l m
  | _, _, .nil => .nil
  | _, _, .cons x t => .cons (h _ _ x) (Paired.mono' h t)
theorem mono_RList {α : Type} {R : Rp α} (M : Mono R) : Mono (RList R) := fun g g' _ _ hg h => by
  obtain ⟨a, vs, n, e, hl, hp⟩ := h
  exact ⟨a, vs, n, e, hg _ _ hl, Paired.mono' (fun _ _ q => M g g' _ _ hg q) hp⟩
theorem Paired.append {α β : Type} {F : α → β → Prop} : ∀ {l l' : List α} {m m' : List β}, Paired F l m → Paired F l' m' → Paired F (l ++ l') (m ++ m')
  | _, _, _, _, .nil, h => h
  | _, _, _, _, .cons x t, h => .cons x (Paired.append t h)
theorem Paired.get {α β : Type} {F : α → β → Prop} : ∀ {l : List α} {m : List β} (_ : Paired F l m) (i : Nat) {b : β}, m[i]? = some b → ∃ a, l[i]? = some a ∧ F a b
  | _, _, .nil, i, b, h => by simp at h
  | _, _, .cons x t, 0, b, h => by simp at h; subst h; exact ⟨_, rfl, x⟩
  | _, _, .cons x t, i + 1, b, h => by simpa using Paired.get t i (by simpa using h)
theorem Paired.getL {α β : Type} {F : α → β → Prop} : ∀ {l : List α} {m : List β} (_ : Paired F l m) (i : Nat) {a : α}, l[i]? = some a → ∃ b, m[i]? = some b ∧ F a b
  | _, _, .nil, i, b, h => by simp at h
  | _, _, .cons x t, 0, b, h => by simp at h; subst h; exact ⟨_, rfl, x⟩
  | _, _, .cons x t, i + 1, b, h => by simpa using Paired.getL t i (by simpa using h)

/-! ## a block's names -/
structure InEnv (g₀ : View) (s₀ : Shared) (env : Env) (own : List Addr) (gt : View) (ht : Heap) (m cm : Str → Option Value) (g : View) (s : Shared) : Prop where
  grow : Grow g₀ s₀ g s
  since : KB own ht s.heap
  leS : VLe gt g
  newS : ∀ b o, g b = some o → gt b = some o ∨ ht.get? b = none
  was : ∀ b o, s₀.heap.get? b = some o → ht.get? b = some o
  ns : s.heap.Ns env.locals m
  cell : ∀ n c, env.cells.lookup n = some c → s.heap.IsCell c (cm n)
  locIn : env.locals ∈ own
  fresh : ∀ a ∈ own, s₀.heap.get? a = none
  live : ∀ a ∈ own, ∃ o, s.heap.get? a = some o
  out : ∀ a ∈ own, g a = none
  sep : ∀ n c, env.cells.lookup n = some c → c ≠ env.locals
  apart : ∀ n n' c, env.cells.lookup n = some c → env.cells.lookup n' = some c → n = n'

section
variable {g₀ gt g g' : View} {s₀ s s' : Shared} {env : Env} {own : List Addr} {ht : Heap} {m cm : Str → Option Value}

theorem InEnv.rebase (x : InEnv g₀ s₀ env own gt ht m cm g s) : InEnv g₀ s₀ env own g s.heap m cm g s := { x with since := KB.refl _ _, leS := VLe.refl _, newS := fun _ _ e => .inl e, was := fun _ _ e => keeps_get x.grow.keeps e }
theorem InEnv.step (x : InEnv g₀ s₀ env own gt ht m cm g s) (a : Grow g s g' s') : InEnv g₀ s₀ env own gt ht m cm g' s' where
  grow := x.grow.trans a
  since := x.since.trans (KB.ofKeeps a.keeps)
  leS := x.leS.trans a.le
  newS := fun b o e => by
    rcases a.new b o e with h | h
    · exact x.newS b o h
    · by_cases hb : b ∈ own
      · obtain ⟨o', q⟩ := x.live b hb; rw [a.out q (x.out b hb)] at e; cases e
      · right
        cases hx : ht.get? b with
        | none => rfl
        | some o' => rw [x.since b o' hb hx] at h; cases h
  was := x.was
  ns := x.ns.keeps fun _ _ e => keeps_get a.keeps e
  cell := fun n c e => (x.cell n c e).keeps fun _ _ e => keeps_get a.keeps e
  locIn := x.locIn
  fresh := x.fresh
  live := fun b hb => let ⟨o, e⟩ := x.live b hb; ⟨o, keeps_get a.keeps e⟩
  out := fun b hb => let ⟨_, e⟩ := x.live b hb; a.out e (x.out b hb)
  sep := x.sep
  apart := x.apart
theorem InEnv.toks (x : InEnv g₀ s₀ env own gt ht m cm g s) (n : Nat) : InEnv g₀ s₀ env own gt ht m cm g { s with toks := n } :=
  x.step (Grow.ofKeeps x.grow.inn (keeps_toks n))
theorem InEnv.get (x : InEnv g₀ s₀ env own gt ht m cm g s) {b : Addr} {o : Obj} (h : b ∉ own) (e : ht.get? b = some o) : s.heap.get? b = some o := x.since b o h e


theorem keeps_but {s₀ s : Shared} {h' : Heap} {D : Addr} (tk : Nat) (k : Keeps s₀ s) (hs : Heap.SameBut D s.heap h') (hD : s₀.heap.get? D = none) : Keeps s₀ { s with heap := h', toks := tk } := by
  obtain ⟨h, t, rfl, kk⟩ := k
  refine ⟨h', tk, rfl, fun b o e => ?_⟩
  have : b ≠ D := by rintro rfl; rw [hD] at e; cases e
  exact (hs.2 b this).trans (kk b o e)

theorem sameBut_live {h h' : Heap} {D : Addr} (hs : Heap.SameBut D h h') {a : Addr} (hne : a ≠ D) : (∃ o, h.get? a = some o) → ∃ o, h'.get? a = some o := fun ⟨o, e⟩ => ⟨o, (hs.2 a hne).trans e⟩

/-- one object of the block's own is changed -/
theorem InEnv.mut (x : InEnv g₀ s₀ env own gt ht m cm g s) {D : Addr} {h' : Heap} (tk : Nat) (hs : Heap.SameBut D s.heap h') (hf : s₀.heap.get? D = none) (hg : g D = none)
    (hL : D ≠ env.locals) (hc : ∀ n c, env.cells.lookup n = some c → c ≠ D) (hlv : ∃ o, h'.get? D = some o) : InEnv g₀ s₀ env own g h' m cm g { s with heap := h', toks := tk } where
  grow := ⟨keeps_but tk x.grow.keeps hs hf, x.grow.le, fun b o e => (hs.2 b (by rintro rfl; rw [hg] at e; cases e)).trans (x.grow.inn b o e), x.grow.new⟩
  since := KB.refl _ _
  leS := VLe.refl _
  newS := fun _ _ e => .inl e
  was := fun b o e => (hs.2 b (by rintro rfl; rw [hf] at e; cases e)).trans (keeps_get x.grow.keeps e)
  ns := x.ns.sameBut hs (Ne.symm hL)
  cell := fun n c e => (x.cell n c e).sameBut hs (hc n c e)
  locIn := x.locIn
  fresh := x.fresh
  live := fun b hb => by
    by_cases h : b = D
    · subst h; exact hlv
    · exact sameBut_live hs h (x.live b hb)
  out := x.out
  sep := x.sep
  apart := x.apart

/-- objects apart from the block's names are changed -/
theorem InEnv.kb (x : InEnv g₀ s₀ env own gt ht m cm g s) {wr : List Addr} {h' : Heap} (tk : Nat) (hs : KB wr s.heap h') (hf : ∀ b ∈ wr, s₀.heap.get? b = none) (hg : ∀ b ∈ wr, g b = none)
    (ho : ∀ b ∈ wr, b ∉ own) (hc : ∀ n c, env.cells.lookup n = some c → c ∉ wr) : InEnv g₀ s₀ env own g h' m cm g { s with heap := h', toks := tk } where
  grow := ⟨by
      obtain ⟨h₁, t₁, rfl, k⟩ := x.grow.keeps
      exact ⟨h', tk, rfl, fun b o e => hs b o (fun q => by rw [hf b q] at e; cases e) (k b o e)⟩, x.grow.le,
    fun b o e => hs b o (fun q => by rw [hg b q] at e; cases e) (x.grow.inn b o e), x.grow.new⟩
  since := KB.refl _ _
  leS := VLe.refl _
  newS := fun _ _ e => .inl e
  was := fun b o e => hs b o (fun q => by rw [hf b q] at e; cases e) (keeps_get x.grow.keeps e)
  ns := x.ns.at' fun o e => hs _ o (fun q => ho _ q x.locIn) e
  cell := fun n c e => let ⟨o, ho', hd⟩ := x.cell n c e; ⟨o, hs _ o (hc n c e) ho', hd⟩
  locIn := x.locIn
  fresh := x.fresh
  live := fun b hb => let ⟨o, e⟩ := x.live b hb; ⟨o, hs b o (fun q => ho b q hb) e⟩
  out := x.out
  sep := x.sep
  apart := x.apart

theorem InEnv.setLocal (x : InEnv g₀ s₀ env own gt ht m cm g s) {h' : Heap} {m' : Str → Option Value} (tk : Nat) (hs : Heap.SameBut env.locals s.heap h') (hn : h'.Ns env.locals m') :
    InEnv g₀ s₀ env own gt ht m' cm g { s with heap := h', toks := tk } where
  grow := ⟨keeps_but tk x.grow.keeps hs (x.fresh _ x.locIn), x.grow.le, fun b o e => (hs.2 b (by rintro rfl; rw [x.out _ x.locIn] at e; cases e)).trans (x.grow.inn b o e), x.grow.new⟩
  since := fun b o n e => (hs.2 b (by rintro rfl; exact n x.locIn)).trans (x.since b o n e)
  leS := x.leS
  newS := x.newS
  was := x.was
  ns := hn
  cell := fun n c e => (x.cell n c e).sameBut hs (x.sep n c e)
  locIn := x.locIn
  fresh := x.fresh
  live := fun b hb => by
    by_cases h : b = env.locals
    · subst h; obtain ⟨o, _, _, ho, _⟩ := hn; exact ⟨o, ho⟩
    · exact sameBut_live hs h (x.live b hb)
  out := x.out
  sep := x.sep
  apart := x.apart

theorem InEnv.setCell (x : InEnv g₀ s₀ env own gt ht m cm g s) {h' : Heap} {n₀ : Str} {c₀ : Addr} {v : Value} (hl : env.cells.lookup n₀ = some c₀) (ho : c₀ ∈ own) (hs : Heap.SameBut c₀ s.heap h') (hn : h'.IsCell c₀ (some v)) :
    InEnv g₀ s₀ env own gt ht m (fun y => if y = n₀ then some v else cm y) g { s with heap := h' } where
  grow := ⟨keeps_but s.toks x.grow.keeps hs (x.fresh _ ho), x.grow.le, fun b o e => (hs.2 b (by rintro rfl; rw [x.out _ ho] at e; cases e)).trans (x.grow.inn b o e), x.grow.new⟩
  since := fun b o n e => (hs.2 b (by rintro rfl; exact n ho)).trans (x.since b o n e)
  leS := x.leS
  newS := x.newS
  was := x.was
  ns := x.ns.sameBut hs (Ne.symm (x.sep _ _ hl))
  cell := fun n c e => by
    by_cases h : n = n₀
    · subst h; rw [hl] at e; cases e; simpa using hn
    · rw [if_neg h]
      exact (x.cell n c e).sameBut hs fun q => h (x.apart n n₀ c e (q ▸ hl))
  locIn := x.locIn
  fresh := x.fresh
  live := fun b hb => by
    by_cases h : b = c₀
    · subst h; obtain ⟨o, ho, _⟩ := hn; exact ⟨o, ho⟩
    · exact sameBut_live hs h (x.live b hb)
  out := x.out
  sep := x.sep
  apart := x.apart
end

/-! ## evaluation that never raises -/
abbrev NoE : Value → Shared → Prop := fun _ _ => False

section
variable {prog : Program} {w : World} {A : Around}

theorem any_of_noE {α : Type} {M : Model} {t : Sem α} {Q : α → Shared → Prop} {E : Value → Shared → Prop} {s : Shared} (h : wpAny M A t Q NoE s) : wpAny M A t Q E s :=
  wpAny_mono h (fun _ _ q => q) fun _ _ f => f.elim

section
variable {g₀ gt g : View} {s₀ s : Shared} {env : Env} {own : List Addr} {ht : Heap} {m cm : Str → Option Value}

theorem ld_local {x : Str} {pos : Pos} {v : Value} {Q : Value → Shared → Prop} {E} (X : InEnv g₀ s₀ env own gt ht m cm g s) (hv : m x = some v) (h : Q v s)
    (hk : env.scope.kind = .function := by rfl) (hl : env.kindOf x = some .local := by rfl) (hd : (x == ("__debug__" : Str)) = false := by decide) :
    wpAny (model prog w) A (eval (.Name x pos) env) Q E s := wpAny_Name (wpAny_loadName_local hk hl X.ns hv h) hd
theorem ld_cell {x : Str} {pos : Pos} {c : Addr} {v : Value} {Q : Value → Shared → Prop} {E} (X : InEnv g₀ s₀ env own gt ht m cm g s) (hc : env.cells.lookup x = some c) (hv : cm x = some v) (h : Q v s)
    (hk : env.scope.kind = .function := by rfl) (hl : env.kindOf x = some .cell := by rfl) (hd : (x == ("__debug__" : Str)) = false := by decide) :
    wpAny (model prog w) A (eval (.Name x pos) env) Q E s := wpAny_Name (wpAny_loadName_cell hk hl hc (hv ▸ X.cell x c hc) h) hd
theorem st_local {x : Str} {v : Value} {Q : Unit → Shared → Prop} {E} (X : InEnv g₀ s₀ env own gt ht m cm g s)
    (h : ∀ s', InEnv g₀ s₀ env own gt ht (fun y => if y = x then some v else m y) cm g s' → KB [env.locals] s.heap s'.heap → Q () s')
    (hk : env.scope.kind = .function := by rfl) (hl : env.kindOf x = some .local := by rfl) :
    wpAny (model prog w) A (storeName env x v) Q E s :=
  wpAny_storeName_local hl X.ns (fun h' hn hs => h _ (X.setLocal _ hs hn) fun b o hb e => (hs.2 b (by simpa using hb)).trans e) (by rw [hk]; rfl)
theorem st_cell {x : Str} {c : Addr} {v : Value} {Q : Unit → Shared → Prop} {E} (X : InEnv g₀ s₀ env own gt ht m cm g s) (hc : env.cells.lookup x = some c) (ho : c ∈ own)
    (h : ∀ s', InEnv g₀ s₀ env own gt ht m (fun y => if y = x then some v else cm y) g s' → KB [c] s.heap s'.heap → Q () s')
    (hk : env.scope.kind = .function := by rfl) (hl : env.kindOf x = some .cell := by rfl) :
    wpAny (model prog w) A (storeName env x v) Q E s :=
  wpAny_storeName_cell hk hl hc (X.cell x c hc) fun h' hv hs => h _ (X.setCell hc ho hs hv) fun b o hb e => (hs.2 b (by simpa using hb)).trans e
end
end

end Mine
end

section
open PySem PySem.W PyProof.Rows
set_option maxRecDepth 100000
namespace Mine

section
variable {prog : Program} {w : World} {A : Around}

/-- a comprehension's loop, at any depth: its body merged into one tree -/
theorem compLoop_gen {elt : Expr} {gens : List Comprehension} {scope : Scope} {pos p : Pos} {depth : Nat} {it acc : Value} {env : Env} {target : Expr} {body : Sem Unit} {R : Result → Shared → Prop} {s : Shared}
    (heq : compTurn (.ListComp elt gens scope pos) depth it acc env = (standAt p >>= fun _ => pyNext it >>= fun r => match r with
      | none => pure (.done .next)
      | some v => letOwnedTupleGo target it v >>= fun _ => assign target env v >>= fun _ => body >>= fun _ => again (.compLoop (.ListComp elt gens scope pos) depth it acc env)))
    (I : Nat → Shared → Prop)
    (turn : ∀ n s, I n s → wpAny (model prog w) A (pyNext it) (fun r s₁ => match r with
      | none => R (.ok .next) s₁
      | some v => wpAny (model prog w) A (letOwnedTupleGo target it v) (fun _ s₁' => wpAny (model prog w) A (assign target env v) (fun _ s₂ =>
          wpAny (model prog w) A body (fun _ s₃ => ∃ m, m < n ∧ I m s₃) NoE s₂) NoE s₁') NoE s₁) NoE s)
    (n : Nat) (h : I n s) : codeAny (model prog w) A (.compLoop (.ListComp elt gens scope pos) depth it acc env) R s := by
  refine codeAny_loop rfl I (fun n s hI => ?_) n h
  show wpAny _ A ((compTurn (.ListComp elt gens scope pos) depth it acc env).onRaise (fun x => do noteFrame x env; theTreesLotGoes x)) _ _ s
  refine wpAny_onRaise (any_of_noE ?_)
  rw [heq]
  refine wpAny_bind (wpAny_standAt (wpAny_bind (wpAny_mono (turn n s hI) (fun r s₁ h₁ => ?_) fun _ _ h' => h')))
  cases r with
  | none => exact wpAny_pure h₁
  | some v =>
    exact wpAny_bind (wpAny_mono h₁ (fun _ s₁' h₁' => wpAny_bind (wpAny_mono h₁' (fun _ s₂ h₂ => wpAny_bind (wpAny_mono h₂ (fun _ s₃ h₃ => wpAny_pure ⟨rfl, h₃⟩) fun _ _ h' => h')) fun _ _ h' => h')) fun _ _ h' => h')

/-- what stands apart from the iterator's own is there behind -/
def FpKept (fp : List Addr) (s s' : Shared) : Prop := ∀ b ∈ fp, ∀ o, s.heap.get? b = some o → s'.heap.get? b = some o

theorem compLoop_turns {elt : Expr} {gens : List Comprehension} {scope : Scope} {pos p : Pos} {depth : Nat} {I : Addr} {acc : Value} {env : Env} {target : Expr} {body : Sem Unit} {R : Result → Shared → Prop} {s : Shared}
    {fp wr : List Addr} {n : Nat} {P Md : Nat → Value → Heap → Prop} {St : Nat → Heap → Prop} (W : KTurns prog w A target I fp wr n P Md St)
    (heq : compTurn (.ListComp elt gens scope pos) depth (.ref I) acc env = (standAt p >>= fun _ => pyNext (.ref I) >>= fun r => match r with
      | none => pure (.done .next)
      | some v => letOwnedTupleGo target (.ref I) v >>= fun _ => assign target env v >>= fun _ => body >>= fun _ => again (.compLoop (.ListComp elt gens scope pos) depth (.ref I) acc env)))
    (J : Nat → Shared → Prop) (hst : St 0 s.heap) (h0 : J 0 s)
    (Jwr : ∀ i s h' tk, J i s → KB wr s.heap h' → J i { s with heap := h', toks := tk })
    (step : ∀ i v s, i < n → J i s → P i v s.heap → St (i + 1) s.heap → wpAny (model prog w) A (assign target env v) (fun _ s₂ => wpAny (model prog w) A body (fun _ s₃ => J (i + 1) s₃ ∧ FpKept fp s s₃) NoE s₂) NoE s)
    (hR : ∀ s, J n s → R (.ok .next) s) : codeAny (model prog w) A (.compLoop (.ListComp elt gens scope pos) depth (.ref I) acc env) R s := by
  refine compLoop_gen heq (fun k s' => ∃ i, i ≤ n ∧ k = n + 1 - i ∧ St i s'.heap ∧ J i s') ?_ (n + 1) ⟨0, Nat.zero_le _, rfl, hst, h0⟩
  rintro k s' ⟨i, hi, rfl, hst', hJ⟩
  by_cases hlt : i < n
  · refine W.item i _ _ _ hlt hst' fun v h₁ tk₁ hMd hk₁ => ?_
    refine W.go i v _ _ _ hMd fun h₂ hP hst₂ hk₂ => ?_
    have hJ₂ := Jwr i s' h₂ tk₁ hJ fun b o hb e => hk₂ b o hb (hk₁ b o hb e)
    refine wpAny_mono (step i v _ hlt hJ₂ hP hst₂) (fun _ s₂ q => wpAny_mono q (fun _ s₃ q => ?_) fun _ _ f => f) fun _ _ f => f
    exact ⟨n + 1 - (i + 1), by omega, i + 1, hlt, rfl, W.frame _ _ _ hst₂ q.2, q.1⟩
  · have hin : i = n := by omega
    subst hin
    refine W.done _ _ _ hst' fun h₁ tk₁ hk₁ => ?_
    exact hR _ (Jwr i s' h₁ tk₁ hJ hk₁)

theorem for_turns {target : Expr} {body : List Stmt} {I : Addr} {env : Env} {R : Result → Shared → Prop} {s : Shared}
    {fp wr : List Addr} {n : Nat} {P Md : Nat → Value → Heap → Prop} {St : Nat → Heap → Prop} (W : KTurns prog w A target I fp wr n P Md St)
    (J : Nat → Shared → Prop) (hst : St 0 s.heap) (h0 : J 0 s)
    (Jwr : ∀ i s h' tk, J i s → KB wr s.heap h' → J i { s with heap := h', toks := tk })
    (step : ∀ i v s, i < n → J i s → P i v s.heap → St (i + 1) s.heap → wpAny (model prog w) A (assign target env v) (fun _ s₂ => wpAny (model prog w) A (execs body env) (fun f s₃ => f = .next ∧ J (i + 1) s₃ ∧ FpKept fp s s₃) NoE s₂) NoE s)
    (hR : ∀ s, J n s → R (.ok .next) s) : codeAny (model prog w) A (.forLoop target (.ref I) body [] env) R s := by
  refine codeAny_forLoop_any (fun k s' => ∃ i, i ≤ n ∧ k = n + 1 - i ∧ St i s'.heap ∧ J i s') ?_ (n + 1) ⟨0, Nat.zero_le _, rfl, hst, h0⟩
  rintro k s' ⟨i, hi, rfl, hst', hJ⟩
  by_cases hlt : i < n
  · refine W.item i _ _ _ hlt hst' fun v h₁ tk₁ hMd hk₁ => ?_
    refine W.go i v _ _ _ hMd fun h₂ hP hst₂ hk₂ => ?_
    have hJ₂ := Jwr i s' h₂ tk₁ hJ fun b o hb e => hk₂ b o hb (hk₁ b o hb e)
    refine wpAny_mono (step i v _ hlt hJ₂ hP hst₂) (fun _ s₂ q => wpAny_mono q (fun f s₃ q => ?_) fun _ _ f => f.elim) fun _ _ f => f.elim
    obtain ⟨rfl, q, hf⟩ := q
    exact ⟨n + 1 - (i + 1), by omega, i + 1, hlt, rfl, W.frame _ _ _ hst₂ hf, q⟩
  · have hin : i = n := by omega
    subst hin
    refine W.done _ _ _ hst' fun h₁ tk₁ hk₁ => wpAny_execs_nil ?_
    exact hR _ (Jwr i s' h₁ tk₁ hJ hk₁)

/-- what a loop's source gives -/
structure Src (prog : Program) (w : World) (A : Around) (target : Expr) (s₀ : Shared) (g : View) (it : Value) (n : Nat) (P : Nat → Value → Heap → Prop) (s : Shared) : Prop where
  ex : ∃ (I : Addr) (fp wr : List Addr) (Md : Nat → Value → Heap → Prop) (St : Nat → Heap → Prop), it = .ref I ∧ KTurns prog w A target I fp wr n P Md St ∧ St 0 s.heap ∧
    (∀ b ∈ wr, s₀.heap.get? b = none ∧ g b = none) ∧ (∀ b ∈ fp, ∃ o, s.heap.get? b = some o) ∧ (∀ b ∈ fp, s₀.heap.get? b = none ∨ ∃ o, g b = some o) ∧ (∀ i h, St i h → ∀ b ∈ wr, ∃ o, h.get? b = some o) ∧
    (∀ s' (Q : Value → Shared → Prop) (E : Value → Shared → Prop), St 0 s'.heap → Q (.ref I) s' → wpAny (model prog w) A (pyIter (.ref I)) Q E s')

theorem wpAny_compStart {elt : Expr} {gens : List Comprehension} {c : Comprehension} {scope : Scope} {pos : Pos} {depth : Nat} {it acc : Value} {env : Env} {R : Result → Shared → Prop} {s : Shared}
    (hc : gens[depth]? = some c) (ha : c.is_async = 0)
    (h0 : codeAny (model prog w) A (.compLoop (.ListComp elt gens scope pos) depth it acc env) R s)
    (h : wpAny (model prog w) A (pyIter it) (fun it' s' => codeAny (model prog w) A (.compLoop (.ListComp elt gens scope pos) depth it' acc env) R s') NoE s) :
    codeAny (model prog w) A (.compStart (.ListComp elt gens scope pos) depth it acc env) R s := by
  refine codeAny_of_tree ?_
  show wpAny _ A ((compStart (.ListComp elt gens scope pos) depth it acc env).onRaise (fun x => do noteFrame x env; standAt theWindowsPlace)) _ _ s
  refine wpAny_onRaise (any_of_noE ?_)
  unfold compStart
  simp only [clausesOf, hc, ha, Option.elim]
  show wpAny _ _ (ask >>= _) _ _ s
  refine wpAny_bind (wpAny_askSetting (wpAny_ite ?_))
  split
  · exact wpAny_pure (And.intro rfl h0)
  · exact wpAny_bind (wpAny_rule (wpAny_bind (wpAny_standAt (wpAny_bind (wpAny_mono h (fun it' s' h' => wpAny_pure (And.intro rfl h')) fun _ _ x => x)))))
end

end Mine
end

section
open PySem PySem.W PyProof.Rows
set_option maxRecDepth 100000
namespace Mine

section
variable {prog : Program} {w : World} {A : Around}

/-- behind a turn of a comprehension's loop -/
def StepEnd {β : Type} (R : Rp β) (g : View) (s : Shared) (cenv : Env) (own : List Addr) (D : Addr) (Pm : (Str → Option Value) → (Str → Option Value) → Prop) (g₁ : View) (h₁ : Heap) (ys : Array Value) (out : List β) (s₃ : Shared) : Prop :=
  ∃ m cm g₃ gt ht zs, InEnv g s cenv own gt ht m cm g₃ s₃ ∧ Pm m cm ∧ VLe g₁ g₃ ∧ (∀ b o, g₃ b = some o → g₁ b = some o ∨ h₁.get? b = none) ∧ KB (D :: own) h₁ s₃.heap ∧
    s₃.heap.PlainList D (ys ++ zs) ∧ Paired (R g₃) zs.toList out

def LoopInv {β : Type} (R : Rp β) (g : View) (s : Shared) (cenv : Env) (own : List Addr) (D : Addr) (wr : List Addr) (Pm : (Str → Option Value) → (Str → Option Value) → Prop) (gb : View) (hb : Heap) (y0 : Array Value) (res : List β) (s' : Shared) : Prop :=
  ∃ m cm g' gt ht ys, InEnv g s cenv own gt ht m cm g' s' ∧ s'.heap.PlainList D (y0 ++ ys) ∧ g' D = none ∧ Paired (R g') ys.toList res ∧ Pm m cm ∧ VLe gb g' ∧
    (∀ b o, g' b = some o → gb b = some o ∨ hb.get? b = none) ∧ KB (D :: (own ++ wr)) hb s'.heap

theorem Paired.len {α β : Type} {F : α → β → Prop} {l : List α} {m : List β} (p : Paired F l m) : l.length = m.length := p.length

theorem comp_loop_env {β : Type} {R : Rp β} (MR : Mono R) {g : View} {s : Shared} {cenv : Env} {own : List Addr} {D : Addr} {Pm : (Str → Option Value) → (Str → Option Value) → Prop}
    {elt : Expr} {gens : List Comprehension} {scope : Scope} {pos p : Pos} {depth : Nat} {I : Addr} {target : Expr} {body : Sem Unit} {RR : Result → Shared → Prop} {s₀ : Shared}
    {fp wr : List Addr} {n : Nat} {P Md : Nat → Value → Heap → Prop} {St : Nat → Heap → Prop} (W : KTurns prog w A target I fp wr n P Md St)
    (heq : compTurn (.ListComp elt gens scope pos) depth (.ref I) (.ref D) cenv = (standAt p >>= fun _ => pyNext (.ref I) >>= fun r => match r with
      | none => pure (.done .next)
      | some v => letOwnedTupleGo target (.ref I) v >>= fun _ => assign target cenv v >>= fun _ => body >>= fun _ => again (.compLoop (.ListComp elt gens scope pos) depth (.ref I) (.ref D) cenv)))
    (outs : Nat → List β) {m₀ cm₀ : Str → Option Value} {gt₀ g₀ : View} {ht₀ : Heap} {y0 : Array Value}
    (X : InEnv g s cenv own gt₀ ht₀ m₀ cm₀ g₀ s₀) (hPm : Pm m₀ cm₀) (hD : s₀.heap.PlainList D y0) (hDs : s.heap.get? D = none) (hDg : g₀ D = none) (hDo : D ∉ own) (hDf : D ∉ fp) (hDc : ∀ n c, cenv.cells.lookup n = some c → c ≠ D)
    (hst : St 0 s₀.heap) (hlv : ∀ i h, St i h → ∀ b ∈ wr, ∃ o, h.get? b = some o) (hwr : ∀ b ∈ wr, s.heap.get? b = none ∧ g₀ b = none) (hfp : ∀ b ∈ fp, (∃ o, s₀.heap.get? b = some o) ∧ b ∉ own) (hwc : ∀ n c, cenv.cells.lookup n = some c → c ∉ wr)
    {B : Nat} (hsz : ∀ i, i ≤ n → y0.size + ((List.range i).flatMap outs).length ≤ B)
    (step : ∀ i v s₁ m cm g₁ ys, i < n → InEnv g s cenv own g₁ s₁.heap m cm g₁ s₁ → Pm m cm → P i v s₁.heap → s₁.heap.PlainList D ys → g₁ D = none → ys.size ≤ B → VLe g₀ g₁ →
      wpAny (model prog w) A (assign target cenv v) (fun _ s₂ => wpAny (model prog w) A body (fun _ s₃ => StepEnd R g s cenv own D Pm g₁ s₁.heap ys (outs i) s₃) NoE s₂) NoE s₁)
    (hR : ∀ s', LoopInv R g s cenv own D wr Pm g₀ s₀.heap y0 ((List.range n).flatMap outs) s' → RR (.ok .next) s') :
    codeAny (model prog w) A (.compLoop (.ListComp elt gens scope pos) depth (.ref I) (.ref D) cenv) RR s₀ := by
  refine compLoop_turns W heq (fun i s' => i ≤ n ∧ LoopInv R g s cenv own D wr Pm g₀ s₀.heap y0 ((List.range i).flatMap outs) s') hst
    ⟨Nat.zero_le _, m₀, cm₀, g₀, gt₀, ht₀, #[], X, by simpa using hD, hDg, .nil, hPm, VLe.refl _, fun _ _ e => .inl e, KB.refl _ _⟩ ?_ ?_ ?_
  · rintro i s' h' tk ⟨hi, m, cm, g', gt, ht, ys, X', hl, hg, hp, hm, hle, hnew, hkb⟩ hk
    have hwo : ∀ b ∈ wr, b ∉ own := fun b hb => (hfp b (W.sub b hb)).2
    have hwg : ∀ b ∈ wr, g' b = none := fun b hb => by
      cases hx : g' b with
      | none => rfl
      | some o =>
        rcases hnew b o hx with h | h
        · rw [(hwr b hb).2] at h; cases h
        · obtain ⟨o', e⟩ := (hfp b (W.sub b hb)).1; rw [e] at h; cases h
    refine ⟨hi, m, cm, g', g', h', ys, X'.kb tk hk (fun b hb => (hwr b hb).1) hwg hwo hwc, hl.at fun o e => hk D o (fun q => hDf (W.sub _ q)) e, hg, hp, hm, hle, hnew, hkb.trans (hk.mono fun b hb => by simp [hb])⟩
  · rintro i v s₁ hlt ⟨hi, m, cm, g', gt, ht, ys, X', hl, hg, hp, hm, hle, hnew, hkb⟩ hP hSt
    have hys : (y0 ++ ys).size ≤ B := by
      have := hsz i (Nat.le_of_lt hlt)
      rw [← hp.length] at this
      simpa using this
    refine wpAny_mono (step i v s₁ m cm g' _ hlt X'.rebase hm hP hl hg hys hle) (fun _ s₂ q => wpAny_mono q (fun _ s₃ q => ?_) fun _ _ f => f) fun _ _ f => f
    obtain ⟨m', cm', g₃, gt', ht', zs, X₃, hm₃, hle₃, hnew₃, hkb₃, hl₃, hp₃⟩ := q
    have hD₁ : ∃ o, s₁.heap.get? D = some o := let ⟨k, e⟩ := hl; ⟨_, e⟩
    refine ⟨⟨hlt, m', cm', g₃, gt', ht', ys ++ zs, X₃, by simpa [Array.append_assoc] using hl₃, ?_, ?_, hm₃, hle.trans hle₃, ?_, hkb.trans (hkb₃.mono fun b hb => ?_)⟩, ?_⟩
    · cases hx : g₃ D with
      | none => rfl
      | some o =>
        rcases hnew₃ D o hx with h | h
        · rw [hg] at h; cases h
        · obtain ⟨o', e⟩ := hD₁; rw [e] at h; cases h
    · rw [List.range_succ, List.flatMap_append, Array.toList_append]
      exact Paired.append (Paired.mono' (fun _ _ q => MR _ _ _ _ hle₃ q) hp) (by simpa using hp₃)
    · intro b o e
      rcases hnew₃ b o e with h | h
      · exact hnew b o h
      · right
        cases hx : s₀.heap.get? b with
        | none => rfl
        | some o' =>
          by_cases hbD : b = D
          · subst hbD; obtain ⟨o'', e'⟩ := hD₁; rw [e'] at h; cases h
          · by_cases hbo : b ∈ own
            · obtain ⟨o'', e'⟩ := X'.live b hbo; rw [e'] at h; cases h
            · by_cases hbw : b ∈ wr
              · obtain ⟨o'', e'⟩ := hlv _ _ hSt b hbw; rw [e'] at h; cases h
              · rw [hkb b o' (by simp [hbD, hbo, hbw]) hx] at h; cases h
    · rcases List.mem_cons.mp hb with rfl | hb
      · exact List.mem_cons_self
      · exact List.mem_cons_of_mem _ (List.mem_append_left _ hb)
    · intro b hb o e
      exact hkb₃ b o (by
        intro q
        rcases List.mem_cons.mp q with rfl | q
        · exact hDf hb
        · exact (hfp b hb).2 q) e
  · rintro s' ⟨_, q⟩
    exact hR s' q
end

end Mine
end

section
open PySem PySem.W PyProof.Rows
set_option maxRecDepth 100000
namespace Mine

def emit (elt : Expr) (acc : Value) (env : Env) : Sem Unit := eval elt env >>= fun x => call (.builtin "list.append") [acc, x] >>= fun _ => pure ()
def tests (ifs : List Expr) (env : Env) : Sem Bool := forIn ifs true fun c r => if r = true then do let ok ← isTrue c env (eval c env); pure (ForInStep.yield ok) else pure (ForInStep.yield r)
def body1 (ifs : List Expr) (elt : Expr) (acc : Value) (env : Env) : Sem Unit := tests ifs env >>= fun ok => if ok = true then emit elt acc env else pure ()
def nest (e : Expr) (iter : Expr) (depth : Nat) (acc : Value) (env : Env) : Sem Unit :=
  eval iter env >>= fun x => standAt iter.pos >>= fun _ => foldedSetIterable iter env x >>= fun x => holding [x] (pyIter x) >>= fun it => runOwn (.compStart e depth it acc env) env >>= fun _ => pure ()

theorem heq_one (elt target iter : Expr) (ifs : List Expr) (scope : Scope) (pos : Pos) (I : Value) (acc : Value) (env : Env) :
    compTurn (.ListComp elt [⟨target, iter, ifs, 0⟩] scope pos) 0 I acc env = (standAt iter.pos >>= fun _ => pyNext I >>= fun r => match r with
      | none => pure (.done .next)
      | some v => letOwnedTupleGo target I v >>= fun _ => assign target env v >>= fun _ => body1 ifs elt acc env >>= fun _ => again (.compLoop (.ListComp elt [⟨target, iter, ifs, 0⟩] scope pos) 0 I acc env)) := by
  rw [compTurn_list]
  congr 1; funext _; congr 1; funext r
  cases r with
  | none => rfl
  | some v =>
    show (letOwnedTupleGo target I v >>= fun _ => _) = _
    congr 1; funext _
    congr 1; funext _
    simp only [body1, bind_assoc]
    show (tests ifs env >>= fun ok => _) = _
    congr 1; funext ok
    cases ok with
    | false => rfl
    | true => simp only [if_true]; unfold emit; simp only [bind_assoc]; try rfl

theorem heq_out (elt target iter t2 i2 : Expr) (ifs2 : List Expr) (scope : Scope) (pos : Pos) (I : Value) (acc : Value) (env : Env) :
    compTurn (.ListComp elt [⟨target, iter, [], 0⟩, ⟨t2, i2, ifs2, 0⟩] scope pos) 0 I acc env = (standAt iter.pos >>= fun _ => pyNext I >>= fun r => match r with
      | none => pure (.done .next)
      | some v => letOwnedTupleGo target I v >>= fun _ => assign target env v >>= fun _ => nest (.ListComp elt [⟨target, iter, [], 0⟩, ⟨t2, i2, ifs2, 0⟩] scope pos) i2 1 acc env >>= fun _ =>
          again (.compLoop (.ListComp elt [⟨target, iter, [], 0⟩, ⟨t2, i2, ifs2, 0⟩] scope pos) 0 I acc env)) := by
  show (standAt iter.pos >>= fun _ => pyNext I >>= fun r => _) = _
  congr 1; funext _; congr 1; funext r
  cases r with
  | none => rfl
  | some v =>
    show (letOwnedTupleGo target I v >>= fun _ => _) = _
    congr 1; funext _
    congr 1; funext _
    unfold nest; simp only [bind_assoc]; rfl

theorem heq_in (elt target iter t2 i2 : Expr) (ifs2 : List Expr) (scope : Scope) (pos : Pos) (I : Value) (acc : Value) (env : Env) :
    compTurn (.ListComp elt [⟨target, iter, [], 0⟩, ⟨t2, i2, ifs2, 0⟩] scope pos) 1 I acc env = (standAt i2.pos >>= fun _ => pyNext I >>= fun r => match r with
      | none => pure (.done .next)
      | some v => letOwnedTupleGo t2 I v >>= fun _ => assign t2 env v >>= fun _ => body1 ifs2 elt acc env >>= fun _ =>
          again (.compLoop (.ListComp elt [⟨target, iter, [], 0⟩, ⟨t2, i2, ifs2, 0⟩] scope pos) 1 I acc env)) := by
  show (standAt i2.pos >>= fun _ => pyNext I >>= fun r => _) = _
  congr 1; funext _; congr 1; funext r
  cases r with
  | none => rfl
  | some v =>
    show (letOwnedTupleGo t2 I v >>= fun _ => _) = _
    congr 1; funext _
    congr 1; funext _
    simp only [body1, bind_assoc]
    show (tests ifs2 env >>= fun ok => _) = _
    congr 1; funext ok
    cases ok with
    | false => rfl
    | true => simp only [if_true]; unfold emit; simp only [bind_assoc]; try rfl

section
variable {prog : Program} {w : World} {A : Around}

theorem tests_nil {env : Env} {Q : Bool → Shared → Prop} {E} {s : Shared} (h : Q true s) : wpAny (model prog w) A (tests [] env) Q E s := wpAny_pure h
theorem tests_one {env : Env} {c : Expr} {Q : Bool → Shared → Prop} {E} {s : Shared} (h : wpAny (model prog w) A (isTrue c env (eval c env)) Q E s) : wpAny (model prog w) A (tests [c] env) Q E s := wpAny_tests_one h

section
variable {β : Type} {R : Rp β} {g : View} {s : Shared} {cenv : Env} {own : List Addr} {D : Addr} {Pm : (Str → Option Value) → (Str → Option Value) → Prop} {g₁ : View} {h₁ : Heap} {ys : Array Value}

/-- one item is laid into the list -/
theorem body1_any {ifs : List Expr} {elt : Expr} {out : List β} {s₂ : Shared} (hDs : s.heap.get? D = none) (hDo : D ∉ own) (hDc : ∀ n c, cenv.cells.lookup n = some c → c ≠ D)
    (hl : h₁.PlainList D ys) (hDg : g₁ D = none) (hsz : ys.size ≤ 1000000)
    (h : wpAny (model prog w) A (tests ifs cenv) (fun ok s₃ => if ok = true then wpAny (model prog w) A (eval elt cenv) (fun y s₄ => ∃ m cm g₄ z, InEnv g s cenv own g₁ h₁ m cm g₄ s₄ ∧ Pm m cm ∧ R g₄ y z ∧ out = [z]) NoE s₃
      else ∃ m cm g₄, InEnv g s cenv own g₁ h₁ m cm g₄ s₃ ∧ Pm m cm ∧ out = []) NoE s₂) :
    wpAny (model prog w) A (body1 ifs elt (.ref D) cenv) (fun _ s₃ => StepEnd R g s cenv own D Pm g₁ h₁ ys out s₃) NoE s₂ := by
  unfold body1
  have gD : ∀ {m cm g₄ s₄}, InEnv g s cenv own g₁ h₁ m cm g₄ s₄ → g₄ D = none := fun {m cm g₄ s₄} X => by
    cases hx : g₄ D with
    | none => rfl
    | some o =>
      rcases X.newS D o hx with h | h
      · rw [hDg] at h; cases h
      · obtain ⟨n, e⟩ := hl; rw [e] at h; cases h
  refine wpAny_bind (wpAny_mono h (fun ok s₃ q => ?_) fun _ _ f => f)
  cases ok with
  | false =>
    obtain ⟨m, cm, g₄, X, hm, rfl⟩ := q
    exact wpAny_pure ⟨m, cm, g₄, g₁, h₁, #[], X, hm, X.leS, X.newS, X.since.mono fun b hb => List.mem_cons_of_mem _ hb, by simpa using hl.at fun o e => X.get hDo e, .nil⟩
  | true =>
    simp only [if_true] at q ⊢
    unfold emit
    refine wpAny_bind (wpAny_mono q (fun y s₄ q => ?_) fun _ _ f => f)
    obtain ⟨m, cm, g₄, z, X, hm, hr, rfl⟩ := q
    refine wpAny_bind (wpAny_list_append_plain (hl.at fun o e => X.get hDo e) (fun h' hl' hs' => wpAny_pure ?_) (Nat.le_trans hsz (by decide)))
    have hlive : ∃ o, h'.get? D = some o := let ⟨n, e⟩ := hl'; ⟨_, e⟩
    refine ⟨m, cm, g₄, _, _, #[y], X.mut s₄.toks hs' hDs (gD X) (fun e => hDo (e ▸ X.locIn)) hDc hlive, hm, X.leS, X.newS, ?_, ?_, .cons hr .nil⟩
    · intro b o hb e
      have hb1 : b ≠ D := fun q => hb (q ▸ List.mem_cons_self)
      exact (hs'.2 b hb1).trans (X.since b o (fun q => hb (List.mem_cons_of_mem _ q)) e)
    · rw [← Array.push_eq_append]; exact hl'
end

theorem lookup_none_ok {env : Env} : ∀ n c, ([] : List (Str × Addr)).lookup n = some c → c ≠ env.locals := fun _ _ e => by cases e

/-- the comprehension's own block, no name of it seen from within -/
theorem comp_block {g g₂ : View} {s s₂ : Shared} {env : Env} {scope : Scope} {cl : List (Str × Addr)} {cm : Str → Option Value} {K : Value → Env → Shared → Prop}
    (G : Grow g s g₂ s₂) (hcell : ∀ x ∈ scope.names, x.2 ≠ .cell) (hk : scope.kind = .function)
    (hcap : ∀ n c, cl.lookup n = some c → s.heap.IsCell c (cm n)) (hap : ∀ n n' c, cl.lookup n = some c → cl.lookup n' = some c → n = n')
    (h : ∀ D C s₄, InEnv g s (compEnvC scope cl C env) [C] g₂ s₄.heap (fun _ => none) cm g₂ s₄ → s₄.heap.PlainList D #[] → s.heap.get? D = none → g₂ D = none → D ≠ C → s₂.heap.get? D = none → s₂.heap.get? C = none → Keeps s₂ s₄ → s₂.heap.objs.size ≤ C →
      K (.ref D) (newEnv scope C env.globals cl env.qual none .none (some env) builtinsNs) s₄) :
    wpAny (model prog w) A (newList []) (fun acc s₃ => wpAny (model prog w) A (newFunctionEnv scope env.globals cl [] env.qual none .none (some env)) (fun cenv s₄ => K acc cenv s₄) NoE s₃) NoE s₂ := by
  refine wpAny_newList ?_ (by decide)
  refine wpAny_newFunctionEnv hcell (by intro y hy; simp at hy) (fun h₁ hns₁ hsb₁ => ?_) hk
  dsimp only at hns₁ hsb₁ ⊢
  have hsz : (s₂.heap.push { cls := .type "list", data := .seq ([] : List Value).toArray }).objs.size = s₂.heap.objs.size + 1 := Heap.size_push ..
  have none2 : ∀ a, s₂.heap.objs.size ≤ a → s₂.heap.get? a = none := fun a ha => by
    cases e : s₂.heap.get? a with
    | none => rfl
    | some o' => exact absurd (Heap.lt_size e) (Nat.not_lt.mpr ha)
  have none1 : ∀ a, s₂.heap.get? a = none → s.heap.get? a = none := fun a ha => by
    cases e : s.heap.get? a with
    | none => rfl
    | some o' => rw [keeps_get G.keeps e] at ha; cases ha
  have g2 : ∀ a, s₂.heap.get? a = none → g₂ a = none := fun a ha => by
    cases e : g₂ a with
    | none => rfl
    | some o' => rw [G.inn _ _ e] at ha; cases ha
  rw [hsz] at hns₁ hsb₁ ⊢
  have hCn : s₂.heap.get? (s₂.heap.objs.size + 1) = none := none2 _ (Nat.le_succ _)
  have hDn : s₂.heap.get? s₂.heap.objs.size = none := none2 _ (Nat.le_refl _)
  have old : ∀ b o, s₂.heap.get? b = some o → h₁.get? b = some o := fun b o e => by
    have hb := Heap.lt_size e
    exact (hsb₁.2 b (Nat.ne_of_lt (Nat.lt_succ_of_lt hb))).trans (Heap.get?_push_of_some _ (Heap.get?_push_of_some _ e))
  have K2 : Keeps s₂ { s₂ with heap := h₁, toks := s₂.toks + ([] : List (Str × Value)).length } := ⟨_, _, rfl, old⟩
  refine h _ _ _ ?_ ⟨0, (hsb₁.2 _ (Nat.ne_of_lt (Nat.lt_succ_self _))).trans (Heap.get?_push_of_some _ (Heap.get?_push_size _ rfl))⟩ (none1 _ hDn) (g2 _ hDn) (Nat.ne_of_lt (Nat.lt_succ_self _)) hDn hCn K2 (Nat.le_succ _)
  exact {
    grow := G.trans (Grow.ofKeeps G.inn K2)
    since := KB.refl _ _
    leS := VLe.refl _
    newS := fun _ _ e => .inl e
    was := fun b o e => old b o (keeps_get G.keeps e)
    ns := by
      have e : (fun x => ([] : List (Str × Value)).reverse.lookup x) = fun _ => none := by funext x; rfl
      rw [e] at hns₁; exact hns₁
    cell := fun n c e => (hcap n c e).keeps fun b o q => old b o (keeps_get G.keeps q)
    locIn := List.mem_cons_self
    fresh := fun a ha => by
      rcases List.mem_cons.mp ha with rfl | ha
      · exact none1 _ hCn
      · cases ha
    live := fun a ha => by
      rcases List.mem_cons.mp ha with rfl | ha
      · obtain ⟨o, _, _, ho, _⟩ := hns₁; exact ⟨o, ho⟩
      · cases ha
    out := fun a ha => by
      rcases List.mem_cons.mp ha with rfl | ha
      · exact g2 _ hCn
      · cases ha
    sep := fun n c e q => by
      obtain ⟨o, ho, _⟩ := hcap n c e
      have := keeps_get G.keeps ho
      rw [q] at this
      change s₂.heap.get? (s₂.heap.objs.size + 1) = some o at this
      rw [hCn] at this; cases this
    apart := hap }
end

end Mine
end

section
open PySem PySem.W PyProof.Rows
set_option maxRecDepth 100000
namespace Mine

theorem InEnv.kbFresh {g₀ gt g : View} {s₀ s : Shared} {env : Env} {own : List Addr} {ht : Heap} {m cm : Str → Option Value} (x : InEnv g₀ s₀ env own gt ht m cm g s) {wr : List Addr} {h' : Heap} (tk : Nat) (hs : KB wr s.heap h')
    (hf : ∀ b ∈ wr, s₀.heap.get? b = none) (hg : ∀ b ∈ wr, g b = none) (ho : ∀ b ∈ wr, b ∉ own) (hc : ∀ n c, env.cells.lookup n = some c → c ∉ wr) (ht' : ∀ b ∈ wr, ht.get? b = none) :
    InEnv g₀ s₀ env own gt ht m cm g { s with heap := h', toks := tk } :=
  { x.kb tk hs hf hg ho hc with
    since := fun b o n e => hs b o (fun q => by rw [ht' b q] at e; cases e) (x.since b o n e)
    leS := x.leS
    newS := x.newS
    was := x.was }

theorem kb_sameBut {a : Addr} {h h' : Heap} (x : Heap.SameBut a h h') : KB [a] h h' := fun b _ hb e => (x.2 b (by simpa using hb)).trans e

/-- a list of its own is handed on: it stands for good -/
def addv (g : View) (D : Addr) (o : Obj) : View := fun b => if b = D then some o else g b
theorem addv_self (g : View) (D : Addr) (o : Obj) : addv g D o D = some o := by simp [addv]
theorem addv_le {g : View} {D : Addr} (o : Obj) (h : g D = none) : VLe g (addv g D o) := fun b o' e => by
  unfold addv
  by_cases hb : b = D
  · subst hb; rw [h] at e; cases e
  · rw [if_neg hb]; exact e
theorem addv_in {g : View} {D : Addr} {o : Obj} {h : Heap} (hg : VIn g h) (e : h.get? D = some o) : VIn (addv g D o) h := fun b o' q => by
  unfold addv at q
  by_cases hb : b = D
  · subst hb; rw [if_pos rfl] at q; rw [← q]; exact e
  · rw [if_neg hb] at q; exact hg b o' q

theorem Grow.add {g g' : View} {s s' : Shared} {D : Addr} {o : Obj} (G : Grow g s g' s') (e : s'.heap.get? D = some o) (hs : s.heap.get? D = none) : Grow g s (addv g' D o) s' := by
  refine ⟨G.keeps, fun b o' q => ?_, addv_in G.inn e, fun b o' q => ?_⟩
  · unfold addv
    by_cases hb : b = D
    · subst hb
      have h1 := G.inn b o' (G.le b o' q)
      rw [e] at h1; rw [if_pos rfl]; exact h1
    · rw [if_neg hb]; exact G.le b o' q
  · unfold addv at q
    by_cases hb : b = D
    · subst hb; exact .inr hs
    · rw [if_neg hb] at q; exact G.new b o' q

section
variable {prog : Program} {w : World} {A : Around} {β : Type} {R : Rp β}

theorem rlist_of {g : View} {D : Addr} {ys : Array Value} {n : Nat} {xs : List β} (MR : Mono R) (hD : g D = none) (hp : Paired (R g) ys.toList xs) : RList R (addv g D { cls := .type "list", data := .seq ys n }) (.ref D) xs :=
  ⟨D, ys.toList, n, rfl, by rw [addv_self, Array.toArray_toList], Paired.mono' (fun _ _ q => MR _ _ _ _ (addv_le _ hD) q) hp⟩

/-- one turn of a comprehension with one for -/
def Turn1 (prog : Program) (w : World) (A : Around) (R : Rp β) (g : View) (s : Shared) (cenv : Env) (own : List Addr) (target elt : Expr) (ifs : List Expr) (Pm : (Str → Option Value) → (Str → Option Value) → Prop) (outs : Nat → List β) (g₂ : View) (n : Nat) (P : Nat → Value → Heap → Prop) : Prop :=
  ∀ i v s₁ m cm g₁, i < n → InEnv g s cenv own g₁ s₁.heap m cm g₁ s₁ → Pm m cm → P i v s₁.heap → VLe g₂ g₁ →
    wpAny (model prog w) A (assign target cenv v) (fun _ s₂ => wpAny (model prog w) A (tests ifs cenv) (fun ok s₃ =>
      if ok = true then wpAny (model prog w) A (eval elt cenv) (fun y s₄ => ∃ m cm g₄ z, InEnv g s cenv own g₁ s₁.heap m cm g₄ s₄ ∧ Pm m cm ∧ R g₄ y z ∧ outs i = [z]) NoE s₃
      else ∃ m cm g₄, InEnv g s cenv own g₁ s₁.heap m cm g₄ s₃ ∧ Pm m cm ∧ outs i = []) NoE s₂) NoE s₁

/-- the block of a comprehension with one for, run to its end -/
theorem comp1_core {elt target iter : Expr} {ifs : List Expr} {scope : Scope} {pos : Pos} {env : Env} {cl : List (Str × Addr)} {cm : Str → Option Value} {g g₂ : View} {s s₂ : Shared} {n : Nat} {P : Nat → Value → Heap → Prop} {it : Value}
    {RR : Value → Addr → Result → Shared → Prop} (MR : Mono R) (outs : Nat → List β)
    (hcell : ∀ x ∈ scope.names, x.2 ≠ .cell) (hk : scope.kind = .function)
    (hcap : ∀ n c, cl.lookup n = some c → s.heap.IsCell c (cm n)) (hap : ∀ n n' c, cl.lookup n = some c → cl.lookup n' = some c → n = n')
    (G : Grow g s g₂ s₂) (S : Src prog w A target s g₂ it n P s₂) (hsz : ∀ i, i ≤ n → ((List.range i).flatMap outs).length ≤ 1000000)
    (turn : ∀ C, s₂.heap.get? C = none → Turn1 prog w A R g s (compEnvC scope cl C env) [C] target elt ifs (fun _ c => c = cm) outs g₂ n P)
    (hRR : ∀ D C m g' s' ys k, InEnv g s (compEnvC scope cl C env) [C] g s.heap m cm g' s' → s'.heap.get? D = some { cls := .type "list", data := .seq ys k } → s.heap.get? D = none → g' D = none → D ≠ C → s₂.heap.get? D = none → s₂.heap.get? C = none → Paired (R g') ys.toList ((List.range n).flatMap outs) → RR (.ref D) C (.ok .next) s') :
    wpAny (model prog w) A (newList []) (fun acc s₃ => wpAny (model prog w) A (newFunctionEnv scope env.globals cl [] env.qual none .none (some env)) (fun cenv s₄ =>
      codeAny (model prog w) A (.compStart (.ListComp elt [⟨target, iter, ifs, 0⟩] scope pos) 0 it acc { cenv with scope := relabel scope env }) (RR acc cenv.locals) s₄) NoE s₃) NoE s₂ := by
  obtain ⟨I, fp, wr, Md, St, rfl, W, hst, hwr, hfp, _, hlv, hself⟩ := S.ex
  refine comp_block (cm := cm) G hcell hk hcap hap fun D C s₄ X hl hDs hDg hDC hD2 hC2 K2 hsz2 => ?_
  show codeAny _ _ (.compStart _ 0 (.ref I) (.ref D) (compEnvC scope cl C env)) (RR (.ref D) C) s₄
  have hst₄ : St 0 s₄.heap := W.frame _ _ _ hst fun b _ o e => keeps_get K2 e
  have loop : codeAny (model prog w) A (.compLoop (.ListComp elt [⟨target, iter, ifs, 0⟩] scope pos) 0 (.ref I) (.ref D) (compEnvC scope cl C env)) (RR (.ref D) C) s₄ := by
    have apartF : ∀ b ∈ fp, b ≠ D ∧ b ≠ C := fun b hb => by
      obtain ⟨o, e⟩ := hfp b hb
      exact ⟨fun q => (by rw [q, hD2] at e; cases e), fun q => (by rw [q, hC2] at e; cases e)⟩
    have capD : ∀ n c, (compEnvC scope cl C env).cells.lookup n = some c → c ≠ D := fun n c e => by
      obtain ⟨o, ho, _⟩ := hcap n c e
      exact fun q => by rw [q, hDs] at ho; cases ho
    refine comp_loop_env (B := 1000000) MR (Pm := fun _ c => c = cm) W (heq_one ..) outs (y0 := #[]) X rfl hl hDs hDg (by simpa using hDC) (fun q => (apartF D q).1 rfl) capD hst₄ hlv (fun b hb => hwr b hb)
      (fun b hb => ⟨let ⟨o, e⟩ := hfp b hb; ⟨o, keeps_get K2 e⟩, by simpa using (apartF b hb).2⟩) (fun n c e q => ?_) (fun i hi => by simpa using hsz i hi) ?_ ?_
    · obtain ⟨o, ho, _⟩ := hcap n c e
      rw [(hwr c q).1] at ho; cases ho
    · intro i v s₁ m cm' g₁ ys hlt X₁ hm hP hl₁ hg₁ hys hle
      refine wpAny_mono (turn C hC2 i v s₁ m cm' g₁ hlt X₁ hm hP hle) (fun _ s₂' q => ?_) fun _ _ f => f
      exact body1_any hDs (by simpa using hDC) capD hl₁ hg₁ hys q
    · rintro s' ⟨m, cm', g', gt, ht, ys, X', hl', hg', hp, rfl, hle, hnew, hkb⟩
      obtain ⟨k, hk'⟩ := hl'
      simp only [Array.empty_append] at hk'
      refine hRR D C m g' s' ys k ?_ hk' hDs hg' hDC hD2 hC2 hp
      exact { X' with since := fun b o _ e => keeps_get X'.grow.keeps e, leS := X'.grow.le, newS := X'.grow.new, was := fun _ _ e => e }
  exact wpAny_compStart rfl rfl loop (hself _ _ _ hst₄ loop)
end

end Mine
end

section
open PySem PySem.W PyProof.Rows
set_option maxRecDepth 100000
namespace Mine

section
variable {prog : Program} {w : World} {A : Around} {β : Type} {R : Rp β}

/-- the source of a comprehension and its turns -/
def Comp1 (prog : Program) (w : World) (A : Around) (R : Rp β) (g : View) (s : Shared) (env : Env) (scope : Scope) (cl : List (Str × Addr)) (cm : Str → Option Value) (target elt : Expr) (ifs : List Expr) (outs : Nat → List β) (n : Nat) (it : Value) (s₂ : Shared) : Prop :=
  ∃ g₂ P, Grow g s g₂ s₂ ∧ Src prog w A target s g₂ it n P s₂ ∧ ∀ C, s₂.heap.get? C = none → Turn1 prog w A R g s (compEnvC scope cl C env) [C] target elt ifs (fun _ c => c = cm) outs g₂ n P

theorem ev_comp1 {elt target iter : Expr} {ifs : List Expr} {scope : Scope} {pos : Pos} {env : Env} {cl : List (Str × Addr)} {cm : Str → Option Value} {g : View} {s : Shared} {n : Nat} {Q : Value → Shared → Prop} (MR : Mono R) (outs : Nat → List β)
    (hclos : closureFor scope env = pure cl) (hcell : ∀ x ∈ scope.names, x.2 ≠ .cell) (hk : scope.kind = .function) (hnames : ∀ x ∈ scope.names, x.2 = .local → scope.names.lookup x.1 = some .local)
    (hcap : ∀ n c, cl.lookup n = some c → s.heap.IsCell c (cm n)) (hap : ∀ n n' c, cl.lookup n = some c → cl.lookup n' = some c → n = n') (hsz : ∀ i, i ≤ n → ((List.range i).flatMap outs).length ≤ 1000000)
    (h : wpAny (model prog w) A (eval iter env) (fun xv s₁ => wpAny (model prog w) A (pyIter xv) (fun it s₂ => Comp1 prog w A R g s env scope cl cm target elt ifs outs n it s₂) NoE s₁) NoE s)
    (hQ : ∀ v g' s', Grow g s g' s' → RList R g' v ((List.range n).flatMap outs) → Q v s')
    (hs : ∀ x, foldedSetIterable iter env x = pure x := by intro _; rfl) :
    wpAny (model prog w) A (eval (.ListComp elt [⟨target, iter, ifs, 0⟩] scope pos) env) Q NoE s := by
  rw [eval_ListComp]
  refine wpAny_comprehension_free (use := none) rfl hs hclos hk hnames (wpAny_mono h (fun xv s₁ h₁ => wpAny_mono h₁ (fun it s₂ h₂ => ?_) fun _ _ e => e) fun _ _ e => e)
  obtain ⟨g₂, P, G, S, turn⟩ := h₂
  refine comp1_core (RR := fun acc C => compPost (model prog w) A NoE none Q acc C) MR outs hcell hk hcap hap G S hsz turn ?_
  intro D C m g' s' ys k X hD hDs hg hDC _ _ hp
  refine ⟨m, X.ns, fun h' hs' => hQ _ (addv g' D { cls := .type "list", data := .seq ys k }) _ ?_ (rlist_of MR hg hp)⟩
  have hD' : h'.get? D = some { cls := .type "list", data := .seq ys k } := (hs'.2 D hDC).trans hD
  refine Grow.add ⟨keeps_but s'.toks X.grow.keeps hs' (X.fresh C List.mem_cons_self), X.grow.le, fun b o e => ?_, X.grow.new⟩ hD' hDs
  exact (hs'.2 b (fun q => by rw [q, X.out C List.mem_cons_self] at e; cases e)).trans (X.grow.inn b o e)

theorem st_comp1 {elt target iter : Expr} {ifs : List Expr} {scope : Scope} {pos py spos : Pos} {y : Str} {env : Env} {own : List Addr} {gt : View} {ht : Heap} {m₀ cm₀ : Str → Option Value} {cl : List (Str × Addr)} {cm : Str → Option Value} {g₀ g : View} {s₀ s : Shared} {n : Nat} {Q : Flow → Shared → Prop} (MR : Mono R) (outs : Nat → List β)
    (X₀ : InEnv g₀ s₀ env own gt ht m₀ cm₀ g s)
    (hsw : swapsWith (.ListComp elt [⟨target, iter, ifs, 0⟩] scope pos) (some (.Name y py)) spos.line env = pure true)
    (hclos : closureFor scope env = pure cl) (hcell : ∀ x ∈ scope.names, x.2 ≠ .cell) (hk : scope.kind = .function) (hnames : ∀ x ∈ scope.names, x.2 = .local → scope.names.lookup x.1 = some .local)
    (hcap : ∀ n c, cl.lookup n = some c → s.heap.IsCell c (cm n)) (hap : ∀ n n' c, cl.lookup n = some c → cl.lookup n' = some c → n = n') (hsz : ∀ i, i ≤ n → ((List.range i).flatMap outs).length ≤ 1000000)
    (h : wpAny (model prog w) A (eval iter env) (fun xv s₁ => wpAny (model prog w) A (pyIter xv) (fun it s₂ => Comp1 prog w A R g s env scope cl cm target elt ifs outs n it s₂) NoE s₁) NoE s)
    (hQ : ∀ v g' s', InEnv g₀ s₀ env own gt ht (fun z => if z = y then some v else m₀ z) cm₀ g' s' → VLe g g' → KB [env.locals] s.heap s'.heap → RList R g' v ((List.range n).flatMap outs) → Q .next s')
    (hek : env.scope.kind = .function := by rfl) (hl : env.kindOf y = some .local := by rfl)
    (hs : ∀ x, foldedSetIterable iter env x = pure x := by intro _; rfl) :
    wpAny (model prog w) A (exec (.Assign [.Name y py] (.ListComp elt [⟨target, iter, ifs, 0⟩] scope pos) spos) env) Q NoE s := by
  rw [exec_Assign_Name_used _ _ _ _ hsw]
  refine wpAny_bind (wpAny_standAt (wpAny_bind ?_))
  show wpAny _ A (do let _ ← comprehension (.ListComp elt [⟨target, iter, ifs, 0⟩] scope pos) scope env _ (newList []) false (eval iter env) (some (assign (.Name y py) env))) _ _ s
  refine wpAny_bind (wpAny_mono (wpAny_comprehension_free (use := some (assign (.Name y py) env)) (Q := fun _ s' => Q .next s') rfl hs hclos hk hnames
    (wpAny_mono h (fun xv s₁ h₁ => wpAny_mono h₁ (fun it s₂ h₂ => ?_) fun _ _ e => e) fun _ _ e => e)) (fun _ s' hq => wpAny_pure (wpAny_pure hq)) fun _ _ e => e)
  obtain ⟨g₂, P, G, S, turn⟩ := h₂
  refine comp1_core (RR := fun acc C => compPost (model prog w) A NoE (some (assign (.Name y py) env)) (fun _ s' => Q .next s') acc C) MR outs hcell hk hcap hap G S hsz turn ?_
  intro D C m g' s' ys k X hD hDs hg hDC hD2 hC2 hp
  have GD : Grow g s (addv g' D { cls := .type "list", data := .seq ys k }) s' := X.grow.add hD hDs
  have X₁ := X₀.step GD
  have hCs : s.heap.get? C = none := X.fresh C List.mem_cons_self
  have hCL : env.locals ≠ C := fun q => by obtain ⟨o, e⟩ := X₀.live _ X₀.locIn; rw [q, hCs] at e; cases e
  show wpAny _ A (assign (.Name y py) env (.ref D)) _ _ _
  refine wpAny_assign_Name (st_local X₁ (fun s₃ X₃ hkb => ?_) hek hl)
  refine ⟨m, X.ns.at' fun o e => hkb C o (by simpa using Ne.symm hCL) e, fun h' hs' => ?_⟩
  show Q Flow.next { s₃ with heap := h' }
  refine hQ (.ref D) _ _ (X₃.kbFresh s₃.toks (kb_sameBut hs') ?_ ?_ ?_ ?_ ?_) GD.le (fun b o hb e => (hs'.2 b (fun q => by rw [q, hCs] at e; cases e)).trans (hkb b o hb (keeps_get GD.keeps e))) (rlist_of MR hg hp)
  · intro b hb; rw [List.mem_singleton] at hb; subst hb
    cases hx : s₀.heap.get? b with
    | none => rfl
    | some o => rw [keeps_get X₀.grow.keeps hx] at hCs; cases hCs
  · intro b hb; rw [List.mem_singleton] at hb; subst hb
    simp [addv, Ne.symm hDC, X.out b List.mem_cons_self]
  · intro b hb q; rw [List.mem_singleton] at hb; subst hb
    obtain ⟨o, e⟩ := X₀.live _ q; rw [hCs] at e; cases e
  · intro n c e q; rw [List.mem_singleton] at q; subst q
    obtain ⟨o, e', _⟩ := X₀.cell _ _ e; rw [hCs] at e'; cases e'
  · intro b hb; rw [List.mem_singleton] at hb; subst hb
    cases hx : ht.get? b with
    | none => rfl
    | some o =>
      have hbo : b ∉ own := fun q => by obtain ⟨o, e⟩ := X₀.live _ q; rw [hCs] at e; cases e
      rw [X₀.since b o hbo hx] at hCs; cases hCs
end

end Mine
end

section
open PySem PySem.W PyProof.Rows PySem.Calls
set_option maxRecDepth 100000
namespace Mine

section
variable {prog : Program} {w : World} {A : Around}

theorem none_of_size {h : Heap} : h.get? h.objs.size = none := by
  cases e : h.get? h.objs.size with
  | none => rfl
  | some o' => exact absurd (Heap.lt_size e) (Nat.lt_irrefl _)
theorem none_of_le {h : Heap} {a : Addr} (ha : h.objs.size ≤ a) : h.get? a = none := by
  cases e : h.get? a with
  | none => rfl
  | some o' => exact absurd (Heap.lt_size e) (Nat.not_lt.mpr ha)
theorem Grow.none₀ {g g' : View} {s s' : Shared} (G : Grow g s g' s') {b : Addr} (h : s'.heap.get? b = none) : s.heap.get? b = none ∧ g' b = none := by
  constructor
  · cases e : s.heap.get? b with
    | none => rfl
    | some o => rw [keeps_get G.keeps e] at h; cases h
  · cases e : g' b with
    | none => rfl
    | some o => rw [G.inn _ _ e] at h; cases h
theorem Grow.push {g g' : View} {s s' : Shared} (G : Grow g s g' s') (o : Obj) (n : Nat) : Grow g s g' { s' with heap := s'.heap.push o, toks := n } := G.trans (Grow.ofKeeps G.inn (keeps_push o n))

theorem KTurns.weaken {target : Expr} {I : Addr} {fp wr : List Addr} {n : Nat} {P P' Md : Nat → Value → Heap → Prop} {St : Nat → Heap → Prop} (W : KTurns prog w A target I fp wr n P Md St) (h : ∀ i v h, i < n → P i v h → P' i v h)
    (hi : ∀ i v h, Md i v h → i < n) : KTurns prog w A target I fp wr n P' Md St where
  sub := W.sub
  frame := W.frame
  item := W.item
  go := fun i v s Q E hm hQ => W.go i v s Q E hm fun h' hP => hQ h' (h i v h' (hi _ _ _ hm) hP)
  done := W.done
theorem KTurns.weaken' {target : Expr} {I : Addr} {fp wr : List Addr} {n : Nat} {P P' Md : Nat → Value → Heap → Prop} {St : Nat → Heap → Prop} (W : KTurns prog w A target I fp wr n P Md St) (h : ∀ i v h, P i v h → P' i v h) : KTurns prog w A target I fp wr n P' Md St where
  sub := W.sub
  frame := W.frame
  item := W.item
  go := fun i v s Q E hm hQ => W.go i v s Q E hm fun h' hP => hQ h' (h i v h' hP)
  done := W.done

variable {g g₁ : View} {s s₁ : Shared}

/-- a list that stands in the view -/
theorem src_list0 {α : Type} {R : Rp α} {xs : List α} {v : Value} (hh : A.handled = none) (G : Grow g s g₁ s₁) (hv : RList R g₁ v xs) :
    wpAny (model prog w) A (pyIter v) (fun it s₂ => Grow g s g₁ s₂ ∧ ∀ target, Src prog w A target s g₁ it xs.length (fun i u _ => ∃ x, xs[i]? = some x ∧ R g₁ u x) s₂) NoE s₁ := by
  obtain ⟨a, vs, n, rfl, hl, hp⟩ := hv
  have hL : s₁.heap.IsList a vs.toArray := ⟨_, G.inn _ _ hl, rfl, n, rfl⟩
  have hne : a ≠ s₁.heap.objs.size := Nat.ne_of_lt (Heap.lt_size (G.inn _ _ hl))
  refine wpAny_pyIter_list hL ?_
  have h0 := G.none₀ none_of_size
  have W0 := fun target => KTurns.ofWalks (target := target) (Walks.list (prog := prog) (w := w) hh s₁.heap.objs.size a hne vs.toArray) fun i v s Q E st q => letGo_listiter st.1 q
  rw [show vs.toArray.size = xs.length by rw [List.size_toArray]; exact hp.length] at W0
  refine ⟨G.push _ _, fun target => ⟨s₁.heap.objs.size, [s₁.heap.objs.size, a], [s₁.heap.objs.size], _, _, rfl,
    KTurns.weaken' (W0 target) ?_,
    ⟨⟨_, Heap.get?_push_size _ rfl, rfl, rfl⟩, hL.at fun o e => Heap.get?_push_of_some _ e⟩, ?_, ?_, ?_, ?_, ?_⟩⟩
  · intro i u h e
    exact Mine.Paired.getL hp i (by simpa using e)
  · intro b hb; rw [List.mem_singleton] at hb; subst hb; exact h0
  · intro b hb
    simp only [List.mem_cons, List.not_mem_nil, or_false] at hb
    rcases hb with rfl | rfl
    · exact ⟨_, Heap.get?_push_size _ rfl⟩
    · exact ⟨_, Heap.get?_push_of_some _ (G.inn _ _ hl)⟩
  · intro b hb
    simp only [List.mem_cons, List.not_mem_nil, or_false] at hb
    rcases hb with rfl | rfl
    · exact .inl h0.1
    · exact .inr ⟨_, hl⟩
  · rintro i h ⟨⟨o, ho, _⟩, _⟩ b hb; rw [List.mem_singleton] at hb; subst hb; exact ⟨o, ho⟩
  · intro s' Q E st q
    exact wpAny_pyIter_listiter st.1 q

/-- bytes -/
theorem src_bytes0 {x : Array UInt8} {v : Value} (hh : A.handled = none) (G : Grow g s g₁ s₁) (hv : RBytes g₁ v x) :
    wpAny (model prog w) A (pyIter v) (fun it s₂ => Grow g s g₁ s₂ ∧ ∀ target, Src prog w A target s g₁ it x.size (fun i u _ => ∃ c, x[i]? = some c ∧ RNat g₁ u c.toNat) s₂) NoE s₁ := by
  obtain ⟨t, rfl⟩ := hv
  refine KBw.pyIter_bytes ?_
  have h0 := G.none₀ none_of_size
  refine ⟨G.push _ _, fun target => ⟨s₁.heap.objs.size, [s₁.heap.objs.size], [s₁.heap.objs.size], _, _, rfl,
    KTurns.weaken' (KTurns.ofWalks (KBw.walks hh s₁.heap.objs.size x t) fun i v s Q E st q => ?_) ?_, ⟨_, Heap.get?_push_size _ rfl, rfl, rfl⟩, ?_, ?_, ?_, ?_, ?_⟩⟩
  · obtain ⟨o, ho, hc, hd⟩ := st
    unfold letOwnedTupleGo
    cases target <;> first
      | exact wpAny_pure q
      | (cases v <;> first
          | exact wpAny_pure q
          | (refine wpAny_bind (wpAny_load ho ?_)
             rw [hc, hd]
             exact wpAny_pure q))
  · rintro i u h ⟨c, t', e, rfl⟩
    exact ⟨c, e, t', rfl⟩
  · intro b hb; rw [List.mem_singleton] at hb; subst hb; exact h0
  · intro b hb; rw [List.mem_singleton] at hb; subst hb; exact ⟨_, Heap.get?_push_size _ rfl⟩
  · intro b hb; rw [List.mem_singleton] at hb; subst hb; exact .inl h0.1
  · rintro i h ⟨o, ho, _⟩ b hb; rw [List.mem_singleton] at hb; subst hb; exact ⟨o, ho⟩
  · intro s' Q E st q
    exact KBw.pyIter_self st q

/-- a range by ones, not too long -/
theorem src_range0 {n : Nat} {r : Addr} {t u u' : Tok} (hh : A.handled = none) (hr : IsRange s₁.heap r 0 n 1 t u u') (hn : n ≤ 1000000) (G : Grow g s g₁ s₁) :
    wpAny (model prog w) A (pyIter (.ref r)) (fun it s₂ => Grow g s g₁ s₂ ∧ ∀ target, Src prog w A target s g₁ it n (fun i u _ => i < n ∧ RNat g₁ u i) s₂) NoE s₁ := by
  have hsm : Builtin.Range.small 0 (n : Int) 1 = true := small_one (by decide) (by decide) (by omega) (by omega)
  refine wpAny_pyIter_range hr hsm ?_
  have hsz : Builtin.Range.rangeSize 0 (n : Int) 1 = (n : Int) := by rw [rangeSize_one]; split <;> omega
  rw [hsz]
  have h0 := G.none₀ none_of_size
  have W0 : Walks prog w A s₁.heap.objs.size [s₁.heap.objs.size] [s₁.heap.objs.size] n (fun i v => i < n ∧ ∃ t, v = .int (0 + (i : Int) * 1) t) (fun i h => IsRangeIter h s₁.heap.objs.size (0 + (i : Nat) * 1) ((n : Int) - (i : Nat)) 1) := (Walks.range hh _ 0 1 n).bound
  refine ⟨G.push _ _, fun target => ⟨s₁.heap.objs.size, [s₁.heap.objs.size], [s₁.heap.objs.size], _, _, rfl,
    KTurns.weaken' (KTurns.ofWalks W0 fun i v s Q E st q => ?_) ?_, ?_, ?_, ?_, ?_, ?_, ?_⟩⟩
  · unfold letOwnedTupleGo
    cases target <;> first
      | exact wpAny_pure q
      | (cases v <;> first
          | exact wpAny_pure q
          | (refine wpAny_bind (wpAny_load st ?_)
             exact wpAny_pure q))
  · rintro i u h ⟨hi, t', rfl⟩
    exact ⟨hi, t', by simp⟩
  · show Heap.get? _ _ = _
    have := Heap.get?_push_size s₁.heap (o := { cls := .type "range_iterator", data := .fields #[rawInt 0, rawInt n, rawInt 1] }) rfl
    simpa using this
  · intro b hb; rw [List.mem_singleton] at hb; subst hb; exact h0
  · intro b hb; rw [List.mem_singleton] at hb; subst hb; exact ⟨_, Heap.get?_push_size _ rfl⟩
  · intro b hb; rw [List.mem_singleton] at hb; subst hb; exact .inl h0.1
  · intro i h st b hb; rw [List.mem_singleton] at hb; subst hb; exact ⟨_, st⟩
  · intro s' Q E st q
    exact wpAny_pyIter_rangeiter st q

variable {Q : Value → Shared → Prop}
theorem src_list {α : Type} {R : Rp α} {xs : List α} {v : Value} (hh : A.handled = none) (G : Grow g s g₁ s₁) (hv : RList R g₁ v xs)
    (hQ : ∀ it s₂, Grow g s g₁ s₂ → (∀ target, Src prog w A target s g₁ it xs.length (fun i u _ => ∃ x, xs[i]? = some x ∧ R g₁ u x) s₂) → Q it s₂) : wpAny (model prog w) A (pyIter v) Q NoE s₁ :=
  wpAny_mono (src_list0 hh G hv) (fun it s₂ q => hQ it s₂ q.1 q.2) fun _ _ f => f
theorem src_bytes {x : Array UInt8} {v : Value} (hh : A.handled = none) (G : Grow g s g₁ s₁) (hv : RBytes g₁ v x)
    (hQ : ∀ it s₂, Grow g s g₁ s₂ → (∀ target, Src prog w A target s g₁ it x.size (fun i u _ => ∃ c, x[i]? = some c ∧ RNat g₁ u c.toNat) s₂) → Q it s₂) : wpAny (model prog w) A (pyIter v) Q NoE s₁ :=
  wpAny_mono (src_bytes0 hh G hv) (fun it s₂ q => hQ it s₂ q.1 q.2) fun _ _ f => f
theorem src_range {n : Nat} {r : Addr} {t u u' : Tok} (hh : A.handled = none) (hr : IsRange s₁.heap r 0 n 1 t u u') (hn : n ≤ 1000000) (G : Grow g s g₁ s₁)
    (hQ : ∀ it s₂, Grow g s g₁ s₂ → (∀ target, Src prog w A target s g₁ it n (fun i u _ => i < n ∧ RNat g₁ u i) s₂) → Q it s₂) : wpAny (model prog w) A (pyIter (.ref r)) Q NoE s₁ :=
  wpAny_mono (src_range0 hh hr hn G) (fun it s₂ q => hQ it s₂ q.1 q.2) fun _ _ f => f
/-- range(n) made and opened -/
theorem src_rangeN {n : Nat} {v : Value} (hh : A.handled = none) (hv : RNat g₁ v n) (hn : n ≤ 1000000) (G : Grow g s g₁ s₁)
    (hQ : ∀ it s₂, Grow g s g₁ s₂ → (∀ target, Src prog w A target s g₁ it n (fun i u _ => i < n ∧ RNat g₁ u i) s₂) → Q it s₂) :
    wpAny (model prog w) A (call (.type "range") [v]) (fun xv s₂ => wpAny (model prog w) A (pyIter xv) Q NoE s₂) NoE s₁ := by
  obtain ⟨t, rfl⟩ := hv
  refine call_range_1 ?_
  exact src_range hh (Heap.get?_push_size _ rfl) hn (G.push _ _) hQ
end

end Mine
end

section
open PySem PySem.W PyProof.Rows PySem.Calls
set_option maxRecDepth 100000
namespace Mine
set_option pp.deepTerms false
set_option pp.deepTerms.threshold 2

theorem ba_mro : mroOf (.type "bytearray") = pure [.type "bytearray", .type "object"] := by rw [mroOf_type]; kernel_rfl
theorem ba_lookup_new : typeLookup (.type "bytearray") "__new__" = pure (some (.builtin "bytearray.__new__")) := by rw [typeLookup_type, builtinLookup_eq_fast]; kernel_rfl
theorem ba_slot_init : Slot "bytearray" "__init__" "bytearray.__init__" :=
  .of (owner := "bytearray") (n := "__init__") (by rw [typeLookup_type, builtinLookup_eq_fast]; kernel_rfl) (by decide +kernel) (by decide +kernel) (by decide +kernel)
    (by first | exact .inl (by decide +kernel) | exact .inr (by decide +kernel)) (by rw [isSubtype_type]; kernel_rfl)
theorem ba_slot_setitem : Slot "bytearray" "__setitem__" "bytearray.__setitem__" :=
  .of (owner := "bytearray") (n := "__setitem__") (by rw [typeLookup_type, builtinLookup_eq_fast]; kernel_rfl) (by decide +kernel) (by decide +kernel) (by decide +kernel)
    (by first | exact .inl (by decide +kernel) | exact .inr (by decide +kernel)) (by rw [isSubtype_type]; kernel_rfl)
theorem ba_called : TypeCalled "bytearray" "bytearray.__new__" "bytearray.__init__" :=
  ⟨by decide +kernel, by decide +kernel, ⟨_, _, ba_mro⟩, madeBy_type ba_mro ba_lookup_new (by decide +kernel), by decide +kernel, by rw [isSubtype_type]; kernel_rfl, ba_slot_init⟩
theorem ba_typeCall (a : Value) : checkTypeCall "bytearray" ⟨[a], []⟩ = pure () := by kernel_rfl
theorem ba_newCall (a : Value) : checkBuiltinCall "bytearray.__new__" ⟨[.type "bytearray", a], []⟩ = pure () := by kernel_rfl
theorem ba_entry_new : entryFor table "bytearray.__new__" = some Builtin.«list.__new__» :=
  entryFor_alias (id' := "list.__new__") (by kernel_rfl) rfl (by decide +kernel) (by kernel_rfl)
theorem ba_plain_new : plainId "bytearray.__new__" = true := by decide +kernel
theorem ba_entry_init : entryFor table "bytearray.__init__" = some Builtin.«bytearray.__init__» := by first | exact entryFor_of_fast (by kernel_rfl) | exact entryFor_of_tree (by kernel_rfl)
theorem ba_entry_setitem : entryFor table "bytearray.__setitem__" = some Builtin.«bytearray.__setitem__» := by first | exact entryFor_of_fast (by kernel_rfl) | exact entryFor_of_tree (by kernel_rfl)
theorem ba_args_init (a b : Value) : argsOk "bytearray.__init__" ⟨[a, b], []⟩ := by unfold argsOk; kernel_rfl
theorem ba_args_setitem (a b c : Value) : argsOk "bytearray.__setitem__" ⟨[a, b, c], []⟩ := by unfold argsOk; kernel_rfl
theorem ba_sub : isSubtype (.type "bytearray") (.type "bytearray") = pure true := by rw [isSubtype_type]; kernel_rfl
theorem ba_no_bytes : typeLookup (.type "bytearray") "__bytes__" = pure none := by rw [typeLookup_type, builtinLookup_eq_fast]; kernel_rfl
theorem ba_no_index : typeLookup (.type "bytearray") "__index__" = pure none := by rw [typeLookup_type, builtinLookup_eq_fast]; kernel_rfl
theorem ba_buffer : typeLookup (.type "bytearray") "__buffer__" = pure (some (.builtin "bytearray.__buffer__")) := by rw [typeLookup_type, builtinLookup_eq_fast]; kernel_rfl
theorem ba_release : typeLookup (.type "bytearray") "__release_buffer__" = pure (some (.builtin "bytearray.__release_buffer__")) := by rw [typeLookup_type, builtinLookup_eq_fast]; kernel_rfl
theorem ba_bind (v : Value) : Builtin.Bytes.bindOptional "bytearray.__init__" "bytearray" ["source", "encoding", "errors"] [v] [] = pure [some v, none, none] := by kernel_rfl
theorem ba_ends : ("bytearray.__buffer__".endsWith ("." ++ "__buffer__")) = true := by decide +kernel
theorem ba_ends_r : ("bytearray.__release_buffer__".endsWith ("." ++ "__release_buffer__")) = true := by decide +kernel
theorem ba_drop : "bytearray.__buffer__".dropRight ("__buffer__".length + 1) = "bytearray" := by decide +kernel
theorem ba_drop_r : "bytearray.__release_buffer__".dropRight ("__release_buffer__".length + 1) = "bytearray" := by decide +kernel
end Mine
end

section
open PySem PySem.W PyProof.Rows PySem.Calls
set_option maxRecDepth 100000
namespace Mine
set_option pp.deepTerms false
set_option pp.deepTerms.threshold 2

/-- codes that a bytearray asks the stack for -/
def loudIds : List String := ["bytearray.__contains__", "bytearray.__mod__", "bytearray.__rmod__", "_struct.pack_into.held", "bytearray.find.held"] ++ Builtin.Bytes.decodersThatHold
def calm : Code → Bool
  | .builtin id _ => !loudIds.contains id
  | _ => true
def Quietly (l : List (Code × Pos)) : Prop := ∀ x ∈ l, calm x.1 = true

def wpC {α : Type} (M : Model) (A : Around) (t : Sem α) (Q : α → Shared → Prop) (E : Value → Shared → Prop) (s : Shared) : Prop :=
  ∀ Γ p, Γ.In A → calm Γ.code = true → Quietly Γ.below → Sem.wp M Γ t (fun a _ s' => Q a s') (fun e _ s' => E e s') p s
def codeC (M : Model) (A : Around) (c : Code) (R : Result → Shared → Prop) (s : Shared) : Prop :=
  ∀ Γ p, Γ.code = c → Γ.Below A → Quietly Γ.below → wpCode M Γ R p s

section
variable {α β : Type} {M : Model} {A : Around} {E : Value → Shared → Prop} {s : Shared}
theorem wpC_any {t : Sem α} {Q : α → Shared → Prop} (h : wpAny M A t Q E s) : wpC M A t Q E s := fun Γ p hΓ _ _ => h Γ p hΓ
theorem codeC_any {c : Code} {R : Result → Shared → Prop} (h : codeAny M A c R s) : codeC M A c R s := fun Γ p hc hΓ _ => h Γ p hc hΓ
theorem wpC_pure {a : α} {Q : α → Shared → Prop} (h : Q a s) : wpC M A (pure a) Q E s := fun _ _ _ _ _ => h
theorem wpC_mono {t : Sem α} {Q Q' : α → Shared → Prop} {E' : Value → Shared → Prop} (h : wpC M A t Q E s)
    (hQ : ∀ a s, Q a s → Q' a s) (hE : ∀ e s, E e s → E' e s) : wpC M A t Q' E' s :=
  fun Γ p hΓ hc hb => Sem.wp_mono M Γ t (fun a _ s => hQ a s) (fun e _ s => hE e s) p s (h Γ p hΓ hc hb)
theorem wpC_bind {m : Sem α} {f : α → Sem β} {Q : β → Shared → Prop} (h : wpC M A m (fun a s' => wpC M A (f a) Q E s') E s) :
    wpC M A (m >>= f) Q E s := fun Γ p hΓ hc hb => by
  rw [Sem.wp_bind']
  exact Sem.wp_mono M Γ m (fun a p' s' h' => h' Γ p' hΓ hc hb) (fun _ _ _ h' => h') p s (h Γ p hΓ hc hb)
theorem wpC_onRaise {m : Sem α} {k : Value → Sem Unit} {Q : α → Shared → Prop}
    (h : wpC M A m Q NoE s) : wpC M A (m.onRaise k) Q E s := fun Γ p hΓ hc hb => by
  rw [Sem.wp_onRaise]
  exact Sem.wp_mono M Γ m (fun _ _ _ h' => h') (fun e p' s' h' => h'.elim) p s (h Γ p hΓ hc hb)
theorem wpC_attempt {m : Sem α} {Q : Except Value α → Shared → Prop} (h : wpC M A m (fun a => Q (.ok a)) (fun e => Q (.error e)) s) :
    wpC M A m.attempt Q E s := fun Γ p hΓ hc hb => by rw [Sem.wp_attempt]; exact h Γ p hΓ hc hb
theorem wpC_holding {vs : List Value} {m : Sem α} {Q : α → Shared → Prop} (h : wpC M A m Q E s) : wpC M A (holding vs m) Q E s :=
  fun Γ p hΓ hc hb => by rw [Sem.wp_holding]; exact h Γ p hΓ hc hb
theorem wpC_standAt {pos : Pos} {Q : Unit → Shared → Prop} (h : Q () s) : wpC M A (standAt pos) Q E s := fun _ _ _ _ _ => h
theorem wpC_if_false {c : Bool} {a b : Sem α} {Q : α → Shared → Prop} (hc : c = false) (h : wpC M A b Q E s) : wpC M A (if c = true then a else b) Q E s := by
  subst hc; exact h
theorem wpC_if_true {c : Bool} {a b : Sem α} {Q : α → Shared → Prop} (hc : c = true) (h : wpC M A a Q E s) : wpC M A (if c = true then a else b) Q E s := by
  subst hc; exact h
theorem wpC_eq {t : Sem α} {a : α} {Q : α → Shared → Prop} (e : t = pure a) (h : Q a s) : wpC M A t Q E s := by subst e; exact wpC_pure h
theorem quiet_enter {Γ : Ctx} {c : Code} {h : Option Value} {p : Pos} (hc : calm Γ.code = true) (hb : Quietly Γ.below) : Quietly (Γ.enter c h p).below := fun x hx => by
  rcases List.mem_cons.mp hx with rfl | hx
  · exact hc
  · exact hb x hx
theorem wpC_run {c : Code} {h : Option Value} {Q : Flow → Shared → Prop}
    (hc : codeC M (A.mark h) c (fun r s' => match r with | .ok f => Q f s' | .error e => E e s') s) (hnb : h ≠ some byPass := by intro x; cases x) :
    wpC M A (run c h) Q E s :=
  fun Γ p hΓ hcl hb => by rw [Sem.wp_run]; exact hc _ p rfl (hΓ.enter c h p hnb) (quiet_enter hcl hb)
theorem wpC_runValue {c : Code} {Q : Value → Shared → Prop}
    (hc : codeC M A c (fun r s' => match r with | .ok (.ret v) => Q v s' | .ok _ => False | .error e => E e s') s) :
    wpC M A (runValue c) Q E s := fun Γ p hΓ hcl hb => by rw [Sem.wp_runValue]; exact hc _ p rfl (hΓ.enter c none p (by intro x; cases x)) (quiet_enter hcl hb)
theorem wpC_call {f : Value} {pos : List Value} {kw : List (Str × Value)} {Q : Value → Shared → Prop}
    (hc : codeC M A (.call f ⟨pos, kw⟩) (fun r s' => match r with | .ok (.ret v) => Q v s' | .ok _ => False | .error e => E e s') s) :
    wpC M A (call f pos kw) Q E s := wpC_runValue hc
theorem codeC_of_tree {c : Code} {R : Result → Shared → Prop} (hcalm : calm c = true)
    (h : wpC M (A.under c) (M.den c) (fun fin s' => match fin with | .done f => R (.ok f) s' | .again c' => c'.quiet = true ∧ codeC M A c' R s')
      (fun e s' => R (.error e) s') s) : codeC M A c R s := fun Γ p hc hΓ hb => by
  rw [wpCode_iff_wp, hc]
  refine Sem.wp_mono M Γ _ (fun fin p' s' h' => ?_) (fun _ _ _ h' => h') p s (h Γ p (hc ▸ hΓ.in) (hc ▸ hcalm) hb)
  cases fin with
  | done f => exact h'
  | again c' => exact ⟨h'.1, h'.2 (Γ.goto c') p' rfl (hΓ.goto c') hb⟩
theorem codeC_mono {c : Code} {R R' : Result → Shared → Prop} (h : codeC M A c R s) (hR : ∀ r s, R r s → R' r s) : codeC M A c R' s :=
  fun Γ p hc hΓ hb => wpCode_mono hR (h Γ p hc hΓ hb)
theorem codeC_loop {c : Code} {R : Result → Shared → Prop} (hcalm : calm c = true) (hq : c.quiet = true) (I : Nat → Shared → Prop)
    (turn : ∀ n s, I n s → wpC M (A.under c) (M.den c)
      (fun fin s' => match fin with | .done f => R (.ok f) s' | .again c' => c' = c ∧ ∃ m, m < n ∧ I m s') (fun e s' => R (.error e) s') s)
    (n : Nat) (h : I n s) : codeC M A c R s := by
  induction n using Nat.strongRecOn generalizing s with
  | ind n ih =>
    refine codeC_of_tree hcalm (wpC_mono (turn n s h) (fun fin s' hf => ?_) fun _ _ h' => h')
    cases fin with
    | done f => exact hf
    | again c' => obtain ⟨rfl, m, hm, hI⟩ := hf; exact ⟨hq, ih m hm hI⟩

theorem exported_calm {self : Value} {Q : Bool → Shared → Prop} (h : Q false s) : wpC M A (Builtin.Bytes.exported self) Q E s := fun Γ p hΓ hc hb => by
  have hall : Quietly ((Γ.code, p) :: Γ.below) := fun x hx => by
    rcases List.mem_cons.mp hx with rfl | hx
    · exact hc
    · exact hb x hx
  unfold Builtin.Bytes.exported
  show Q (List.any ((Γ.code, p) :: Γ.below) _) s
  rw [List.any_eq_false.mpr ?_]
  · exact h
  rintro ⟨c, q⟩ hx
  have hcx := hall _ hx
  split
  case h_6 id v _ _ _ e =>
    have e1 : c = _ := congrArg Prod.fst e
    subst e1
    simp only [calm, loudIds, Bool.not_eq_true', List.contains_append, Bool.or_eq_false_iff] at hcx
    rw [hcx.2, Bool.and_false]; exact Bool.false_ne_true
  case h_7 => exact Bool.false_ne_true
  all_goals
    rename_i e
    have e1 : c = _ := congrArg Prod.fst e
    subst e1
    exact absurd hcx (by simp only [calm]; decide +kernel)
end
end Mine
end

section
open PySem PySem.W PyProof.Rows PySem.Calls
set_option maxRecDepth 100000
namespace Mine

/-- the row that the law speaks of -/
abbrev row : OpenRow := Challenge.rw_wn0008_01.row

/-- a thread that the claim's own caller starts meets calm contexts alone: it halts, and gives True -/
theorem halts_true {prog : Program} {w : World} {t : Sem Fin} {s : Shared} (hs : s.asleep) (hg : s.gens = #[])
    (h : wpC (model prog w) callerA t (fun fin s' => fin = .done (.ret (.bool true)) ∧ Keeps s s') NoE s) :
    ∃ n s' h' tk, schedN (denote table) prog w n (.single s ⟨t, .builtin "claim.caller" {}, default, []⟩) = .halted (.done (.ret (.bool true))) s' ∧
      runN (denote table) prog w n s ⟨t, .builtin "claim.caller" {}, default, []⟩ = .halted (.done (.ret (.bool true))) s' ∧
      s'.forget = ({ s with heap := h', toks := tk } : Shared).forget ∧ ∀ b o, s.heap.get? b = some o → h'.get? b = some o := by
  have here := h ⟨.builtin "claim.caller" {}, none, none, [], none⟩ default caller_in rfl fun x hx => nomatch hx
  have clean : ∀ s', Keeps s s' → leftWithCleanup s'.gens = false := fun s' k => by
    obtain ⟨h', tk, rfl, _⟩ := k
    show leftWithCleanup s.gens = false
    exact leftWithCleanup_false_of_bare (AllBare.of_eq hg)
  obtain ⟨n, r, s₁, s', hn, hr, hf, rfl, h', tk, rfl, hk⟩ := wp_halts_full (M := model prog w) (c := .builtin "claim.caller" {}) (t := t) (p := default) (R := fun r s' => r = .ok (.ret (.bool true)) ∧ Keeps s s') hs
    (Sem.wp_mono _ _ t (fun fin p s' q => by obtain ⟨rfl, k⟩ := q; exact ⟨⟨rfl, k⟩, clean s' k⟩) (fun _ _ _ f => f.elim) _ _ here)
  exact ⟨n, s', h', tk, hn, hr, hf, hk⟩

/-- what the law's call is asked for: calm contexts, a list of ints, True -/
abbrev CalmLaw (q : Program) (loose : List Str) (XP : (Str → Option Value) → Heap → Prop) (YP : World → Heap → Prop) : Prop :=
  ∀ (w : World) (s₀ s : Shared) (mg mb : Str → Option Value), Ground q loose [] XP w s₀ mg mb s.heap → YP w s.heap → ∀ f, mg row.name = some f →
    ∀ (ns : List Int) (vs : List Value) (as : List Addr), ns.length ≤ 1048576 → ReadsAllW [] (classAt s₀.heap) s.heap vs [.list (ns.map .int)] as →
      wpC (model row.prog w) callerA (call f vs) (fun v s' => v = .bool true ∧ Keeps s s') NoE s

theorem ints_of {R : WRecords} : ∀ {xs : List WData}, WShape.hasItems R xs .int = true → ∃ ns : List Int, xs = ns.map .int
  | [], _ => ⟨[], rfl⟩
  | x :: xs, h => by
    rw [WShape.hasItems, Bool.and_eq_true] at h
    obtain ⟨i, rfl⟩ := hasW_int h.1
    obtain ⟨ns, rfl⟩ := ints_of h.2
    exact ⟨i :: ns, rfl⟩
/-- the arguments of a law: one list of ints, not too long -/
theorem args_of {args : List WData} (hpre : row.claim.pre args = true) (hlay : WData.layableAll args = true) : ∃ ns : List Int, args = [.list (ns.map .int)] ∧ ns.length ≤ 1048576 := by
  obtain ⟨d, r, rfl, hd, hr⟩ := hasAllW_cons (pre_splitW hpre).1
  obtain rfl := hasAllW_nil hr
  obtain ⟨xs, rfl, hx⟩ := hasW_list hd
  obtain ⟨ns, rfl⟩ := ints_of hx
  have h1 := (layableW_iff.mp (layableW_arg hlay _ List.mem_cons_self)).2.2
  have h2 := length_le_weightAllW (ns.map WData.int)
  simp only [WData.weight, List.length_map] at h1 h2
  exact ⟨ns, rfl, by omega⟩

/-- one call of the law, from the state that its top leaves -/
theorem called {q : Program} {loose : List Str} {XP : (Str → Option Value) → Heap → Prop} {YP : World → Heap → Prop} {w : World} {s : Shared} {free : Addr → Prop} {gens : Prop} {kept : Heap → Prop}
    (call : CalmLaw q loose XP YP) (hXk : ∀ mg h h', XP mg h → (∀ b o, h.get? b = some o → h'.get? b = some o) → XP mg h') (hYk : ∀ w h h', YP w h → (∀ b o, h.get? b = some o → h'.get? b = some o) → YP w h')
    (hz : s.asleep) (hg : s.gens = #[]) (G : Ground q loose [] XP w s (s.heap.nsMap mainGlobals) (s.heap.nsMap builtinsNs) s.heap) (Y : YP w s.heap) (hf : ∃ f, s.heap.nsMap mainGlobals row.name = some f) (hk : ∀ h, kept h) :
    row.claim.CallFrom (callStub row.name) w free gens kept s := by
  intro args hpre hlay ord hord
  obtain ⟨ns, rfl, hlen⟩ := args_of hpre hlay
  obtain ⟨⟨vs, s₁⟩, laid⟩ := Option.isSome_iff_exists.mp (layAllW_isSome (P := w.params) (ord := ord) (cl := classAt s.heap) (R := []) (fun c h => by cases h) _ row.args s (pre_splitW hpre).1)
  have old := layAllW_keeps _ _ _ laid
  obtain ⟨e1, _, e3, e4⟩ := layAllW_rest _ _ _ laid
  have g1 : s₁.gens = #[] := e1.trans hg
  obtain ⟨as, reads, _, _⟩ := reads_layAllW hord _ _ _ laid hlay s₁.heap fun _ _ e => e
  obtain ⟨f, hf⟩ := hf
  have G1 := G.keeps hXk old
  have run : wpC (model row.prog w) callerA (callStub row.name vs).cur (fun fin s' => fin = .done (.ret (.bool true)) ∧ Keeps s₁ s') NoE s₁ := by
    refine wpC_bind (wpC_any (wpAny_nsGet G1.T.g ?_))
    rw [hf]
    refine wpC_bind (wpC_mono (call w s s₁ _ _ G1 (hYk _ _ _ Y old) f hf ns vs as hlen reads) (fun v s' q => ?_) fun _ _ q => q)
    exact wpC_pure ⟨by rw [q.1], q.2⟩
  obtain ⟨n, s', h', tk, hn, hr, hfo, hkeep⟩ := halts_true (Shared.asleep_of_life e4 hz) g1 run
  obtain ⟨eh, _, _, eo, _⟩ := Shared.forget_eq hfo
  have eh : s'.heap = h' := eh
  have eo : s'.os = s₁.os := eo
  have hkeep : ∀ b o, s₁.heap.get? b = some o → s'.heap.get? b = some o := by rw [eh]; exact hkeep
  refine ⟨vs, s₁, laid, n, _, s', hn, .inl ⟨.bool true, rfl, fun cls => rfl, ⟨.bool true, _, [], as, .bool true, reads.keeps hkeep, ?_, fun _ => ⟨List.nodup_nil, fun a ha => (nomatch ha), fun a ha => (nomatch ha)⟩, fun as₀ _ => ident_freeW (r := row.toRowW) rfl rfl rfl _ _⟩, fun i hi => (nomatch hi), fun b o hb _ _ _ => .inl (hkeep b o hb), fun i hi => (nomatch hi)⟩, fun _ i x hx => ?_, hk _, ?_, Shared.rest_eq (eo.trans e3)⟩
  · exact postW_of (by wrow_shape) (by wtm_val) (by w_fin)
  · rw [hg] at hx; simp at hx
  · rw [(runN_life _ _ _ hr).trans e4]
end Mine
namespace Mine.PySem.W
/-- the head, its walk asked for calm contexts alone -/
theorem holds_open {q : Program} {loose : List Str} {Xt : Shared → Bool} {XP : (Str → Option Value) → Heap → Prop} {α : Type} {Yf : Shared → α} {Ya : World → α} {YP : World → Heap → Prop} {d : DefRec} {kwd : List (Str × Expr)} {N : Nat}
    (left : LeftO row.prog q loose Xt Yf Ya N) (hY : ∀ w s, Yf s = Ya w → YP w s.heap) (hYk : ∀ w h h', YP w h → (∀ b o, h.get? b = some o → h'.get? b = some o) → YP w h')
    (hX : ∀ s, Xt s = true → XP (s.heap.nsMap mainGlobals) s.heap) (hXk : ∀ mg h h', XP mg h → (∀ b o, h.get? b = some o → h'.get? b = some o) → XP mg h')
    (hdef : defOf q row.name = some (d, kwd)) (hp : row.prog.theDef row.name = some (d.params, d.body, d.scope)) (hk : kwWritten? d.params.kwonlyargs d.params.kw_defaults = some kwd)
    (_ : ∀ s, Xt s = true → RecFacts row.records s.heap) (_ : (!row.writes || row.records.isEmpty) = true)
    (said : row.wellSaid = true) (ok : (chainsOk q && opensWell row.prog && (frees row.toRowW && row.within.isEmpty)) = true) (bare : row.prog.bare) (prom : row.toRowW.promised)
    (call : CalmLaw q loose XP YP) : row.Holds := by
  simp only [Bool.and_eq_true] at ok
  refine ⟨said, prom, ⟨bare, ok.1.2, rfl⟩, prom.witness, fun w => ?_⟩
  obtain ⟨there, each⟩ := left.behind hX ok.1.1 w
  refine ⟨there, fun s hs => ?_⟩
  obtain ⟨s₀, fence, none0, s₁, ran, sleeps, g1, isNs, G, y⟩ := each s hs
  obtain ⟨a, o, pm, cd, doc, dV, kV, named, _⟩ := G.fn hdef
  refine ⟨s₀, fence, none0, s₁, ran, fun n hn => ?_, fun x hx => (nomatch hx), fun x hx => (nomatch hx), ?_⟩
  · have : n = row.name := by
      split at hn
      · simpa using hn
      · cases hn
    rw [this]
    exact pinned_of_view isNs G hdef hp hk
  · refine called call hXk hYk sleeps ?_ G (hY w s₁ y) ⟨_, named⟩ fun h wr => by cases wr
    rw [if_pos rfl] at g1
    exact Array.eq_empty_of_size_eq_zero (beq_iff_eq.mp g1)
end Mine.PySem.W
end

section
open PySem PySem.W PyProof.Rows
namespace Mine
set_option maxRecDepth 100000 in
set_option maxHeartbeats 0 in
open_top hd for PySem.Challenge.rw_wn0008_01
end Mine
end

section
open PySem PySem.W PyProof.Rows PySem.Calls
set_option maxRecDepth 100000
namespace Mine

noncomputable abbrev KF : Params → Frag := hd.heap_39

structure Wd (P : Params) (h : Heap) : Prop where
  K : (KF P).In h
  g : ∃ mg, h.Ns mainGlobals mg
  b : ∃ mb, h.Ns builtinsNs mb ∧ ∀ x : Str, x ≠ "__name__" → mb x = bootBuiltins x
  nolimit : h.NoLimit
theorem Wd.keeps {P : Params} {s s' : Shared} (W : Wd P s.heap) (k : Keeps s s') : Wd P s'.heap where
  K := W.K.keeps fun _ _ e => keeps_get k e
  g := let ⟨mg, x⟩ := W.g; ⟨mg, x.keeps fun _ _ e => keeps_get k e⟩
  b := let ⟨mb, x, y⟩ := W.b; ⟨mb, x.keeps fun _ _ e => keeps_get k e, y⟩
  nolimit := W.nolimit.keeps fun _ _ e => keeps_get k e

theorem gl_quotedata (P) : nsIn (KF P) mainGlobals "quotedata" = some (some (.ref 48)) := by kernel_rfl
theorem gl_add_callers (P) : nsIn (KF P) mainGlobals "add_callers" = some (some (.ref 55)) := by kernel_rfl
theorem gl_count_calls (P) : nsIn (KF P) mainGlobals "count_calls" = some (some (.ref 62)) := by kernel_rfl
theorem gl_byteswap (P) : nsIn (KF P) mainGlobals "_byteswap" = some (some (.ref 69)) := by kernel_rfl
theorem gl_told (P) : nsIn (KF P) mainGlobals "_law_told" = some (some (.ref 74)) := by kernel_rfl
theorem gl_sent (P) : nsIn (KF P) mainGlobals "_law_sent" = some (some (.ref 81)) := by kernel_rfl
theorem gl_laid (P) : nsIn (KF P) mainGlobals "_law_laid" = some (some (.ref 86)) := by kernel_rfl
theorem gl_gathered (P) : nsIn (KF P) mainGlobals "_law_gathered" = some (some (.ref 93)) := by kernel_rfl
theorem gl_re1 (P) : nsIn (KF P) mainGlobals "_twin_re_1" = some (some (.ref 36)) := by kernel_rfl
theorem gl_re2 (P) : nsIn (KF P) mainGlobals "_twin_re_2" = some (some (.ref 41)) := by kernel_rfl
theorem gl_crlf (P) : nsIn (KF P) mainGlobals "CRLF" = some (some (.str (Str.ofString "\r\n") 342)) := by kernel_rfl
theorem gb_range (P) : nsIn (KF P) mainGlobals "range" = some none ∧ bootBuiltins "range" = some (.type "range") := ⟨by kernel_rfl, by decide +kernel⟩
theorem gb_len (P) : nsIn (KF P) mainGlobals "len" = some none ∧ bootBuiltins "len" = some (.builtin "len") := ⟨by kernel_rfl, by decide +kernel⟩
theorem gb_bytearray (P) : nsIn (KF P) mainGlobals "bytearray" = some none ∧ bootBuiltins "bytearray" = some (.type "bytearray") := ⟨by kernel_rfl, by decide +kernel⟩
theorem gb_bytes (P) : nsIn (KF P) mainGlobals "bytes" = some none ∧ bootBuiltins "bytes" = some (.type "bytes") := ⟨by kernel_rfl, by decide +kernel⟩
theorem gb_isinstance (P) : nsIn (KF P) mainGlobals "isinstance" = some none ∧ bootBuiltins "isinstance" = some (.builtin "isinstance") := ⟨by kernel_rfl, by decide +kernel⟩
theorem gb_tuple (P) : nsIn (KF P) mainGlobals "tuple" = some none ∧ bootBuiltins "tuple" = some (.type "tuple") := ⟨by kernel_rfl, by decide +kernel⟩
theorem gb_sum (P) : nsIn (KF P) mainGlobals "sum" = some none ∧ bootBuiltins "sum" = some (.builtin "sum") := ⟨by kernel_rfl, by decide +kernel⟩
theorem gb_enumerate (P) : nsIn (KF P) mainGlobals "enumerate" = some none ∧ bootBuiltins "enumerate" = some (.type "enumerate") := ⟨by kernel_rfl, by decide +kernel⟩
theorem gb_sorted (P) : nsIn (KF P) mainGlobals "sorted" = some none ∧ bootBuiltins "sorted" = some (.builtin "sorted") := ⟨by kernel_rfl, by decide +kernel⟩
theorem gb_list (P) : nsIn (KF P) mainGlobals "list" = some none ∧ bootBuiltins "list" = some (.type "list") := ⟨by kernel_rfl, by decide +kernel⟩
theorem gb_int (P) : nsIn (KF P) mainGlobals "int" = some none ∧ bootBuiltins "int" = some (.type "int") := ⟨by kernel_rfl, by decide +kernel⟩

section
variable {prog : Program} {w : World} {A : Around} {E : Value → Shared → Prop} {s : Shared} {env : Env} {P : Params} {Q : Value → Shared → Prop}
theorem ld_glob {x : Str} {pos : Pos} {v : Value} (W : Wd P s.heap) (e : nsIn (KF P) mainGlobals x = some (some v)) (h : Q v s)
    (hk : env.scope.kind = .function := by rfl) (hx : env.kindOf x = some .globalImplicit := by rfl) (hg : env.globals = mainGlobals := by rfl) (hd : (x == ("__debug__" : Str)) = false := by decide) :
    wpAny (model prog w) A (eval (.Name x pos) env) Q E s := by
  obtain ⟨mg, hm⟩ := W.g
  exact Name_function_global hk hx (loadGlobal_global (by rw [hg]; exact hm) (mg_of W.K hm e) h) hd
theorem ld_blt {x : Str} {pos : Pos} {v : Value} (W : Wd P s.heap) (e : nsIn (KF P) mainGlobals x = some none ∧ bootBuiltins x = some v) (h : Q v s)
    (hk : env.scope.kind = .function := by rfl) (hx : env.kindOf x = some .globalImplicit := by rfl) (hg : env.globals = mainGlobals := by rfl) (hb : env.builtins = builtinsNs := by rfl) (hd : (x == ("__debug__" : Str)) = false := by decide) (hn : x ≠ "__name__" := by decide) :
    wpAny (model prog w) A (eval (.Name x pos) env) Q E s := by
  obtain ⟨mg, hm⟩ := W.g
  obtain ⟨mb, hmb, hb'⟩ := W.b
  exact Name_function_global hk hx (loadGlobal_builtin (by rw [hg]; exact hm) (mg_none_of W.K hm e.1) (by rw [hb]; exact hmb) ((hb' x hn).trans e.2) h) hd
end

structure Room (A : Around) (k : Nat) : Prop where
  depth : A.depth + k ≤ 900
  units : A.units + 10 * k ≤ 9000
  handled : A.handled = none
theorem Room.deeper {A : Around} {k : Nat} (r : Room A (k + 1)) (env : Env) : Room (A.deeper env) k := ⟨by have := r.depth; show A.depth + 1 + k ≤ 900; omega, by have := r.units; show A.units + 3 + 10 * k ≤ 9000; omega, r.handled⟩
theorem Room.less {A : Around} {k j : Nat} (r : Room A k) (h : j ≤ k) : Room A j := ⟨by have := r.depth; omega, by have := r.units; omega, r.handled⟩
theorem Room.lt {A : Around} {k : Nat} (r : Room A k) : A.depth < recursionLimit := by have := r.depth; show A.depth < 1000; omega

/-- a def's block entered -/
theorem call_fn {prog : Program} {w : World} {A : Around} {s : Shared} {g : View} {a : Addr} {o : Obj} {fd : FuncData} {body : List Stmt} {vals : List Value} {binds : List (Str × Value)} {Q : Value → Shared → Prop} {k : Nat} {P : Params}
    (hR : Room A (k + 1)) (hW : Wd P s.heap) (ho : s.heap.get? a = some o) (hdata : o.data = .func fd) (hcd : s.heap.CodeRec fd.code fd.qualname)
    (hbody : fd.body = .stmts body) (hbind : bindArgs fd ⟨vals, []⟩ = pure binds) (hclo : fd.closure = [])
    (hkind : (binds.all fun y => fd.scope.names.lookup y.1 == some .local || fd.scope.names.lookup y.1 == some .cell) = true)
    (G : VIn g s.heap) (hnd0 : ((cellsFrom 0 fd.scope.names []).map (·.1)).Nodup)
    (h : ∀ L s₁, s.heap.get? L = none → Room (A.deeper (callEnvC fd L a)) k → Wd P s₁.heap → InEnv g s (callEnvC fd L a) (L :: (cellsFrom (L + 1) fd.scope.names []).map (·.2)) g s₁.heap (bindL (callEnvC fd L a).kindOf binds fun _ => none) (bindC (callEnvC fd L a).kindOf binds fun _ => none) g s₁ →
      wpAny (model prog w) (A.deeper (callEnvC fd L a)) (execs body (callEnvC fd L a)) (fun f s' => Q (match f with | .ret v => v | _ => .none) s') NoE s₁)
    (hco : fd.scope.isCoroutine = false := by rfl) (hgen : fd.scope.isGenerator = false := by rfl) (hk : fd.scope.kind = .function := by rfl) :
    wpAny (model prog w) A (call (.ref a) vals) Q NoE s := by
  have hnd : ∀ n, ((cellsFrom n fd.scope.names []).map (·.1)).Nodup := fun n => by rw [cellsFrom_names fd.scope.names n 0 [] [] rfl]; exact hnd0
  refine wpAny_call (codeAny_call_cells hR.lt ho hdata hW.nolimit hcd hbody hbind hclo (kindsX hkind _) (fun s₁ X => ?_) hco hgen hk)
  have hLn : s.heap.get? s.heap.objs.size = none := none_of_size
  have K : Keeps s s₁ := by
    obtain ⟨h₁, tk, rfl⟩ := X.toInCall.same
    exact ⟨h₁, tk, rfl, X.toInCall.keep⟩
  refine wpAny_mono (h s.heap.objs.size s₁ hLn (hR.deeper _) (hW.keeps K) ?_) (fun f s' q => q) fun _ _ f => f.elim
  have cellMem : ∀ n c, (n, c) ∈ cellsFrom (s.heap.objs.size + 1) fd.scope.names [] → s₁.heap.IsCell c (bindC (callEnvC fd s.heap.objs.size a).kindOf binds (fun _ => none) n) := fun n c hm =>
    X.cell n c (lookup_of_mem_nodup (hnd _) hm)
  have hfr : ∀ b ∈ s.heap.objs.size :: (cellsFrom (s.heap.objs.size + 1) fd.scope.names []).map (·.2), s.heap.get? b = none := fun b hb => by
    rcases List.mem_cons.mp hb with rfl | hb
    · exact hLn
    · obtain ⟨⟨n, c⟩, hm, rfl⟩ := List.mem_map.mp hb
      exact none_of_le (Nat.le_of_lt (X.above n c hm))
  exact {
    grow := Grow.ofKeeps G K
    since := KB.refl _ _
    leS := VLe.refl _
    newS := fun _ _ e => .inl e
    was := fun _ _ e => keeps_get K e
    ns := X.toInCall.ns
    cell := X.cell
    locIn := List.mem_cons_self
    fresh := hfr
    live := fun b hb => by
      rcases List.mem_cons.mp hb with rfl | hb
      · obtain ⟨o, _, _, ho, _⟩ := X.toInCall.ns; exact ⟨o, ho⟩
      · obtain ⟨⟨n, c⟩, hm, rfl⟩ := List.mem_map.mp hb
        obtain ⟨o, ho, _⟩ := cellMem n c hm
        exact ⟨o, ho⟩
    out := fun b hb => by
      cases e : g b with
      | none => rfl
      | some o => rw [← G _ _ e, hfr b hb] 
    sep := fun n c e q => by
      have := X.above n c (mem_of_lookup e)
      rw [q] at this; exact Nat.lt_irrefl _ this
    apart := fun n n' c e e' => name_of_addr X.apart (mem_of_lookup e) (mem_of_lookup e') }

end Mine
end

section
open PySem PySem.W PyProof.Rows
set_option maxRecDepth 100000
namespace Mine
open PySem.Builtin PySem.Builtin.Str

abbrev S (l : List Nat) : Str := ⟨l.toArray⟩
theorem S_length (l : List Nat) : (S l).length = l.length := by simp [S, Str.length]
theorem S_append (l m : List Nat) : S l ++ S m = S (l ++ m) := by
  apply Str.ext'; show (l.toArray ++ m.toArray) = (l ++ m).toArray; simp
def RS : Rp (List Nat) := fun _ v l => ∃ t, v = .str (S l) t
theorem mono_RS : Mono RS := fun _ _ _ _ _ h => h

def joinL (sep : List Nat) : List (List Nat) → List Nat
  | [] => []
  | [x] => x
  | x :: y :: r => x ++ sep ++ joinL sep (y :: r)
theorem joinL_cons (sep x : List Nat) {r : List (List Nat)} (h : r ≠ []) : joinL sep (x :: r) = x ++ sep ++ joinL sep r := by
  cases r with
  | nil => exact absurd rfl h
  | cons y r => rfl
theorem joinL_length (sep : List Nat) : ∀ rows : List (List Nat), (joinL sep rows).length ≤ (rows.map (·.length + sep.length)).sum
  | [] => by simp [joinL]
  | [x] => by simp [joinL]
  | x :: y :: r => by
    have := joinL_length sep (y :: r)
    simp only [joinL, List.length_append, List.map_cons, List.sum_cons] at *
    omega

theorem foldl_glue (sep : List Nat) : ∀ (r : List (List Nat)) (acc : Array Nat),
    ((r.map S).foldl (fun acc (p : Str) => acc ++ sep.toArray ++ p.cps) acc).toList = acc.toList ++ (r.map (sep ++ ·)).flatten
  | [], acc => by simp
  | x :: r, acc => by
    rw [List.map_cons, List.foldl_cons, foldl_glue sep r]
    simp [List.append_assoc]
theorem joinL_flat (sep : List Nat) : ∀ (x : List Nat) (r : List (List Nat)), joinL sep (x :: r) = x ++ (r.map (sep ++ ·)).flatten
  | x, [] => by simp [joinL]
  | x, y :: r => by
    rw [joinL, joinL_flat sep y r]; simp [List.append_assoc]
theorem txt_join (sep : List Nat) (rows : List (List Nat)) : Txt.join (S sep) (rows.map S) = S (joinL sep rows) := by
  cases rows with
  | nil => rfl
  | cons x r =>
    apply Str.ext'
    show ((r.map S).foldl (fun acc (p : Str) => acc ++ sep.toArray ++ p.cps) x.toArray) = (joinL sep (x :: r)).toArray
    rw [← Array.toArray_toList (xs := List.foldl _ _ _), foldl_glue, joinL_flat]
theorem joinOk_of (sep : List Nat) (rows : List (List Nat)) (h : (rows.map (·.length + sep.length)).sum ≤ 1000000) : JoinOk (S sep) (rows.map S) = true := by
  unfold JoinOk
  have e : ∀ (l : List (List Nat)) (n : Nat), (l.map S).foldl (fun (a : Nat) (x : Str) => a + x.length + (S sep).length) n = n + (l.map (·.length + sep.length)).sum := by
    intro l
    induction l with
    | nil => intro n; simp
    | cons x l ih => intro n; rw [List.map_cons, List.foldl_cons, ih]; simp only [S_length, List.map_cons, List.sum_cons]; omega
  rw [List.foldl_toArray, e]
  simp only [tooLong, Bool.not_eq_true', decide_eq_false_iff_not, Nat.not_lt]
  have : sizeLine = 16777216 := rfl
  omega
end Mine
end

section
open PySem PySem.W PyProof.Rows PySem.Calls
set_option maxRecDepth 100000
namespace Mine

section
variable {g₀ gt g : View} {s₀ s : Shared} {env : Env} {own : List Addr} {ht : Heap} {m cm : Str → Option Value}

/-- one object of the block's own is changed -/
theorem InEnv.mut' (x : InEnv g₀ s₀ env own gt ht m cm g s) {D : Addr} {h' : Heap} (tk : Nat) (hs : Heap.SameBut D s.heap h') (hD : D ∈ own)
    (hL : D ≠ env.locals) (hc : ∀ n c, env.cells.lookup n = some c → c ≠ D) (hlv : ∃ o, h'.get? D = some o) : InEnv g₀ s₀ env own gt ht m cm g { s with heap := h', toks := tk } :=
  { x.mut tk hs (x.fresh D hD) (x.out D hD) hL hc hlv with
    since := fun b o n e => (hs.2 b (by rintro rfl; exact n hD)).trans (x.since b o n e)
    leS := x.leS
    newS := x.newS
    was := x.was }

theorem InEnv.addOwn (x : InEnv g₀ s₀ env own gt ht m cm g s) {D : Addr} (hD : ∃ o, s.heap.get? D = some o) (hg : g D = none) (hf : s₀.heap.get? D = none) : InEnv g₀ s₀ env (D :: own) gt ht m cm g s :=
  { x with
    since := x.since.mono fun b hb => List.mem_cons_of_mem _ hb
    locIn := List.mem_cons_of_mem _ x.locIn
    fresh := fun a ha => by
      rcases List.mem_cons.mp ha with rfl | ha
      · exact hf
      · exact x.fresh a ha
    live := fun a ha => by
      rcases List.mem_cons.mp ha with rfl | ha
      · exact hD
      · exact x.live a ha
    out := fun a ha => by
      rcases List.mem_cons.mp ha with rfl | ha
      · exact hg
      · exact x.out a ha }
theorem InEnv.dropOwn {D : Addr} (x : InEnv g₀ s₀ env (D :: own) gt ht m cm g s) (hD : ht.get? D = none) (hl : env.locals ∈ own) : InEnv g₀ s₀ env own gt ht m cm g s :=
  { x with
    since := fun b o n e => x.since b o (fun q => by
      rcases List.mem_cons.mp q with rfl | q
      · rw [hD] at e; cases e
      · exact n q) e
    locIn := hl
    fresh := fun a ha => x.fresh a (List.mem_cons_of_mem _ ha)
    live := fun a ha => x.live a (List.mem_cons_of_mem _ ha)
    out := fun a ha => x.out a (List.mem_cons_of_mem _ ha) }
theorem InEnv.freeze {D : Addr} {o : Obj} (x : InEnv g₀ s₀ env (D :: own) gt ht m cm g s) (hD : ht.get? D = none) (hl : env.locals ∈ own) (hn : D ∉ own) (ho : s.heap.get? D = some o) : InEnv g₀ s₀ env own gt ht m cm (addv g D o) s :=
  { x.dropOwn hD hl with
    grow := x.grow.add ho (x.fresh D List.mem_cons_self)
    leS := x.leS.trans (addv_le o (x.out D List.mem_cons_self))
    newS := fun b o' e => by
      unfold addv at e
      by_cases hb : b = D
      · subst hb; exact .inr hD
      · rw [if_neg hb] at e; exact x.newS b o' e
    out := fun a ha => by
      have : a ≠ D := fun q => hn (q ▸ ha)
      simp only [addv, if_neg this]
      exact x.out a (List.mem_cons_of_mem _ ha) }
end

section
variable {prog : Program} {w : World} {A : Around}

theorem exec_for {g₀ gt g : View} {s₀ s : Shared} {env : Env} {own : List Addr} {ht : Heap} {m cm : Str → Option Value} {target iter : Expr} {body : List Stmt} {pos : Pos} {Q : Flow → Shared → Prop}
    (X : InEnv g₀ s₀ env own gt ht m cm g s)
    (h : wpAny (model prog w) A (eval iter env) (fun xv s₁ => wpAny (model prog w) A (pyIter xv) (fun it s₂ => ∃ g₂ n P, Grow g s g₂ s₂ ∧ Src prog w A target s g₂ it n P s₂ ∧
      ∃ J : Nat → (Str → Option Value) → (Str → Option Value) → View → Heap → Prop, J 0 m cm g₂ s₂.heap ∧
        (∀ i m cm g' h h', J i m cm g' h → (∀ b ∈ own, ∀ o, h.get? b = some o → h'.get? b = some o) → J i m cm g' h') ∧
        (∀ i v m cm g' s₁, i < n → InEnv g₀ s₀ env own g' s₁.heap m cm g' s₁ → J i m cm g' s₁.heap → P i v s₁.heap → VLe g₂ g' →
          wpAny (model prog w) A (assign target env v) (fun _ s₂ => wpAny (model prog w) A (execs body env) (fun f s₃ => f = .next ∧ ∃ m cm g₃, InEnv g₀ s₀ env own g' s₁.heap m cm g₃ s₃ ∧ J (i + 1) m cm g₃ s₃.heap) NoE s₂) NoE s₁) ∧
        (∀ m' cm' g' s', InEnv g₀ s₀ env own gt ht m' cm' g' s' → J n m' cm' g' s'.heap → VLe g g' → Q .next s')) NoE s₁) NoE s)
    (hs : ∀ x, foldedSetIterable iter env x = pure x := by intro _; rfl) :
    wpAny (model prog w) A (exec (.For target iter body [] pos) env) Q NoE s := by
  refine wpAny_For (wpAny_mono h (fun xv s₁ h₁ => wpAny_mono h₁ (fun it s₂ h₂ => ?_) fun _ _ f => f) fun _ _ f => f) hs
  obtain ⟨g₂, n, P, G, S, J, hJ0, hJs, step, hQ⟩ := h₂
  obtain ⟨I, fp, wr, Md, St, rfl, W, hst, hwr, hfp, hfv, hlv, _⟩ := S.ex
  have X₂ := X.step G
  have wro : ∀ b ∈ wr, b ∉ own := fun b hb q => by obtain ⟨o, e⟩ := X.live b q; rw [(hwr b hb).1] at e; cases e
  have wrc : ∀ n c, env.cells.lookup n = some c → c ∉ wr := fun n c e q => by
    obtain ⟨o, e', _⟩ := X.cell n c e; rw [(hwr c q).1] at e'; cases e'
  have wr0 : ∀ b ∈ wr, s₀.heap.get? b = none := fun b hb => by
    cases e : s₀.heap.get? b with
    | none => rfl
    | some o => have := keeps_get X.grow.keeps e; rw [(hwr b hb).1] at this; cases this
  have fpo : ∀ b ∈ fp, b ∉ own := fun b hb q => by
    rcases hfv b hb with h | ⟨o, h⟩
    · obtain ⟨o, e⟩ := X.live b q; rw [h] at e; cases e
    · rw [X₂.out b q] at h; cases h
  have wrt : ∀ b ∈ wr, ht.get? b = none := fun b hb => by
    cases e : ht.get? b with
    | none => rfl
    | some o => have := X.since b o (wro b hb) e; rw [(hwr b hb).1] at this; cases this
  refine for_turns (R := fun r s' => match r with | .ok f => Q f s' | .error e => cameBackBy (model prog w) A env NoE e s') W
    (fun i s' => ∃ m' cm' g', InEnv g₀ s₀ env own gt ht m' cm' g' s' ∧ J i m' cm' g' s'.heap ∧ VLe g₂ g' ∧ (∀ b ∈ wr, g' b = none)) hst
    ⟨m, cm, g₂, X₂, hJ0, VLe.refl _, fun b hb => (hwr b hb).2⟩ ?_ ?_ ?_
  · rintro i s' h' tk ⟨m', cm', g', X', hJ, hle, hwn⟩ hk
    exact ⟨m', cm', g', X'.kbFresh tk hk wr0 hwn wro wrc wrt, hJs _ _ _ _ _ _ hJ fun b hb o e => hk b o (fun q => wro b q hb) e, hle, hwn⟩
  · rintro i v s₁ hlt ⟨m', cm', g', X', hJ, hle, hwn⟩ hP hSt
    refine wpAny_mono (step i v m' cm' g' s₁ hlt X'.rebase hJ hP hle) (fun _ s₂ q => wpAny_mono q (fun f s₃ q => ?_) fun _ _ f => f) fun _ _ f => f
    obtain ⟨rfl, m₃, cm₃, g₃, X₃, hJ₃⟩ := q
    refine ⟨rfl, ⟨m₃, cm₃, g₃, ?_, hJ₃, hle.trans X₃.leS, fun b hb => ?_⟩, fun b hb o e => X₃.since b o (fpo b hb) e⟩
    · exact { X₃ with
        since := X'.since.trans X₃.since
        leS := X'.leS.trans X₃.leS
        newS := fun b o e => by
          rcases X₃.newS b o e with h | h
          · exact X'.newS b o h
          · by_cases hb : b ∈ own
            · rw [X₃.out b hb] at e; cases e
            · right
              cases hx : ht.get? b with
              | none => rfl
              | some o' => rw [X'.since b o' hb hx] at h; cases h
        was := X'.was }
    · cases hx : g₃ b with
      | none => rfl
      | some o =>
        rcases X₃.newS b o hx with h | h
        · rw [hwn b hb] at h; cases h
        · obtain ⟨o', e'⟩ := hlv _ _ hSt b hb; rw [e'] at h; cases h
  · rintro s' ⟨m', cm', g', X', hJ, hle, _⟩
    exact hQ m' cm' g' s' X' hJ (G.le.trans hle)
end
end Mine
end

section
open PySem PySem.W PyProof.Rows PySem.Calls
set_option maxRecDepth 100000
namespace Mine

open PySem.Builtin PySem.Builtin.Str in
/-- what str.split hands back -/
theorem split_call {prog : Program} {w : World} {A : Around} {E : Value → Shared → Prop} {s : Shared} {x y : Str} {t u : Tok} {Q : Value → Shared → Prop} (hy : (y.length == 0) = false)
    (hq : ∀ (l : List (Str × Tok)) (k : Nat), l.map (·.1) = Txt.split x y → Q (.ref s.heap.objs.size) { s with heap := s.heap.push { cls := .type "list", data := .seq (strValues l).toArray }, toks := k })
    (hsz : x.length ≤ sizeLine) (hsz2 : (partsBetween x (occurrences x y 0 x.length (x.length + 1)) y.length).length ≤ sizeLine) :
    wpAny (model prog w) A (call (.builtin "str.split") [.str x t, .str y u]) Q E s := by
  cases h1 : (decide (x.length < y.length) || decide (strKind x < strKind y))
  · cases hf : (occurrences x y 0 x.length (x.length + 1)).isEmpty
    · refine call_meets F.slot_str_split (typeIs_str _ _ _) F.entry_str_split (F.args_str_split_2 _ _) (meets_str_split_sep x y t u h1 hy hf hsz hsz2) ?_
      show wants Q E _ { s with toks := _, heap := s.heap.push { cls := .type "list", data := .seq (strsFrom s.toks (partsBetween x (occurrences x y 0 x.length (x.length + 1)) y.length)).toArray } }
      rw [strsFrom_eq]
      exact hq (numbered s.toks _) _ ((numbered_texts _ _).trans ((if_neg (ne_true_of_eq_false h1)).trans (if_neg (ne_true_of_eq_false hf))).symm)
    · exact call_meets F.slot_str_split (typeIs_str _ _ _) F.entry_str_split (F.args_str_split_2 _ _) (meets_str_split_not_found x y t u h1 hy hf)
        (hq [(x, t)] s.toks ((if_neg (ne_true_of_eq_false h1)).trans (if_pos hf)).symm)
  · exact call_meets F.slot_str_split (typeIs_str _ _ _) F.entry_str_split (F.args_str_split_2 _ _) (meets_str_split_cannot_occur x y t u h1)
      (hq [(x, t)] s.toks (if_pos h1).symm)

theorem strValues_paired (g : View) : ∀ (l : List (Str × Tok)) (xs : List (List Nat)), l.map (·.1) = xs.map S → Paired (RS g) (strValues l) xs
  | [], [], _ => .nil
  | [], _ :: _, h => by simp at h
  | _ :: _, [], h => by simp at h
  | p :: l, x :: xs, h => by
    simp only [List.map_cons, List.cons.injEq] at h
    exact .cons ⟨p.2, by rw [← h.1]⟩ (strValues_paired g l xs h.2)
theorem strValues_of {g : View} : ∀ {vs : List Value} {xs : List (List Nat)}, Paired (RS g) vs xs → ∃ l, vs = strValues l ∧ l.map (·.1) = xs.map S
  | _, _, .nil => ⟨[], rfl, rfl⟩
  | _, _, .cons ⟨t, e⟩ r => by
    obtain ⟨l, h1, h2⟩ := strValues_of r
    exact ⟨(S _, t) :: l, by rw [e, h1]; rfl, by simp [h2]⟩

section
variable {prog : Program} {w : World} {A : Around} {E : Value → Shared → Prop} {s : Shared} {g : View} {Q : Value → Shared → Prop}

theorem r_split {x y : List Nat} {parts : List (List Nat)} {v u : Value} (G : VIn g s.heap) (hv : RS g v x) (hu : RS g u y) (hy : y ≠ []) (hx : x.length ≤ 1000000) (hp : Txt.split (S x) (S y) = parts.map S)
    (hn : (Builtin.Str.partsBetween (S x) (Builtin.Str.occurrences (S x) (S y) 0 (S x).length ((S x).length + 1)) (S y).length).length ≤ 1000000)
    (hQ : ∀ v' g' s', Grow g s g' s' → RList RS g' v' parts → Q v' s') : wpAny (model prog w) A (call (.builtin "str.split") [v, u]) Q E s := by
  obtain ⟨t, rfl⟩ := hv
  obtain ⟨t', rfl⟩ := hu
  refine split_call (by rw [S_length]; simpa using hy) (fun l k hl => ?_) (by rw [S_length]; exact Nat.le_trans hx (by decide)) (Nat.le_trans hn (by decide))
  have h0 := none_of_size (h := s.heap)
  have Gp : Grow g s g { s with heap := s.heap.push { cls := .type "list", data := .seq (strValues l).toArray }, toks := k } := (Grow.refl G).push _ _
  refine hQ _ _ _ (Gp.add (Heap.get?_push_size _ rfl) h0) ⟨_, strValues l, 0, rfl, addv_self _ _ _, ?_⟩
  exact strValues_paired _ _ _ (hl.trans hp)

theorem r_join {sep : List Nat} {rows : List (List Nat)} {v u : Value} (G : VIn g s.heap) (hv : RS g v sep) (hu : RList RS g u rows) (hsz : (rows.map (·.length + sep.length)).sum ≤ 1000000)
    (hQ : ∀ t k, Q (.str (S (joinL sep rows)) t) { s with toks := k }) : wpAny (model prog w) A (call (.builtin "str.join") [v, u]) Q E s := by
  obtain ⟨t, rfl⟩ := hv
  obtain ⟨a, vs, n, rfl, hl, hp⟩ := hu
  obtain ⟨l, rfl, hl'⟩ := strValues_of hp
  exact SC.join ⟨_, G _ _ hl, rfl, n, rfl⟩ hl' (joinOk_of _ _ hsz) fun t' k => by rw [txt_join]; exact hQ t' k

/-- a call of a def of the text -/
theorem callWith_fn {P : Params} {env : Env} {pos : Pos} {f : Addr} {e : Expr} {rest : List Expr} (hf : ∃ oc od fd osl, (KF P).lookup f = some ⟨oc, od, .func fd, osl⟩)
    (h : wpAny (model prog w) A (spliced (backTo pos (starEach (e :: rest) env))) (fun vs s₁ => Wd P s₁.heap ∧ wpAny (model prog w) A (call (.ref f) vs) Q E s₁) E s)
    (he : starEach (e :: rest) env = (false, eval e env) :: starEach rest env := by rfl) :
    wpAny (model prog w) A (callWith pos (.ref f) [] (backTo pos (starEach (e :: rest) env)) []) Q E s := by
  obtain ⟨oc, od, fd, osl, hl⟩ := hf
  exact callWith_def (o := ⟨oc, od, .func fd, osl⟩) rfl (wpAny_mono h (fun vs s₁ q => ⟨q.1.K _ _ hl, q.2⟩) fun _ _ x => x) he
end

end Mine
end

section
open PySem PySem.W PyProof.Rows PySem.Calls
set_option maxRecDepth 100000
namespace Mine
set_option pp.deepTerms false
set_option pp.deepTerms.threshold 2

theorem dropLast_get {α : Type} {l : List α} {x : α} (h : l.getLast? = some x) : l[l.length - 1]? = some x := by
  rw [List.getLast?_eq_getElem?] at h; exact h

section
variable {prog : Program} {w : World} {A : Around} {E : Value → Shared → Prop} {s : Shared} {g : View} {Q : Value → Shared → Prop} {α : Type} {R : Rp α}

theorem item_plainL {a : Addr} {vs : List Value} {n i : Nat} {v x : Value} {value slice : Expr} {t : Tok} (hl : s.heap.get? a = some (listObj vs n)) (hx : vs[i]? = some x) (hi : i < 2 ^ 63) (hQ : Q x s)
    (hs : subscripted slice false (.ref a) (.int (i : Int) t) = operate [.ref a, .int (i : Int) t] (getItem (.ref a) (.int (i : Int) t)) := by with_unfolding_all rfl) (ht : ∀ r, letTemporaryGo value (.ref a) r = pure () := by intro _; with_unfolding_all rfl) :
    wpAny (model prog w) A (subscriptTail value slice (.ref a) (.int (i : Int) t)) Q E s := by
  have hL : s.heap.IsList a vs.toArray := ⟨_, hl, rfl, n, rfl⟩
  exact subscriptTail_builtin hL.typeIs list_getitem_lookup (wpAny_getItem_list hL (by omega) (by omega) (by simpa using hx) hQ) hs ht
theorem item_plainLast {a : Addr} {vs : List Value} {n : Nat} {x : Value} {value slice : Expr} {t : Tok} (hl : s.heap.get? a = some (listObj vs n)) (hx : vs.getLast? = some x) (hQ : Q x s)
    (hs : subscripted slice false (.ref a) (.int (-1) t) = operate [.ref a, .int (-1) t] (getItem (.ref a) (.int (-1) t)) := by with_unfolding_all rfl) (ht : ∀ r, letTemporaryGo value (.ref a) r = pure () := by intro _; with_unfolding_all rfl) :
    wpAny (model prog w) A (subscriptTail value slice (.ref a) (.int (-1) t)) Q E s := by
  have hL : s.heap.IsList a vs.toArray := ⟨_, hl, rfl, n, rfl⟩
  have hne : vs ≠ [] := by rintro rfl; simp at hx
  have hlen : 1 ≤ vs.length := by
    rcases vs with _ | ⟨b, l⟩
    · exact absurd rfl hne
    · simp
  refine subscriptTail_builtin hL.typeIs list_getitem_lookup (wpAny_getItem_list_neg hL (by decide) (by rw [List.size_toArray]; omega) (by decide) ?_ hQ) hs ht
  have : (-1 + ((vs.toArray.size : Nat) : Int)).toNat = vs.length - 1 := by rw [List.size_toArray]; omega
  rw [this, ← dropLast_get hx]
  simp

theorem r_item {xs : List α} {v : Value} {i : Nat} {x : α} {value slice : Expr} {u : Value} (G : VIn g s.heap) (hv : RList R g v xs) (hu : RNat g u i) (hx : xs[i]? = some x) (hi : i < 2 ^ 63) (hQ : ∀ y, R g y x → Q y s)
    (hs : ∀ a t, subscripted slice false (.ref a) (.int (i : Int) t) = operate [.ref a, .int (i : Int) t] (getItem (.ref a) (.int (i : Int) t)) := by intro _ _; with_unfolding_all rfl) (ht : ∀ a r, letTemporaryGo value (.ref a) r = pure () := by intro _ _; with_unfolding_all rfl) :
    wpAny (model prog w) A (subscriptTail value slice v u) Q E s := by
  obtain ⟨a, vs, n, rfl, hl, hp⟩ := hv
  obtain ⟨t, rfl⟩ := hu
  obtain ⟨y, hy, hr⟩ := Paired.get hp i hx
  exact item_plainL (v := y) (G _ _ hl) hy hi (hQ y hr) (hs a t) (ht a)
theorem Paired.last {α β : Type} {F : α → β → Prop} {l : List α} {m : List β} (h : Paired F l m) {b : β} (hb : m.getLast? = some b) : ∃ a, l.getLast? = some a ∧ F a b := by
  rw [List.getLast?_eq_getElem?] at hb
  obtain ⟨a, ha, hf⟩ := Paired.get h _ hb
  exact ⟨a, by rw [List.getLast?_eq_getElem?, h.length]; exact ha, hf⟩
theorem r_last {xs : List α} {v : Value} {x : α} {value slice : Expr} {t : Tok} (G : VIn g s.heap) (hv : RList R g v xs) (hx : xs.getLast? = some x) (hQ : ∀ y, R g y x → Q y s)
    (hs : ∀ a, subscripted slice false (.ref a) (.int (-1) t) = operate [.ref a, .int (-1) t] (getItem (.ref a) (.int (-1) t)) := by intro _; with_unfolding_all rfl) (ht : ∀ a r, letTemporaryGo value (.ref a) r = pure () := by intro _ _; with_unfolding_all rfl) :
    wpAny (model prog w) A (subscriptTail value slice v (.int (-1) t)) Q E s := by
  obtain ⟨a, vs, n, rfl, hl, hp⟩ := hv
  obtain ⟨y, hy, hr⟩ := Paired.last hp hx
  exact item_plainLast (G _ _ hl) hy (hQ y hr) (hs a) (ht a)
/-- the index -1 as it stands in the text -/
theorem minus1 {env : Env} {k : Nat} {p p' : Pos} (hQ : ∀ t n, Q (.int (-1) t) { s with toks := n }) : wpAny (model prog w) A (eval (.UnaryOp .USub (.Constant (.int 1) k p) p') env) Q E s :=
  wpAny_UnaryOp (wpAny_Constant_int (PySem.P.neg_int (hQ _ _)))
end

section
variable {prog : Program} {w : World} {A : Around} {g₀ gt g : View} {s₀ s : Shared} {env : Env} {own : List Addr} {ht : Heap} {m cm : Str → Option Value}
theorem ldn_local {x : Str} {v : Value} {Q : Value → Shared → Prop} {E} (X : InEnv g₀ s₀ env own gt ht m cm g s) (hv : m x = some v) (h : Q v s)
    (hk : env.scope.kind = .function := by rfl) (hl : env.kindOf x = some .local := by rfl) :
    wpAny (model prog w) A (loadName env x) Q E s := wpAny_loadName_local hk hl X.ns hv h
end
end Mine
end

section
open PySem PySem.W PyProof.Rows PySem.Calls
set_option maxRecDepth 100000
namespace Mine
set_option pp.deepTerms false
set_option pp.deepTerms.threshold 2

/-! ## words -/
def bw (l : List Nat) : Array UInt8 := (l.map fun n => n.toUInt8).toArray
def RW : Rp (List Nat) := fun _ v l => ∃ t, v = .bytes (bw l) t
theorem mono_RW : Mono RW := fun _ _ _ _ _ h => h
theorem bw_size (l : List Nat) : (bw l).size = l.length := by simp [bw]
theorem bw_get {l : List Nat} {i : Nat} {c : UInt8} (hl : ∀ n ∈ l, n < 256) (h : (bw l)[i]? = some c) : ∃ n, l[i]? = some n ∧ c.toNat = n := by
  simp only [bw, List.getElem?_toArray, List.getElem?_map, Option.map_eq_some_iff] at h
  obtain ⟨n, h1, rfl⟩ := h
  refine ⟨n, h1, ?_⟩
  have := hl n (List.mem_of_getElem? h1)
  simp only [Nat.toUInt8, UInt8.toNat_ofNat']
  omega
theorem bw_bytes {g : View} {v : Value} {l : List Nat} (h : RW g v l) : RBytes g v (bw l) := h

section
variable {prog : Program} {w : World} {A : Around} {s : Shared} {g : View} {Q : Value → Shared → Prop} {value slice : Expr}

theorem r_bitem {l : List Nat} {i n : Nat} {v u : Value} (hl : ∀ n ∈ l, n < 256) (hlen : l.length ≤ 1000) (hv : RW g v l) (hu : RNat g u i) (hi : l[i]? = some n) (hQ : ∀ y k, RNat g y n → Q y { s with toks := k })
    (hs : ∀ t t', subscripted slice false (.bytes (bw l) t) (.int (i : Int) t') = operate [.bytes (bw l) t, .int (i : Int) t'] (getItem (.bytes (bw l) t) (.int (i : Int) t')) := by intro _ _; with_unfolding_all rfl)
    (ht : ∀ t r, letTemporaryGo value (.bytes (bw l) t) r = pure () := by intro _ _; with_unfolding_all rfl) :
    wpAny (model prog w) A (subscriptTail value slice v u) Q NoE s := by
  obtain ⟨t, rfl⟩ := hv
  obtain ⟨t', rfl⟩ := hu
  have hlt : i < l.length := by
    rw [List.getElem?_eq_some_iff] at hi; exact hi.1
  refine subscriptTail_builtin (typeIs_bytes _ _ _) FB.slot_bytes_getitem.lookup ?_ (hs t t') (ht t)
  refine getItem_bytes (by rw [List.length_map]; omega) (by omega) (by rw [List.length_map]; omega) (hQ _ _ ⟨s.toks, ?_⟩)
  congr 1
  simp only [Int.toNat_natCast, List.getD_eq_getElem?_getD, List.getElem?_map, hi, Option.map_some, Option.getD_some, Nat.toUInt8, UInt8.toNat_ofNat']
  have := hl n (List.mem_of_getElem? hi)
  omega

theorem picked_bw (l : List Nat) (lo hi : Option Int) : ∃ a b, KBy.picked (bw l) lo hi = bw ((l.drop a).take b) ∧ a = lo.elim 0 (clipAt l.length) ∧ b = hi.elim l.length (clipAt l.length) - lo.elim 0 (clipAt l.length) := by
  refine ⟨_, _, ?_, rfl, rfl⟩
  rw [KBc.picked_eq, bw_size]
  simp [bw, List.map_take, List.map_drop]

theorem r_bslice {l : List Nat} {v a b : Value} {lo hi : Option Int} (hv : RW g v l) (hlen : l.length ≤ 1000) (ha : IsPart a lo) (hb : IsPart b hi)
    (hQ : ∀ y k, RW g y ((l.drop (lo.elim 0 (clipAt l.length))).take (hi.elim l.length (clipAt l.length) - lo.elim 0 (clipAt l.length))) → Q y { s with heap := s.heap.push { cls := .type "slice", data := .fields #[a, b, .none] }, toks := k })
    (hs : ∀ t, subscripted slice false (.bytes (bw l) t) (.ref s.heap.objs.size) = operate [.ref s.heap.objs.size, .bytes (bw l) t] (getItem (.bytes (bw l) t) (.ref s.heap.objs.size)) := by intro _; with_unfolding_all rfl)
    (ht : ∀ t r, letTemporaryGo value (.bytes (bw l) t) r = pure () := by intro _ _; with_unfolding_all rfl) :
    wpAny (model prog w) A (subscriptTail value slice v (.ref s.heap.objs.size)) Q NoE { s with heap := s.heap.push { cls := .type "slice", data := .fields #[a, b, .none] } } := by
  obtain ⟨t, rfl⟩ := hv
  refine tail_of_ItemOn ⟨"bytes", _, FB.slot_bytes_getitem.lookup, typeIs_bytes _ _ _, getItem_meets (typeIs_bytes _ _ _) (by decide) FB.slot_bytes_getitem FB.entry_bytes_getitem (FB.args_bytes_getitem_2 _ _) (KBc.meets_slice2 (bw l) t _ ha hb)
    ⟨Heap.IsSliceOf.new _ _ _ _, Nat.le_trans (KBc.size_picked_le (bw l) lo hi) (by rw [bw_size]; exact Nat.le_trans hlen (by decide)), fun t' k => ?_⟩⟩ (hs t) (ht t)
  obtain ⟨_, _, e, rfl, rfl⟩ := picked_bw l lo hi
  exact hQ _ _ ⟨t', by rw [e]⟩

/-- x[k:] of bytes -/
theorem r_bfrom {l : List Nat} {v : Value} {k : Nat} {t : Tok} (hv : RW g v l) (hlen : l.length ≤ 1000)
    (hQ : ∀ y n, RW g y (l.drop k) → Q y { s with heap := s.heap.push { cls := .type "slice", data := .fields #[.int (k : Int) t, .none, .none] }, toks := n })
    (hs : ∀ t, subscripted slice false (.bytes (bw l) t) (.ref s.heap.objs.size) = operate [.ref s.heap.objs.size, .bytes (bw l) t] (getItem (.bytes (bw l) t) (.ref s.heap.objs.size)) := by intro _; with_unfolding_all rfl)
    (ht : ∀ t r, letTemporaryGo value (.bytes (bw l) t) r = pure () := by intro _ _; with_unfolding_all rfl) :
    wpAny (model prog w) A (subscriptTail value slice v (.ref s.heap.objs.size)) Q NoE { s with heap := s.heap.push { cls := .type "slice", data := .fields #[.int (k : Int) t, .none, .none] } } := by
  refine r_bslice hv hlen (.int _ _) .none (fun y n h => hQ y n ?_) hs ht
  simp only [Option.elim, clipAt_nat] at h
  rw [show (l.drop (min k l.length)).take (l.length - min k l.length) = l.drop k by
    by_cases hk : k ≤ l.length
    · rw [Nat.min_eq_left hk, List.take_of_length_le (by simp)]
    · rw [Nat.min_eq_right (by omega), List.drop_of_length_le (Nat.le_refl _), List.drop_of_length_le (by omega), List.take_nil]] at h
  exact h
/-- x[:k] of bytes -/
theorem r_bto {l : List Nat} {v : Value} {k : Nat} {t : Tok} (hv : RW g v l) (hlen : l.length ≤ 1000)
    (hQ : ∀ y n, RW g y (l.take k) → Q y { s with heap := s.heap.push { cls := .type "slice", data := .fields #[.none, .int (k : Int) t, .none] }, toks := n })
    (hs : ∀ t, subscripted slice false (.bytes (bw l) t) (.ref s.heap.objs.size) = operate [.ref s.heap.objs.size, .bytes (bw l) t] (getItem (.bytes (bw l) t) (.ref s.heap.objs.size)) := by intro _; with_unfolding_all rfl)
    (ht : ∀ t r, letTemporaryGo value (.bytes (bw l) t) r = pure () := by intro _ _; with_unfolding_all rfl) :
    wpAny (model prog w) A (subscriptTail value slice v (.ref s.heap.objs.size)) Q NoE { s with heap := s.heap.push { cls := .type "slice", data := .fields #[.none, .int (k : Int) t, .none] } } := by
  refine r_bslice hv hlen .none (.int _ _) (fun y n h => hQ y n ?_) hs ht
  simp only [Option.elim, clipAt_nat, List.drop_zero, Nat.sub_zero] at h
  rw [show l.take (min k l.length) = l.take k by
    by_cases hk : k ≤ l.length
    · rw [Nat.min_eq_left hk]
    · rw [Nat.min_eq_right (by omega), List.take_of_length_le (Nat.le_refl _), List.take_of_length_le (by omega)]] at h
  exact h

/-- the sum of a list of ints -/
theorem preSum_list : ∀ (l : List Nat), preSum (fun i => (l.getD i 0 : Int)) l.length = (l.sum : Nat) := by
  have key : ∀ (l : List Nat) (j : Nat), j ≤ l.length → preSum (fun i => (l.getD i 0 : Int)) j = ((l.take j).sum : Nat) := by
    intro l j
    induction j with
    | zero => intro _; simp [preSum]
    | succ j ih =>
      intro hj
      have h := List.getElem?_eq_getElem (show j < l.length by omega)
      rw [preSum, ih (by omega), List.take_succ, h]
      have e : l.getD j 0 = l[j] := by simp [List.getD_eq_getElem?_getD, h]
      simp only [e, Option.toList_some, List.sum_append, List.sum_cons, List.sum_nil]
      omega
  intro l
  rw [key l l.length (Nat.le_refl _), List.take_length]
theorem r_sum {l : List Nat} {v : Value} (hh : A.handled = none) (G : VIn g s.heap) (hv : RList RNat g v l)
    (hQ : ∀ y s', Grow g s g s' → RNat g y l.sum → Q y s') : wpAny (model prog w) A (call (.builtin "sum") [v]) Q NoE s := by
  obtain ⟨a, vs, n, rfl, hl, hp⟩ := hv
  have hL : s.heap.IsList a vs.toArray := ⟨_, G _ _ hl, rfl, n, rfl⟩
  have hne : a ≠ s.heap.objs.size := Nat.ne_of_lt (Heap.lt_size (G _ _ hl))
  have hlen : vs.toArray.size = l.length := by rw [List.size_toArray]; exact hp.length
  refine call_sum_walkG (wpAny_pyIter_list hL ⟨_, _, _, vs.toArray.size, _, _, fun i => (l.getD i 0 : Int), rfl, Walks.list (prog := prog) (w := w) (A := A.in1) hh s.heap.objs.size a hne vs.toArray, ⟨⟨_, Heap.get?_push_size _ rfl, rfl, rfl⟩, hL.at fun o e => Heap.get?_push_of_some _ e⟩, ?_, ?_, ?_⟩)
  · intro b hb
    simp only [List.mem_cons, List.not_mem_nil, or_false] at hb
    rcases hb with rfl | rfl
    · exact Heap.lt_size (Heap.get?_push_size s.heap (o := { cls := .type "list_iterator", data := .fields #[.ref a, .int 0 0] }) rfl)
    · exact Heap.lt_size (Heap.get?_push_of_some _ (G _ _ hl))
  · intro i y hy
    obtain ⟨x, hx, t, rfl⟩ := Mine.Paired.getL hp i (by simpa using hy)
    exact ⟨t, by simp [List.getD_eq_getElem?_getD, hx]⟩
  · intro h' tk t' hk
    rw [hlen, preSum_list]
    refine hQ _ _ ⟨⟨h', tk, rfl, fun b o e => hk b o (fun q => ?_) (Heap.get?_push_of_some _ e)⟩, VLe.refl _, fun b o e => hk b o (fun q => ?_) (Heap.get?_push_of_some _ (G _ _ e)), fun _ _ e => .inl e⟩ ⟨t', rfl⟩
    · rw [List.mem_singleton] at q; exact absurd q (Nat.ne_of_lt (Heap.lt_size e))
    · rw [List.mem_singleton] at q; exact absurd q (Nat.ne_of_lt (Heap.lt_size (G _ _ e)))
end
end Mine
end

section
open PySem PySem.W PyProof.Rows PySem.Calls
set_option maxRecDepth 100000
namespace Mine
set_option pp.deepTerms false
set_option pp.deepTerms.threshold 2

section
variable {prog : Program} {w : World} {A : Around} {s : Shared} {g : View} {Q : Value → Shared → Prop} {value slice : Expr} {α : Type} {R : Rp α}

/-- a temporary's item -/
theorem tmp {o i : Value} (h : wpAny (model prog w) A (subscriptTail (.Name (Str.ofString "x") default) slice o i) Q NoE s) : wpAny (model prog w) A (subscriptTail value slice o i) Q NoE s :=
  kba_turn (fun _ => rfl) h
theorem S_str_length (x : List Nat) : (S x).length = x.length := S_length x
theorem r_add_str {x y : List Nat} {u v : Value} (hu : RS g u x) (hv : RS g v y) (hsz : x.length + y.length ≤ 1000000) (hQ : ∀ z k, RS g z (x ++ y) → Q z { s with toks := k }) :
    wpAny (model prog w) A (binaryOp .Add u v) Q NoE s := by
  obtain ⟨t, rfl⟩ := hu
  obtain ⟨t', rfl⟩ := hv
  refine SB.add (fun t'' k => hQ _ _ ⟨t'', by rw [S_append]⟩) ?_
  rw [S_length, S_length]; exact Nat.le_trans hsz (by decide)

theorem r_add_list {xs ys : List α} {u v : Value} (MR : Mono R) (G : VIn g s.heap) (hu : RList R g u xs) (hv : RList R g v ys) (hsz : xs.length + ys.length ≤ 1000000)
    (hQ : ∀ z g' s', Grow g s g' s' → RList R g' z (xs ++ ys) → Q z s') : wpAny (model prog w) A (binaryOp .Add u v) Q NoE s := by
  obtain ⟨a, vs, n, rfl, hl, hp⟩ := hu
  obtain ⟨b, ws, m, rfl, hl2, hp2⟩ := hv
  refine P.add_list (G _ _ hl) (G _ _ hl2) ?_ (by rw [List.size_toArray, List.size_toArray, hp.length, hp2.length]; exact Nat.le_trans hsz (by decide))
  have Gp := (Grow.refl G).push (s := s) { cls := .type "list", data := .seq (vs.toArray ++ ws.toArray) } s.toks
  have h0 := none_of_size (h := s.heap)
  refine hQ _ _ _ (Gp.add (Heap.get?_push_size _ rfl) h0) ⟨_, vs ++ ws, 0, rfl, ?_, ?_⟩
  · rw [addv_self]; simp [listObj]
  · have hle := addv_le { cls := .type "list", data := .seq (vs.toArray ++ ws.toArray) } ((Grow.refl G).none₀ h0).2
    exact Paired.append (Paired.mono' (fun _ _ q => MR _ _ _ _ hle q) hp) (Paired.mono' (fun _ _ q => MR _ _ _ _ hle q) hp2)

/-- 'abc'[i] -/
theorem r_letter {i : Nat} {v u : Value} (hv : RS g v [97, 98, 99]) (hu : RNat g u i) (hi : i < 3) (hQ : ∀ z k, RS g z [97 + i] → Q z { s with toks := k })
    (hs : ∀ t t', subscripted slice false (.str (S [97, 98, 99]) t) (.int (i : Int) t') = operate [.str (S [97, 98, 99]) t, .int (i : Int) t'] (getItem (.str (S [97, 98, 99]) t) (.int (i : Int) t')) := by intro _ _; with_unfolding_all rfl)
    (ht : ∀ t r, letTemporaryGo value (.str (S [97, 98, 99]) t) r = pure () := by intro _ _; with_unfolding_all rfl) :
    wpAny (model prog w) A (subscriptTail value slice v u) Q NoE s := by
  obtain ⟨t, rfl⟩ := hv
  obtain ⟨t', rfl⟩ := hu
  refine subscriptTail_builtin (typeIs_str _ _ _) F.slot_str_getitem.lookup ?_ (hs t t') (ht t)
  refine P.getItem_str (c := 97 + i) ?_ ?_ (hQ _ _ ⟨s.toks, rfl⟩)
  · have : i = 0 ∨ i = 1 ∨ i = 2 := by omega
    rcases this with rfl | rfl | rfl <;> decide
  · have : i = 0 ∨ i = 1 ∨ i = 2 := by omega
    rcases this with rfl | rfl | rfl <;> decide

/-- a slice of a list -/
theorem r_lslice {xs ys : List α} {v a b c : Value} {lo hi st : Option Int} (MR : Mono R) (G : VIn g s.heap) (hv : RList R g v xs) (hlen : xs.length ≤ 1000) (ha : IsPart a lo) (hb : IsPart b hi) (hc : IsPart c st) (h0 : st ≠ some 0)
    (hpk : ∀ vs, Paired (R g) vs xs → Paired (R g) (slicePick vs.toArray lo hi st).toList ys)
    (hQ : ∀ z g' s', Grow g s g' s' → RList R g' z ys → Q z s')
    (hs : ∀ l, subscripted slice false (.ref l) (.ref s.heap.objs.size) = operate [.ref s.heap.objs.size, .ref l] (getItem (.ref l) (.ref s.heap.objs.size)) := by intro _; with_unfolding_all rfl)
    (ht : ∀ l r, letTemporaryGo value (.ref l) r = pure () := by intro _ _; with_unfolding_all rfl) :
    wpAny (model prog w) A (subscriptTail value slice v (.ref s.heap.objs.size)) Q NoE { s with heap := s.heap.push { cls := .type "slice", data := .fields #[a, b, c] } } := by
  obtain ⟨l, vs, n, rfl, hl, hp⟩ := hv
  have hL : s.heap.IsList l vs.toArray := ⟨_, G _ _ hl, rfl, n, rfl⟩
  have Gs := (Grow.refl G).push (s := s) { cls := .type "slice", data := .fields #[a, b, c] } s.toks
  refine tail_of_ItemOn ⟨"list", _, list_getitem_lookup, Heap.IsList.typeIs (s := { s with heap := s.heap.push { cls := .type "slice", data := .fields #[a, b, c] } }) (hL.push _),
    wpAny_getItem_list_slice (hL.push _) (Heap.IsSliceOf.new ..) ha hb hc h0 ?_ (by rw [List.size_toArray, hp.length]; exact Nat.le_trans hlen (by decide))⟩ (hs l) (ht l)
  have Gp := Gs.push { cls := .type "list", data := .seq (slicePick vs.toArray lo hi st) } s.toks
  have h1 := Gs.none₀ none_of_size
  refine hQ _ _ _ (Gp.add (Heap.get?_push_size _ rfl) h1.1) ⟨_, (slicePick vs.toArray lo hi st).toList, 0, rfl, ?_, ?_⟩
  · rw [addv_self]
  · exact Paired.mono' (fun _ _ q => MR _ _ _ _ (addv_le _ h1.2) q) (hpk vs hp)
theorem Paired.drop {α β : Type} {F : α → β → Prop} : ∀ {l : List α} {m : List β} (_ : Paired F l m) (k : Nat), Paired F (l.drop k) (m.drop k)
  | _, _, h, 0 => by simpa using h
  | _, _, .nil, k + 1 => by simpa using Paired.nil
  | _, _, .cons _ t, k + 1 => by simpa using Paired.drop t k
theorem Paired.take {α β : Type} {F : α → β → Prop} : ∀ {l : List α} {m : List β} (_ : Paired F l m) (k : Nat), Paired F (l.take k) (m.take k)
  | _, _, _, 0 => by simpa using Paired.nil
  | _, _, .nil, k + 1 => by simpa using Paired.nil
  | _, _, .cons x t, k + 1 => by simpa using Paired.cons x (Paired.take t k)
theorem pick_from {g : View} {xs : List α} (k : Nat) (vs : List Value) (hp : Paired (R g) vs xs) : Paired (R g) (slicePick vs.toArray (some (k : Int)) none none).toList (xs.drop k) := by
  rw [slicePick_from']; simpa using Mine.Paired.drop hp k
theorem pick_upto {g : View} {xs : List α} (k : Nat) (vs : List Value) (hp : Paired (R g) vs xs) : Paired (R g) (slicePick vs.toArray none (some (k : Int)) none).toList (xs.take k) := by
  rw [slicePick_upto']; simpa using Mine.Paired.take hp k
end
end Mine
end

section
open PySem PySem.W PyProof.Rows PySem.Calls
set_option maxRecDepth 100000
namespace Mine
set_option pp.deepTerms false
set_option pp.deepTerms.threshold 2

def pick1 {α β : Type} (F : α → β) (xs : List α) (i : Nat) : List β := (xs[i]?.map F).toList
theorem pick1_all {α β : Type} (F : α → β) (xs : List α) : (List.range xs.length).flatMap (pick1 F xs) = xs.map F := by
  have key : ∀ n, n ≤ xs.length → (List.range n).flatMap (pick1 F xs) = (xs.take n).map F := by
    intro n
    induction n with
    | zero => intro _; simp
    | succ n ih =>
      intro hn
      rw [List.range_succ, List.flatMap_append, ih (by omega), List.take_succ, List.map_append]
      simp [pick1, List.getElem?_eq_getElem (show n < xs.length by omega)]
  rw [key _ (Nat.le_refl _), List.take_length]
theorem pick1_size {α β : Type} (F : α → β) (xs : List α) (i : Nat) (h : i ≤ xs.length) : ((List.range i).flatMap (pick1 F xs)).length ≤ xs.length := by
  have : ∀ n, ((List.range n).flatMap (pick1 F xs)).length ≤ n := fun n => by
    induction n with
    | zero => simp
    | succ n ih =>
      rw [List.range_succ, List.flatMap_append, List.length_append]
      have : (pick1 F xs n).length ≤ 1 := by unfold pick1; cases xs[n]?.map F <;> simp
      simp only [List.flatMap_cons, List.flatMap_nil, List.append_nil]; omega
  exact Nat.le_trans (this i) h

theorem lookup_sub0 {cells : List (Str × Addr)} : ∀ n c, ([] : List (Str × Addr)).lookup n = some c → cells.lookup n = some c := fun _ _ e => nomatch e
theorem lookup_sub_cons {n₀ : Str} {c₀ : Addr} {r cells : List (Str × Addr)} (h : cells.lookup n₀ = some c₀) (hr : ∀ n c, r.lookup n = some c → cells.lookup n = some c) : ∀ n c, ((n₀, c₀) :: r).lookup n = some c → cells.lookup n = some c := fun n c e => by
  rw [List.lookup_cons] at e
  by_cases hn : n == n₀
  · have := eq_of_beq hn; subst this
    simp at e; rw [h, e]
  · simp only [hn] at e; exact hr n c e

section
variable {prog : Program} {w : World} {A : Around} {α β : Type} {R₁ : Rp α} {R : Rp β}

theorem InEnv.apartNew {g₀ gt g : View} {s₀ s : Shared} {env : Env} {own : List Addr} {ht : Heap} {m cm : Str → Option Value} (x : InEnv g₀ s₀ env own gt ht m cm g s) {D : Addr} (hD : s.heap.get? D = none) : D ≠ env.locals ∧ (∀ n c, env.cells.lookup n = some c → c ≠ D) ∧ D ∉ own := by
  refine ⟨fun q => ?_, fun n c e q => ?_, fun q => ?_⟩
  · obtain ⟨o, e⟩ := x.live _ x.locIn; rw [← q, hD] at e; cases e
  · obtain ⟨o, ho, _⟩ := x.cell n c e; rw [q, hD] at ho; cases ho
  · obtain ⟨o, e⟩ := x.live _ q; rw [hD] at e; cases e

/-- a comprehension that maps a list -/
theorem comp1_map {elt : Expr} {tx : Str} {px : Pos} {scope : Scope} {env : Env} {cl : List (Str × Addr)} {cm : Str → Option Value} {g g₁ : View} {s s₁ : Shared} {xs : List α} {xv : Value} (F : α → β)
    (hh : A.handled = none) (G : Grow g s g₁ s₁) (hv : RList R₁ g₁ xv xs) (hcl : ∀ C, (compEnvC scope cl C env).kindOf tx = some .local) (hk : scope.kind = .function)
    (M₁ : Mono R₁)
    (turn : ∀ C (m : Str → Option Value) g₂ g₃ h₃ s₃ v x, x ∈ xs → InEnv g s (compEnvC scope cl C env) [C] g₂ h₃ (fun y => if y = tx then some v else m y) cm g₃ s₃ → R₁ g₃ v x → VLe g₁ g₃ →
      wpAny (model prog w) A (eval elt (compEnvC scope cl C env)) (fun y s₄ => ∃ m g₄, InEnv g s (compEnvC scope cl C env) [C] g₂ h₃ m cm g₄ s₄ ∧ R g₄ y (F x)) NoE s₃) :
    wpAny (model prog w) A (pyIter xv) (fun it s₂ => Comp1 prog w A R g s env scope cl cm (.Name tx px) elt [] (pick1 F xs) xs.length it s₂) NoE s₁ := by
  refine src_list hh G hv fun it s₂ G2 S2 => ⟨g₁, _, G2, S2 _, fun C hC => ?_⟩
  rintro i v s₃ m cm' g₃ hi X hm ⟨x, hx, hR⟩ hle
  subst hm
  refine wpAny_assign_Name (st_local X (fun s₄ X₄ _ => ?_) hk (hcl C))
  refine tests_nil ?_
  rw [if_pos rfl]
  refine wpAny_mono (turn C m g₃ g₃ s₃.heap s₄ v x (List.mem_of_getElem? hx) X₄ (M₁ _ _ _ _ hle hR) hle) (fun y s₅ q => ?_) fun _ _ f => f
  obtain ⟨m', g₅, X₅, hR₅⟩ := q
  exact ⟨m', _, g₅, F x, X₅, rfl, hR₅, by simp [pick1, hx]⟩

theorem ev_map {elt iter : Expr} {tx : Str} {px pos : Pos} {scope : Scope} {env : Env} {cl : List (Str × Addr)} {g₀ gt g : View} {s₀ s : Shared} {own : List Addr} {ht : Heap} {m cm : Str → Option Value} {xs : List α} {Q : Value → Shared → Prop} (F : α → β)
    (MR : Mono R) (M₁ : Mono R₁) (hh : A.handled = none) (X : InEnv g₀ s₀ env own gt ht m cm g s)
    (hclos : closureFor scope env = pure cl) (hsub : ∀ n c, cl.lookup n = some c → env.cells.lookup n = some c) (hlen : xs.length ≤ 100000)
    (hit : wpAny (model prog w) A (eval iter env) (fun xv s₁ => ∃ g₁, Grow g s g₁ s₁ ∧ RList R₁ g₁ xv xs) NoE s)
    (turn : ∀ C (m : Str → Option Value) g₁ g₂ g₃ h₃ s₃ v x, x ∈ xs → VLe g g₁ → InEnv g s (compEnvC scope cl C env) [C] g₂ h₃ (fun y => if y = tx then some v else m y) cm g₃ s₃ → R₁ g₃ v x → VLe g₁ g₃ →
      wpAny (model prog w) A (eval elt (compEnvC scope cl C env)) (fun y s₄ => ∃ m g₄, InEnv g s (compEnvC scope cl C env) [C] g₂ h₃ m cm g₄ s₄ ∧ R g₄ y (F x)) NoE s₃)
    (hQ : ∀ v g' s', Grow g s g' s' → InEnv g₀ s₀ env own gt ht m cm g' s' → RList R g' v (xs.map F) → Q v s')
    (hcl : ∀ C, (compEnvC scope cl C env).kindOf tx = some .local := by intro _; rfl)
    (hcell : ∀ x ∈ scope.names, x.2 ≠ .cell := by decide) (hk : scope.kind = .function := by rfl) (hnames : ∀ x ∈ scope.names, x.2 = .local → scope.names.lookup x.1 = some .local := by decide)
    (hs : ∀ x, foldedSetIterable iter env x = pure x := by intro _; rfl) :
    wpAny (model prog w) A (eval (.ListComp elt [⟨.Name tx px, iter, [], 0⟩] scope pos) env) Q NoE s := by
  refine ev_comp1 (n := xs.length) (cm := cm) MR (pick1 F xs) hclos hcell hk hnames (fun n c e => X.cell n c (hsub n c e)) (fun n n' c e e' => X.apart n n' c (hsub _ _ e) (hsub _ _ e')) (fun i hi => Nat.le_trans (pick1_size F xs i hi) (Nat.le_trans hlen (by decide)))
    (wpAny_mono hit (fun xv s₁ q => ?_) fun _ _ f => f) (fun v g' s' G hv => hQ v g' s' G (X.step G) (by rw [pick1_all] at hv; exact hv)) hs
  obtain ⟨g₁, G, hv⟩ := q
  exact comp1_map F hh G hv hcl hk M₁ fun C m g₂ g₃ h₃ s₃ v x hx X₃ hR hle => turn C m g₁ g₂ g₃ h₃ s₃ v x hx G.le X₃ hR hle

theorem st_map {elt iter : Expr} {tx y : Str} {px py pos spos : Pos} {scope : Scope} {env : Env} {cl : List (Str × Addr)} {g₀ gt g : View} {s₀ s : Shared} {own : List Addr} {ht : Heap} {m cm : Str → Option Value} {xs : List α} {Q : Flow → Shared → Prop} (F : α → β)
    (MR : Mono R) (M₁ : Mono R₁) (hh : A.handled = none) (X : InEnv g₀ s₀ env own gt ht m cm g s)
    (hsw : swapsWith (.ListComp elt [⟨.Name tx px, iter, [], 0⟩] scope pos) (some (.Name y py)) spos.line env = pure true)
    (hclos : closureFor scope env = pure cl) (hsub : ∀ n c, cl.lookup n = some c → env.cells.lookup n = some c) (hlen : xs.length ≤ 100000)
    (hit : wpAny (model prog w) A (eval iter env) (fun xv s₁ => ∃ g₁, Grow g s g₁ s₁ ∧ RList R₁ g₁ xv xs) NoE s)
    (turn : ∀ C (m : Str → Option Value) g₁ g₂ g₃ h₃ s₃ v x, x ∈ xs → VLe g g₁ → InEnv g s (compEnvC scope cl C env) [C] g₂ h₃ (fun y => if y = tx then some v else m y) cm g₃ s₃ → R₁ g₃ v x → VLe g₁ g₃ →
      wpAny (model prog w) A (eval elt (compEnvC scope cl C env)) (fun y s₄ => ∃ m g₄, InEnv g s (compEnvC scope cl C env) [C] g₂ h₃ m cm g₄ s₄ ∧ R g₄ y (F x)) NoE s₃)
    (hQ : ∀ v g' s', InEnv g₀ s₀ env own gt ht (fun z => if z = y then some v else m z) cm g' s' → VLe g g' → KB [env.locals] s.heap s'.heap → RList R g' v (xs.map F) → Q .next s')
    (hcl : ∀ C, (compEnvC scope cl C env).kindOf tx = some .local := by intro _; rfl)
    (hek : env.scope.kind = .function := by rfl) (hl : env.kindOf y = some .local := by rfl)
    (hcell : ∀ x ∈ scope.names, x.2 ≠ .cell := by decide) (hk : scope.kind = .function := by rfl) (hnames : ∀ x ∈ scope.names, x.2 = .local → scope.names.lookup x.1 = some .local := by decide)
    (hs : ∀ x, foldedSetIterable iter env x = pure x := by intro _; rfl) :
    wpAny (model prog w) A (exec (.Assign [.Name y py] (.ListComp elt [⟨.Name tx px, iter, [], 0⟩] scope pos) spos) env) Q NoE s := by
  refine st_comp1 (n := xs.length) (cm := cm) MR (pick1 F xs) X.rebase hsw hclos hcell hk hnames (fun n c e => X.cell n c (hsub n c e)) (fun n n' c e e' => X.apart n n' c (hsub _ _ e) (hsub _ _ e')) (fun i hi => Nat.le_trans (pick1_size F xs i hi) (Nat.le_trans hlen (by decide)))
    (wpAny_mono hit (fun xv s₁ q => ?_) fun _ _ f => f) (fun v g' s' X' hle hkb hv => hQ v g' s' ?_ hle hkb (by rw [pick1_all] at hv; exact hv)) hek hl hs
  · obtain ⟨g₁, G, hv⟩ := q
    exact comp1_map F hh G hv hcl hk M₁ fun C m g₂ g₃ h₃ s₃ v x hx X₃ hR hle => turn C m g₁ g₂ g₃ h₃ s₃ v x hx G.le X₃ hR hle
  · exact { X' with
      since := X.since.trans X'.since
      leS := X.leS.trans X'.leS
      newS := fun b o e => by
        rcases X'.newS b o e with h | h
        · exact X.newS b o h
        · by_cases hb : b ∈ own
          · rw [X'.out b hb] at e; cases e
          · right
            cases hx : ht.get? b with
            | none => rfl
            | some o' => rw [X.since b o' hb hx] at h; cases h
      was := X.was }
end
end Mine
end

section
open PySem PySem.W PyProof.Rows
set_option maxRecDepth 100000
namespace Mine
open PySem.Builtin PySem.Builtin.Str PySem.StrLaws

def Good (r : List Nat) : Prop := (∃ q, r = 46 :: q) ∧ ∀ c ∈ r, c ≠ 10 ∧ c ≠ 13
def IsEnd (e : List Nat) : Prop := e = [10] ∨ e = [13] ∨ e = [13, 10]

theorem parts_len (x y : Str) : (partsBetween x (occurrences x y 0 x.length (x.length + 1)) y.length).length ≤ x.length + 2 := by
  rw [partsBetween_eq]
  have h := occ_length_le x y 0 x.length (x.length + 1)
  have : ∀ (cuts : List Nat) (a : Nat), (partsFrom x y.length a cuts).length = cuts.length + 1 := by
    intro cuts
    induction cuts with
    | nil => intro a; rfl
    | cons c r ih => intro a; simp [partsFrom, ih]
  rw [this]; omega

theorem at_iff (text e : List Nat) (i : Nat) : At (S text) (S e) (S text).length i ↔ i + e.length ≤ text.length ∧ (text.drop i).take e.length = e := by
  unfold At
  rw [S_length, S_length, subAt_eq, S_length]
  simp
theorem sub_S (text : List Nat) (i j : Nat) : strSub (S text) i j = S ((text.drop i).take (j - i)) := by
  apply Str.ext'
  apply Array.ext'
  rw [strSub_toList]
theorem head_of_end {e : List Nat} (he : IsEnd e) : ∃ c t, e = c :: t ∧ (c = 10 ∨ c = 13) := by
  rcases he with rfl | rfl | rfl
  · exact ⟨10, [], rfl, .inl rfl⟩
  · exact ⟨13, [], rfl, .inr rfl⟩
  · exact ⟨13, [10], rfl, .inr rfl⟩
/-- no line end begins within a good row -/
theorem not_at {e : List Nat} (he : IsEnd e) {pre x post text : List Nat} (hx : ∀ c ∈ x, c ≠ 10 ∧ c ≠ 13) (ht : text = pre ++ (x ++ post)) {i : Nat} (h1 : pre.length ≤ i) (h2 : i < pre.length + x.length) : ¬ (text.drop i).take e.length = e := by
  intro h
  obtain ⟨c, t, rfl, hc⟩ := head_of_end he
  obtain ⟨d, rfl⟩ := Nat.exists_eq_add_of_le h1
  have hd : d < x.length := by omega
  have e1 : text.drop (pre.length + d) = x.drop d ++ post := by
    rw [ht, List.drop_append, List.drop_append]
    simp [Nat.sub_eq_zero_of_le (Nat.le_of_lt hd)]
  have e2 : x.drop d = x[d] :: x.drop (d + 1) := by rw [List.drop_eq_getElem_cons hd]
  rw [e1, e2] at h
  simp only [List.length_cons, List.cons_append, List.take_succ_cons, List.cons.injEq] at h
  have := hx x[d] (List.getElem_mem hd)
  rw [h.1] at this
  rcases hc with rfl | rfl
  · exact this.1 rfl
  · exact this.2 rfl

theorem chain_rows {e : List Nat} (he : IsEnd e) : ∀ (rows : List (List Nat)) (pre text cuts : List Nat) (f : Nat), rows ≠ [] → (∀ r ∈ rows, Good r) → text = pre ++ joinL e rows →
    ChainG (S text) (S e) (S text).length pre.length cuts f → (∀ k, f ≤ k → ¬ At (S text) (S e) (S text).length k) → partsFrom (S text) e.length pre.length cuts = rows.map S
  | [], _, _, _, _, h, _, _, _, _ => absurd rfl h
  | [x], pre, text, cuts, f, _, hr, ht, hG, hn => by
    have hx := hr x List.mem_cons_self
    have ht1 : text = pre ++ (x ++ []) := by rw [ht]; simp [joinL]
    have hl : text.length = pre.length + x.length := by rw [ht1]; simp
    have none : ∀ k, pre.length ≤ k → ¬ At (S text) (S e) (S text).length k := fun k hk hA => by
      rw [at_iff] at hA
      have : 0 < e.length := by rcases he with rfl | rfl | rfl <;> simp
      exact not_at he hx.2 ht1 hk (by omega) hA.2
    cases cuts with
    | nil =>
      show [strSub (S text) pre.length (S text).length] = _
      rw [sub_S, ht1, S_length]; simp
    | cons c r => exact absurd hG.2.1 (none c hG.1)
  | x :: y :: r, pre, text, cuts, f, _, hr, ht, hG, hn => by
    have hx := hr x List.mem_cons_self
    have ht1 : text = pre ++ (x ++ (e ++ joinL e (y :: r))) := by rw [ht, joinL]; simp
    have hl : text.length = pre.length + x.length + e.length + (joinL e (y :: r)).length := by rw [ht1]; simp; omega
    have here : At (S text) (S e) (S text).length (pre.length + x.length) := by
      rw [at_iff]
      refine ⟨by omega, ?_⟩
      have e1 : text.drop (pre.length + x.length) = e ++ joinL e (y :: r) := by
        have e2 : text = (pre ++ x) ++ (e ++ joinL e (y :: r)) := by rw [ht1]; simp
        rw [e2, List.drop_left' (by simp)]
      rw [e1, List.take_left' rfl]
    have hxl : 0 < x.length := by obtain ⟨q, rfl⟩ := hx.1; simp
    cases cuts with
    | nil =>
      have hf : f = pre.length := hG
      exact absurd here (hn _ (by omega))
    | cons c cs =>
      obtain ⟨h1, h2, h3, h4⟩ := hG
      have hc : c = pre.length + x.length := by
        rcases Nat.lt_trichotomy c (pre.length + x.length) with h | h | h
        · rw [at_iff] at h2
          exact absurd h2.2 (not_at he hx.2 ht1 h1 h)
        · exact h
        · exact absurd here (h3 _ (by omega) h)
      subst hc
      show strSub (S text) pre.length (pre.length + x.length) :: partsFrom (S text) e.length (pre.length + x.length + e.length) cs = _
      have hpl : (pre ++ x ++ e).length = pre.length + x.length + e.length := by simp; omega
      have ih := chain_rows he (y :: r) (pre ++ x ++ e) text cs f (by simp) (fun z hz => hr z (by simp at hz ⊢; exact .inr hz)) (by rw [ht1]; simp) (by rw [hpl]; simpa [S_length] using h4) hn
      rw [hpl] at ih
      rw [ih, sub_S, List.map_cons]
      congr 2
      rw [ht1, List.drop_left' rfl]
      simp

theorem split_join {e : List Nat} {rows : List (List Nat)} (he : IsEnd e) (hr : ∀ r ∈ rows, Good r) (hn : rows ≠ []) : Txt.split (S (joinL e rows)) (S e) = rows.map S := by
  have hw : 1 ≤ (S e).length := by rw [S_length]; rcases he with rfl | rfl | rfl <;> simp
  obtain ⟨f, hG, hno⟩ := occ_tight (S (joinL e rows)) (S e) hw
  have key := chain_rows he rows [] (joinL e rows) _ f hn hr rfl hG hno
  unfold Txt.split
  split
  · rename_i hc
    rw [Bool.or_eq_true, decide_eq_true_eq, decide_eq_true_eq] at hc
    have hs : ∀ e : List Nat, IsEnd e → Builtin.Str.strKind (S e) = 1 := fun e he => by rcases he with rfl | rfl | rfl <;> decide +kernel
    rcases hc with h | h
    · rw [S_length, S_length] at h
      match rows, hn, hr with
      | [x], _, _ => rfl
      | x :: y :: r, _, _ => rw [joinL] at h; simp at h; omega
    · rw [hs e he] at h
      unfold Builtin.Str.strKind at h
      split at h
      · omega
      · split at h <;> omega
  · split
    · rename_i h0
      rw [List.isEmpty_iff.mp h0] at key
      rw [← key]
      show _ = [strSub _ 0 _]
      rw [sub_S, S_length]; simp
    · rw [partsBetween_eq, S_length (l := e)]
      exact key
end Mine
end

section
open PySem PySem.W PyProof.Rows PySem.Calls
set_option maxRecDepth 100000
namespace Mine
set_option pp.deepTerms false
set_option pp.deepTerms.threshold 2

def rep (k : Nat) (r : List Nat) : List Nat := List.replicate k 46 ++ r
theorem rep_zero (r : List Nat) : rep 0 r = r := rfl
theorem rep_succ (k : Nat) (r : List Nat) : rep (k + 1) r = 46 :: rep k r := by simp [rep, List.replicate_succ]
theorem rep_length (k : Nat) (r : List Nat) : (rep k r).length = k + r.length := by simp [rep]
theorem Good.rep {r : List Nat} (h : Good r) (k : Nat) : Good (rep k r) := by
  induction k with
  | zero => exact h
  | succ k ih => rw [rep_succ]; exact ⟨⟨_, rfl⟩, fun c hc => by
      rcases List.mem_cons.mp hc with rfl | hc
      · decide
      · exact ih.2 c hc⟩

/-- what quotedata does with a mail of good rows -/
def QuoSpec (prog : Program) (w : World) : Prop := ∀ (A : Around) (s : Shared) (v : Value) (g : View) (e : List Nat) (rows : List (List Nat)) (Q : Value → Shared → Prop),
  Room A 1 → Wd w.params s.heap → VIn g s.heap → RS g v (joinL e rows) → rows ≠ [] → (∀ r ∈ rows, Good r) → IsEnd e → (rows.map (·.length + 3)).sum ≤ 100000 →
  (∀ v' g' s', Grow g s g' s' → RS g' v' (joinL [13, 10] (rows.map (46 :: ·))) → Q v' s') → wpAny (model prog w) A (call (.ref 48) [v]) Q NoE s

def mailAt (e : List Nat) (rows : List (List Nat)) (i : Nat) : List Nat := joinL (if i = 0 then e else [13, 10]) (rows.map (rep i))
theorem sum_rep (rows : List (List Nat)) (k c : Nat) : ((rows.map (rep k)).map (·.length + c)).sum = (rows.map (·.length + c)).sum + rows.length * k := by
  induction rows with
  | nil => simp
  | cons r rows ih => simp only [List.map_cons, List.sum_cons, rep_length, List.length_cons, ih, Nat.succ_mul]; omega

theorem call_sent {prog : Program} {w : World} (HQ : QuoSpec prog w) {A : Around} {s : Shared} {g : View} {vr vt ve : Value} {rows : List (List Nat)} {times : Nat} {e : List Nat} {Q : Value → Shared → Prop}
    (W : Wd w.params s.heap) (R : Room A 2) (G : VIn g s.heap) (hvr : RList RS g vr rows) (hvt : RNat g vt times) (hve : RS g ve e)
    (hn : rows ≠ []) (hr : ∀ r ∈ rows, Good r) (he : IsEnd e) (ht : times ≤ 1000) (hsz : (rows.map (·.length + 3)).sum + rows.length * times ≤ 100000)
    (hQ : ∀ v' g' s', Grow g s g' s' → RList RS g' v' (rows.map (rep times)) → Q v' s') :
    wpAny (model prog w) A (call (.ref 81) [vr, vt, ve]) Q NoE s := by
  have hel : e.length ≤ 2 := by rcases he with rfl | rfl | rfl <;> decide
  refine call_fn (binds := [(Str.ofString "rows", vr), (Str.ofString "times", vt), (Str.ofString "end", ve)]) R W (W.K 81 _ rfl) rfl ⟨80, _, _, _, rfl, W.K 80 _ rfl, rfl, rfl⟩ rfl rfl rfl rfl G (by decide) fun L s₁ hL R1 W1 X => ?_
  refine wpAny_execs_cons (wpAny_Assign_Name (MethodCall_ (ld_local X rfl ?_)))
  obtain ⟨te, rfl⟩ := hve
  refine GM.join (callWith_method1 (spliced_more (ld_local X rfl (spliced_none ?_))))
  have hsum : (rows.map (·.length + e.length)).sum ≤ (rows.map (·.length + 3)).sum := by
    have : ∀ l : List (List Nat), (l.map (·.length + e.length)).sum ≤ (l.map (·.length + 3)).sum := fun l => by
      induction l with
      | nil => simp
      | cons a l ih => simp only [List.map_cons, List.sum_cons]; omega
    exact this rows
  refine r_join X.grow.inn ⟨te, rfl⟩ hvr (by omega) fun t k => ?_
  refine st_local (X.toks k) fun s₂ X₂ _ => ?_
  refine wpAny_execs_cons ?_
  refine exec_for X₂ (Call_Name rfl (ld_blt (W.keeps X₂.grow.keeps) (gb_range _) (callWith_type1 (spliced_more (ld_local X₂ rfl (spliced_none ?_))))))
  refine src_rangeN R1.handled hvt (by omega) (Grow.refl X₂.grow.inn) fun it s₃ G3 S3 => ?_
  obtain ⟨tt, rfl⟩ := hvt
  refine ⟨g, times, _, G3, S3 _, fun i m cm g' h => m (Str.ofString "mail") = m (Str.ofString "mail") ∧ (∃ v, m (Str.ofString "mail") = some v ∧ RS g' v (mailAt e rows i)) ∧ m (Str.ofString "times") = some (.int times tt) ∧ m (Str.ofString "end") = some (.str (S e) te), ?_, ?_, ?_, ?_⟩
  · exact ⟨rfl, ⟨_, rfl, t, by simp only [mailAt, if_pos]; rw [show rows.map (rep 0) = rows from (List.map_congr_left fun _ _ => rfl).trans (List.map_id rows)]⟩, rfl, rfl⟩
  · intro i m cm g' h h' hJ _; exact hJ
  · rintro i v m cm g' s₄ hi X₄ ⟨_, ⟨vm, hvm, hm⟩, htm, hem⟩ _ hle
    refine wpAny_assign_Name (st_local X₄ fun s₅ X₅ _ => ?_)
    have W5 := W.keeps X₅.grow.keeps
    refine wpAny_execs_cons (wpAny_Assign_Name (Call_Name rfl (ld_glob W5 (gl_quotedata _) (callWith_fn ⟨_, _, _, _, rfl⟩ (spliced_more (ld_local X₅ hvm (spliced_none ⟨W5, ?_⟩)))))))
    have hIe : IsEnd (if i = 0 then e else [13, 10]) := by
      split
      · exact he
      · exact .inr (.inr rfl)
    refine HQ _ _ _ g' _ (rows.map (rep i)) _ R1 W5 X₅.grow.inn hm (by simpa using hn) (fun r hr' => ?_) hIe ?_ fun v' g₆ s₆ G₆ hv' => ?_
    · obtain ⟨r', h1, rfl⟩ := List.mem_map.mp hr'
      exact (hr r' h1).rep i
    · rw [sum_rep]
      have : rows.length * i ≤ rows.length * times := Nat.mul_le_mul_left _ (by omega)
      omega
    · refine st_local (X₅.step G₆) fun s₇ X₇ _ => ?_
      refine wpAny_execs_nil ⟨rfl, _, _, _, X₇, rfl, ⟨_, rfl, ?_⟩, htm, hem⟩
      simp only [List.map_map] at hv'
      have e2 : (fun x => 46 :: x) ∘ rep i = rep (i + 1) := by funext r; simp [rep_succ]
      rw [e2] at hv'
      simpa [mailAt] using hv'
  · rintro m cm g' s₄ X₄ ⟨_, ⟨vm, hvm, hm⟩, htm, hem⟩ hle
    refine wpAny_execs_cons (wpAny_Return_some (MethodCall_ (ld_local X₄ hvm ?_)))
    obtain ⟨tm, rfl⟩ := hm
    refine GM.split (callWith_method1 (spliced_more (wpAny_IfExp (isTrue_plain (ld_local X₄ htm (truthy_int ?_))))))
    have hgood : ∀ r ∈ rows.map (rep times), Good r := fun r hr' => by
      obtain ⟨r', h1, rfl⟩ := List.mem_map.mp hr'
      exact (hr r' h1).rep times
    have hne : rows.map (rep times) ≠ [] := by simpa using hn
    have hlen : (mailAt e rows times).length ≤ 200000 := by
      unfold mailAt
      refine Nat.le_trans (joinL_length _ _) ?_
      rw [sum_rep]
      have : ∀ (k : Nat), k ≤ 3 → ∀ l : List (List Nat), (l.map (·.length + k)).sum ≤ (l.map (·.length + 3)).sum := fun k hk l => by
        induction l with
        | nil => simp
        | cons a l ih => simp only [List.map_cons, List.sum_cons]; omega
      have h3 : (if times = 0 then e else [13, 10]).length ≤ 3 := by
        split
        · omega
        · decide
      have := this _ h3 rows
      omega
    have hIe : IsEnd (if times = 0 then e else [13, 10]) := by
      split
      · exact he
      · exact .inr (.inr rfl)
    have hene : ∀ {e' : List Nat}, IsEnd e' → e' ≠ [] := fun {e'} h => by rcases h with rfl | rfl | rfl <;> simp
    have key : ∀ {A' : Around} (u : Value) (s₅ : Shared), Keeps s₄ s₅ → RS g' u (if times = 0 then e else [13, 10]) → wpAny (model prog w) A' (call (.builtin "str.split") [.str (S (mailAt e rows times)) tm, u]) (fun v s' => Q v s') NoE s₅ := by
      intro A' u s₅ K5 hu
      have G5 := Grow.ofKeeps X₄.grow.inn K5
      refine r_split (parts := rows.map (rep times)) G5.inn ⟨tm, rfl⟩ hu (hene hIe) (by omega) ?_ ?_ fun v' g₆ s₆ G₆ hv' => ?_
      · exact split_join hIe hgood hne
      · refine Nat.le_trans (parts_len _ _) ?_
        rw [S_length]; omega
      · exact hQ v' g₆ s₆ ((X₄.grow.trans G5).trans G₆) hv'
    by_cases h0 : times = 0
    · rw [if_neg (by simp [h0])]
      refine ld_local X₄ hem (spliced_none (key _ _ (keeps_refl _) ?_))
      rw [if_pos h0]; exact ⟨te, rfl⟩
    · rw [if_pos (by simpa using h0)]
      refine wpAny_Constant_str (spliced_none (key _ _ (keeps_toks _) ?_))
      rw [if_neg h0]; exact ⟨_, rfl⟩
end Mine
end

section
open PySem PySem.W PyProof.Rows PySem.Calls
set_option maxRecDepth 100000
namespace Mine

/-! ## what _law_laid lays -/
def addL (c : Nat) (rows : List (List Nat)) : List (List Nat) := rows.map (· ++ [97 + c])
def dearOuts (rt : Nat → Nat → Nat) (f : List Nat) (i : Nat) : List Nat := (f.drop (i + 1)).map fun b => rt b (f.getD i 0)
def dearL (rt : Nat → Nat → Nat) (f : List Nat) : Nat := ((List.range f.length).flatMap (dearOuts rt f)).sum
def paidN (rt : Nat → Nat → Nat) (o : Nat) (r : List Nat) (k : Nat) : Nat := ((r.take k).map (rt o)).sum
def GG (rt : Nat → Nat → Nat) (f r : List Nat) : Nat → Nat → List (List Nat)
  | 0, 0 => [rep (dearL rt f) [46]]
  | 0, k + 1 => addL (r.getD k 0) (GG rt f r 0 k)
  | i + 1, 0 => addL (f.getD i 0) ((GG rt f r i 0).map (rep (paidN rt (f.getD i 0) r 0)))
  | i + 1, k + 1 => addL (f.getD i 0) ((GG rt f r i (k + 1)).map (rep (paidN rt (f.getD i 0) r (k + 1)))) ++ addL (r.getD k 0) (GG rt f r (i + 1) k)
def laid (rt : Nat → Nat → Nat) (f r : List Nat) : List (List Nat) := GG rt f r f.length r.length
def lineOf (rt : Nat → Nat → Nat) (f r : List Nat) (i : Nat) : List (List (List Nat)) := (List.range (r.length + 1)).map (GG rt f r i)

section
variable {rt : Nat → Nat → Nat} {f r : List Nat}

theorem addL_length (c : Nat) (rows : List (List Nat)) : (addL c rows).length = rows.length := by simp [addL]
theorem GG_ne : ∀ i k, GG rt f r i k ≠ []
  | 0, 0 => by simp [GG]
  | 0, k + 1 => by simp [GG, addL, GG_ne 0 k]
  | i + 1, 0 => by simp [GG, addL, GG_ne i 0]
  | i + 1, k + 1 => by simp [GG, addL, GG_ne i (k + 1)]
theorem GG_length : ∀ i k, (GG rt f r i k).length ≤ 2 ^ (i + k)
  | 0, 0 => by simp [GG]
  | 0, k + 1 => by
    have := GG_length 0 k
    simp only [GG, addL_length, Nat.zero_add, Nat.pow_succ] at *; omega
  | i + 1, 0 => by
    have := GG_length i 0
    simp only [GG, addL_length, List.length_map, Nat.add_zero, Nat.pow_succ] at *; omega
  | i + 1, k + 1 => by
    have h1 := GG_length i (k + 1)
    have h2 := GG_length (i + 1) k
    have e : 2 ^ (i + 1 + (k + 1)) = 2 ^ (i + (k + 1)) + 2 ^ (i + 1 + k) := by
      rw [show i + 1 + (k + 1) = (i + k + 1) + 1 by omega, show i + (k + 1) = i + k + 1 by omega, show i + 1 + k = i + k + 1 by omega, Nat.pow_succ]; omega
    simp only [GG, List.length_append, addL_length, List.length_map]
    omega
theorem Good.letter {x : List Nat} (h : Good x) {c : Nat} (hc : c < 3) : Good (x ++ [97 + c]) := by
  obtain ⟨⟨q, rfl⟩, h2⟩ := h
  refine ⟨⟨q ++ [97 + c], rfl⟩, fun d hd => ?_⟩
  rcases List.mem_append.mp hd with hd | hd
  · exact h2 d hd
  · rw [List.mem_singleton] at hd; subst hd; omega
theorem getD_lt {l : List Nat} (h : ∀ n ∈ l, n < 3) (i : Nat) : l.getD i 0 < 3 := by
  rw [List.getD_eq_getElem?_getD]
  cases e : l[i]? with
  | none => simp
  | some n => simpa using h n (List.mem_of_getElem? e)
theorem GG_good (hf : ∀ n ∈ f, n < 3) (hr : ∀ n ∈ r, n < 3) : ∀ i k, ∀ x ∈ GG rt f r i k, Good x
  | 0, 0 => fun x hx => by
    simp only [GG, List.mem_singleton] at hx; subst hx
    exact Good.rep ⟨⟨[], rfl⟩, by decide⟩ _
  | 0, k + 1 => fun x hx => by
    simp only [GG, addL, List.mem_map] at hx
    obtain ⟨y, hy, rfl⟩ := hx
    exact (GG_good hf hr 0 k y hy).letter (getD_lt hr k)
  | i + 1, 0 => fun x hx => by
    simp only [GG, addL, List.mem_map] at hx
    obtain ⟨y, ⟨z, hz, rfl⟩, rfl⟩ := hx
    exact ((GG_good hf hr i 0 z hz).rep _).letter (getD_lt hf i)
  | i + 1, k + 1 => fun x hx => by
    simp only [GG, addL, List.mem_append, List.mem_map] at hx
    rcases hx with ⟨y, ⟨z, hz, rfl⟩, rfl⟩ | ⟨y, hy, rfl⟩
    · exact ((GG_good hf hr i (k + 1) z hz).rep _).letter (getD_lt hf i)
    · exact (GG_good hf hr (i + 1) k y hy).letter (getD_lt hr k)
theorem paidN_le (hrt : ∀ a b, rt a b ≤ 2) (o : Nat) (r : List Nat) (k : Nat) : paidN rt o r k ≤ 2 * k := by
  unfold paidN
  have : ∀ l : List Nat, (l.map (rt o)).sum ≤ 2 * l.length := fun l => by
    induction l with
    | nil => simp
    | cons a l ih => have := hrt o a; simp only [List.map_cons, List.sum_cons, List.length_cons]; omega
  refine Nat.le_trans (this _) ?_
  rw [List.length_take]; omega
theorem paidN_succ {o : Nat} {r : List Nat} {k c : Nat} (h : r[k]? = some c) : paidN rt o r (k + 1) = paidN rt o r k + rt o c := by
  unfold paidN
  rw [List.take_succ, h]; simp
theorem sum_flatMap_le (B : Nat) (o : Nat → List Nat) : ∀ n, (∀ i, (o i).sum ≤ B) → ((List.range n).flatMap o).sum ≤ n * B
  | 0, _ => by simp
  | n + 1, h => by
    have := sum_flatMap_le B o n h
    have := h n
    rw [List.range_succ, List.flatMap_append, List.sum_append]
    simp only [List.flatMap_cons, List.flatMap_nil, List.append_nil, Nat.succ_mul]; omega
theorem dearL_le (hrt : ∀ a b, rt a b ≤ 2) (f : List Nat) : dearL rt f ≤ f.length * (2 * f.length) := by
  refine sum_flatMap_le _ _ _ fun i => ?_
  unfold dearOuts
  have : ∀ l : List Nat, (l.map fun b => rt b (f.getD i 0)).sum ≤ 2 * l.length := fun l => by
    induction l with
    | nil => simp
    | cons a l ih => have := hrt a (f.getD i 0); simp only [List.map_cons, List.sum_cons, List.length_cons]; omega
  refine Nat.le_trans (this _) ?_
  rw [List.length_drop]; omega
theorem GG_rows (hrt : ∀ a b, rt a b ≤ 2) : ∀ i k, ∀ x ∈ GG rt f r i k, x.length ≤ 1 + dearL rt f + i * (2 * k + 1) + k
  | 0, 0 => fun x hx => by
    simp only [GG, List.mem_singleton] at hx; subst hx
    rw [rep_length]; simp; omega
  | 0, k + 1 => fun x hx => by
    simp only [GG, addL, List.mem_map] at hx
    obtain ⟨y, hy, rfl⟩ := hx
    have := GG_rows hrt 0 k y hy
    simp only [List.length_append, List.length_cons, List.length_nil, Nat.zero_mul] at *; omega
  | i + 1, 0 => fun x hx => by
    simp only [GG, addL, List.mem_map] at hx
    obtain ⟨y, ⟨z, hz, rfl⟩, rfl⟩ := hx
    have h1 := GG_rows hrt i 0 z hz
    have h2 := paidN_le hrt (f.getD i 0) r 0
    simp only [List.length_append, List.length_cons, List.length_nil, rep_length, Nat.mul_zero, Nat.zero_add, Nat.mul_one] at *; omega
  | i + 1, k + 1 => fun x hx => by
    simp only [GG, addL, List.mem_append, List.mem_map] at hx
    rcases hx with ⟨y, ⟨z, hz, rfl⟩, rfl⟩ | ⟨y, hy, rfl⟩
    · have h1 := GG_rows hrt i (k + 1) z hz
      have h2 := paidN_le hrt (f.getD i 0) r (k + 1)
      simp only [List.length_append, List.length_cons, List.length_nil, rep_length, Nat.succ_mul] at *; omega
    · have h1 := GG_rows hrt (i + 1) k y hy
      have : (i + 1) * (2 * k + 1) ≤ (i + 1) * (2 * (k + 1) + 1) := Nat.mul_le_mul_left _ (by omega)
      simp only [List.length_append, List.length_cons, List.length_nil] at *; omega
end
end Mine
end

section
open PySem PySem.W PyProof.Rows PySem.Calls
set_option maxRecDepth 100000
namespace Mine

/-! ## what _law_told tells -/
def bitAt (m s : Nat) : Nat := m / 2 ^ s % 2
def cutOf (m : Nat) : Nat := ((List.range 4).map (bitAt m)).sum
def ordUp (m : Nat) : Nat → Nat × Nat × List Nat
  | 0 => (cutOf m, cutOf m, [])
  | s + 1 => if bitAt m s = 0 then ((ordUp m s).1, (ordUp m s).2.1 + 1, (ordUp m s).2.2 ++ [(ordUp m s).2.1]) else ((ordUp m s).1 - 1, (ordUp m s).2.1, (ordUp m s).2.2 ++ [(ordUp m s).1 - 1])
def ordOf (m : Nat) : List Nat := (ordUp m 4).2.2
def dearTOuts (rt : Nat → Nat → Nat) (wd : List Nat) (ord : List Nat) (i : Nat) : List Nat := ((ord.drop i).filter (· < ord.getD i 0)).map fun one => rt (wd.getD one 0) (wd.getD (ord.getD i 0) 0)
def dearT (rt : Nat → Nat → Nat) (wd : List Nat) (ord : List Nat) : Nat := ((List.range ord.length).flatMap (dearTOuts rt wd ord)).sum
def rowT (rt : Nat → Nat → Nat) (wd : List Nat) (m : Nat) : List Nat := rep (dearT rt wd (ordOf m) + 1) ((ordOf m).map fun p => 97 + wd.getD p 0)
def toldRows (rt : Nat → Nat → Nat) (wd : List Nat) (n c : Nat) : List (List Nat) := ((List.range n).filter (cutOf · = c)).map (rowT rt wd)

theorem ord_facts : ∀ m < 16, cutOf m < 5 ∧ (∀ s < 4, bitAt m s < 2 ∧ (bitAt m s ≠ 0 → 1 ≤ (ordUp m s).1)) ∧ (ordOf m).length = 4 ∧ (∀ p ∈ ordOf m, p < 4) := by decide
end Mine
end

section
open PySem PySem.W PyProof.Rows PySem.Calls
set_option maxRecDepth 100000
namespace Mine
set_option pp.deepTerms false
set_option pp.deepTerms.threshold 2

theorem shift_small : ∀ a : Nat, a < 16 → ∀ b : Nat, b < 4 → ((b : Int) ≥ ((Builtin.Int.intBits (a : Int) : Nat) : Int) → a / 2 ^ b = 0) ∧ ((a : Int).fdiv (2 ^ (b : Int).toNat) = ((a / 2 ^ b : Nat) : Int)) := by decide +kernel
section
variable {prog : Program} {w : World} {A : Around} {s : Shared} {g : View} {Q : Value → Shared → Prop}

theorem r_shift {a b : Nat} {u v : Value} (hu : RNat g u a) (hv : RNat g v b) (ha : a < 16) (hb : b < 4) (hQ : ∀ y k, RNat g y (a / 2 ^ b) → Q y { s with toks := k }) :
    wpAny (model prog w) A (binaryOp .RShift u v) Q NoE s := by
  obtain ⟨t, rfl⟩ := hu
  obtain ⟨t', rfl⟩ := hv
  obtain ⟨h1, h2⟩ := shift_small a ha b hb
  by_cases h : (b : Int) ≥ ((Builtin.Int.intBits (a : Int) : Nat) : Int)
  · refine AutoIntOps.rshift_1 (by omega) h (hQ _ _ ⟨s.toks, ?_⟩)
    rw [h1 h, if_neg (by omega)]; rfl
  · refine AutoIntOps.rshift_2 (by omega) h (hQ _ _ ⟨s.toks, ?_⟩)
    rw [h2]
theorem r_and1 {a : Nat} {u : Value} {t : Tok} (hu : RNat g u a) (hQ : ∀ y k, RNat g y (a % 2) → Q y { s with toks := k }) :
    wpAny (model prog w) A (binaryOp .BitAnd u (.int 1 t)) Q NoE s := by
  obtain ⟨t', rfl⟩ := hu
  refine and_int (hQ _ _ ⟨s.toks, ?_⟩)
  have : Builtin.bitAnd (a : Int) 1 = ((a % 2 : Nat) : Int) := by
    unfold Builtin.bitAnd
    rw [show decide (0 ≤ (a : Int)) = true by simp, show decide (0 ≤ (1 : Int)) = true by decide]
    show (((a : Int).toNat &&& (1 : Int).toNat : Nat) : Int) = _
    rw [Int.toNat_natCast, show (1 : Int).toNat = 1 from rfl, Nat.and_one_is_mod]
  rw [this]

theorem mul_dots (k : Nat) (hk : 1 ≤ k) : Txt.mul (S [46]) (k : Int) = S (List.replicate k 46) := by
  unfold Txt.mul
  rw [if_neg (by omega)]
  by_cases h1 : k = 1
  · subst h1; rfl
  · rw [if_neg (by simp [S_length]; omega)]
    show (⟨(List.replicate (k : Int).toNat (#[46] : Array Nat)).foldl (· ++ ·) #[]⟩ : Str) = ⟨(List.replicate k 46).toArray⟩
    congr 1
    rw [Int.toNat_natCast]
    have key : ∀ (n : Nat) (acc : Array Nat), (List.replicate n (#[46] : Array Nat)).foldl (· ++ ·) acc = acc ++ (List.replicate n 46).toArray := by
      intro n
      induction n with
      | zero => intro acc; simp
      | succ n ih =>
        intro acc
        rw [List.replicate_succ, List.foldl_cons, ih, List.replicate_succ, Array.append_assoc]
        congr 1
        apply Array.ext'
        simp
    rw [key]; simp
theorem r_dots {k : Nat} {u v : Value} (hu : RS g u [46]) (hv : RNat g v k) (h1 : 1 ≤ k) (h2 : k ≤ 1000) (hQ : ∀ y n, RS g y (List.replicate k 46) → Q y { s with toks := n }) :
    wpAny (model prog w) A (binaryOp .Mult u v) Q NoE s := by
  obtain ⟨t, rfl⟩ := hu
  obtain ⟨t', rfl⟩ := hv
  refine SB.mul ⟨?_, fun _ _ => ?_, fun _ _ => ?_⟩ fun t'' n => hQ _ _ ⟨t'', by rw [mul_dots k h1]⟩
  · simp only [Bool.or_eq_false_iff, decide_eq_false_iff_not]; omega
  · rw [S_length]
    have : (1 : Int) ≤ (2 ^ 63 - 1) / (k : Int) := Int.le_ediv_of_mul_le (by omega) (by omega)
    simp only [List.length_cons, List.length_nil]; omega
  · rw [S_length]
    have : sizeLine = 16777216 := by decide
    simp only [List.length_cons, List.length_nil, Builtin.Str.tooLong, decide_eq_false_iff_not, Int.toNat_natCast]
    omega

variable {β : Type} {R : Rp β}
theorem range_map_outs (F : Nat → β) (n : Nat) : (List.range n).flatMap (fun i => [F i]) = (List.range n).map F := by
  induction n with
  | zero => rfl
  | succ n ih => rw [List.range_succ, List.flatMap_append, ih, List.map_append]; simp

/-- a comprehension over a source that gives 0, 1, .. -/
theorem ev_mapN {elt iter : Expr} {tx : Str} {px pos : Pos} {scope : Scope} {env : Env} {cl : List (Str × Addr)} {g₀ gt : View} {s₀ : Shared} {own : List Addr} {ht : Heap} {m cm : Str → Option Value} {n : Nat} (F : Nat → β)
    (MR : Mono R) (X : InEnv g₀ s₀ env own gt ht m cm g s)
    (hclos : closureFor scope env = pure cl) (hsub : ∀ n c, cl.lookup n = some c → env.cells.lookup n = some c) (hlen : n ≤ 100000)
    (hit : wpAny (model prog w) A (eval iter env) (fun xv s₁ => wpAny (model prog w) A (pyIter xv) (fun it s₂ => ∃ g₁ P, Grow g s g₁ s₂ ∧ Src prog w A (.Name tx px) s g₁ it n P s₂ ∧ ∀ i u h, P i u h → RNat g₁ u i) NoE s₁) NoE s)
    (turn : ∀ C (m : Str → Option Value) g₁ g₂ g₃ h₃ s₃ v i, i < n → VLe g g₁ → InEnv g s (compEnvC scope cl C env) [C] g₂ h₃ (fun y => if y = tx then some v else m y) cm g₃ s₃ → RNat g₃ v i → VLe g₁ g₃ →
      wpAny (model prog w) A (eval elt (compEnvC scope cl C env)) (fun y s₄ => ∃ m g₄, InEnv g s (compEnvC scope cl C env) [C] g₂ h₃ m cm g₄ s₄ ∧ R g₄ y (F i)) NoE s₃)
    (hQ : ∀ v g' s', Grow g s g' s' → InEnv g₀ s₀ env own gt ht m cm g' s' → RList R g' v ((List.range n).map F) → Q v s')
    (hcl : ∀ C, (compEnvC scope cl C env).kindOf tx = some .local := by intro _; rfl)
    (hcell : ∀ x ∈ scope.names, x.2 ≠ .cell := by decide) (hk : scope.kind = .function := by rfl) (hnames : ∀ x ∈ scope.names, x.2 = .local → scope.names.lookup x.1 = some .local := by decide)
    (hs : ∀ x, foldedSetIterable iter env x = pure x := by intro _; rfl) :
    wpAny (model prog w) A (eval (.ListComp elt [⟨.Name tx px, iter, [], 0⟩] scope pos) env) Q NoE s := by
  refine ev_comp1 (n := n) (cm := cm) MR (fun i => [F i]) hclos hcell hk hnames (fun n c e => X.cell n c (hsub n c e)) (fun n n' c e e' => X.apart n n' c (hsub _ _ e) (hsub _ _ e')) (fun i hi => by rw [range_map_outs, List.length_map, List.length_range]; omega)
    (wpAny_mono hit (fun xv s₁ q => wpAny_mono q (fun it s₂ q => ?_) fun _ _ f => f) fun _ _ f => f) (fun v g' s' G hv => hQ v g' s' G (X.step G) (by rw [range_map_outs] at hv; exact hv)) hs
  obtain ⟨g₁, P, G, S, hP⟩ := q
  refine ⟨g₁, P, G, S, fun C hC => ?_⟩
  rintro i v s₃ m' cm' g₃ hi X₃ hm hPi hle
  rw [hm] at X₃
  refine wpAny_assign_Name (st_local X₃ (fun s₄ X₄ _ => tests_nil ?_) hk (hcl C))
  rw [if_pos rfl]
  refine wpAny_mono (turn C m' g₁ g₃ g₃ s₃.heap s₄ v i hi G.le X₄ (hP i v _ hPi) hle) (fun y s₅ q => ?_) fun _ _ f => f
  obtain ⟨m₅, g₅, X₅, hR₅⟩ := q
  exact ⟨m₅, _, g₅, F i, X₅, rfl, hR₅, rfl⟩
end
end Mine
end

section
open PySem PySem.W PyProof.Rows PySem.Calls
set_option maxRecDepth 100000
namespace Mine
set_option pp.deepTerms false
set_option pp.deepTerms.threshold 2

section
variable {prog : Program} {w : World} {A : Around} {E : Value → Shared → Prop} {s : Shared} {b : Array UInt8} {t : Tok}
theorem nextOf_bytes_item {it : Addr} {i : Nat} {c : UInt8} {Q : Value → Shared → Prop} (hit : KBw.IsBytesIter s.heap it b t i) (hx : b[i]? = some c)
    (hQ : ∀ h', KBw.IsBytesIter h' it b t (i + 1) → Heap.SameBut it s.heap h' → Q (.int (c.toNat : Int) s.toks) { s with heap := h', toks := s.toks + 1 }) : wpAny (model prog w) A (Builtin.SmallTypes.nextOf (.ref it)) Q E s := by
  obtain ⟨o, ho, hc, hd⟩ := id hit
  unfold Builtin.SmallTypes.nextOf
  refine wpAny_bind (wpAny_callSpecial?_slot (name := Str.ofString "__next__") (KBw.iter_typeIs hit) KBw.slot_next
    (wpAny_call_entry KBw.slot_next (KBw.iter_typeIs hit) KBw.entry_next ?_ (KBw.args_next _)))
  show wpAny _ _ (field (.ref it) 0 >>= _) _ _ s
  refine wpAny_bind (wpAny_field ho hd (x := .bytes b t) rfl ?_)
  show wpAny _ _ (if (Value.bytes b t == Value.none) = true then _ else _) _ _ s
  rw [if_neg (show ¬ ((Value.bytes b t == Value.none) = true) from Bool.false_ne_true)]
  show wpAny _ _ (field (.ref it) 1 >>= _) _ _ s
  refine wpAny_bind (wpAny_field ho hd (x := .int i 0) rfl ?_)
  refine wpAny_bind (wpAny_of_eq (a := b) rfl ?_)
  simp only [Int.toNat_natCast, hx]
  refine wpAny_bind (wpAny_setField ho hd (by simp) (wpAny_bind (wpAny_mkInt (wpAny_pure ⟨_, rfl, wpAny_pure (hQ _ ?_ (Heap.SameBut.update ..))⟩))))
  exact ⟨_, Heap.get?_update_self _ ho (Obj.isFreed_of_fields (Obj.data_mapFields hd _)), (Obj.cls_mapFields ..).trans hc, by
    rw [Obj.data_mapFields hd]; simp [rawInt]⟩
theorem nextOf_bytes_end {it : Addr} {i : Nat} {Q : Value → Shared → Prop} (hh : A.handled = none) (hit : KBw.IsBytesIter s.heap it b t i) (hx : b[i]? = none)
    (hE : ∀ h' e, Heap.ExtBut it s.heap h' → (∃ o, h'.get? e = some o ∧ o.cls = .type "StopIteration") → E (.ref e) { s with heap := h' }) : wpAny (model prog w) A (Builtin.SmallTypes.nextOf (.ref it)) Q E s := by
  obtain ⟨o, ho, hc, hd⟩ := id hit
  unfold Builtin.SmallTypes.nextOf
  refine wpAny_bind (wpAny_callSpecial?_slot (name := Str.ofString "__next__") (KBw.iter_typeIs hit) KBw.slot_next
    (wpAny_call_entry KBw.slot_next (KBw.iter_typeIs hit) KBw.entry_next ?_ (KBw.args_next _)))
  show wpAny _ _ (field (.ref it) 0 >>= _) _ _ s
  refine wpAny_bind (wpAny_field ho hd (x := .bytes b t) rfl ?_)
  show wpAny _ _ (if (Value.bytes b t == Value.none) = true then _ else _) _ _ s
  rw [if_neg (show ¬ ((Value.bytes b t == Value.none) = true) from Bool.false_ne_true)]
  show wpAny _ _ (field (.ref it) 1 >>= _) _ _ s
  refine wpAny_bind (wpAny_field ho hd (x := .int i 0) rfl ?_)
  refine wpAny_bind (wpAny_of_eq (a := b) rfl ?_)
  simp only [Int.toNat_natCast, hx]
  refine wpAny_bind (wpAny_rule (wpAny_bind (wpAny_setField ho hd (by simp) ?_)))
  show wpAny _ _ (newExc (.type "StopIteration") [] >>= _) _ _ _
  refine wpAny_bind ?_
  simp only [newExc, newTuple]
  refine wpAny_bind (wpAny_newObj_type ?_ (by size_fits))
  refine wpAny_bind (m := firstArgMember _ _) (wpAny_of_eq (a := Value.none) (by first | rfl | (simp only [firstArgMember]; rfl)) ?_)
  refine wpAny_newObj_type ?_ (by size_fits)
  simp only [raiseNew]
  refine wpAny_bind (wpAny_handled ?_)
  first | rw [show A.in1.handled = none from hh] | rw [hh]
  refine wpAny_bind (wpAny_pure (wpAny_throw ?_))
  exact hE _ _ (((Heap.SameBut.update ..).extBut.push _).push _) ⟨_, Heap.get?_push_size _ rfl, rfl⟩
end
theorem draws_bytes {prog : Program} {w : World} {A : Around} (hh : A.handled = none) (it : Addr) (b : Array UInt8) (t : Tok) :
    Draws prog w A it [it] b.size (fun i v => ∃ c u, b[i]? = some c ∧ v = .int (c.toNat : Int) u) (fun i h => KBw.IsBytesIter h it b t i) where
  live := fun _ _ st => let ⟨o, ho, _⟩ := st; ⟨o, ho⟩
  frame := fun _ _ _ st hk => let ⟨o, ho, r⟩ := st; ⟨o, hk it (by simp) o ho, r⟩
  item := fun i s Q E hi st hQ => by
    refine nextOf_bytes_item st (c := b[i]) (by simp [hi]) fun h' hit' hs' => ?_
    exact hQ _ h' (s.toks + 1) ⟨_, _, by simp [hi], rfl⟩ hit' hs'
  done := fun s Q E st hE => nextOf_bytes_end hh st (by simp) hE

set_option maxHeartbeats 1000000 in
theorem meets_enumerate_newB (x : Array UInt8) (t : Tok) :
    Meets (Builtin.«enumerate.__new__» ⟨[.type "enumerate", .bytes x t], []⟩) (fun _ R s =>
      R (.ok (.ret (.ref (s.heap.push { cls := .type "bytes_iterator", data := .fields #[.bytes x t, .int 0 0] }).objs.size)))
        { s with heap := (s.heap.push { cls := .type "bytes_iterator", data := .fields #[.bytes x t, .int 0 0] }).push { cls := .type "enumerate", data := .fields #[.none, .bool false, .ref s.heap.objs.size, rawInt 0, .none, .none] } }) :=
  .of_wp fun prog w A R s h => by
    obtain ⟨hp, g, d, tk, os⟩ := s
    have hsub := sub_enumerate
    wp_walk
    refine wpAny_stack_any fun st => wpAny_pure ?_
    split
    · rename_i c _ _ _ _ _
      cases (c == Value.type "enumerate")
      · wp_walk using KBw.pyIter_bytes
        exact ⟨_, rfl, h⟩
      · wp_walk using KBw.pyIter_bytes
        exact ⟨_, rfl, h⟩
    · wp_walk using KBw.pyIter_bytes
      exact ⟨_, rfl, h⟩

section
variable {prog : Program} {w : World} {A : Around} {E : Value → Shared → Prop} {s : Shared}
theorem call_enumerate_bytes {x : Array UInt8} {t : Tok} {Q : Value → Shared → Prop}
    (h : ∀ h', IsEnum h' (s.heap.objs.size + 1) s.heap.objs.size 0 .none → KBw.IsBytesIter h' s.heap.objs.size x t 0 → h'.objs.size = s.heap.objs.size + 2 →
      (∀ b o, s.heap.get? b = some o → h'.get? b = some o) → Q (.ref (s.heap.objs.size + 1)) { s with heap := h' }) :
    wpAny (model prog w) A (call (.type "enumerate") [.bytes x t]) Q E s := by
  refine callType_new F.called_enumerate (by decide) (F.typeCall_enumerate_1 _) (F.newCall_enumerate_1 _) (fun obj => F.args_object_init_2 obj _) F.entry_enumerate_new
    (meets_enumerate_newB x t) ?_
  have hz : (s.heap.push { cls := .type "bytes_iterator", data := .fields #[.bytes x t, .int 0 0] }).objs.size = s.heap.objs.size + 1 := Heap.size_push ..
  show _ ∧ _
  rw [hz]
  have he : IsEnum ((s.heap.push { cls := .type "bytes_iterator", data := .fields #[.bytes x t, .int 0 0] }).push
      { cls := .type "enumerate", data := .fields #[.none, .bool false, .ref s.heap.objs.size, rawInt 0, .none, .none] }) (s.heap.objs.size + 1) s.heap.objs.size 0 .none := by
    have := Heap.get?_push_size (s.heap.push { cls := .type "bytes_iterator", data := .fields #[.bytes x t, .int 0 0] })
      (o := { cls := .type "enumerate", data := .fields #[.none, .bool false, .ref s.heap.objs.size, rawInt 0, .none, .none] }) rfl
    rw [hz] at this; exact this
  exact ⟨⟨_, he, rfl⟩, h _ he ⟨_, Heap.get?_push_of_some _ (Heap.get?_push_size _ rfl), rfl, rfl⟩ (by rw [Heap.size_push, hz]) fun b o x => Heap.get?_push_of_some _ (Heap.get?_push_of_some _ x)⟩
end

section
variable {prog : Program} {w : World} {A : Around} {g g₁ : View} {s s₁ : Shared} {Q : Value → Shared → Prop}
theorem src_enumB {x : Array UInt8} {v : Value} (hh : A.handled = none) (G : Grow g s g₁ s₁) (hv : RBytes g₁ v x)
    (hQ : ∀ it s₂, Grow g s g₁ s₂ → (∀ elts k pos, Src prog w A (.Tuple elts k pos) s g₁ it x.size (fun i u h => ∃ T t c y, u = .ref T ∧ x[i]? = some c ∧ RNat g₁ y c.toNat ∧ h.IsTuple T #[.int i t, y]) s₂) → Q it s₂) :
    wpAny (model prog w) A (call (.type "enumerate") [v]) (fun xv s₂ => wpAny (model prog w) A (pyIter xv) Q NoE s₂) NoE s₁ := by
  obtain ⟨t, rfl⟩ := hv
  refine call_enumerate_bytes fun h' he hi hz hk => wpAny_pyIter_enum (s := { s₁ with heap := h' }) he ?_
  have G2 : Grow g s g₁ { s₁ with heap := h' } := G.trans (Grow.ofKeeps G.inn ⟨h', s₁.toks, rfl, hk⟩)
  have h0 := G.none₀ (none_of_size (h := s₁.heap))
  have h1 := G.none₀ (none_of_le (h := s₁.heap) (Nat.le_succ s₁.heap.objs.size))
  have W0 := fun elts k pos => KTurns.ofWalksU (elts := elts) (k := k) (pos := pos) (WalksT.enumerateD (prog := prog) (w := w) (A := A) (draws_bytes (A := A.in1) hh s₁.heap.objs.size x t) (s₁.heap.objs.size + 1) (Nat.succ_ne_self _) (by simp) (by simp)).toU
  refine hQ _ _ G2 fun elts k pos => ⟨_, _, _, _, _, rfl, KTurns.weaken' (W0 elts k pos) fun i u h => ?_, ⟨⟨_, he⟩, hi⟩, ?_, ?_, ?_, ?_, ?_⟩
  · rintro ⟨T, vals, rfl, ⟨t', y, ⟨c, u', hc, rfl⟩, rfl⟩, hT⟩
    exact ⟨T, t', c, _, rfl, hc, ⟨u', rfl⟩, hT⟩
  · intro b hb
    simp only [List.mem_cons, List.not_mem_nil, or_false] at hb
    rcases hb with rfl | rfl
    · exact h1
    · exact h0
  · intro b hb
    simp only [List.mem_cons, List.not_mem_nil, or_false] at hb
    rcases hb with rfl | rfl
    · exact ⟨_, he⟩
    · obtain ⟨o, ho, _⟩ := hi; exact ⟨o, ho⟩
  · intro b hb
    simp only [List.mem_cons, List.not_mem_nil, or_false] at hb
    rcases hb with rfl | rfl
    · exact .inl h1.1
    · exact .inl h0.1
  · rintro i h ⟨⟨old, ho⟩, o, ho', _⟩ b hb
    simp only [List.mem_cons, List.not_mem_nil, or_false] at hb
    rcases hb with rfl | rfl
    · exact ⟨_, ho⟩
    · exact ⟨o, ho'⟩
  · rintro s' Q E ⟨⟨old, ho⟩, _⟩ q
    exact wpAny_pyIter_enum ho q

theorem src_enumL {α : Type} {R : Rp α} {xs : List α} {v : Value} (hh : A.handled = none) (G : Grow g s g₁ s₁) (hv : RList R g₁ v xs)
    (hQ : ∀ it s₂, Grow g s g₁ s₂ → (∀ elts k pos, Src prog w A (.Tuple elts k pos) s g₁ it xs.length (fun i u h => ∃ T t x y, u = .ref T ∧ xs[i]? = some x ∧ R g₁ y x ∧ h.IsTuple T #[.int i t, y]) s₂) → Q it s₂) :
    wpAny (model prog w) A (call (.type "enumerate") [v]) (fun xv s₂ => wpAny (model prog w) A (pyIter xv) Q NoE s₂) NoE s₁ := by
  obtain ⟨a, vs, n, rfl, hl, hp⟩ := hv
  have hlh := G.inn _ _ hl
  have hL : s₁.heap.IsList a vs.toArray := ⟨_, hlh, rfl, n, rfl⟩
  have hlt := Heap.lt_size hlh
  refine call_enumerate_list hL fun h' he hi hz hk => wpAny_pyIter_enum (s := { s₁ with heap := h' }) he ?_
  have G2 : Grow g s g₁ { s₁ with heap := h' } := G.trans (Grow.ofKeeps G.inn ⟨h', s₁.toks, rfl, hk⟩)
  have h0 := G.none₀ (none_of_size (h := s₁.heap))
  have h1 := G.none₀ (none_of_le (h := s₁.heap) (Nat.le_succ s₁.heap.objs.size))
  have W0 := fun elts k pos => KTurns.ofWalksU (elts := elts) (k := k) (pos := pos) (WalksT.enumerate (prog := prog) (w := w) (A := A) hh (s₁.heap.objs.size + 1) s₁.heap.objs.size a (Nat.succ_ne_self _) (Nat.ne_of_lt (Nat.lt_succ_of_lt hlt)) (Nat.ne_of_lt hlt) vs.toArray).toU
  rw [show vs.toArray.size = xs.length by rw [List.size_toArray]; exact hp.length] at W0
  refine hQ _ _ G2 fun elts k pos => ⟨_, _, _, _, _, rfl, KTurns.weaken' (W0 elts k pos) fun i u h => ?_, ⟨⟨_, he⟩, hi, hL.at fun o e => hk _ _ e⟩, ?_, ?_, ?_, ?_, ?_⟩
  · rintro ⟨T, vals, rfl, ⟨t', y, hy, rfl⟩, hT⟩
    obtain ⟨x, hx, hr⟩ := Mine.Paired.getL hp i (by simpa using hy)
    exact ⟨T, t', x, y, rfl, hx, hr, hT⟩
  · intro b hb
    simp only [List.mem_cons, List.not_mem_nil, or_false] at hb
    rcases hb with rfl | rfl
    · exact h1
    · exact h0
  · intro b hb
    simp only [List.mem_cons, List.not_mem_nil, or_false] at hb
    rcases hb with rfl | rfl | rfl
    · exact ⟨_, he⟩
    · obtain ⟨o, ho, _⟩ := hi; exact ⟨o, ho⟩
    · exact ⟨_, hk _ _ hlh⟩
  · intro b hb
    simp only [List.mem_cons, List.not_mem_nil, or_false] at hb
    rcases hb with rfl | rfl | rfl
    · exact .inl h1.1
    · exact .inl h0.1
    · exact .inr ⟨_, hl⟩
  · rintro i h ⟨⟨old, ho⟩, ⟨o, ho', _⟩, _⟩ b hb
    simp only [List.mem_cons, List.not_mem_nil, or_false] at hb
    rcases hb with rfl | rfl
    · exact ⟨_, ho⟩
    · exact ⟨o, ho'⟩
  · rintro s' Q E ⟨⟨old, ho⟩, _⟩ q
    exact wpAny_pyIter_enum ho q
end
end Mine
end

section
open PySem PySem.W PyProof.Rows PySem.Calls
set_option maxRecDepth 100000
namespace Mine
set_option pp.deepTerms false
set_option pp.deepTerms.threshold 2

def KvIs (p : Str × Value) (q : Str × Int) : Prop := p.1 = q.1 ∧ ∃ t, p.2 = .int q.2 t
def RDict (prog : Program) (w : World) : Rp (List (Str × Int)) := fun g v kvs => ∃ a o kv, v = .ref a ∧ g a = some o ∧ o.IsDictOf (PySem.strKind prog w) kv ∧ Paired KvIs kv kvs ∧ (a == sysModules) = false
theorem mono_RDict {prog : Program} {w : World} : Mono (RDict prog w) := fun g g' _ _ hg h => by
  obtain ⟨a, o, kv, e, hl, r⟩ := h
  exact ⟨a, o, kv, e, hg _ _ hl, r⟩

def bumpD (kvs : List (Str × Int)) (k : Str) (n : Int) : List (Str × Int) :=
  if kvs.any (fun kv => kv.1 = k) then kvs.map (fun kv => if kv.1 = k then (kv.1, kv.2 + n) else kv) else kvs ++ [(k, n)]

theorem kv_any {kv : List (Str × Value)} {kvs : List (Str × Int)} (h : Paired KvIs kv kvs) (k : Str) : kv.any (fun p => p.1 = k) = kvs.any (fun p => p.1 = k) := by
  induction h with
  | nil => rfl
  | cons x _ ih => simp only [List.any_cons, ih, x.1]
theorem kv_keys {kv : List (Str × Value)} {kvs : List (Str × Int)} (h : Paired KvIs kv kvs) : kv.map (·.1) = kvs.map (·.1) := by
  induction h with
  | nil => rfl
  | cons x _ ih => simp only [List.map_cons, ih, x.1]
theorem kv_stored_new {kv : List (Str × Value)} {kvs : List (Str × Int)} (h : Paired KvIs kv kvs) (k : Str) (n : Int) (t : Tok) (hk : kvs.any (fun p => p.1 = k) = false) : Paired KvIs (stored kv k (.int n t)) (bumpD kvs k n) := by
  unfold stored bumpD
  rw [kv_any h, hk]
  exact Paired.append h (.cons ⟨rfl, t, rfl⟩ .nil)
theorem kv_map_ne {kv : List (Str × Value)} {kvs : List (Str × Int)} (h : Paired KvIs kv kvs) (k : Str) (v : Value) (n : Int) (hn : k ∉ kvs.map (·.1)) :
    Paired KvIs (kv.map (fun p => if p.1 = k then (p.1, v) else p)) (kvs.map (fun p => if p.1 = k then (p.1, p.2 + n) else p)) := by
  induction h with
  | nil => exact .nil
  | @cons a b l m x _ ih =>
    simp only [List.map_cons, List.mem_cons, not_or] at hn ⊢
    refine .cons ?_ (ih hn.2)
    rw [if_neg (fun e => hn.1 (by rw [← e, x.1])), if_neg (fun e => hn.1 e.symm)]
    exact x
theorem kv_map {kv : List (Str × Value)} {kvs : List (Str × Int)} (h : Paired KvIs kv kvs) (hnd : (kv.map (·.1)).Nodup) (k : Str) (n : Int) (t : Tok) {old : Int} {ot : Tok} (ho : valueAt kv k = some (.int old ot)) :
    Paired KvIs (kv.map (fun p => if p.1 = k then (p.1, .int (old + n) t) else p)) (kvs.map (fun p => if p.1 = k then (p.1, p.2 + n) else p)) := by
  induction h with
  | nil => exact .nil
  | @cons a b l m x hp ih =>
    simp only [List.map_cons, List.nodup_cons] at hnd ⊢
    by_cases e : a.1 = k
    · have hb : b.1 = k := by rw [← x.1, e]
      rw [if_pos e, if_pos hb]
      refine .cons ⟨x.1, t, ?_⟩ (kv_map_ne hp k _ n ?_)
      · simp only [valueAt, List.find?_cons, e, decide_true, Option.map_some] at ho
        obtain ⟨t', h2⟩ := x.2
        rw [h2] at ho
        cases ho
        rfl
      · rw [← kv_keys hp, ← e]; exact hnd.1
    · have hb : b.1 ≠ k := by rw [← x.1]; exact e
      rw [if_neg e, if_neg hb]
      refine .cons x (ih hnd.2 ?_)
      simpa [valueAt, List.find?_cons, e] using ho
theorem kv_find {kv : List (Str × Value)} {kvs : List (Str × Int)} (h : Paired KvIs kv kvs) (k : Str) (hk : kvs.any (fun p => p.1 = k) = true) : ∃ n t, valueAt kv k = some (.int n t) := by
  induction h with
  | nil => simp at hk
  | @cons a b l m x hp ih =>
    by_cases e : a.1 = k
    · obtain ⟨t, h2⟩ := x.2
      exact ⟨b.2, t, by simp [valueAt, List.find?_cons, e, h2]⟩
    · have hb : b.1 ≠ k := by rw [← x.1]; exact e
      obtain ⟨n, t, q⟩ := ih (by simpa [hb] using hk)
      exact ⟨n, t, by simpa [valueAt, List.find?_cons, e] using q⟩
theorem kv_stored_old {kv : List (Str × Value)} {kvs : List (Str × Int)} (h : Paired KvIs kv kvs) (hnd : (kv.map (·.1)).Nodup) (k : Str) (n : Int) (t : Tok) (hk : kvs.any (fun p => p.1 = k) = true) {old : Int} {ot : Tok} (ho : valueAt kv k = some (.int old ot)) :
    Paired KvIs (stored kv k (.int (old + n) t)) (bumpD kvs k n) := by
  unfold stored bumpD
  rw [kv_any h, hk]
  exact kv_map h hnd k n t ho

section
variable {prog : Program} {w : World} {A : Around} {s : Shared} {g : View} {Q : Value → Shared → Prop}

theorem entry_itemiter_iter : entryFor table "dict_itemiterator.__iter__" = some Builtin.«dict_keyiterator.__iter__» :=
  entryFor_alias (id' := "dict_keyiterator.__iter__") (by kernel_rfl) rfl (by decide +kernel) (by kernel_rfl)
theorem pyIter_itemiter {it d : Addr} {i n ep : Nat} {ok ov : Value} {Q E : Value → Shared → Prop} (hit : IsItemIter s.heap it d i n ep ok ov) (h : Q (.ref it) s) :
    wpAny (model prog w) A (pyIter (.ref it)) Q E s := by
  have hT : s.TypeIs (.ref it) "dict_itemiterator" := ⟨_, hit, rfl⟩
  refine wpAny_pyIter_slot hT F.slot_dict_itemiterator_iter (wpAny_call_entry F.slot_dict_itemiterator_iter hT entry_itemiter_iter ?_ (F.args_dict_itemiterator_iter_1 _))
  show wpAny _ _ (ret (.ref it)) _ _ s
  exact wpAny_pure ⟨_, rfl, "dict_itemiterator", _, hT, F.slot_dict_itemiterator_next.lookup, h⟩

theorem src_items {v : Value} {kvs : List (Str × Int)} (hh : A.handled = none) (G : VIn g s.heap) (hv : RDict prog w g v kvs)
    (hQ : ∀ xv s₁, (∀ R : Value → Shared → Prop, (∀ it s₂, Grow g s g s₂ → (∀ elts kk pos, Src prog w A (.Tuple elts kk pos) s g it kvs.length (fun i u h => ∃ T t t' p, u = .ref T ∧ kvs[i]? = some p ∧ h.IsTuple T #[.str p.1 t, .int p.2 t']) s₂) → R it s₂) →
      wpAny (model prog w) A (pyIter xv) R NoE s₁) → Q xv s₁) :
    wpAny (model prog w) A (call (.builtin "dict.items") [v]) Q NoE s := by
  obtain ⟨d, o, kv, rfl, hd, hdo, hp, hds⟩ := hv
  have hdh := G _ _ hd
  have hD : s.heap.DictOf (PySem.strKind prog w) d kv := Heap.dictOf_iff.mpr ⟨o, hdh, hdo⟩
  refine call_meetsIn PySem.F.slot_dict_items hD.typeIs PySem.F.entry_dict_items (PySem.F.args_dict_items_1 _) (meets_dict_items (PySem.strKind prog w) d hds) ⟨⟨kv, hD⟩, ?_⟩
  refine hQ _ _ fun R hR => ?_
  have G0 : Grow g s g { s with heap := s.heap.push { cls := .type "dict_items", data := .fields #[.ref d] } } := (Grow.refl G).push _ _
  obtain ⟨ep, hat⟩ := (hD.keep (fun b o e => keeps_get G0.keeps e) : _).dictAt
  refine wpAny_pyIter_items (ep := ep) (kvs := kv) ⟨_, Heap.get?_push_size _ rfl, rfl, rfl⟩ hat ?_
  have h0 := G0.none₀ none_of_size
  have hne : d ≠ (s.heap.push { cls := .type "dict_items", data := .fields #[.ref d] }).objs.size := Nat.ne_of_lt hat.lt_size
  have hlen : kv.length = kvs.length := hp.length
  have W0 := fun elts kk pos => kti_itemsTurns (prog := prog) (w := w) (A := A) (knd := PySem.strKind prog w) (elts := elts) (kk := kk) (pos := pos) hh (s.heap.push { cls := .type "dict_items", data := .fields #[.ref d] }).objs.size d hne kv ep
  rw [hlen] at W0
  refine hR _ _ (G0.push _ _) fun elts kk pos => ⟨_, _, _, _, _, rfl, KTurns.weaken' (W0 elts kk pos) fun i u h => ?_, ?_, ?_, ?_, ?_, ?_, ?_⟩
  · rintro ⟨T, key, k, x, rfl, hx, hk, hT⟩
    obtain ⟨p, hp1, hp2, t', hp3⟩ := Mine.Paired.getL hp i hx
    obtain ⟨t, rfl⟩ := Value.isStrOf_shape hk
    simp only at hp2 hp3
    subst hp2 hp3
    exact ⟨T, t, t', p, rfl, hp1, hT⟩
  · exact ⟨⟨_, _, by rw [hlen] ; exact Heap.get?_push_size _ rfl⟩, hat.keep fun b o e => Heap.get?_push_of_some _ e⟩
  · intro b hb; rw [List.mem_singleton] at hb; subst hb; exact h0
  · intro b hb
    simp only [List.mem_cons, List.not_mem_nil, or_false] at hb
    rcases hb with rfl | rfl
    · exact ⟨_, Heap.get?_push_size _ rfl⟩
    · exact ⟨_, Heap.get?_push_of_some _ (Heap.get?_push_of_some _ hdh)⟩
  · intro b hb
    simp only [List.mem_cons, List.not_mem_nil, or_false] at hb
    rcases hb with rfl | rfl
    · exact .inl h0.1
    · exact .inr ⟨_, hd⟩
  · rintro i h ⟨⟨ok, ov, ho⟩, _⟩ b hb; rw [List.mem_singleton] at hb; subst hb; exact ⟨_, ho⟩
  · intro s' Q E st q
    obtain ⟨⟨ok, ov, he⟩, _⟩ := st
    exact pyIter_itemiter he q

theorem src_values {v : Value} {kvs : List (Str × Int)} (hh : A.handled = none) (G : VIn g s.heap) (hv : RDict prog w g v kvs)
    (hQ : ∀ xv s₁, (∀ R : Value → Shared → Prop, (∀ it s₂, Grow g s g s₂ → (∀ target, Src prog w A target s g it kvs.length (fun i u _ => ∃ p, kvs[i]? = some p ∧ RInt g u p.2) s₂) → R it s₂) →
      wpAny (model prog w) A (pyIter xv) R NoE s₁) → Q xv s₁) :
    wpAny (model prog w) A (call (.builtin "dict.values") [v]) Q NoE s := by
  obtain ⟨d, o, kv, rfl, hd, hdo, hp, hds⟩ := hv
  have hdh := G _ _ hd
  have hD : s.heap.DictOf (PySem.strKind prog w) d kv := Heap.dictOf_iff.mpr ⟨o, hdh, hdo⟩
  refine call_meetsIn PySem.F.slot_dict_values hD.typeIs PySem.F.entry_dict_values (PySem.F.args_dict_values_1 _) (meets_dict_values (PySem.strKind prog w) d hds) ⟨⟨kv, hD⟩, ?_⟩
  refine hQ _ _ fun R hR => ?_
  have G0 : Grow g s g { s with heap := s.heap.push { cls := .type "dict_values", data := .fields #[.ref d] } } := (Grow.refl G).push _ _
  obtain ⟨ep, hat⟩ := (hD.keep (fun b o e => keeps_get G0.keeps e) : _).dictAt
  refine wpAny_pyIter_values (ep := ep) (kvs := kv) ⟨_, Heap.get?_push_size _ rfl, rfl, rfl⟩ hat ?_
  have h0 := G0.none₀ none_of_size
  have hne : d ≠ (s.heap.push { cls := .type "dict_values", data := .fields #[.ref d] }).objs.size := Nat.ne_of_lt hat.lt_size
  have hlen : kv.length = kvs.length := hp.length
  have W0 := fun target => KTurns.ofWalks (target := target) (Walks.dictValues (prog := prog) (w := w) (A := A) (knd := PySem.strKind prog w) hh (s.heap.push { cls := .type "dict_values", data := .fields #[.ref d] }).objs.size d hne kv ep) fun i v s Q E st q => letGo_valiter st.1 q
  rw [hlen] at W0
  refine hR _ _ (G0.push _ _) fun target => ⟨_, _, _, _, _, rfl, KTurns.weaken' (W0 target) fun i u h => ?_, ?_, ?_, ?_, ?_, ?_, ?_⟩
  · rintro ⟨k, hx⟩
    obtain ⟨p, hp1, hp2, hp3⟩ := Mine.Paired.getL hp i hx
    exact ⟨p, hp1, hp3⟩
  · exact ⟨⟨_, Heap.get?_push_size _ rfl, rfl, by rw [← hlen]; rfl⟩, hat.keep fun b o e => Heap.get?_push_of_some _ e⟩
  · intro b hb; rw [List.mem_singleton] at hb; subst hb; exact h0
  · intro b hb
    simp only [List.mem_cons, List.not_mem_nil, or_false] at hb
    rcases hb with rfl | rfl
    · exact ⟨_, Heap.get?_push_size _ rfl⟩
    · exact ⟨_, Heap.get?_push_of_some _ (Heap.get?_push_of_some _ hdh)⟩
  · intro b hb
    simp only [List.mem_cons, List.not_mem_nil, or_false] at hb
    rcases hb with rfl | rfl
    · exact .inl h0.1
    · exact .inr ⟨_, hd⟩
  · rintro i h ⟨⟨o, ho, _⟩, _⟩ b hb; rw [List.mem_singleton] at hb; subst hb; exact ⟨_, ho⟩
  · intro s' Q E st q
    exact wpAny_pyIter_valiter st.1 q
end
end Mine
end

section
open PySem PySem.W PyProof.Rows PySem.Calls
set_option maxRecDepth 100000
namespace Mine
set_option pp.deepTerms false
set_option pp.deepTerms.threshold 2

theorem keeps_ext {s : Shared} {h' : Heap} (hx : Heap.ExtBut s.heap.objs.size s.heap h') : Keeps s { s with heap := h' } :=
  ⟨h', s.toks, rfl, fun b o e => hx b o (Nat.ne_of_lt (Heap.lt_size e)) e⟩

theorem take_succ' {α : Type} {l : List α} {i : Nat} {x : α} (h : l[i]? = some x) : l.take (i + 1) = l.take i ++ [x] := by
  rw [List.take_succ, h]; rfl
theorem take_any {kvs : List (Str × Int)} {i : Nat} {p : Str × Int} (hnd : (kvs.map (·.1)).Nodup) (h : kvs[i]? = some p) : (kvs.take i).any (fun q => q.1 = p.1) = false := by
  rw [List.any_eq_false]
  intro q hq
  obtain ⟨j, hj, e⟩ := List.getElem_of_mem hq
  simp only [List.length_take] at hj
  have hji : j < i := by omega
  have hjl : j < kvs.length := by omega
  rw [List.getElem_take] at e
  obtain ⟨hi, hp⟩ := List.getElem?_eq_some_iff.mp h
  simp only [decide_eq_true_eq]
  intro q'
  have := (List.getElem_inj (i := j) (j := i) (h₀ := by simpa using hjl) (h₁ := by simpa using hi) hnd).mp (by simp [e, hp, q'])
  omega

theorem call_add {prog : Program} {w : World} {A : Around} {s : Shared} {g : View} {vt vs : Value} {kvs : List (Str × Int)} {k : Str} {n : Int} {Q : Value → Shared → Prop}
    (W : Wd w.params s.heap) (R : Room A 1) (G : VIn g s.heap) (ht : RDict prog w g vt kvs) (hs : RDict prog w g vs [(k, n)]) (hsz : kvs.length ≤ 100000)
    (hQ : ∀ v' g' s', Grow g s g' s' → RDict prog w g' v' (bumpD kvs k n) → Q v' s') :
    wpAny (model prog w) A (call (.ref 55) [vt, vs]) Q NoE s := by
  refine call_fn (binds := [(Str.ofString "target", vt), (Str.ofString "source", vs)]) R W (W.K 55 _ rfl) rfl ⟨54, _, _, _, rfl, W.K 54 _ rfl, rfl, rfl⟩ rfl rfl rfl rfl G (by decide) fun L s₁ hL R1 W1 X => ?_
  have hh := R1.handled
  refine wpAny_execs_cons (wpAny_Assign_Name (wpAny_Dict_empty ?_))
  have h0 := X.grow.none₀ none_of_size
  have hDL : s₁.heap.objs.size ≠ L := by
    obtain ⟨o, e⟩ := X.live L X.locIn
    exact Nat.ne_of_gt (Heap.lt_size e)
  have hnew := Heap.DictOf.new (knd := PySem.strKind prog w) s₁.heap
  have X0 := (X.step ((Grow.refl X.grow.inn).push { cls := .type "dict", data := .dict #[] } s₁.toks)).addOwn (D := s₁.heap.objs.size) ⟨_, Heap.get?_push_size _ rfl⟩ h0.2 h0.1
  have hds : (s₁.heap.objs.size == sysModules) = false := beq_eq_false_iff_ne.mpr (Nat.ne_of_gt (modules_low W1.nolimit))
  have hfr : s.heap.get? s₁.heap.objs.size = none := h0.1
  generalize s₁.heap.objs.size = D at X0 hDL hds h0 hnew hfr
  refine st_local X0 fun s₂ X₂ hkb => ?_
  have hD2 : s₂.heap.DictOf (PySem.strKind prog w) D [] := by
    obtain ⟨o, es, ep, ho, r⟩ := hnew
    exact ⟨o, es, ep, hkb D o (fun q => hDL (List.mem_singleton.mp q)) ho, r⟩
  -- the copy
  refine wpAny_execs_cons ?_
  refine exec_for X₂ (MethodCall_ (ld_local X₂ rfl ?_))
  obtain ⟨dt, ot, kvT, rfl, hdt, hot, hpt, hst⟩ := id ht
  have hTt := (Heap.dictOf_iff.mpr ⟨ot, X₂.grow.inn _ _ (X₂.grow.le _ _ hdt), hot⟩ : s₂.heap.DictOf (PySem.strKind prog w) dt kvT).typeIs
  refine getMethod_builtin hTt F.plainAttrs_dict F.slot_dict_items F.type_dict_items (fun a e => ?_) ?_
  · cases e
    exact ⟨ot, X₂.grow.inn _ _ (X₂.grow.le _ _ hdt), by obtain ⟨_, _, hx, _⟩ := hot; exact hx.2.1⟩
  refine callWith_method0 (src_items hh X₂.grow.inn ht fun xv s₃ hsrc => hsrc _ fun it s₄ G4 S4 => ?_)
  refine ⟨g, kvs.length, _, G4, S4 _ _ _, fun i m cm g' h => m (Str.ofString "new_callers") = some (.ref D) ∧ m (Str.ofString "source") = some vs ∧ ∃ kv, h.DictOf (PySem.strKind prog w) D kv ∧ Paired KvIs kv (kvs.take i), ?_, ?_, ?_, ?_⟩
  · exact ⟨rfl, rfl, [], hD2.keep fun b o e => keeps_get G4.keeps e, .nil⟩
  · rintro i m cm g' h h' ⟨a, b, kv, c, d⟩ hk
    obtain ⟨o, es, ep, ho, r⟩ := c
    exact ⟨a, b, kv, ⟨o, es, ep, hk D List.mem_cons_self o ho, r⟩, d⟩
  · rintro i v m cm g' s₅ hi X₅ ⟨hm1, hm2, kv, hD5, hp5⟩ ⟨T, t, t', p, rfl, hpi, hT⟩ hle
    refine wpAny_assign_Tuple hh hT rfl rfl fun h' hx => ?_
    have X6 := X₅.step (Grow.ofKeeps X₅.grow.inn (keeps_ext hx))
    have hD6 : h'.DictOf (PySem.strKind prog w) D kv := hD5.keep fun b o e => keeps_get (keeps_ext hx) e
    refine assignInOrder_cons (wpAny_assign_Name (st_local X6 fun s₇ X₇ k7 => ?_))
    refine assignInOrder_cons (wpAny_assign_Name (st_local X₇ fun s₈ X₈ k8 => assignInOrder_nil ?_))
    have hD8 : s₈.heap.DictOf (PySem.strKind prog w) D kv := by
      obtain ⟨o, es, ep, ho, r⟩ := hD6
      exact ⟨o, es, ep, k8 D o (fun q => hDL (List.mem_singleton.mp q)) (k7 D o (fun q => hDL (List.mem_singleton.mp q)) ho), r⟩
    refine wpAny_execs_cons (wpAny_Assign_Subscript (ld_local X₈ rfl (ld_local X₈ hm1 (ld_local X₈ rfl ?_))))
    have hlt : kvs[i]? = some p := hpi
    have hnd : (kvs.map (·.1)).Nodup := by
      rw [← kv_keys hpt]; obtain ⟨_, _, _, _, _, _, hn⟩ := hot; exact hn
    have hany : (kvs.take i).any (fun q => q.1 = p.1) = false := take_any hnd hpi
    refine wpAny_setItem_pairs (hsz := ?_) (PySem.strKind_is _ _ _ _) hD8 fun h₉ hD9 hs9 => wpAny_execs_nil ⟨rfl, _, _, _, X₈.mut' _ hs9 List.mem_cons_self hDL (fun n c e => absurd (show (none : Option Addr) = some c from e) (by simp)) ?_, hm1, hm2, _, hD9, ?_⟩
    · obtain ⟨o, _, _, ho, _⟩ := hD9; exact ⟨o, ho⟩
    · have := kv_stored_new hp5 p.1 p.2 t' hany
      rw [take_succ' hpi]
      unfold bumpD at this
      rw [if_neg (by rw [hany]; exact Bool.false_ne_true)] at this
      exact this
    · rw [hp5.length, List.length_take]
      exact Nat.le_trans (Nat.min_le_right _ _) (Nat.le_trans hsz (by decide))
  · rintro m₆ cm₆ g₆ s₆ X₆ ⟨hm1, hm2, kv6, hD6, hp6⟩ hle6
    rw [List.take_length] at hp6
    obtain ⟨ds, os, kvS, rfl, hdsv, hos, hps, hss⟩ := id hs
    have hs6 : RDict prog w g₆ (.ref ds) [(k, n)] := mono_RDict _ _ _ _ hle6 hs
    have hTs := (Heap.dictOf_iff.mpr ⟨os, X₆.grow.inn _ _ (hle6 _ _ hdsv), hos⟩ : s₆.heap.DictOf (PySem.strKind prog w) ds kvS).typeIs
    refine wpAny_execs_cons ?_
    refine exec_for X₆ (MethodCall_ (ld_local X₆ hm2 ?_))
    refine getMethod_builtin hTs F.plainAttrs_dict F.slot_dict_items F.type_dict_items (fun a e => ?_) ?_
    · cases e
      exact ⟨os, X₆.grow.inn _ _ (hle6 _ _ hdsv), by obtain ⟨_, _, hx, _⟩ := hos; exact hx.2.1⟩
    refine callWith_method0 (src_items hh X₆.grow.inn hs6 fun xv s₇ hsrc => hsrc _ fun it s₈ G8 S8 => ?_)
    refine ⟨g₆, 1, _, G8, S8 _ _ _, fun i m cm g' h => m (Str.ofString "new_callers") = some (.ref D) ∧ ∃ kv, h.DictOf (PySem.strKind prog w) D kv ∧ Paired KvIs kv (if i = 0 then kvs else bumpD kvs k n), ?_, ?_, ?_, ?_⟩
    · exact ⟨hm1, kv6, hD6.keep fun b o e => keeps_get G8.keeps e, hp6⟩
    · rintro i m cm g' h h' ⟨a, kv, c, d⟩ hk
      obtain ⟨o, es, ep, ho, r⟩ := c
      exact ⟨a, kv, ⟨o, es, ep, hk D List.mem_cons_self o ho, r⟩, d⟩
    · rintro i v m cm g' s₉ hi X₉ ⟨hm9, kv9, hD9, hp9⟩ ⟨T, t, t', p, rfl, hpi, hT⟩ hle
      obtain rfl : i = 0 := by omega
      simp only [List.getElem?_cons_zero, Option.some.injEq] at hpi
      subst hpi
      rw [if_pos rfl] at hp9
      refine wpAny_assign_Tuple hh hT rfl rfl fun h' hx => ?_
      have Xa := X₉.step (Grow.ofKeeps X₉.grow.inn (keeps_ext hx))
      have hDa : h'.DictOf (PySem.strKind prog w) D kv9 := hD9.keep fun b o e => keeps_get (keeps_ext hx) e
      refine assignInOrder_cons (wpAny_assign_Name (st_local Xa fun sb Xb kb => ?_))
      refine assignInOrder_cons (wpAny_assign_Name (st_local Xb fun sc Xc kc => assignInOrder_nil ?_))
      have hDc : sc.heap.DictOf (PySem.strKind prog w) D kv9 := by
        obtain ⟨o, es, ep, ho, r⟩ := hDa
        exact ⟨o, es, ep, kc D o (fun q => hDL (List.mem_singleton.mp q)) (kb D o (fun q => hDL (List.mem_singleton.mp q)) ho), r⟩
      have hle9 : kv9.length ≤ sizeLine := by rw [hp9.length]; exact Nat.le_trans hsz (by decide)
      refine wpAny_execs_cons (wpAny_If (wpAny_isTrue_Compare1 (ld_local Xc rfl (ld_local Xc hm9 (wpAny_in_of (PySem.strKind_is _ _ _ _) hds hDc.mapOf (wpAny_truthy_bool ?_))))))
      rw [valueAt_isSome_eq_any, kv_any hp9]
      have Xd := Xc.toks (sc.toks + 1)
      by_cases hany : kvs.any (fun q => q.1 = k) = true
      · rw [if_pos hany]
        obtain ⟨n0, t0, hva⟩ := kv_find hp9 k hany
        refine wpAny_execs_cons (wpAny_If (isTrue_plain (Call_Name rfl (ld_blt (W.keeps Xd.grow.keeps) (gb_isinstance _) (PyProof.Rows.callWith_builtin1 (spliced_more (ld_local Xd rfl (spliced_more (ld_blt (W.keeps Xd.grow.keeps) (gb_tuple _) (spliced_none (IsiPair.int_tuple (wpAny_truthy_bool ?_))))))))))))
        rw [if_neg (by decide)]
        have Xe := Xd.toks (sc.toks + 1 + 1)
        refine wpAny_execs_cons (wpAny_AugAssign_Subscript (ld_local Xe hm9 (ld_local Xe rfl (wpAny_getItem_of (PySem.strKind_is _ _ _ _) hDc.mapOf hva ?_))))
        have Xf := Xe.toks (sc.toks + 1 + 1 + 1)
        refine ld_local Xf rfl (AutoIntOps.iadd_0 ?_)
        refine wpAny_setItem_pairs (hsz := hle9) (PySem.strKind_is _ _ _ _) hDc fun hz hDz hsz' => wpAny_execs_nil (wpAny_execs_nil (wpAny_execs_nil ⟨rfl, _, _, _, Xf.mut' _ hsz' List.mem_cons_self hDL (fun n c e => absurd (show (none : Option Addr) = some c from e) (by simp)) ?_, hm9, _, hDz, ?_⟩))
        · obtain ⟨o, _, _, ho, _⟩ := hDz; exact ⟨o, ho⟩
        · rw [if_neg (by decide)]
          exact kv_stored_old hp9 (by obtain ⟨_, _, _, _, _, _, _, _, hn⟩ := hDc; exact hn) k n _ hany hva
      · rw [if_neg hany]
        refine wpAny_execs_cons (wpAny_Assign_Subscript (ld_local Xd rfl (ld_local Xd hm9 (ld_local Xd rfl ?_))))
        refine wpAny_setItem_pairs (hsz := hle9) (PySem.strKind_is _ _ _ _) hDc fun hz hDz hsz' => wpAny_execs_nil (wpAny_execs_nil ⟨rfl, _, _, _, Xd.mut' _ hsz' List.mem_cons_self hDL (fun n c e => absurd (show (none : Option Addr) = some c from e) (by simp)) ?_, hm9, _, hDz, ?_⟩)
        · obtain ⟨o, _, _, ho, _⟩ := hDz; exact ⟨o, ho⟩
        · rw [if_neg (by decide)]
          exact kv_stored_new hp9 k n _ (Bool.eq_false_iff.mpr hany)
    · rintro m cm g' s' Xz ⟨hmz, kvz, hDz, hpz⟩ hlez
      refine wpAny_execs_cons (wpAny_Return_some (ld_local Xz hmz ?_))
      rw [if_neg (by decide)] at hpz
      obtain ⟨o, ho, hdz⟩ := Heap.dictOf_iff.mp hDz
      exact hQ _ _ _ (Xz.grow.add ho (Xz.fresh D List.mem_cons_self)) ⟨D, o, kvz, rfl, addv_self _ _ _, hdz, hpz, hds⟩
end Mine
end

section
open PySem PySem.W PyProof.Rows PySem.Calls
set_option maxRecDepth 100000
namespace Mine
set_option pp.deepTerms false
set_option pp.deepTerms.threshold 2

def sumD (kvs : List (Str × Int)) : Int := (kvs.map (·.2)).sum
theorem sumD_take {kvs : List (Str × Int)} {i : Nat} {p : Str × Int} (h : kvs[i]? = some p) : sumD (kvs.take (i + 1)) = sumD (kvs.take i) + p.2 := by
  unfold sumD
  rw [take_succ' h]; simp

theorem call_count {prog : Program} {w : World} {A : Around} {s : Shared} {g : View} {v : Value} {kvs : List (Str × Int)} {Q : Value → Shared → Prop}
    (W : Wd w.params s.heap) (R : Room A 1) (G : VIn g s.heap) (hv : RDict prog w g v kvs)
    (hQ : ∀ v' s', Grow g s g s' → RInt g v' (sumD kvs) → Q v' s') :
    wpAny (model prog w) A (call (.ref 62) [v]) Q NoE s := by
  refine call_fn (binds := [(Str.ofString "callers", v)]) R W (W.K 62 _ rfl) rfl ⟨61, _, _, _, rfl, W.K 61 _ rfl, rfl, rfl⟩ rfl rfl rfl rfl G (by decide) fun L s₁ hL R1 W1 X => ?_
  have hh := R1.handled
  refine wpAny_execs_cons (wpAny_Assign_Name (wpAny_Constant_int ?_))
  refine st_local (X.toks _) fun s₂ X₂ hkb => ?_
  refine wpAny_execs_cons ?_
  refine exec_for X₂ (MethodCall_ (ld_local X₂ rfl ?_))
  obtain ⟨dt, ot, kvT, rfl, hdt, hot, hpt, hst⟩ := id hv
  have hTt := (Heap.dictOf_iff.mpr ⟨ot, X₂.grow.inn _ _ (X₂.grow.le _ _ hdt), hot⟩ : s₂.heap.DictOf (PySem.strKind prog w) dt kvT).typeIs
  refine getMethod_builtin hTt F.plainAttrs_dict F.slot_dict_values F.type_dict_values (fun a e => ?_) ?_
  · cases e
    exact ⟨ot, X₂.grow.inn _ _ (X₂.grow.le _ _ hdt), by obtain ⟨_, _, hx, _⟩ := hot; exact hx.2.1⟩
  refine callWith_method0 (src_values hh X₂.grow.inn hv fun xv s₃ hsrc => hsrc _ fun it s₄ G4 S4 => ?_)
  refine ⟨g, kvs.length, _, G4, S4 _, fun i m cm g' h => g' = g ∧ ∃ t, m (Str.ofString "nc") = some (.int (sumD (kvs.take i)) t), ?_, ?_, ?_, ?_⟩
  · exact ⟨rfl, _, rfl⟩
  · exact fun i m cm g' h h' a _ => a
  · rintro i v m cm g' s₅ hi X₅ ⟨rfl, t, hm⟩ ⟨p, hpi, t', rfl⟩ hle
    refine wpAny_assign_Name (st_local X₅ fun s₆ X₆ _ => ?_)
    refine wpAny_execs_cons (wpAny_AugAssign_Name (ldn_local X₆ hm (ld_local X₆ rfl (AutoIntOps.iadd_0 ?_))))
    refine st_local (X₆.toks _) fun s₇ X₇ _ => wpAny_execs_nil ⟨rfl, _, _, _, X₇, rfl, _, by rw [sumD_take hpi]; rfl⟩
  · rintro m₆ cm₆ g₆ s₆ X₆ ⟨rfl, t, hm⟩ hle6
    refine wpAny_execs_cons (wpAny_Return_some (ld_local X₆ hm ?_))
    rw [List.take_length]
    exact hQ _ _ X₆.grow ⟨_, rfl⟩

/-- the tables from the empty one on -/
def tabOf (rs : List Str) : List (Str × Int) := rs.foldl (fun d r => bumpD d r 1) []
def tabs (rs : List Str) : List (List (Str × Int)) := (List.range (rs.length + 1)).map fun i => tabOf (rs.take i)
theorem tabOf_snoc (rs : List Str) (r : Str) : tabOf (rs ++ [r]) = bumpD (tabOf rs) r 1 := by simp [tabOf]
theorem tabs_snoc (rs : List Str) (r : Str) : tabs (rs ++ [r]) = tabs rs ++ [tabOf (rs ++ [r])] := by
  unfold tabs
  rw [List.length_append, List.length_singleton, List.range_succ, List.map_append]
  congr 1
  · refine List.map_congr_left fun i hi => ?_
    rw [List.mem_range] at hi
    rw [List.take_append_of_le_length (by omega)]
  · simp only [List.map_cons, List.map_nil]
    rw [List.take_of_length_le (by simp)]
theorem tabs_last (rs : List Str) : (tabs rs).getLast? = some (tabOf rs) := by
  unfold tabs
  rw [List.range_succ, List.map_append]
  simp
theorem bumpD_length (d : List (Str × Int)) (r : Str) (n : Int) : (bumpD d r n).length ≤ d.length + 1 := by
  unfold bumpD; split <;> simp
theorem tabOf_length (rs : List Str) : (tabOf rs).length ≤ rs.length := by
  have : ∀ (rs : List Str) (d : List (Str × Int)), (rs.foldl (fun d r => bumpD d r 1) d).length ≤ d.length + rs.length := by
    intro rs
    induction rs with
    | nil => intro d; simp
    | cons r rs ih =>
      intro d
      have := ih (bumpD d r 1)
      have := bumpD_length d r 1
      simp only [List.foldl_cons, List.length_cons]; omega
  have := this rs []
  unfold tabOf
  simpa using this

/-- a list that is this block's own -/
def OwnList {α : Type} (R : Rp α) (T : Addr) (g : View) (h : Heap) (xs : List α) : Prop := ∃ vs n, h.get? T = some (listObj vs n) ∧ Paired (R g) vs xs
theorem OwnList.keep {α : Type} {R : Rp α} {T : Addr} {g : View} {h h' : Heap} {xs : List α} (x : OwnList R T g h xs) (k : ∀ o, h.get? T = some o → h'.get? T = some o) : OwnList R T g h' xs :=
  let ⟨vs, n, a, b⟩ := x; ⟨vs, n, k _ a, b⟩
theorem OwnList.mono {α : Type} {R : Rp α} (M : Mono R) {T : Addr} {g g' : View} {h : Heap} {xs : List α} (x : OwnList R T g h xs) (hg : VLe g g') : OwnList R T g' h xs :=
  let ⟨vs, n, a, b⟩ := x; ⟨vs, n, a, Paired.mono' (fun _ _ q => M _ _ _ _ hg q) b⟩
theorem OwnList.rlist {α : Type} {R : Rp α} (M : Mono R) {T : Addr} {g : View} {h : Heap} {xs : List α} (x : OwnList R T g h xs) (hg : g T = none) : ∃ o, h.get? T = some o ∧ RList R (addv g T o) (.ref T) xs := by
  obtain ⟨vs, n, a, b⟩ := x
  exact ⟨_, a, T, vs, n, rfl, addv_self _ _ _, Paired.mono' (fun _ _ q => M _ _ _ _ (addv_le _ hg) q) b⟩
theorem OwnList.append {α : Type} {R : Rp α} {prog : Program} {w : World} {A : Around} {E : Value → Shared → Prop} {s : Shared} {T : Addr} {g : View} {xs : List α} {x : α} {v : Value} {Q : Value → Shared → Prop} (h : OwnList R T g s.heap xs) (hv : R g v x) (hsz : xs.length ≤ 1000000)
    (hQ : ∀ h', Heap.SameBut T s.heap h' → OwnList R T g h' (xs ++ [x]) → Q .none { s with heap := h' }) :
    wpAny (model prog w) A (call (.builtin "list.append") [.ref T, v]) Q E s := by
  obtain ⟨vs, n, ho, hp⟩ := h
  refine wpAny_list_append_plain (items := vs.toArray) ⟨n, ho⟩ (fun h' hl hs => hQ h' hs ?_) (by rw [List.size_toArray, hp.length]; exact Nat.le_trans hsz (by decide))
  obtain ⟨n', ho'⟩ := hl
  refine ⟨vs ++ [v], n', ?_, Paired.append hp (.cons hv .nil)⟩
  simpa using ho'
end Mine
end

section
open PySem PySem.W PyProof.Rows
set_option maxRecDepth 100000
namespace Mine

section
variable {prog : Program} {w : World} {A : Around} {β : Type} {R : Rp β}

/-- one outer turn of a comprehension with two fors -/
def Turn2 (prog : Program) (w : World) (A : Around) (R : Rp β) (g : View) (s : Shared) (cenv : Env) (own : List Addr) (t1 i2 t2 elt : Expr) (ifs : List Expr) (Pm : (Str → Option Value) → (Str → Option Value) → Prop) (outs : Nat → List β) (g₂ : View) (n : Nat) (P : Nat → Value → Heap → Prop) : Prop :=
  ∀ i v s₁ m cm g₁, i < n → InEnv g s cenv own g₁ s₁.heap m cm g₁ s₁ → Pm m cm → P i v s₁.heap → VLe g₂ g₁ →
    wpAny (model prog w) A (assign t1 cenv v) (fun _ s₂ => wpAny (model prog w) A (eval i2 cenv) (fun xv s₃ => wpAny (model prog w) A (pyIter xv) (fun it s₄ =>
      ∃ (m' cm' : Str → Option Value) (g₄ : View) (n2 : Nat) (P2 : Nat → Value → Heap → Prop) (Pm2 : (Str → Option Value) → (Str → Option Value) → Prop) (outs2 : Nat → List β), InEnv g s cenv own g₁ s₁.heap m' cm' g₄ s₄ ∧ Pm2 m' cm' ∧ (∀ m cm, Pm2 m cm → Pm m cm) ∧
        Src prog w A t2 s₁ g₄ it n2 P2 s₄ ∧ Turn1 prog w A R g s cenv own t2 elt ifs Pm2 outs2 g₄ n2 P2 ∧ outs i = (List.range n2).flatMap outs2 ∧ (∀ j, j ≤ n2 → ((List.range j).flatMap outs2).length ≤ 1000)) NoE s₃) NoE s₂) NoE s₁

theorem comp2_core {elt t1 i1 t2 i2 : Expr} {ifs : List Expr} {scope : Scope} {pos : Pos} {env : Env} {cl : List (Str × Addr)} {cm : Str → Option Value} {g g₂ : View} {s s₂ : Shared} {n : Nat} {P : Nat → Value → Heap → Prop} {it : Value}
    {RR : Value → Addr → Result → Shared → Prop} (MR : Mono R) (outs : Nat → List β)
    (hcell : ∀ x ∈ scope.names, x.2 ≠ .cell) (hk : scope.kind = .function)
    (hcap : ∀ n c, cl.lookup n = some c → s.heap.IsCell c (cm n)) (hap : ∀ n n' c, cl.lookup n = some c → cl.lookup n' = some c → n = n')
    (G : Grow g s g₂ s₂) (S : Src prog w A t1 s g₂ it n P s₂) (hsz : ∀ i, i ≤ n → ((List.range i).flatMap outs).length ≤ 900000)
    (hi2 : ∀ env x, foldedSetIterable i2 env x = pure x)
    (turn : ∀ C, s₂.heap.get? C = none → Turn2 prog w A R g s (compEnvC scope cl C env) [C] t1 i2 t2 elt ifs (fun _ c => c = cm) outs g₂ n P)
    (hRR : ∀ D C m g' s' ys k, InEnv g s (compEnvC scope cl C env) [C] g s.heap m cm g' s' → s'.heap.get? D = some { cls := .type "list", data := .seq ys k } → s.heap.get? D = none → g' D = none → D ≠ C → s₂.heap.get? D = none → s₂.heap.get? C = none → Paired (R g') ys.toList ((List.range n).flatMap outs) → RR (.ref D) C (.ok .next) s') :
    wpAny (model prog w) A (newList []) (fun acc s₃ => wpAny (model prog w) A (newFunctionEnv scope env.globals cl [] env.qual none .none (some env)) (fun cenv s₄ =>
      codeAny (model prog w) A (.compStart (.ListComp elt [⟨t1, i1, [], 0⟩, ⟨t2, i2, ifs, 0⟩] scope pos) 0 it acc { cenv with scope := relabel scope env }) (RR acc cenv.locals) s₄) NoE s₃) NoE s₂ := by
  obtain ⟨I, fp, wr, Md, St, rfl, W, hst, hwr, hfp, _, hlv, hself⟩ := S.ex
  refine comp_block (cm := cm) G hcell hk hcap hap fun D C s₄ X hl hDs hDg hDC hD2 hC2 K2 hsz2 => ?_
  show codeAny _ _ (.compStart _ 0 (.ref I) (.ref D) (compEnvC scope cl C env)) (RR (.ref D) C) s₄
  have hst₄ : St 0 s₄.heap := W.frame _ _ _ hst fun b _ o e => keeps_get K2 e
  have capD : ∀ n c, (compEnvC scope cl C env).cells.lookup n = some c → c ≠ D := fun n c e => by
    obtain ⟨o, ho, _⟩ := hcap n c e
    exact fun q => by rw [q, hDs] at ho; cases ho
  have hDo : D ∉ [C] := by simpa using hDC
  have loop : codeAny (model prog w) A (.compLoop (.ListComp elt [⟨t1, i1, [], 0⟩, ⟨t2, i2, ifs, 0⟩] scope pos) 0 (.ref I) (.ref D) (compEnvC scope cl C env)) (RR (.ref D) C) s₄ := by
    have apartF : ∀ b ∈ fp, b ≠ D ∧ b ≠ C := fun b hb => by
      obtain ⟨o, e⟩ := hfp b hb
      exact ⟨fun q => (by rw [q, hD2] at e; cases e), fun q => (by rw [q, hC2] at e; cases e)⟩
    refine comp_loop_env (B := 900000) MR (Pm := fun _ c => c = cm) W (heq_out ..) outs (y0 := #[]) X rfl hl hDs hDg hDo (fun q => (apartF D q).1 rfl) capD hst₄ hlv (fun b hb => hwr b hb)
      (fun b hb => ⟨let ⟨o, e⟩ := hfp b hb; ⟨o, keeps_get K2 e⟩, by simpa using (apartF b hb).2⟩) (fun n c e q => ?_) (fun i hi => by simpa using hsz i hi) ?_ ?_
    · obtain ⟨o, ho, _⟩ := hcap n c e
      rw [(hwr c q).1] at ho; cases ho
    · intro i v s₁ m cm' g₁ ys hlt X₁ hm hP hl₁ hg₁ hys hle
      refine wpAny_mono (turn C hC2 i v s₁ m cm' g₁ hlt X₁ hm hP hle) (fun _ s₂' q => ?_) fun _ _ f => f
      unfold nest
      refine wpAny_bind (wpAny_mono q (fun xv s₃ q => wpAny_bind (wpAny_standAt (wpAny_bind (wpAny_of_eq (hi2 _ _) (wpAny_bind (wpAny_holding (wpAny_mono q (fun it' s₅ q => ?_) fun _ _ f => f))))))) fun _ _ f => f)
      obtain ⟨m', cm'', g₄, n2, P2, Pm2, outs2, X₅, hm2, hPm, S2, turn2, hout, hsz2'⟩ := q
      obtain ⟨I2, fp2, wr2, Md2, St2, rfl, W2, hst2, hwr2, hfp2, hfv2, hlv2, hself2⟩ := S2.ex
      have hDg4 : g₄ D = none := by
        cases hx : g₄ D with
        | none => rfl
        | some o =>
          rcases X₅.newS D o hx with h | h
          · rw [hg₁] at h; cases h
          · obtain ⟨n, e⟩ := hl₁; rw [e] at h; cases h
      have hs1 : ∀ b, s₁.heap.get? b = none → s.heap.get? b = none := fun b hb => by
        cases e : s.heap.get? b with
        | none => rfl
        | some o => rw [keeps_get X₁.grow.keeps e] at hb; cases hb
      have hlD : s₅.heap.PlainList D ys := hl₁.at fun o e => X₅.get hDo e
      have hfo : ∀ b ∈ fp2, b ∉ [C] := fun b hb q => by
        rcases hfv2 b hb with h | ⟨o, h⟩
        · obtain ⟨o, e⟩ := X₁.live b q; rw [h] at e; cases e
        · rw [X₅.out b q] at h; cases h
      have hfD : D ∉ fp2 := fun hb => by
        rcases hfv2 D hb with h | ⟨o, h⟩
        · obtain ⟨k, e⟩ := hl₁; rw [h] at e; cases e
        · rw [hDg4] at h; cases h
      have hend : ∀ s', LoopInv R g s (compEnvC scope cl C env) [C] D wr2 Pm2 g₄ s₅.heap ys ((List.range n2).flatMap outs2) s' → StepEnd R g s (compEnvC scope cl C env) [C] D (fun _ c => c = cm) g₁ s₁.heap ys (outs i) s' := by
        rintro s' ⟨m₆, cm₆, g₆, gt₆, ht₆, zs, X₆, hl₆, hg₆, hp₆, hm₆, hle₆, hnew₆, hkb₆⟩
        refine ⟨m₆, cm₆, g₆, gt₆, ht₆, zs, X₆, hPm _ _ hm₆, X₅.leS.trans hle₆, fun b o e => ?_, fun b o hb e => ?_, hl₆, hout ▸ hp₆⟩
        · rcases hnew₆ b o e with h | h
          · exact X₅.newS b o h
          · right
            cases hx : s₁.heap.get? b with
            | none => rfl
            | some o' =>
              by_cases hbo : b ∈ [C]
              · obtain ⟨o'', e'⟩ := X₅.live b hbo; rw [e'] at h; cases h
              · rw [X₅.since b o' hbo hx] at h; cases h
        · have hbo : b ∉ [C] := fun q => hb (List.mem_cons_of_mem _ q)
          refine hkb₆ b o (fun q => ?_) (X₅.since b o hbo e)
          rcases List.mem_cons.mp q with rfl | q
          · exact hb List.mem_cons_self
          · rcases List.mem_append.mp q with q | q
            · exact hbo q
            · rw [(hwr2 b q).1] at e; cases e
      have loop2 : codeAny (model prog w) A (.compLoop (.ListComp elt [⟨t1, i1, [], 0⟩, ⟨t2, i2, ifs, 0⟩] scope pos) 1 (.ref I2) (.ref D) (compEnvC scope cl C env))
          (fun r s' => match r with | .ok f => wpAny (model prog w) A (pure ()) (fun _ s₃ => StepEnd R g s (compEnvC scope cl C env) [C] D (fun _ c => c = cm) g₁ s₁.heap ys (outs i) s₃) NoE s' | .error e => cameBackBy (model prog w) A (compEnvC scope cl C env) NoE e s') s₅ := by
        refine comp_loop_env (B := 1000000) MR (Pm := Pm2) W2 (heq_in ..) outs2 (y0 := ys) X₅ hm2 hlD hDs hDg4 hDo hfD capD hst2 hlv2 (fun b hb => ⟨hs1 b (hwr2 b hb).1, (hwr2 b hb).2⟩)
          (fun b hb => ⟨hfp2 b hb, hfo b hb⟩) (fun n c e q => ?_) (fun j hj => ?_) ?_ ?_
        · obtain ⟨o, ho, _⟩ := X₁.cell n c e
          rw [(hwr2 c q).1] at ho; cases ho
        · have h1 := hsz2' j hj
          omega
        · intro j v2 s₇ m₇ cm₇ g₇ ys₇ hlt7 X₇ hm₇ hP7 hl₇ hg₇ hys₇ hle₇
          refine wpAny_mono (turn2 j v2 s₇ m₇ cm₇ g₇ hlt7 X₇ hm₇ hP7 hle₇) (fun _ s₈ q => ?_) fun _ _ f => f
          exact body1_any hDs hDo capD hl₇ hg₇ hys₇ q
        · intro s' hL
          exact wpAny_pure (hend s' hL)
      refine wpAny_bind (wpAny_runOwn ?_)
      exact wpAny_compStart rfl rfl loop2 (hself2 _ _ _ hst2 loop2)
    · rintro s' ⟨m, cm', g', gt, ht, ys, X', hl', hg', hp, rfl, hle, hnew, hkb⟩
      obtain ⟨k, hk'⟩ := hl'
      simp only [Array.empty_append] at hk'
      refine hRR D C m g' s' ys k ?_ hk' hDs hg' hDC hD2 hC2 hp
      exact { X' with since := fun b o _ e => keeps_get X'.grow.keeps e, leS := X'.grow.le, newS := X'.grow.new, was := fun _ _ e => e }
  exact wpAny_compStart rfl rfl loop (hself _ _ _ hst₄ loop)

/-- the source of a comprehension with two fors and its turns -/
def Comp2 (prog : Program) (w : World) (A : Around) (R : Rp β) (g : View) (s : Shared) (env : Env) (scope : Scope) (cl : List (Str × Addr)) (cm : Str → Option Value) (t1 i2 t2 elt : Expr) (ifs : List Expr) (outs : Nat → List β) (n : Nat) (it : Value) (s₂ : Shared) : Prop :=
  ∃ g₂ P, Grow g s g₂ s₂ ∧ Src prog w A t1 s g₂ it n P s₂ ∧ ∀ C, s₂.heap.get? C = none → Turn2 prog w A R g s (compEnvC scope cl C env) [C] t1 i2 t2 elt ifs (fun _ c => c = cm) outs g₂ n P

theorem ev_comp2 {elt t1 i1 t2 i2 : Expr} {ifs : List Expr} {scope : Scope} {pos : Pos} {env : Env} {cl : List (Str × Addr)} {cm : Str → Option Value} {g : View} {s : Shared} {n : Nat} {Q : Value → Shared → Prop} (MR : Mono R) (outs : Nat → List β)
    (hclos : closureFor scope env = pure cl) (hcell : ∀ x ∈ scope.names, x.2 ≠ .cell) (hk : scope.kind = .function) (hnames : ∀ x ∈ scope.names, x.2 = .local → scope.names.lookup x.1 = some .local)
    (hcap : ∀ n c, cl.lookup n = some c → s.heap.IsCell c (cm n)) (hap : ∀ n n' c, cl.lookup n = some c → cl.lookup n' = some c → n = n') (hsz : ∀ i, i ≤ n → ((List.range i).flatMap outs).length ≤ 900000)
    (h : wpAny (model prog w) A (eval i1 env) (fun xv s₁ => wpAny (model prog w) A (pyIter xv) (fun it s₂ => Comp2 prog w A R g s env scope cl cm t1 i2 t2 elt ifs outs n it s₂) NoE s₁) NoE s)
    (hQ : ∀ v g' s', Grow g s g' s' → RList R g' v ((List.range n).flatMap outs) → Q v s')
    (hs : ∀ x, foldedSetIterable i1 env x = pure x := by intro _; rfl) (hi2 : ∀ env x, foldedSetIterable i2 env x = pure x := by intro _ _; rfl) :
    wpAny (model prog w) A (eval (.ListComp elt [⟨t1, i1, [], 0⟩, ⟨t2, i2, ifs, 0⟩] scope pos) env) Q NoE s := by
  rw [eval_ListComp]
  refine wpAny_comprehension_free (use := none) rfl hs hclos hk hnames (wpAny_mono h (fun xv s₁ h₁ => wpAny_mono h₁ (fun it s₂ h₂ => ?_) fun _ _ e => e) fun _ _ e => e)
  obtain ⟨g₂, P, G, S, turn⟩ := h₂
  refine comp2_core (RR := fun acc C => compPost (model prog w) A NoE none Q acc C) MR outs hcell hk hcap hap G S hsz hi2 turn ?_
  intro D C m g' s' ys k X hD hDs hg hDC _ _ hp
  refine ⟨m, X.ns, fun h' hs' => hQ _ (addv g' D { cls := .type "list", data := .seq ys k }) _ ?_ (rlist_of MR hg hp)⟩
  have hD' : h'.get? D = some { cls := .type "list", data := .seq ys k } := (hs'.2 D hDC).trans hD
  refine Grow.add ⟨keeps_but s'.toks X.grow.keeps hs' (X.fresh C List.mem_cons_self), X.grow.le, fun b o e => ?_, X.grow.new⟩ hD' hDs
  exact (hs'.2 b (fun q => by rw [q, X.out C List.mem_cons_self] at e; cases e)).trans (X.grow.inn b o e)

theorem ev_comp2X {elt t1 i1 t2 i2 : Expr} {ifs : List Expr} {scope : Scope} {pos : Pos} {env : Env} {cl : List (Str × Addr)} {g₀ gt g : View} {s₀ s : Shared} {own : List Addr} {ht : Heap} {m cm : Str → Option Value} {n : Nat} {Q : Value → Shared → Prop} (MR : Mono R) (outs : Nat → List β)
    (X : InEnv g₀ s₀ env own gt ht m cm g s)
    (hclos : closureFor scope env = pure cl) (hsub : ∀ n c, cl.lookup n = some c → env.cells.lookup n = some c) (hsz : ∀ i, i ≤ n → ((List.range i).flatMap outs).length ≤ 900000)
    (h : wpAny (model prog w) A (eval i1 env) (fun xv s₁ => wpAny (model prog w) A (pyIter xv) (fun it s₂ => Comp2 prog w A R g s env scope cl cm t1 i2 t2 elt ifs outs n it s₂) NoE s₁) NoE s)
    (hQ : ∀ v g' s', Grow g s g' s' → InEnv g₀ s₀ env own gt ht m cm g' s' → RList R g' v ((List.range n).flatMap outs) → Q v s')
    (hcell : ∀ x ∈ scope.names, x.2 ≠ .cell := by decide) (hk : scope.kind = .function := by rfl) (hnames : ∀ x ∈ scope.names, x.2 = .local → scope.names.lookup x.1 = some .local := by decide)
    (hs : ∀ x, foldedSetIterable i1 env x = pure x := by intro _; rfl) (hi2 : ∀ env x, foldedSetIterable i2 env x = pure x := by intro _ _; rfl) :
    wpAny (model prog w) A (eval (.ListComp elt [⟨t1, i1, [], 0⟩, ⟨t2, i2, ifs, 0⟩] scope pos) env) Q NoE s :=
  ev_comp2 (n := n) (cm := cm) MR outs hclos hcell hk hnames (fun n c e => X.cell n c (hsub n c e)) (fun n n' c e e' => X.apart n n' c (hsub _ _ e) (hsub _ _ e')) hsz h (fun v g' s' G hv => hQ v g' s' G (X.step G) hv) hs hi2
end
end Mine
end

section
open PySem PySem.W PyProof.Rows PySem.Calls
set_option maxRecDepth 100000
namespace Mine
set_option pp.deepTerms false
set_option pp.deepTerms.threshold 2

def tab (rt : Nat → Nat → Nat) : List (List Nat) := (List.range 3).map fun a => (List.range 3).map fun b => rt a b
theorem tab_row {rt : Nat → Nat → Nat} {a : Nat} (h : a < 3) : (tab rt)[a]? = some ((List.range 3).map fun b => rt a b) := by
  simp [tab, h]
theorem tab_cell {rt : Nat → Nat → Nat} {a b : Nat} (h : b < 3) : ((List.range 3).map fun b => rt a b)[b]? = some (rt a b) := by
  simp [h]

theorem Src.base {prog : Program} {w : World} {A : Around} {target : Expr} {s₀ s' s : Shared} {g : View} {it : Value} {n : Nat} {P : Nat → Value → Heap → Prop} (S : Src prog w A target s' g it n P s) (h : ∀ b, s'.heap.get? b = none → s₀.heap.get? b = none) : Src prog w A target s₀ g it n P s := by
  obtain ⟨I, fp, wr, Md, St, e, W, hst, hwr, hfp, hfv, hlv, hself⟩ := S.ex
  exact ⟨I, fp, wr, Md, St, e, W, hst, fun b hb => ⟨h b (hwr b hb).1, (hwr b hb).2⟩, hfp, fun b hb => (hfv b hb).imp (h b) id, hlv, hself⟩
theorem InEnv.noneOf {g₀ gt g : View} {s₀ s : Shared} {env : Env} {own : List Addr} {ht : Heap} {m cm : Str → Option Value} (x : InEnv g₀ s₀ env own gt ht m cm g s) {b : Addr} (h : s.heap.get? b = none) : ht.get? b = none := by
  cases e : ht.get? b with
  | none => rfl
  | some o =>
    by_cases hb : b ∈ own
    · obtain ⟨o', e'⟩ := x.live b hb; rw [h] at e'; cases e'
    · rw [x.since b o hb e] at h; cases h

theorem newlist_view {α : Type} {R : Rp α} {g : View} {s : Shared} {vs : List Value} {xs : List α} (MR : Mono R) (G : VIn g s.heap) (hp : Paired (R g) vs xs) (k : Nat) :
    ∃ g', Grow g s g' { s with heap := s.heap.push { cls := .type "list", data := .seq vs.toArray }, toks := k } ∧ RList R g' (.ref s.heap.objs.size) xs := by
  have h0 := (Grow.refl G).none₀ none_of_size
  exact ⟨_, ((Grow.refl G).push _ k).add (Heap.get?_push_size _ rfl) h0.1, _, vs, 0, rfl, addv_self _ _ _, Paired.mono' (fun _ _ q => MR _ _ _ _ (addv_le _ h0.2) q) hp⟩
/-- a new list that is the block's own -/
theorem InEnv.newOwn {α : Type} {R : Rp α} {g₀ gt g : View} {s₀ s : Shared} {env : Env} {own : List Addr} {ht : Heap} {m cm : Str → Option Value} {vs : List Value} {xs : List α} (X : InEnv g₀ s₀ env own gt ht m cm g s) (hp : Paired (R g) vs xs) (k : Nat) :
    InEnv g₀ s₀ env (s.heap.objs.size :: own) gt ht m cm g { s with heap := s.heap.push { cls := .type "list", data := .seq vs.toArray }, toks := k } ∧
      OwnList R s.heap.objs.size g (s.heap.push { cls := .type "list", data := .seq vs.toArray }) xs ∧ s.heap.get? s.heap.objs.size = none := by
  have h0 := X.grow.none₀ none_of_size
  exact ⟨(X.step ((Grow.refl X.grow.inn).push _ k)).addOwn ⟨_, Heap.get?_push_size _ rfl⟩ h0.2 h0.1, ⟨vs, 0, Heap.get?_push_size _ rfl, hp⟩, none_of_size⟩

/-- row + 'abc'[name] for row in .. -/
theorem letter_turn {prog : Program} {w : World} {A : Around} {g g₂ g₃ : View} {s s₃ : Shared} {h₃ : Heap} {cenv : Env} {C c : Addr} {m cm : Str → Option Value} {x : List Nat} {o : Nat} {v vo : Value} {nm : Str} {p1 p2 p3 p4 p5 : Pos} {k : Nat}
    (X : InEnv g s cenv [C] g₂ h₃ (fun y => if y = Str.ofString "row" then some v else m y) cm g₃ s₃) (hv : RS g₃ v x) (hc : cenv.cells.lookup nm = some c) (hcm : cm nm = some vo) (ho : RNat g₃ vo o) (h3 : o < 3) (hx : x.length ≤ 900000)
    (hk : cenv.scope.kind = .function) (hl : cenv.kindOf (Str.ofString "row") = some .local) (hl2 : cenv.kindOf nm = some .cell) (hd : (nm == ("__debug__" : Str)) = false) :
    wpAny (model prog w) A (eval (.BinOp (.Name (Str.ofString "row") p1) .Add (.Subscript (.Constant (.str (Str.ofString "abc")) k p2) (.Name nm p3) p4) p5) cenv) (fun y s₄ => ∃ m g₄, InEnv g s cenv [C] g₂ h₃ m cm g₄ s₄ ∧ RS g₄ y (x ++ [97 + o])) NoE s₃ := by
  refine wpAny_BinOp (ld_local X rfl (Subscript_ (wpAny_Constant_str (ld_cell (X.toks _) hc hcm ?_ hk hl2 hd))) hk hl)
  refine r_letter ⟨_, rfl⟩ ho h3 fun z n hz => ?_
  refine r_add_str hv hz (by simp only [List.length_cons, List.length_nil]; omega) fun y n' hy => ?_
  exact ⟨_, _, X.toks n', hy⟩

theorem InEnv.named {g₀ gt g : View} {s₀ s : Shared} {env : Env} {own : List Addr} {ht : Heap} {m cm : Str → Option Value} (_x : InEnv g₀ s₀ env own gt ht m cm g s) : ∃ EV : (Str → Option Value) → (Str → Option Value) → View → Shared → Prop, EV = InEnv g₀ s₀ env own gt ht := ⟨_, rfl⟩
def grownAt (rt : Nat → Nat → Nat) (f r : List Nat) (i : Nat) : Nat → List (List Nat)
  | 0 => []
  | k + 1 => addL (r.getD k 0) (GG rt f r (i + 1) k)
theorem GG_grown (rt : Nat → Nat → Nat) (f r : List Nat) (i : Nat) : ∀ k, GG rt f r (i + 1) k = addL (f.getD i 0) ((GG rt f r i k).map (rep (paidN rt (f.getD i 0) r k))) ++ grownAt rt f r i k
  | 0 => by simp [GG, grownAt]
  | k + 1 => by simp only [GG, grownAt]

/-- row + 'abc'[rest[spot - 1]] for row in .. -/
theorem letter_turn2 {prog : Program} {w : World} {A : Around} {g g₂ g₃ : View} {s s₃ : Shared} {h₃ : Heap} {cenv : Env} {C c1 c2 : Addr} {m cm : Str → Option Value} {x l : List Nat} {o k0 : Nat} {v vl vk : Value} {n1 n2 : Str} {p1 p2 p3 p4 p5 p6 p7 p8 p9 : Pos} {kk kk2 : Nat}
    (X : InEnv g s cenv [C] g₂ h₃ (fun y => if y = Str.ofString "row" then some v else m y) cm g₃ s₃) (hv : RS g₃ v x) (hc1 : cenv.cells.lookup n1 = some c1) (hcm1 : cm n1 = some vl) (hl : RW g₃ vl l) (hc2 : cenv.cells.lookup n2 = some c2) (hcm2 : cm n2 = some vk) (hkv : RNat g₃ vk (k0 + 1))
    (hlen : l.length ≤ 1000) (h256 : ∀ n ∈ l, n < 256) (ho : l[k0]? = some o) (h3 : o < 3) (hx : x.length ≤ 900000)
    (hk : cenv.scope.kind = .function) (hlr : cenv.kindOf (Str.ofString "row") = some .local) (hl1 : cenv.kindOf n1 = some .cell) (hl2 : cenv.kindOf n2 = some .cell) (hd1 : (n1 == ("__debug__" : Str)) = false) (hd2 : (n2 == ("__debug__" : Str)) = false) :
    wpAny (model prog w) A (eval (.BinOp (.Name (Str.ofString "row") p1) .Add (.Subscript (.Constant (.str (Str.ofString "abc")) kk p2) (.Subscript (.Name n1 p3) (.BinOp (.Name n2 p4) .Sub (.Constant (.int 1) kk2 p5) p6) p7) p8) p9) cenv) (fun y s₄ => ∃ m g₄, InEnv g s cenv [C] g₂ h₃ m cm g₄ s₄ ∧ RS g₄ y (x ++ [97 + o])) NoE s₃ := by
  obtain ⟨tk, rfl⟩ := hkv
  refine wpAny_BinOp (ld_local X rfl (Subscript_ (wpAny_Constant_str (Subscript_ (ld_cell (X.toks _) hc1 hcm1 (wpAny_BinOp (ld_cell (X.toks _) hc2 hcm2 (wpAny_Constant_int (AutoIntOps.sub_0 ?_)) hk hl2 hd2)) hk hl1 hd1)))) hk hlr)
  refine r_bitem (i := k0) h256 hlen hl ⟨_, by congr 1; omega⟩ ho fun yo n hyo => ?_
  refine r_letter ⟨_, rfl⟩ hyo h3 fun z n hz => ?_
  refine r_add_str hv hz (by simp only [List.length_cons, List.length_nil]; omega) fun y n' hy => ?_
  exact ⟨_, _, X.toks n', hy⟩

set_option maxHeartbeats 4000000 in
theorem call_laid {prog : Program} {w : World} (HQ : QuoSpec prog w) {A : Around} {s : Shared} {g : View} {vf vr vt ve : Value} {rt : Nat → Nat → Nat} {f r e : List Nat} {Q : Value → Shared → Prop}
    (W : Wd w.params s.heap) (R : Room A 3) (G : VIn g s.heap) (hvf : RW g vf f) (hvr : RW g vr r) (hvt : RList (RList RNat) g vt (tab rt)) (hve : RS g ve e) (he : IsEnd e)
    (hf : ∀ n ∈ f, n < 3) (hr : ∀ n ∈ r, n < 3) (hrt : ∀ a b, rt a b ≤ 2) (hlen : f.length + r.length ≤ 4)
    (hQ : ∀ v' g' s', Grow g s g' s' → RList RS g' v' (laid rt f r) → Q v' s') :
    wpAny (model prog w) A (call (.ref 86) [vf, vr, vt, ve]) Q NoE s := by
  refine call_fn (binds := [(Str.ofString "front", vf), (Str.ofString "rest", vr), (Str.ofString "rates", vt), (Str.ofString "end", ve)]) R W (W.K 86 _ rfl) rfl ⟨85, _, _, _, rfl, W.K 85 _ rfl, rfl, rfl⟩ rfl rfl rfl rfl G (by decide) fun L s₁ hL R1 W1 X => ?_
  have hh := R1.handled
  have X' : ∃ m0 cm0 : Str → Option Value, InEnv g s _ _ g s₁.heap m0 cm0 g s₁ ∧ m0 (Str.ofString "end") = some ve ∧ cm0 (Str.ofString "front") = some vf ∧ cm0 (Str.ofString "rest") = some vr ∧ cm0 (Str.ofString "rates") = some vt := ⟨_, _, X, rfl, rfl, rfl, rfl⟩
  obtain ⟨m0, cm0, X, hme, hcf, hcr, hct⟩ := X'
  have hf256 : ∀ n ∈ f, n < 256 := fun n h => Nat.lt_trans (hf n h) (by decide)
  have hr256 : ∀ n ∈ r, n < 256 := fun n h => Nat.lt_trans (hr n h) (by decide)
  have hfl : f.length ≤ 4 := by omega
  -- dear
  refine wpAny_execs_cons (wpAny_Assign_Name (Call_Name rfl (ld_blt W1 (gb_sum _) (PyProof.Rows.callWith_builtin1 (spliced_more ?_)))))
  refine ev_comp2X (R := RNat) (n := f.length) (cl := [(Str.ofString "rates", L + 1 + 1 + 1), (Str.ofString "front", L + 1)]) mono_RNat (dearOuts rt f) X rfl (lookup_sub_cons rfl (lookup_sub_cons rfl lookup_sub0)) (fun i hi => ?_) ?_ ?_
  · have : ∀ k, ((List.range k).flatMap (dearOuts rt f)).length ≤ k * 4 := fun k => by
      induction k with
      | zero => simp
      | succ k ih =>
        have : (dearOuts rt f k).length ≤ 4 := by unfold dearOuts; rw [List.length_map, List.length_drop]; omega
        rw [List.range_succ, List.flatMap_append, List.length_append]
        simp only [List.flatMap_cons, List.flatMap_nil, List.append_nil]; omega
    have := this i; omega
  · refine Call_Name rfl (ld_blt W1 (gb_enumerate _) (callWith_type1 (spliced_more (ld_cell X (c := L + 1) rfl hcf (spliced_none ?_)))))
    refine src_enumB hh (Grow.refl X.grow.inn) hvf fun it s₂ G2 S2 => ⟨g, _, G2, bw_size f ▸ S2 _ _ _, fun C hC => ?_⟩
    rintro i v s₃ m cm' g₃ hi X3 hm ⟨T, t, c, y, rfl, hc, hy, hT⟩ hle
    rw [hm] at X3
    obtain ⟨a, ha, hca⟩ := bw_get hf256 hc
    rw [hca] at hy
    refine wpAny_assign_Tuple hh hT rfl rfl fun h' hx => ?_
    have X4 := X3.step (Grow.ofKeeps X3.grow.inn (keeps_ext hx))
    refine assignInOrder_cons (wpAny_assign_Name (st_local X4 fun s₅ X5 _ => ?_))
    refine assignInOrder_cons (wpAny_assign_Name (st_local X5 fun s₆ X6 _ => assignInOrder_nil ?_))
    refine Subscript_ (ld_cell X6 (c := L + 1) rfl hcf (wpAny_Slice (wpAny_evalPart_some (wpAny_BinOp (ld_local X6 rfl (wpAny_Constant_int (AutoIntOps.add_0 (wpAny_evalPart_none (wpAny_evalPart_none ?_)))))))))
    have X7 := X6.toks (s₆.toks + 1 + 1)
    refine r_bfrom (s := { s₆ with toks := s₆.toks + 1 + 1 }) (k := i + 1) hvf (by omega) fun yv n hyv => ?_
    have X8 := X7.step ((Grow.refl X7.grow.inn).push { cls := .type "slice", data := .fields #[.int ((i + 1 : Nat) : Int) (s₆.toks + 1), .none, .none] } n)
    have hav : f.getD i 0 = a := by rw [List.getD_eq_getElem?_getD, ha]; rfl
    have ha3 := hf a (List.mem_of_getElem? ha)
    refine src_bytes hh (Grow.refl X8.grow.inn) (bw_bytes hyv) fun it2 s₉ G9 S9 => ?_
    have X9 := X8.step G9
    refine ⟨_, _, g₃, (f.drop (i + 1)).length, _, fun m cm => cm = cm0 ∧ m (Str.ofString "ahead") = some y, pick1 (fun b => rt b a) (f.drop (i + 1)), X9, ⟨rfl, rfl⟩, fun _ _ q => q.1, bw_size (f.drop (i + 1)) ▸ (S9 _).base fun b hb => X8.noneOf hb, ?_, ?_, ?_⟩
    · rintro j v2 s₁₀ m₁₀ cm₁₀ g₁₀ hj X10 ⟨hc10, hm10⟩ ⟨c2, hc2, hv2⟩ hle10
      obtain ⟨b, hb, hcb⟩ := bw_get (fun n hn => hf256 n (List.mem_of_mem_drop hn)) hc2
      rw [hcb] at hv2
      rw [hc10] at X10
      have hb3 := hf b (List.mem_of_mem_drop (List.mem_of_getElem? hb))
      refine wpAny_assign_Name (st_local X10 fun s₁₁ X11 _ => tests_nil ?_)
      rw [if_pos rfl]
      have hle11 : VLe g g₁₀ := hle.trans hle10
      refine Subscript_ (Subscript_ (ld_cell X11 (c := L + 1 + 1 + 1) rfl hct (ld_local X11 rfl ?_)))
      refine r_item X11.grow.inn (mono_RList (mono_RList mono_RNat) _ _ _ _ hle11 hvt) hv2 (tab_row hb3) (by omega) fun row hrow => ?_
      refine ld_local X11 hm10 ?_
      refine tmp (r_item X11.grow.inn hrow hy (tab_cell ha3) (by omega) fun z hz => ?_)
      exact ⟨_, _, _, _, X11, ⟨rfl, hm10⟩, hz, by simp [pick1, hb]⟩
    · rw [pick1_all]; simp only [dearOuts, hav]
    · intro j hj
      have h1 := pick1_size (fun b => rt b a) (f.drop (i + 1)) j hj
      rw [List.length_drop] at h1; omega
  · intro v' g' s₂ G2 X2 hv
    refine spliced_none (r_sum hh X2.grow.inn hv fun vd s₃ G3 hvd => ?_)
    have hd : dearL rt f ≤ 32 := Nat.le_trans (dearL_le hrt f) (by
      have := Nat.mul_le_mul hfl (Nat.mul_le_mul_left 2 hfl); omega)
    refine st_local (X2.step G3) fun s₄ X4 _ => ?_
    have W4 := W.keeps X4.grow.keeps
    -- the first line
    refine wpAny_execs_cons (wpAny_Assign_Name (wpAny_List (spliced_more (Call_Name rfl (ld_glob W4 (gl_sent _) (callWith_fn (P := w.params) ⟨_, _, _, _, rfl⟩ (spliced_more (wpAny_List (spliced_more (wpAny_Constant_str (spliced_none ⟨by show 1 ≤ sizeLine; decide, ?_⟩)))))))))))
    have hdot : Paired (RS g') [Value.str (Str.ofString ".") s₄.toks] [[46]] := .cons ⟨_, rfl⟩ .nil
    obtain ⟨g5, G5, hdl⟩ := newlist_view (s := { s₄ with toks := s₄.toks + 1 }) mono_RS X4.grow.inn hdot (s₄.toks + 1)
    have X5 := (X4.toks (s₄.toks + 1)).step G5
    refine spliced_more (ld_local X5 rfl (spliced_more (ld_local X5 hme (spliced_none ⟨W.keeps X5.grow.keeps, ?_⟩))))
    have hgood1 : ∀ x ∈ ([[46]] : List (List Nat)), Good x := fun x hx => by
      rw [List.mem_singleton] at hx; subst hx; exact ⟨⟨[], rfl⟩, by decide⟩
    refine call_sent HQ (W.keeps X5.grow.keeps) R1 X5.grow.inn hdl hvd (mono_RS _ _ _ _ X5.grow.le hve) (by simp) hgood1 he (by show dearL rt f ≤ 1000; omega) (by show _ + 1 * dearL rt f ≤ 100000; simp; omega) fun v6 g6 s6 G6 hv6 => ?_
    have X6 := X5.step G6
    refine spliced_none ⟨by show 1 ≤ sizeLine; decide, ?_⟩
    have hp6 : Paired (RList RS g6) [v6] ((List.range 1).map (GG rt f r 0)) := .cons (by simpa [GG, dearL] using hv6) .nil
    obtain ⟨X7, hO7, hT0⟩ := X6.newOwn hp6 s6.toks
    have hT1 := X6.noneOf hT0
    obtain ⟨hTL, hTc, hTo⟩ := X6.apartNew hT0
    generalize s6.heap.objs.size = T at X7 hO7 hTL hTc hTo hT1
    refine st_local X7 fun s₈ X8 k8 => ?_
    have hO8 := hO7.keep fun o e => k8 T o (fun q => hTL (List.mem_singleton.mp q)) e
    -- the rest laid
    refine wpAny_execs_cons ?_
    refine exec_for X8 (ld_cell X8 (c := L + 1 + 1) rfl hcr (src_bytes hh (Grow.refl X8.grow.inn) (bw_bytes hvr) fun it s₉ G9 S9 => ?_))
    have hle6 : VLe g g6 := X6.grow.le
    refine ⟨g6, r.length, _, G9, bw_size r ▸ S9 _, fun k m cm g' h => m (Str.ofString "line") = some (.ref T) ∧ m (Str.ofString "end") = some ve ∧ cm (Str.ofString "front") = some vf ∧ cm (Str.ofString "rest") = some vr ∧ cm (Str.ofString "rates") = some vt ∧
      OwnList (RList RS) T g' h ((List.range (k + 1)).map (GG rt f r 0)), ?_, ?_, ?_, ?_⟩
    · exact ⟨rfl, hme, hcf, hcr, hct, hO8.keep fun o e => keeps_get G9.keeps e⟩
    · exact fun i m cm g' h h' a k => ⟨a.1, a.2.1, a.2.2.1, a.2.2.2.1, a.2.2.2.2.1, a.2.2.2.2.2.keep fun o e => k T List.mem_cons_self o e⟩
    · rintro k vo m cm g' s10 hk X10 ⟨hml, hme', hcf', hcr', hct', hO10⟩ ⟨c, hc, hvo⟩ hle10
      obtain ⟨o, ho, hco⟩ := bw_get hr256 hc
      rw [hco] at hvo
      have ho3 := hr o (List.mem_of_getElem? ho)
      have hTc5 := hTc (Str.ofString "octet") (L + 1 + 1 + 1 + 1 + 1) rfl
      refine wpAny_assign_Name (st_cell X10 (c := L + 1 + 1 + 1 + 1 + 1) rfl (List.mem_cons_of_mem _ (List.mem_cons_of_mem _ List.mem_cons_self)) fun s11 X11 k11 => ?_)
      have hO11 := hO10.keep fun o e => k11 T o (fun q => hTc5 (List.mem_singleton.mp q).symm) e
      obtain ⟨vsT, nT, hoT, hpT⟩ := id hO11
      have hTT : s11.TypeIs (.ref T) "list" := ⟨_, hoT, rfl⟩
      refine wpAny_execs_cons (wpAny_Expr (MethodCall_ (ld_local X11 hml ?_)))
      refine getMethod_builtin hTT F.plainAttrs_list F.slot_list_append F.type_list_append (fun a e => by cases e; exact ⟨_, hoT, rfl⟩) ?_
      have hlast : ((List.range (k + 1)).map (GG rt f r 0)).getLast? = some (GG rt f r 0 k) := by rw [List.range_succ, List.map_append]; simp
      obtain ⟨vL, hvL, hRL⟩ := Paired.last hpT hlast
      refine callWith_method1 (spliced_more ?_)
      refine ev_map (R₁ := RS) (R := RS) (xs := GG rt f r 0 k) (cl := [(Str.ofString "octet", L + 1 + 1 + 1 + 1 + 1)]) (fun x => x ++ [97 + o]) mono_RS mono_RS hh X11 rfl (lookup_sub_cons rfl lookup_sub0) ?_ ?_ ?_ ?_
      · have := GG_length (rt := rt) (f := f) (r := r) 0 k
        have : 2 ^ (0 + k) ≤ 2 ^ 4 := Nat.pow_le_pow_right (by decide) (by omega)
        omega
      · exact Subscript_ (ld_local X11 hml (minus1 fun t n => item_plainLast hoT hvL ⟨g', Grow.ofKeeps X11.grow.inn (keeps_toks n), hRL⟩))
      · intro C m₂ g₁ g₂ g₃ h₃ s₃ v x hx hle1 X3 hR hle3
        refine letter_turn X3 hR rfl ?_ hvo ho3 ?_ rfl rfl rfl (by decide)
        · exact if_pos rfl
        · have := GG_rows (rt := rt) (f := f) (r := r) hrt 0 k x hx
          omega
      · intro vn gn sn Gn Xn hvn
        have hOn : OwnList (RList RS) T gn sn.heap ((List.range (k + 1)).map (GG rt f r 0)) := (hO11.mono (mono_RList mono_RS) Gn.le).keep fun o e => keeps_get Gn.keeps e
        refine spliced_none (hOn.append hvn (by rw [List.length_map, List.length_range]; omega) fun h' hs' hO' => ?_)
        refine wpAny_execs_nil ⟨rfl, _, _, gn, Xn.mut' sn.toks hs' List.mem_cons_self hTL hTc ?_, hml, hme', ?_, ?_, ?_, ?_⟩
        · obtain ⟨_, _, ho, _⟩ := hO'; exact ⟨_, ho⟩
        · exact hcf'
        · exact hcr'
        · exact hct'
        · rw [List.range_succ, List.map_append]
          have e1 : GG rt f r 0 (k + 1) = addL o (GG rt f r 0 k) := by
            simp only [GG, List.getD_eq_getElem?_getD, ho, Option.getD_some]
          rw [List.map_cons, List.map_nil, e1]
          exact hO'
    · rintro m cm g' s10 X10 ⟨hml, hme', hcf', hcr', hct', hO10⟩ hle10
      obtain ⟨oT, hoT, hline⟩ := hO10.rlist (mono_RList mono_RS) (X10.out T List.mem_cons_self)
      have X11 := X10.freeze hT1 List.mem_cons_self hTo hoT
      have hle11 : VLe g (addv g' T oT) := X11.grow.le
      generalize addv g' T oT = g11 at X11 hline hle11
      -- the front laid into it
      refine wpAny_execs_cons ?_
      refine exec_for X11 (ld_cell X11 (c := L + 1) rfl hcf' (src_bytes hh (Grow.refl X11.grow.inn) (bw_bytes hvf) fun it s12 G12 S12 => ?_))
      refine ⟨g11, f.length, _, G12, bw_size f ▸ S12 _, fun i m cm g' h => (∃ vl, m (Str.ofString "line") = some vl ∧ RList (RList RS) g' vl (lineOf rt f r i)) ∧ m (Str.ofString "end") = some ve ∧ cm (Str.ofString "front") = some vf ∧ cm (Str.ofString "rest") = some vr ∧ cm (Str.ofString "rates") = some vt, ?_, ?_, ?_, ?_⟩
      · exact ⟨⟨_, hml, hline⟩, hme', hcf', hcr', hct'⟩
      · exact fun i m cm g' h h' a k => a
      · rintro i vo m cm g' s13 hi X13 ⟨⟨vl, hml, hvl⟩, hme', hcf', hcr', hct'⟩ ⟨c, hc, hvo⟩ hle13
        obtain ⟨o, ho, hco⟩ := bw_get hf256 hc
        rw [hco] at hvo
        have ho3 := hf o (List.mem_of_getElem? ho)
        have hog : f.getD i 0 = o := by rw [List.getD_eq_getElem?_getD, ho]; rfl
        refine wpAny_assign_Name (st_cell X13 (c := L + 1 + 1 + 1 + 1 + 1) rfl (List.mem_cons_of_mem _ List.mem_cons_self) fun s14 X14 k14 => ?_)
        refine wpAny_execs_cons (Assign_Tuple_swapped (names := [Str.ofString "fresh", Str.ofString "paid"]) (wpAny_Tuple (spliced_more (wpAny_List (spliced_none ⟨by show 0 ≤ sizeLine; decide, ?_⟩)))))
        obtain ⟨X15, hO15, hU0⟩ := X14.newOwn (R := RList RS) (vs := []) (xs := []) .nil s14.toks
        obtain ⟨hUL, hUc, hUo⟩ := X14.apartNew hU0
        have hU1 := X14.noneOf hU0
        generalize s14.heap.objs.size = U at X15 hO15 hUL hUc hUo hU1
        refine spliced_more (wpAny_Constant_int (spliced_none ⟨by show 2 ≤ sizeLine; decide, ?_⟩))
        have X16 := (X15.toks (s14.toks + 1)).step ((Grow.refl (X15.toks (s14.toks + 1)).grow.inn).push (tupObj [.ref U, .int 0 s14.toks]) (s14.toks + 1))
        have hO16 := hO15.keep (h' := (s14.heap.push { cls := .type "list", data := .seq ([] : List Value).toArray }).push (tupObj [.ref U, .int 0 s14.toks])) fun o e => Heap.get?_push_of_some _ e
        refine unpackItems_tuple (items := #[.ref U, .int 0 s14.toks]) hh ⟨_, Heap.get?_push_size _ rfl, rfl, 0, rfl⟩ fun h' hx => ?_
        have X17 := X16.step (Grow.ofKeeps X16.grow.inn (keeps_ext hx))
        have hO17 := hO16.keep (h' := h') fun o e => keeps_get (keeps_ext hx) e
        refine assignInOrder_cons (bindName_ (st_local X17 fun s18 X18 k18 => ?_))
        refine assignInOrder_cons (bindName_ (st_local X18 fun s19 X19 k19 => assignInOrder_nil ?_))
        have hO19 := (hO17.keep fun o e => k18 U o (fun q => hUL (List.mem_singleton.mp q)) e).keep fun o e => k19 U o (fun q => hUL (List.mem_singleton.mp q)) e
        -- the inner loop
        refine wpAny_execs_cons ?_
        have hle19 : VLe g g' := hle11.trans hle13
        have hUc5 := hUc (Str.ofString "octet") (L + 1 + 1 + 1 + 1 + 1) rfl
        have hUc4 := hUc (Str.ofString "spot") (L + 1 + 1 + 1 + 1) rfl
        have hlineLen : (lineOf rt f r i).length = r.length + 1 := by simp [lineOf]
        refine exec_for X19 (Call_Name rfl (ld_blt (W.keeps X19.grow.keeps) (gb_enumerate _) (callWith_type1 (spliced_more (ld_local X19 hml (spliced_none ?_))))))
        refine src_enumL hh (Grow.refl X19.grow.inn) hvl fun it s20 G20 S20 => ?_
        refine ⟨g', (lineOf rt f r i).length, _, G20, S20 _ _ _, fun k m cm g' h => m (Str.ofString "fresh") = some (.ref U) ∧ (∃ t, m (Str.ofString "paid") = some (.int (paidN rt o r (k - 1) : Nat) t)) ∧ m (Str.ofString "end") = some ve ∧ cm (Str.ofString "front") = some vf ∧ cm (Str.ofString "rest") = some vr ∧ cm (Str.ofString "rates") = some vt ∧
          cm (Str.ofString "octet") = some vo ∧ OwnList (RList RS) U g' h ((List.range k).map (GG rt f r (i + 1))), ?_, ?_, ?_, ?_⟩
        · exact ⟨rfl, ⟨_, rfl⟩, hme', hcf', hcr', hct', rfl, hO19.keep fun o e => keeps_get G20.keeps e⟩
        · exact fun i m cm g' h h' a k => ⟨a.1, a.2.1, a.2.2.1, a.2.2.2.1, a.2.2.2.2.1, a.2.2.2.2.2.1, a.2.2.2.2.2.2.1, a.2.2.2.2.2.2.2.keep fun o e => k U List.mem_cons_self o e⟩
        · rintro k u m cm gk s21 hk X21 ⟨hmf, ⟨tp, hmp⟩, hme2, hcf2, hcr2, hct2, hco2, hO21⟩ ⟨T2, t2, x, y, rfl, hx, hy, hT2⟩ hle21
          have hkr : k ≤ r.length := by omega
          have hxe : x = GG rt f r i k := by
            unfold lineOf at hx
            rw [List.getElem?_map, List.getElem?_range (by omega)] at hx
            exact (Option.some.inj hx).symm
          subst hxe
          have hlek : VLe g gk := hle19.trans hle21
          refine wpAny_assign_Tuple hh hT2 rfl rfl fun h' hx => ?_
          have X22 := X21.step (Grow.ofKeeps X21.grow.inn (keeps_ext hx))
          have hO22 := hO21.keep (h' := h') fun o e => keeps_get (keeps_ext hx) e
          refine assignInOrder_cons (wpAny_assign_Name (st_cell X22 (c := L + 1 + 1 + 1 + 1) rfl (List.mem_cons_of_mem _ (List.mem_cons_of_mem _ (List.mem_cons_of_mem _ List.mem_cons_self))) fun s23 X23 k23 => ?_))
          refine assignInOrder_cons (wpAny_assign_Name (st_local X23 fun s24 X24 k24 => assignInOrder_nil ?_))
          have hO24 := (hO22.keep fun o e => k23 U o (fun q => hUc4 (List.mem_singleton.mp q).symm) e).keep fun o e => k24 U o (fun q => hUL (List.mem_singleton.mp q)) e
          -- grown = []
          refine wpAny_execs_cons (wpAny_Assign_Name (wpAny_List (spliced_none ⟨by show 0 ≤ sizeLine; decide, ?_⟩)))
          obtain ⟨g25, G25, hgr0⟩ := newlist_view (R := RS) (s := s24) (vs := []) (xs := []) mono_RS X24.grow.inn .nil s24.toks
          have X25 := X24.step G25
          have hO25 := (hO24.mono (mono_RList mono_RS) G25.le).keep fun o e => keeps_get G25.keeps e
          refine st_local X25 fun s26 X26 k26 => ?_
          have hO26 := hO25.keep fun o e => k26 U o (fun q => hUL (List.mem_singleton.mp q)) e
          have hle26 : VLe g g25 := hlek.trans G25.le
          obtain ⟨EV, hEV⟩ := X26.named
          have X26e := X26
          rw [← hEV] at X26e
          refine wpAny_execs_cons (wpAny_mono (Q := fun fl s' => fl = .next ∧ ∃ m cm gn vg, EV m cm gn s' ∧ VLe g25 gn ∧ m (Str.ofString "fresh") = some (.ref U) ∧ m (Str.ofString "rows") = some y ∧ (∃ t, m (Str.ofString "paid") = some (.int (paidN rt o r k : Nat) t)) ∧ m (Str.ofString "end") = some ve ∧ cm (Str.ofString "front") = some vf ∧ cm (Str.ofString "rest") = some vr ∧ cm (Str.ofString "rates") = some vt ∧
            cm (Str.ofString "octet") = some vo ∧ m (Str.ofString "grown") = some vg ∧ RList RS gn vg (grownAt rt f r i k) ∧ OwnList (RList RS) U gn s'.heap ((List.range k).map (GG rt f r (i + 1)))) ?_ (fun fl s' q => ?_) fun _ _ f => f)
          · refine wpAny_If (isTrue_plain (ld_cell X26 (c := L + 1 + 1 + 1 + 1) rfl rfl (truthy_int ?_)))
            cases k with
            | zero =>
              rw [if_neg (by simp)]
              exact wpAny_execs_nil ⟨rfl, _, _, g25, _, X26e, VLe.refl _, hmf, rfl, ⟨tp, hmp⟩, hme2, hcf2, hcr2, hct2, hco2, rfl, hgr0, hO26⟩
            | succ k0 =>
              rw [if_pos (by simp; omega)]
              have hk0 : k0 < r.length := by omega
              have hrk : r[k0]? = some r[k0] := List.getElem?_eq_getElem hk0
              generalize r[k0] = b at hrk
              have hb3 := hr b (List.mem_of_getElem? hrk)
              have hrg : r.getD k0 0 = b := by rw [List.getD_eq_getElem?_getD, hrk]; rfl
              have hspot : ((k0 + 1 : Nat) : Int) - 1 = (k0 : Nat) := by omega
              refine wpAny_execs_cons (wpAny_Assign_Name (wpAny_BinOp (ld_local X26 hmp (Subscript_ (Subscript_ (ld_cell X26 (c := L + 1 + 1 + 1) rfl hct2 (ld_cell X26 (c := L + 1 + 1 + 1 + 1 + 1) rfl hco2 ?_)))))))
              refine r_item X26.grow.inn (mono_RList (mono_RList mono_RNat) _ _ _ _ hle26 hvt) hvo (tab_row ho3) (by omega) fun row hrow => ?_
              refine Subscript_ (ld_cell X26 (c := L + 1 + 1) rfl hcr2 (wpAny_BinOp (ld_cell X26 (c := L + 1 + 1 + 1 + 1) rfl rfl (wpAny_Constant_int (AutoIntOps.sub_0 ?_)))))
              refine r_bitem (i := k0) hr256 (by omega) hvr ⟨_, by rw [hspot]⟩ hrk fun yb n hyb => ?_
              have X27 := X26.toks n
              refine tmp (r_item X27.grow.inn hrow hyb (tab_cell hb3) (by omega) fun z hz => ?_)
              obtain ⟨tz, rfl⟩ := hz
              refine AutoIntOps.add_0 ?_
              refine st_local (X27.toks (n + 1)) fun s28 X28 k28 => ?_
              have hO28 := hO26.keep fun o e => k28 U o (fun q => hUL (List.mem_singleton.mp q)) e
              have hpaid : ((paidN rt o r (k0 + 1 - 1) : Nat) : Int) + ((rt o b : Nat) : Int) = ((paidN rt o r (k0 + 1) : Nat) : Int) := by
                rw [paidN_succ hrk]; simp
              refine wpAny_execs_cons ?_
              obtain ⟨vsU, nU, hoU, hpU⟩ := id hO28
              have hlastU : ((List.range (k0 + 1)).map (GG rt f r (i + 1))).getLast? = some (GG rt f r (i + 1) k0) := by rw [List.range_succ, List.map_append]; simp
              obtain ⟨vL, hvL, hRL⟩ := Paired.last hpU hlastU
              have hGl : (GG rt f r (i + 1) k0).length ≤ 100000 := by
                have h1 := GG_length (rt := rt) (f := f) (r := r) (i + 1) k0
                have h2 : 2 ^ (i + 1 + k0) ≤ 2 ^ 8 := Nat.pow_le_pow_right (by decide) (by omega)
                omega
              refine st_map (R₁ := RS) (R := RS) (xs := GG rt f r (i + 1) k0) (cl := [(Str.ofString "spot", L + 1 + 1 + 1 + 1), (Str.ofString "rest", L + 1 + 1)]) (fun x => x ++ [97 + b]) mono_RS mono_RS hh X28 rfl rfl (lookup_sub_cons rfl (lookup_sub_cons rfl lookup_sub0)) hGl ?_ ?_ ?_
              · exact Subscript_ (ld_local X28 hmf (minus1 fun t n => item_plainLast hoU hvL ⟨g25, Grow.ofKeeps X28.grow.inn (keeps_toks n), hRL⟩))
              · intro C m₂ g₁ g₂ g₃ h₃ s₃ v x hx hle1 X3 hR hle3
                refine letter_turn2 (k0 := k0) (vk := .int ((k0 + 1 : Nat) : Int) t2) X3 hR rfl ?_ hvr rfl ?_ ⟨t2, rfl⟩ (by omega) hr256 hrk hb3 ?_ rfl rfl rfl rfl (by decide) (by decide)
                · exact hcr2
                · rfl
                · have := GG_rows (rt := rt) (f := f) (r := r) hrt (i + 1) k0 x hx
                  have h2 : (i + 1) * (2 * k0 + 1) ≤ 5 * 11 := Nat.mul_le_mul (by omega) (by omega)
                  omega
              · intro vn gn sn Xn hlen kn hvn
                have hOn : OwnList (RList RS) U gn sn.heap ((List.range (k0 + 1)).map (GG rt f r (i + 1))) := (hO28.mono (mono_RList mono_RS) hlen).keep fun o e => ?_
                · rw [← hEV] at Xn
                  refine wpAny_execs_nil ⟨rfl, _, _, gn, _, Xn, hlen, hmf, rfl, ⟨n, ?_⟩, hme2, hcf2, hcr2, hct2, hco2, rfl, ?_, hOn⟩
                  · exact congrArg some (congrArg (fun z => Value.int z _) hpaid)
                  · show RList RS gn vn (addL (r.getD k0 0) (GG rt f r (i + 1) k0))
                    rw [hrg]; exact hvn
                · exact kn U o (fun q => hUL (List.mem_singleton.mp q)) e
          · obtain ⟨rfl, m, cm, gn, vg, X30, hle30, hmf, hmr, ⟨tp, hmp⟩, hme3, hcf3, hcr3, hct3, hco3, hmg, hvg, hO30⟩ := q
            rw [hEV] at X30
            obtain ⟨vsU, nU, hoU, hpU⟩ := id hO30
            have hTU : s'.TypeIs (.ref U) "list" := ⟨_, hoU, rfl⟩
            have hle31 : VLe g gn := hle26.trans hle30
            refine wpAny_execs_cons (wpAny_Expr (MethodCall_ (ld_local X30 hmf ?_)))
            refine getMethod_builtin hTU F.plainAttrs_list F.slot_list_append F.type_list_append (fun a e => by cases e; exact ⟨_, hoU, rfl⟩) ?_
            have hGl : (GG rt f r i k).length ≤ 256 := by
              have h1 := GG_length (rt := rt) (f := f) (r := r) i k
              have h2 : 2 ^ (i + k) ≤ 2 ^ 8 := Nat.pow_le_pow_right (by decide) (by omega)
              omega
            have hrow : ∀ x ∈ GG rt f r i k, x.length ≤ 100 := fun x hx => by
              have h1 := GG_rows (rt := rt) (f := f) (r := r) hrt i k x hx
              have h2 : i * (2 * k + 1) ≤ 4 * 9 := Nat.mul_le_mul (by omega) (by omega)
              omega
            have hpd : paidN rt o r k ≤ 8 := Nat.le_trans (paidN_le hrt o r k) (by omega)
            have hsum : ((GG rt f r i k).map (·.length + 3)).sum ≤ 256 * 103 := by
              have key : ∀ l : List (List Nat), (∀ x ∈ l, x.length ≤ 100) → (l.map (·.length + 3)).sum ≤ l.length * 103 := fun l => by
                induction l with
                | nil => intro _; simp
                | cons a l ih =>
                  intro h
                  have h1 := ih fun x hx => h x (List.mem_cons_of_mem _ hx)
                  have h2 := h a List.mem_cons_self
                  simp only [List.map_cons, List.sum_cons, List.length_cons, Nat.succ_mul]; omega
              exact Nat.le_trans (key _ hrow) (Nat.mul_le_mul_right _ hGl)
            refine callWith_method1 (spliced_more (wpAny_BinOp ?_))
            refine ev_map (R₁ := RS) (R := RS) (xs := (GG rt f r i k).map (rep (paidN rt o r k))) (cl := [(Str.ofString "octet", L + 1 + 1 + 1 + 1 + 1)]) (fun x => x ++ [97 + o]) mono_RS mono_RS hh X30 rfl (lookup_sub_cons rfl lookup_sub0) ?_ ?_ ?_ ?_
            · rw [List.length_map]; omega
            · refine Call_Name rfl (ld_glob (W.keeps X30.grow.keeps) (gl_sent _) (callWith_fn (P := w.params) ⟨_, _, _, _, rfl⟩ (spliced_more (ld_local X30 hmr (spliced_more (ld_local X30 hmp (spliced_more (ld_local X30 hme3 (spliced_none ⟨W.keeps X30.grow.keeps, ?_⟩)))))))))
              refine call_sent HQ (W.keeps X30.grow.keeps) R1 X30.grow.inn (mono_RList mono_RS _ _ _ _ (hle21.trans (G25.le.trans hle30)) hy) ⟨_, rfl⟩ (mono_RS _ _ _ _ hle31 hve) (GG_ne i k) (GG_good hf hr i k) he (by omega) ?_ fun v6 g6 s6 G6 hv6 => ⟨g6, G6, hv6⟩
              have := Nat.mul_le_mul hGl hpd
              omega
            · intro C m₂ g₁ g₂ g₃ h₃ s₃ v x hx hle1 X3 hR hle3
              refine letter_turn X3 hR rfl ?_ hvo ho3 ?_ rfl rfl rfl (by decide)
              · exact hco3
              · obtain ⟨x', hx', rfl⟩ := List.mem_map.mp hx
                have := hrow x' hx'
                rw [rep_length]; omega
            · intro vn gp sp Gp Xp hvn
              refine ld_local Xp hmg (r_add_list mono_RS Xp.grow.inn hvn (mono_RList mono_RS _ _ _ _ Gp.le hvg) ?_ fun z gz sz Gz hz => spliced_none ?_)
              · have hgl : (grownAt rt f r i k).length ≤ 256 := by
                  cases k with
                  | zero => simp [grownAt]
                  | succ k0 =>
                    have h1 := GG_length (rt := rt) (f := f) (r := r) (i + 1) k0
                    have h2 : 2 ^ (i + 1 + k0) ≤ 2 ^ 8 := Nat.pow_le_pow_right (by decide) (by omega)
                    simp only [grownAt, addL_length]; omega
                rw [List.length_map, List.length_map]; omega
              · have Xz := Xp.step Gz
                have hOz : OwnList (RList RS) U gz sz.heap ((List.range k).map (GG rt f r (i + 1))) := (hO30.mono (mono_RList mono_RS) (Gp.le.trans Gz.le)).keep fun o e => keeps_get Gz.keeps (keeps_get Gp.keeps e)
                refine hOz.append hz (by rw [List.length_map, List.length_range]; omega) fun h' hs' hO' => ?_
                refine wpAny_execs_nil ⟨rfl, _, _, gz, Xz.mut' sz.toks hs' List.mem_cons_self hUL hUc ?_, hmf, ⟨tp, hmp⟩, hme3, hcf3, hcr3, hct3, hco3, ?_⟩
                · obtain ⟨_, _, ho, _⟩ := hO'; exact ⟨_, ho⟩
                · rw [List.range_succ, List.map_append, List.map_cons, List.map_nil, GG_grown, hog]
                  exact hO'
        · rintro m cm gk s21 X21 ⟨hmf, _, hme2, hcf2, hcr2, hct2, _, hO21⟩ hle21
          obtain ⟨oU, hoU, hfresh⟩ := hO21.rlist (mono_RList mono_RS) (X21.out U List.mem_cons_self)
          have X22 := X21.freeze hU1 List.mem_cons_self hUo hoU
          refine wpAny_execs_cons (wpAny_Assign_Name (ld_local X22 hmf (st_local X22 fun s23 X23 k23 => ?_)))
          refine wpAny_execs_nil ⟨rfl, _, _, _, X23, ⟨_, rfl, ?_⟩, hme2, hcf2, hcr2, hct2⟩
          rw [hlineLen] at hfresh
          exact hfresh
      · rintro m cm g' s13 X13 ⟨⟨vl, hml, hvl⟩, hme', hcf', hcr', hct'⟩ hle13
        refine wpAny_execs_cons (wpAny_Return_some (Subscript_ (ld_local X13 hml (minus1 fun t n => ?_))))
        have hlast : (lineOf rt f r f.length).getLast? = some (laid rt f r) := by unfold lineOf; rw [List.range_succ, List.map_append]; simp [laid]
        refine r_last X13.grow.inn hvl hlast fun y hy => hQ _ _ _ (X13.toks n).grow hy
end Mine
end

section
open PySem PySem.W PyProof.Rows PySem.Calls
set_option maxRecDepth 100000
namespace Mine
set_option pp.deepTerms false
set_option pp.deepTerms.threshold 2

section
variable {prog : Program} {w : World} {A : Around}

theorem InEnv.addOwns {g₀ gt g : View} {s₀ s : Shared} {env : Env} {ht : Heap} {m cm : Str → Option Value} {own : List Addr} (x : InEnv g₀ s₀ env own gt ht m cm g s) : ∀ (as : List Addr), (∀ a ∈ as, (∃ o, s.heap.get? a = some o) ∧ g a = none ∧ s₀.heap.get? a = none) → InEnv g₀ s₀ env (as ++ own) gt ht m cm g s
  | [], _ => x
  | a :: as, h => (x.addOwns as fun b hb => h b (List.mem_cons_of_mem _ hb)).addOwn (h a List.mem_cons_self).1 (h a List.mem_cons_self).2.1 (h a List.mem_cons_self).2.2

/-- y = [[] for x in ..] : new lists, each apart -/
theorem st_fresh {iter : Expr} {tx y : Str} {px py pos spos p0 : Pos} {scope : Scope} {env : Env} {g₀ gt g : View} {s₀ s : Shared} {own : List Addr} {ht : Heap} {m₀ cm₀ : Str → Option Value} {n : Nat} {Q : Flow → Shared → Prop}
    (X₀ : InEnv g₀ s₀ env own gt ht m₀ cm₀ g s) (hn : n ≤ 1000)
    (hsw : swapsWith (.ListComp (.List [] p0) [⟨.Name tx px, iter, [], 0⟩] scope pos) (some (.Name y py)) spos.line env = pure true)
    (hclos : closureFor scope env = pure [])
    (h : wpAny (model prog w) A (eval iter env) (fun xv s₁ => wpAny (model prog w) A (pyIter xv) (fun it s₂ => ∃ P, Grow g s g s₂ ∧ Src prog w A (.Name tx px) s g it n P s₂) NoE s₁) NoE s)
    (hQ : ∀ D as k s', as.length = n → as.Nodup → D ∉ as → D ∉ own → (∀ a ∈ as, a ∉ own ∧ s.heap.get? a = none ∧ s'.heap.get? a = some (listObj [] 0)) →
      InEnv g₀ s₀ env (as ++ own) gt ht (fun z => if z = y then some (.ref D) else m₀ z) cm₀ (addv g D (listObj (as.map .ref) k)) s' → VLe g (addv g D (listObj (as.map .ref) k)) → Q .next s')
    (hcl : ∀ C, (compEnvC scope [] C env).kindOf tx = some .local := by intro _; rfl)
    (hek : env.scope.kind = .function := by rfl) (hl : env.kindOf y = some .local := by rfl)
    (hcell : ∀ x ∈ scope.names, x.2 ≠ .cell := by decide) (hk : scope.kind = .function := by rfl) (hnames : ∀ x ∈ scope.names, x.2 = .local → scope.names.lookup x.1 = some .local := by decide)
    (hs : ∀ x, foldedSetIterable iter env x = pure x := by intro _; rfl) :
    wpAny (model prog w) A (exec (.Assign [.Name y py] (.ListComp (.List [] p0) [⟨.Name tx px, iter, [], 0⟩] scope pos) spos) env) Q NoE s := by
  rw [exec_Assign_Name_used _ _ _ _ hsw]
  refine wpAny_bind (wpAny_standAt (wpAny_bind ?_))
  show wpAny _ A (do let _ ← comprehension (.ListComp (.List [] p0) [⟨.Name tx px, iter, [], 0⟩] scope pos) scope env _ (newList []) false (eval iter env) (some (assign (.Name y py) env))) _ _ s
  refine wpAny_bind (wpAny_mono (wpAny_comprehension_free (use := some (assign (.Name y py) env)) (Q := fun _ s' => Q .next s') rfl hs hclos hk hnames
    (wpAny_mono h (fun xv s₁ h₁ => wpAny_mono h₁ (fun it s₂ h₂ => ?_) fun _ _ e => e) fun _ _ e => e)) (fun _ s' hq => wpAny_pure (wpAny_pure hq)) fun _ _ e => e)
  obtain ⟨P, G, S⟩ := h₂
  obtain ⟨I, fp, wr, Md, St, rfl, W, hst, hwr, hfp, _, hlv, hself⟩ := S.ex
  refine comp_block (cm := fun _ => none) G hcell hk (fun n c e => nomatch e) (fun n n' c e => nomatch e) fun D C s₄ X hl' hDs hDg hDC hD2 hC2 K2 hsz2 => ?_
  show codeAny _ _ (.compStart _ 0 (.ref I) (.ref D) (compEnvC scope [] C env)) (compPost (model prog w) A NoE (some (assign (.Name y py) env)) (fun _ s' => Q .next s') (.ref D) C) s₄
  have hst₄ : St 0 s₄.heap := W.frame _ _ _ hst fun b _ o e => keeps_get K2 e
  have apartF : ∀ b ∈ fp, b ≠ D ∧ b ≠ C := fun b hb => by
    obtain ⟨o, e⟩ := hfp b hb
    exact ⟨fun q => (by rw [q, hD2] at e; cases e), fun q => (by rw [q, hC2] at e; cases e)⟩
  have hCs : s.heap.get? C = none := X.fresh C List.mem_cons_self
  obtain ⟨k0, hD4⟩ := id hl'
  have XD : InEnv g s (compEnvC scope [] C env) (D :: [C]) g s.heap (fun _ => none) (fun _ => none) g s₄ :=
    InEnv.addOwn { X with since := fun b o _ e => keeps_get X.grow.keeps e, leS := X.grow.le, newS := X.grow.new, was := fun _ _ e => e } ⟨_, hD4⟩ hDg hDs
  have loop : codeAny (model prog w) A (.compLoop (.ListComp (.List [] p0) [⟨.Name tx px, iter, [], 0⟩] scope pos) 0 (.ref I) (.ref D) (compEnvC scope [] C env)) (compPost (model prog w) A NoE (some (assign (.Name y py) env)) (fun _ s' => Q .next s') (.ref D) C) s₄ := by
    refine compLoop_turns W (heq_one ..) (fun i s' => i ≤ n ∧ ∃ (as : List Addr) (m : Str → Option Value), as.length = i ∧ as.Nodup ∧ InEnv g s (compEnvC scope [] C env) (as.reverse ++ (D :: [C])) g s.heap m (fun _ => none) g s' ∧
      s'.heap.PlainList D (as.map Value.ref).toArray ∧ (∀ a ∈ as, a ≠ D ∧ a ≠ C ∧ s.heap.get? a = none ∧ a ∉ wr ∧ s'.heap.get? a = some (listObj [] 0))) hst₄ ⟨Nat.zero_le _, [], fun _ => none, rfl, List.nodup_nil, XD, hl', fun a ha => nomatch ha⟩ ?_ ?_ ?_
    · rintro i s' h' tk ⟨hi, as, m, h1, h2, X', h4, h5⟩ hkb
      have hDw : D ∉ wr := fun q => (apartF D (W.sub D q)).1 rfl
      have hCw : C ∉ wr := fun q => (apartF C (W.sub C q)).2 rfl
      refine ⟨hi, as, m, h1, h2, X'.kbFresh tk hkb (fun b hb => (hwr b hb).1) (fun b hb => (hwr b hb).2) (fun b hb q => ?_) (fun n c e => nomatch e) (fun b hb => (hwr b hb).1), h4.at fun o e => hkb D o hDw e, fun a ha => ?_⟩
      · rcases List.mem_append.mp q with q | q
        · exact (h5 b (List.mem_reverse.mp q)).2.2.2.1 hb
        · simp only [List.mem_cons, List.not_mem_nil, or_false] at q
          rcases q with rfl | rfl
          · exact hDw hb
          · exact hCw hb
      · obtain ⟨a1, a2, a3, a4, a5⟩ := h5 a ha
        exact ⟨a1, a2, a3, a4, hkb a _ a4 a5⟩
    · rintro i v s₁ hlt ⟨hi, as, m, h1, h2, X', h4, h5⟩ hP hSt
      refine wpAny_assign_Name (st_local X' (fun s₂ X₂ k₂ => ?_) hk (hcl C))
      have h4' : s₂.heap.PlainList D (as.map Value.ref).toArray := h4.at fun o e => k₂ D o (fun q => hDC (List.mem_singleton.mp q)) e
      unfold body1
      refine wpAny_bind (tests_nil ?_)
      rw [if_pos rfl]
      unfold emit
      refine wpAny_bind (wpAny_List (spliced_none ⟨by show 0 ≤ sizeLine; decide, ?_⟩))
      obtain ⟨X₃, hO₃, hU0⟩ := X₂.newOwn (R := RS) (vs := []) (xs := []) .nil s₂.toks
      obtain ⟨vU, nU, hU, hvU⟩ := hO₃
      cases hvU
      have hUs := X₂.noneOf hU0
      have hUd : s₂.heap.objs.size ≠ D := fun q => by obtain ⟨k, e⟩ := h4'; rw [← q, hU0] at e; cases e
      have hUC : s₂.heap.objs.size ≠ C := (X₂.apartNew hU0).1
      have hUw : s₂.heap.objs.size ∉ wr := fun q => by
        obtain ⟨o, e⟩ := hlv _ _ hSt _ q
        have := k₂ _ o (fun q' => hUC (List.mem_singleton.mp q')) e
        rw [hU0] at this; cases this
      have hUa : s₂.heap.objs.size ∉ as := fun q => by
        have := (h5 _ q).2.2.2.2
        have := k₂ _ _ (fun q' => hUC (List.mem_singleton.mp q')) this
        rw [hU0] at this; cases this
      have hU' : (s₂.heap.push { cls := .type "list", data := .seq ([] : List Value).toArray }).get? s₂.heap.objs.size = some (listObj [] 0) := Heap.get?_push_size _ rfl
      have old : ∀ b o, s₂.heap.get? b = some o → (s₂.heap.push { cls := .type "list", data := .seq ([] : List Value).toArray }).get? b = some o := fun b o e => Heap.get?_push_of_some _ e
      have hl3 : (s₂.heap.push { cls := .type "list", data := .seq ([] : List Value).toArray }).PlainList D (as.map Value.ref).toArray := h4'.at fun o e => old D o e
      generalize s₂.heap.objs.size = U at X₃ hUd hUC hUw hUa hU' hU0 hUs
      generalize s₂.heap.push { cls := .type "list", data := .seq ([] : List Value).toArray } = h₃ at X₃ hU' old hl3
      refine wpAny_bind (wpAny_list_append_plain (s := { s₂ with heap := h₃ }) hl3 (fun h' hl'' hs' => wpAny_pure ?_) (by simp only [List.size_toArray, List.length_map]; exact Nat.le_trans (show as.length ≤ 1000 by omega) (by decide)))
      refine ⟨⟨hlt, as ++ [U], fun z => if z = tx then some v else m z, by simp [h1], ?_, ?_, ?_, ?_⟩, ?_⟩
      · rw [List.nodup_append]
        exact ⟨h2, by simp, fun a ha b hb => by rw [List.mem_singleton] at hb; subst hb; exact fun q => hUa (q ▸ ha)⟩
      · have := X₃.mut' (D := D) s₂.toks hs' (List.mem_cons_of_mem _ (List.mem_append_right _ List.mem_cons_self)) hDC (fun n c e => nomatch e) (by obtain ⟨k, e⟩ := hl''; exact ⟨_, e⟩)
        simpa using this
      · simpa using hl''
      · intro a ha
        rcases List.mem_append.mp ha with ha | ha
        · obtain ⟨a1, a2, a3, a4, a5⟩ := h5 a ha
          exact ⟨a1, a2, a3, a4, (hs'.2 a a1).trans (old _ _ (k₂ a _ (fun q => a2 (List.mem_singleton.mp q)) a5))⟩
        · rw [List.mem_singleton] at ha; subst ha
          exact ⟨hUd, hUC, hUs, hUw, (hs'.2 _ hUd).trans hU'⟩
      · intro b hb o e
        exact (hs'.2 b (apartF b hb).1).trans (old _ _ (k₂ b o (fun q => (apartF b hb).2 (List.mem_singleton.mp q)) e))
    · rintro s' ⟨_, as, m, h1, h2, X', h4, h5⟩
      obtain ⟨k, hk'⟩ := h4
      have GD : Grow g s (addv g D (listObj (as.map Value.ref) k)) s' := (Grow.ofKeeps X₀.grow.inn X'.grow.keeps).add hk' hDs
      have hDo : D ∉ own := fun q => by obtain ⟨o, e⟩ := X₀.live _ q; rw [hDs] at e; cases e
      have s0none : ∀ b, s.heap.get? b = none → s₀.heap.get? b = none := fun b hb => by
        cases hx : s₀.heap.get? b with
        | none => rfl
        | some o => rw [keeps_get X₀.grow.keeps hx] at hb; cases hb
      have gnone : ∀ b, s.heap.get? b = none → g b = none := fun b hb => by
        cases hx : g b with
        | none => rfl
        | some o => rw [X₀.grow.inn _ _ hx] at hb; cases hb
      have X₁ := (X₀.step GD).addOwns as fun a ha => by
        obtain ⟨a1, a2, a3, a4, a5⟩ := h5 a ha
        exact ⟨⟨_, a5⟩, by unfold addv; rw [if_neg a1]; exact gnone a a3, s0none a a3⟩
      have hCL : C ≠ env.locals := fun q => by obtain ⟨o, e⟩ := X₀.live _ X₀.locIn; rw [← q, hCs] at e; cases e
      have hCo : C ∉ own := fun q => by obtain ⟨o, e⟩ := X₀.live _ q; rw [hCs] at e; cases e
      show wpAny _ A (assign (.Name y py) env (.ref D)) _ _ _
      refine wpAny_assign_Name (st_local X₁ (fun s₃ X₃ hkb => ?_) hek hl)
      refine ⟨m, X'.ns.at' fun o e => hkb C o (fun q => hCL (List.mem_singleton.mp q)) e, fun h' hs' => ?_⟩
      show Q Flow.next { s₃ with heap := h' }
      refine hQ D as k _ h1 h2 (fun q => (h5 D q).1 rfl) hDo (fun a ha => ?_) (X₃.kbFresh s₃.toks (kb_sameBut hs') ?_ ?_ ?_ ?_ ?_) GD.le
      · obtain ⟨a1, a2, a3, a4, a5⟩ := h5 a ha
        have hal : a ≠ env.locals := fun q => by obtain ⟨o, e⟩ := X₀.live _ X₀.locIn; rw [← q, a3] at e; cases e
        exact ⟨fun q => (by obtain ⟨o, e⟩ := X₀.live _ q; rw [a3] at e; cases e), a3, (hs'.2 a a2).trans (hkb a _ (fun q => hal (List.mem_singleton.mp q)) a5)⟩
      · intro b hb; rw [List.mem_singleton] at hb; subst hb; exact s0none _ hCs
      · intro b hb; rw [List.mem_singleton] at hb; subst hb
        unfold addv; rw [if_neg (Ne.symm hDC)]; exact gnone _ hCs
      · intro b hb q; rw [List.mem_singleton] at hb; subst hb
        rcases List.mem_append.mp q with q | q
        · exact (h5 _ q).2.1 rfl
        · exact hCo q
      · intro n c e q; rw [List.mem_singleton] at q; subst q
        obtain ⟨o, e', _⟩ := X₀.cell _ _ e; rw [hCs] at e'; cases e'
      · intro b hb; rw [List.mem_singleton] at hb; subst hb; exact X₀.noneOf hCs
  exact wpAny_compStart rfl rfl loop (hself _ _ _ hst₄ loop)
end
end Mine
end

section
open PySem PySem.W PyProof.Rows PySem.Calls
set_option maxRecDepth 100000
namespace Mine
set_option pp.deepTerms false
set_option pp.deepTerms.threshold 2

/-- sorted rows -/
def RSrt : Rp (List (List Nat)) := fun g v rows => ∃ rows', rows'.Perm rows ∧ sortedS (rows'.map S) = true ∧ RList RS g v rows'
theorem mono_RSrt : Mono RSrt := fun g g' v x hg ⟨r, h1, h2, h3⟩ => ⟨r, h1, h2, mono_RList mono_RS _ _ _ _ hg h3⟩

theorem strsAre_of {g : View} : ∀ {vs : List Value} {xs : List (List Nat)}, Paired (RS g) vs xs → StrsAre vs (xs.map S)
  | _, _, .nil => .nil
  | _, _, .cons ⟨t, e⟩ r => by subst e; exact .cons _ t (strsAre_of r)

theorem InEnv.freezes {g₀ gt : View} {s₀ s : Shared} {env : Env} {ht : Heap} {m cm : Str → Option Value} {own : List Addr} (hl : env.locals ∈ own) : ∀ (as : List Addr) (g : View), InEnv g₀ s₀ env (as ++ own) gt ht m cm g s → as.Nodup → (∀ a ∈ as, ht.get? a = none ∧ a ∉ own) →
    ∃ g', InEnv g₀ s₀ env own gt ht m cm g' s ∧ VLe g g' ∧ ∀ a ∈ as, ∀ o, s.heap.get? a = some o → g' a = some o
  | [], g, x, _, _ => ⟨g, x, VLe.refl _, fun a ha => nomatch ha⟩
  | a :: as, g, x, hnd, h => by
    rw [List.nodup_cons] at hnd
    obtain ⟨o, ho⟩ := x.live a List.mem_cons_self
    have h1 := h a List.mem_cons_self
    have x1 := InEnv.freeze (own := as ++ own) x h1.1 (List.mem_append_right _ hl) (fun q => by
      rcases List.mem_append.mp q with q | q
      · exact hnd.1 q
      · exact h1.2 q) ho
    have hle := addv_le o (x.out a List.mem_cons_self)
    obtain ⟨g', x', hle', hall⟩ := InEnv.freezes hl as _ x1 hnd.2 fun b hb => h b (List.mem_cons_of_mem _ hb)
    refine ⟨g', x', hle.trans hle', fun b hb o' e => ?_⟩
    rcases List.mem_cons.mp hb with rfl | hb
    · rw [ho] at e; cases e; exact hle' _ _ (addv_self _ _ _)
    · exact hall b hb o' e

theorem S_toList (x : Str) : S x.cps.toList = x := by
  obtain ⟨c⟩ := x; simp [S]
theorem toList_S (l : List Nat) : (S l).cps.toList = l := by simp [S]
theorem r_sorted {prog : Program} {w : World} {A : Around} {s : Shared} {g : View} {v : Value} {rows : List (List Nat)} {Q : Value → Shared → Prop} (G : VIn g s.heap) (hv : RList RS g v rows) (hlen : rows.length < 64)
    (hQ : ∀ y g' s', Grow g s g' s' → RSrt g' y rows → Q y s') : wpAny (model prog w) A (call (.builtin "sorted") [v]) Q NoE s := by
  obtain ⟨a, vs, n, rfl, hl, hp⟩ := hv
  refine sorted_strs ⟨_, G _ _ hl, rfl, n, rfl⟩ (strsAre_of hp) (by rw [hp.length]; exact hlen) fun out ss' h1 h2 h3 => ?_
  obtain ⟨e, he⟩ := sortedAll_at s.heap vs out
  have hK : Keeps s { s with heap := sortedAll s.heap vs out } := ⟨_, s.toks, rfl, fun b o q => sortedAll_old q⟩
  have h0 := (Grow.refl G).none₀ (none_of_le (h := s.heap) (Nat.le_succ s.heap.objs.size))
  have hss : (ss'.map fun x => x.cps.toList).map S = ss' := by rw [List.map_map]; exact (List.map_congr_left fun x _ => S_toList x).trans (List.map_id _)
  refine hQ _ _ _ ((Grow.ofKeeps G hK).add he h0.1) ⟨ss'.map fun x => x.cps.toList, ?_, by rw [hss]; exact h3, _, out.toList, e, rfl, ?_, ?_⟩
  · have := h2.map fun x => x.cps.toList
    rw [List.map_map] at this
    rwa [(List.map_congr_left fun l _ => toList_S l : rows.map ((fun x => x.cps.toList) ∘ S) = rows.map id), List.map_id] at this
  · rw [addv_self, listObj, Array.toArray_toList]
  · have key : ∀ {vs : List Value} {ss : List Str} (g' : View), StrsAre vs ss → Paired (RS g') vs (ss.map fun x => x.cps.toList) := by
      intro vs ss g' h
      induction h with
      | nil => exact .nil
      | cons x t _ ih => exact .cons ⟨t, by rw [S_toList]⟩ ih
    exact key _ h1
theorem paired_idx {α β : Type} {F : α → β → Prop} : ∀ (l : List α) (m : List β), l.length = m.length → (∀ (i : Nat) a b, l[i]? = some a → m[i]? = some b → F a b) → Paired F l m
  | [], [], _, _ => .nil
  | [], _ :: _, h, _ => by simp at h
  | _ :: _, [], h, _ => by simp at h
  | a :: l, b :: m, h, H => .cons (H 0 a b rfl rfl) (paired_idx l m (by simpa using h) fun i x y hx hy => H (i + 1) x y (by simpa using hx) (by simpa using hy))
theorem joinL_singles (f : Nat → Nat) : ∀ l : List Nat, joinL [] (l.map fun p => [f p]) = l.map f
  | [] => rfl
  | [a] => rfl
  | a :: b :: l => by
    have ih := joinL_singles f (b :: l)
    rw [List.map_cons, joinL_cons _ _ (by simp), ih]; simp
theorem toldRows_succ (rt : Nat → Nat → Nat) (wd : List Nat) (n c : Nat) : toldRows rt wd (n + 1) c = if cutOf n = c then toldRows rt wd n c ++ [rowT rt wd n] else toldRows rt wd n c := by
  unfold toldRows
  rw [List.range_succ, List.filter_append, List.map_append]
  by_cases h : cutOf n = c <;> simp [h]
theorem toldRows_len (rt : Nat → Nat → Nat) (wd : List Nat) (n c : Nat) : (toldRows rt wd n c).length ≤ n := by
  unfold toldRows
  rw [List.length_map]
  exact Nat.le_trans (List.length_filter_le _ _) (by simp)
theorem dearT_le {rt : Nat → Nat → Nat} (hrt : ∀ a b, rt a b ≤ 2) (wd ord : List Nat) : dearT rt wd ord ≤ ord.length * (2 * ord.length) := by
  refine sum_flatMap_le _ _ _ fun i => ?_
  unfold dearTOuts
  have : ∀ l : List Nat, (l.map fun one => rt (wd.getD one 0) (wd.getD (ord.getD i 0) 0)).sum ≤ 2 * l.length := fun l => by
    induction l with
    | nil => simp
    | cons a l ih => have := hrt (wd.getD a 0) (wd.getD (ord.getD i 0) 0); simp only [List.map_cons, List.sum_cons, List.length_cons]; omega
  refine Nat.le_trans (this _) ?_
  have := List.length_filter_le (fun x => decide (x < ord.getD i 0)) (ord.drop i)
  rw [List.length_drop] at this; omega

def pickLt (F : Nat → Nat) (b : Nat) (l : List Nat) (j : Nat) : List Nat := (l[j]?).elim [] fun x => if x < b then [F x] else []
theorem pickLt_all (F : Nat → Nat) (b : Nat) (l : List Nat) : (List.range l.length).flatMap (pickLt F b l) = (l.filter (· < b)).map F := by
  have key : ∀ n, n ≤ l.length → (List.range n).flatMap (pickLt F b l) = ((l.take n).filter (· < b)).map F := by
    intro n
    induction n with
    | zero => intro _; simp
    | succ n ih =>
      intro hn
      have h := List.getElem?_eq_getElem (show n < l.length by omega)
      rw [List.range_succ, List.flatMap_append, ih (by omega), List.take_succ, h, List.filter_append, List.map_append]
      congr 1
      simp only [List.flatMap_cons, List.flatMap_nil, List.append_nil, pickLt, h, Option.elim, Option.toList_some]
      by_cases hb : l[n] < b <;> simp [hb]
  rw [key _ (Nat.le_refl _), List.take_length]
theorem pickLt_size (F : Nat → Nat) (b : Nat) (l : List Nat) (n : Nat) : ((List.range n).flatMap (pickLt F b l)).length ≤ n := by
  induction n with
  | zero => simp
  | succ n ih =>
    have : (pickLt F b l n).length ≤ 1 := by
      unfold pickLt
      cases l[n]? with
      | none => simp
      | some x => simp only [Option.elim]; split <;> simp
    rw [List.range_succ, List.flatMap_append, List.length_append]
    simp only [List.flatMap_cons, List.flatMap_nil, List.append_nil]; omega

theorem ordUp_len (m : Nat) : ∀ j, (ordUp m j).2.2.length = j
  | 0 => rfl
  | j + 1 => by
    rw [ordUp]
    split <;> simp [ordUp_len m j]

set_option maxHeartbeats 4000000 in
theorem call_told {prog : Program} {w : World} {A : Around} {s : Shared} {g : View} {vw vt : Value} {rt : Nat → Nat → Nat} {wd : List Nat} {Q : Value → Shared → Prop}
    (W : Wd w.params s.heap) (R : Room A 2) (G : VIn g s.heap) (hvw : RW g vw wd) (hvt : RList (RList RNat) g vt (tab rt))
    (hw : ∀ n ∈ wd, n < 3) (hrt : ∀ a b, rt a b ≤ 2) (hlen : wd.length = 4)
    (hQ : ∀ v' g' s', Grow g s g' s' → RList RSrt g' v' ((List.range 5).map (toldRows rt wd 16)) → Q v' s') :
    wpAny (model prog w) A (call (.ref 74) [vw, vt]) Q NoE s := by
  refine call_fn (binds := [(Str.ofString "word", vw), (Str.ofString "rates", vt)]) R W (W.K 74 _ rfl) rfl ⟨73, _, _, _, rfl, W.K 73 _ rfl, rfl, rfl⟩ rfl rfl rfl rfl G (by decide) fun L s₁ hL R1 W1 X => ?_
  have hh := R1.handled
  have X' : ∃ m0 cm0 : Str → Option Value, InEnv g s _ _ g s₁.heap m0 cm0 g s₁ ∧ cm0 (Str.ofString "word") = some vw ∧ cm0 (Str.ofString "rates") = some vt := ⟨_, _, X, rfl, rfl⟩
  obtain ⟨m0, cm0, X, hcw, hct⟩ := X'
  have hw256 : ∀ n ∈ wd, n < 256 := fun n h => Nat.lt_trans (hw n h) (by decide)
  refine wpAny_execs_cons ?_
  refine st_fresh X (n := 5) (by decide) rfl rfl ?_ ?_
  · refine Call_Name rfl (ld_blt W1 (gb_range _) (callWith_type1 (spliced_more (wpAny_Constant_int (spliced_none ?_)))))
    exact src_rangeN (n := 5) (g := g) (g₁ := g) hh ⟨_, rfl⟩ (by decide) (Grow.ofKeeps X.grow.inn (keeps_toks _)) fun it s₂ G2 S2 => ⟨_, G2, S2 _⟩
  · intro D as k s₂ h5 hnd hDa hDo hall X2 hle2
    have hgD : addv g D (listObj (as.map Value.ref) k) D = some (listObj (as.map Value.ref) k) := addv_self _ _ _
    generalize addv g D (listObj (as.map Value.ref) k) = g2 at X2 hle2 hgD
    have hLa : ∀ a ∈ as, a ≠ L := fun a ha q => (hall a ha).1 (q ▸ List.mem_cons_self)
    have hc1 : ∀ a ∈ as, a ≠ L + 1 + 1 + 1 := fun a ha q => (hall a ha).1 (q ▸ List.mem_cons_of_mem _ (List.mem_cons_of_mem _ List.mem_cons_self))
    have hc2 : ∀ a ∈ as, a ≠ L + 1 + 1 + 1 + 1 := fun a ha q => (hall a ha).1 (q ▸ List.mem_cons_of_mem _ List.mem_cons_self)
    have lists0 : ∀ c a, as[c]? = some a → OwnList RS a g2 s₂.heap (toldRows rt wd 0 c) := fun c a ha => ⟨[], 0, (hall a (List.mem_of_getElem? ha)).2.2, .nil⟩
    have keepL : ∀ (n : Nat) (g' g'' : View) (h h' : Heap), VLe g' g'' → (∀ a ∈ as, ∀ o, h.get? a = some o → h'.get? a = some o) → (∀ c a, as[c]? = some a → OwnList RS a g' h (toldRows rt wd n c)) → (∀ c a, as[c]? = some a → OwnList RS a g'' h' (toldRows rt wd n c)) :=
      fun n g' g'' h h' hl hk H c a ha => ((H c a ha).mono mono_RS hl).keep (hk a (List.mem_of_getElem? ha))
    refine wpAny_execs_cons ?_
    refine exec_for X2 (Call_Name rfl (ld_blt (W.keeps X2.grow.keeps) (gb_range _) (callWith_type1 (spliced_more (wpAny_Constant_int (spliced_none ?_))))))
    refine src_rangeN (n := 16) (g := g2) (g₁ := g2) hh ⟨_, rfl⟩ (by decide) (Grow.ofKeeps X2.grow.inn (keeps_toks _)) fun it s₃ G3 S3 => ?_
    refine ⟨g2, 16, _, G3, S3 _, fun i m cm g' h => m (Str.ofString "told") = some (.ref D) ∧ cm (Str.ofString "word") = some vw ∧ cm (Str.ofString "rates") = some vt ∧ ∀ c a, as[c]? = some a → OwnList RS a g' h (toldRows rt wd i c), ?_, ?_, ?_, ?_⟩
    · exact ⟨rfl, hcw, hct, keepL 0 _ _ _ _ (VLe.refl _) (fun a _ o e => keeps_get G3.keeps e) lists0⟩
    · exact fun i m cm g' h h' a k => ⟨a.1, a.2.1, a.2.2.1, keepL i _ _ _ _ (VLe.refl _) (fun b hb o e => k b (List.mem_append_left _ hb) o e) a.2.2.2⟩
    · rintro i vm m cm g4 s4 hi X4 ⟨hmt, hcw4, hct4, H4⟩ ⟨_, hvm⟩ hle4
      obtain ⟨hcut, hbits, holen, hoall⟩ := ord_facts i hi
      have hle : VLe g g4 := hle2.trans hle4
      refine wpAny_assign_Name (st_cell X4 (c := L + 1 + 1 + 1) rfl (List.mem_append_right _ (List.mem_cons_of_mem _ (List.mem_cons_of_mem _ List.mem_cons_self))) fun s5 X5 k5 => ?_)
      have H5 := keepL i _ _ _ _ (VLe.refl g4) (fun a ha o e => k5 a o (fun q => hc1 a ha (List.mem_singleton.mp q)) e) H4
      -- cut
      refine wpAny_execs_cons (wpAny_Assign_Name (Call_Name rfl (ld_blt (W.keeps X5.grow.keeps) (gb_sum _) (PyProof.Rows.callWith_builtin1 (spliced_more ?_)))))
      refine ev_mapN (R := RNat) (n := 4) (cl := [(Str.ofString "mask", L + 1 + 1 + 1)]) (bitAt i) mono_RNat X5 rfl (lookup_sub_cons rfl lookup_sub0) (by decide) ?_ ?_ ?_
      · refine Call_Name rfl (ld_blt (W.keeps X5.grow.keeps) (gb_range _) (callWith_type1 (spliced_more (wpAny_Constant_int (spliced_none ?_)))))
        exact src_rangeN (n := 4) (g := g4) (g₁ := g4) hh ⟨_, rfl⟩ (by decide) (Grow.ofKeeps X5.grow.inn (keeps_toks _)) fun it s₂ G2 S2 => ⟨_, _, G2, S2 _, fun i u h q => q.2⟩
      · intro C m₂ g₁ g₂ g₃ h₃ s₃ v j hj hle1 X3 hv hle3
        refine wpAny_BinOp (wpAny_BinOp (ld_cell X3 (c := L + 1 + 1 + 1) rfl (if_pos rfl) (ld_local X3 rfl ?_)))
        refine r_shift (g := g₃) hvm hv hi hj fun y n hy => ?_
        refine wpAny_Constant_int (r_and1 hy fun z n' hz => ?_)
        exact ⟨_, _, X3.toks n', hz⟩
      · intro vl g6 s6 G6 X6 hvl
        have H6 := keepL i _ _ _ _ G6.le (fun a ha o e => keeps_get G6.keeps e) H5
        refine spliced_none (r_sum hh X6.grow.inn hvl fun vc s7 G7 hvc => ?_)
        have X7 := X6.step G7
        have H7 := keepL i _ _ _ _ (VLe.refl g6) (fun a ha o e => keeps_get G7.keeps e) H6
        refine st_local X7 fun s8 X8 k8 => ?_
        have H8 := keepL i _ _ _ _ (VLe.refl g6) (fun a ha o e => k8 a o (fun q => hLa a ha (List.mem_singleton.mp q)) e) H7
        obtain ⟨tc, rfl⟩ := hvc
        -- first, second, order
        refine wpAny_execs_cons (Assign_Tuple (wpAny_Tuple (spliced_more (ld_local X8 rfl (spliced_more (ld_local X8 rfl (spliced_more (wpAny_List (spliced_none ⟨by show 0 ≤ sizeLine; decide, ?_⟩)))))))))
        obtain ⟨X9, hO9, hU0⟩ := X8.newOwn (R := RNat) (vs := []) (xs := []) .nil s8.toks
        obtain ⟨hUL, hUc, hUo⟩ := X8.apartNew hU0
        have hU1 := X8.noneOf hU0
        have H9 := keepL i g6 g6 s8.heap _ (VLe.refl g6) (fun a ha o e => Heap.get?_push_of_some { cls := .type "list", data := .seq ([] : List Value).toArray } e) H8
        generalize s8.heap.objs.size = U at X9 hO9 hUL hUc hUo hU1
        refine spliced_none ⟨by show 3 ≤ sizeLine; decide, ?_⟩
        have Gt := (Grow.refl X9.grow.inn).push (tupObj [.int (cutOf i : Nat) tc, .int (cutOf i : Nat) tc, .ref U]) s8.toks
        have X10 := X9.step Gt
        have hO10 := hO9.keep (h' := (s8.heap.push { cls := .type "list", data := .seq ([] : List Value).toArray }).push (tupObj [.int (cutOf i : Nat) tc, .int (cutOf i : Nat) tc, .ref U])) fun o e => Heap.get?_push_of_some _ e
        have H10 := keepL i g6 g6 _ _ (VLe.refl g6) (fun a ha o e => keeps_get Gt.keeps e) H9
        refine wpAny_assign_Tuple (items := #[.int (cutOf i : Nat) tc, .int (cutOf i : Nat) tc, .ref U]) hh ⟨_, Heap.get?_push_size _ rfl, rfl, 0, rfl⟩ rfl rfl fun h' hx => ?_
        have X11 := X10.step (Grow.ofKeeps X10.grow.inn (keeps_ext hx))
        have hO11 := hO10.keep (h' := h') fun o e => keeps_get (keeps_ext hx) e
        have H11 := keepL i g6 g6 _ _ (VLe.refl g6) (fun a ha o e => keeps_get (keeps_ext hx) e) H10
        refine assignInOrder_cons (wpAny_assign_Name (st_local X11 fun s12 X12 k12 => ?_))
        refine assignInOrder_cons (wpAny_assign_Name (st_local X12 fun s13 X13 k13 => ?_))
        refine assignInOrder_cons (wpAny_assign_Name (st_cell X13 (c := L + 1 + 1 + 1 + 1) rfl (List.mem_cons_of_mem _ (List.mem_append_right _ (List.mem_cons_of_mem _ List.mem_cons_self))) fun s14 X14 k14 => assignInOrder_nil ?_))
        have hUc4 := hUc (Str.ofString "order") (L + 1 + 1 + 1 + 1) rfl
        have hO14 := ((hO11.keep fun o e => k12 U o (fun q => hUL (List.mem_singleton.mp q)) e).keep fun o e => k13 U o (fun q => hUL (List.mem_singleton.mp q)) e).keep fun o e => k14 U o (fun q => hUc4 (List.mem_singleton.mp q).symm) e
        have H14 := keepL i g6 g6 _ _ (VLe.refl g6) (fun a ha o e => k14 a o (fun q => hc2 a ha (List.mem_singleton.mp q)) (k13 a o (fun q => hLa a ha (List.mem_singleton.mp q)) (k12 a o (fun q => hLa a ha (List.mem_singleton.mp q)) e))) H11
        -- the order
        refine wpAny_execs_cons ?_
        have hle6 : VLe g g6 := hle.trans G6.le
        refine exec_for X14 (Call_Name rfl (ld_blt (W.keeps X14.grow.keeps) (gb_range _) (callWith_type1 (spliced_more (wpAny_Constant_int (spliced_none ?_))))))
        refine src_rangeN (n := 4) (g := g6) (g₁ := g6) hh ⟨_, rfl⟩ (by decide) (Grow.ofKeeps X14.grow.inn (keeps_toks _)) fun it s15 G15 S15 => ?_
        refine ⟨g6, 4, _, G15, S15 _, fun j m cm g' h => m (Str.ofString "told") = some (.ref D) ∧ m (Str.ofString "cut") = some (.int (cutOf i : Nat) tc) ∧ (∃ t, m (Str.ofString "first") = some (.int ((ordUp i j).1 : Nat) t)) ∧ (∃ t, m (Str.ofString "second") = some (.int ((ordUp i j).2.1 : Nat) t)) ∧
          cm (Str.ofString "word") = some vw ∧ cm (Str.ofString "rates") = some vt ∧ cm (Str.ofString "mask") = some vm ∧ cm (Str.ofString "order") = some (.ref U) ∧ OwnList RNat U g' h (ordUp i j).2.2 ∧ ∀ c a, as[c]? = some a → OwnList RS a g' h (toldRows rt wd i c), ?_, ?_, ?_, ?_⟩
        · exact ⟨hmt, rfl, ⟨tc, rfl⟩, ⟨tc, rfl⟩, hcw4, hct4, rfl, rfl, hO14.keep fun o e => keeps_get G15.keeps e, keepL i g6 g6 _ _ (VLe.refl g6) (fun a ha o e => keeps_get G15.keeps e) H14⟩
        · exact fun j m cm g' h h' a k => ⟨a.1, a.2.1, a.2.2.1, a.2.2.2.1, a.2.2.2.2.1, a.2.2.2.2.2.1, a.2.2.2.2.2.2.1, a.2.2.2.2.2.2.2.1, a.2.2.2.2.2.2.2.2.1.keep fun o e => k U List.mem_cons_self o e, keepL i g' g' _ _ (VLe.refl g') (fun b hb o e => k b (List.mem_cons_of_mem _ (List.mem_append_left _ hb)) o e) a.2.2.2.2.2.2.2.2.2⟩
        · rintro j vj m cm g16 s16 hj X16 ⟨hmt, hmc, ⟨tf, hmf⟩, ⟨ts, hms⟩, hcw6, hct6, hcm6, hco6, hO16, H16⟩ ⟨_, hvj⟩ hle16
          obtain ⟨hb2, hb1⟩ := hbits j hj
          refine wpAny_assign_Name (st_local X16 fun s17 X17 k17 => ?_)
          have hO17 := hO16.keep fun o e => k17 U o (fun q => hUL (List.mem_singleton.mp q)) e
          have H17 := keepL i g16 g16 _ _ (VLe.refl g16) (fun a ha o e => k17 a o (fun q => hLa a ha (List.mem_singleton.mp q)) e) H16
          refine wpAny_execs_cons (wpAny_If (isTrue_plain (wpAny_BinOp (wpAny_BinOp (ld_cell X17 (c := L + 1 + 1 + 1) rfl hcm6 (ld_local X17 rfl ?_))))))
          refine r_shift (g := g16) hvm hvj hi hj fun y n hy => ?_
          refine wpAny_Constant_int (r_and1 hy fun z n' hz => ?_)
          have hz : RNat g16 z (bitAt i j) := hz
          obtain ⟨tz, rfl⟩ := hz
          refine truthy_int ?_
          have X18 := X17.toks n'
          obtain ⟨vsU, nU, hoU, hpU⟩ := id hO17
          have hTU : ({ s17 with toks := n' } : Shared).TypeIs (.ref U) "list" := ⟨_, hoU, rfl⟩
          have haU : ∀ a ∈ as, a ≠ U := fun a ha q => hUo (List.mem_append_left _ (q ▸ ha))
          by_cases hb : bitAt i j = 0
          · rw [if_neg (by simp [hb])]
            have hup : ordUp i (j + 1) = ((ordUp i j).1, (ordUp i j).2.1 + 1, (ordUp i j).2.2 ++ [(ordUp i j).2.1]) := by rw [ordUp, if_pos hb]
            refine wpAny_execs_cons (wpAny_Expr (MethodCall_ (ld_cell X18 (c := L + 1 + 1 + 1 + 1) rfl hco6 ?_)))
            refine getMethod_builtin hTU F.plainAttrs_list F.slot_list_append F.type_list_append (fun a e => by cases e; exact ⟨_, hoU, rfl⟩) ?_
            refine callWith_method1 (spliced_more (ld_local X18 hms (spliced_none (OwnList.append (s := { s17 with toks := n' }) hO17 ⟨ts, rfl⟩ (by rw [ordUp_len]; omega) fun h' hs' hO' => ?_))))
            have X19 := X18.mut' n' hs' List.mem_cons_self hUL hUc (by obtain ⟨_, _, ho, _⟩ := hO'; exact ⟨_, ho⟩)
            have H19 := keepL i g16 g16 _ h' (VLe.refl g16) (fun a ha o e => (hs'.2 a (haU a ha)).trans e) H17
            refine wpAny_execs_cons (wpAny_Assign_Name (wpAny_BinOp (ld_local X19 hms (wpAny_Constant_int (AutoIntOps.add_0 ?_)))))
            refine st_local (X19.toks (n' + 1 + 1)) fun s20 X20 k20 => wpAny_execs_nil (wpAny_execs_nil ⟨rfl, _, _, g16, X20, hmt, hmc, ⟨tf, ?_⟩, ⟨n' + 1, ?_⟩, hcw6, hct6, hcm6, hco6, ?_, ?_⟩)
            · rw [hup]; exact hmf
            · rw [hup]; rfl
            · rw [hup]; exact hO'.keep fun o e => k20 U o (fun q => hUL (List.mem_singleton.mp q)) e
            · exact keepL i g16 g16 _ _ (VLe.refl g16) (fun a ha o e => k20 a o (fun q => hLa a ha (List.mem_singleton.mp q)) e) H19
          · rw [if_pos (by simpa using hb)]
            have hup : ordUp i (j + 1) = ((ordUp i j).1 - 1, (ordUp i j).2.1, (ordUp i j).2.2 ++ [(ordUp i j).1 - 1]) := by rw [ordUp, if_neg hb]
            have h1 := hb1 hb
            have hsub : (((ordUp i j).1 : Nat) : Int) - 1 = (((ordUp i j).1 - 1 : Nat) : Int) := by omega
            refine wpAny_execs_cons (wpAny_Assign_Name (wpAny_BinOp (ld_local X18 hmf (wpAny_Constant_int (AutoIntOps.sub_0 ?_)))))
            refine st_local (X18.toks (n' + 1 + 1)) fun s19 X19 k19 => ?_
            have hO19 := hO17.keep fun o e => k19 U o (fun q => hUL (List.mem_singleton.mp q)) e
            have H19 := keepL i g16 g16 _ _ (VLe.refl g16) (fun a ha o e => k19 a o (fun q => hLa a ha (List.mem_singleton.mp q)) e) H17
            obtain ⟨vsU2, nU2, hoU2, hpU2⟩ := id hO19
            have hTU2 : s19.TypeIs (.ref U) "list" := ⟨_, hoU2, rfl⟩
            refine wpAny_execs_cons (wpAny_Expr (MethodCall_ (ld_cell X19 (c := L + 1 + 1 + 1 + 1) rfl hco6 ?_)))
            refine getMethod_builtin hTU2 F.plainAttrs_list F.slot_list_append F.type_list_append (fun a e => by cases e; exact ⟨_, hoU2, rfl⟩) ?_
            refine callWith_method1 (spliced_more (ld_local X19 rfl (spliced_none (hO19.append ⟨n' + 1, congrArg (fun z => Value.int z _) hsub⟩ (by rw [ordUp_len]; omega) fun h' hs' hO' => ?_))))
            have X20 := X19.mut' s19.toks hs' List.mem_cons_self hUL hUc (by obtain ⟨_, _, ho, _⟩ := hO'; exact ⟨_, ho⟩)
            refine wpAny_execs_nil (wpAny_execs_nil ⟨rfl, _, _, g16, X20, hmt, hmc, ⟨n' + 1, ?_⟩, ⟨ts, ?_⟩, hcw6, hct6, hcm6, hco6, ?_, ?_⟩)
            · rw [hup]; exact congrArg some (congrArg (fun z => Value.int z _) hsub)
            · rw [hup]; exact hms
            · rw [hup]; exact hO'
            · exact keepL i g16 g16 _ h' (VLe.refl g16) (fun a ha o e => (hs'.2 a (haU a ha)).trans e) H19
        · rintro m cm g16 s16 X16 ⟨hmt, hmc, _, _, hcw6, hct6, hcm6, hco6, hO16, H16⟩ hle16
          obtain ⟨oU, hoU, hord⟩ := hO16.rlist mono_RNat (X16.out U List.mem_cons_self)
          have X17 := X16.freeze hU1 (List.mem_append_right _ List.mem_cons_self) hUo hoU
          have hleU : VLe g16 (addv g16 U oU) := addv_le _ (X16.out U List.mem_cons_self)
          have H17 := keepL i _ _ _ _ hleU (fun a ha o e => e) H16
          have hle17 : VLe g (addv g16 U oU) := (hle6.trans hle16).trans hleU
          have hgD17 : addv g16 U oU D = some (listObj (as.map Value.ref) k) := (hleU _ _ (hle16 _ _ (G6.le _ _ (hle4 _ _ hgD))))
          change RList RNat (addv g16 U oU) (.ref U) (ordOf i) at hord
          generalize addv g16 U oU = g17 at X17 H17 hle17 hgD17 hord
          -- dear
          refine wpAny_execs_cons (wpAny_Assign_Name (Call_Name rfl (ld_blt (W.keeps X17.grow.keeps) (gb_sum _) (PyProof.Rows.callWith_builtin1 (spliced_more ?_)))))
          refine ev_comp2X (R := RNat) (n := (ordOf i).length) (cl := [(Str.ofString "word", L + 1), (Str.ofString "rates", L + 1 + 1), (Str.ofString "order", L + 1 + 1 + 1 + 1)]) mono_RNat (dearTOuts rt wd (ordOf i)) X17 rfl (lookup_sub_cons rfl (lookup_sub_cons rfl (lookup_sub_cons rfl lookup_sub0))) (fun q hq => ?_) ?_ ?_
          · have : ∀ k, ((List.range k).flatMap (dearTOuts rt wd (ordOf i))).length ≤ k * 4 := fun k => by
              induction k with
              | zero => simp
              | succ k ih =>
                have : (dearTOuts rt wd (ordOf i) k).length ≤ 4 := by
                  unfold dearTOuts
                  rw [List.length_map]
                  refine Nat.le_trans (List.length_filter_le _ _) ?_
                  rw [List.length_drop]; omega
                rw [List.range_succ, List.flatMap_append, List.length_append]
                simp only [List.flatMap_cons, List.flatMap_nil, List.append_nil]; omega
            have := this q; omega
          · refine Call_Name rfl (ld_blt (W.keeps X17.grow.keeps) (gb_enumerate _) (callWith_type1 (spliced_more (ld_cell X17 (c := L + 1 + 1 + 1 + 1) rfl hco6 (spliced_none ?_)))))
            refine src_enumL hh (Grow.refl X17.grow.inn) hord fun it s₂ G2 S2 => ⟨g17, _, G2, S2 _ _ _, fun C hC => ?_⟩
            rintro q v s₃ m3 cm3 g₃ hq X3 hm ⟨T, t, two, y, rfl, htwo, hy, hT⟩ hle3
            rw [hm] at X3
            have htwo4 := hoall two (List.mem_of_getElem? htwo)
            have hqd : (ordOf i).getD q 0 = two := by rw [List.getD_eq_getElem?_getD, htwo]; rfl
            refine wpAny_assign_Tuple hh hT rfl rfl fun h' hx => ?_
            have X4' := X3.step (Grow.ofKeeps X3.grow.inn (keeps_ext hx))
            refine assignInOrder_cons (wpAny_assign_Name (st_local X4' fun s₅ X5' _ => ?_))
            refine assignInOrder_cons (wpAny_assign_Name (st_local X5' fun s₆ X6' _ => assignInOrder_nil ?_))
            refine Subscript_ (ld_cell X6' (c := L + 1 + 1 + 1 + 1) rfl hco6 (wpAny_Slice (wpAny_evalPart_some (ld_local X6' rfl (wpAny_evalPart_none (wpAny_evalPart_none ?_))))))
            have hord3 := mono_RList mono_RNat _ _ _ _ hle3 hord
            refine r_lslice (R := RNat) (xs := ordOf i) (ys := (ordOf i).drop q) mono_RNat X6'.grow.inn hord3 (by omega) (.int _ _) .none .none (by simp) (fun vs hp => pick_from q vs hp) fun z gz sz Gz hz => ?_
            have X7' := X6'.step Gz
            refine src_list hh (Grow.refl X7'.grow.inn) hz fun it2 s₉ G9 S9 => ?_
            have X9' := X7'.step G9
            refine ⟨_, _, gz, ((ordOf i).drop q).length, _, fun m cm' => cm' = cm ∧ m (Str.ofString "two") = some y, pickLt (fun x => rt (wd.getD x 0) (wd.getD two 0)) two ((ordOf i).drop q), X9', ⟨rfl, rfl⟩, fun _ _ q => q.1, (S9 _).base fun b hb => X7'.noneOf hb, ?_, ?_, ?_⟩
            · rintro j v2 s10 m10 cm10 g10 hj X10 ⟨hc10, hm10⟩ ⟨x, hx, hv2⟩ hle10
              rw [hc10] at X10
              have hx4 := hoall x (List.mem_of_mem_drop (List.mem_of_getElem? hx))
              have hle10' : VLe g g10 := (hle17.trans hle3).trans (Gz.le.trans hle10)
              have hy10 : RNat g10 y two := hy
              refine wpAny_assign_Name (st_local X10 fun s11 X11 _ => tests_one ?_)
              obtain ⟨ty, hty⟩ := id hy
              obtain ⟨tx2, htx2⟩ := id hv2
              subst htx2
              rw [hty] at hm10
              refine wpAny_isTrue_Compare1 (ld_local X11 rfl (ld_local X11 hm10 (P.lt_int (wpAny_truthy_bool ?_))))
              by_cases hlt : x < two
              · rw [if_pos (by simp; omega)]
                have hgx : wd[x]? = some (wd.getD x 0) := by rw [List.getD_eq_getElem?_getD, List.getElem?_eq_getElem (by omega)]; rfl
                have hgt : wd[two]? = some (wd.getD two 0) := by rw [List.getD_eq_getElem?_getD, List.getElem?_eq_getElem (by omega)]; rfl
                refine Subscript_ (Subscript_ (ld_cell X11 (c := L + 1 + 1) rfl hct6 (Subscript_ (ld_cell X11 (c := L + 1) rfl hcw6 (ld_local X11 rfl ?_)))))
                refine r_bitem (g := g10) (i := x) hw256 (by omega) hvw ⟨tx2, rfl⟩ hgx fun y1 n1 hy1 => ?_
                have X12 := X11.toks n1
                refine r_item X12.grow.inn (mono_RList (mono_RList mono_RNat) _ _ _ _ hle10' hvt) hy1 (tab_row (getD_lt hw x)) (by have := getD_lt hw x; omega) fun row hrow => ?_
                refine Subscript_ (ld_cell X12 (c := L + 1) rfl hcw6 (ld_local X12 hm10 ?_))
                refine r_bitem (s := { s11 with toks := n1 }) (g := g10) (i := two) hw256 (by omega) hvw ⟨ty, rfl⟩ hgt fun y2 n2 hy2 => ?_
                have X13 := X12.toks n2
                refine tmp (r_item X13.grow.inn hrow hy2 (tab_cell (getD_lt hw two)) (by have := getD_lt hw two; omega) fun z hz => ?_)
                exact ⟨_, _, _, _, X13, ⟨rfl, by rw [hty]; exact hm10⟩, hz, by simp [pickLt, hx, hlt]⟩
              · rw [if_neg (by simp; omega)]
                exact ⟨_, _, _, X11, ⟨rfl, by rw [hty]; exact hm10⟩, by simp [pickLt, hx, hlt]⟩
            · rw [pickLt_all]; simp only [dearTOuts, hqd]
            · intro j hj
              have := pickLt_size (fun x => rt (wd.getD x 0) (wd.getD two 0)) two ((ordOf i).drop q) j
              rw [List.length_drop] at hj; omega
          · intro vl g18 s18 G18 X18 hvl
            have H18 := keepL i _ _ _ _ G18.le (fun a ha o e => keeps_get G18.keeps e) H17
            refine spliced_none (r_sum hh X18.grow.inn hvl fun vd s19 G19 hvd => ?_)
            have hvd : RNat g18 vd (dearT rt wd (ordOf i)) := hvd
            have hdle : dearT rt wd (ordOf i) ≤ 32 := Nat.le_trans (dearT_le hrt wd (ordOf i)) (by rw [holen]; decide)
            have X19 := X18.step G19
            have H19 := keepL i _ _ _ _ (VLe.refl g18) (fun a ha o e => keeps_get G19.keeps e) H18
            refine st_local X19 fun s20 X20 k20 => ?_
            have H20 := keepL i _ _ _ _ (VLe.refl g18) (fun a ha o e => k20 a o (fun q => hLa a ha (List.mem_singleton.mp q)) e) H19
            obtain ⟨td, rfl⟩ := hvd
            have hle20 : VLe g g18 := hle17.trans G18.le
            have hlt5 : cutOf i < as.length := by omega
            have hac : as[cutOf i]? = some as[cutOf i] := List.getElem?_eq_getElem hlt5
            generalize as[cutOf i] = a at hac
            have haM := List.mem_of_getElem? hac
            obtain ⟨vsa, na, hoa, hpa⟩ := id (H20 _ _ hac)
            have hTa : s20.TypeIs (.ref a) "list" := ⟨_, hoa, rfl⟩
            refine wpAny_execs_cons (wpAny_Expr (MethodCall_ (Subscript_ (ld_local X20 hmt (ld_local X20 hmc ?_)))))
            refine item_plainL (vs := as.map Value.ref) (n := k) (v := .ref a) (X20.grow.inn _ _ (G18.le _ _ hgD17)) (by rw [List.getElem?_map, hac]; rfl) (by omega) ?_
            refine getMethod_builtin hTa F.plainAttrs_list F.slot_list_append F.type_list_append (fun a e => by cases e; exact ⟨_, hoa, rfl⟩) ?_
            refine callWith_method1 (spliced_more (wpAny_BinOp (wpAny_BinOp (wpAny_Constant_str (wpAny_BinOp (ld_local (X20.toks _) rfl (wpAny_Constant_int (AutoIntOps.add_0 ?_))))))))
            refine r_dots (g := g18) (k := dearT rt wd (ordOf i) + 1) ⟨_, rfl⟩ ⟨s20.toks + 1 + 1, rfl⟩ (by omega) (by omega) fun yd nd hyd => ?_
            refine MethodCall_ (wpAny_Constant_str (GM.join (callWith_method1 (spliced_more ?_))))
            have X21 := X20.toks (nd + 1)
            refine ev_map (R₁ := RNat) (R := RS) (xs := ordOf i) (cl := [(Str.ofString "word", L + 1)]) (fun p => [97 + wd.getD p 0]) mono_RS mono_RNat hh X21 rfl (lookup_sub_cons rfl lookup_sub0) (by omega) ?_ ?_ ?_
            · exact ld_cell X21 (c := L + 1 + 1 + 1 + 1) rfl hco6 ⟨g18, Grow.refl X21.grow.inn, mono_RList mono_RNat _ _ _ _ G18.le hord⟩
            · intro C m₂ g₁ g₂ g₃ h₃ s₃ v p hp hle1 X3 hR hle3
              have hp4 := hoall p hp
              have hgp : wd[p]? = some (wd.getD p 0) := by rw [List.getD_eq_getElem?_getD, List.getElem?_eq_getElem (by omega)]; rfl
              refine Subscript_ (wpAny_Constant_str (Subscript_ (ld_cell (X3.toks _) (c := L + 1) rfl hcw6 (ld_local (X3.toks _) rfl ?_))))
              refine r_bitem (g := g₃) (i := p) hw256 (by omega) hvw hR hgp fun y1 n1 hy1 => ?_
              refine r_letter (g := g₃) ⟨_, rfl⟩ hy1 (getD_lt hw p) fun z n hz => ?_
              exact ⟨_, _, X3.toks n, hz⟩
            · intro vj gj sj Gj Xj hvj
              refine spliced_none (r_join (g := gj) (sep := []) (rows := (ordOf i).map fun p => [97 + wd.getD p 0]) Xj.grow.inn ⟨_, rfl⟩ hvj ?_ fun tj nj => ?_)
              · have : ∀ l : List Nat, ((l.map fun p => [97 + wd.getD p 0]).map (·.length + ([] : List Nat).length)).sum = l.length := fun l => by
                  induction l with
                  | nil => rfl
                  | cons a l ih => simp only [List.map_cons, List.sum_cons, List.length_cons, List.length_nil] at *; omega
                rw [this]; omega
              have Xk := Xj.toks nj
              rw [joinL_singles]
              refine r_add_str (g := gj) hyd ⟨tj, rfl⟩ (by rw [List.length_replicate, List.length_map]; omega) fun yr nr hyr => spliced_none ?_
              have Xr := Xk.toks nr
              have hyr : RS gj yr (rowT rt wd i) := hyr
              have Hj := keepL i _ _ _ _ Gj.le (fun a ha o e => keeps_get Gj.keeps e) H20
              refine OwnList.append (s := { sj with toks := nr }) (Hj _ _ hac) hyr (Nat.le_trans (toldRows_len rt wd i _) (by omega)) fun h' hs' hO' => ?_
              have haL := X.apartNew (hall a haM).2.1
              refine wpAny_execs_nil ⟨rfl, _, _, gj, Xr.mut' nr hs' (List.mem_append_left _ haM) haL.1 haL.2.1 ?_, hmt, hcw6, hct6, fun c a' hc => ?_⟩
              · obtain ⟨_, _, ho, _⟩ := hO'; exact ⟨_, ho⟩
              · rw [toldRows_succ]
                by_cases hcc : cutOf i = c
                · rw [if_pos hcc]
                  subst hcc
                  rw [hac] at hc; cases hc
                  exact hO'
                · rw [if_neg hcc]
                  have hne : a' ≠ a := fun q => by
                    subst q
                    obtain ⟨l1, e1⟩ := List.getElem?_eq_some_iff.mp hac
                    obtain ⟨l2, e2⟩ := List.getElem?_eq_some_iff.mp hc
                    exact hcc ((List.getElem_inj hnd).mp (e1.trans e2.symm))
                  exact (Hj c a' hc).keep fun o e => (hs'.2 a' hne).trans e
    · rintro m cm g4 s4 X4 ⟨hmt, hcw4, hct4, H4⟩ hle4
      obtain ⟨gf, Xf, hlef, hallf⟩ := InEnv.freezes (List.mem_cons_self) as g4 X4 hnd fun a ha => ⟨(hall a ha).2.1, (hall a ha).1⟩
      have htold : RList (RList RS) gf (.ref D) ((List.range 5).map (toldRows rt wd 16)) := by
        refine ⟨D, as.map Value.ref, k, rfl, hlef _ _ (hle4 _ _ hgD), paired_idx _ _ (by simp [h5]) fun c v rows hv hrows => ?_⟩
        rw [List.getElem?_map] at hv hrows
        cases ha : as[c]? with
        | none => rw [ha] at hv; cases hv
        | some a =>
          rw [ha] at hv
          cases hv
          have hlt : c < 5 := by obtain ⟨q, _⟩ := List.getElem?_eq_some_iff.mp ha; omega
          rw [List.getElem?_range hlt] at hrows
          cases hrows
          obtain ⟨vs, n, e, hp⟩ := H4 c a ha
          exact ⟨a, vs, n, rfl, hallf a (List.mem_of_getElem? ha) _ e, Paired.mono' (fun _ _ q => q) hp⟩
      refine wpAny_execs_cons (wpAny_Return_some ?_)
      refine ev_map (R₁ := RList RS) (R := RSrt) (xs := (List.range 5).map (toldRows rt wd 16)) (cl := []) id mono_RSrt (mono_RList mono_RS) hh Xf rfl lookup_sub0 (by simp) ?_ ?_ ?_
      · exact ld_local Xf hmt ⟨gf, Grow.refl Xf.grow.inn, htold⟩
      · intro C m₂ g₁ g₂ g₃ h₃ s₃ v rows hrows hle1 X3 hR hle3
        have W3 := (W.keeps Xf.grow.keeps).keeps X3.grow.keeps
        refine Call_Name rfl (ld_blt W3 (gb_sorted _) (PyProof.Rows.callWith_builtin1 (spliced_more (ld_local X3 rfl (spliced_none ?_)))))
        refine r_sorted X3.grow.inn hR ?_ fun y gy sy Gy hy => ⟨_, gy, X3.step Gy, hy⟩
        obtain ⟨c, hc, rfl⟩ := List.mem_map.mp hrows
        have := toldRows_len rt wd 16 c
        omega
      · intro v' g' s' G' X' hv'
        rw [List.map_id] at hv'
        exact hQ v' g' s' X'.grow hv'
end Mine
end

section
open PySem PySem.W PyProof.Rows PySem.Calls
set_option maxRecDepth 100000
namespace Mine

/-! ## the plain law: what is laid is told, and the cuts cancel -/
/-- the orders in which a cut lays the places -/
def laidO : Nat → List (List Nat)
  | 0 => [[0, 1, 2, 3]]
  | 1 => [[1, 2, 3, 0], [1, 2, 0, 3], [1, 0, 2, 3], [0, 1, 2, 3]]
  | 2 => [[2, 3, 1, 0], [2, 1, 3, 0], [1, 2, 3, 0], [2, 1, 0, 3], [1, 2, 0, 3], [1, 0, 2, 3]]
  | 3 => [[3, 2, 1, 0], [2, 3, 1, 0], [2, 1, 3, 0], [2, 1, 0, 3]]
  | _ => [[3, 2, 1, 0]]
def toldO (c : Nat) : List (List Nat) := ((List.range 16).filter (cutOf · = c)).map ordOf
def rowO (rt : Nat → Nat → Nat) (wd : List Nat) (ord : List Nat) : List Nat := rep (dearT rt wd ord + 1) (ord.map fun p => 97 + wd.getD p 0)

theorem perm_cut : ∀ c < 5, (laidO c).Perm (toldO c) := by decide
theorem perm_cancel : (laidO 0 ++ (laidO 2 ++ laidO 4)).Perm (laidO 1 ++ laidO 3) := by decide

theorem toldRows_eq (rt : Nat → Nat → Nat) (wd : List Nat) (c : Nat) : toldRows rt wd 16 c = (toldO c).map (rowO rt wd) := by
  unfold toldRows toldO
  rw [List.map_map]; rfl

theorem rep_app (k : Nat) (x y : List Nat) : rep k x ++ y = rep k (x ++ y) := by simp [rep]
theorem rep_rep (k j : Nat) (x : List Nat) : rep k (rep j x) = rep (k + j) x := by
  simp [rep, ← List.append_assoc, List.replicate_append_replicate]
theorem rep_dot (k : Nat) (x : List Nat) : rep (k + 1) x = rep k (46 :: x) := by
  rw [show rep (k + 1) x = rep k (rep 1 x) from (rep_rep k 1 x).symm]; rfl
theorem rep_eq {k j : Nat} {x : List Nat} (h : k = j) : rep k x = rep j x := by rw [h]

theorem laid_0 (rt : Nat → Nat → Nat) (a b c d : Nat) : laid rt [] [a, b, c, d] = (laidO 0).map (rowO rt [a, b, c, d]) := by
  simp [laid, GG, addL, dearL, dearOuts, paidN, rowO, dearT, dearTOuts, rep_app, rep_rep, rep_dot, List.range_succ, laidO]
theorem laid_1 (rt : Nat → Nat → Nat) (a b c d : Nat) : laid rt [a] [b, c, d] = (laidO 1).map (rowO rt [a, b, c, d]) := by
  simp [laid, GG, addL, dearL, dearOuts, paidN, rowO, dearT, dearTOuts, rep_app, rep_rep, rep_dot, List.range_succ, laidO]
theorem laid_2 (rt : Nat → Nat → Nat) (a b c d : Nat) : laid rt [b, a] [c, d] = (laidO 2).map (rowO rt [a, b, c, d]) := by
  simp [laid, GG, addL, dearL, dearOuts, paidN, rowO, dearT, dearTOuts, rep_app, rep_rep, rep_dot, List.range_succ, laidO]
  refine ⟨?_, ?_, ?_, ?_, ?_⟩ <;> exact rep_eq (by omega)
theorem laid_3 (rt : Nat → Nat → Nat) (a b c d : Nat) : laid rt [c, b, a] [d] = (laidO 3).map (rowO rt [a, b, c, d]) := by
  simp [laid, GG, addL, dearL, dearOuts, paidN, rowO, dearT, dearTOuts, rep_app, rep_rep, rep_dot, List.range_succ, laidO]
  refine ⟨?_, ?_, ?_⟩ <;> exact rep_eq (by omega)
theorem laid_4 (rt : Nat → Nat → Nat) (a b c d : Nat) : laid rt [d, c, b, a] [] = (laidO 4).map (rowO rt [a, b, c, d]) := by
  simp [laid, GG, addL, dearL, dearOuts, paidN, rowO, dearT, dearTOuts, rep_app, rep_rep, rep_dot, List.range_succ, laidO]

theorem laid_cut (rt : Nat → Nat → Nat) {wd : List Nat} (hl : wd.length = 4) (c : Nat) (hc : c < 5) : laid rt (wd.take c).reverse (wd.drop c) = (laidO c).map (rowO rt wd) := by
  match wd, hl with
  | [p, q, r, s], _ =>
    have : c = 0 ∨ c = 1 ∨ c = 2 ∨ c = 3 ∨ c = 4 := by omega
    rcases this with rfl | rfl | rfl | rfl | rfl
    · exact laid_0 rt p q r s
    · exact laid_1 rt p q r s
    · exact laid_2 rt p q r s
    · exact laid_3 rt p q r s
    · exact laid_4 rt p q r s
/-- each cut's rows are told -/
theorem laid_told (rt : Nat → Nat → Nat) {wd : List Nat} (hl : wd.length = 4) (c : Nat) (hc : c < 5) : (laid rt (wd.take c).reverse (wd.drop c)).Perm (toldRows rt wd 16 c) := by
  rw [laid_cut rt hl c hc, toldRows_eq]
  exact (perm_cut c hc).map _
def pileAt (rt : Nat → Nat → Nat) (wd : List Nat) (c : Nat) : List (List Nat) := laid rt (wd.take c).reverse (wd.drop c)
def pilesL (rt : Nat → Nat → Nat) (wd : List Nat) : List (List (List Nat)) := (List.range 5).map (pileAt rt wd)
def evenL (rt : Nat → Nat → Nat) (wd : List Nat) : List (List (List Nat)) := [pileAt rt wd 0, pileAt rt wd 2, pileAt rt wd 4]
def oddL (rt : Nat → Nat → Nat) (wd : List Nat) : List (List (List Nat)) := [pileAt rt wd 1, pileAt rt wd 3]
/-- the cuts cancel -/
theorem cuts_cancel (rt : Nat → Nat → Nat) {wd : List Nat} (hl : wd.length = 4) : (evenL rt wd).flatten.Perm (oddL rt wd).flatten := by
  simp only [evenL, oddL, pileAt, List.flatten_cons, List.flatten_nil, List.append_nil]
  rw [laid_cut rt hl 0 (by omega), laid_cut rt hl 1 (by omega), laid_cut rt hl 2 (by omega), laid_cut rt hl 3 (by omega), laid_cut rt hl 4 (by omega)]
  simp only [← List.map_append]
  exact perm_cancel.map _
theorem even_length (rt : Nat → Nat → Nat) {wd : List Nat} (hl : wd.length = 4) : (evenL rt wd).flatten.length = 8 := by
  simp only [evenL, pileAt, List.flatten_cons, List.flatten_nil, List.append_nil]
  rw [laid_cut rt hl 0 (by omega), laid_cut rt hl 2 (by omega), laid_cut rt hl 4 (by omega)]
  rfl
theorem odd_length (rt : Nat → Nat → Nat) {wd : List Nat} (hl : wd.length = 4) : (oddL rt wd).flatten.length = 8 := by
  rw [← (cuts_cancel rt hl).length_eq, even_length rt hl]
end Mine
end

section
open PySem PySem.W PyProof.Rows PySem.Calls
set_option maxRecDepth 100000
namespace Mine
set_option pp.deepTerms false
set_option pp.deepTerms.threshold 3

section
variable {prog : Program} {w : World} {A : Around} {s : Shared} {g : View} {Q : Value → Shared → Prop} {α : Type} {R : Rp α}

/-- a slice of a list of which only its items are known -/
theorem r_lsliceI {xs ys : List α} {vs : Array Value} {l : Addr} {a b c : Value} {lo hi st : Option Int} {value slice : Expr} (MR : Mono R) (G : VIn g s.heap) (hL : s.heap.IsList l vs) (hp : Paired (R g) vs.toList xs) (hlen : xs.length ≤ 1048576) (ha : IsPart a lo) (hb : IsPart b hi) (hc : IsPart c st) (h0 : st ≠ some 0)
    (hpk : Paired (R g) vs.toList xs → Paired (R g) (slicePick vs lo hi st).toList ys)
    (hQ : ∀ z g' s', Grow g s g' s' → RList R g' z ys → Q z s')
    (hs : subscripted slice false (.ref l) (.ref s.heap.objs.size) = operate [.ref s.heap.objs.size, .ref l] (getItem (.ref l) (.ref s.heap.objs.size)) := by with_unfolding_all rfl)
    (ht : ∀ r, letTemporaryGo value (.ref l) r = pure () := by intro _; with_unfolding_all rfl) :
    wpAny (model prog w) A (subscriptTail value slice (.ref l) (.ref s.heap.objs.size)) Q NoE { s with heap := s.heap.push { cls := .type "slice", data := .fields #[a, b, c] } } := by
  have Gs := (Grow.refl G).push (s := s) { cls := .type "slice", data := .fields #[a, b, c] } s.toks
  refine tail_of_ItemOn ⟨"list", _, list_getitem_lookup, Heap.IsList.typeIs (s := { s with heap := s.heap.push { cls := .type "slice", data := .fields #[a, b, c] } }) (hL.push _),
    wpAny_getItem_list_slice (hL.push _) (Heap.IsSliceOf.new ..) ha hb hc h0 ?_ (by
      have h1 : vs.size = xs.length := by rw [← Array.length_toList, hp.length]
      have h2 : sizeLine = 16777216 := by decide
      omega)⟩ hs ht
  have Gp := Gs.push { cls := .type "list", data := .seq (slicePick vs lo hi st) } s.toks
  have h1 := Gs.none₀ none_of_size
  refine hQ _ _ _ (Gp.add (Heap.get?_push_size _ rfl) h1.1) ⟨_, (slicePick vs lo hi st).toList, 0, rfl, ?_, ?_⟩
  · rw [addv_self]
  · exact Paired.mono' (fun _ _ q => MR _ _ _ _ (addv_le _ h1.2) q) (hpk hp)

theorem ints_paired {g : View} : ∀ {vs : List Value} {l : List Nat}, Paired (RNat g) vs l → IntsAre vs (l.map fun n : Nat => (n : Int))
  | _, _, .nil => .nil
  | _, _, .cons ⟨t, e⟩ r => by subst e; exact .cons _ t (ints_paired r)
theorem byteArr_bw (l : List Nat) : byteArr (l.map fun n : Nat => (n : Int)) = bw l := by
  unfold byteArr bw
  rw [List.map_map]; rfl
/-- bytes(a list of ints) -/
theorem r_bytesL {l : List Nat} {v : Value} (hh : A.handled = none) (G : VIn g s.heap) (hv : RList RNat g v l) (hl : ∀ n ∈ l, n < 256) (hlen : l.length ≤ 1000)
    (hQ : ∀ y s', Grow g s g s' → RW g y l → Q y s') : wpAny (model prog w) A (call (.type "bytes") [v]) Q NoE s := by
  obtain ⟨a, vs, n, rfl, ha, hp⟩ := hv
  refine call_bytes_ints (ns := l.map fun n : Nat => (n : Int)) ⟨_, G _ _ ha, rfl, n, rfl⟩ (ints_paired hp) (fun n hn => ?_) (by rw [hp.length]; exact Nat.le_trans hlen (by decide)) hh fun h' t k hk => ?_
  · obtain ⟨m, hm, rfl⟩ := List.mem_map.mp hn
    have := hl m hm; omega
  · rw [byteArr_bw]
    exact hQ _ _ (Grow.ofKeeps G ⟨h', k, rfl, hk⟩) ⟨t, rfl⟩
theorem r_isbytes {x : Array UInt8} {t : Tok} (h : Q (.bool true) s) : wpAny (model prog w) A (call (.builtin "isinstance") [.bytes x t, .type "bytes"]) Q NoE s :=
  call_isinstance_yes (Tx := "bytes") (typeIs_bytes _ _ _) PySem.F.isi_meta_bytes (by rw [isSubtype_type]; kernel_rfl) h
end
end Mine
end

section
open PySem PySem.W PyProof.Rows PySem.Calls
set_option maxRecDepth 100000
namespace Mine
set_option pp.deepTerms false
set_option pp.deepTerms.threshold 2

theorem call_gath {prog : Program} {w : World} {A : Around} {s : Shared} {g : View} {v : Value} {piles : List (List (List Nat))} {Q : Value → Shared → Prop}
    (W : Wd w.params s.heap) (R : Room A 2) (G : VIn g s.heap) (hv : RList (RList RS) g v piles) (hsz : piles.flatten.length ≤ 1000)
    (hQ : ∀ v' g' s', Grow g s g' s' → RList (RDict prog w) g' v' (tabs (piles.flatten.map S)) → Q v' s') :
    wpAny (model prog w) A (call (.ref 93) [v]) Q NoE s := by
  refine call_fn (binds := [(Str.ofString "piles", v)]) R W (W.K 93 _ rfl) rfl ⟨92, _, _, _, rfl, W.K 92 _ rfl, rfl, rfl⟩ rfl rfl rfl rfl G (by decide) fun L s₁ hL R1 W1 X => ?_
  have hh := R1.handled
  refine wpAny_execs_cons (wpAny_Assign_Name (wpAny_List (spliced_more (wpAny_Dict_empty (spliced_none ⟨by show 1 ≤ sizeLine; decide, ?_⟩)))))
  have hnew := Heap.DictOf.new (knd := PySem.strKind prog w) s₁.heap
  have hds : (s₁.heap.objs.size == sysModules) = false := beq_eq_false_iff_ne.mpr (Nat.ne_of_gt (modules_low W1.nolimit))
  have Gp := (Grow.refl X.grow.inn).push { cls := .type "dict", data := .dict #[] } s₁.toks
  obtain ⟨oD, hoD, hdD⟩ := Heap.dictOf_iff.mp hnew
  have Gd := Gp.add hoD none_of_size
  have h0 := Gd.none₀ none_of_size
  have hf := (X.step Gd).grow.none₀ none_of_size
  have hR0 : RDict prog w (addv g s₁.heap.objs.size oD) (.ref s₁.heap.objs.size) [] := ⟨_, oD, [], rfl, addv_self _ _ _, hdD, .nil, hds⟩
  have X0 := (X.step (Gd.push (listObj [.ref s₁.heap.objs.size] 0) s₁.toks)).addOwn (D := (s₁.heap.push { cls := .type "dict", data := .dict #[] }).objs.size) ⟨_, Heap.get?_push_size _ rfl⟩ h0.2 hf.1
  have hTL : (s₁.heap.push { cls := .type "dict", data := .dict #[] }).objs.size ≠ L := by
    obtain ⟨o, e⟩ := (X.step Gd).live L X.locIn
    exact Nat.ne_of_gt (Heap.lt_size e)
  have hO : OwnList (RDict prog w) (s₁.heap.push { cls := .type "dict", data := .dict #[] }).objs.size (addv g s₁.heap.objs.size oD) ((s₁.heap.push { cls := .type "dict", data := .dict #[] }).push (listObj [.ref s₁.heap.objs.size] 0)) (tabs []) :=
    ⟨_, 0, Heap.get?_push_size _ rfl, .cons hR0 .nil⟩
  have hle0 := Gd.le
  show wpAny _ _ (storeName _ _ (Value.ref (s₁.heap.push { cls := .type "dict", data := .dict #[] }).objs.size)) _ _ _
  generalize (s₁.heap.push { cls := .type "dict", data := .dict #[] }).objs.size = T at X0 hTL hO
  generalize addv g s₁.heap.objs.size oD = g1 at X0 hO hle0
  refine st_local X0 fun s₂ X₂ hkb => ?_
  have hO2 : OwnList (RDict prog w) T g1 s₂.heap (tabs []) := hO.keep fun o e => hkb T o (fun q => hTL (List.mem_singleton.mp q)) e
  refine wpAny_execs_cons ?_
  refine exec_for X₂ (ld_local X₂ rfl (src_list hh (Grow.refl X₂.grow.inn) (mono_RList (mono_RList mono_RS) _ _ _ _ hle0 hv) fun it s₃ G3 S3 => ?_))
  refine ⟨g1, piles.length, _, G3, S3 _, fun i m cm g' h => m (Str.ofString "tables") = some (.ref T) ∧ OwnList (RDict prog w) T g' h (tabs ((piles.take i).flatten.map S)), ?_, ?_, ?_, ?_⟩
  · exact ⟨rfl, hO2.keep fun o e => keeps_get G3.keeps e⟩
  · exact fun i m cm g' h h' a k => ⟨a.1, a.2.keep fun o e => k T List.mem_cons_self o e⟩
  · rintro i u m cm g' s₅ hi X₅ ⟨hm, hO5⟩ ⟨rows, hri, hru⟩ hle
    refine wpAny_assign_Name (st_local X₅ fun s₆ X₆ k6 => ?_)
    have hO6 := hO5.keep fun o e => k6 T o (fun q => hTL (List.mem_singleton.mp q)) e
    refine wpAny_execs_cons ?_
    refine exec_for X₆ (ld_local X₆ rfl (src_list hh (Grow.refl X₆.grow.inn) (mono_RList mono_RS _ _ _ _ hle hru) fun it s₇ G7 S7 => ?_))
    refine ⟨g', rows.length, _, G7, S7 _, fun j m cm g' h => m (Str.ofString "tables") = some (.ref T) ∧ OwnList (RDict prog w) T g' h (tabs (((piles.take i).flatten ++ rows.take j).map S)), ?_, ?_, ?_, ?_⟩
    · refine ⟨hm, ?_⟩
      rw [List.take_zero, List.append_nil]
      exact hO6.keep fun o e => keeps_get G7.keeps e
    · exact fun i m cm g' h h' a k => ⟨a.1, a.2.keep fun o e => k T List.mem_cons_self o e⟩
    · rintro j v8 m8 cm8 g8 s₈ hj X₈ ⟨hm8, hO8⟩ ⟨r, hrj, tr, rfl⟩ hle8
      refine wpAny_assign_Name (st_local X₈ fun s₉ X₉ k9 => ?_)
      have hO9 := hO8.keep fun o e => k9 T o (fun q => hTL (List.mem_singleton.mp q)) e
      generalize hrs : ((piles.take i).flatten ++ rows.take j).map S = rs at hO9
      have hlen : rs.length ≤ 1000 := by
        rw [← hrs, List.length_map, List.length_append, List.length_take]
        have h1 : (piles.take i).flatten.length + rows.length ≤ piles.flatten.length := by
          have e : ((piles.take (i + 1)) ++ piles.drop (i + 1)).flatten.length = piles.flatten.length := by rw [List.take_append_drop]
          rw [take_succ' hri, List.flatten_append, List.flatten_append, List.flatten_cons, List.flatten_nil, List.append_nil, List.length_append, List.length_append] at e
          omega
        omega
      obtain ⟨vsT, nT, hoT, hpT⟩ := id hO9
      have hTT : s₉.TypeIs (.ref T) "list" := ⟨_, hoT, rfl⟩
      refine wpAny_execs_cons (wpAny_Expr (MethodCall_ (ld_local X₉ hm8 ?_)))
      refine getMethod_builtin hTT F.plainAttrs_list F.slot_list_append F.type_list_append (fun a e => by cases e; exact ⟨_, hoT, rfl⟩) ?_
      refine callWith_method1 (spliced_more (Call_Name rfl (ld_glob (W.keeps X₉.grow.keeps) (gl_add_callers _) (callWith_fn (P := w.params) ⟨_, _, _, _, rfl⟩ (spliced_more (Subscript_ (ld_local X₉ hm8 (minus1 fun t n => ?_))))))))
      obtain ⟨vD, hvD, hRD⟩ := Paired.last hpT (tabs_last rs)
      have X10 := X₉.toks n
      refine item_plainLast hoT hvD (spliced_more ?_)
      have Gq := (Grow.refl X10.grow.inn).push { cls := .type "dict", data := .dict #[] } n
      have X11 := X10.step Gq
      refine wpAny_Dict_pairs (knd := PySem.strKind prog w) (zip_pairTrees _ _ _ _ rfl rfl) (by simp [pairTrees]) (by simp [pairTrees]) (pairTrees_cons_walk (ld_local X11 rfl (wpAny_Constant_int (pairTrees_nil_walk ?_))))
      refine display_done_str rfl (by simp [strPairs]) (Heap.DictOf.new _) fun h' hd' hs' => ?_
      obtain ⟨oE, hoE, hdE⟩ := Heap.dictOf_iff.mp hd'
      have G12 := (Grow.ofKeeps X10.grow.inn (keeps_but (n + 1 + 1) Gq.keeps hs' none_of_size)).add hoE none_of_size
      have X12 := X10.step G12
      have hRE : RDict prog w (addv g8 s₉.heap.objs.size oE) (.ref s₉.heap.objs.size) [(S r, 1)] := ⟨_, oE, _, rfl, addv_self _ _ _, hdE, .cons ⟨rfl, _, rfl⟩ .nil, beq_eq_false_iff_ne.mpr (Nat.ne_of_gt (modules_low (W.keeps X₉.grow.keeps).nolimit))⟩
      refine spliced_none ⟨W.keeps X12.grow.keeps, ?_⟩
      refine call_add (W.keeps X12.grow.keeps) R1 X12.grow.inn (mono_RDict _ _ _ _ G12.le hRD) hRE (Nat.le_trans (tabOf_length rs) (by omega)) fun vN gN sN GN hRN => spliced_none ?_
      have X13 := X12.step GN
      have hO13 : OwnList (RDict prog w) T gN sN.heap (tabs rs) := (hO9.mono mono_RDict (G12.le.trans GN.le)).keep fun o e => keeps_get GN.keeps (keeps_get G12.keeps e)
      refine hO13.append hRN (by have : (tabs rs).length = rs.length + 1 := by simp [tabs]
                                 omega) fun h'' hs'' hO14 => ?_
      refine wpAny_execs_nil ⟨rfl, _, _, gN, X13.mut' sN.toks hs'' List.mem_cons_self hTL (fun n c e => absurd (show (none : Option Addr) = some c from e) (by simp)) ?_, hm8, ?_⟩
      · obtain ⟨_, _, ho, _⟩ := hO14; exact ⟨_, ho⟩
      · rw [take_succ' hrj, ← List.append_assoc, List.map_append, hrs]
        show OwnList _ T gN h'' (tabs (rs ++ [S r]))
        rw [tabs_snoc, tabOf_snoc]
        exact hO14
    · rintro m8 cm8 g8 s₈ X₈ ⟨hm8, hO8⟩ hle8
      refine wpAny_execs_nil ⟨rfl, _, _, _, X₈, hm8, ?_⟩
      rw [List.take_length] at hO8
      rw [take_succ' hri, List.flatten_append, List.flatten_cons, List.flatten_nil, List.append_nil]
      exact hO8
  · rintro m₆ cm₆ g₆ s₆ X₆ ⟨hm, hO6⟩ hle6
    refine wpAny_execs_cons (wpAny_Return_some (ld_local X₆ hm ?_))
    rw [List.take_length] at hO6
    obtain ⟨o, ho, hr⟩ := hO6.rlist mono_RDict (X₆.out T List.mem_cons_self)
    exact hQ _ _ _ (X₆.grow.add ho (X₆.fresh T List.mem_cons_self)) hr
end Mine
end

section
open PySem PySem.W PyProof.Rows PySem.Calls
set_option maxRecDepth 100000
namespace Mine
set_option pp.deepTerms false
set_option pp.deepTerms.threshold 3

/-! ## sorted perms are one -/
theorem S_inj {x y : List Nat} (h : S x = S y) : x = y := by
  have := congrArg (fun z : Str => z.cps.toList) h
  simpa [S] using this
theorem rising_pair : ∀ (l : List (List Nat)) (p : List Nat), risingS (S p) (l.map S) = true → (p :: l).Pairwise (fun a b => ¬ b < a)
  | [], p, _ => by simp
  | x :: l, p, h => by
    simp only [List.map_cons, risingS, Bool.and_eq_true, Bool.not_eq_true'] at h
    have ih := rising_pair l x h.2
    have hpx : ¬ x < p := by
      have := h.1
      rw [ltCps_eq] at this
      simpa using this
    rw [List.pairwise_cons]
    refine ⟨fun b hb => ?_, ih⟩
    rcases List.mem_cons.mp hb with rfl | hb
    · exact hpx
    · have hxb := (List.pairwise_cons.mp ih).1 b hb
      intro hbp
      have h1 : p ≤ x := hpx
      have h2 : x ≤ b := hxb
      exact absurd hbp (fun q => (List.le_trans h1 h2) q)
theorem sorted_pair {l : List (List Nat)} (h : sortedS (l.map S) = true) : l.Pairwise (fun a b => ¬ b < a) := by
  cases l with
  | nil => exact .nil
  | cons x l => exact rising_pair l x h
theorem sorted_unique {l m : List (List Nat)} (hp : l.Perm m) (hl : sortedS (l.map S) = true) (hm : sortedS (m.map S) = true) : l = m := by
  refine hp.eq_of_pairwise (le := fun a b : List Nat => ¬ b < a) (fun a b _ _ h1 h2 => ?_) (sorted_pair hl) (sorted_pair hm)
  exact List.le_antisymm h1 h2

section
variable {prog : Program} {w : World} {A : Around} {s : Shared} {g : View} {Q : Value → Shared → Prop} {α : Type} {R : Rp α}

theorem paired_srt {g : View} : ∀ {vs : List Value} {xss : List (List (List Nat))}, Paired (RSrt g) vs xss → ∃ yss, Paired (RList RS g) vs yss ∧ Paired (fun y x => y.Perm x ∧ sortedS (y.map S) = true) yss xss
  | _, _, .nil => ⟨[], .nil, .nil⟩
  | _, _, .cons ⟨r, h1, h2, h3⟩ t => by
    obtain ⟨yss, a, b⟩ := paired_srt t
    exact ⟨r :: yss, .cons h3 a, .cons ⟨h1, h2⟩ b⟩
theorem rlist_srt {g : View} {v : Value} {xss : List (List (List Nat))} (h : RList RSrt g v xss) : ∃ yss, RList (RList RS) g v yss ∧ Paired (fun y x => y.Perm x ∧ sortedS (y.map S) = true) yss xss := by
  obtain ⟨a, vs, n, rfl, ha, hp⟩ := h
  obtain ⟨yss, h1, h2⟩ := paired_srt hp
  exact ⟨yss, ⟨a, vs, n, rfl, ha, h1⟩, h2⟩
theorem srt_same : ∀ {yss zss xss uss : List (List (List Nat))}, Paired (fun y x => y.Perm x ∧ sortedS (y.map S) = true) yss xss → Paired (fun y x => y.Perm x ∧ sortedS (y.map S) = true) zss uss → Paired List.Perm xss uss → yss = zss
  | _, _, _, _, .nil, .nil, .nil => rfl
  | _, _, _, _, .cons a r, .cons b t, .cons p q => by
    rw [srt_same r t q, sorted_unique ((a.1.trans p).trans b.1.symm) a.2 b.2]

/-! ## data of rows -/
def dRow (x : List Nat) : PyData := .str (S x)
def dRows (xs : List (List Nat)) : PyData := .list (xs.map dRow)
def dPiles (xss : List (List (List Nat))) : PyData := .list (xss.map dRows)
theorem readsAll_rows {g : View} {h : Heap} : ∀ {vs : List Value} {xs : List (List Nat)}, Paired (RS g) vs xs → ReadsAll h vs (xs.map dRow) []
  | _, _, .nil => .nil
  | _, _, .cons ⟨t, e⟩ r => by subst e; exact .cons (.str _ t) (readsAll_rows r)
theorem reads_rows {g : View} {h : Heap} (G : VIn g h) {v : Value} {xs : List (List Nat)} (hv : RList RS g v xs) : ∃ as, Reads h v (dRows xs) as := by
  obtain ⟨a, vs, n, rfl, ha, hp⟩ := hv
  exact ⟨_, .list (G _ _ ha) rfl rfl (by simpa using readsAll_rows hp)⟩
theorem readsAll_piles {g : View} {h : Heap} (G : VIn g h) : ∀ {vs : List Value} {xss : List (List (List Nat))}, Paired (RList RS g) vs xss → ∃ as, ReadsAll h vs (xss.map dRows) as
  | _, _, .nil => ⟨_, .nil⟩
  | _, _, .cons a r => by
    obtain ⟨as, h1⟩ := reads_rows G a
    obtain ⟨bs, h2⟩ := readsAll_piles G r
    exact ⟨_, .cons h1 h2⟩
theorem reads_piles {g : View} {h : Heap} (G : VIn g h) {v : Value} {xss : List (List (List Nat))} (hv : RList (RList RS) g v xss) : ∃ as, Reads h v (dPiles xss) as := by
  obtain ⟨a, vs, n, rfl, ha, hp⟩ := hv
  obtain ⟨as, h1⟩ := readsAll_piles G hp
  exact ⟨_, .list (G _ _ ha) rfl rfl (by simpa using h1)⟩
theorem lay_row (x : List Nat) (h : ∀ c ∈ x, c < 0x110000) : (dRow x).canLay0 = true ∧ (dRow x).depth = 0 := by
  refine ⟨?_, by simp [dRow, PyData.depth]⟩
  simp only [dRow, PyData.canLay0, PyData.strOk, S]
  simpa using h
theorem lay_rows : ∀ (xs : List (List Nat)), (∀ x ∈ xs, ∀ c ∈ x, c < 0x110000) → PyData.canLayAll0 (xs.map dRow) = true ∧ PyData.depthAll (xs.map dRow) = 0
  | [], _ => by simp [PyData.canLayAll0, PyData.depthAll]
  | x :: xs, h => by
    have h1 := lay_row x (h x List.mem_cons_self)
    have h2 := lay_rows xs fun y hy => h y (List.mem_cons_of_mem _ hy)
    simp [PyData.canLayAll0, PyData.depthAll, h1.1, h1.2, h2.1, h2.2]
theorem lay_piles : ∀ (xss : List (List (List Nat))), (∀ xs ∈ xss, ∀ x ∈ xs, ∀ c ∈ x, c < 0x110000) → PyData.canLayAll0 (xss.map dRows) = true ∧ PyData.depthAll (xss.map dRows) ≤ 1
  | [], _ => by simp [PyData.canLayAll0, PyData.depthAll]
  | xs :: xss, h => by
    have h1 := lay_rows xs (h xs List.mem_cons_self)
    have h2 := lay_piles xss fun y hy => h y (List.mem_cons_of_mem _ hy)
    simp only [List.map_cons, PyData.canLayAll0, PyData.depthAll, dRows, PyData.canLay0, PyData.depth, h1.1, h1.2, h2.1, Bool.and_self, true_and] at *
    omega
theorem shaped_piles (xss : List (List (List Nat))) (h : ∀ xs ∈ xss, ∀ x ∈ xs, ∀ c ∈ x, c < 0x110000) : SeqAt.shaped (dPiles xss) = true := by
  have h1 := lay_piles xss h
  have h2 := h1.2
  simp only [SeqAt.shaped, dPiles, PyData.canLay0, PyData.depth, h1.1, Bool.true_and, decide_eq_true_eq]
  omega
theorem eqv_rows : ∀ xs : List (List Nat), PyData.eqvAll (xs.map dRow) (xs.map dRow) = true
  | [] => by simp [PyData.eqvAll]
  | x :: xs => by simp [PyData.eqvAll, dRow, PyData.eqv, eqv_rows xs]
theorem eqv_piles : ∀ xss : List (List (List Nat)), PyData.eqvAll (xss.map dRows) (xss.map dRows) = true
  | [] => by simp [PyData.eqvAll]
  | xs :: xss => by simp [PyData.eqvAll, dRows, PyData.eqv, eqv_rows xs, eqv_piles xss]

/-- the piles, sorted, are what is told -/
theorem r_ne_piles {u v : Value} {xss uss : List (List (List Nat))} (G : VIn g s.heap) (hu : RList RSrt g u xss) (hv : RList RSrt g v uss) (hp : Paired List.Perm xss uss) (hc : ∀ xs ∈ uss, ∀ x ∈ xs, ∀ c ∈ x, c < 0x110000) (hr : A.units + 64 < cLine) (h : Q (.bool false) s) :
    wpAny (model prog w) A (compareOp .NotEq u v) Q NoE s := by
  obtain ⟨yss, y1, y2⟩ := rlist_srt hu
  obtain ⟨zss, z1, z2⟩ := rlist_srt hv
  have e := srt_same y2 z2 hp
  subst e
  obtain ⟨as, ra⟩ := reads_piles G y1
  obtain ⟨bs, rb⟩ := reads_piles G z1
  have hs : SeqAt.shaped (dPiles yss) = true := by
    refine shaped_piles yss ?_
    intro xs hxs x hx c hcx
    obtain ⟨i, hi⟩ := List.mem_iff_getElem?.mp hxs
    obtain ⟨us, hus, hpu⟩ := Mine.Paired.getL z2 i hi
    exact hc us (List.mem_of_getElem? hus) x (hpu.1.mem_iff.mp hx) c hcx
  refine ne_dataH ra rb hs hs hr ?_
  rw [show PyData.eqv (dPiles yss) (dPiles yss) = true by simp only [dPiles, PyData.eqv]; exact eqv_piles yss]
  exact h

/-! ## lists of lists of ints -/
def dInts (xs : List Int) : PyData := .list (xs.map .int)
def dIntss (xss : List (List Int)) : PyData := .list (xss.map dInts)
theorem readsAll_ints {g : View} {h : Heap} : ∀ {vs : List Value} {xs : List Int}, Paired (RInt g) vs xs → ReadsAll h vs (xs.map .int) []
  | _, _, .nil => .nil
  | _, _, .cons ⟨t, e⟩ r => by subst e; exact .cons (.int _ t) (readsAll_ints r)
theorem reads_ints {g : View} {h : Heap} (G : VIn g h) {v : Value} {xs : List Int} (hv : RList RInt g v xs) : ∃ as, Reads h v (dInts xs) as := by
  obtain ⟨a, vs, n, rfl, ha, hp⟩ := hv
  exact ⟨_, .list (G _ _ ha) rfl rfl (by simpa using readsAll_ints hp)⟩
theorem readsAll_intss {g : View} {h : Heap} (G : VIn g h) : ∀ {vs : List Value} {xss : List (List Int)}, Paired (RList RInt g) vs xss → ∃ as, ReadsAll h vs (xss.map dInts) as
  | _, _, .nil => ⟨_, .nil⟩
  | _, _, .cons a r => by
    obtain ⟨as, h1⟩ := reads_ints G a
    obtain ⟨bs, h2⟩ := readsAll_intss G r
    exact ⟨_, .cons h1 h2⟩
theorem reads_intss {g : View} {h : Heap} (G : VIn g h) {v : Value} {xss : List (List Int)} (hv : RList (RList RInt) g v xss) : ∃ as, Reads h v (dIntss xss) as := by
  obtain ⟨a, vs, n, rfl, ha, hp⟩ := hv
  obtain ⟨as, h1⟩ := readsAll_intss G hp
  exact ⟨_, .list (G _ _ ha) rfl rfl (by simpa using h1)⟩
theorem r_eq_intss {u v : Value} {xss : List (List Int)} (G : VIn g s.heap) (hu : RList (RList RInt) g u xss) (hv : RList (RList RInt) g v xss) (hs : SeqAt.shaped (dIntss xss) = true) (he : PyData.eqv (dIntss xss) (dIntss xss) = true) (hr : A.units + 64 < cLine) (h : Q (.bool true) s) :
    wpAny (model prog w) A (compareOp .Eq u v) Q NoE s := by
  obtain ⟨as, ra⟩ := reads_intss G hu
  obtain ⟨bs, rb⟩ := reads_intss G hv
  refine eq_dataH ra rb hs hs hr ?_
  rw [he]; exact h

/-- list(range(n)) -/
theorem r_listRange {n : Nat} {v : Value} (hh : A.handled = none) (G : VIn g s.heap) (hv : RNat g v n) (hn : n ≤ 1000)
    (hQ : ∀ y g' s', Grow g s g' s' → RList RInt g' y ((List.range n).map fun i : Nat => (i : Int)) → Q y s') :
    wpAny (model prog w) A (call (.type "range") [v]) (fun r s₁ => wpAny (model prog w) A (call (.type "list") [r]) Q NoE s₁) NoE s := by
  obtain ⟨t, rfl⟩ := hv
  refine call_range_1 ?_
  have hsm : Builtin.Range.small 0 (n : Int) 1 = true := small_one (by decide) (by decide) (by omega) (by omega)
  have hsz : Builtin.Range.rangeSize 0 (n : Int) 1 = (n : Int) := by rw [rangeSize_one]; split <;> omega
  have Gp := (Grow.refl G).push (s := s) { cls := .type "range", data := .fields #[.int 0 s.toks, .int n t, .int 1 (s.toks + 1)] } (s.toks + 1 + 1)
  refine call_list_range (n := n) hh (Heap.get?_push_size _ rfl) hsm hsz (by omega) fun h' tk acc c hk hD hI => ?_
  have Gk := Gp.trans (Grow.ofKeeps Gp.inn ⟨h', tk, rfl, hk⟩)
  have h1 := Gp.none₀ none_of_size
  refine hQ _ _ _ (Gk.add hD h1.1) ⟨_, acc.toList, c, rfl, ?_, ?_⟩
  · rw [addv_self, listObj, Array.toArray_toList]
  · refine paired_idx _ _ (by simp [hI.1]) fun i v x hv hx => ?_
    rw [Array.getElem?_toList] at hv
    obtain ⟨t', rfl⟩ := hI.2 i v hv
    rw [List.getElem?_map] at hx
    have hlt : i < n := by
      cases e : (List.range n)[i]? with
      | none => rw [e] at hx; cases hx
      | some j =>
        have := List.getElem?_eq_some_iff.mp e
        obtain ⟨q, _⟩ := this
        simpa using q
    rw [List.getElem?_range hlt] at hx
    cases hx
    exact ⟨t', by simp⟩

/-- len of a list -/
theorem r_len {xs : List α} {v : Value} (G : VIn g s.heap) (hv : RList R g v xs) (hlen : xs.length ≤ 1000000) (hQ : ∀ y k, RNat g y xs.length → Q y { s with toks := k }) : wpAny (model prog w) A (call (.builtin "len") [v]) Q NoE s := by
  obtain ⟨a, vs, n, rfl, ha, hp⟩ := hv
  have h1 : vs.toArray.size = xs.length := by rw [List.size_toArray, hp.length]
  refine PyProof.Rows.len_list (items := vs.toArray) ⟨_, G _ _ ha, rfl, n, rfl⟩ (by omega) ?_
  rw [h1]
  exact hQ _ _ ⟨_, rfl⟩
end
end Mine
end

section
open PySem PySem.W PyProof.Rows PySem.Calls
set_option maxRecDepth 100000
namespace Mine
set_option pp.deepTerms false
set_option pp.deepTerms.threshold 3

/-! ## tables of the same rows, in whatever order -/
def bmp (k : Str) (n : Int) (kv : Str × Int) : Str × Int := if kv.1 = k then (kv.1, kv.2 + n) else kv
def hasK (d : List (Str × Int)) (k : Str) : Bool := d.any (fun kv => kv.1 = k)
theorem bumpD_eq (d : List (Str × Int)) (k : Str) (n : Int) : bumpD d k n = if hasK d k = true then d.map (bmp k n) else d ++ [(k, n)] := rfl
theorem bmp_fst (k : Str) (n : Int) (kv : Str × Int) : (bmp k n kv).1 = kv.1 := by unfold bmp; split <;> rfl
theorem bmp_comm (a b : Str) (n m : Int) (kv : Str × Int) : bmp a n (bmp b m kv) = bmp b m (bmp a n kv) := by
  obtain ⟨x, v⟩ := kv
  by_cases h1 : x = a
  · subst h1
    by_cases h2 : x = b
    · subst h2; simp only [bmp, if_true]; congr 1; omega
    · simp [bmp, h2]
  · by_cases h2 : x = b
    · subst h2; simp [bmp, h1]
    · simp [bmp, h1, h2]
theorem hasK_map (d : List (Str × Int)) (a k : Str) (n : Int) : hasK (d.map (bmp a n)) k = hasK d k := by
  unfold hasK
  rw [List.any_map]
  congr 1; funext kv
  show decide ((bmp a n kv).1 = k) = _
  rw [bmp_fst]
theorem hasK_app (d : List (Str × Int)) (a k : Str) (n : Int) : hasK (d ++ [(a, n)]) k = (hasK d k || decide (a = k)) := by
  simp [hasK]
theorem bumpD_perm {d d' : List (Str × Int)} (h : d.Perm d') (k : Str) (n : Int) : (bumpD d k n).Perm (bumpD d' k n) := by
  have e : hasK d k = hasK d' k := by unfold hasK; exact h.any_eq
  rw [bumpD_eq, bumpD_eq, e]
  split
  · exact h.map _
  · exact h.append_right _
theorem bumpD_swap (d : List (Str × Int)) (a b : Str) (n : Int) : (bumpD (bumpD d a n) b n).Perm (bumpD (bumpD d b n) a n) := by
  by_cases hab : a = b
  · subst hab; exact .refl _
  have hba : ¬ b = a := fun q => hab q.symm
  have fa : bmp a n (b, n) = (b, n) := by simp [bmp, hba]
  have fb : bmp b n (a, n) = (a, n) := by simp [bmp, hab]
  cases ha : hasK d a <;> cases hb : hasK d b
  · simp only [bumpD_eq, ha, hb, hasK_app, hab, hba, Bool.false_eq_true, if_false, decide_false, Bool.or_self, List.append_assoc]
    exact (List.Perm.swap _ _ _).append_left d
  · simp only [bumpD_eq, ha, hb, hasK_app, hasK_map, Bool.false_eq_true, if_false, if_true, Bool.true_or, List.map_append, List.map_cons, List.map_nil, fb]
    exact .refl _
  · simp only [bumpD_eq, ha, hb, hasK_app, hasK_map, Bool.false_eq_true, if_false, if_true, Bool.true_or, List.map_append, List.map_cons, List.map_nil, fa]
    exact .refl _
  · simp only [bumpD_eq, ha, hb, hasK_map, if_true, List.map_map]
    rw [show (bmp b n ∘ bmp a n) = (bmp a n ∘ bmp b n) from funext fun kv => bmp_comm b a n n kv]
theorem fold_perm_d : ∀ (rs : List Str) {d d' : List (Str × Int)}, d.Perm d' → (rs.foldl (fun d r => bumpD d r 1) d).Perm (rs.foldl (fun d r => bumpD d r 1) d')
  | [], _, _, h => h
  | r :: rs, _, _, h => fold_perm_d rs (bumpD_perm h r 1)
theorem fold_perm {rs rs' : List Str} (h : rs.Perm rs') : ∀ {d d' : List (Str × Int)}, d.Perm d' → (rs.foldl (fun d r => bumpD d r 1) d).Perm (rs'.foldl (fun d r => bumpD d r 1) d') := by
  induction h with
  | nil => exact fun h => h
  | cons x _ ih => exact fun h => ih (bumpD_perm h x 1)
  | swap x y l => exact fun {d d'} h => fold_perm_d l ((bumpD_swap d y x 1).trans (bumpD_perm (bumpD_perm h x 1) y 1))
  | trans _ _ ih1 ih2 => exact fun h => (ih1 h).trans (ih2 (.refl _))
theorem tabOf_perm {rs rs' : List Str} (h : rs.Perm rs') : (tabOf rs).Perm (tabOf rs') := fold_perm h (.refl _)

/-- each table counts its rows -/
theorem sum_bump (d : List (Str × Int)) (hnd : (d.map (·.1)).Nodup) (k : Str) (n : Int) : sumD (bumpD d k n) = sumD d + n := by
  rw [bumpD_eq]
  have key : ∀ d : List (Str × Int), (d.map (·.1)).Nodup → sumD (d.map (bmp k n)) = sumD d + (if hasK d k = true then n else 0) := by
    intro d
    induction d with
    | nil => intro _; simp [sumD, hasK]
    | cons x d ih =>
      intro h
      rw [List.map_cons, List.nodup_cons] at h
      have ih := ih h.2
      obtain ⟨y, v⟩ := x
      simp only [List.map_cons, sumD, List.sum_cons] at *
      by_cases hy : y = k
      · have hno : hasK d k = false := by
          unfold hasK
          rw [List.any_eq_false]
          intro q hq
          have : q.1 ≠ k := fun e => h.1 (by rw [hy, ← e]; exact List.mem_map_of_mem hq)
          simpa using this
        rw [hno] at ih
        simp only [Bool.false_eq_true, if_false] at ih
        simp [hasK, bmp, hy] at ih ⊢
        rw [ih]; omega
      · have e1 : hasK ((y, v) :: d) k = hasK d k := by simp [hasK, hy]
        rw [e1, ih]
        simp [bmp, hy]; omega
  split
  · rename_i h; rw [key d hnd, if_pos h]
  · simp [sumD]
theorem bump_nodup (d : List (Str × Int)) (hnd : (d.map (·.1)).Nodup) (k : Str) (n : Int) : ((bumpD d k n).map (·.1)).Nodup := by
  rw [bumpD_eq]
  split
  · rw [List.map_map, show ((·.1) ∘ bmp k n : Str × Int → Str) = (·.1) from funext fun kv => bmp_fst k n kv]; exact hnd
  · rename_i h
    rw [List.map_append, List.nodup_append]
    refine ⟨hnd, by simp, fun a ha b hb e => h ?_⟩
    simp at hb
    obtain ⟨q, hq, rfl⟩ := List.mem_map.mp ha
    unfold hasK
    rw [List.any_eq_true]
    exact ⟨q, hq, by simp [e, hb]⟩
theorem tab_facts : ∀ rs : List Str, ((tabOf rs).map (·.1)).Nodup ∧ sumD (tabOf rs) = rs.length := by
  have key : ∀ (rs : List Str) (d : List (Str × Int)), (d.map (·.1)).Nodup → ((rs.foldl (fun d r => bumpD d r 1) d).map (·.1)).Nodup ∧ sumD (rs.foldl (fun d r => bumpD d r 1) d) = sumD d + rs.length := by
    intro rs
    induction rs with
    | nil => intro d h; exact ⟨h, by simp⟩
    | cons r rs ih =>
      intro d h
      have := ih (bumpD d r 1) (bump_nodup d h r 1)
      refine ⟨this.1, ?_⟩
      rw [List.foldl_cons, this.2, sum_bump d h r 1, List.length_cons]; omega
  intro rs
  have := key rs [] (by simp)
  exact ⟨this.1, by rw [tabOf, this.2]; simp [sumD]⟩
theorem counts_eq (rs : List Str) : (tabs rs).map sumD = (List.range (rs.length + 1)).map fun i : Nat => (i : Int) := by
  unfold tabs
  rw [List.map_map]
  refine List.map_congr_left fun i hi => ?_
  rw [List.mem_range] at hi
  show sumD (tabOf (rs.take i)) = _
  rw [(tab_facts _).2, List.length_take]
  congr 1; omega

section
variable {prog : Program} {w : World} {A : Around} {s : Shared} {g : View} {Q : Value → Shared → Prop}

theorem find_kv {kb : List (Str × Value)} {kws : List (Str × Int)} (hp : Paired KvIs kb kws) (hnd : (kws.map (·.1)).Nodup) {k : Str} {n : Int} (hm : (k, n) ∈ kws) : ∃ t, valueAt kb k = some (.int n t) := by
  induction hp with
  | nil => cases hm
  | @cons a b l m x hp ih =>
    rw [List.map_cons, List.nodup_cons] at hnd
    rcases List.mem_cons.mp hm with rfl | hm
    · obtain ⟨t, h2⟩ := x.2
      refine ⟨t, ?_⟩
      simp only [valueAt, List.find?_cons, x.1, decide_true, Option.map_some, h2]
    · have hb : ¬ b.1 = k := fun q => hnd.1 (by rw [q]; exact List.mem_map_of_mem (f := (·.1)) hm)
      obtain ⟨t, q⟩ := ih hnd.2 hm
      refine ⟨t, ?_⟩
      have ha : ¬ a.1 = k := by rw [x.1]; exact hb
      simpa [valueAt, List.find?_cons, ha] using q
theorem hits_of {kb : List (Str × Value)} {kws : List (Str × Int)} (hb : Paired KvIs kb kws) (hnd : (kws.map (·.1)).Nodup) : ∀ {ka : List (Str × Value)} {kvs : List (Str × Int)}, Paired KvIs ka kvs → (∀ p ∈ kvs, p ∈ kws) → KeqHits A s kb ka true
  | _, _, .nil, _ => .nil
  | _, _, .cons (a := a) (b := b) x r, h => by
    obtain ⟨k, v⟩ := a
    obtain ⟨k', n⟩ := b
    obtain ⟨h1, t, h2⟩ := x
    simp only at h1 h2
    subst h1 h2
    obtain ⟨t', ht⟩ := find_kv hb hnd (h _ List.mem_cons_self)
    have e := SeqAt.EqAt.int_int (A := A) (s := s) n t n t'
    rw [beq_self_eq_true] at e
    exact .hit (e := true) (b := true) ht e (hits_of hb hnd r fun p hp => h p (List.mem_cons_of_mem _ hp))

/-- two tables of the same rows -/
theorem r_eq_dict {u v : Value} {kvs kws : List (Str × Int)} (G : VIn g s.heap) (hu : RDict prog w g u kvs) (hv : RDict prog w g v kws) (hp : kvs.Perm kws) (hnd : (kws.map (·.1)).Nodup) (hr : A.units < cLine) (h : Q (.bool true) s) :
    wpAny (model prog w) A (compareOp .Eq u v) Q NoE s := by
  obtain ⟨a, oa, ka, rfl, ha, hoa, pa, la⟩ := hu
  obtain ⟨b, ob, kb, rfl, hb, hob, pb, lb⟩ := hv
  refine keq_eq (knd := PySem.strKind prog w) la lb (Heap.dictOf_iff.mpr ⟨oa, G _ _ ha, hoa⟩) (Heap.dictOf_iff.mpr ⟨ob, G _ _ hb, hob⟩) hr (fun _ => hits_of pb hnd pa fun p hp' => hp.mem_iff.mp hp') ?_
  rw [pa.length, pb.length, hp.length_eq, beq_self_eq_true]
  exact h
end
end Mine
end

section
open PySem PySem.W PyProof.Rows PySem.Calls
set_option maxRecDepth 100000
namespace Mine
set_option pp.deepTerms false
set_option pp.deepTerms.threshold 3

section
variable {prog : Program} {w : World} {A : Around} {s s₁ : Shared} {g g₁ : View} {Q : Value → Shared → Prop} {α : Type} {R : Rp α}

/-- a tuple that stands in the view, its items named one by one -/
theorem src_tuple {xs : List α} {a : Addr} {vs : List Value} {x : Str} {p : Pos} (hh : A.handled = none) (G : Grow g s g₁ s₁) (hl : g₁ a = some (tupObj vs)) (hp : Paired (R g₁) vs xs)
    (hQ : ∀ it s₂, Grow g s g₁ s₂ → Src prog w A (.Name x p) s g₁ it xs.length (fun i u _ => ∃ x, xs[i]? = some x ∧ R g₁ u x) s₂ → Q it s₂) :
    wpAny (model prog w) A (pyIter (.ref a)) Q NoE s₁ := by
  have hL : s₁.heap.IsTuple a vs.toArray := ⟨_, G.inn _ _ hl, rfl, 0, rfl⟩
  have hne : a ≠ s₁.heap.objs.size := Nat.ne_of_lt (Heap.lt_size (G.inn _ _ hl))
  refine wpAny_pyIter_tuple hL ?_
  have h0 := G.none₀ none_of_size
  have W0 := KTurns.ofWalks (target := .Name x p) (Walks.tuple (prog := prog) (w := w) (A := A) hh s₁.heap.objs.size a hne vs.toArray) fun i v s Q E st q => by
    unfold letOwnedTupleGo; exact wpAny_pure q
  rw [show vs.toArray.size = xs.length by rw [List.size_toArray]; exact hp.length] at W0
  refine hQ _ _ (G.push _ _) ⟨s₁.heap.objs.size, [s₁.heap.objs.size, a], [s₁.heap.objs.size], _, _, rfl,
    KTurns.weaken' W0 ?_,
    ⟨⟨_, Heap.get?_push_size _ rfl, rfl, rfl⟩, hL.at fun o e => Heap.get?_push_of_some _ e⟩, ?_, ?_, ?_, ?_, ?_⟩
  · intro i u h e
    exact Mine.Paired.getL hp i (by simpa using e)
  · intro b hb; rw [List.mem_singleton] at hb; subst hb; exact h0
  · intro b hb
    simp only [List.mem_cons, List.not_mem_nil, or_false] at hb
    rcases hb with rfl | rfl
    · exact ⟨_, Heap.get?_push_size _ rfl⟩
    · exact ⟨_, Heap.get?_push_of_some _ (G.inn _ _ hl)⟩
  · intro b hb
    simp only [List.mem_cons, List.not_mem_nil, or_false] at hb
    rcases hb with rfl | rfl
    · exact .inl h0.1
    · exact .inr ⟨_, hl⟩
  · rintro i h ⟨⟨o, ho, _⟩, _⟩ b hb; rw [List.mem_singleton] at hb; subst hb; exact ⟨o, ho⟩
  · intro s' Q E st q
    exact wpAny_pyIter_tupleiter st.1 q

/-- list(r) of a range that was just made -/
theorem r_listOf {n : Nat} {r : Addr} {t u u' : Tok} (hh : A.handled = none) (G : VIn g s.heap) (hr : IsRange s.heap r 0 n 1 t u u') (hn : n ≤ 1000)
    (hQ : ∀ y g' s', Grow g s g' s' → RList RInt g' y ((List.range n).map fun i : Nat => (i : Int)) → Q y s') : wpAny (model prog w) A (call (.type "list") [.ref r]) Q NoE s := by
  have hsm : Builtin.Range.small 0 (n : Int) 1 = true := small_one (by decide) (by decide) (by omega) (by omega)
  have hsz : Builtin.Range.rangeSize 0 (n : Int) 1 = (n : Int) := by rw [rangeSize_one]; split <;> omega
  refine call_list_range (n := n) hh hr hsm hsz (by omega) fun h' tk acc c hk hD hI => ?_
  have Gk := Grow.ofKeeps G ⟨h', tk, rfl, hk⟩
  have h1 := (Grow.refl G).none₀ none_of_size
  refine hQ _ _ _ (Gk.add hD h1.1) ⟨_, acc.toList, c, rfl, ?_, ?_⟩
  · rw [addv_self, listObj, Array.toArray_toList]
  · refine paired_idx _ _ (by simp [hI.1]) fun i v x hv hx => ?_
    rw [Array.getElem?_toList] at hv
    obtain ⟨t', rfl⟩ := hI.2 i v hv
    rw [List.getElem?_map] at hx
    have hlt : i < n := by
      cases e : (List.range n)[i]? with
      | none => rw [e] at hx; cases hx
      | some j =>
        have := List.getElem?_eq_some_iff.mp e
        obtain ⟨q, _⟩ := this
        simpa using q
    rw [List.getElem?_range hlt] at hx
    cases hx
    exact ⟨t', by simp⟩

theorem r_truthy_nil {v : Value} {Q : Bool → Shared → Prop} (G : VIn g s.heap) (hv : RList R g v []) (hQ : ∀ k, Q false { s with toks := k }) : wpAny (model prog w) A (truthy v) Q NoE s := by
  obtain ⟨a, vs, n, rfl, ha, hp⟩ := hv
  cases hp
  exact wpAny_truthy_list (items := #[]) ⟨_, G _ _ ha, rfl, n, rfl⟩ (by decide) (hQ _)

theorem slice_even (a b c d e : Value) : slicePick #[a, b, c, d, e] none none (some 2) = #[a, c, e] := by
  have h : sliceRange (sliceBounds none none (some 2) 5).1 (sliceBounds none none (some 2) 5).2.1 (sliceBounds none none (some 2) 5).2.2 = [0, 2, 4] := by decide
  show ((sliceRange (sliceBounds none none (some 2) 5).1 (sliceBounds none none (some 2) 5).2.1 (sliceBounds none none (some 2) 5).2.2).filterMap ((#[a, b, c, d, e] : Array Value)[·]?)).toArray = _
  rw [h]; rfl
theorem slice_odd (a b c d e : Value) : slicePick #[a, b, c, d, e] (some 1) none (some 2) = #[b, d] := by
  have h : sliceRange (sliceBounds (some 1) none (some 2) 5).1 (sliceBounds (some 1) none (some 2) 5).2.1 (sliceBounds (some 1) none (some 2) 5).2.2 = [1, 3] := by decide
  show ((sliceRange (sliceBounds (some 1) none (some 2) 5).1 (sliceBounds (some 1) none (some 2) 5).2.1 (sliceBounds (some 1) none (some 2) 5).2.2).filterMap ((#[a, b, c, d, e] : Array Value)[·]?)).toArray = _
  rw [h]; rfl
theorem pick_even {vs : List Value} {x0 x1 x2 x3 x4 : α} (hp : Paired (R g) vs [x0, x1, x2, x3, x4]) : Paired (R g) (slicePick vs.toArray none none (some 2)).toList [x0, x2, x4] := by
  cases hp with
  | cons h0 hp => cases hp with
    | cons h1 hp => cases hp with
      | cons h2 hp => cases hp with
        | cons h3 hp => cases hp with
          | cons h4 hp =>
            cases hp
            rw [slice_even]
            exact .cons h0 (.cons h2 (.cons h4 .nil))
theorem pick_odd {vs : List Value} {x0 x1 x2 x3 x4 : α} (hp : Paired (R g) vs [x0, x1, x2, x3, x4]) : Paired (R g) (slicePick vs.toArray (some 1) none (some 2)).toList [x1, x3] := by
  cases hp with
  | cons h0 hp => cases hp with
    | cons h1 hp => cases hp with
      | cons h2 hp => cases hp with
        | cons h3 hp => cases hp with
          | cons h4 hp =>
            cases hp
            rw [slice_odd]
            exact .cons h1 (.cons h3 .nil)
/-- a slice of a list by steps -/
theorem r_lslice2 {xs ys : List α} {v a b c : Value} {lo hi st : Option Int} {value slice : Expr} (MR : Mono R) (G : VIn g s.heap) (hv : RList R g v xs) (hlen : xs.length ≤ 1000) (ha : IsPart a lo) (hb : IsPart b hi) (hc : IsPart c st) (h0 : st ≠ some 0)
    (hpk : ∀ vs, Paired (R g) vs xs → Paired (R g) (slicePick vs.toArray lo hi st).toList ys)
    (hQ : ∀ z g' s', Grow g s g' s' → RList R g' z ys → Q z s')
    (hs : ∀ l, subscripted slice false (.ref l) (.ref s.heap.objs.size) = operate [.ref l, .ref s.heap.objs.size] (getItem (.ref l) (.ref s.heap.objs.size)) := by intro _; with_unfolding_all rfl)
    (ht : ∀ l r, letTemporaryGo value (.ref l) r = pure () := by intro _ _; with_unfolding_all rfl) :
    wpAny (model prog w) A (subscriptTail value slice v (.ref s.heap.objs.size)) Q NoE { s with heap := s.heap.push { cls := .type "slice", data := .fields #[a, b, c] } } := by
  obtain ⟨l, vs, n, rfl, hl, hp⟩ := hv
  have hL : s.heap.IsList l vs.toArray := ⟨_, G _ _ hl, rfl, n, rfl⟩
  have Gs := (Grow.refl G).push (s := s) { cls := .type "slice", data := .fields #[a, b, c] } s.toks
  refine subscriptTail_builtin (Heap.IsList.typeIs (s := { s with heap := s.heap.push { cls := .type "slice", data := .fields #[a, b, c] } }) (hL.push _)) list_getitem_lookup
    (wpAny_getItem_list_slice (hL.push _) (Heap.IsSliceOf.new ..) ha hb hc h0 ?_ (by rw [List.size_toArray, hp.length]; exact Nat.le_trans hlen (by decide))) (hs l) (ht l)
  have Gp := Gs.push { cls := .type "list", data := .seq (slicePick vs.toArray lo hi st) } s.toks
  have h1 := Gs.none₀ none_of_size
  refine hQ _ _ _ (Gp.add (Heap.get?_push_size _ rfl) h1.1) ⟨_, (slicePick vs.toArray lo hi st).toList, 0, rfl, ?_, ?_⟩
  · rw [addv_self]
  · exact Paired.mono' (fun _ _ q => MR _ _ _ _ (addv_le _ h1.2) q) (hpk vs hp)
end
end Mine
end

section
open PySem PySem.W PyProof.Rows
set_option maxRecDepth 100000
namespace Mine

section
variable {prog : Program} {w : World} {A : Around}

/-- a comprehension's block that owns one cell -/
theorem comp_blockK {g g₂ : View} {s s₂ : Shared} {env : Env} {scope : Scope} {cl : List (Str × Addr)} {cm : Str → Option Value} {x₁ : Str} {K : Value → Env → Shared → Prop}
    (G : Grow g s g₂ s₂) (hcf : ∀ n, cellsFrom n scope.names cl = (x₁, n) :: cl) (hpc : ∀ h, pushCells h scope.names = h.push { cls := .type "cell", data := .cell none }) (hx₁ : cl.lookup x₁ = none)
    (hcap : ∀ n c, cl.lookup n = some c → s.heap.IsCell c (cm n)) (hap : ∀ n n' c, cl.lookup n = some c → cl.lookup n' = some c → n = n')
    (h : ∀ D C s₄, InEnv g s (compEnvC scope ((x₁, C + 1) :: cl) C env) [C, C + 1] g₂ s₄.heap (fun _ => none) (fun y => if y = x₁ then none else cm y) g₂ s₄ → s₄.heap.PlainList D #[] → s.heap.get? D = none → g₂ D = none → D ∉ [C, C + 1] → s₂.heap.get? D = none → s₂.heap.get? C = none → s₂.heap.get? (C + 1) = none → Keeps s₂ s₄ →
      K (.ref D) (newEnv scope C env.globals ((x₁, C + 1) :: cl) env.qual none .none (some env) builtinsNs) s₄) :
    wpAny (model prog w) A (newList []) (fun acc s₃ => wpAny (model prog w) A (newFunctionEnv scope env.globals cl [] env.qual none .none (some env)) (fun cenv s₄ => K acc cenv s₄) NoE s₃) NoE s₂ := by
  refine wpAny_newList ?_ (by decide)
  simp only [newFunctionEnv, Option.isSome_some, if_true]
  refine wpAny_bind (wpAny_alloc ?_)
  refine wpAny_bind (wpAny_layCells _ (fun name kind cells => by cases hkc : kind == NameKind.cell <;> simp [hkc]) _ _ _ _ ?_)
  rw [hcf, hpc]
  refine wpAny_bind (wpAny_pure (wpAny_pure ?_))
  have hsz : (s₂.heap.push { cls := .type "list", data := .seq ([] : List Value).toArray }).objs.size = s₂.heap.objs.size + 1 := Heap.size_push ..
  have hsz2 : ((s₂.heap.push { cls := .type "list", data := .seq ([] : List Value).toArray }).push { cls := .type "dict", data := .dict #[] }).objs.size = s₂.heap.objs.size + 1 + 1 := by rw [Heap.size_push, hsz]
  have none2 : ∀ a, s₂.heap.objs.size ≤ a → s₂.heap.get? a = none := fun a ha => by
    cases e : s₂.heap.get? a with
    | none => rfl
    | some o' => exact absurd (Heap.lt_size e) (Nat.not_lt.mpr ha)
  have none1 : ∀ a, s₂.heap.get? a = none → s.heap.get? a = none := fun a ha => by
    cases e : s.heap.get? a with
    | none => rfl
    | some o' => rw [keeps_get G.keeps e] at ha; cases ha
  have g2 : ∀ a, s₂.heap.get? a = none → g₂ a = none := fun a ha => by
    cases e : g₂ a with
    | none => rfl
    | some o' => rw [G.inn _ _ e] at ha; cases ha
  dsimp only
  have hns₁ : (((s₂.heap.push { cls := .type "list", data := .seq ([] : List Value).toArray }).push { cls := .type "dict", data := .dict #[] }).push { cls := .type "cell", data := .cell none }).Ns (s₂.heap.objs.size + 1) (fun _ => none) := by
    have := (Heap.Ns.new (s₂.heap.push { cls := .type "list", data := .seq ([] : List Value).toArray }) (.type "dict")).keeps (h' := ((s₂.heap.push { cls := .type "list", data := .seq ([] : List Value).toArray }).push { cls := .type "dict", data := .dict #[] }).push { cls := .type "cell", data := .cell none }) fun b o e => Heap.get?_push_of_some _ e
    rw [hsz] at this; exact this
  have hcell : (((s₂.heap.push { cls := .type "list", data := .seq ([] : List Value).toArray }).push { cls := .type "dict", data := .dict #[] }).push { cls := .type "cell", data := .cell none }).IsCell (s₂.heap.objs.size + 1 + 1) none := by
    refine ⟨{ cls := .type "cell", data := .cell none }, ?_, rfl⟩
    rw [← hsz2]; exact Heap.get?_push_size _ rfl
  have hlist : (((s₂.heap.push { cls := .type "list", data := .seq ([] : List Value).toArray }).push { cls := .type "dict", data := .dict #[] }).push { cls := .type "cell", data := .cell none }).get? s₂.heap.objs.size = some { cls := .type "list", data := .seq #[] } :=
    Heap.get?_push_of_some _ (Heap.get?_push_of_some _ (Heap.get?_push_size _ rfl))
  have old : ∀ b o, s₂.heap.get? b = some o → (((s₂.heap.push { cls := .type "list", data := .seq ([] : List Value).toArray }).push { cls := .type "dict", data := .dict #[] }).push { cls := .type "cell", data := .cell none }).get? b = some o := fun b o e =>
    Heap.get?_push_of_some _ (Heap.get?_push_of_some _ (Heap.get?_push_of_some _ e))
  rw [hsz, hsz2]
  generalize (((s₂.heap.push { cls := .type "list", data := .seq ([] : List Value).toArray }).push { cls := .type "dict", data := .dict #[] }).push { cls := .type "cell", data := .cell none }) = h₁ at hns₁ hcell hlist old ⊢
  have hCn : s₂.heap.get? (s₂.heap.objs.size + 1) = none := none2 _ (Nat.le_succ _)
  have hEn : s₂.heap.get? (s₂.heap.objs.size + 1 + 1) = none := none2 _ (by omega)
  have hDn : s₂.heap.get? s₂.heap.objs.size = none := none2 _ (Nat.le_refl _)
  have hDm : s₂.heap.objs.size ∉ [s₂.heap.objs.size + 1, s₂.heap.objs.size + 1 + 1] := by simp only [List.mem_cons, List.not_mem_nil, or_false]; omega
  have K2 : Keeps s₂ { s₂ with heap := h₁ } := ⟨_, _, rfl, old⟩
  have hcase : ∀ n c, List.lookup n ((x₁, s₂.heap.objs.size + 1 + 1) :: cl) = some c → (n = x₁ ∧ c = s₂.heap.objs.size + 1 + 1) ∨ (n ≠ x₁ ∧ cl.lookup n = some c) := fun n c e => by
    rw [List.lookup_cons] at e
    by_cases hn : n = x₁
    · subst hn; simp at e; exact .inl ⟨rfl, e.symm⟩
    · have : (n == x₁) = false := by simpa using hn
      rw [this] at e; exact .inr ⟨hn, e⟩
  have hcl2 : ∀ n c, cl.lookup n = some c → ∃ o, s₂.heap.get? c = some o := fun n c e => let ⟨o, ho, _⟩ := hcap n c e; ⟨o, keeps_get G.keeps ho⟩
  refine h s₂.heap.objs.size (s₂.heap.objs.size + 1) { s₂ with heap := h₁ } ?_ ⟨0, hlist⟩ (none1 _ hDn) (g2 _ hDn) hDm hDn hCn hEn K2
  exact {
    grow := G.trans (Grow.ofKeeps G.inn K2)
    since := KB.refl _ _
    leS := VLe.refl _
    newS := fun _ _ e => .inl e
    was := fun b o e => old b o (keeps_get G.keeps e)
    ns := hns₁
    cell := fun n c e => by
      rcases hcase n c e with ⟨rfl, rfl⟩ | ⟨hn, e⟩
      · rw [if_pos rfl]; exact hcell
      · rw [if_neg hn]
        exact (hcap n c e).keeps fun b o q => old b o (keeps_get G.keeps q)
    locIn := List.mem_cons_self
    fresh := fun a ha => by
      simp only [List.mem_cons, List.not_mem_nil, or_false] at ha
      rcases ha with rfl | rfl
      · exact none1 _ hCn
      · exact none1 _ hEn
    live := fun a ha => by
      simp only [List.mem_cons, List.not_mem_nil, or_false] at ha
      rcases ha with rfl | rfl
      · obtain ⟨o, _, _, ho, _⟩ := hns₁; exact ⟨o, ho⟩
      · obtain ⟨o, ho, _⟩ := hcell; exact ⟨o, ho⟩
    out := fun a ha => by
      simp only [List.mem_cons, List.not_mem_nil, or_false] at ha
      rcases ha with rfl | rfl
      · exact g2 _ hCn
      · exact g2 _ hEn
    sep := fun n c e q => by
      rcases hcase n c e with ⟨rfl, rfl⟩ | ⟨hn, e⟩
      · exact absurd q (Nat.ne_of_gt (Nat.lt_succ_self _))
      · obtain ⟨o, ho⟩ := hcl2 n c e
        rw [q] at ho
        change s₂.heap.get? (s₂.heap.objs.size + 1) = some o at ho
        rw [hCn] at ho; cases ho
    apart := fun n n' c e e' => by
      rcases hcase n c e with ⟨p1, q1⟩ | ⟨p1, q1⟩ <;> rcases hcase n' c e' with ⟨p2, q2⟩ | ⟨p2, q2⟩
      · rw [p1, p2]
      · obtain ⟨o, ho⟩ := hcl2 _ _ q2; rw [q1, hEn] at ho; cases ho
      · obtain ⟨o, ho⟩ := hcl2 _ _ q1; rw [q2, hEn] at ho; cases ho
      · exact hap n n' c q1 q2 }

variable {β : Type} {R : Rp β}

theorem comp1_coreK {elt target iter : Expr} {ifs : List Expr} {scope : Scope} {pos : Pos} {env : Env} {cl : List (Str × Addr)} {cm : Str → Option Value} {x₁ : Str} {g g₂ : View} {s s₂ : Shared} {n : Nat} {P : Nat → Value → Heap → Prop} {it : Value}
    {RR : Value → Addr → Result → Shared → Prop} (MR : Mono R) (outs : Nat → List β)
    (hcf : ∀ n, cellsFrom n scope.names cl = (x₁, n) :: cl) (hpc : ∀ h, pushCells h scope.names = h.push { cls := .type "cell", data := .cell none }) (hx₁ : cl.lookup x₁ = none)
    (hcap : ∀ n c, cl.lookup n = some c → s.heap.IsCell c (cm n)) (hap : ∀ n n' c, cl.lookup n = some c → cl.lookup n' = some c → n = n')
    (G : Grow g s g₂ s₂) (S : Src prog w A target s g₂ it n P s₂) (hsz : ∀ i, i ≤ n → ((List.range i).flatMap outs).length ≤ 1000000)
    (turn : ∀ C, s₂.heap.get? C = none → Turn1 prog w A R g s (compEnvC scope ((x₁, C + 1) :: cl) C env) [C, C + 1] target elt ifs (fun _ c => ∀ y, y ≠ x₁ → c y = cm y) outs g₂ n P)
    (hRR : ∀ D C m cm g' s' ys k, InEnv g s (compEnvC scope ((x₁, C + 1) :: cl) C env) [C, C + 1] g s.heap m cm g' s' → s'.heap.get? D = some { cls := .type "list", data := .seq ys k } → s.heap.get? D = none → g' D = none → D ∉ [C, C + 1] → Paired (R g') ys.toList ((List.range n).flatMap outs) → RR (.ref D) C (.ok .next) s') :
    wpAny (model prog w) A (newList []) (fun acc s₃ => wpAny (model prog w) A (newFunctionEnv scope env.globals cl [] env.qual none .none (some env)) (fun cenv s₄ =>
      codeAny (model prog w) A (.compStart (.ListComp elt [⟨target, iter, ifs, 0⟩] scope pos) 0 it acc { cenv with scope := relabel scope env }) (RR acc cenv.locals) s₄) NoE s₃) NoE s₂ := by
  obtain ⟨I, fp, wr, Md, St, rfl, W, hst, hwr, hfp, _, hlv, hself⟩ := S.ex
  refine comp_blockK (cm := cm) G hcf hpc hx₁ hcap hap fun D C s₄ X hl hDs hDg hDC hD2 hC2 hE2 K2 => ?_
  show codeAny _ _ (.compStart _ 0 (.ref I) (.ref D) (compEnvC scope ((x₁, C + 1) :: cl) C env)) (RR (.ref D) C) s₄
  have hst₄ : St 0 s₄.heap := W.frame _ _ _ hst fun b _ o e => keeps_get K2 e
  have loop : codeAny (model prog w) A (.compLoop (.ListComp elt [⟨target, iter, ifs, 0⟩] scope pos) 0 (.ref I) (.ref D) (compEnvC scope ((x₁, C + 1) :: cl) C env)) (RR (.ref D) C) s₄ := by
    have apartF : ∀ b ∈ fp, b ≠ D ∧ b ∉ [C, C + 1] := fun b hb => by
      obtain ⟨o, e⟩ := hfp b hb
      refine ⟨fun q => (by rw [q, hD2] at e; cases e), fun q => ?_⟩
      simp only [List.mem_cons, List.not_mem_nil, or_false] at q
      rcases q with q | q
      · rw [q, hC2] at e; cases e
      · rw [q, hE2] at e; cases e
    have hcase : ∀ n c, List.lookup n ((x₁, C + 1) :: cl) = some c → c = C + 1 ∨ cl.lookup n = some c := fun n c e => by
      rw [List.lookup_cons] at e
      cases hn : n == x₁ with
      | true => rw [hn] at e; cases e; exact .inl rfl
      | false => rw [hn] at e; exact .inr e
    have capD : ∀ n c, (compEnvC scope ((x₁, C + 1) :: cl) C env).cells.lookup n = some c → c ≠ D := fun n c e => by
      rcases hcase n c e with rfl | e
      · exact fun q => hDC (by rw [← q]; simp)
      · obtain ⟨o, ho, _⟩ := hcap n c e
        exact fun q => by rw [q, hDs] at ho; cases ho
    refine comp_loop_env (B := 1000000) MR (Pm := fun _ c => ∀ y, y ≠ x₁ → c y = cm y) W (heq_one ..) outs (y0 := #[]) X (fun y hy => if_neg hy) hl hDs hDg hDC (fun q => (apartF D q).1 rfl) capD hst₄ hlv (fun b hb => hwr b hb)
      (fun b hb => ⟨let ⟨o, e⟩ := hfp b hb; ⟨o, keeps_get K2 e⟩, (apartF b hb).2⟩) (fun n c e q => ?_) (fun i hi => by simpa using hsz i hi) ?_ ?_
    · rcases hcase n c e with rfl | e
      · exact (apartF _ (W.sub _ q)).2 (by simp)
      · obtain ⟨o, ho, _⟩ := hcap n c e
        rw [(hwr c q).1] at ho; cases ho
    · intro i v s₁ m cm' g₁ ys hlt X₁ hm hP hl₁ hg₁ hys hle
      refine wpAny_mono (turn C hC2 i v s₁ m cm' g₁ hlt X₁ hm hP hle) (fun _ s₂' q => ?_) fun _ _ f => f
      exact body1_any hDs hDC capD hl₁ hg₁ hys q
    · rintro s' ⟨m, cm', g', gt, ht, ys, X', hl', hg', hp, hm, hle, hnew, hkb⟩
      obtain ⟨k, hk'⟩ := hl'
      simp only [Array.empty_append] at hk'
      refine hRR D C m cm' g' s' ys k ?_ hk' hDs hg' hDC hp
      exact { X' with since := fun b o _ e => keeps_get X'.grow.keeps e, leS := X'.grow.le, newS := X'.grow.new, was := fun _ _ e => e }
  exact wpAny_compStart rfl rfl loop (hself _ _ _ hst₄ loop)

theorem ev_comp1K {elt target iter : Expr} {ifs : List Expr} {scope : Scope} {pos : Pos} {env : Env} {cl : List (Str × Addr)} {cm : Str → Option Value} {x₁ : Str} {g : View} {s : Shared} {n : Nat} {Q : Value → Shared → Prop} (MR : Mono R) (outs : Nat → List β)
    (hclos : closureFor scope env = pure cl) (hcf : ∀ n, cellsFrom n scope.names cl = (x₁, n) :: cl) (hpc : ∀ h, pushCells h scope.names = h.push { cls := .type "cell", data := .cell none }) (hx₁ : cl.lookup x₁ = none) (hk : scope.kind = .function) (hnames : ∀ x ∈ scope.names, x.2 = .local → scope.names.lookup x.1 = some .local)
    (hcap : ∀ n c, cl.lookup n = some c → s.heap.IsCell c (cm n)) (hap : ∀ n n' c, cl.lookup n = some c → cl.lookup n' = some c → n = n') (hsz : ∀ i, i ≤ n → ((List.range i).flatMap outs).length ≤ 1000000)
    (h : wpAny (model prog w) A (eval iter env) (fun xv s₁ => wpAny (model prog w) A (pyIter xv) (fun it s₂ => ∃ g₂ P, Grow g s g₂ s₂ ∧ Src prog w A target s g₂ it n P s₂ ∧
      ∀ C, s₂.heap.get? C = none → Turn1 prog w A R g s (compEnvC scope ((x₁, C + 1) :: cl) C env) [C, C + 1] target elt ifs (fun _ c => ∀ y, y ≠ x₁ → c y = cm y) outs g₂ n P) NoE s₁) NoE s)
    (hQ : ∀ v g' s', Grow g s g' s' → RList R g' v ((List.range n).flatMap outs) → Q v s')
    (hs : ∀ x, foldedSetIterable iter env x = pure x := by intro _; rfl) :
    wpAny (model prog w) A (eval (.ListComp elt [⟨target, iter, ifs, 0⟩] scope pos) env) Q NoE s := by
  rw [eval_ListComp]
  refine wpAny_comprehension_free (use := none) rfl hs hclos hk hnames (wpAny_mono h (fun xv s₁ h₁ => wpAny_mono h₁ (fun it s₂ h₂ => ?_) fun _ _ e => e) fun _ _ e => e)
  obtain ⟨g₂, P, G, S, turn⟩ := h₂
  refine comp1_coreK (RR := fun acc C => compPost (model prog w) A NoE none Q acc C) MR outs hcf hpc hx₁ hcap hap G S hsz turn ?_
  intro D C m cm' g' s' ys k X hD hDs hg hDC hp
  refine ⟨m, X.ns, fun h' hs' => hQ _ (addv g' D { cls := .type "list", data := .seq ys k }) _ ?_ (rlist_of MR hg hp)⟩
  have hDC' : D ≠ C := fun q => hDC (by simp [q])
  have hD' : h'.get? D = some { cls := .type "list", data := .seq ys k } := (hs'.2 D hDC').trans hD
  refine Grow.add ⟨keeps_but s'.toks X.grow.keeps hs' (X.fresh C List.mem_cons_self), X.grow.le, fun b o e => ?_, X.grow.new⟩ hD' hDs
  exact (hs'.2 b (fun q => by rw [q, X.out C List.mem_cons_self] at e; cases e)).trans (X.grow.inn b o e)
end
end Mine
end

section
open PySem PySem.W PyProof.Rows PySem.Calls
set_option maxRecDepth 100000
namespace Mine
set_option pp.deepTerms false
set_option pp.deepTerms.threshold 2

abbrev baObj (b : Array UInt8) : Obj := { cls := .type "bytearray", data := .bytearray b }
section
variable {prog : Program} {w : World} {A : Around} {E : Value → Shared → Prop} {s : Shared}

theorem owner_ba_new : ("bytearray.__new__".splitOn ".__new__").headD "" = "bytearray" := by rw [PySem.W.split_bytearray]; rfl
theorem code_ba_new (a : Value) {Q₁ : Value → Shared → Prop}
    (h : Q₁ (.ref s.heap.objs.size) { s with heap := s.heap.push (baObj #[]) }) :
    codeAny (model prog w) A (.call (.builtin "bytearray.__new__") ⟨[.type "bytearray", a], []⟩) (wants Q₁ E) s := by
  refine codeAny_of_tree ?_
  show wpAny _ A.in1 (do checkBuiltinCall "bytearray.__new__" ⟨[.type "bytearray", a], []⟩; again (.builtin "bytearray.__new__" ⟨[.type "bytearray", a], []⟩)) _ _ s
  refine wpAny_bind (wpAny_of_eq (ba_newCall a) (wpAny_pure ⟨plainId_quiet ba_plain_new _, codeAny_builtin_stack ba_entry_new rfl fun p st => ?_⟩))
  rw [Around.under_plainId ba_plain_new _]
  have hsub := ba_sub
  have hown := owner_ba_new
  obtain ⟨hp, g, d, tk, os⟩ := s
  simp only [hown]
  wp_walk
  exact h

theorem ba_ownRelease {M : Model} {a : Addr} {b : Array UInt8} {Q : Bool → Shared → Prop} {E : Value → Shared → Prop} (ha : s.heap.get? a = some (baObj b)) (h : Q false s) :
    wpAny M A (Builtin.Bytes.ownRelease (.ref a)) Q E s := by
  have hT : s.TypeIs (.ref a) "bytearray" := ⟨_, ha, rfl⟩
  unfold Builtin.Bytes.ownRelease Builtin.Bytes.slotIsOwn
  refine wpAny_bind (wpAny_bind (wpAny_specialOf hT ba_release ?_))
  show wpAny M A (if (!("bytearray.__release_buffer__".endsWith ("." ++ "__release_buffer__"))) = true then pure false else isInstance (.ref a) (.type ("bytearray.__release_buffer__".dropRight ("__release_buffer__".length + 1)))) _ _ s
  rw [ba_ends_r, ba_drop_r]
  refine bm_if_false rfl ?_
  refine wpAny_isInstance hT ba_sub ?_
  exact wpAny_pure h
end
end Mine
end

section
open PySem PySem.W PyProof.Rows PySem.Calls
set_option maxRecDepth 100000
namespace Mine
set_option pp.deepTerms false
set_option pp.deepTerms.threshold 2

section
variable {prog : Program} {w : World} {A : Around} {E : Value → Shared → Prop} {s : Shared} {R : Result → Shared → Prop}

theorem codeC_builtin {id : String} {args : Args} {b : Builtin} (hcalm : calm (.builtin id args) = true) (hb : entryFor table id = some b)
    (h : wpC (model prog w) (A.under (.builtin id args)) (b args)
      (fun fin s' => match fin with | .done f => R (.ok f) s' | .again c' => c'.quiet = true ∧ codeC (model prog w) A c' R s') (fun e s' => R (.error e) s') s) :
    codeC (model prog w) A (.builtin id args) R s := by
  refine codeC_of_tree hcalm ?_
  show wpC _ _ (match entryFor table id with | some b => b args | none => unsupported ((withoutEnding? id "#data").getD id)) _ _ s
  rw [hb]; exact h

/-- the call of a slot, calm -/
theorem callC_entry {T : String} {name : Str} {id : String} {b : Builtin} {self : Value} {rest : List Value} {Q : Value → Shared → Prop} (hcalm : ∀ a, calm (.builtin id a) = true) (h : Slot T name id) (hT : s.TypeIs self T)
    (hb : entryFor table id = some b)
    (hc : wpC (model prog w) A.in1 (b ⟨self :: rest, []⟩) (fun fin s' => ∃ v, fin = .done (.ret v) ∧ Q v s') E s)
    (ha : argsOk id ⟨self :: rest, []⟩) :
    wpC (model prog w) A (call (.builtin id) (self :: rest)) Q E s := by
  refine wpC_call (codeC_of_tree rfl ?_)
  show wpC _ A.in1 (do checkBuiltinCall id ⟨self :: rest, []⟩; again (.builtin id ⟨self :: rest, []⟩)) _ _ s
  refine wpC_bind (wpC_any (h.check _ _ _ _ _ _ _ _ hT ha ?_))
  refine wpC_pure ⟨plainId_quiet h.plain _, codeC_builtin (hcalm _) hb ?_⟩
  rw [Around.under_plainId h.plain _]
  refine wpC_mono hc (fun fin s' h' => ?_) fun _ _ h' => h'
  obtain ⟨v, rfl, hv⟩ := h'; exact hv

theorem callSpecialC_slot {self : Value} {T : String} {name : Str} {id : String} {args : List Value}
    {Q : Option Value → Shared → Prop} (hT : s.TypeIs self T) (h : Slot T name id)
    (hc : wpC (model prog w) A (call (.builtin id) (self :: args)) (fun v => Q (some v)) E s) : wpC (model prog w) A (callSpecial? self name args) Q E s := by
  simp only [callSpecial?]
  refine wpC_bind (wpC_any (wpAny_specialOf hT h.lookup ?_))
  simp only [h.bind]
  exact wpC_holding (wpC_bind (wpC_pure (wpC_bind (wpC_mono hc (fun v s' h' => wpC_pure h') fun _ _ h' => h'))))

theorem write_ba {a : Addr} {b c : Array UInt8} {f : Array UInt8 → Array UInt8} {Q : Unit → Shared → Prop} (hg : s.heap.get? a = some (baObj b)) (hf : f b = c) (hc : c.size ≤ 1000000)
    (h : ∀ h', Heap.SameBut a s.heap h' → h'.get? a = some (baObj c) → Q () { s with heap := h' }) : wpAny (model prog w) A (Builtin.Bytes.write (.ref a) f) Q E s := by
  show wpAny _ _ (updateBytearray a f) _ _ _
  unfold updateBytearray
  refine wpAny_bind (wpAny_load hg ?_)
  show wpAny _ _ (update a (Obj.mapBytearray f) >>= fun _ => lookBehind a) _ _ _
  refine wpAny_bind (wpAny_update hg ?_)
  have h2 : (s.heap.update a (Obj.mapBytearray f)).get? a = some (baObj c) := by
    subst hf; exact Heap.get?_update_self (Obj.mapBytearray f) hg rfl
  refine wpAny_lookBehind h2 ?_ (h _ (Heap.SameBut.update ..) h2)
  show (if c.size > sizeLine then some "bytearray:memory" else none) = none
  rw [if_neg]
  have : sizeLine = 16777216 := by decide
  omega

theorem asStr_int (i : Int) (t : Tok) : asStr? (.int i t) = pure none := by rfl
theorem asIndex_int (i : Int) (t : Tok) : asIndex (.int i t) = pure i := by rfl
theorem specialOf_int (i : Int) (t : Tok) : specialOf (.int i t) (Str.ofString "__index__") = pure (some (.builtin "int.__index__")) := by
  show typeLookup (.type "int") (Str.ofString "__index__") = _
  exact F.slot_int_index.lookup
theorem init_bytearray {a : Addr} {n : Nat} {t : Tok} {Q : Value → Shared → Prop} (hg : s.heap.get? a = some (baObj #[])) (hn : n ≤ 1000000)
    (h : ∀ h', Heap.SameBut a s.heap h' → h'.get? a = some (baObj (Array.replicate n 0)) → Q .none { s with heap := h' }) :
    wpC (model prog w) A (Builtin.«bytearray.__init__» ⟨[.ref a, .int (n : Int) t], []⟩) (fun fin s' => ∃ v, fin = .done (.ret v) ∧ Q v s') E s := by
  have hT : s.TypeIs (.ref a) "bytearray" := ⟨_, hg, rfl⟩
  unfold Builtin.«bytearray.__init__»
  refine wpC_bind (wpC_any (ba_ownRelease hg ?_))
  refine wpC_if_false rfl ?_
  refine wpC_bind (wpC_eq (ba_bind _) ?_)
  refine wpC_bind (wpC_eq (a := ()) rfl ?_)
  refine wpC_bind (wpC_eq (a := ()) rfl ?_)
  refine wpC_bind ?_
  show wpC _ _ (Builtin.Bytes.exported (.ref a) >>= fun b => _) _ _ _
  refine wpC_bind (exported_calm ?_)
  refine wpC_bind ?_
  show wpC _ _ (Builtin.Bytes.exportsOf (.ref a)) _ _ _
  refine wpC_any ?_
  show wpAny _ _ (load a >>= fun o => _) _ _ _
  refine wpAny_bind (wpAny_load hg ?_)
  refine wpAny_pure ?_
  refine wpC_pure ?_
  refine wpC_if_false rfl ?_
  refine wpC_bind (wpC_any (write_ba (c := #[]) hg rfl (Nat.zero_le _) fun h₁ hs₁ hg₁ => ?_))
  dsimp only
  rw [asStr_int]
  simp only [pure_bind, Option.isSome_none, Bool.false_eq_true, if_false]
  rw [specialOf_int, asIndex_int]
  simp only [pure_bind, Option.isSome_some, if_true]
  refine wpC_bind ?_
  refine wpC_attempt ?_
  refine wpC_pure ?_
  dsimp only
  rw [if_neg (by simp only [Builtin.Bytes.fitsIndex, Bool.not_eq_true', Bool.and_eq_false_iff, decide_eq_false_iff_not]; omega)]
  rw [if_neg (by omega)]
  rw [if_neg (by simp only [beq_iff_eq]; omega)]
  have htl : Builtin.Bytes.tooLong (n : Int).toNat = false := by
    simp only [Builtin.Bytes.tooLong, decide_eq_false_iff_not, Int.toNat_natCast]
    have : sizeLine = 16777216 := by decide
    omega
  rw [htl]
  simp only [Bool.false_eq_true, if_false]
  refine wpC_bind ?_
  refine wpC_any ?_
  refine wpAny_rule ?_
  by_cases h0 : (n : Int) > 0
  · rw [if_pos h0]
    refine wpC_bind ?_
    refine wpC_any ?_
    refine write_ba (c := Array.replicate n 0) hg₁ (by rw [Int.toNat_natCast]) (by rw [Array.size_replicate]; exact hn) fun h₂ hs₂ hg₂ => ?_
    refine wpC_any ?_
    exact wpAny_pure ⟨_, rfl, h h₂ (hs₁.trans hs₂) hg₂⟩
  · rw [if_neg h0]
    refine wpC_any ?_
    exact wpAny_pure ⟨_, rfl, h h₁ hs₁ (by rw [hg₁, show n = 0 by omega]; rfl)⟩
end
end Mine
end

section
open PySem PySem.W PyProof.Rows PySem.Calls
set_option maxRecDepth 100000
namespace Mine
set_option pp.deepTerms false
set_option pp.deepTerms.threshold 5

section
variable {prog : Program} {w : World} {A : Around} {E : Value → Shared → Prop} {s : Shared} {R : Result → Shared → Prop}
theorem callC_bytearray {n : Nat} {t : Tok} {Q : Value → Shared → Prop} (hn : n ≤ 1000000)
    (h : ∀ h', Heap.SameBut s.heap.objs.size (s.heap.push (baObj #[])) h' → h'.get? s.heap.objs.size = some (baObj (Array.replicate n 0)) → Q (.ref s.heap.objs.size) { s with heap := h' }) :
    wpC (model prog w) A (call (.type "bytearray") [.int (n : Int) t]) Q E s := by
  refine wpC_call (codeC_of_tree rfl ?_)
  refine wpC_pure ⟨Code.quiet_builtin _ (by decide +kernel), codeC_builtin rfl F.entry_type_call ?_⟩
  rw [Around.under_plain (weight_type_call_type "bytearray" [.int (n : Int) t] []) rfl]
  unfold Builtin.«type.__call__»
  have h1 := ba_called.notType
  have h2 := ba_called.canCreate
  have h3 := ba_mro
  have h4 := ba_called.made
  have h5 := ba_typeCall (.int (n : Int) t)
  dsimp only
  simp only [h1, Bool.false_eq_true, if_false, h2, h5, h3, h4, pure_bind, List.isEmpty_cons]
  refine wpC_bind ?_
  refine wpC_holding ?_
  refine wpC_any ?_
  refine wpAny_call (codeAny_mono (code_ba_new (s := s) (E := E) (Q₁ := fun v s' => v = .ref s.heap.objs.size ∧ s' = { s with heap := s.heap.push (baObj #[]) }) (.int (n : Int) t) ⟨rfl, rfl⟩) fun r s₁ hr => ?_)
  cases r with
  | error e => exact hr
  | ok fl =>
    cases fl with
    | ret obj =>
      obtain ⟨rfl, rfl⟩ := hr
      have hg : (s.heap.push (baObj #[])).get? s.heap.objs.size = some (baObj #[]) := Heap.get?_push_size _ rfl
      generalize s.heap.objs.size = D at hg h
      generalize s.heap.push (baObj #[]) = h₀ at hg h
      have hT : ({ s with heap := h₀ } : Shared).TypeIs (.ref D) "bytearray" := ⟨_, hg, rfl⟩
      refine wpC_bind ?_
      refine wpC_any ?_
      refine wpAny_isInstance hT ba_sub ?_
      simp only [Bool.not_true, Bool.false_eq_true, if_false]
      refine wpC_bind ?_
      refine wpC_holding ?_
      refine callSpecialC_slot hT ba_slot_init ?_
      refine callC_entry (fun _ => rfl) ba_slot_init hT ba_entry_init ?_ (ba_args_init _ _)
      refine init_bytearray hg hn fun h' hs' hg' => ?_
      refine wpC_any ?_
      exact wpAny_pure (h h' hs' hg')
    | _ => exact hr.elim
end
end Mine
end

section
open PySem PySem.W PyProof.Rows PySem.Calls
set_option maxRecDepth 100000
namespace Mine
set_option pp.deepTerms false
set_option pp.deepTerms.threshold 5

theorem subscript_int {i : Nat} {t : Tok} (h : i ≤ 1000000) : Builtin.Bytes.subscript? (.int (i : Int) t) = pure (some (i : Int)) := by
  unfold Builtin.Bytes.subscript?
  rw [specialOf_int, asIndex_int]
  simp only [pure_bind, Option.isNone_some, Bool.false_eq_true, if_false]
  rw [if_neg (by simp only [Builtin.Bytes.fitsIndex, Bool.not_eq_true', Bool.and_eq_false_iff, decide_eq_false_iff_not]; omega)]
theorem byteValue_int {c : Nat} {t : Tok} (h : c < 256) : Builtin.Bytes.byteValue (.int (c : Int) t) = pure c.toUInt8 := by
  unfold Builtin.Bytes.byteValue
  rw [asIndex_int]
  simp only [pure_bind]
  rw [if_neg (by simp only [Bool.or_eq_true, decide_eq_true_eq]; omega)]
  simp only [Int.toNat_natCast]
section
variable {prog : Program} {w : World} {A : Around} {E : Value → Shared → Prop} {s : Shared}
theorem setItem_ba {a : Addr} {b : Array UInt8} {i c : Nat} {t u : Tok} {Q : Unit → Shared → Prop} (hg : s.heap.get? a = some (baObj b)) (hi : i < b.size) (hc : c < 256) (hb : b.size ≤ 1000000)
    (hQ : ∀ h', Heap.SameBut a s.heap h' → h'.get? a = some (baObj (b.setIfInBounds i c.toUInt8)) → Q () { s with heap := h' }) :
    wpAny (model prog w) A (setItem (.ref a) (.int (i : Int) t) (.int (c : Int) u)) Q E s := by
  have hT : s.TypeIs (.ref a) "bytearray" := ⟨_, hg, rfl⟩
  unfold setItem
  try with_reducible refine wpAny_holding ?_
  refine wpAny_bind (wpAny_sequenceKey hT (by decide) ?_)
  refine wpAny_bind (wpAny_callSpecial?_slot (name := Str.ofString "__setitem__") hT ba_slot_setitem
    (wpAny_call_entry ba_slot_setitem hT ba_entry_setitem ?_ (ba_args_setitem _ _ _)))
  unfold Builtin.«bytearray.__setitem__»
  dsimp only
  simp only [List.isEmpty_nil, Bool.not_true, Bool.false_eq_true, if_false]
  rw [subscript_int (by omega)]
  simp only [pure_bind]
  rw [byteValue_int hc]
  simp only [pure_bind]
  refine wpAny_bind ?_
  unfold Builtin.Bytes.payload Builtin.Bytes.payload?
  refine wpAny_bind (wpAny_bind (wpAny_load hg ?_))
  refine wpAny_pure ?_
  refine wpAny_pure ?_
  have hsq : seqIndex? (i : Int) b.size = some i := by
    have hn : ¬ (i : Int) < 0 := by omega
    simp [seqIndex?, hn]; omega
  rw [hsq]
  dsimp only
  refine wpAny_bind (write_ba (c := b.setIfInBounds i c.toUInt8) hg rfl (by rw [Array.size_setIfInBounds]; exact hb) fun h' hs' hg' => ?_)
  first
    | exact wpAny_pure ⟨_, rfl, wpAny_pure (hQ h' hs' hg')⟩
    | exact wpAny_bind (wpAny_pure (wpAny_pure ⟨.none, rfl, wpAny_pure (hQ h' hs' hg')⟩))

theorem ba_buffer_read {a : Addr} {b : Array UInt8} {Q : Option (Array UInt8) → Shared → Prop} (hg : s.heap.get? a = some (baObj b)) (hQ : Q (some b) s) :
    wpAny (model prog w) A (Builtin.Bytes.buffer? "bytes.__new__" (.ref a) true) Q E s := by
  have hT : s.TypeIs (.ref a) "bytearray" := ⟨_, hg, rfl⟩
  unfold Builtin.Bytes.buffer?
  refine wpAny_bind (wpAny_specialOf hT ba_buffer ?_)
  dsimp only
  refine wpAny_bind ?_
  unfold Builtin.Bytes.slotIsOwn
  refine wpAny_bind (wpAny_specialOf hT ba_buffer ?_)
  dsimp only
  rw [ba_ends, ba_drop]
  refine bm_if_false rfl ?_
  refine wpAny_isInstance hT ba_sub ?_
  simp only [Bool.not_true, Bool.false_eq_true, if_false]
  refine wpAny_bind (wpAny_specialOf hT ba_buffer ?_)
  refine wpAny_bind (ba_ownRelease hg ?_)
  simp only [Bool.false_eq_true, if_false]
  refine wpAny_bind ?_
  unfold Builtin.Bytes.payload Builtin.Bytes.payload?
  refine wpAny_bind (wpAny_bind (wpAny_load hg ?_))
  refine wpAny_pure ?_
  refine wpAny_pure ?_
  exact wpAny_pure hQ

theorem call_bytes_ba {a : Addr} {b : Array UInt8} {Q : Value → Shared → Prop} (hg : s.heap.get? a = some (baObj b)) (hb : b.size ≤ 1000000)
    (hQ : ∀ t k, Q (.bytes b t) { s with toks := k }) : wpAny (model prog w) A (call (.type "bytes") [.ref a]) Q E s := by
  refine callType_codes (Q₁ := fun obj s₁ => s₁.TypeIs obj "bytes" ∧ Q obj s₁) F.bm_called (F.bm_typeCall _) F.entry_object_init ?_ fun obj s₁ h₁ => ?_
  · have hT : s.TypeIs (.ref a) "bytearray" := ⟨_, hg, rfl⟩
    refine codeAny_of_tree ?_
    show wpAny _ A.in1.in1 (do checkBuiltinCall "bytes.__new__" ⟨[.type "bytes", .ref a], []⟩; again (.builtin "bytes.__new__" ⟨[.type "bytes", .ref a], []⟩)) _ _ s
    refine wpAny_bind (wpAny_of_eq (F.bm_newCall _) (wpAny_pure ⟨plainId_quiet F.bm_plain _, codeAny_builtin F.bm_entry ?_⟩))
    rw [Around.under_plainId F.bm_plain _]
    unfold Builtin.«bytes.__new__»
    refine wpAny_bind (wpAny_of_eq (a := true) rfl ?_)
    refine bm_if_false rfl ?_
    refine wpAny_bind (wpAny_of_eq F.bm_sub ?_)
    refine bm_if_false rfl ?_
    refine wpAny_bind (wpAny_of_eq (F.bm_bind _) ?_)
    refine wpAny_bind (wpAny_of_eq (a := ()) rfl ?_)
    refine wpAny_bind (wpAny_of_eq (a := ()) rfl ?_)
    refine bm_if_false rfl ?_
    refine wpAny_bind (wpAny_specialOf hT ba_no_bytes ?_)
    refine wpAny_bind (wpAny_bind ?_)
    show wpAny _ _ (load a >>= _) _ _ _
    refine wpAny_bind (wpAny_load hg ?_)
    refine wpAny_pure (wpAny_pure ?_)
    refine bm_if_false rfl ?_
    refine wpAny_bind (wpAny_specialOf hT ba_no_index ?_)
    refine bm_if_true rfl ?_
    first
      | show wpAny _ _ (Builtin.Bytes.buffer? "bytes.__new__" (.ref a) true >>= _) _ _ _
      | (refine wpAny_bind ?_; show wpAny _ _ (Builtin.Bytes.buffer? "bytes.__new__" (.ref a) true >>= _) _ _ _)
    refine wpAny_bind (ba_buffer_read hg ?_)
    dsimp only
    refine wpAny_bind (wpAny_rule ?_)
    refine wpAny_bind ?_
    refine wpAny_mkBytes ?_ (Nat.le_trans hb (by decide))
    show wpAny _ _ (if (Value.type "bytes" == Value.type "bytes") = true then _ else _) _ _ _
    refine bm_if_true (by decide) ?_
    first
      | exact wpAny_pure ⟨PySem.W.typeIs_bytes _ _ _, hQ _ _⟩
      | exact wpAny_bind (wpAny_pure (wpAny_pure ⟨PySem.W.typeIs_bytes _ _ _, hQ _ _⟩))
  · exact ⟨h₁.1, F.args_object_init_2 obj _, object_init_meets F.bm_called.init.lookup F.bm_called.made (by decide) prog w A.in1 _ s₁ ⟨h₁.1, rfl, h₁.2⟩⟩
end
end Mine
end

section
open PySem PySem.W PyProof.Rows PySem.Calls
set_option maxRecDepth 100000
namespace Mine
set_option pp.deepTerms false
set_option pp.deepTerms.threshold 5

section
variable {prog : Program} {w : World} {A : Around} {E : Value → Shared → Prop} {s : Shared} {R : Result → Shared → Prop}
theorem codeC_func {body : List Stmt} {env : Env}
    (h : wpC (model prog w) (A.deeper env) (execs body env) (fun f s' => R (.ok (.ret (match f with | .ret v => v | _ => .none))) s') NoE s) :
    codeC (model prog w) A (.func body env) R s := by
  refine codeC_of_tree rfl ?_
  show wpC _ (A.deeper env) (do point; match ← (execs body env).onRaise (leaving env) with | .ret v => ret v | _ => ret .none) _ _ s
  refine wpC_bind (wpC_any (wpAny_point ?_))
  refine wpC_bind (wpC_onRaise (wpC_mono h (fun f s' h' => ?_) fun _ _ h' => h'))
  cases f <;> exact wpC_pure h'

theorem codeC_call_function {a : Addr} {args : Args} {o : Obj} {fd : FuncData} {body : List Stmt} (hroom : A.depth < recursionLimit)
    (ho : s.heap.get? a = some o)
    (hd' : o.data = .func fd) (hco : fd.scope.isCoroutine = false) (hgen : fd.scope.isGenerator = false) (hbody : fd.body = .stmts body) (hcd : s.heap.CodeRec fd.code fd.qualname)
    (h : wpAny (model prog w) A.in1 (bindArgs fd args) (fun binds s₁ =>
      wpAny (model prog w) A.in1 (newFunctionEnv fd.scope fd.globals fd.closure binds (fd.qualname ++ ".<locals>.") (some a) fd.code none fd.builtins)
        (fun env s₂ => s₂.heap.NoLimit ∧ codeC (model prog w) A (.func body env) R s₂) (fun e s' => R (.error e) s') s₁) (fun e s' => R (.error e) s') s) :
    codeC (model prog w) A (.call (.ref a) args) R s := by
  refine codeC_of_tree rfl ?_
  show wpC _ A.in1 (callAny (.ref a) args) _ _ s
  simp only [callAny]
  refine wpC_bind (wpC_any (wpAny_load ho ?_))
  obtain ⟨c, oc, vs, tq, hc, hoc, hdc, hq⟩ := hcd
  simp only [hd', callFunction, hco, hgen, hbody, hc]
  rw [hc] at h
  refine wpC_bind (m := field (.ref c) 1) (wpC_any (wpAny_field hoc hdc hq ?_))
  refine wpC_bind (wpC_pure ?_)
  exact wpC_bind (wpC_any (wpAny_mono h (fun binds s₁ h₁ => wpC_bind (wpC_any (wpAny_mono h₁ (fun env s₂ h₂ => wpC_bind (wpC_any (wpAny_enterFrame h₂.1 hroom
    (wpC_pure (And.intro rfl h₂.2))))) fun _ _ h' => h'))) fun _ _ h' => h'))

/-- a def's block entered, calm -/
theorem callC_fn {prog : Program} {w : World} {A : Around} {s : Shared} {g : View} {a : Addr} {o : Obj} {fd : FuncData} {body : List Stmt} {vals : List Value} {binds : List (Str × Value)} {Q : Value → Shared → Prop} {k : Nat} {P : Params}
    (hR : Room A (k + 1)) (hW : Wd P s.heap) (ho : s.heap.get? a = some o) (hdata : o.data = .func fd) (hcd : s.heap.CodeRec fd.code fd.qualname)
    (hbody : fd.body = .stmts body) (hbind : bindArgs fd ⟨vals, []⟩ = pure binds) (hclo : fd.closure = [])
    (hkind : (binds.all fun y => fd.scope.names.lookup y.1 == some .local || fd.scope.names.lookup y.1 == some .cell) = true)
    (G : VIn g s.heap) (hnd0 : ((cellsFrom 0 fd.scope.names []).map (·.1)).Nodup)
    (h : ∀ L s₁, s.heap.get? L = none → Room (A.deeper (callEnvC fd L a)) k → Wd P s₁.heap → InEnv g s (callEnvC fd L a) (L :: (cellsFrom (L + 1) fd.scope.names []).map (·.2)) g s₁.heap (bindL (callEnvC fd L a).kindOf binds fun _ => none) (bindC (callEnvC fd L a).kindOf binds fun _ => none) g s₁ →
      wpC (model prog w) (A.deeper (callEnvC fd L a)) (execs body (callEnvC fd L a)) (fun f s' => Q (match f with | .ret v => v | _ => .none) s') NoE s₁)
    (hco : fd.scope.isCoroutine = false := by rfl) (hgen : fd.scope.isGenerator = false := by rfl) (hk : fd.scope.kind = .function := by rfl) :
    codeC (model prog w) A (.call (.ref a) ⟨vals, []⟩) (fun r s' => match r with | .ok (.ret v) => Q v s' | .ok _ => False | .error e => NoE e s') s := by
  have hnd : ∀ n, ((cellsFrom n fd.scope.names []).map (·.1)).Nodup := fun n => by rw [cellsFrom_names fd.scope.names n 0 [] [] rfl]; exact hnd0
  refine codeC_call_function hR.lt ho hdata hco hgen hbody hcd ?_
  rw [hbind, hclo]
  refine wpAny_pure (wpAny_newFunctionEnv_cells hk (kindsX hkind _) fun env he s₁ X => ?_)
  subst he
  refine ⟨hW.nolimit.keeps X.toInCall.keep, codeC_func ?_⟩
  have hLn : s.heap.get? s.heap.objs.size = none := none_of_size
  have K : Keeps s s₁ := by
    obtain ⟨h₁, tk, rfl⟩ := X.toInCall.same
    exact ⟨h₁, tk, rfl, X.toInCall.keep⟩
  refine wpC_mono (h s.heap.objs.size s₁ hLn (hR.deeper _) (hW.keeps K) ?_) (fun f s' q => q) fun _ _ f => f.elim
  have cellMem : ∀ n c, (n, c) ∈ cellsFrom (s.heap.objs.size + 1) fd.scope.names [] → s₁.heap.IsCell c (bindC (callEnvC fd s.heap.objs.size a).kindOf binds (fun _ => none) n) := fun n c hm =>
    X.cell n c (lookup_of_mem_nodup (hnd _) hm)
  have hfr : ∀ b ∈ s.heap.objs.size :: (cellsFrom (s.heap.objs.size + 1) fd.scope.names []).map (·.2), s.heap.get? b = none := fun b hb => by
    rcases List.mem_cons.mp hb with rfl | hb
    · exact hLn
    · obtain ⟨⟨n, c⟩, hm, rfl⟩ := List.mem_map.mp hb
      exact none_of_le (Nat.le_of_lt (X.above n c hm))
  exact {
    grow := Grow.ofKeeps G K
    since := KB.refl _ _
    leS := VLe.refl _
    newS := fun _ _ e => .inl e
    was := fun _ _ e => keeps_get K e
    ns := X.toInCall.ns
    cell := X.cell
    locIn := List.mem_cons_self
    fresh := hfr
    live := fun b hb => by
      rcases List.mem_cons.mp hb with rfl | hb
      · obtain ⟨o, _, _, ho, _⟩ := X.toInCall.ns; exact ⟨o, ho⟩
      · obtain ⟨⟨n, c⟩, hm, rfl⟩ := List.mem_map.mp hb
        obtain ⟨o, ho, _⟩ := cellMem n c hm
        exact ⟨o, ho⟩
    out := fun b hb => by
      cases e : g b with
      | none => rfl
      | some o => rw [← G _ _ e, hfr b hb] 
    sep := fun n c e q => by
      have := X.above n c (mem_of_lookup e)
      rw [q] at this; exact Nat.lt_irrefl _ this
    apart := fun n n' c e e' => name_of_addr X.apart (mem_of_lookup e) (mem_of_lookup e') }

theorem execsC_cons {st : Stmt} {rest : List Stmt} {env : Env} {Q : Flow → Shared → Prop}
    (h : wpC (model prog w) A (exec st env) (fun f s' => match f with | .next => wpC (model prog w) A (execs rest env) Q NoE s' | f => Q f s') NoE s) : wpC (model prog w) A (execs (st :: rest) env) Q NoE s := fun Γ p hΓ hc hb => by
  rw [execs_cons, Sem.wp_bind']
  refine Sem.wp_mono _ Γ _ (fun f p' s' h' => ?_) (fun _ _ _ h' => h') _ _ (h Γ p hΓ hc hb)
  cases f <;> first | exact h' Γ p' hΓ hc hb | exact h'
theorem assignC_Name {env : Env} {x : Str} {pos' : Pos} {value : Expr} {pos : Pos} {Q : Flow → Shared → Prop}
    (h : wpC (model prog w) A (eval value env) (fun v s₁ => wpC (model prog w) A (storeName env x v) (fun _ => Q .next) NoE s₁) NoE s)
    (hs : swapsWith value (some (.Name x pos')) pos.line env = pure false := by rfl) :
    wpC (model prog w) A (exec (.Assign [.Name x pos'] value pos) env) Q NoE s := fun Γ p hΓ hc hb => by
  simp only [exec_Assign_Name env x pos' value pos hs, Sem.wp_bind', Sem.wp_cmd_standAt, Sem.wp_bindName, Sem.wp_pure']
  exact Sem.wp_mono _ Γ _ (fun v _ s₁ h₁ => h₁ Γ _ hΓ hc hb) (fun _ _ _ h' => h') _ _ (h Γ _ hΓ hc hb)
theorem callC_Name {env : Env} {x : Str} {p pos : Pos} {args : List Expr} {Q : Value → Shared → Prop}
    (h : wpC (model prog w) A (eval (.Name x p) env) (fun f s₁ => wpC (model prog w) A (callWith pos f [] (backTo pos (starEach args env)) []) Q NoE s₁) NoE s) :
    wpC (model prog w) A (eval (.Call (.Name x p) args [] pos) env) Q NoE s := wpC_bind h

theorem callWithC_type1 {env : Env} {pos : Pos} {T : String} {e : Expr} {rest : List Expr} {Q : Value → Shared → Prop}
    (h : wpAny (model prog w) A (spliced (backTo pos (starEach (e :: rest) env))) (fun vs s₁ => wpC (model prog w) A (call (.type T) vs) Q NoE s₁) NoE s)
    (he : starEach (e :: rest) env = (false, eval e env) :: starEach rest env := by rfl)
    (hplain : (backTo pos (starEach rest env)).any (·.1) = false := by rfl) :
    wpC (model prog w) A (callWith pos (.type T) [] (backTo pos (starEach (e :: rest) env)) []) Q NoE s := by
  rw [he] at h ⊢
  have hp : (backTo pos ((false, eval e env) :: starEach rest env)).any (·.1) = false := by show (false || (backTo pos (starEach rest env)).any (·.1)) = false; rw [hplain]; rfl
  unfold callWith
  refine wpC_bind (wpC_holding (wpC_any ?_))
  refine evalArgs_plain (wpAny_mono h (fun vs s₁ h₁ => ?_) fun _ _ x => x)
  refine wpC_bind (wpC_standAt ?_)
  simp only [hp, List.any_nil, Bool.or_false]
  refine wpC_bind (wpC_pure ?_)
  exact wpC_bind (wpC_mono h₁ (fun r s₂ hr => wpC_bind (wpC_holding (wpC_any (wpAny_point (wpC_pure hr))))) fun _ _ x => x)

theorem wpC_callMarked {mark f : Value} {ps : List Value} {kw : List (Str × Value)} {Q : Value → Shared → Prop} (h : wpC (model prog w) A (call f ps kw) Q NoE s) : wpC (model prog w) A (callMarked mark f ps kw) Q NoE s := fun Γ p hΓ hc hb => by
  unfold callMarked
  rw [Sem.wp_keep]; exact h Γ p hΓ hc hb
theorem callWithC_fn {P : Params} {env : Env} {pos : Pos} {f : Addr} {e : Expr} {rest : List Expr} {Q : Value → Shared → Prop} (hf : ∃ oc od fd osl, (KF P).lookup f = some ⟨oc, od, .func fd, osl⟩)
    (h : wpAny (model prog w) A (spliced (backTo pos (starEach (e :: rest) env))) (fun vs s₁ => Wd P s₁.heap ∧ wpC (model prog w) A (call (.ref f) vs) Q NoE s₁) NoE s)
    (he : starEach (e :: rest) env = (false, eval e env) :: starEach rest env := by rfl)
    (hplain : (backTo pos (starEach rest env)).any (·.1) = false := by rfl) (hfew : (backTo pos (starEach (e :: rest) env)).length ≤ 30 := by decide) :
    wpC (model prog w) A (callWith pos (.ref f) [] (backTo pos (starEach (e :: rest) env)) []) Q NoE s := by
  obtain ⟨oc, od, fd, osl, hl⟩ := hf
  have hp : (backTo pos (starEach (e :: rest) env)).any (·.1) = false := by rw [he]; show (false || (backTo pos (starEach rest env)).any (·.1)) = false; rw [hplain]; rfl
  have h' : wpAny (model prog w) A (evalArgs (.ref f) true (backTo pos (starEach (e :: rest) env)) []) (fun a s₁ => a.kw = [] ∧ Wd P s₁.heap ∧ wpC (model prog w) A (call (.ref f) a.pos) Q NoE s₁) NoE s := by
    rw [he] at h ⊢
    exact evalArgs_plain (wpAny_mono h (fun vs s₁ h₁ => ⟨rfl, h₁⟩) fun _ _ x => x)
  unfold callWith
  refine wpC_bind (wpC_holding (wpC_any (wpAny_mono h' (fun a s₁ h₁ => ?_) fun _ _ x => x)))
  obtain ⟨hkw, hW, hcall⟩ := h₁
  refine wpC_bind (wpC_standAt ?_)
  simp only [hp, List.any_nil, Bool.or_false, List.nil_append, hkw]
  have ho := hW.K f _ hl
  refine wpC_bind (m := keeperOf (.ref f)) ?_
  unfold keeperOf
  refine wpC_any ?_
  refine wpAny_bind (wpAny_load ho ?_)
  refine wpAny_pure ?_
  dsimp only
  rw [if_neg (by simp only [List.length_nil, Nat.mul_zero, Nat.add_zero]; omega)]
  exact wpC_bind (wpC_mono (wpC_callMarked hcall) (fun r s₂ hr => wpC_bind (wpC_holding (wpC_any (wpAny_point (wpC_pure hr))))) fun _ _ x => x)
end
end Mine
end

section
open PySem PySem.W PyProof.Rows PySem.Calls
set_option maxRecDepth 100000
namespace Mine
set_option pp.deepTerms false
set_option pp.deepTerms.threshold 3

section
variable {prog : Program} {w : World} {A : Around}

theorem wpC_standIf {α : Type} {M : Model} {E : Value → Shared → Prop} {s : Shared} {c : Prop} [Decidable c] {pos : Pos} {k : PUnit → Sem α} {Q : α → Shared → Prop} (h : wpC M A (k ()) Q E s) :
    wpC M A (if c then (standAt pos >>= k) else k ()) Q E s := by
  split
  · exact wpC_bind (wpC_standAt h)
  · exact h

theorem compLoopC_gen {elt : Expr} {gens : List Comprehension} {scope : Scope} {pos p : Pos} {depth : Nat} {it acc : Value} {env : Env} {target : Expr} {body : Sem Unit} {R : Result → Shared → Prop} {s : Shared}
    (heq : compTurn (.ListComp elt gens scope pos) depth it acc env = (standAt p >>= fun _ => pyNext it >>= fun r => match r with
      | none => pure (.done .next)
      | some v => letOwnedTupleGo target it v >>= fun _ => assign target env v >>= fun _ => body >>= fun _ => again (.compLoop (.ListComp elt gens scope pos) depth it acc env)))
    (I : Nat → Shared → Prop)
    (turn : ∀ n s, I n s → wpAny (model prog w) A (pyNext it) (fun r s₁ => match r with
      | none => R (.ok .next) s₁
      | some v => wpAny (model prog w) A (letOwnedTupleGo target it v) (fun _ s₁' => wpAny (model prog w) A (assign target env v) (fun _ s₂ =>
          wpC (model prog w) A body (fun _ s₃ => ∃ m, m < n ∧ I m s₃) NoE s₂) NoE s₁') NoE s₁) NoE s)
    (n : Nat) (h : I n s) : codeC (model prog w) A (.compLoop (.ListComp elt gens scope pos) depth it acc env) R s := by
  refine codeC_loop rfl rfl I (fun n s hI => ?_) n h
  show wpC _ A ((compTurn (.ListComp elt gens scope pos) depth it acc env).onRaise (fun x => do noteFrame x env; theTreesLotGoes x)) _ _ s
  refine wpC_onRaise ?_
  rw [heq]
  refine wpC_bind (wpC_standAt (wpC_bind (wpC_any (wpAny_mono (turn n s hI) (fun r s₁ h₁ => ?_) fun _ _ h' => h'))))
  cases r with
  | none => exact wpC_pure h₁
  | some v =>
    exact wpC_bind (wpC_any (wpAny_mono h₁ (fun _ s₁' h₁' => wpC_bind (wpC_any (wpAny_mono h₁' (fun _ s₂ h₂ => wpC_bind (wpC_mono h₂ (fun _ s₃ h₃ => wpC_pure ⟨rfl, h₃⟩) fun _ _ h' => h')) fun _ _ h' => h'))) fun _ _ h' => h'))

theorem compLoopC_turns {elt : Expr} {gens : List Comprehension} {scope : Scope} {pos p : Pos} {depth : Nat} {I : Addr} {acc : Value} {env : Env} {target : Expr} {body : Sem Unit} {R : Result → Shared → Prop} {s : Shared}
    {fp wr : List Addr} {n : Nat} {P Md : Nat → Value → Heap → Prop} {St : Nat → Heap → Prop} (W : KTurns prog w A target I fp wr n P Md St)
    (heq : compTurn (.ListComp elt gens scope pos) depth (.ref I) acc env = (standAt p >>= fun _ => pyNext (.ref I) >>= fun r => match r with
      | none => pure (.done .next)
      | some v => letOwnedTupleGo target (.ref I) v >>= fun _ => assign target env v >>= fun _ => body >>= fun _ => again (.compLoop (.ListComp elt gens scope pos) depth (.ref I) acc env)))
    (J : Nat → Shared → Prop) (hst : St 0 s.heap) (h0 : J 0 s)
    (Jwr : ∀ i s h' tk, J i s → KB wr s.heap h' → J i { s with heap := h', toks := tk })
    (step : ∀ i v s, i < n → J i s → P i v s.heap → St (i + 1) s.heap → wpAny (model prog w) A (assign target env v) (fun _ s₂ => wpC (model prog w) A body (fun _ s₃ => J (i + 1) s₃ ∧ FpKept fp s s₃) NoE s₂) NoE s)
    (hR : ∀ s, J n s → R (.ok .next) s) : codeC (model prog w) A (.compLoop (.ListComp elt gens scope pos) depth (.ref I) acc env) R s := by
  refine compLoopC_gen heq (fun k s' => ∃ i, i ≤ n ∧ k = n + 1 - i ∧ St i s'.heap ∧ J i s') ?_ (n + 1) ⟨0, Nat.zero_le _, rfl, hst, h0⟩
  rintro k s' ⟨i, hi, rfl, hst', hJ⟩
  by_cases hlt : i < n
  · refine W.item i _ _ _ hlt hst' fun v h₁ tk₁ hMd hk₁ => ?_
    refine W.go i v _ _ _ hMd fun h₂ hP hst₂ hk₂ => ?_
    have hJ₂ := Jwr i s' h₂ tk₁ hJ fun b o hb e => hk₂ b o hb (hk₁ b o hb e)
    refine wpAny_mono (step i v _ hlt hJ₂ hP hst₂) (fun _ s₂ q => wpC_mono q (fun _ s₃ q => ?_) fun _ _ f => f) fun _ _ f => f
    exact ⟨n + 1 - (i + 1), by omega, i + 1, hlt, rfl, W.frame _ _ _ hst₂ q.2, q.1⟩
  · have hin : i = n := by omega
    subst hin
    refine W.done _ _ _ hst' fun h₁ tk₁ hk₁ => ?_
    exact hR _ (Jwr i s' h₁ tk₁ hJ hk₁)

theorem wpC_compStart {elt : Expr} {gens : List Comprehension} {c : Comprehension} {scope : Scope} {pos : Pos} {depth : Nat} {it acc : Value} {env : Env} {R : Result → Shared → Prop} {s : Shared}
    (hc : gens[depth]? = some c) (ha : c.is_async = 0)
    (h0 : codeC (model prog w) A (.compLoop (.ListComp elt gens scope pos) depth it acc env) R s)
    (h : wpAny (model prog w) A (pyIter it) (fun it' s' => codeC (model prog w) A (.compLoop (.ListComp elt gens scope pos) depth it' acc env) R s') NoE s) :
    codeC (model prog w) A (.compStart (.ListComp elt gens scope pos) depth it acc env) R s := by
  refine codeC_of_tree rfl ?_
  show wpC _ A ((compStart (.ListComp elt gens scope pos) depth it acc env).onRaise (fun x => do noteFrame x env; standAt theWindowsPlace)) _ _ s
  refine wpC_onRaise (wpC_any ?_)
  unfold compStart
  simp only [clausesOf, hc, ha, Option.elim]
  show wpAny _ _ (ask >>= _) _ _ s
  refine wpAny_bind (wpAny_askSetting (wpAny_ite ?_))
  split
  · exact wpAny_pure (And.intro rfl h0)
  · exact wpAny_bind (wpAny_rule (wpAny_bind (wpAny_standAt (wpAny_bind (wpAny_mono h (fun it' s' h' => wpAny_pure (And.intro rfl h')) fun _ _ x => x)))))

/-- behind a comprehension, calm, its value used -/
theorem wpC_comprehension_used {e : Expr} {scope : Scope} {pos : Pos} {newAcc first : Sem Value} {g : Comprehension} {gs : List Comprehension} {cl : List (Str × Addr)} {u : Value → Sem Unit} {env : Env} {s : Shared}
    {Q : Value → Shared → Prop}
    (hcl : clausesOf e = g :: gs) (hs : ∀ x, foldedSetIterable g.iter env x = pure x) (hclos : closureFor scope env = pure cl)
    (hkind : scope.kind = .function) (hnames : ∀ x ∈ scope.names, x.2 = .local → scope.names.lookup x.1 = some .local)
    (h : wpAny (model prog w) A first (fun x s₁ => wpAny (model prog w) A (pyIter x) (fun it s₂ => wpAny (model prog w) A newAcc (fun acc s₃ =>
      wpAny (model prog w) A (newFunctionEnv scope env.globals cl [] env.qual none .none (some env)) (fun cenv s₄ =>
        codeC (model prog w) A (.compStart e 0 it acc { cenv with scope := relabel scope env }) (fun r s' => match r with
          | .ok _ => wpAny (model prog w) A (u acc) (fun _ s'' => ∃ m, s''.heap.Ns cenv.locals m ∧ ∀ h', Heap.SameBut cenv.locals s''.heap h' → Q .none { s'' with heap := h' }) NoE s'
          | .error _ => False) s₄) NoE s₃) NoE s₂) NoE s₁) NoE s) :
    wpC (model prog w) A (comprehension e scope env pos newAcc false first (some u)) Q NoE s := by
  unfold comprehension
  rw [hclos, hcl]
  refine wpC_bind (wpC_any ?_)
  refine wpAny_mono h (fun x s₁ h₁ => ?_) fun _ _ f => f
  refine wpC_bind (wpC_standAt ?_)
  refine wpC_bind (wpC_any (wpAny_of_eq (hs x) ?_))
  refine wpC_bind (wpC_holding (wpC_any ?_))
  refine wpAny_mono h₁ (fun it s₂ h₂ => ?_) fun _ _ f => f
  refine wpC_standIf (wpC_bind (wpC_any ?_))
  refine wpAny_mono h₂ (fun acc s₃ h₃ => ?_) fun _ _ f => f
  refine wpC_bind (wpC_pure (wpC_bind (wpC_any ?_)))
  refine wpAny_mono h₃ (fun cenv s₄ h₄ => ?_) fun _ _ f => f
  dsimp only
  refine wpC_holding (wpC_bind (wpC_attempt (wpC_holding (wpC_run ?_ (by intro q; cases q)))))
  refine codeC_mono h₄ fun r s' hr => ?_
  match r, hr with
  | .error _, hr => exact hr.elim
  | .ok _, hr =>
    refine wpC_bind (wpC_any (wpAny_rule (wpC_bind (wpC_holding (wpC_any ?_)))))
    refine wpAny_mono hr (fun _ s'' q => ?_) fun _ _ f => f.elim
    obtain ⟨m, hns, hq⟩ := q
    refine wpC_bind (wpC_any (wpAny_comp_letGo (cenv := { cenv with scope := relabel scope env }) hkind _ s'' m (fun x hx hl => ?_) hns fun h' _ _ hs' => wpC_pure (hq h' hs')))
    have hx' := (List.mem_append.mp hx).elim List.mem_of_mem_drop List.mem_of_mem_take
    exact lookup_relabel_local (hnames x (List.mem_filter.mp (List.mem_reverse.mp hx')).1 hl)
end
end Mine
end

section
open PySem PySem.W PyProof.Rows PySem.Calls
set_option maxRecDepth 100000
namespace Mine
set_option pp.deepTerms false
set_option pp.deepTerms.threshold 3

section
variable {prog : Program} {w : World} {A : Around}
theorem comp_loop_envC {β : Type} {R : Rp β} (MR : Mono R) {g : View} {s : Shared} {cenv : Env} {own : List Addr} {D : Addr} {Pm : (Str → Option Value) → (Str → Option Value) → Prop}
    {elt : Expr} {gens : List Comprehension} {scope : Scope} {pos p : Pos} {depth : Nat} {I : Addr} {target : Expr} {body : Sem Unit} {RR : Result → Shared → Prop} {s₀ : Shared}
    {fp wr : List Addr} {n : Nat} {P Md : Nat → Value → Heap → Prop} {St : Nat → Heap → Prop} (W : KTurns prog w A target I fp wr n P Md St)
    (heq : compTurn (.ListComp elt gens scope pos) depth (.ref I) (.ref D) cenv = (standAt p >>= fun _ => pyNext (.ref I) >>= fun r => match r with
      | none => pure (.done .next)
      | some v => letOwnedTupleGo target (.ref I) v >>= fun _ => assign target cenv v >>= fun _ => body >>= fun _ => again (.compLoop (.ListComp elt gens scope pos) depth (.ref I) (.ref D) cenv)))
    (outs : Nat → List β) {m₀ cm₀ : Str → Option Value} {gt₀ g₀ : View} {ht₀ : Heap} {y0 : Array Value}
    (X : InEnv g s cenv own gt₀ ht₀ m₀ cm₀ g₀ s₀) (hPm : Pm m₀ cm₀) (hD : s₀.heap.PlainList D y0) (hDs : s.heap.get? D = none) (hDg : g₀ D = none) (hDo : D ∉ own) (hDf : D ∉ fp) (hDc : ∀ n c, cenv.cells.lookup n = some c → c ≠ D)
    (hst : St 0 s₀.heap) (hlv : ∀ i h, St i h → ∀ b ∈ wr, ∃ o, h.get? b = some o) (hwr : ∀ b ∈ wr, s.heap.get? b = none ∧ g₀ b = none) (hfp : ∀ b ∈ fp, (∃ o, s₀.heap.get? b = some o) ∧ b ∉ own) (hwc : ∀ n c, cenv.cells.lookup n = some c → c ∉ wr)
    {B : Nat} (hsz : ∀ i, i ≤ n → y0.size + ((List.range i).flatMap outs).length ≤ B)
    (step : ∀ i v s₁ m cm g₁ ys, i < n → InEnv g s cenv own g₁ s₁.heap m cm g₁ s₁ → Pm m cm → P i v s₁.heap → s₁.heap.PlainList D ys → g₁ D = none → ys.size ≤ B → VLe g₀ g₁ →
      wpAny (model prog w) A (assign target cenv v) (fun _ s₂ => wpC (model prog w) A body (fun _ s₃ => StepEnd R g s cenv own D Pm g₁ s₁.heap ys (outs i) s₃) NoE s₂) NoE s₁)
    (hR : ∀ s', LoopInv R g s cenv own D wr Pm g₀ s₀.heap y0 ((List.range n).flatMap outs) s' → RR (.ok .next) s') :
    codeC (model prog w) A (.compLoop (.ListComp elt gens scope pos) depth (.ref I) (.ref D) cenv) RR s₀ := by
  refine compLoopC_turns W heq (fun i s' => i ≤ n ∧ LoopInv R g s cenv own D wr Pm g₀ s₀.heap y0 ((List.range i).flatMap outs) s') hst
    ⟨Nat.zero_le _, m₀, cm₀, g₀, gt₀, ht₀, #[], X, by simpa using hD, hDg, .nil, hPm, VLe.refl _, fun _ _ e => .inl e, KB.refl _ _⟩ ?_ ?_ ?_
  · rintro i s' h' tk ⟨hi, m, cm, g', gt, ht, ys, X', hl, hg, hp, hm, hle, hnew, hkb⟩ hk
    have hwo : ∀ b ∈ wr, b ∉ own := fun b hb => (hfp b (W.sub b hb)).2
    have hwg : ∀ b ∈ wr, g' b = none := fun b hb => by
      cases hx : g' b with
      | none => rfl
      | some o =>
        rcases hnew b o hx with h | h
        · rw [(hwr b hb).2] at h; cases h
        · obtain ⟨o', e⟩ := (hfp b (W.sub b hb)).1; rw [e] at h; cases h
    refine ⟨hi, m, cm, g', g', h', ys, X'.kb tk hk (fun b hb => (hwr b hb).1) hwg hwo hwc, hl.at fun o e => hk D o (fun q => hDf (W.sub _ q)) e, hg, hp, hm, hle, hnew, hkb.trans (hk.mono fun b hb => by simp [hb])⟩
  · rintro i v s₁ hlt ⟨hi, m, cm, g', gt, ht, ys, X', hl, hg, hp, hm, hle, hnew, hkb⟩ hP hSt
    have hys : (y0 ++ ys).size ≤ B := by
      have := hsz i (Nat.le_of_lt hlt)
      rw [← hp.length] at this
      simpa using this
    refine wpAny_mono (step i v s₁ m cm g' _ hlt X'.rebase hm hP hl hg hys hle) (fun _ s₂ q => wpC_mono q (fun _ s₃ q => ?_) fun _ _ f => f) fun _ _ f => f
    obtain ⟨m', cm', g₃, gt', ht', zs, X₃, hm₃, hle₃, hnew₃, hkb₃, hl₃, hp₃⟩ := q
    have hD₁ : ∃ o, s₁.heap.get? D = some o := let ⟨k, e⟩ := hl; ⟨_, e⟩
    refine ⟨⟨hlt, m', cm', g₃, gt', ht', ys ++ zs, X₃, by simpa [Array.append_assoc] using hl₃, ?_, ?_, hm₃, hle.trans hle₃, ?_, hkb.trans (hkb₃.mono fun b hb => ?_)⟩, ?_⟩
    · cases hx : g₃ D with
      | none => rfl
      | some o =>
        rcases hnew₃ D o hx with h | h
        · rw [hg] at h; cases h
        · obtain ⟨o', e⟩ := hD₁; rw [e] at h; cases h
    · rw [List.range_succ, List.flatMap_append, Array.toList_append]
      exact Paired.append (Paired.mono' (fun _ _ q => MR _ _ _ _ hle₃ q) hp) (by simpa using hp₃)
    · intro b o e
      rcases hnew₃ b o e with h | h
      · exact hnew b o h
      · right
        cases hx : s₀.heap.get? b with
        | none => rfl
        | some o' =>
          by_cases hbD : b = D
          · subst hbD; obtain ⟨o'', e'⟩ := hD₁; rw [e'] at h; cases h
          · by_cases hbo : b ∈ own
            · obtain ⟨o'', e'⟩ := X'.live b hbo; rw [e'] at h; cases h
            · by_cases hbw : b ∈ wr
              · obtain ⟨o'', e'⟩ := hlv _ _ hSt b hbw; rw [e'] at h; cases h
              · rw [hkb b o' (by simp [hbD, hbo, hbw]) hx] at h; cases h
    · rcases List.mem_cons.mp hb with rfl | hb
      · exact List.mem_cons_self
      · exact List.mem_cons_of_mem _ (List.mem_append_left _ hb)
    · intro b hb o e
      exact hkb₃ b o (by
        intro q
        rcases List.mem_cons.mp q with rfl | q
        · exact hDf hb
        · exact (hfp b hb).2 q) e
  · rintro s' ⟨_, q⟩
    exact hR s' q

section
variable {β : Type} {R : Rp β} {g : View} {s : Shared} {cenv : Env} {own : List Addr} {D : Addr} {Pm : (Str → Option Value) → (Str → Option Value) → Prop} {g₁ : View} {h₁ : Heap} {ys : Array Value}
/-- one item is laid into the list -/
theorem body1_C {ifs : List Expr} {elt : Expr} {out : List β} {s₂ : Shared} (hDs : s.heap.get? D = none) (hDo : D ∉ own) (hDc : ∀ n c, cenv.cells.lookup n = some c → c ≠ D)
    (hl : h₁.PlainList D ys) (hDg : g₁ D = none) (hsz : ys.size ≤ 1000000)
    (h : wpAny (model prog w) A (tests ifs cenv) (fun ok s₃ => if ok = true then wpC (model prog w) A (eval elt cenv) (fun y s₄ => ∃ m cm g₄ z, InEnv g s cenv own g₁ h₁ m cm g₄ s₄ ∧ Pm m cm ∧ R g₄ y z ∧ out = [z]) NoE s₃
      else ∃ m cm g₄, InEnv g s cenv own g₁ h₁ m cm g₄ s₃ ∧ Pm m cm ∧ out = []) NoE s₂) :
    wpC (model prog w) A (body1 ifs elt (.ref D) cenv) (fun _ s₃ => StepEnd R g s cenv own D Pm g₁ h₁ ys out s₃) NoE s₂ := by
  unfold body1
  have gD : ∀ {m cm g₄ s₄}, InEnv g s cenv own g₁ h₁ m cm g₄ s₄ → g₄ D = none := fun {m cm g₄ s₄} X => by
    cases hx : g₄ D with
    | none => rfl
    | some o =>
      rcases X.newS D o hx with h | h
      · rw [hDg] at h; cases h
      · obtain ⟨n, e⟩ := hl; rw [e] at h; cases h
  refine wpC_bind (wpC_any (wpAny_mono h (fun ok s₃ q => ?_) fun _ _ f => f))
  cases ok with
  | false =>
    obtain ⟨m, cm, g₄, X, hm, rfl⟩ := q
    exact wpC_pure ⟨m, cm, g₄, g₁, h₁, #[], X, hm, X.leS, X.newS, X.since.mono fun b hb => List.mem_cons_of_mem _ hb, by simpa using hl.at fun o e => X.get hDo e, .nil⟩
  | true =>
    simp only [if_true] at q ⊢
    unfold emit
    refine wpC_bind (wpC_mono q (fun y s₄ q => ?_) fun _ _ f => f)
    obtain ⟨m, cm, g₄, z, X, hm, hr, rfl⟩ := q
    refine wpC_bind (wpC_any (wpAny_list_append_plain (hl.at fun o e => X.get hDo e) (fun h' hl' hs' => wpC_pure ?_) (Nat.le_trans hsz (by decide))))
    have hlive : ∃ o, h'.get? D = some o := let ⟨n, e⟩ := hl'; ⟨_, e⟩
    refine ⟨m, cm, g₄, _, _, #[y], X.mut s₄.toks hs' hDs (gD X) (fun e => hDo (e ▸ X.locIn)) hDc hlive, hm, X.leS, X.newS, ?_, ?_, .cons hr .nil⟩
    · intro b o hb e
      have hb1 : b ≠ D := fun q => hb (q ▸ List.mem_cons_self)
      exact (hs'.2 b hb1).trans (X.since b o (fun q => hb (List.mem_cons_of_mem _ q)) e)
    · rw [← Array.push_eq_append]; exact hl'
end
variable {β : Type} {R : Rp β}
/-- one turn of a comprehension with one for -/
def TurnC (prog : Program) (w : World) (A : Around) (R : Rp β) (g : View) (s : Shared) (cenv : Env) (own : List Addr) (target elt : Expr) (ifs : List Expr) (Pm : (Str → Option Value) → (Str → Option Value) → Prop) (outs : Nat → List β) (g₂ : View) (n : Nat) (P : Nat → Value → Heap → Prop) : Prop :=
  ∀ i v s₁ m cm g₁, i < n → InEnv g s cenv own g₁ s₁.heap m cm g₁ s₁ → Pm m cm → P i v s₁.heap → VLe g₂ g₁ →
    wpAny (model prog w) A (assign target cenv v) (fun _ s₂ => wpAny (model prog w) A (tests ifs cenv) (fun ok s₃ =>
      if ok = true then wpC (model prog w) A (eval elt cenv) (fun y s₄ => ∃ m cm g₄ z, InEnv g s cenv own g₁ s₁.heap m cm g₄ s₄ ∧ Pm m cm ∧ R g₄ y z ∧ outs i = [z]) NoE s₃
      else ∃ m cm g₄, InEnv g s cenv own g₁ s₁.heap m cm g₄ s₃ ∧ Pm m cm ∧ outs i = []) NoE s₂) NoE s₁

/-- the block of a comprehension with one for, run to its end -/
theorem comp1_coreC {elt target iter : Expr} {ifs : List Expr} {scope : Scope} {pos : Pos} {env : Env} {cl : List (Str × Addr)} {cm : Str → Option Value} {g g₂ : View} {s s₂ : Shared} {n : Nat} {P : Nat → Value → Heap → Prop} {it : Value}
    {RR : Value → Addr → Result → Shared → Prop} (MR : Mono R) (outs : Nat → List β)
    (hcell : ∀ x ∈ scope.names, x.2 ≠ .cell) (hk : scope.kind = .function)
    (hcap : ∀ n c, cl.lookup n = some c → s.heap.IsCell c (cm n)) (hap : ∀ n n' c, cl.lookup n = some c → cl.lookup n' = some c → n = n')
    (G : Grow g s g₂ s₂) (S : Src prog w A target s g₂ it n P s₂) (hsz : ∀ i, i ≤ n → ((List.range i).flatMap outs).length ≤ 1000000)
    (turn : ∀ C, s₂.heap.get? C = none → TurnC prog w A R g s (compEnvC scope cl C env) [C] target elt ifs (fun _ c => c = cm) outs g₂ n P)
    (hRR : ∀ D C m g' s' ys k, InEnv g s (compEnvC scope cl C env) [C] g s.heap m cm g' s' → s'.heap.get? D = some { cls := .type "list", data := .seq ys k } → s.heap.get? D = none → g' D = none → D ≠ C → s₂.heap.get? D = none → s₂.heap.get? C = none → Paired (R g') ys.toList ((List.range n).flatMap outs) → RR (.ref D) C (.ok .next) s') :
    wpAny (model prog w) A (newList []) (fun acc s₃ => wpAny (model prog w) A (newFunctionEnv scope env.globals cl [] env.qual none .none (some env)) (fun cenv s₄ =>
      codeC (model prog w) A (.compStart (.ListComp elt [⟨target, iter, ifs, 0⟩] scope pos) 0 it acc { cenv with scope := relabel scope env }) (RR acc cenv.locals) s₄) NoE s₃) NoE s₂ := by
  obtain ⟨I, fp, wr, Md, St, rfl, W, hst, hwr, hfp, _, hlv, hself⟩ := S.ex
  refine comp_block (cm := cm) G hcell hk hcap hap fun D C s₄ X hl hDs hDg hDC hD2 hC2 K2 hsz2 => ?_
  show codeC _ _ (.compStart _ 0 (.ref I) (.ref D) (compEnvC scope cl C env)) (RR (.ref D) C) s₄
  have hst₄ : St 0 s₄.heap := W.frame _ _ _ hst fun b _ o e => keeps_get K2 e
  have loop : codeC (model prog w) A (.compLoop (.ListComp elt [⟨target, iter, ifs, 0⟩] scope pos) 0 (.ref I) (.ref D) (compEnvC scope cl C env)) (RR (.ref D) C) s₄ := by
    have apartF : ∀ b ∈ fp, b ≠ D ∧ b ≠ C := fun b hb => by
      obtain ⟨o, e⟩ := hfp b hb
      exact ⟨fun q => (by rw [q, hD2] at e; cases e), fun q => (by rw [q, hC2] at e; cases e)⟩
    have capD : ∀ n c, (compEnvC scope cl C env).cells.lookup n = some c → c ≠ D := fun n c e => by
      obtain ⟨o, ho, _⟩ := hcap n c e
      exact fun q => by rw [q, hDs] at ho; cases ho
    refine comp_loop_envC (B := 1000000) MR (Pm := fun _ c => c = cm) W (heq_one ..) outs (y0 := #[]) X rfl hl hDs hDg (by simpa using hDC) (fun q => (apartF D q).1 rfl) capD hst₄ hlv (fun b hb => hwr b hb)
      (fun b hb => ⟨let ⟨o, e⟩ := hfp b hb; ⟨o, keeps_get K2 e⟩, by simpa using (apartF b hb).2⟩) (fun n c e q => ?_) (fun i hi => by simpa using hsz i hi) ?_ ?_
    · obtain ⟨o, ho, _⟩ := hcap n c e
      rw [(hwr c q).1] at ho; cases ho
    · intro i v s₁ m cm' g₁ ys hlt X₁ hm hP hl₁ hg₁ hys hle
      refine wpAny_mono (turn C hC2 i v s₁ m cm' g₁ hlt X₁ hm hP hle) (fun _ s₂' q => ?_) fun _ _ f => f
      exact body1_C hDs (by simpa using hDC) capD hl₁ hg₁ hys q
    · rintro s' ⟨m, cm', g', gt, ht, ys, X', hl', hg', hp, rfl, hle, hnew, hkb⟩
      obtain ⟨k, hk'⟩ := hl'
      simp only [Array.empty_append] at hk'
      refine hRR D C m g' s' ys k ?_ hk' hDs hg' hDC hD2 hC2 hp
      exact { X' with since := fun b o _ e => keeps_get X'.grow.keeps e, leS := X'.grow.le, newS := X'.grow.new, was := fun _ _ e => e }
  exact wpC_compStart rfl rfl loop (hself _ _ _ hst₄ loop)
/-- the source of a comprehension and its turns -/
def CompC (prog : Program) (w : World) (A : Around) (R : Rp β) (g : View) (s : Shared) (env : Env) (scope : Scope) (cl : List (Str × Addr)) (cm : Str → Option Value) (target elt : Expr) (ifs : List Expr) (outs : Nat → List β) (n : Nat) (it : Value) (s₂ : Shared) : Prop :=
  ∃ g₂ P, Grow g s g₂ s₂ ∧ Src prog w A target s g₂ it n P s₂ ∧ ∀ C, s₂.heap.get? C = none → TurnC prog w A R g s (compEnvC scope cl C env) [C] target elt ifs (fun _ c => c = cm) outs g₂ n P

theorem st_comp1C {elt target iter : Expr} {ifs : List Expr} {scope : Scope} {pos py spos : Pos} {y : Str} {env : Env} {own : List Addr} {gt : View} {ht : Heap} {m₀ cm₀ : Str → Option Value} {cl : List (Str × Addr)} {cm : Str → Option Value} {g₀ g : View} {s₀ s : Shared} {n : Nat} {Q : Flow → Shared → Prop} (MR : Mono R) (outs : Nat → List β)
    (X₀ : InEnv g₀ s₀ env own gt ht m₀ cm₀ g s)
    (hsw : swapsWith (.ListComp elt [⟨target, iter, ifs, 0⟩] scope pos) (some (.Name y py)) spos.line env = pure true)
    (hclos : closureFor scope env = pure cl) (hcell : ∀ x ∈ scope.names, x.2 ≠ .cell) (hk : scope.kind = .function) (hnames : ∀ x ∈ scope.names, x.2 = .local → scope.names.lookup x.1 = some .local)
    (hcap : ∀ n c, cl.lookup n = some c → s.heap.IsCell c (cm n)) (hap : ∀ n n' c, cl.lookup n = some c → cl.lookup n' = some c → n = n') (hsz : ∀ i, i ≤ n → ((List.range i).flatMap outs).length ≤ 1000000)
    (h : wpAny (model prog w) A (eval iter env) (fun xv s₁ => wpAny (model prog w) A (pyIter xv) (fun it s₂ => CompC prog w A R g s env scope cl cm target elt ifs outs n it s₂) NoE s₁) NoE s)
    (hQ : ∀ v g' s', InEnv g₀ s₀ env own gt ht (fun z => if z = y then some v else m₀ z) cm₀ g' s' → VLe g g' → KB [env.locals] s.heap s'.heap → RList R g' v ((List.range n).flatMap outs) → Q .next s')
    (hek : env.scope.kind = .function := by rfl) (hl : env.kindOf y = some .local := by rfl)
    (hs : ∀ x, foldedSetIterable iter env x = pure x := by intro _; rfl) :
    wpC (model prog w) A (exec (.Assign [.Name y py] (.ListComp elt [⟨target, iter, ifs, 0⟩] scope pos) spos) env) Q NoE s := by
  rw [exec_Assign_Name_used _ _ _ _ hsw]
  refine wpC_bind (wpC_standAt (wpC_bind ?_))
  show wpC _ A (do let _ ← comprehension (.ListComp elt [⟨target, iter, ifs, 0⟩] scope pos) scope env _ (newList []) false (eval iter env) (some (assign (.Name y py) env))) _ _ s
  refine wpC_bind (wpC_mono (wpC_comprehension_used (u := assign (.Name y py) env) (Q := fun _ s' => Q .next s') rfl hs hclos hk hnames
    (wpAny_mono h (fun xv s₁ h₁ => wpAny_mono h₁ (fun it s₂ h₂ => ?_) fun _ _ e => e) fun _ _ e => e)) (fun _ s' hq => wpC_pure (wpC_pure hq)) fun _ _ e => e)
  obtain ⟨g₂, P, G, S, turn⟩ := h₂
  refine comp1_coreC (RR := fun acc C r s' => match r with
    | .ok _ => wpAny (model prog w) A (assign (.Name y py) env acc) (fun _ s'' => ∃ m, s''.heap.Ns C m ∧ ∀ h', Heap.SameBut C s''.heap h' → Q .next { s'' with heap := h' }) NoE s'
    | .error _ => False) MR outs hcell hk hcap hap G S hsz turn ?_
  intro D C m g' s' ys k X hD hDs hg hDC hD2 hC2 hp
  have GD : Grow g s (addv g' D { cls := .type "list", data := .seq ys k }) s' := X.grow.add hD hDs
  have X₁ := X₀.step GD
  have hCs : s.heap.get? C = none := X.fresh C List.mem_cons_self
  have hCL : env.locals ≠ C := fun q => by obtain ⟨o, e⟩ := X₀.live _ X₀.locIn; rw [q, hCs] at e; cases e
  show wpAny _ A (assign (.Name y py) env (.ref D)) _ _ _
  refine wpAny_assign_Name (st_local X₁ (fun s₃ X₃ hkb => ?_) hek hl)
  refine ⟨m, X.ns.at' fun o e => hkb C o (by simpa using Ne.symm hCL) e, fun h' hs' => ?_⟩
  show Q Flow.next { s₃ with heap := h' }
  refine hQ (.ref D) _ _ (X₃.kbFresh s₃.toks (kb_sameBut hs') ?_ ?_ ?_ ?_ ?_) GD.le (fun b o hb e => (hs'.2 b (fun q => by rw [q, hCs] at e; cases e)).trans (hkb b o hb (keeps_get GD.keeps e))) (rlist_of MR hg hp)
  · intro b hb; rw [List.mem_singleton] at hb; subst hb
    cases hx : s₀.heap.get? b with
    | none => rfl
    | some o => rw [keeps_get X₀.grow.keeps hx] at hCs; cases hCs
  · intro b hb; rw [List.mem_singleton] at hb; subst hb
    simp [addv, Ne.symm hDC, X.out b List.mem_cons_self]
  · intro b hb q; rw [List.mem_singleton] at hb; subst hb
    obtain ⟨o, e⟩ := X₀.live _ q; rw [hCs] at e; cases e
  · intro n c e q; rw [List.mem_singleton] at q; subst q
    obtain ⟨o, e', _⟩ := X₀.cell _ _ e; rw [hCs] at e'; cases e'
  · intro b hb; rw [List.mem_singleton] at hb; subst hb
    cases hx : ht.get? b with
    | none => rfl
    | some o =>
      have hbo : b ∉ own := fun q => by obtain ⟨o, e⟩ := X₀.live _ q; rw [hCs] at e; cases e
      rw [X₀.since b o hbo hx] at hCs; cases hCs
end
end Mine
end

section
open PySem PySem.W PyProof.Rows PySem.Calls
set_option maxRecDepth 100000
namespace Mine

/-- what the call of law must do -/
def LawSpec (prog : Program) : Prop := ∀ (w : World) (s : Shared) (a : Addr) (vs : Array Value) (ns : List Int) (Q : Value → Shared → Prop), Wd w.params s.heap → s.heap.IsList a vs → Paired (RInt fun _ => none) vs.toList ns → ns.length ≤ 1048576 →
  (∀ s', Keeps s s' → Q (.bool true) s') → wpC (model prog w) callerA (call (.ref 98) [.ref a]) Q NoE s

theorem paired_ints {R : WRecords} {cl : Str → Option Addr} {h : Heap} : ∀ (ns : List Int) (vs : List Value) (as : List Addr), ReadsAllW R cl h vs (ns.map .int) as → Paired (RInt fun _ => none) vs ns
  | [], vs, as, r => by obtain ⟨rfl, _⟩ := readsAllW_nil_inv r; exact .nil
  | n :: ns, vs, as, r => by
    obtain ⟨v, vs', as1, as2, rfl, rfl, r1, r2⟩ := readsAllW_cons_inv r
    obtain ⟨t, rfl, _⟩ := readsW_int_inv r1
    exact .cons ⟨t, rfl⟩ (paired_ints ns vs' as2 r2)

theorem gl_law (P) : nsIn (KF P) mainGlobals "law" = some (some (.ref 98)) := by kernel_rfl

theorem holds_of (H : LawSpec Challenge.pw_wn0008_01) : Challenge.rw_wn0008_01.Holds := by
  refine hd ?_
  intro w s₀ s mg mb G Y f hf ns vals as hlen hrd
  have KX : (KF w.params).In s.heap := kIn_of Y
  obtain rfl : Value.ref 98 = f := Option.some.inj ((mg_of KX G.T.g (gl_law w.params)).symm.trans hf)
  obtain ⟨v, vs', as1, as2, rfl, rfl, r1, r2⟩ := readsAllW_cons_inv hrd
  obtain ⟨rfl, rfl⟩ := readsAllW_nil_inv r2
  obtain ⟨a, vs, as', rfl, hL, ra, rfl⟩ := readsW_list_inv r1
  exact H w s a vs ns _ ⟨KX, ⟨mg, G.T.g⟩, ⟨mb, G.T.b, G.T.builtins⟩, G.T.nolimit⟩ hL (paired_ints ns _ _ ra) hlen fun s' k => ⟨rfl, k⟩
end Mine
end

section
open PySem PySem.W PyProof.Rows PySem.Calls
set_option maxRecDepth 100000
namespace Mine
set_option pp.deepTerms false
set_option pp.deepTerms.threshold 2

theorem bw_zeros (n : Nat) : Array.replicate n 0 = bw (List.replicate n 0) := by
  apply Array.ext'; simp [bw, Nat.toUInt8]
theorem bw_set (m c : Nat) (r : List Nat) : (bw (List.replicate (m + 1) 0 ++ r)).setIfInBounds m c.toUInt8 = bw (List.replicate m 0 ++ c :: r) := by
  apply Array.ext'
  rw [Array.toList_setIfInBounds]
  simp only [bw, List.map_append, List.map_replicate, List.map_cons]
  have key : ∀ (m : Nat) (z x : UInt8) (q : List UInt8), (List.replicate (m + 1) z ++ q).set m x = List.replicate m z ++ x :: q := by
    intro m z x q
    induction m with
    | zero => rfl
    | succ m ih => rw [List.replicate_succ, List.cons_append, List.set_cons_succ, ih]; rfl
  exact key _ _ _ _

section
variable {prog : Program} {w : World} {A : Around} {g g₁ : View} {s s₁ : Shared} {Q : Value → Shared → Prop}
/-- range(0, n, max n 1) of at most four -/
theorem src_rangeW {n : Nat} {r : Addr} {t u u' : Tok} (hh : A.handled = none) (hr : IsRange s₁.heap r 0 n (max n 1 : Nat) t u u') (hn : n ≤ 4) (G : Grow g s g₁ s₁)
    (hQ : ∀ it s₂, Grow g s g₁ s₂ → (∀ target, Src prog w A target s g₁ it (min n 1) (fun i u _ => i = 0 ∧ i < min n 1 ∧ RNat g₁ u 0) s₂) → Q it s₂) :
    wpAny (model prog w) A (pyIter (.ref r)) Q NoE s₁ := by
  have hsm : Builtin.Range.small 0 (n : Int) (max n 1 : Nat) = true ∧ Builtin.Range.rangeSize 0 (n : Int) (max n 1 : Nat) = (min n 1 : Nat) := by
    have : n = 0 ∨ n = 1 ∨ n = 2 ∨ n = 3 ∨ n = 4 := by omega
    rcases this with rfl | rfl | rfl | rfl | rfl <;> decide
  refine wpAny_pyIter_range hr hsm.1 ?_
  rw [hsm.2]
  have h0 := G.none₀ none_of_size
  have W0 : Walks prog w A s₁.heap.objs.size [s₁.heap.objs.size] [s₁.heap.objs.size] (min n 1) (fun i v => i < min n 1 ∧ ∃ t, v = .int (0 + (i : Int) * (max n 1 : Nat)) t) (fun i h => IsRangeIter h s₁.heap.objs.size (0 + (i : Nat) * (max n 1 : Nat)) (((min n 1 : Nat) : Int) - (i : Nat)) (max n 1 : Nat)) := (Walks.range hh _ 0 _ _).bound
  refine hQ _ _ (G.push _ _) fun target => ⟨s₁.heap.objs.size, [s₁.heap.objs.size], [s₁.heap.objs.size], _, _, rfl,
    KTurns.weaken' (KTurns.ofWalks W0 fun i v s Q E st q => ?_) ?_, ?_, ?_, ?_, ?_, ?_, ?_⟩
  · unfold letOwnedTupleGo
    cases target <;> first
      | exact wpAny_pure q
      | (cases v <;> first
          | exact wpAny_pure q
          | (refine wpAny_bind (wpAny_load st ?_)
             exact wpAny_pure q))
  · rintro i u h ⟨hi, t', rfl⟩
    have : i = 0 := by omega
    subst this
    exact ⟨rfl, hi, t', by simp⟩
  · show Heap.get? _ _ = _
    have := Heap.get?_push_size s₁.heap (o := { cls := .type "range_iterator", data := .fields #[rawInt 0, rawInt (min n 1 : Nat), rawInt (max n 1 : Nat)] }) rfl
    rw [this]; simp
  · intro b hb; rw [List.mem_singleton] at hb; subst hb; exact h0
  · intro b hb; rw [List.mem_singleton] at hb; subst hb; exact ⟨_, Heap.get?_push_size _ rfl⟩
  · intro b hb; rw [List.mem_singleton] at hb; subst hb; exact .inl h0.1
  · intro i h st b hb; rw [List.mem_singleton] at hb; subst hb; exact ⟨_, st⟩
  · intro s' Q E st q
    exact wpAny_pyIter_rangeiter st q
end
end Mine
end

section
open PySem PySem.W PyProof.Rows PySem.Calls
set_option maxRecDepth 100000
namespace Mine
set_option pp.deepTerms false
set_option pp.deepTerms.threshold 3

def swapAt (l : List Nat) (j : Nat) : List Nat := List.replicate (l.length - j) 0 ++ (l.take j).reverse
theorem swapAt_len (l : List Nat) (j : Nat) (h : j ≤ l.length) : (swapAt l j).length = l.length := by
  simp [swapAt]; omega
theorem swapAt_succ {l : List Nat} {j c : Nat} (h : l[j]? = some c) : (bw (swapAt l j)).setIfInBounds (l.length - 1 - j) c.toUInt8 = bw (swapAt l (j + 1)) := by
  have hj : j < l.length := by obtain ⟨h, _⟩ := List.getElem?_eq_some_iff.mp h; exact h
  unfold swapAt
  rw [show l.length - j = (l.length - 1 - j) + 1 by omega, bw_set, List.take_succ, h]
  simp only [Option.toList_some, List.reverse_append, List.reverse_cons, List.reverse_nil, List.nil_append, List.singleton_append]
  rw [show l.length - (j + 1) = l.length - 1 - j by omega]

set_option maxHeartbeats 2000000 in
theorem callC_swap {prog : Program} {w : World} {A : Around} {s : Shared} {g : View} {vd vw : Value} {l : List Nat} {Q : Value → Shared → Prop}
    (W : Wd w.params s.heap) (R : Room A 1) (G : VIn g s.heap) (hvd : RW g vd l) (hvw : RNat g vw (max l.length 1)) (hl : ∀ n ∈ l, n < 256) (hlen : l.length ≤ 4)
    (hQ : ∀ v' s', Grow g s g s' → RW g v' l.reverse → Q v' s') : wpC (model prog w) A (call (.ref 69) [vd, vw]) Q NoE s := by
  refine wpC_call (callC_fn (binds := [(Str.ofString "data", vd), (Str.ofString "width", vw)]) R W (W.K 69 _ rfl) rfl ⟨68, _, _, _, rfl, W.K 68 _ rfl, rfl, rfl⟩ rfl rfl rfl rfl G (by decide) fun L s₁ hL R1 W1 X => ?_)
  have hh := R1.handled
  obtain ⟨td, rfl⟩ := hvd
  obtain ⟨tw, rfl⟩ := hvw
  have hbs : (bw l).size = l.length := bw_size l
  refine execsC_cons (assignC_Name (callC_Name (wpC_any (ld_blt W1 (gb_bytearray _) (callWithC_type1 (spliced_more ?_))))))
  refine Call_Name rfl (ld_blt W1 (gb_len _) (PyProof.Rows.callWith_builtin1 (spliced_more (ld_local X rfl (spliced_none (len_bytes (by omega) ?_))))))
  refine spliced_none ?_
  rw [hbs]
  have X1 := X.toks (s₁.toks + 1 + 1)
  refine callC_bytearray (n := l.length) (by omega) fun h' hs' hg' => ?_
  refine wpC_any ?_
  have hD0 : s₁.heap.get? s₁.heap.objs.size = none := none_of_size
  have Gp := (Grow.refl X1.grow.inn).push (baObj #[]) (s₁.toks + 1 + 1)
  have X2 := (X1.step (Grow.ofKeeps X1.grow.inn (keeps_but (s := { s₁ with heap := s₁.heap.push (baObj #[]), toks := s₁.toks + 1 + 1 }) (s₁.toks + 1 + 1) Gp.keeps hs' hD0))).addOwn ⟨_, hg'⟩ (X1.grow.none₀ hD0).2 (X1.grow.none₀ hD0).1
  obtain ⟨hDL, hDc, _⟩ := X1.apartNew hD0
  change Heap.get? h' s₁.heap.objs.size = _ at hg'
  generalize s₁.heap.objs.size = D at X2 hg' hDL hDc
  refine st_local X2 fun s₃ X3 k3 => wpC_any ?_
  have hg3 : s₃.heap.get? D = some (baObj (bw (swapAt l 0))) := by
    rw [k3 D _ (fun q => hDL (List.mem_singleton.mp q)) hg', bw_zeros]
    simp [swapAt]
  refine wpAny_execs_cons ?_
  refine exec_for X3 (Call_Name rfl (ld_blt (W.keeps X3.grow.keeps) (gb_range _) (callWith_type1 (spliced_more (wpAny_Constant_int (spliced_more (Call_Name rfl (ld_blt (W.keeps (X3.toks _).grow.keeps) (gb_len _) (PyProof.Rows.callWith_builtin1 (spliced_more (ld_local (X3.toks _) rfl (spliced_none (len_bytes (by omega) ?_)))))))))))))
  refine spliced_more (ld_local (X3.toks _) rfl (spliced_none ?_))
  rw [hbs]
  refine call_range_3 (by omega) ?_ (.inl (PyProof.noPylong_small (by omega)))
  refine src_rangeW (n := l.length) (s := s₃) (g := g) (g₁ := g) hh (Heap.get?_push_size _ rfl) hlen ((Grow.refl X3.grow.inn).push _ _) fun it s₄ G4 S4 => ?_
  refine ⟨g, min l.length 1, _, G4, S4 _, fun i m cm g' h => g' = g ∧ m (Str.ofString "swapped_data") = some (.ref D) ∧ m (Str.ofString "data") = some (.bytes (bw l) td) ∧ m (Str.ofString "width") = some (.int ((max l.length 1 : Nat) : Int) tw) ∧ h.get? D = some (baObj (bw (swapAt l (if i = 0 then 0 else l.length)))), ?_, ?_, ?_, ?_⟩
  · exact ⟨rfl, rfl, rfl, rfl, keeps_get G4.keeps hg3⟩
  · exact fun i m cm g' h h' a k => ⟨a.1, a.2.1, a.2.2.1, a.2.2.2.1, k D List.mem_cons_self _ a.2.2.2.2⟩
  · rintro i v m cm g' s5 hi X5 ⟨rfl, hms, hmd, hmw, hg5⟩ ⟨rfl, hi', t0, rfl⟩ hle
    rw [if_pos rfl] at hg5
    have hn1 : 1 ≤ l.length := by omega
    have hmx : max l.length 1 = l.length := by omega
    refine wpAny_assign_Name (st_local X5 fun s6 X6 k6 => ?_)
    have hg6 := k6 D _ (fun q => hDL (List.mem_singleton.mp q)) hg5
    refine wpAny_execs_cons ?_
    refine exec_for X6 (Call_Name rfl (ld_blt (W.keeps X6.grow.keeps) (gb_range _) (callWith_type1 (spliced_more (ld_local X6 hmw (spliced_none ?_))))))
    refine src_rangeN (n := max l.length 1) (g := g') (g₁ := g') hh ⟨_, rfl⟩ (by omega) (Grow.refl X6.grow.inn) fun it s7 G7 S7 => ?_
    refine ⟨g', max l.length 1, _, G7, S7 _, fun j m cm g'' h => g'' = g' ∧ m (Str.ofString "swapped_data") = some (.ref D) ∧ m (Str.ofString "data") = some (.bytes (bw l) td) ∧ m (Str.ofString "width") = some (.int ((max l.length 1 : Nat) : Int) tw) ∧ m (Str.ofString "i") = some (.int ((0 : Nat) : Int) t0) ∧ h.get? D = some (baObj (bw (swapAt l j))), ?_, ?_, ?_, ?_⟩
    · exact ⟨rfl, hms, hmd, hmw, rfl, keeps_get G7.keeps hg6⟩
    · exact fun i m cm g' h h' a k => ⟨a.1, a.2.1, a.2.2.1, a.2.2.2.1, a.2.2.2.2.1, k D List.mem_cons_self _ a.2.2.2.2.2⟩
    · rintro j vj m cm g'' s8 hj X8 ⟨rfl, hms, hmd, hmw, hmi, hg8⟩ ⟨_, tj, rfl⟩ hle8
      have hjl : j < l.length := by omega
      have hlj : l[j]? = some l[j] := List.getElem?_eq_getElem hjl
      generalize l[j] = c at hlj
      have hc := hl c (List.mem_of_getElem? hlj)
      refine wpAny_assign_Name (st_local X8 fun s9 X9 k9 => ?_)
      have hg9 := k9 D _ (fun q => hDL (List.mem_singleton.mp q)) hg8
      refine wpAny_execs_cons (wpAny_Assign_Subscript (Subscript_ (ld_local X9 hmd (wpAny_BinOp (ld_local X9 hmi (ld_local X9 rfl (AutoIntOps.add_0 ?_)))))))
      refine r_bitem (g := g'') (i := j) hl (by omega) ⟨td, rfl⟩ ⟨s9.toks, by congr 1; omega⟩ hlj fun y n hy => ?_
      obtain ⟨ty, rfl⟩ := hy
      have X10 := X9.toks n
      refine ld_local X10 hms (wpAny_BinOp (wpAny_BinOp (wpAny_BinOp (ld_local X10 hmi (ld_local X10 hmw (AutoIntOps.add_0 (wpAny_Constant_int (AutoIntOps.sub_0 (ld_local (X10.toks _) rfl (AutoIntOps.sub_0 ?_)))))))))) 
      have hidx : ((0 : Nat) : Int) + ((max l.length 1 : Nat) : Int) - 1 - (j : Int) = ((l.length - 1 - j : Nat) : Int) := by omega
      rw [hidx]
      refine setItem_ba (s := { s9 with toks := _ }) (i := l.length - 1 - j) hg9 (by rw [bw_size, swapAt_len l j (by omega)]; omega) hc (by rw [bw_size, swapAt_len l j (by omega)]; omega) fun h2 hs2 hg2 => ?_
      rw [swapAt_succ hlj] at hg2
      exact wpAny_execs_nil ⟨rfl, _, _, _, (X10.toks _).mut' _ hs2 List.mem_cons_self hDL hDc ⟨_, hg2⟩, rfl, hms, hmd, hmw, hmi, hg2⟩
    · rintro m cm g'' s8 X8 ⟨rfl, hms, hmd, hmw, hmi, hg8⟩ hle8
      refine wpAny_execs_nil ⟨rfl, _, _, _, X8, rfl, hms, hmd, hmw, ?_⟩
      rw [if_neg (by decide), ← hmx]
      rw [hmx] at hg8 ⊢
      exact hg8
  · rintro m cm g' s5 X5 ⟨rfl, hms, hmd, hmw, hg5⟩ hle
    refine wpAny_execs_cons (wpAny_Return_some (Call_Name rfl (ld_blt (W.keeps X5.grow.keeps) (gb_bytes _) (callWith_type1 (spliced_more (ld_local X5 hms (spliced_none ?_)))))))
    have hfin : bw (swapAt l (if min l.length 1 = 0 then 0 else l.length)) = bw l.reverse := by
      by_cases h0 : l.length = 0
      · rw [if_pos (by omega)]
        have : l = [] := List.length_eq_zero_iff.mp h0
        subst this; rfl
      · rw [if_neg (by omega)]; simp [swapAt]
    rw [hfin] at hg5
    refine call_bytes_ba hg5 (by rw [bw_size]; simp; omega) fun t k => hQ _ _ (X5.toks k).grow ⟨t, rfl⟩
end Mine
end

section
open PySem PySem.W PyProof.Rows PySem.Calls
set_option maxRecDepth 100000
namespace Mine
set_option pp.deepTerms false
set_option pp.deepTerms.threshold 3
open PySem.Builtin PySem.Builtin.Re

theorem plainAttrs_pat : PlainAttrs "re.Pattern" :=
  ⟨⟨"object.__getattribute__", by rw [typeLookup_type, builtinLookup_eq_fast]; kernel_rfl, by decide +kernel⟩, by rw [typeLookup_type, builtinLookup_eq_fast]; kernel_rfl⟩
theorem slot_sub : Slot "re.Pattern" "sub" "re.Pattern.sub" :=
  .of (owner := "re.Pattern") (n := "sub") (by rw [typeLookup_type, builtinLookup_eq_fast]; kernel_rfl) (by decide +kernel) (by decide +kernel) (by decide +kernel)
    (by first | exact .inl (by decide +kernel) | exact .inr (by decide +kernel)) (by rw [isSubtype_type]; kernel_rfl)
theorem type_sub : typeOf (.builtin "re.Pattern.sub") = pure (.type "method_descriptor") := by show builtinType _ = _; rw [builtinType_eq_fast]; kernel_rfl
theorem entry_sub : entryFor table "re.Pattern.sub" = some Builtin.«re.Pattern.sub» := entryFor_of_tree (by kernel_rfl)
theorem entry_subloop : entryFor table "re.Pattern.sub.loop" = some Builtin.«re.Pattern.sub.loop» := entryFor_of_tree (by kernel_rfl)
theorem args_sub (a b c : Value) : argsOk "re.Pattern.sub" ⟨[a, b, c], []⟩ := by unfold argsOk; kernel_rfl
theorem plain_subloop : plainId "re.Pattern.sub.loop" = true := by decide +kernel
theorem nocall_str : typeLookup (.type "str") "__call__" = pure none := by rw [typeLookup_type, builtinLookup_eq_fast]; kernel_rfl

theorem named_sub (r x : Value) : reNamed "re.Pattern.sub" "sub" ["repl", "string", "count"] 2 [r, x] [] = pure [some r, some x, none] := by
  rfl

section
variable {prog : Program} {w : World} {A : Around} {E : Value → Shared → Prop} {s : Shared}

structure IsPat (h : Heap) (pa : Addr) (code : List Nat) : Prop where
  ex : ∃ ca a0 a1 t1, h.get? pa = some { cls := .type "re.Pattern", data := .fields #[a0, .int a1 t1, .int 0 0, .none, .none, .ref ca, .int 0 0] } ∧
    h.get? ca = some { cls := .type "tuple", data := .seq ((code.map fun (n : Nat) => Value.int (n : Int) 0)).toArray }

theorem whole_target {pa : Addr} {code : List Nat} {x : Str} {t : Tok} {Q : ReTarget → Shared → Prop} (hp : IsPat s.heap pa code)
    (h : Q { pattern := .ref pa, string := .str x t, code := code.toArray, text := x.cps, kind := 0, groups := 0, pos := 0, lim := x.cps.size } s) :
    wpAny (model prog w) A (reWholeTarget (.ref pa) (.str x t)) Q E s := by
  obtain ⟨ca, a0, a1, t1, h1, h2⟩ := hp
  unfold reWholeTarget
  refine wpAny_bind (wpAny_fieldsOf h1 rfl ?_)
  show wpAny _ _ (reTextOf (.str x t) >>= _) _ _ _
  have e : reTextOf (.str x t) = pure (x.cps, 0) := rfl
  rw [e]
  refine wpAny_bind (wpAny_pure ?_)
  show wpAny _ _ (reRawItems (.ref ca) >>= _) _ _ _
  unfold reRawItems
  refine wpAny_bind (wpAny_bind (wpAny_seqItems h2 rfl (wpAny_pure (wpAny_pure ?_))))
  have e2 : (((code.map fun (n : Nat) => Value.int (n : Int) 0).toArray.map reRawOf).map (·.toNat)) = code.toArray := by
    apply Array.ext'
    simp [Function.comp_def, reRawOf]
  show Q { pattern := .ref pa, string := .str x t, code := (((code.map fun (n : Nat) => Value.int (n : Int) 0).toArray.map reRawOf).map (·.toNat)), text := x.cps, kind := 0, groups := 0, pos := 0, lim := x.cps.size } s
  rw [e2]; exact h
end
end Mine
end

section
open PySem PySem.W PyProof.Rows
set_option maxRecDepth 100000
namespace Mine
open PySem.Sre

theorem runFor_done {m : M} (h : m.outcome.isSome = true) : ∀ n, M.runFor n m = m
  | 0 => rfl
  | n + 1 => by simp [M.runFor, h]
theorem runFor_add (a : Nat) : ∀ (b : Nat) (m : M), M.runFor (a + b) m = M.runFor b (M.runFor a m) := by
  induction a with
  | zero => intro b m; simp [M.runFor]
  | succ a ih =>
    intro b m
    rw [Nat.add_right_comm]
    simp only [M.runFor]
    by_cases h : m.outcome.isSome = true
    · simp only [h, if_true]; exact (runFor_done h b).symm
    · simp only [h]; exact ih b _

abbrev code1 : List Nat := [14, 4, 0, 1, 1, 6, 1, 16, 46, 1]
def C1 (text : Array Nat) (p : Nat) (first : Bool) (seen : Sre.Seen) : M :=
  { code := code1.toArray, text, lim := text.size, start := p, lastStart := text.size, mustAdvance := false, pc := 5, pos := p, handed := p, outermost := first, marks := #[],
    frames := [{ wait := .nextStart, pc := 5, pos := p, outermost := first }], weight := 1, seen }
/-- nothing found, two marks left to be read -/
def F1 (m : M) : Prop := m.answer = some false ∧ m.frames = [] ∧ m.outcome = none

theorem c1_skip (text : Array Nat) (p : Nat) (first : Bool) (seen : Sre.Seen) (hb : (p == 0 || text.getD (p - 1) 0 == 10) = false) (hp : p < text.size) :
    ∃ seen', M.runFor 2 (C1 text p first seen) = C1 text (p + 1) false seen' := by
  have e1 : M.step (C1 text p first seen) = M.say { C1 text p first seen with seen := ((seen.add 6).add (43 + 1)) } false := by
    show (if (p == 0 || text.getD (p - 1) 0 == 10) = true then _ else _) = _
    rw [hb]; rfl
  refine ⟨(seen.add 6).add (43 + 1), ?_⟩
  show M.runFor 1 (M.step (C1 text p first seen)) = _
  rw [e1]
  show M.step _ = _
  show (if p < text.size then _ else _) = _
  rw [if_pos hp]; rfl
theorem c1_end (text : Array Nat) (first : Bool) (seen : Sre.Seen) (hb : (text.size == 0 || text.getD (text.size - 1) 0 == 10) = false) :
    ∃ m, M.runFor 3 (C1 text text.size first seen) = m ∧ m.outcome = some .failed := by
  have e1 : M.step (C1 text text.size first seen) = M.say { C1 text text.size first seen with seen := ((seen.add 6).add (43 + 1)) } false := by
    show (if (text.size == 0 || text.getD (text.size - 1) 0 == 10) = true then _ else _) = _
    rw [hb]; rfl
  refine ⟨_, rfl, ?_⟩
  show (M.runFor 2 (M.step (C1 text text.size first seen))).outcome = _
  rw [e1]
  show (M.runFor 1 (if text.size < text.size then _ else _)).outcome = _
  rw [if_neg (Nat.lt_irrefl _)]; rfl
theorem c1_hit (text : Array Nat) (p : Nat) (first : Bool) (seen : Sre.Seen) (hb : (p == 0 || text.getD (p - 1) 0 == 10) = true) (hp : p < text.size) (hc : (text.getD p 0 == 46) = true) :
    ∃ m, M.runFor 5 (C1 text p first seen) = m ∧ m.outcome = some .matched ∧ m.start = p ∧ m.handed = p + 1 := by
  have e1 : M.step (C1 text p first seen) = { C1 text p first seen with seen := ((seen.add 6).add (43 + 1)), pc := 7 } := by
    show (if (p == 0 || text.getD (p - 1) 0 == 10) = true then _ else _) = _
    rw [hb]; rfl
  have e2 : M.step { C1 text p first seen with seen := ((seen.add 6).add (43 + 1)), pc := 7 } = { C1 text p first seen with seen := (((seen.add 6).add (43 + 1)).add 16), pc := 9, pos := p + 1 } := by
    show (if p ≥ text.size then _ else match (Except.ok (text.getD p 0 == 46, _) : Except String (Bool × Sre.Seen)) with | .error why => _ | .ok (false, seen) => _ | .ok (true, seen) => _) = _
    rw [if_neg (by omega), hc]; rfl
  have e3 : M.step { C1 text p first seen with seen := (((seen.add 6).add (43 + 1)).add 16), pc := 9, pos := p + 1 } = M.say { C1 text p first seen with seen := ((((seen.add 6).add (43 + 1)).add 16).add 1), pc := 9, pos := p + 1, handed := p + 1 } true := by
    show (if (first && ((false && (p + 1 != text.size)) || (false && (p + 1 == p)))) = true then _ else _) = _
    cases first <;> rfl
  refine ⟨_, rfl, ?_⟩
  have : M.runFor 5 (C1 text p first seen) = M.runFor 2 (M.say { C1 text p first seen with seen := ((((seen.add 6).add (43 + 1)).add 16).add 1), pc := 9, pos := p + 1, handed := p + 1 } true) := by
    show M.runFor 4 (M.step _) = _
    rw [e1]
    show M.runFor 3 (M.step _) = _
    rw [e2]
    show M.runFor 2 (M.step _) = _
    rw [e3]
  rw [this]
  exact ⟨rfl, rfl, rfl⟩
end Mine
namespace Mine
open PySem.Sre

theorem c1_search (text : Array Nat) (p : Nat) (hp : p < text.size) (hb : (p == 0 || text.getD (p - 1) 0 == 10) = true) (hc : (text.getD p 0 == 46) = true) :
    ∀ (d s : Nat) (first : Bool) (seen : Sre.Seen), s + d = p → (∀ x, s ≤ x → x < p → (x == 0 || text.getD (x - 1) 0 == 10) = false) →
      ∃ k m, k ≤ 2 * d + 5 ∧ M.runFor k (C1 text s first seen) = m ∧ m.outcome = some .matched ∧ m.start = p ∧ m.handed = p + 1
  | 0, s, first, seen, e, _ => by
    obtain rfl : s = p := e
    obtain ⟨m, h1, h2, h3, h4⟩ := c1_hit text s first seen hb hp hc
    exact ⟨5, m, by omega, h1, h2, h3, h4⟩
  | d + 1, s, first, seen, e, hno => by
    obtain ⟨seen', h⟩ := c1_skip text s first seen (hno s (Nat.le_refl _) (by omega)) (by omega)
    obtain ⟨k, m, hk, h1, h2, h3, h4⟩ := c1_search text p hp hb hc d (s + 1) false seen' (by omega) fun x hx hx' => hno x (by omega) hx'
    exact ⟨2 + k, m, by omega, by rw [runFor_add, h, h1], h2, h3, h4⟩
theorem c1_none (text : Array Nat) : ∀ (d s : Nat) (first : Bool) (seen : Sre.Seen), s + d = text.size → (∀ x, s ≤ x → x ≤ text.size → (x == 0 || text.getD (x - 1) 0 == 10) = false) →
      ∃ k m, k ≤ 2 * d + 5 ∧ M.runFor k (C1 text s first seen) = m ∧ m.outcome = some .failed
  | 0, s, first, seen, e, hno => by
    obtain rfl : s = text.size := e
    obtain ⟨m, h1, h2⟩ := c1_end text first seen (hno _ (Nat.le_refl _) (Nat.le_refl _))
    exact ⟨3, m, by omega, h1, h2⟩
  | d + 1, s, first, seen, e, hno => by
    obtain ⟨seen', h⟩ := c1_skip text s first seen (hno s (Nat.le_refl _) (by omega)) (by omega)
    obtain ⟨k, m, hk, h1, h2⟩ := c1_none text d (s + 1) false seen' (by omega) fun x hx hx' => hno x (by omega) hx'
    exact ⟨2 + k, m, by omega, by rw [runFor_add, h, h1], h2⟩

theorem search1_start (text : Array Nat) (s : Nat) (hs : s < text.size) : ∃ seen, forSearch code1.toArray text 0 s text.size false = C1 text s true seen := by
  refine ⟨({} : Sre.Seen).add 14, ?_⟩
  show (if (decide (s > text.size) || decide (text.size - s < 1)) = true then _ else _) = _
  rw [if_neg (by simp; omega)]
  rfl
theorem search1_over (text : Array Nat) (s : Nat) (hs : text.size ≤ s) : ∃ m, M.runFor 1 (forSearch code1.toArray text 0 s text.size false) = m ∧ m.outcome = some .failed := by
  refine ⟨_, rfl, ?_⟩
  show (M.runFor 1 (if (decide (s > text.size) || decide (text.size - s < 1)) = true then _ else _)).outcome = _
  rw [if_pos (by simp; omega)]
  rfl

/-- what a search says: nothing, or where it found and where it ended -/
def Finds (code : List Nat) (text : Array Nat) (s : Nat) (r : Option (Nat × Nat)) : Prop :=
  ∃ k m, k ≤ 40 * text.size + 100 ∧ M.runFor k (forSearch code.toArray text 0 s text.size false) = m ∧
    match r with
    | none => m.outcome = some .failed
    | some (b, e) => m.outcome = some .matched ∧ m.start = b ∧ m.handed = e

theorem finds1 {text : Array Nat} {s p : Nat} (hs : s ≤ p) (hp : p < text.size) (hb : (p == 0 || text.getD (p - 1) 0 == 10) = true) (hc : (text.getD p 0 == 46) = true)
    (hno : ∀ x, s ≤ x → x < p → (x == 0 || text.getD (x - 1) 0 == 10) = false) : Finds code1 text s (some (p, p + 1)) := by
  obtain ⟨seen, h⟩ := search1_start text s (by omega)
  obtain ⟨k, m, hk, h1, h2⟩ := c1_search text p hp hb hc (p - s) s true seen (by omega) hno
  exact ⟨k, m, by omega, by rw [h, h1], h2⟩
theorem finds1_none {text : Array Nat} {s : Nat} (hno : ∀ x, s ≤ x → x ≤ text.size → (x == 0 || text.getD (x - 1) 0 == 10) = false) : Finds code1 text s none := by
  by_cases hs : s < text.size
  · obtain ⟨seen, h⟩ := search1_start text s hs
    obtain ⟨k, m, hk, h1, h2⟩ := c1_none text (text.size - s) s true seen (by omega) hno
    exact ⟨k, m, by omega, by rw [h, h1], h2⟩
  · obtain ⟨m, h1, h2⟩ := search1_over text s (by omega)
    exact ⟨1, m, by omega, h1, h2⟩

/-! ## the line ends -/
abbrev code2 : List Nat := [14, 9, 4, 1, 2, 16, 10, 16, 13, 0, 7, 7, 16, 13, 16, 10, 15, 18, 5, 16, 10, 15, 13, 11, 16, 13, 5, 5, 0, 16, 10, 1, 15, 2, 0, 1]
def C2 (text : Array Nat) (p : Nat) (first : Bool) (seen : Sre.Seen) : M :=
  { code := code2.toArray, text, lim := text.size, start := p, lastStart := text.size, mustAdvance := false, pc := 10, pos := p, handed := p, outermost := first, marks := #[],
    frames := [{ wait := .nextStart, pc := 10, pos := p, outermost := first }], weight := 1, seen }
def B2 (text : Array Nat) (s : Nat) (seen : Sre.Seen) : M :=
  { code := code2.toArray, text, lim := text.size, start := s, lastStart := text.size, mustAdvance := false, pc := 10, pos := s, handed := s, marks := #[], seen }

theorem inSet2 (c : Nat) (seen : Sre.Seen) : inSet code2.toArray c code2.toArray.size 5 true seen = if (c == 10) = true then .ok (true, seen.add 16) else if (c == 13) = true then .ok (true, (seen.add 16).add 16) else .ok (false, ((seen.add 16).add 16).add 0) := by
  show (if (c == 10) = true then _ else if (c == 13) = true then _ else _) = _
  rfl
theorem admitted2 (text : Array Nat) (m : M) (hm : m.code = code2.toArray) (ht : m.text = text) (hl : m.lim = text.size) (p : Nat) (hp : p < text.size) (hc : text.getD p 0 = 10 ∨ text.getD p 0 = 13) :
    ∀ (d s fuel : Nat) (seen : Sre.Seen), s + d = p → d < fuel → (∀ x, s ≤ x → x < p → text.getD x 0 ≠ 10 ∧ text.getD x 0 ≠ 13) → ∃ seen', M.admitted m fuel s seen = .ok (some p, seen')
  | 0, s, fuel + 1, seen, e, hf, _ => by
    obtain rfl : s = p := e
    unfold M.admitted
    rw [hm, ht, hl, if_neg (by omega), inSet2]
    rcases hc with h | h
    · rw [h]; exact ⟨_, rfl⟩
    · rw [h]; exact ⟨_, rfl⟩
  | d + 1, s, fuel + 1, seen, e, hf, hno => by
    have hn := hno s (Nat.le_refl _) (by omega)
    obtain ⟨seen', h⟩ := admitted2 text m hm ht hl p hp hc d (s + 1) fuel (((seen.add 16).add 16).add 0) (by omega) (by omega) fun x hx hx' => hno x (by omega) hx'
    refine ⟨seen', ?_⟩
    unfold M.admitted
    rw [hm, ht, hl, if_neg (by omega), inSet2, if_neg (by simpa using hn.1), if_neg (by simpa using hn.2)]
    exact h
theorem admitted2_none (text : Array Nat) (m : M) (hm : m.code = code2.toArray) (ht : m.text = text) (hl : m.lim = text.size) :
    ∀ (fuel s : Nat) (seen : Sre.Seen), (∀ x, s ≤ x → x < text.size → text.getD x 0 ≠ 10 ∧ text.getD x 0 ≠ 13) → ∃ seen', M.admitted m fuel s seen = .ok (none, seen')
  | 0, s, seen, _ => ⟨seen, rfl⟩
  | fuel + 1, s, seen, hno => by
    by_cases hs : s < text.size
    · have hn := hno s (Nat.le_refl _) hs
      obtain ⟨seen', h⟩ := admitted2_none text m hm ht hl fuel (s + 1) (((seen.add 16).add 16).add 0) fun x hx hx' => hno x (by omega) hx'
      refine ⟨seen', ?_⟩
      unfold M.admitted
      rw [hm, ht, hl, if_neg (by omega), inSet2, if_neg (by simpa using hn.1), if_neg (by simpa using hn.2)]
      exact h
    · refine ⟨seen, ?_⟩
      unfold M.admitted
      rw [hl, if_pos (by omega)]
theorem search2_start (text : Array Nat) (s p : Nat) (hs : s ≤ p) (hp : p < text.size) (hc : text.getD p 0 = 10 ∨ text.getD p 0 = 13) (hno : ∀ x, s ≤ x → x < p → text.getD x 0 ≠ 10 ∧ text.getD x 0 ≠ 13) :
    ∃ seen, forSearch code2.toArray text 0 s text.size false = C2 text p true seen := by
  obtain ⟨seen', h⟩ := admitted2 text (B2 text s (({} : Sre.Seen).add 14)) rfl rfl rfl p hp hc (p - s) s (text.size + 1 - s) (({} : Sre.Seen).add 14) (by omega) (by omega) hno
  refine ⟨seen', ?_⟩
  show (if (decide (s > text.size) || decide (text.size - s < 1)) = true then _ else (match M.admitted (B2 text s (({} : Sre.Seen).add 14)) (text.size + 1 - s) s (({} : Sre.Seen).add 14) with
    | .ok (some s, seen) => _ | .ok (none, seen) => _ | .error why => _)) = _
  rw [if_neg (by simp; omega), h]
  rfl
theorem search2_none (text : Array Nat) (s : Nat) (hno : ∀ x, s ≤ x → x < text.size → text.getD x 0 ≠ 10 ∧ text.getD x 0 ≠ 13) :
    Finds code2 text s none := by
  refine ⟨1, _, by omega, rfl, ?_⟩
  show (M.runFor 1 (if (decide (s > text.size) || decide (text.size - s < 1)) = true then _ else (match M.admitted (B2 text s (({} : Sre.Seen).add 14)) (text.size + 1 - s) s (({} : Sre.Seen).add 14) with
    | .ok (some s, seen) => _ | .ok (none, seen) => _ | .error why => _))).outcome = _
  by_cases hs : s < text.size
  · obtain ⟨seen', h⟩ := admitted2_none text (B2 text s (({} : Sre.Seen).add 14)) rfl rfl rfl (text.size + 1 - s) s (({} : Sre.Seen).add 14) hno
    rw [if_neg (by simp; omega), h]
    rfl
  · rw [if_pos (by simp; omega)]
    rfl
end Mine
namespace Mine
open PySem.Sre

def T2 (text : Array Nat) (start pc pos handed : Nat) (oc : Bool) (frames : List Sre.Frame) (weight : Nat) (seen : Sre.Seen) : M :=
  { code := code2.toArray, text, lim := text.size, start, lastStart := text.size, mustAdvance := false, pc, pos, handed, outermost := oc, marks := #[], frames, weight, seen }
abbrev NS (p : Nat) : Sre.Frame := { wait := .nextStart, pc := 10, pos := p, outermost := true }
abbrev BR (p pc : Nat) : Sre.Frame := { wait := .nextBranch, pc, pos := p, outermost := true }
abbrev LN (pos : Nat) : Sre.Frame := { wait := .lookNot, pc := 26, pos, outermost := true }

section
variable (text : Array Nat) (p : Nat) (seen : Sre.Seen)
theorem t_branch : M.step (C2 text p true seen) = T2 text p 12 p p true [BR p 11, NS p] 2 (seen.add 7) := rfl
/-- a literal read at pos -/
theorem t_lit_no {start pc pos h oc frames wt} {l : Nat} (hpc : pc = 12 ∧ l = 13 ∨ pc = 14 ∧ l = 10 ∨ pc = 19 ∧ l = 10 ∨ pc = 24 ∧ l = 13 ∨ pc = 29 ∧ l = 10) (hn : text.size ≤ pos ∨ (text.getD pos 0 == l) = false) :
    ∃ seen', M.step (T2 text start pc pos h oc frames wt seen) = M.say (T2 text start pc pos h oc frames wt seen') false := by
  refine ⟨seen.add 16, ?_⟩
  have key : ∀ c, (text.getD pos 0 == l) = c → M.step (T2 text start pc pos h oc frames wt seen) = (if pos ≥ text.size then M.say (T2 text start pc pos h oc frames wt (seen.add 16)) false else
      match (Except.ok (c, seen.add 16) : Except String (Bool × Sre.Seen)) with
      | .error why => M.stick (T2 text start pc pos h oc frames wt (seen.add 16)) why
      | .ok (false, seen') => M.say (T2 text start pc pos h oc frames wt seen') false
      | .ok (true, seen') => T2 text start (pc + 2) (pos + 1) h oc frames wt seen') := by
    rintro c rfl
    rcases hpc with ⟨rfl, rfl⟩ | ⟨rfl, rfl⟩ | ⟨rfl, rfl⟩ | ⟨rfl, rfl⟩ | ⟨rfl, rfl⟩ <;> rfl
  by_cases hp : pos ≥ text.size
  · rw [key _ rfl, if_pos hp]
  · rw [key false (hn.resolve_left hp), if_neg hp]
theorem t_lit_yes {start pc pos h oc frames wt} {l : Nat} (hpc : pc = 12 ∧ l = 13 ∨ pc = 14 ∧ l = 10 ∨ pc = 19 ∧ l = 10 ∨ pc = 24 ∧ l = 13 ∨ pc = 29 ∧ l = 10) (hp : pos < text.size) (hn : (text.getD pos 0 == l) = true) :
    ∃ seen', M.step (T2 text start pc pos h oc frames wt seen) = T2 text start (pc + 2) (pos + 1) h oc frames wt seen' := by
  refine ⟨seen.add 16, ?_⟩
  have key : ∀ c, (text.getD pos 0 == l) = c → M.step (T2 text start pc pos h oc frames wt seen) = (if pos ≥ text.size then M.say (T2 text start pc pos h oc frames wt (seen.add 16)) false else
      match (Except.ok (c, seen.add 16) : Except String (Bool × Sre.Seen)) with
      | .error why => M.stick (T2 text start pc pos h oc frames wt (seen.add 16)) why
      | .ok (false, seen') => M.say (T2 text start pc pos h oc frames wt seen') false
      | .ok (true, seen') => T2 text start (pc + 2) (pos + 1) h oc frames wt seen') := by
    rintro c rfl
    rcases hpc with ⟨rfl, rfl⟩ | ⟨rfl, rfl⟩ | ⟨rfl, rfl⟩ | ⟨rfl, rfl⟩ | ⟨rfl, rfl⟩ <;> rfl
  rw [key true hn, if_neg (by omega)]
theorem t_next1 {h pos pc oc} : M.step (M.say (T2 text p pc pos h oc [BR p 11, NS p] 2 seen) false) = T2 text p 19 p p true [BR p 18, NS p] 2 seen := rfl
theorem t_next2 {h pos pc oc} : M.step (M.say (T2 text p pc pos h oc [BR p 18, NS p] 2 seen) false) = T2 text p 24 p p true [BR p 23, NS p] 2 seen := rfl
theorem t_jump {start pc pos h oc frames wt} (hpc : pc = 16 ∨ pc = 21 ∨ pc = 32) : M.step (T2 text start pc pos h oc frames wt seen) = T2 text start 35 pos h oc frames wt (seen.add 15) := by
  rcases hpc with rfl | rfl | rfl <;> rfl
theorem t_success {pos h frames wt} : M.step (T2 text p 35 pos h true frames wt seen) = M.say (T2 text p 35 pos pos true frames wt (seen.add 1)) true := rfl
theorem t_yes {pos h b} : ∃ m, M.runFor 3 (M.say (T2 text p 35 pos h true [BR p b, NS p] 2 seen) true) = m ∧ m.outcome = some .matched ∧ m.start = p ∧ m.handed = h := ⟨_, rfl, rfl, rfl, rfl⟩
theorem t_look {pos h frames} : M.step (T2 text p 26 pos h true frames 2 seen) = T2 text p 29 pos pos false (LN pos :: frames) 3 (seen.add 5) := by
  have : M.step (T2 text p 26 pos h true frames 2 seen) = (if pos < 0 then T2 text p 32 pos h true frames 2 (seen.add 5) else T2 text p 29 pos pos false (LN pos :: frames) 3 (seen.add 5)) := rfl
  rw [this, if_neg (Nat.not_lt_zero _)]
theorem t_lookback {pos h h' frames} : M.step (M.say (T2 text p 29 pos h false (LN h' :: frames) 3 seen) false) = T2 text p 32 h' h true frames 2 seen := rfl

theorem run1 {m m' : M} (n : Nat) (h : m.outcome.isSome = false) (e : m.step = m') : M.runFor (n + 1) m = M.runFor n m' := by
  subst e
  simp only [M.runFor, h]
  rfl

theorem finds2_10 {s : Nat} (hs : s ≤ p) (hp : p < text.size) (hc : text.getD p 0 = 10) (hno : ∀ x, s ≤ x → x < p → text.getD x 0 ≠ 10 ∧ text.getD x 0 ≠ 13) : Finds code2 text s (some (p, p + 1)) := by
  obtain ⟨seen, h⟩ := search2_start text s p hs hp (.inl hc) hno
  obtain ⟨s2, e2⟩ := t_lit_no text (seen.add 7) (start := p) (pc := 12) (pos := p) (h := p) (oc := true) (frames := [BR p 11, NS p]) (wt := 2) (l := 13) (.inl ⟨rfl, rfl⟩) (.inr (by rw [hc]; rfl))
  obtain ⟨s4, e4⟩ := t_lit_yes text s2 (start := p) (pc := 19) (pos := p) (h := p) (oc := true) (frames := [BR p 18, NS p]) (wt := 2) (l := 10) (.inr (.inr (.inl ⟨rfl, rfl⟩))) hp (by rw [hc]; rfl)
  obtain ⟨m, h1, h2⟩ := t_yes text p ((s4.add 15).add 1) (pos := p + 1) (h := p + 1) (b := 18)
  refine ⟨6 + 3, m, by omega, ?_, h2⟩
  rw [h, runFor_add]
  have : M.runFor 6 (C2 text p true seen) = M.say (T2 text p 35 (p + 1) (p + 1) true [BR p 18, NS p] 2 ((s4.add 15).add 1)) true := by
    exact (run1 5 rfl (t_branch ..)).trans ((run1 4 rfl (e2)).trans ((run1 3 rfl (t_next1 ..)).trans ((run1 2 rfl (e4)).trans ((run1 1 rfl (t_jump text s4 (.inr (.inl rfl)))).trans (run1 0 rfl (t_success ..))))))
  rw [this]; exact h1
theorem finds2_1310 {s : Nat} (hs : s ≤ p) (hp : p + 1 < text.size) (hc : text.getD p 0 = 13) (hc' : text.getD (p + 1) 0 = 10) (hno : ∀ x, s ≤ x → x < p → text.getD x 0 ≠ 10 ∧ text.getD x 0 ≠ 13) : Finds code2 text s (some (p, p + 2)) := by
  obtain ⟨seen, h⟩ := search2_start text s p hs (by omega) (.inr hc) hno
  obtain ⟨s2, e2⟩ := t_lit_yes text (seen.add 7) (start := p) (pc := 12) (pos := p) (h := p) (oc := true) (frames := [BR p 11, NS p]) (wt := 2) (l := 13) (.inl ⟨rfl, rfl⟩) (by omega) (by rw [hc]; rfl)
  obtain ⟨s4, e4⟩ := t_lit_yes text s2 (start := p) (pc := 14) (pos := p + 1) (h := p) (oc := true) (frames := [BR p 11, NS p]) (wt := 2) (l := 10) (.inr (.inl ⟨rfl, rfl⟩)) hp (by rw [hc']; rfl)
  obtain ⟨m, h1, h2⟩ := t_yes text p ((s4.add 15).add 1) (pos := p + 1 + 1) (h := p + 1 + 1) (b := 11)
  refine ⟨5 + 3, m, by omega, ?_, h2⟩
  rw [h, runFor_add]
  have : M.runFor 5 (C2 text p true seen) = M.say (T2 text p 35 (p + 1 + 1) (p + 1 + 1) true [BR p 11, NS p] 2 ((s4.add 15).add 1)) true := by
    exact (run1 4 rfl (t_branch ..)).trans ((run1 3 rfl (e2)).trans ((run1 2 rfl (e4)).trans ((run1 1 rfl (t_jump text s4 (.inl rfl))).trans (run1 0 rfl (t_success ..)))))
  rw [this]; exact h1
theorem finds2_13 {s : Nat} (hs : s ≤ p) (hp : p < text.size) (hc : text.getD p 0 = 13) (hc' : text.size ≤ p + 1 ∨ text.getD (p + 1) 0 ≠ 10) (hno : ∀ x, s ≤ x → x < p → text.getD x 0 ≠ 10 ∧ text.getD x 0 ≠ 13) : Finds code2 text s (some (p, p + 1)) := by
  obtain ⟨seen, h⟩ := search2_start text s p hs hp (.inr hc) hno
  have hn10 : text.size ≤ p + 1 ∨ (text.getD (p + 1) 0 == 10) = false := hc'.imp id fun h => by simpa using h
  obtain ⟨s2, e2⟩ := t_lit_yes text (seen.add 7) (start := p) (pc := 12) (pos := p) (h := p) (oc := true) (frames := [BR p 11, NS p]) (wt := 2) (l := 13) (.inl ⟨rfl, rfl⟩) hp (by rw [hc]; rfl)
  obtain ⟨s3, e3⟩ := t_lit_no text s2 (start := p) (pc := 14) (pos := p + 1) (h := p) (oc := true) (frames := [BR p 11, NS p]) (wt := 2) (l := 10) (.inr (.inl ⟨rfl, rfl⟩)) hn10
  obtain ⟨s5, e5⟩ := t_lit_no text s3 (start := p) (pc := 19) (pos := p) (h := p) (oc := true) (frames := [BR p 18, NS p]) (wt := 2) (l := 10) (.inr (.inr (.inl ⟨rfl, rfl⟩))) (.inr (by rw [hc]; rfl))
  obtain ⟨s7, e7⟩ := t_lit_yes text s5 (start := p) (pc := 24) (pos := p) (h := p) (oc := true) (frames := [BR p 23, NS p]) (wt := 2) (l := 13) (.inr (.inr (.inr (.inl ⟨rfl, rfl⟩)))) hp (by rw [hc]; rfl)
  obtain ⟨s9, e9⟩ := t_lit_no text (s7.add 5) (start := p) (pc := 29) (pos := p + 1) (h := p + 1) (oc := false) (frames := LN (p + 1) :: [BR p 23, NS p]) (wt := 3) (l := 10) (.inr (.inr (.inr (.inr ⟨rfl, rfl⟩)))) hn10
  obtain ⟨m, h1, h2⟩ := t_yes text p ((s9.add 15).add 1) (pos := p + 1) (h := p + 1) (b := 23)
  refine ⟨12 + 3, m, by omega, ?_, h2⟩
  rw [h, runFor_add]
  have : M.runFor 12 (C2 text p true seen) = M.say (T2 text p 35 (p + 1) (p + 1) true [BR p 23, NS p] 2 ((s9.add 15).add 1)) true := by
    exact (run1 11 rfl (t_branch ..)).trans ((run1 10 rfl (e2)).trans ((run1 9 rfl (e3)).trans ((run1 8 rfl (t_next1 ..)).trans ((run1 7 rfl (e5)).trans ((run1 6 rfl (t_next2 ..)).trans ((run1 5 rfl (e7)).trans ((run1 4 rfl (t_look ..)).trans ((run1 3 rfl (e9)).trans ((run1 2 rfl (t_lookback ..)).trans ((run1 1 rfl (t_jump text s9 (.inr (.inr rfl)))).trans (run1 0 rfl (t_success ..))))))))))))
  rw [this]; exact h1
end
end Mine
end

section
open PySem PySem.W PyProof.Rows PySem.Calls
set_option maxRecDepth 100000
namespace Mine
set_option pp.deepTerms false
set_option pp.deepTerms.threshold 3
open PySem.Builtin PySem.Builtin.Re

section
variable {M : Model} {A : Around} {E : Value → Shared → Prop} {s : Shared}

theorem forIn_units {α : Type} {f : α → PUnit → Sem (ForInStep PUnit)} (hf : ∀ a u (Q : ForInStep PUnit → Shared → Prop) (st : Shared), Q (.yield ⟨⟩) st → wpAny M A (f a u) Q E st) :
    ∀ (l : List α) {Q : PUnit → Shared → Prop} {st : Shared}, Q ⟨⟩ st → wpAny M A (forIn l ⟨⟩ f) Q E st
  | [], Q, st, h => by rw [List.forIn_nil]; exact wpAny_pure h
  | a :: l, Q, st, h => by
    rw [List.forIn_cons]
    exact wpAny_bind (hf a ⟨⟩ _ st (forIn_units hf l h))

theorem drive {Q : Sre.M → Shared → Prop} : ∀ (N k : Nat) (m : Sre.M), 0 < N → k ≤ 4 * N → (Sre.M.runFor k m).outcome.isSome = true → Q (Sre.M.runFor k m) s → wpAny M A (reDrive N m) Q E s
  | 0, _, _, h, _, _, _ => absurd h (by omega)
  | N + 1, k, m, _, hk, ho, h => by
    unfold reDrive
    show wpAny M A (if (Sre.M.runFor 4 m).outcome.isSome = true then _ else _) Q E s
    by_cases h4 : (Sre.M.runFor 4 m).outcome.isSome = true
    · rw [if_pos h4]
      have : Sre.M.runFor 4 m = Sre.M.runFor k m := by
        rcases Nat.le_total k 4 with h | h
        · obtain ⟨d, hd⟩ := Nat.exists_eq_add_of_le h
          rw [hd, runFor_add, runFor_done ho]
        · obtain ⟨d, rfl⟩ := Nat.exists_eq_add_of_le h
          rw [runFor_add, runFor_done h4]
      refine wpAny_pure ?_
      show Q (Sre.M.runFor 4 m) s
      rw [this]; exact h
    · rw [if_neg h4]
      have hk4 : 4 < k := by
        rcases Nat.lt_or_ge 4 k with h | h
        · exact h
        · exfalso
          obtain ⟨d, hd⟩ := Nat.exists_eq_add_of_le h
          rw [hd, runFor_add, runFor_done ho] at h4
          exact h4 ho
      obtain ⟨d, rfl⟩ := Nat.exists_eq_add_of_le (Nat.le_of_lt hk4)
      rw [runFor_add] at ho h
      exact wpAny_bind (wpAny_rule (drive N d _ (by omega) (by omega) ho h))

theorem next_found {t : ReTarget} {code : List Nat} {start : Nat} {r : Option (Nat × Nat)} {Q : Option Sre.M → Shared → Prop} (hF : Finds code t.text start r) (hc : t.code = code.toArray) (hg : t.groups = 0) (hl : t.lim = t.text.size)
    (hsz : t.text.size ≤ 2 ^ 24) (h : match r with | none => Q none s | some (b, e) => ∀ m, m.start = b → m.handed = e → Q (some m) s) : wpAny M A (reNextFound t start false) Q E s := by
  obtain ⟨k, m, hk, hm, ho⟩ := hF
  unfold reNextFound reRunToEnd
  rw [hc, hg, hl]
  have hso : m.outcome.isSome = true := by
    cases r with
    | none => rw [ho]; rfl
    | some p => obtain ⟨b, e⟩ := p; rw [ho.1]; rfl
  refine wpAny_bind (drive (2 ^ 64) k _ (by decide) (by have : (2 : Nat) ^ 64 = 18446744073709551616 := by decide
                                                        omega) (by rw [hm]; exact hso) ?_)
  rw [hm]
  refine wpAny_bind (forIn_units (fun a u Q st hq => ?_) _ ?_)
  · split
    · exact wpAny_bind (wpAny_rule (wpAny_pure hq))
    · exact wpAny_pure hq
  · cases r with
    | none => rw [ho]; exact wpAny_pure h
    | some p => obtain ⟨b, e⟩ := p; rw [ho.1]; exact wpAny_pure (h m ho.2.1 ho.2.2)
end
end Mine
end

section
open PySem PySem.W PyProof.Rows PySem.Calls
set_option maxRecDepth 100000
namespace Mine
set_option pp.deepTerms false
set_option pp.deepTerms.threshold 3
open PySem.Builtin PySem.Builtin.Re

/-- the pieces that a substitution lays out from p on -/
inductive SubRun (code : List Nat) (text : List Nat) (rp : List Nat) : Nat → List (List Nat) → Prop
  | stop {p : Nat} : Finds code text.toArray p none → SubRun code text rp p (if p < text.length then [text.drop p] else [])
  | go {p b e : Nat} {ps : List (List Nat)} : Finds code text.toArray p (some (b, e)) → p ≤ b → b < e → e ≤ text.length → SubRun code text rp e ps →
      SubRun code text rp p ((if p < b then [(text.drop p).take (b - p)] else []) ++ [rp] ++ ps)

section
variable {prog : Program} {w : World} {A : Around} {E : Value → Shared → Prop} {s : Shared}

theorem push_plain {l : Addr} {items : Array Value} {x : Value} {Q : Unit → Shared → Prop} (hl : s.heap.PlainList l items)
    (hQ : ∀ h', h'.PlainList l (items.push x) → Heap.SameBut l s.heap h' → Q () { s with heap := h' }) (hsz : items.size ≤ 1000000) :
    wpAny (model prog w) A (updateSeq l (·.push x)) Q E s := by
  obtain ⟨n, ho⟩ := hl
  have h1 : sizeLine = 16777216 := rfl
  refine wpAny_updateSeq ho rfl (hQ _ ⟨n + 1, ?_⟩ (Heap.SameBut.update ..)) (by omega) (by simp; omega)
  rw [Heap.get?_update_self _ ho (by rw [Obj.mapSeq_push_plain]; rfl), Obj.mapSeq_push_plain]

theorem slice_ok {text : List Nat} {b e : Nat} {Q : Value → Shared → Prop} (hsz : text.length ≤ 1000000)
    (h : ∀ t k, Q (.str (S ((text.drop b).take (e - b))) t) { s with toks := k }) : wpAny (model prog w) A (reSlice text.toArray 0 b e) Q E s := by
  have e1 : (⟨text.toArray.extract b e⟩ : Str) = S ((text.drop b).take (e - b)) := by
    apply Str.ext'
    show text.toArray.extract b e = ((text.drop b).take (e - b)).toArray
    apply Array.ext'
    simp [Array.toList_extract, List.extract_eq_drop_take]
  show wpAny _ _ (mkStr ⟨text.toArray.extract b e⟩) Q E s
  rw [e1]
  have hl : (S ((text.drop b).take (e - b))).length ≤ sizeLine := by
    rw [S_length, List.length_take, List.length_drop]
    have h1 : sizeLine = 16777216 := rfl
    omega
  unfold mkStr
  rw [if_neg (by omega)]
  exact fun Γ p hΓ => h _ _

abbrev loopArgs (pa : Addr) (x : Str) (t : Tok) (rv : Value) (n p : Nat) (D : Addr) : Args :=
  ⟨[.ref pa, .str x t, rv, rawInt 0, rawInt 0, rawInt n, rawInt p, rawInt p, .bool false, .ref D, .bool false], []⟩


theorem code_builtin {id : String} {args : Args} {b : Builtin} {R : Result → Shared → Prop} (hp : plainId id = true) (hb : entryFor table id = some b)
    (h : wpAny (model prog w) A.in1 (b args) (fun fin s' => match fin with | .done f => R (.ok f) s' | .again c' => c'.quiet = true ∧ codeAny (model prog w) A c' R s') (fun e s' => R (.error e) s') s) :
    codeAny (model prog w) A (.builtin id args) R s := by
  refine codeAny_of_tree ?_
  rw [Around.under_plainId hp]
  show wpAny _ _ (match entryFor table id with | some b => b args | none => unsupported ((withoutEnding? id "#data").getD id)) _ _ s
  rw [hb]; exact h

theorem subloop_eq (pa : Addr) (x : Str) (t : Tok) (y : Str) (tr : Tok) (n p : Nat) (D : Addr) : Builtin.«re.Pattern.sub.loop» (loopArgs pa x t (.str y tr) n p D) =
    (reWholeTarget (.ref pa) (.str x t) >>= fun tg => reLiteralCannotBeTurned (.str y tr) >>= fun _ => reNextFound tg p false >>= fun r => match r with
      | some m => (if p < m.start then (reSlice tg.text tg.kind p m.start >>= fun v => updateSeq D (·.push v)) else pure ()) >>= fun _ => updateSeq D (·.push (.str y tr)) >>= fun _ =>
          again (.builtin "re.Pattern.sub.loop" ⟨[.ref pa, .str x t, .str y tr, rawInt 0, rawInt 0, rawInt ((n : Int) + 1), rawInt m.handed, rawInt m.handed, .bool (m.handed == m.start), .ref D, .bool false], []⟩)
      | none => (if p < tg.lim then (reSlice tg.text tg.kind p tg.lim >>= fun v => updateSeq D (·.push v)) else pure ()) >>= fun _ => reSlice tg.text tg.kind 0 0 >>= fun joiner => seqItems? (.ref D) >>= fun it =>
          (if ((it.getD #[]).isEmpty) = true then pure joiner else call (.builtin (if (tg.kind == 0) = true then "str.join" else "bytes.join")) [joiner, .ref D]) >>= fun text => ret text) := by
  show (reWholeTarget (.ref pa) (.str x t) >>= fun tg => _) = _
  congr 1; funext tg
  show (reLiteralCannotBeTurned (.str y tr) >>= fun _ => _) = _
  congr 1; funext _
  show (reNextFound tg p false >>= fun r => _) = _
  congr 1; funext r
  cases r with
  | some m =>
    show (if p < m.start then _ else _) = ((if p < m.start then _ else _) >>= _)
    by_cases h : p < m.start
    · rw [if_pos h, if_pos h, bind_assoc]
      rfl
    · rw [if_neg h, if_neg h]
      rfl
  | none =>
    show (if p < tg.lim then _ else _) = ((if p < tg.lim then _ else _) >>= _)
    have e : ∀ joiner : Value, (seqItems? (.ref D) >>= fun it => (if ((it.getD #[]).isEmpty) = true then (pure joiner >>= fun text => ret text) else (call (.builtin (if (tg.kind == 0) = true then "str.join" else "bytes.join")) [joiner, .ref D] >>= fun text => ret text))) =
        (seqItems? (.ref D) >>= fun it => (if ((it.getD #[]).isEmpty) = true then pure joiner else call (.builtin (if (tg.kind == 0) = true then "str.join" else "bytes.join")) [joiner, .ref D]) >>= fun text => ret text) := fun joiner => by
      congr 1; funext it
      by_cases h : ((it.getD #[]).isEmpty) = true
      · rw [if_pos h, if_pos h]
      · rw [if_neg h, if_neg h]
    by_cases h : p < tg.lim
    · rw [if_pos h, if_pos h, bind_assoc]
      congr 1; funext v
      congr 1; funext _
      show (reSlice tg.text tg.kind 0 0 >>= fun joiner => _) = (reSlice tg.text tg.kind 0 0 >>= fun joiner => _)
      congr 1; funext joiner
      exact e joiner
    · rw [if_neg h, if_neg h]
      show (reSlice tg.text tg.kind 0 0 >>= fun joiner => _) = (reSlice tg.text tg.kind 0 0 >>= fun joiner => _)
      congr 1; funext joiner
      exact e joiner

theorem IsPat.sameBut {h h' : Heap} {pa D : Addr} {code : List Nat} {items : Array Value} (x : IsPat h pa code) (hl : h.PlainList D items) (hs : Heap.SameBut D h h') : IsPat h' pa code := by
  obtain ⟨ca, a0, a1, t1, h1, h2⟩ := x
  obtain ⟨n, ho⟩ := hl
  refine ⟨ca, a0, a1, t1, (hs.2 pa fun e => ?_).trans h1, (hs.2 ca fun e => ?_).trans h2⟩
  · rw [e, ho] at h1; injection h1 with q; injection q with q1 _ _ _; injection q1 with q2; exact absurd q2 (by decide)
  · rw [e, ho] at h2; injection h2 with q; injection q with q1 _ _ _; injection q1 with q2; exact absurd q2 (by decide)

theorem sub_loop {pa : Addr} {code text rp : List Nat} {t tr : Tok} {D : Addr} {R : Result → Shared → Prop} (hsz : text.length ≤ 1000000)
    {p : Nat} {ps : List (List Nat)} (run : SubRun code text rp p ps) : ∀ (n : Nat) (s : Shared) (vs : Array Value) (acc : List (List Nat)), IsPat s.heap pa code → s.heap.PlainList D vs → Paired (RS fun _ => none) vs.toList acc →
      acc.length + ps.length ≤ 900000 → ((acc ++ ps).map (·.length + 0)).sum ≤ 1000000 →
      (∀ h' k tk, Heap.ExtBut D s.heap h' → R (.ok (.ret (.str (S (joinL [] (acc ++ ps))) tk))) { s with heap := h', toks := k }) →
      codeAny (model prog w) A (.builtin "re.Pattern.sub.loop" (loopArgs pa (S text) t (.str (S rp) tr) n p D)) R s := by
  have hN : text.toArray.size ≤ 2 ^ 24 := by
    have : (2 : Nat) ^ 24 = 16777216 := by decide
    simp; omega
  have lit : reLiteralCannotBeTurned (.str (S rp) tr) = pure () := rfl
  induction run with
  | @stop p hF =>
    intro n s vs acc hpat hl hp hc hsum hR
    refine code_builtin plain_subloop entry_subloop ?_
    rw [subloop_eq]
    refine wpAny_bind (whole_target hpat (wpAny_bind ?_))
    rw [lit]
    refine wpAny_pure (wpAny_bind (next_found hF rfl rfl rfl hN ?_))
    show wpAny _ _ ((if p < text.toArray.size then _ else _) >>= _) _ _ _
    have fin : ∀ (s₁ : Shared) (vs' : Array Value) (all : List (List Nat)), s₁.heap.PlainList D vs' → Paired (RS fun _ => none) vs'.toList all → (all.map (·.length + 0)).sum ≤ 1000000 →
        (∀ k tk, R (.ok (.ret (.str (S (joinL [] all)) tk))) { s₁ with toks := k }) →
        wpAny (model prog w) A.in1 (reSlice text.toArray 0 0 0 >>= fun joiner => seqItems? (.ref D) >>= fun it =>
          (if ((it.getD #[]).isEmpty) = true then pure joiner else call (.builtin (if ((0 : Nat) == 0) = true then "str.join" else "bytes.join")) [joiner, .ref D]) >>= fun text => ret text)
          (fun fin s' => match fin with | .done f => R (.ok f) s' | .again c' => c'.quiet = true ∧ codeAny (model prog w) A c' R s') (fun e s' => R (.error e) s') s₁ := by
      intro s₁ vs' all hl' hp' hsum' hR'
      refine wpAny_bind (slice_ok hsz fun t0 k0 => wpAny_bind ?_)
      obtain ⟨m, ho⟩ := hl'
      refine wpAny_seqItems (o := { cls := .type "list", data := .seq vs' m }) ho rfl (wpAny_bind ?_)
      cases hv : vs'.toList with
      | nil =>
        rw [hv] at hp'
        cases hp'
        have : vs' = #[] := by apply Array.ext'; exact hv
        subst this
        exact wpAny_pure (wpAny_pure (hR' k0 t0))
      | cons v0 r0 =>
        have hne : ((some vs').getD #[]).isEmpty = false := by
          simp only [Option.getD_some, Array.isEmpty_eq_false_iff]
          intro e; rw [e] at hv; simp at hv
        rw [if_neg (by rw [hne]; exact Bool.false_ne_true)]
        show wpAny _ _ (call (.builtin "str.join") [_, .ref D]) _ _ _
        refine r_join (g := fun b => if b = D then some { cls := .type "list", data := .seq vs' m } else none) (sep := []) (rows := all) (fun b o e => ?_) ⟨t0, rfl⟩ ⟨D, vs'.toList, m, rfl, by simp [listObj], Paired.mono' (fun _ _ q => q) hp'⟩ (by simpa using hsum') fun t2 k2 => wpAny_pure (hR' k2 t2)
        change (if b = D then some { cls := .type "list", data := .seq vs' m } else none) = some o at e
        by_cases hb : b = D
        · rw [if_pos hb] at e; rw [hb, ← e]; exact ho
        · rw [if_neg hb] at e; cases e
    by_cases hlt : p < text.length
    · rw [if_pos (by simpa using hlt)]
      rw [if_pos hlt] at hsum hR hc
      refine wpAny_bind (wpAny_bind (slice_ok hsz fun t1 k1 => ?_))
      refine push_plain (s := { s with toks := k1 }) hl (fun h' hl' hs' => ?_) (by
        have := hp.length
        simp at this hc
        omega)
      refine fin _ _ (acc ++ [text.drop p]) hl' ?_ hsum fun k tk => hR h' k tk hs'.extBut
      rw [Array.toList_push]
      refine Paired.append hp (.cons ⟨t1, ?_⟩ .nil)
      have : (text.drop p).take (text.toArray.size - p) = text.drop p := by
        rw [List.take_of_length_le]; simp
      show Value.str (S ((text.drop p).take (text.toArray.size - p))) t1 = _
      rw [this]
    · rw [if_neg (by simpa using hlt)]
      rw [if_neg hlt, List.append_nil] at hsum hR
      refine wpAny_bind (wpAny_pure ?_)
      exact fin s vs acc hl hp hsum fun k tk => hR s.heap k tk (Heap.ExtBut.refl _ _)
  | @go p b e ps hF hpb hbe hel run ih =>
    intro n s vs acc hpat hl hp hc hsum hR
    refine code_builtin plain_subloop entry_subloop ?_
    rw [subloop_eq]
    refine wpAny_bind (whole_target hpat (wpAny_bind ?_))
    rw [lit]
    refine wpAny_pure (wpAny_bind (next_found hF rfl rfl rfl hN fun m hms hmh => ?_))
    dsimp only
    rw [hms, hmh]
    have fin : ∀ (s₁ : Shared) (vs' : Array Value) (acc' : List (List Nat)), s₁.heap.PlainList D vs' → Paired (RS fun _ => none) vs'.toList acc' → IsPat s₁.heap pa code → acc' ++ [rp] ++ ps = acc ++ ((if p < b then [(text.drop p).take (b - p)] else []) ++ [rp] ++ ps) →
        (∃ h' k, s₁ = { s with heap := h', toks := k } ∧ Heap.ExtBut D s.heap h') →
        wpAny (model prog w) A.in1 (updateSeq D (·.push (.str (S rp) tr)) >>= fun _ =>
          again (.builtin "re.Pattern.sub.loop" ⟨[.ref pa, .str (S text) t, .str (S rp) tr, rawInt 0, rawInt 0, rawInt ((n : Int) + 1), rawInt e, rawInt e, .bool (e == b), .ref D, .bool false], []⟩))
          (fun fin s' => match fin with | .done f => R (.ok f) s' | .again c' => c'.quiet = true ∧ codeAny (model prog w) A c' R s') (fun e s' => R (.error e) s') s₁ := by
      rintro s₁ vs' acc' hl' hp' hpat' hall ⟨h₁, k₁, rfl, hx⟩
      have hlen : acc'.length + 1 + ps.length = acc.length + ((if p < b then [(text.drop p).take (b - p)] else []) ++ [rp] ++ ps).length := by
        have := congrArg List.length hall
        rw [List.length_append, List.length_append, List.length_append (as := acc)] at this
        exact this
      refine wpAny_bind (push_plain hl' (fun h' hl'' hs' => wpAny_pure ?_) (by
        have := hp'.length
        simp at this hc hlen
        omega))
      have heb : (e == b) = false := by simp; omega
      refine ⟨plainId_quiet plain_subloop _, ?_⟩
      rw [heb]
      refine ih (n + 1) _ _ (acc' ++ [rp]) (hpat'.sameBut hl' hs') hl'' (by rw [Array.toList_push]; exact Paired.append hp' (.cons ⟨tr, rfl⟩ .nil)) (by rw [List.length_append]; simp at hlen hc ⊢; omega) (by rw [hall]; exact hsum) fun h'' k tk hx' => ?_
      rw [hall]
      exact hR h'' k tk ((hx.trans hs'.extBut).trans hx')
    by_cases hlt : p < b
    · rw [if_pos hlt]
      refine wpAny_bind (wpAny_bind (slice_ok hsz fun t1 k1 => ?_))
      refine push_plain (s := { s with toks := k1 }) hl (fun h' hl' hs' => ?_) (by
        have := hp.length
        simp at this hc
        omega)
      refine fin _ _ (acc ++ [(text.drop p).take (b - p)]) hl' (by rw [Array.toList_push]; exact Paired.append hp (.cons ⟨t1, rfl⟩ .nil)) (hpat.sameBut hl hs') (by rw [if_pos hlt]; simp) ⟨h', k1, rfl, hs'.extBut⟩
    · rw [if_neg hlt]
      refine wpAny_bind (wpAny_pure ?_)
      exact fin s vs acc hl hp hpat (by rw [if_neg hlt]; simp) ⟨s.heap, s.toks, rfl, Heap.ExtBut.refl _ _⟩
end
end Mine
end

section
open PySem PySem.W PyProof.Rows PySem.Calls
set_option maxRecDepth 100000
namespace Mine
set_option pp.deepTerms false
set_option pp.deepTerms.threshold 3
open PySem.Builtin PySem.Builtin.Re

section
variable {prog : Program} {w : World} {A : Around} {s : Shared}

theorem sub_body {pa : Addr} {x y : Str} {t tr : Tok} {Q : Fin → Shared → Prop} {E : Value → Shared → Prop} {code : List Nat} (hpat : IsPat s.heap pa code) (hy : y.cps.contains 92 = false)
    (h : wpAny (model prog w) A (newList []) (fun l s' => Q (.again (.builtin "re.Pattern.sub.loop" ⟨[.ref pa, .str x t, .str y tr, rawInt 0, rawInt 0, rawInt 0, rawInt 0, rawInt 0, .bool false, l, .bool false], []⟩)) s') E s) :
    wpAny (model prog w) A (Builtin.«re.Pattern.sub» ⟨[.ref pa, .str y tr, .str x t], []⟩) Q E s := by
  show wpAny _ _ (reNamed "re.Pattern.sub" "sub" ["repl", "string", "count"] 2 [.str y tr, .str x t] [] >>= _) _ _ _
  rw [named_sub]
  refine wpAny_bind (wpAny_pure ?_)
  refine wpAny_bind (m := pure 0) (wpAny_pure ?_)
  show wpAny _ _ (specialOf (.str y tr) "__call__" >>= _) _ _ _
  refine wpAny_bind (wpAny_specialOf (typeIs_str _ _ _) nocall_str ?_)
  show wpAny _ _ (if (!y.cps.contains 92) = true then _ else _) _ _ _
  rw [hy, if_pos (by decide)]
  refine wpAny_bind (m := pure (Value.str y tr, (0 : Int))) (wpAny_pure ?_)
  show wpAny _ _ (reWholeTarget (.ref pa) (.str x t) >>= fun _ => _) _ _ _
  refine wpAny_bind (whole_target hpat ?_)
  show wpAny _ _ (newList [] >>= _) _ _ _
  exact wpAny_bind (wpAny_mono h (fun l s' q => wpAny_pure q) fun _ _ e => e)

theorem sub_call {pa : Addr} {text rp : List Nat} {t tr : Tok} {Q : Value → Shared → Prop} {code : List Nat} {ps : List (List Nat)} (hpat : IsPat s.heap pa code) (hy : (S rp).cps.contains 92 = false)
    (hsz : text.length ≤ 1000000) (run : SubRun code text rp 0 ps) (hc : ps.length ≤ 900000) (hsum : (ps.map (·.length + 0)).sum ≤ 1000000)
    (h : ∀ s' tk, Keeps s s' → Q (.str (S (joinL [] ps)) tk) s') : wpAny (model prog w) A (call (.builtin "re.Pattern.sub") [.ref pa, .str (S rp) tr, .str (S text) t]) Q NoE s := by
  have hT : s.TypeIs (.ref pa) "re.Pattern" := by obtain ⟨ca, a0, a1, t1, h1, _⟩ := hpat; exact ⟨_, h1, rfl⟩
  refine wpAny_call (codeAny_call_builtin slot_sub.plain entry_sub (slot_sub.check _ _ _ _ _ _ _ _ hT (args_sub _ _ _) (sub_body hpat hy ?_)))
  refine wpAny_newList ?_ (by decide)
  refine ⟨plainId_quiet plain_subloop _, ?_⟩
  have K : Keeps s { s with heap := s.heap.push { cls := .type "list", data := .seq ([] : List Value).toArray } } := keeps_push _ s.toks
  have hpat' : IsPat (s.heap.push { cls := .type "list", data := .seq ([] : List Value).toArray }) pa code := by
    obtain ⟨ca, a0, a1, t1, h1, h2⟩ := hpat
    exact ⟨ca, a0, a1, t1, keeps_get K h1, keeps_get K h2⟩
  refine sub_loop hsz run 0 { s with heap := s.heap.push { cls := .type "list", data := .seq ([] : List Value).toArray } } #[] [] hpat' ⟨0, Heap.get?_push_size _ rfl⟩ .nil (by simpa using hc) (by simpa using hsum) fun h' k tk hx => ?_
  refine h _ _ ⟨h', k, rfl, fun b o e => hx b o ?_ (keeps_get K e)⟩
  exact Nat.ne_of_lt (Heap.lt_size e)
end
end Mine
end

section
open PySem PySem.W PyProof.Rows PySem.Calls
set_option maxRecDepth 100000
namespace Mine
set_option pp.deepTerms false
set_option pp.deepTerms.threshold 3

theorem joinL_nil (ps : List (List Nat)) : joinL [] ps = ps.flatten := by
  cases ps with
  | nil => rfl
  | cons x r => rw [joinL_flat]; simp

theorem get_at (pre l : List Nat) (i : Nat) : (pre ++ l).toArray.getD (pre.length + i) 0 = l.getD i 0 := by
  simp [Array.getD_eq_getD_getElem?, List.getD_eq_getElem?_getD, List.getElem?_append_right]
theorem get_at' {text pre l : List Nat} (h : text = pre ++ l) {j i : Nat} (hj : j = pre.length + i) : text.toArray.getD j 0 = l.getD i 0 := by
  subst h hj; exact get_at ..
theorem getD_mem {l : List Nat} {i : Nat} (h : i < l.length) (r : List Nat) : (l ++ r).getD i 0 ∈ l := by
  rw [List.getD_eq_getElem?_getD, List.getElem?_append_left h, List.getElem?_eq_getElem h]
  exact List.getElem_mem h
theorem getD_mid (l r : List Nat) (c : Nat) (k : Nat) (h : k = l.length) : (l ++ c :: r).getD k 0 = c := by
  subst h; rw [List.getD_eq_getElem?_getD, List.getElem?_append_right (Nat.le_refl _)]; simp

def pieces2 : List (List Nat) → List (List Nat)
  | [] => []
  | [x] => [x]
  | x :: y :: r => [x] ++ [[13, 10]] ++ pieces2 (y :: r)
theorem pieces2_flat : ∀ rows : List (List Nat), (pieces2 rows).flatten = joinL [13, 10] rows
  | [] => rfl
  | [x] => by simp [pieces2, joinL]
  | x :: y :: r => by
    have := pieces2_flat (y :: r)
    rw [pieces2, joinL, ← this]; simp
theorem pieces2_len : ∀ rows : List (List Nat), (pieces2 rows).length ≤ 2 * rows.length
  | [] => by simp [pieces2]
  | [x] => by simp [pieces2]
  | x :: y :: r => by
    have := pieces2_len (y :: r)
    simp only [pieces2, List.length_append, List.length_cons, List.length_nil] at *; omega

theorem run2 {e : List Nat} (he : IsEnd e) : ∀ (rows : List (List Nat)) (pre text : List Nat), rows ≠ [] → (∀ r ∈ rows, Good r) → text = pre ++ joinL e rows → SubRun code2 text [13, 10] pre.length (pieces2 rows)
  | [], _, _, h, _, _ => absurd rfl h
  | [x], pre, text, _, hr, ht => by
    have hx := hr x List.mem_cons_self
    have hl : text.length = pre.length + x.length := by rw [ht]; simp [joinL]
    have hxl : 0 < x.length := by obtain ⟨q, rfl⟩ := hx.1; simp
    have : pieces2 [x] = (if pre.length < text.length then [text.drop pre.length] else []) := by
      rw [if_pos (by omega), ht]; simp [joinL, pieces2]
    rw [this]
    refine .stop (search2_none _ _ fun i hi hi' => ?_)
    obtain ⟨d, rfl⟩ := Nat.exists_eq_add_of_le hi
    rw [get_at' (l := x) (by rw [ht]; simp [joinL]) rfl]
    have hd : d < x.length := by simp at hi'; omega
    have := getD_mem hd []
    rw [List.append_nil] at this
    exact hx.2 _ this
  | x :: y :: r, pre, text, _, hr, ht => by
    have hx := hr x List.mem_cons_self
    have hy := hr y (by simp)
    have hel : e.length = 1 ∨ e.length = 2 := by rcases he with rfl | rfl | rfl <;> simp
    have ht1 : text = pre ++ (x ++ (e ++ joinL e (y :: r))) := by rw [ht, joinL]; simp
    have hjl : 0 < (joinL e (y :: r)).length := by
      obtain ⟨q, rfl⟩ := hy.1
      rw [joinL_flat]; simp
    have hl : text.length = pre.length + x.length + e.length + (joinL e (y :: r)).length := by rw [ht1]; simp; omega
    have hj0 : (joinL e (y :: r)).getD 0 0 = 46 := by
      obtain ⟨q, rfl⟩ := hy.1
      rw [joinL_flat]; simp
    have ht2 : text = (pre ++ x) ++ (e ++ joinL e (y :: r)) := by rw [ht1]; simp
    have ht3 : text = (pre ++ x ++ e) ++ joinL e (y :: r) := by rw [ht1]; simp
    have ih := run2 he (y :: r) (pre ++ x ++ e) text (by simp) (fun z hz => hr z (by simp at hz ⊢; exact .inr hz)) ht3
    have hxl : 0 < x.length := by obtain ⟨q, rfl⟩ := hx.1; simp
    have hpc : pieces2 (x :: y :: r) = (if pre.length < pre.length + x.length then [(text.drop pre.length).take (pre.length + x.length - pre.length)] else []) ++ [[13, 10]] ++ pieces2 (y :: r) := by
      rw [if_pos (by omega), ht1]; simp [pieces2]
    have hno : ∀ i, pre.length ≤ i → i < pre.length + x.length → text.toArray.getD i 0 ≠ 10 ∧ text.toArray.getD i 0 ≠ 13 := by
      intro i hi hi'
      obtain ⟨d, rfl⟩ := Nat.exists_eq_add_of_le hi
      rw [get_at' ht1 rfl]
      exact hx.2 _ (getD_mem (by omega) _)
    have hpl : (pre ++ x ++ e).length = pre.length + x.length + e.length := by simp; omega
    have hF : Finds code2 text.toArray pre.length (some (pre.length + x.length, pre.length + x.length + e.length)) := by
      have hb : text.toArray.getD (pre.length + x.length) 0 = (e ++ joinL e (y :: r)).getD 0 0 := get_at' ht2 (by simp)
      have hb1 : text.toArray.getD (pre.length + x.length + 1) 0 = (e ++ joinL e (y :: r)).getD 1 0 := get_at' ht2 (by simp)
      rcases he with rfl | rfl | rfl
      · exact finds2_10 _ _ (by omega) (by simp at hl ⊢; omega) (by rw [hb]; rfl) hno
      · exact finds2_13 _ _ (by omega) (by simp at hl ⊢; omega) (by rw [hb]; rfl) (.inr (by rw [hb1]; show (joinL [13] (y :: r)).getD 0 0 ≠ 10; rw [hj0]; decide)) hno
      · exact finds2_1310 _ _ (by omega) (by simp at hl ⊢; omega) (by rw [hb]; rfl) (by rw [hb1]; rfl) hno
    rw [hpc]
    refine .go hF (by omega) (by omega) (by omega) ?_
    rw [← hpl]; exact ih

def pieces1 : List Nat → List (List Nat) → List (List Nat)
  | q, [] => if 0 < q.length then [q] else []
  | q, r :: rows => [q ++ [13, 10]] ++ [[46, 46]] ++ pieces1 (r.drop 1) rows
theorem pieces1_flat : ∀ (rows : List (List Nat)) (q : List Nat), (∀ r ∈ rows, Good r) → 46 :: 46 :: (pieces1 q rows).flatten = joinL [13, 10] ((46 :: 46 :: q) :: rows.map (46 :: ·))
  | [], q, _ => by
    simp only [pieces1, List.map_nil, joinL]
    split
    · simp
    · rename_i h; have : q = [] := by simpa using h
      rw [this]; rfl
  | r :: rows, q, hr => by
    obtain ⟨q', rfl⟩ := (hr r List.mem_cons_self).1
    have := pieces1_flat rows q' fun z hz => hr z (List.mem_cons_of_mem _ hz)
    rw [List.map_cons, joinL, ← this]
    simp [pieces1]
theorem pieces1_len : ∀ (rows : List (List Nat)) (q : List Nat), (pieces1 q rows).length ≤ 2 * rows.length + 1
  | [], q => by simp only [pieces1]; split <;> simp
  | r :: rows, q => by
    have := pieces1_len rows (r.drop 1)
    simp only [pieces1, List.length_append, List.length_cons, List.length_nil] at *; omega

theorem run1dot : ∀ (rows : List (List Nat)) (pre q text : List Nat), Good (46 :: q) → (∀ r ∈ rows, Good r) → text = pre ++ joinL [13, 10] ((46 :: q) :: rows) → SubRun code1 text [46, 46] (pre.length + 1) (pieces1 q rows)
  | [], pre, q, text, hq, _, ht => by
    have ht1 : text = pre ++ 46 :: q := ht
    have hl : text.length = pre.length + 1 + q.length := by rw [ht1]; simp; omega
    have : pieces1 q [] = (if pre.length + 1 < text.length then [text.drop (pre.length + 1)] else []) := by
      have e : text.drop (pre.length + 1) = q := by rw [ht1]; simp [List.drop_append]
      rw [e]
      simp only [pieces1]
      by_cases h : 0 < q.length
      · rw [if_pos h, if_pos (by omega)]
      · rw [if_neg h, if_neg (by omega)]
    rw [this]
    refine .stop (finds1_none fun i hi hi' => ?_)
    obtain ⟨d, rfl⟩ := Nat.exists_eq_add_of_le hi
    have hd : d < (46 :: q).length := by simp at hi' ⊢; omega
    have e : pre.length + 1 + d - 1 = pre.length + d := by omega
    rw [e, get_at' ht1 rfl]
    have := getD_mem hd []
    rw [List.append_nil] at this
    have := (hq.2 _ this).1
    simp only [Bool.or_eq_false_iff, beq_eq_false_iff_ne, ne_eq]
    exact ⟨by omega, this⟩
  | r :: rows, pre, q, text, hq, hr, ht => by
    have hrG := hr r List.mem_cons_self
    obtain ⟨q', rfl⟩ := hrG.1
    have ht0 : text = (pre ++ 46 :: q ++ [13, 10]) ++ joinL [13, 10] ((46 :: q') :: rows) := by rw [ht, joinL]; simp
    have ih := run1dot rows (pre ++ 46 :: q ++ [13, 10]) q' text hrG (fun z hz => hr z (List.mem_cons_of_mem _ hz)) ht0
    have ht1 : text = pre ++ ((46 :: q ++ [13]) ++ (10 :: joinL [13, 10] ((46 :: q') :: rows))) := by rw [ht0]; simp
    have hJ : ∃ j, joinL [13, 10] ((46 :: q') :: rows) = 46 :: j := ⟨_, by rw [joinL_flat]; rfl⟩
    obtain ⟨j, hj⟩ := hJ
    have hl : text.length = pre.length + 1 + q.length + 2 + 1 + j.length := by rw [ht0, hj]; simp; omega
    have hpl : (pre ++ 46 :: q ++ [13, 10]).length = pre.length + q.length + 3 := by simp; omega
    have hpc : pieces1 q ((46 :: q') :: rows) = (if pre.length + 1 < pre.length + q.length + 3 then [(text.drop (pre.length + 1)).take (pre.length + q.length + 3 - (pre.length + 1))] else []) ++ [[46, 46]] ++ pieces1 q' rows := by
      rw [if_pos (by omega)]
      have e1 : text.drop (pre.length + 1) = (q ++ [13, 10]) ++ joinL [13, 10] ((46 :: q') :: rows) := by rw [ht0]; simp [List.drop_append]
      have e2 : pre.length + q.length + 3 - (pre.length + 1) = (q ++ [13, 10]).length := by simp; omega
      rw [e1, e2, List.take_left']
      · rfl
      · rfl
    rw [hpc]
    refine .go (e := pre.length + q.length + 3 + 1) (finds1 (by omega) (by simp; omega) ?_ ?_ ?_) (by omega) (by omega) (by omega) ?_
    · have e : pre.length + q.length + 3 - 1 = pre.length + (q.length + 2) := by omega
      rw [e, get_at' ht1 rfl, getD_mid _ _ _ _ (by simp)]
      simp
    · rw [get_at' (l := 46 :: j) (by rw [ht0, hj]) (i := 0) (by rw [hpl])]
      rfl
    · intro i hi hi'
      obtain ⟨d, rfl⟩ := Nat.exists_eq_add_of_le hi
      have e : pre.length + 1 + d - 1 = pre.length + d := by omega
      have hd : d < (46 :: q ++ [13]).length := by simp; omega
      rw [e, get_at' ht1 rfl]
      have hm := getD_mem hd (10 :: joinL [13, 10] ((46 :: q') :: rows))
      simp only [Bool.or_eq_false_iff, beq_eq_false_iff_ne, ne_eq]
      refine ⟨by omega, ?_⟩
      rcases List.mem_append.mp hm with h | h
      · exact (hq.2 _ h).1
      · rw [List.mem_singleton.mp h]; decide
    · rw [← hpl]; exact ih
theorem run1all {rows : List (List Nat)} {q : List Nat} (hq : Good (46 :: q)) (hr : ∀ r ∈ rows, Good r) : SubRun code1 (joinL [13, 10] ((46 :: q) :: rows)) [46, 46] 0 ([[46, 46]] ++ pieces1 q rows) := by
  have hJ : ∃ j, joinL [13, 10] ((46 :: q) :: rows) = 46 :: j := ⟨_, by rw [joinL_flat]; rfl⟩
  obtain ⟨j, hj⟩ := hJ
  have h := run1dot rows [] q _ hq hr rfl
  have : ([[46, 46]] ++ pieces1 q rows) = (if 0 < 0 then [((joinL [13, 10] ((46 :: q) :: rows)).drop 0).take (0 - 0)] else []) ++ [[46, 46]] ++ pieces1 q rows := by simp
  rw [this]
  refine .go (finds1 (Nat.le_refl _) (by simp [hj]) rfl (by rw [hj]; rfl) fun i _ hi => absurd hi (Nat.not_lt_zero _)) (Nat.le_refl _) (by omega) (by simp [hj]) h
end Mine
end

section
open PySem PySem.W PyProof.Rows PySem.Calls
set_option maxRecDepth 100000
namespace Mine
set_option pp.deepTerms false
set_option pp.deepTerms.threshold 3

theorem isPat1 {P : Params} {h : Heap} (W : Wd P h) : IsPat h 36 code1 := ⟨35, _, _, _, W.K 36 _ rfl, W.K 35 _ rfl⟩
theorem isPat2 {P : Params} {h : Heap} (W : Wd P h) : IsPat h 41 code2 := ⟨40, _, _, _, W.K 41 _ rfl, W.K 40 _ rfl⟩
theorem IsPat.typeIs {s : Shared} {pa : Addr} {code : List Nat} (x : IsPat s.heap pa code) : s.TypeIs (.ref pa) "re.Pattern" := by
  obtain ⟨ca, a0, a1, t1, h1, _⟩ := x; exact ⟨_, h1, rfl⟩
theorem IsPat.noDict {s : Shared} {pa : Addr} {code : List Nat} (x : IsPat s.heap pa code) : ∀ a, Value.ref pa = .ref a → ∃ o, s.heap.get? a = some o ∧ o.dict = none := by
  obtain ⟨ca, a0, a1, t1, h1, _⟩ := x
  intro a e; cases e; exact ⟨_, h1, rfl⟩

theorem sum_add (l : List (List Nat)) (c d : Nat) : (l.map (·.length + (c + d))).sum = (l.map (·.length + c)).sum + l.length * d := by
  induction l with
  | nil => simp
  | cons a l ih => simp only [List.map_cons, List.sum_cons, List.length_cons, ih, Nat.succ_mul]; omega
theorem flat_len (l : List (List Nat)) : (l.map (·.length + 0)).sum = l.flatten.length := by
  simp [List.length_flatten]
theorem len_le_sum (l : List (List Nat)) : l.length ≤ (l.map (·.length + 3)).sum := by
  induction l with
  | nil => simp
  | cons a l ih => simp only [List.map_cons, List.sum_cons, List.length_cons]; omega

theorem call_quotedata {prog : Program} {w : World} : QuoSpec prog w := by
  intro A s v g e rows Q R W G hv hn hr he hsz hQ
  refine call_fn (binds := [(Str.ofString "data", v)]) R W (W.K 48 _ rfl) rfl ⟨47, _, _, _, rfl, W.K 47 _ rfl, rfl, rfl⟩ rfl rfl rfl rfl G (by decide) fun L s₁ hL R1 W1 X => ?_
  have hlen := len_le_sum rows
  have hel : e.length ≤ 2 := by rcases he with rfl | rfl | rfl <;> decide
  have hjl : ∀ e' : List Nat, e'.length ≤ 2 → (joinL e' rows).length ≤ 100000 := fun e' h' => by
    refine Nat.le_trans (joinL_length _ _) ?_
    have : ∀ k, k ≤ 3 → ∀ l : List (List Nat), (l.map (·.length + k)).sum ≤ (l.map (·.length + 3)).sum := fun k hk l => by
      induction l with
      | nil => simp
      | cons a l ih => simp only [List.map_cons, List.sum_cons]; omega
    have := this e'.length (by omega) rows
    omega
  obtain ⟨td, rfl⟩ := hv
  refine wpAny_execs_cons (wpAny_Return_some (MethodCall_ (ld_glob W1 (gl_re1 _) ?_)))
  refine getMethod_builtin (isPat1 W1).typeIs plainAttrs_pat slot_sub type_sub (isPat1 W1).noDict ?_
  refine callWith_method1 (spliced_more (wpAny_Constant_str (spliced_more ?_)))
  have K2 : Keeps s₁ { s₁ with toks := s₁.toks + 1 } := keeps_toks _
  have W2 := W1.keeps K2
  have X2 := X.toks (s₁.toks + 1)
  refine MethodCall_ (ld_glob W2 (gl_re2 _) ?_)
  refine getMethod_builtin (isPat2 W2).typeIs plainAttrs_pat slot_sub type_sub (isPat2 W2).noDict ?_
  refine callWith_method1 (spliced_more (ld_glob W2 (gl_crlf _) (spliced_more (ld_local X2 rfl (spliced_none ?_)))))
  have hr2 := run2 he rows [] (joinL e rows) hn hr rfl
  show wpAny _ _ (call (.builtin "re.Pattern.sub") [.ref 41, .str (S [13, 10]) 342, .str (S (joinL e rows)) td]) _ _ _
  refine sub_call (isPat2 W2) (by decide +kernel) (Nat.le_trans (hjl e hel) (by decide)) hr2 ?_ ?_ fun s₃ t3 K3 => ?_
  · have := pieces2_len rows; omega
  · rw [flat_len, pieces2_flat]
    exact Nat.le_trans (hjl _ (by decide)) (by decide)
  rw [joinL_nil, pieces2_flat]
  have W3 := W2.keeps K3
  refine spliced_none ?_
  cases rows with
  | nil => exact absurd rfl hn
  | cons r0 rows =>
    obtain ⟨q, rfl⟩ := (hr r0 List.mem_cons_self).1
    have hr1 := run1all (hr _ List.mem_cons_self) (fun z hz => hr z (List.mem_cons_of_mem _ hz))
    show wpAny _ _ (call (.builtin "re.Pattern.sub") [.ref 36, .str (S [46, 46]) s₁.toks, .str (S (joinL [13, 10] ((46 :: q) :: rows))) t3]) _ _ _
    have hflat : ([[46, 46]] ++ pieces1 q rows).flatten = joinL [13, 10] (((46 :: q) :: rows).map (46 :: ·)) := by
      have := pieces1_flat rows q fun z hz => hr z (List.mem_cons_of_mem _ hz)
      rw [List.map_cons, ← this]; simp
    refine sub_call (isPat1 W3) (by decide +kernel) (Nat.le_trans (hjl _ (by decide)) (by decide)) hr1 ?_ ?_ fun s₄ t4 K4 => ?_
    · have := pieces1_len rows q
      simp only [List.length_cons, List.length_append, List.length_nil] at *; omega
    · rw [flat_len, hflat]
      refine Nat.le_trans (joinL_length _ _) ?_
      have e1 : (((46 :: q) :: rows).map (46 :: ·)) = (((46 :: q) :: rows).map (rep 1)) := by
        apply List.map_congr_left; intro a _; rfl
      rw [e1, sum_rep]
      have : ∀ l : List (List Nat), (l.map (·.length + [13, 10].length)).sum ≤ (l.map (·.length + 3)).sum := fun l => by
        induction l with
        | nil => simp
        | cons a l ih =>
          simp only [List.map_cons, List.sum_cons]
          have : [13, 10].length = 2 := rfl
          omega
      have := this ((46 :: q) :: rows)
      omega
    rw [joinL_nil, hflat]
    exact hQ _ g s₄ ((X2.grow.trans (Grow.ofKeeps X2.grow.inn K3)).trans (Grow.ofKeeps (fun b o e => keeps_get K3 (X2.grow.inn b o e)) K4)) ⟨t4, rfl⟩
end Mine
end

section
open PySem PySem.W PyProof.Rows PySem.Calls
set_option maxRecDepth 100000
namespace Mine
set_option pp.deepTerms false
set_option pp.deepTerms.threshold 3

def drawnN (ns : List Int) : List Nat := (ns.take 6).map fun i => (i.fmod 1000000).toNat
def cellsN (ns : List Int) : List Nat := drawnN ns ++ [2, 1, 2, 0, 11821, 0].drop (drawnN ns).length
def wordN (ns : List Int) : List Nat := ((cellsN ns).take 4).map (· % 3)
theorem drawnN_len (ns : List Int) : (drawnN ns).length ≤ 6 := by simp [drawnN]; omega
theorem cellsN_len (ns : List Int) : (cellsN ns).length = 6 := by
  have := drawnN_len ns
  simp [cellsN]; omega
theorem wordN_len (ns : List Int) : (wordN ns).length = 4 := by
  have := cellsN_len ns
  simp [wordN]; omega
theorem wordN_lt (ns : List Int) : ∀ n ∈ wordN ns, n < 3 := fun n hn => by
  obtain ⟨m, _, rfl⟩ := List.mem_map.mp hn
  omega

theorem r_mod {prog : Program} {w : World} {A : Around} {s : Shared} {g : View} {Q : Value → Shared → Prop} {u v : Value} {a b : Nat} (hu : RNat g u a) (hv : RNat g v b) (hb : b ≠ 0) (hQ : ∀ y k, RNat g y (a % b) → Q y { s with toks := k }) :
    wpAny (model prog w) A (binaryOp .Mod u v) Q NoE s := by
  obtain ⟨t, rfl⟩ := hu
  obtain ⟨t', rfl⟩ := hv
  refine mod_int' (by omega) (hQ _ _ ⟨s.toks, ?_⟩)
  rw [Int.fmod_eq_emod_of_nonneg _ (by omega)]
  congr 1

section
variable {prog : Program} {w : World} {A : Around} {s : Shared} {g : View} {Q : Value → Shared → Prop} {u v : Value} {a b : Nat}
theorem r_add (hu : RNat g u a) (hv : RNat g v b) (hQ : ∀ y k, RNat g y (a + b) → Q y { s with toks := k }) : wpAny (model prog w) A (binaryOp .Add u v) Q NoE s := by
  obtain ⟨t, rfl⟩ := hu
  obtain ⟨t', rfl⟩ := hv
  exact AutoIntOps.add_0 (hQ _ _ ⟨s.toks, by congr 1⟩)
theorem r_mul (hu : RNat g u a) (hv : RNat g v b) (ha : a < 2 ^ 63) (hQ : ∀ y k, RNat g y (a * b) → Q y { s with toks := k }) : wpAny (model prog w) A (binaryOp .Mult u v) Q NoE s := by
  obtain ⟨t, rfl⟩ := hu
  obtain ⟨t', rfl⟩ := hv
  exact AutoIntOps.mul_0 (hQ _ _ ⟨s.toks, by congr 1⟩)
theorem r_pow (hu : RNat g u a) (hv : RNat g v b) (ha : a < 2 ^ 63) (hb : b ≤ 1000) (hQ : ∀ y k, RNat g y (a ^ b) → Q y { s with toks := k }) : wpAny (model prog w) A (binaryOp .Pow u v) Q NoE s := by
  obtain ⟨t, rfl⟩ := hu
  obtain ⟨t', rfl⟩ := hv
  refine pow_int_small (by omega) (by omega) (by simp; omega) (hQ _ _ ⟨s.toks, ?_⟩)
  rw [Int.toNat_natCast, Int.natCast_pow]
theorem r_fdiv (hu : RNat g u a) (hv : RNat g v b) (hb : b ≠ 0) (hb2 : b < 1073741824) (hQ : ∀ y k, RNat g y (a / b) → Q y { s with toks := k }) : wpAny (model prog w) A (binaryOp .FloorDiv u v) Q NoE s := by
  obtain ⟨t, rfl⟩ := hu
  obtain ⟨t', rfl⟩ := hv
  refine floordiv_int (by omega) (hQ _ _ ⟨s.toks, ?_⟩) (.inl (PyProof.noPylong_small (by omega)))
  rw [Int.fdiv_eq_ediv_of_nonneg _ (by omega)]
  congr 1
end
def rtN (ns : List Int) (a b : Nat) : Nat := (cellsN ns).getD 4 0 / 3 ^ (3 * a + b) % 3
theorem rtN_le (ns : List Int) (a b : Nat) : rtN ns a b ≤ 2 := by
  have : rtN ns a b < 3 := Nat.mod_lt _ (by decide)
  omega
theorem cellsN_get (ns : List Int) {i : Nat} (h : i < 6) : (cellsN ns)[i]? = some ((cellsN ns).getD i 0) := by
  rw [List.getD_eq_getElem?_getD, List.getElem?_eq_getElem (by rw [cellsN_len]; exact h)]; rfl

def endN (ns : List Int) : List Nat := ([[10], [13], [13, 10]] : List (List Nat)).getD ((cellsN ns).getD 5 0 % 3) []
theorem endN_is (ns : List Int) : IsEnd (endN ns) ∧ ([[10], [13], [13, 10]] : List (List Nat))[(cellsN ns).getD 5 0 % 3]? = some (endN ns) := by
  unfold endN
  have : (cellsN ns).getD 5 0 % 3 < 3 := Nat.mod_lt _ (by decide)
  generalize (cellsN ns).getD 5 0 % 3 = k at this
  have : k = 0 ∨ k = 1 ∨ k = 2 := by omega
  rcases this with rfl | rfl | rfl
  · exact ⟨.inl rfl, rfl⟩
  · exact ⟨.inr (.inl rfl), rfl⟩
  · exact ⟨.inr (.inr rfl), rfl⟩

theorem paired_maps {α β γ : Type} {F : β → γ → Prop} (f : α → β) (h : α → γ) : ∀ l : List α, (∀ a ∈ l, F (f a) (h a)) → Paired F (l.map f) (l.map h)
  | [], _ => .nil
  | a :: l, H => .cons (H a List.mem_cons_self) (paired_maps f h l fun b hb => H b (List.mem_cons_of_mem _ hb))
theorem piles_told (rt : Nat → Nat → Nat) {wd : List Nat} (hl : wd.length = 4) : Paired List.Perm (pilesL rt wd) ((List.range 5).map (toldRows rt wd 16)) :=
  paired_maps _ _ _ fun c hc => laid_told rt hl c (by simpa using hc)
theorem told_cps (rt : Nat → Nat → Nat) {wd : List Nat} (hw : ∀ n ∈ wd, n < 3) : ∀ xs ∈ (List.range 5).map (toldRows rt wd 16), ∀ x ∈ xs, ∀ c ∈ x, c < 0x110000 := by
  intro xs hxs x hx c hc
  obtain ⟨k, _, rfl⟩ := List.mem_map.mp hxs
  obtain ⟨m, _, rfl⟩ := List.mem_map.mp hx
  unfold rowT rep at hc
  rcases List.mem_append.mp hc with h | h
  · rw [List.eq_of_mem_replicate h]; decide
  · obtain ⟨p, _, rfl⟩ := List.mem_map.mp h
    have := getD_lt hw p
    omega

set_option maxHeartbeats 4000000 in
theorem law_spec : LawSpec Challenge.pw_wn0008_01 := by
  intro w s a vs ns Q W hL hp hlen hQ
  have R : Room callerA (10 + 1) := ⟨by decide, by decide, rfl⟩
  have G : VIn (fun _ => none) s.heap := fun _ _ e => nomatch e
  refine wpC_call (callC_fn (binds := [(Str.ofString "script", .ref a)]) R W (W.K 98 _ rfl) rfl ⟨97, _, _, _, rfl, W.K 97 _ rfl, rfl, rfl⟩ rfl rfl rfl rfl G (by decide) fun L s₁ hLn R1 W1 X => ?_)
  have hh := R1.handled
  have X' : ∃ m0 cm0 : Str → Option Value, InEnv (fun _ => none) s _ _ (fun _ => none) s₁.heap m0 cm0 (fun _ => none) s₁ ∧ m0 (Str.ofString "script") = some (.ref a) := ⟨_, _, X, rfl⟩
  obtain ⟨m0, cm0, X, hms⟩ := X'
  have hL1 : s₁.heap.IsList a vs := hL.at fun o e => keeps_get X.grow.keeps e
  -- drawn
  refine execsC_cons (wpC_any ?_)
  refine st_map (R₁ := RInt) (R := RNat) (xs := ns.take 6) (cl := []) (fun i => (i.fmod 1000000).toNat) mono_RNat mono_RInt hh X rfl rfl lookup_sub0 (by simp; omega) ?_ ?_ ?_
  · refine Subscript_ (ld_local X hms (wpAny_Slice (wpAny_evalPart_none (wpAny_evalPart_some (wpAny_Constant_int (wpAny_evalPart_none ?_))))))
    have X1 := X.toks (s₁.toks + 1)
    refine r_lsliceI (R := RInt) (s := { s₁ with toks := s₁.toks + 1 }) mono_RInt X1.grow.inn hL1 (Paired.mono' (fun _ _ q => q) hp) hlen .none (.int _ _) .none (by simp) (fun hp => ?_) fun z g' s' G' hz => ⟨g', ?_, hz⟩
    · have := pick_upto 6 vs.toList hp
      simpa using this
    · exact (Grow.ofKeeps X.grow.inn (keeps_toks _)).trans G'
  · intro C m g₁ g₂ g₃ h₃ s₃ v x hx hle1 X3 hR hle3
    obtain ⟨tx, rfl⟩ := hR
    have W3 := (W.keeps X.grow.keeps).keeps X3.grow.keeps
    refine wpAny_BinOp (Call_Name rfl (ld_blt W3 (gb_int _) (callWith_type1 (spliced_more (ld_local X3 rfl (spliced_none (call_int_int ?_)))))))
    refine wpAny_BinOp (wpAny_Constant_int (wpAny_Constant_int (pow_int_small (by decide) (by decide) (by decide) ?_)))
    refine mod_int' (by decide) ?_
    have e : x.fmod ((10 : Int) ^ (6 : Int).toNat) = (((x.fmod 1000000).toNat : Nat) : Int) := by
      have : (10 : Int) ^ (6 : Int).toNat = 1000000 := by decide
      rw [this, Int.toNat_of_nonneg (Int.fmod_nonneg_of_pos _ (by decide))]
    exact ⟨_, _, X3.toks _, _, congrArg (fun z => Value.int z _) e⟩
  · intro v g' s₂ X2 hle2 hkb2 hv
    have hv : RList RNat g' v (drawnN ns) := hv
    have hdl := drawnN_len ns
    -- cells
    refine execsC_cons (wpC_any (wpAny_Assign_Name (wpAny_BinOp (ld_local X2 rfl (Subscript_ (wpAny_List ?_))))))
    refine spliced_more (wpAny_Constant_int (spliced_more (wpAny_Constant_int (spliced_more (wpAny_Constant_int (spliced_more (wpAny_Constant_int (spliced_more (wpAny_Constant_int (spliced_more (wpAny_Constant_int (spliced_none ⟨by show 6 ≤ sizeLine; decide, ?_⟩))))))))))))
    have X3 := X2.toks (s₂.toks + 1 + 1 + 1 + 1 + 1 + 1)
    have hp6 : Paired (RNat g') [Value.int 2 s₂.toks, .int 1 (s₂.toks + 1), .int 2 (s₂.toks + 1 + 1), .int 0 (s₂.toks + 1 + 1 + 1), .int 11821 (s₂.toks + 1 + 1 + 1 + 1), .int 0 (s₂.toks + 1 + 1 + 1 + 1 + 1)] [2, 1, 2, 0, 11821, 0] := .cons ⟨_, rfl⟩ (.cons ⟨_, rfl⟩ (.cons ⟨_, rfl⟩ (.cons ⟨_, rfl⟩ (.cons ⟨_, rfl⟩ (.cons ⟨_, rfl⟩ .nil)))))
    obtain ⟨g4, G4, hl4⟩ := newlist_view (s := { s₂ with toks := s₂.toks + 1 + 1 + 1 + 1 + 1 + 1 }) mono_RNat X3.grow.inn hp6 (s₂.toks + 1 + 1 + 1 + 1 + 1 + 1)
    have X4 := X3.step G4
    have hv4 := mono_RList mono_RNat _ _ _ _ G4.le hv
    refine wpAny_Slice (wpAny_evalPart_some (Call_Name rfl (ld_blt (W.keeps X4.grow.keeps) (gb_len _) (PyProof.Rows.callWith_builtin1 (spliced_more (ld_local X4 rfl (spliced_none ?_)))))))
    refine r_len X4.grow.inn hv4 (by omega) fun yl kl hyl => wpAny_evalPart_none (wpAny_evalPart_none ?_)
    obtain ⟨tl, rfl⟩ := hyl
    have X5 := X4.toks kl
    refine tmp (r_lslice (R := RNat) (ys := ([2, 1, 2, 0, 11821, 0] : List Nat).drop (drawnN ns).length) mono_RNat X5.grow.inn hl4 (by decide) (.int _ _) .none .none (by simp) (fun vs hp => pick_from _ vs hp) fun z gz sz Gz hz => ?_)
    have X6 := X5.step Gz
    refine r_add_list mono_RNat X6.grow.inn (mono_RList mono_RNat _ _ _ _ Gz.le hv4) hz (by simp; omega) fun vc g7 s7 G7 hvc => ?_
    have hvc : RList RNat g7 vc (cellsN ns) := hvc
    have X7 := X6.step G7
    refine st_cell X7 (c := L + 1) rfl (List.mem_cons_of_mem _ (List.mem_cons_of_mem _ (List.mem_cons_of_mem _ (List.mem_cons_of_mem _ List.mem_cons_self)))) fun s8 X8 k8 => ?_
    have hc6 := cellsN_len ns
    -- word
    refine execsC_cons (wpC_any (wpAny_Assign_Name (Call_Name rfl (ld_blt (W.keeps X8.grow.keeps) (gb_bytes _) (callWith_type1 (spliced_more ?_))))))
    refine ev_map (R₁ := RNat) (R := RNat) (xs := (cellsN ns).take 4) (cl := []) (· % 3) mono_RNat mono_RNat hh X8 rfl lookup_sub0 (by simp; omega) ?_ ?_ ?_
    · refine Subscript_ (ld_cell X8 (c := L + 1) rfl rfl (wpAny_Slice (wpAny_evalPart_none (wpAny_evalPart_some (wpAny_Constant_int (wpAny_evalPart_none ?_))))))
      have X9 := X8.toks (s8.toks + 1)
      refine r_lslice (R := RNat) (s := { s8 with toks := s8.toks + 1 }) (ys := (cellsN ns).take 4) mono_RNat X9.grow.inn hvc (by omega) .none (.int _ _) .none (by simp) (fun vs hp => pick_upto 4 vs hp) fun z gz sz Gz hz => ⟨gz, (Grow.ofKeeps X8.grow.inn (keeps_toks _)).trans Gz, hz⟩
    · intro C m g₁ g₂ g₃ h₃ s₃ v x hx hle1 X3 hR hle3
      refine wpAny_BinOp (ld_local X3 rfl (wpAny_Constant_int ?_))
      exact r_mod (b := 3) hR ⟨_, rfl⟩ (by decide) fun y k hy => ⟨_, _, (X3.toks 0).toks k, hy⟩
    · intro vl g9 s9 G9 X9 hvl
      have hvl : RList RNat g9 vl (wordN ns) := hvl
      refine spliced_none (r_bytesL hh X9.grow.inn hvl (fun n hn => Nat.lt_trans (wordN_lt ns n hn) (by decide)) (by rw [wordN_len]; decide) fun vw s10 G10 hvw => ?_)
      have X10 := X9.step G10
      refine st_cell X10 (c := L + 1 + 1) rfl (List.mem_cons_of_mem _ (List.mem_cons_of_mem _ (List.mem_cons_of_mem _ List.mem_cons_self))) fun s11 X11 k11 => ?_
      -- rates
      refine execsC_cons (wpC_any (wpAny_Assign_Name ?_))
      refine ev_comp1K (R := RList RNat) (g := g9) (x₁ := Str.ofString "one") (cl := [(Str.ofString "cells", L + 1)]) (n := 3) (mono_RList mono_RNat) (fun i => [(List.range 3).map fun b => rtN ns i b]) rfl (fun _ => rfl) (fun _ => rfl) rfl rfl (by decide)
        (fun n c e => X11.cell n c (lookup_sub_cons rfl lookup_sub0 n c e)) (fun n n' c e e' => X11.apart n n' c (lookup_sub_cons rfl lookup_sub0 n c e) (lookup_sub_cons rfl lookup_sub0 n' c e')) (fun i hi => ?_) ?_ ?_
      · rw [range_map_outs, List.length_map, List.length_range]; omega
      · refine Call_Name rfl (ld_blt (W.keeps X11.grow.keeps) (gb_range _) (callWith_type1 (spliced_more (wpAny_Constant_int (spliced_none ?_)))))
        refine src_rangeN (n := 3) (g := g9) (g₁ := g9) hh ⟨_, rfl⟩ (by decide) (Grow.ofKeeps X11.grow.inn (keeps_toks _)) fun it s12 G12 S12 => ⟨g9, _, G12, S12 _, fun C hC => ?_⟩
        rintro i v1 s13 m1 cm1 g13 hi X13 hm ⟨_, hvi⟩ hle13
        refine wpAny_assign_Name (st_cell X13 (c := C + 1) rfl (List.mem_cons_of_mem _ List.mem_cons_self) fun s14 X14 k14 => tests_nil ?_)
        rw [if_pos rfl]
        have hcc : cm1 (Str.ofString "cells") = some vc := (hm (Str.ofString "cells") (by decide)).trans rfl
        have W14 := (W.keeps X11.grow.keeps).keeps X14.grow.keeps
        refine ev_mapN (R := RNat) (n := 3) (cl := [(Str.ofString "one", C + 1), (Str.ofString "cells", L + 1)]) (fun b => rtN ns i b) mono_RNat X14 rfl (lookup_sub_cons rfl (lookup_sub_cons rfl lookup_sub0)) (by decide) ?_ ?_ ?_
        · refine Call_Name rfl (ld_blt W14 (gb_range _) (callWith_type1 (spliced_more (wpAny_Constant_int (spliced_none ?_)))))
          exact src_rangeN (n := 3) (g := g13) (g₁ := g13) hh ⟨_, rfl⟩ (by decide) (Grow.ofKeeps X14.grow.inn (keeps_toks _)) fun it s₂ G2 S2 => ⟨_, _, G2, S2 _, fun i u h q => q.2⟩
        · intro C2 m₂ g₁ g₂ g₃ h₃ s₃ v2 j hj hle1 X3 hv2 hle3
          have hle4 : VLe g7 g₃ := (G9.le.trans hle13).trans (hle1.trans hle3)
          refine wpAny_BinOp (wpAny_BinOp (Subscript_ (ld_cell X3 (c := L + 1) rfl hcc (wpAny_Constant_int ?_))))
          refine r_item (i := 4) (X3.toks _).grow.inn (mono_RList mono_RNat _ _ _ _ hle4 hvc) ⟨_, rfl⟩ (cellsN_get ns (by decide)) (by decide) fun y4 hy4 => ?_
          refine wpAny_BinOp (wpAny_Constant_int (wpAny_BinOp (wpAny_BinOp (wpAny_Constant_int (ld_cell ((X3.toks _).toks _) (c := C + 1) rfl (if_pos rfl) ?_)))))
          refine r_mul (g := g₃) (a := 3) (b := i) ⟨_, rfl⟩ hvi (by decide) fun ym km hym => ?_
          refine ld_local (X3.toks _) rfl (r_add (g := g₃) hym hv2 fun ya ka hya => ?_)
          refine r_pow (g := g₃) (a := 3) ⟨_, rfl⟩ hya (by decide) (by omega) fun yp kp hyp => ?_
          refine r_fdiv (g := g₃) hy4 hyp (Nat.ne_of_gt (Nat.pow_pos (by decide))) ?_ fun yf kf hyf => ?_
          · refine Nat.lt_of_le_of_lt (Nat.pow_le_pow_right (by decide) (show 3 * i + j ≤ 8 by omega)) (by decide)
          refine wpAny_Constant_int (r_mod (g := g₃) (b := 3) hyf ⟨_, rfl⟩ (by decide) fun yr kr hyr => ?_)
          exact ⟨_, _, (X3.toks 0).toks kr, hyr⟩
        · intro v' g15 s15 G15 X15 hv'
          exact ⟨_, _, g15, _, X15, fun y hy => (if_neg hy).trans (hm y hy), hv', rfl⟩
      · intro vt g16 s16 G16 hvt
        have hvt : RList (RList RNat) g16 vt (tab (rtN ns)) := hvt
        have X16 := X11.step G16
        refine st_cell X16 (c := L + 1 + 1 + 1) rfl (List.mem_cons_of_mem _ (List.mem_cons_of_mem _ List.mem_cons_self)) fun s17 X17 k17 => ?_
        -- end
        refine execsC_cons (wpC_any (wpAny_Assign_Name (Subscript_ (wpAny_List ?_))))
        refine spliced_more (wpAny_Constant_str (spliced_more (wpAny_Constant_str (spliced_more (wpAny_Constant_str (spliced_none ⟨by show 3 ≤ sizeLine; decide, ?_⟩))))))
        have X18 := X17.toks (s17.toks + 1 + 1 + 1)
        have hp3 : Paired (RS g16) [Value.str (Str.ofString "\n") s17.toks, .str (Str.ofString "\r") (s17.toks + 1), .str (Str.ofString "\r\n") (s17.toks + 1 + 1)] [[10], [13], [13, 10]] := .cons ⟨_, rfl⟩ (.cons ⟨_, rfl⟩ (.cons ⟨_, rfl⟩ .nil))
        obtain ⟨g19, G19, hl19⟩ := newlist_view (s := { s17 with toks := s17.toks + 1 + 1 + 1 }) mono_RS X18.grow.inn hp3 (s17.toks + 1 + 1 + 1)
        have X19 := X18.step G19
        have hle19 : VLe g7 g19 := (G9.le.trans G16.le).trans G19.le
        refine wpAny_BinOp (Subscript_ (ld_cell X19 (c := L + 1) rfl rfl (wpAny_Constant_int ?_)))
        refine r_item (i := 5) (X19.toks _).grow.inn (mono_RList mono_RNat _ _ _ _ hle19 hvc) ⟨_, rfl⟩ (cellsN_get ns (by decide)) (by decide) fun y5 hy5 => ?_
        refine wpAny_Constant_int (r_mod (g := g19) (b := 3) hy5 ⟨_, rfl⟩ (by decide) fun yr kr hyr => ?_)
        have X20 := (X19.toks 0).toks kr
        refine tmp (r_item X20.grow.inn hl19 hyr (endN_is ns).2 (by omega) fun ve hve => ?_)
        refine st_cell X20 (c := L + 1 + 1 + 1 + 1) rfl (List.mem_cons_of_mem _ List.mem_cons_self) fun s21 X21 k21 => ?_
        have hvw21 : RW g19 vw (wordN ns) := hvw
        have hvt21 : RList (RList RNat) g19 vt (tab (rtN ns)) := mono_RList (mono_RList mono_RNat) _ _ _ _ G19.le hvt
        clear hkb2 k8 k11 k17 k21 hle2 hL1 hv hvl hy5 hyr hp3 hl4 hv4 hz hp6 hl19
        have W21 := W.keeps X21.grow.keeps
        -- fronts
        refine execsC_cons ?_
        have hwl := wordN_len ns
        refine st_comp1C (R := RW) (n := 5) (cl := [(Str.ofString "word", L + 1 + 1)]) mono_RW (fun i => [((wordN ns).take i).reverse]) X21 rfl rfl (by decide) rfl (by decide)
          (fun n c e => X21.cell n c (lookup_sub_cons rfl lookup_sub0 n c e)) (fun n n' c e e' => X21.apart n n' c (lookup_sub_cons rfl lookup_sub0 n c e) (lookup_sub_cons rfl lookup_sub0 n' c e')) (fun i hi => ?_) ?_ ?_
        · rw [range_map_outs, List.length_map, List.length_range]; omega
        · refine Call_Name rfl (ld_blt W21 (gb_range _) (callWith_type1 (spliced_more (wpAny_Constant_int (spliced_none ?_)))))
          refine src_rangeN (n := 5) (g := g19) (g₁ := g19) hh ⟨_, rfl⟩ (by decide) (Grow.ofKeeps X21.grow.inn (keeps_toks _)) fun it s22 G22 S22 => ⟨g19, _, G22, S22 _, fun C hC => ?_⟩
          rintro i vi s23 m23 cm23 g23 hi X23 hm ⟨_, hvi⟩ hle23
          rw [hm] at X23
          obtain ⟨ti, rfl⟩ := id hvi
          refine wpAny_assign_Name (st_local X23 fun s24 X24 k24 => tests_nil ?_)
          rw [if_pos rfl]
          have W24 := W21.keeps X24.grow.keeps
          refine callC_Name (wpC_any (ld_glob W24 (gl_byteswap _) ?_))
          refine callWithC_fn (P := w.params) ⟨_, _, _, _, rfl⟩ (spliced_more ?_) (hfew := by show 2 ≤ 30; decide)
          refine Subscript_ (ld_cell X24 (c := L + 1 + 1) rfl rfl (wpAny_Slice (wpAny_evalPart_none (wpAny_evalPart_some (ld_local X24 rfl (wpAny_evalPart_none ?_))))))
          refine r_bto (g := g23) (k := i) hvw21 (by omega) fun yf kf hyf => ?_
          have X25 := X24.step ((Grow.refl X24.grow.inn).push { cls := .type "slice", data := .fields #[.none, .int (i : Int) ti, .none] } kf)
          refine spliced_more (BoolOp_or (ld_local X25 rfl (truthy_int ?_)))
          have htl : ((wordN ns).take i).length = i := by rw [List.length_take]; omega
          by_cases h0 : i = 0
          · rw [if_neg (by simp [h0])]
            have X26 := X25.toks (kf + 1)
            exact BoolOp_one (wpAny_Constant_int (spliced_none ⟨W21.keeps X26.grow.keeps, callC_swap (W21.keeps X26.grow.keeps) (R1.less (by decide)) X26.grow.inn hyf ⟨_, by rw [htl, h0]; rfl⟩ (fun n hn => Nat.lt_trans (wordN_lt ns n (List.mem_of_mem_take hn)) (by decide)) (by rw [htl]; omega) fun yv s27 G27 hyv => ⟨_, _, _, _, X26.step G27, rfl, hyv, rfl⟩⟩))
          · rw [if_pos (by simp; omega)]
            have X26 := X25
            exact spliced_none ⟨W21.keeps X26.grow.keeps, callC_swap (W21.keeps X26.grow.keeps) (R1.less (by decide)) X26.grow.inn hyf ⟨_, by rw [htl]; congr 1; omega⟩ (fun n hn => Nat.lt_trans (wordN_lt ns n (List.mem_of_mem_take hn)) (by decide)) (by rw [htl]; omega) fun yv s27 G27 hyv => ⟨_, _, _, _, X26.step G27, rfl, hyv, rfl⟩⟩
        · intro vf gf s28 X28 hlef hkbf hvf
          have hvf : RList RW gf vf ((List.range 5).map fun i => ((wordN ns).take i).reverse) := by rw [range_map_outs] at hvf; exact hvf
          have hvw28 : RW gf vw (wordN ns) := hvw
          have hvt28 := mono_RList (mono_RList mono_RNat) _ _ _ _ hlef hvt21
          have hve28 : RS gf ve (endN ns) := hve
          have W28 := W.keeps X28.grow.keeps
          clear hkbf
          refine wpC_any (wpAny_execs_cons (wpAny_If (isTrue_plain ?_)))
          refine ev_comp1 (R := RInt) (g := gf) (n := 5) (cl := []) (cm := fun _ => none) mono_RInt (fun _ => []) rfl (by decide) rfl (by decide) (fun _ _ e => nomatch e) (fun _ _ _ e => nomatch e) (fun i hi => by rw [List.flatMap_eq_nil_iff.mpr (fun _ _ => rfl)]; decide) ?_ ?_
          · refine ld_local X28 rfl ?_
            refine src_list hh (Grow.refl X28.grow.inn) hvf fun it s29 G29 S29 => ⟨gf, _, G29, S29 _, fun C hC => ?_⟩
            rintro i v s30 m30 cm30 g30 hi X30 hm ⟨x, hx, t, rfl⟩ hle30
            refine wpAny_assign_Name (st_local X30 fun s31 X31 k31 => tests_one (isTrue_not (isTrue_plain ?_)))
            have W31 := W28.keeps X31.grow.keeps
            refine Call_Name rfl (ld_blt W31 (gb_isinstance _) (PyProof.Rows.callWith_builtin1 (spliced_more (ld_local X31 rfl (spliced_more (ld_blt W31 (gb_bytes _) (spliced_none (r_isbytes (wpAny_truthy_bool ?_)))))))))
            exact ⟨_, _, _, X31, hm, rfl⟩
          · intro vl g32 s32 G32 hvl
            have hvl : RList RInt g32 vl [] := by rw [List.flatMap_eq_nil_iff.mpr (fun _ _ => rfl)] at hvl; exact hvl
            have X32 := X28.step G32
            refine r_truthy_nil X32.grow.inn hvl fun k32 => ?_
            rw [if_neg Bool.false_ne_true]
            refine wpAny_execs_nil ?_
            have X33 := X32.toks k32
            have W33 := W.keeps X33.grow.keeps
            have hvf33 := mono_RList mono_RW _ _ _ _ G32.le hvf
            have hvt33 := mono_RList (mono_RList mono_RNat) _ _ _ _ G32.le hvt28
            clear G32 hvl
            -- piles
            refine wpAny_execs_cons ?_
            refine st_comp1 (R := RList RS) (n := 5) (cl := [(Str.ofString "word", L + 1 + 1), (Str.ofString "rates", L + 1 + 1 + 1), (Str.ofString "end", L + 1 + 1 + 1 + 1)]) (mono_RList mono_RS) (fun i => [pileAt (rtN ns) (wordN ns) i]) X33 rfl rfl (by decide) rfl (by decide)
              (fun n c e => X33.cell n c (lookup_sub_cons rfl (lookup_sub_cons rfl (lookup_sub_cons rfl lookup_sub0)) n c e)) (fun n n' c e e' => X33.apart n n' c (lookup_sub_cons rfl (lookup_sub_cons rfl (lookup_sub_cons rfl lookup_sub0)) n c e) (lookup_sub_cons rfl (lookup_sub_cons rfl (lookup_sub_cons rfl lookup_sub0)) n' c e')) (fun i hi => ?_) ?_ ?_
            · rw [range_map_outs, List.length_map, List.length_range]; omega
            · refine Call_Name rfl (ld_blt W33 (gb_enumerate _) (callWith_type1 (spliced_more (ld_local X33 rfl (spliced_none ?_)))))
              refine src_enumL hh (Grow.refl X33.grow.inn) hvf33 fun it s34 G34 S34 => ⟨g32, _, G34, S34 _ _ _, fun C hC => ?_⟩
              rintro i v s35 m35 cm35 g35 hi X35 hm ⟨T, t, fr, y, rfl, hfr, hy, hT⟩ hle35
              rw [hm] at X35
              have hfr' : fr = ((wordN ns).take i).reverse := by
                rw [List.getElem?_map, List.getElem?_range hi] at hfr
                cases hfr; rfl
              subst hfr'
              refine wpAny_assign_Tuple hh hT rfl rfl fun h' hx => ?_
              have X36 := X35.step (Grow.ofKeeps X35.grow.inn (keeps_ext hx))
              refine assignInOrder_cons (wpAny_assign_Name (st_local X36 fun s37 X37 _ => ?_))
              refine assignInOrder_cons (wpAny_assign_Name (st_local X37 fun s38 X38 _ => assignInOrder_nil (tests_nil ?_)))
              rw [if_pos rfl]
              have W38 := W33.keeps X38.grow.keeps
              refine Call_Name rfl (ld_glob W38 (gl_laid _) (callWith_fn (P := w.params) ⟨_, _, _, _, rfl⟩ (spliced_more (ld_local X38 rfl (spliced_more ?_)))))
              refine Subscript_ (ld_cell X38 (c := L + 1 + 1) rfl rfl (wpAny_Slice (wpAny_evalPart_some (ld_local X38 rfl (wpAny_evalPart_none (wpAny_evalPart_none ?_))))))
              refine r_bfrom (g := g35) (k := i) hvw28 (by omega) fun yr kr hyr => ?_
              have X39 := X38.step ((Grow.refl X38.grow.inn).push { cls := .type "slice", data := .fields #[.int (i : Int) t, .none, .none] } kr)
              refine spliced_more (ld_cell X39 (c := L + 1 + 1 + 1) rfl rfl (spliced_more (ld_cell X39 (c := L + 1 + 1 + 1 + 1) rfl rfl (spliced_none ⟨W33.keeps X39.grow.keeps, ?_⟩))))
              refine call_laid call_quotedata (rt := rtN ns) (e := endN ns) (W33.keeps X39.grow.keeps) (R1.less (by decide)) X39.grow.inn hy hyr (mono_RList (mono_RList mono_RNat) _ _ _ _ hle35 hvt33) hve (endN_is ns).1
                (fun n hn => wordN_lt ns n (List.mem_of_mem_take (List.mem_reverse.mp hn))) (fun n hn => wordN_lt ns n (List.mem_of_mem_drop hn)) (rtN_le ns) (by rw [List.length_reverse, List.length_take, List.length_drop]; omega) fun v' g' s' Gl hv' => ⟨_, _, _, _, X39.step Gl, rfl, hv', rfl⟩
            · intro vp gp s40 X40 hlep hkbp hvp
              have hvp : RList (RList RS) gp vp (pilesL (rtN ns) (wordN ns)) := by rw [range_map_outs] at hvp; exact hvp
              have hvw40 : RW gp vw (wordN ns) := hvw
              have hvt40 := mono_RList (mono_RList mono_RNat) _ _ _ _ hlep hvt33
              have W40 := W.keeps X40.grow.keeps
              clear hkbp
              -- if [sorted(pile) ..] != told
              refine wpAny_execs_cons (wpAny_If (wpAny_isTrue_Compare1 ?_))
              refine ev_map (R₁ := RList RS) (R := RSrt) (xs := pilesL (rtN ns) (wordN ns)) (cl := []) id mono_RSrt (mono_RList mono_RS) hh X40 rfl lookup_sub0 (by simp [pilesL]) ?_ ?_ ?_
              · exact ld_local X40 rfl ⟨gp, Grow.refl X40.grow.inn, hvp⟩
              · intro C m₂ g₁ g₂ g₃ h₃ s₃ v rows hrows hle1 X3 hR hle3
                have W3 := W40.keeps X3.grow.keeps
                refine Call_Name rfl (ld_blt W3 (gb_sorted _) (PyProof.Rows.callWith_builtin1 (spliced_more (ld_local X3 rfl (spliced_none ?_)))))
                refine r_sorted X3.grow.inn hR ?_ fun y gy sy Gy hy => ⟨_, gy, X3.step Gy, hy⟩
                obtain ⟨c, hc, rfl⟩ := List.mem_map.mp hrows
                rw [List.mem_range] at hc
                have hpl : (pileAt (rtN ns) (wordN ns) c).length = (toldRows (rtN ns) (wordN ns) 16 c).length := (laid_told (rtN ns) hwl c hc).length_eq
                rw [hpl]
                have := toldRows_len (rtN ns) (wordN ns) 16 c
                omega
              · intro vs1 g41 s41 G41 X41 hvs1
                rw [List.map_id] at hvs1
                have W41 := W.keeps X41.grow.keeps
                have hvt41 := mono_RList (mono_RList mono_RNat) _ _ _ _ G41.le hvt40
                have hvp41 := mono_RList (mono_RList mono_RS) _ _ _ _ G41.le hvp
                refine Call_Name rfl (ld_glob W41 (gl_told _) (callWith_fn (P := w.params) ⟨_, _, _, _, rfl⟩ (spliced_more (ld_cell X41 (c := L + 1 + 1) rfl rfl (spliced_more (ld_cell X41 (c := L + 1 + 1 + 1) rfl rfl (spliced_none ⟨W41, ?_⟩)))))))
                refine call_told (rt := rtN ns) W41 (R1.less (by decide)) X41.grow.inn hvw hvt41 (wordN_lt ns) (rtN_le ns) hwl fun vs2 g42 s42 G42 hvs2 => ?_
                have X42 := X41.step G42
                have hroom := R1.units
                have hcl : cLine = 9900 := rfl
                refine r_ne_piles X42.grow.inn (mono_RList mono_RSrt _ _ _ _ G42.le hvs1) hvs2 (piles_told _ hwl) (told_cps _ (wordN_lt ns)) (by omega) (wpAny_truthy_bool ?_)
                rw [if_neg Bool.false_ne_true]
                refine wpAny_execs_nil ?_
                have hvp42 := mono_RList (mono_RList mono_RS) _ _ _ _ G42.le hvp41
                clear hvs1 hvs2 hvt41 hvp41 hvt40 hvp hvt33 hvf33
                -- even, odd
                refine wpAny_execs_cons (Assign_Tuple_swapped (names := [Str.ofString "even", Str.ofString "odd"]) (wpAny_Tuple (spliced_more ?_)))
                refine Call_Name rfl (ld_glob (W.keeps X42.grow.keeps) (gl_gathered _) (callWith_fn (P := w.params) ⟨_, _, _, _, rfl⟩ (spliced_more ?_)))
                refine Subscript_ (ld_local X42 rfl (wpAny_Slice (wpAny_evalPart_none (wpAny_evalPart_none (wpAny_evalPart_some (wpAny_Constant_int ?_))))))
                have X43 := X42.toks (s42.toks + 1)
                refine r_lslice2 (R := RList RS) (s := { s42 with toks := s42.toks + 1 }) (ys := evenL (rtN ns) (wordN ns)) (mono_RList mono_RS) X43.grow.inn hvp42 (by simp [pilesL]) .none .none (.int _ _) (by decide) (fun vs hp => pick_even hp) fun z gz sz Gz hz => ?_
                have X44 := X43.step Gz
                refine spliced_none ⟨W.keeps X44.grow.keeps, ?_⟩
                refine call_gath (W.keeps X44.grow.keeps) (R1.less (by decide)) X44.grow.inn hz (by rw [even_length _ hwl]; decide) fun ve2 g45 s45 G45 hve2 => ?_
                have X45 := X44.step G45
                refine spliced_more ?_
                have hvp45 := mono_RList (mono_RList mono_RS) _ _ _ _ (Gz.le.trans G45.le) hvp42
                refine Call_Name rfl (ld_glob (W.keeps X45.grow.keeps) (gl_gathered _) (callWith_fn (P := w.params) ⟨_, _, _, _, rfl⟩ (spliced_more ?_)))
                refine Subscript_ (ld_local X45 rfl (wpAny_Slice (wpAny_evalPart_some (wpAny_Constant_int (wpAny_evalPart_none (wpAny_evalPart_some (wpAny_Constant_int ?_)))))))
                have X46 := X45.toks (s45.toks + 1 + 1)
                refine r_lslice2 (R := RList RS) (s := { s45 with toks := s45.toks + 1 + 1 }) (ys := oddL (rtN ns) (wordN ns)) (mono_RList mono_RS) X46.grow.inn hvp45 (by simp [pilesL]) (.int _ _) .none (.int _ _) (by decide) (fun vs hp => pick_odd hp) fun z2 gz2 sz2 Gz2 hz2 => ?_
                have X47 := X46.step Gz2
                refine spliced_none ⟨W.keeps X47.grow.keeps, ?_⟩
                refine call_gath (W.keeps X47.grow.keeps) (R1.less (by decide)) X47.grow.inn hz2 (by rw [odd_length _ hwl]; decide) fun vo g48 s48 G48 hvo => ?_
                have X48 := X47.step G48
                have hve48 := mono_RList mono_RDict _ _ _ _ (Gz2.le.trans G48.le) hve2
                refine spliced_none ⟨by show 2 ≤ sizeLine; decide, ?_⟩
                have X49 := X48.step ((Grow.refl X48.grow.inn).push (tupObj [ve2, vo]) s48.toks)
                refine unpackItems_tuple (items := #[ve2, vo]) hh ⟨_, Heap.get?_push_size _ rfl, rfl, 0, rfl⟩ fun h' hx => ?_
                have X50 := X49.step (Grow.ofKeeps X49.grow.inn (keeps_ext hx))
                refine assignInOrder_cons (bindName_ (st_local X50 fun s51 X51 k51 => ?_))
                refine assignInOrder_cons (bindName_ (st_local X51 fun s52 X52 k52 => assignInOrder_nil ?_))
                clear hz hz2 hvp45 hvp42 hve2 k51 k52
                -- counts
                refine wpAny_execs_cons ?_
                have hte : (tabs ((evenL (rtN ns) (wordN ns)).flatten.map S)).length = 9 := by unfold tabs; rw [List.length_map, List.length_range, List.length_map, even_length _ hwl]
                have hto : (tabs ((oddL (rtN ns) (wordN ns)).flatten.map S)).length = 9 := by unfold tabs; rw [List.length_map, List.length_range, List.length_map, odd_length _ hwl]
                have hce : (tabs ((evenL (rtN ns) (wordN ns)).flatten.map S)).map sumD = (List.range 9).map fun i : Nat => (i : Int) := by rw [counts_eq, List.length_map, even_length _ hwl]
                have hco : (tabs ((oddL (rtN ns) (wordN ns)).flatten.map S)).map sumD = (List.range 9).map fun i : Nat => (i : Int) := by rw [counts_eq, List.length_map, odd_length _ hwl]
                refine st_comp1 (R := RList RInt) (n := 2) (cl := []) (cm := fun _ => none) (mono_RList mono_RInt) (pick1 (fun d => d.map sumD) [tabs ((evenL (rtN ns) (wordN ns)).flatten.map S), tabs ((oddL (rtN ns) (wordN ns)).flatten.map S)]) X52 rfl rfl (by decide) rfl (by decide)
                  (fun _ _ e => nomatch e) (fun _ _ _ e => nomatch e) (fun i hi => Nat.le_trans (pick1_size _ _ i hi) (by show 2 ≤ 1000000; decide)) ?_ ?_
                · refine wpAny_Tuple (spliced_more (ld_local X52 rfl (spliced_more (ld_local X52 rfl (spliced_none ⟨by show 2 ≤ sizeLine; decide, ?_⟩)))))
                  have Gt := ((Grow.refl X52.grow.inn).push (tupObj [ve2, vo]) s52.toks).add (Heap.get?_push_size _ rfl) none_of_size
                  have hleT := addv_le (tupObj [ve2, vo]) (X52.grow.none₀ (none_of_size (h := s52.heap))).2
                  refine src_tuple (R := RList (RDict Challenge.pw_wn0008_01 w)) (vs := [ve2, vo]) (xs := [tabs ((evenL (rtN ns) (wordN ns)).flatten.map S), tabs ((oddL (rtN ns) (wordN ns)).flatten.map S)]) hh Gt (addv_self _ _ _) (.cons (mono_RList mono_RDict _ _ _ _ hleT hve48) (.cons (mono_RList mono_RDict _ _ _ _ hleT hvo) .nil)) fun it s53 G53 S53 => ⟨_, _, G53, S53, fun C hC => ?_⟩
                  rintro i v s54 m54 cm54 g54 hi X54 hm ⟨ts, hts, hvts⟩ hle54
                  refine wpAny_assign_Name (st_local X54 fun s55 X55 k55 => tests_nil ?_)
                  rw [if_pos rfl]
                  have hts9 : ts.length ≤ 100000 := by
                    have := List.mem_of_getElem? hts
                    simp only [List.mem_cons, List.not_mem_nil, or_false] at this
                    rcases this with rfl | rfl <;> omega
                  refine ev_map (R₁ := RDict Challenge.pw_wn0008_01 w) (R := RInt) (xs := ts) (cl := []) sumD mono_RInt mono_RDict hh X55 rfl lookup_sub0 hts9 ?_ ?_ ?_
                  · exact ld_local X55 rfl ⟨g54, Grow.refl X55.grow.inn, mono_RList mono_RDict _ _ _ _ hle54 hvts⟩
                  · intro C2 m₂ g₁ g₂ g₃ h₃ s₃ v2 d hd hle1 X3 hR hle3
                    have W3 := ((W.keeps X52.grow.keeps).keeps X55.grow.keeps).keeps X3.grow.keeps
                    refine Call_Name rfl (ld_glob W3 (gl_count_calls _) (callWith_fn (P := w.params) ⟨_, _, _, _, rfl⟩ (spliced_more (ld_local X3 rfl (spliced_none ⟨W3, ?_⟩)))))
                    exact call_count W3 (R1.less (by decide)) X3.grow.inn hR fun v' s' G' hv' => ⟨_, _, X3.step G', hv'⟩
                  · intro v' g56 s56 G56 X56 hv'
                    exact ⟨_, _, g56, _, X56, hm, hv', by unfold pick1; rw [hts]; rfl⟩
                · intro vcs g57 s57 X57 hle57 hkb57 hvcs
                  have hvcs : RList (RList RInt) g57 vcs [(List.range 9).map fun i : Nat => (i : Int), (List.range 9).map fun i : Nat => (i : Int)] := by
                    have h := pick1_all (fun d : List (List (Str × Int)) => d.map sumD) [tabs ((evenL (rtN ns) (wordN ns)).flatten.map S), tabs ((oddL (rtN ns) (wordN ns)).flatten.map S)]
                    rw [List.map_cons, List.map_cons, List.map_nil, hce, hco] at h
                    rw [show (2 : Nat) = [tabs ((evenL (rtN ns) (wordN ns)).flatten.map S), tabs ((oddL (rtN ns) (wordN ns)).flatten.map S)].length from rfl, h] at hvcs
                    exact hvcs
                  have W57 := W.keeps X57.grow.keeps
                  have hve57 := mono_RList mono_RDict _ _ _ _ hle57 hve48
                  have hvo57 := mono_RList mono_RDict _ _ _ _ hle57 hvo
                  -- return
                  refine wpAny_execs_cons (wpAny_Return_some (BoolOp_and (wpAny_Compare1 ?_)))
                  refine Subscript_ (ld_local X57 rfl (minus1 fun t1 k1 => ?_))
                  have X58 := X57.toks k1
                  refine r_last X58.grow.inn hve57 (tabs_last _) fun d1 hd1 => ?_
                  refine Subscript_ (ld_local X58 rfl (minus1 fun t2 k2 => ?_))
                  have X59 := X58.toks k2
                  refine r_last (s := { s57 with toks := k2 }) X59.grow.inn hvo57 (tabs_last _) fun d2 hd2 => ?_
                  refine r_eq_dict (s := { s57 with toks := k2 }) X59.grow.inn hd1 hd2 (tabOf_perm ((cuts_cancel _ hwl).map S)) (tab_facts _).1 (by omega) (wpAny_truthy_bool ?_)
                  rw [if_pos rfl]
                  refine BoolOp_one (wpAny_Compare1 (ld_local X59 rfl (wpAny_List (spliced_more ?_))))
                  refine Call_Name rfl (ld_blt (W.keeps X59.grow.keeps) (gb_list _) (callWith_type1 (spliced_more ?_)))
                  refine Call_Name rfl (ld_blt (W.keeps X59.grow.keeps) (gb_range _) (callWith_type1 (spliced_more (wpAny_Constant_int (spliced_none (call_range_1 (spliced_none ?_)))))))
                  have X60 := X59.step ((Grow.refl X59.grow.inn).push { cls := .type "range", data := .fields #[.int 0 (k2 + 1), .int 9 k2, .int 1 (k2 + 1 + 1)] } (k2 + 1 + 1 + 1))
                  refine r_listOf (n := 9) hh X60.grow.inn (Heap.get?_push_size _ rfl) (by decide) fun y1 g61 s61 G61 hy1 => ?_
                  have X61 := X60.step G61
                  refine spliced_more ?_
                  refine Call_Name rfl (ld_blt (W.keeps X61.grow.keeps) (gb_list _) (callWith_type1 (spliced_more ?_)))
                  refine Call_Name rfl (ld_blt (W.keeps X61.grow.keeps) (gb_range _) (callWith_type1 (spliced_more (wpAny_Constant_int (spliced_none (call_range_1 (spliced_none ?_)))))))
                  have X62 := X61.step ((Grow.refl X61.grow.inn).push { cls := .type "range", data := .fields #[.int 0 (s61.toks + 1), .int 9 s61.toks, .int 1 (s61.toks + 1 + 1)] } (s61.toks + 1 + 1 + 1))
                  refine r_listOf (n := 9) hh X62.grow.inn (Heap.get?_push_size _ rfl) (by decide) fun y2 g63 s63 G63 hy2 => ?_
                  have X63 := X62.step G63
                  refine spliced_none ⟨by show 2 ≤ sizeLine; decide, ?_⟩
                  obtain ⟨g64, G64, hl64⟩ := newlist_view (s := s63) (mono_RList mono_RInt) X63.grow.inn (.cons (mono_RList mono_RInt _ _ _ _ G63.le hy1) (.cons hy2 .nil)) s63.toks
                  have X64 := X63.step G64
                  have hvcs64 := mono_RList (mono_RList mono_RInt) _ _ _ _ ((G61.le.trans G63.le).trans G64.le) hvcs
                  refine r_eq_intss X64.grow.inn hvcs64 hl64 (by decide +kernel) (by decide +kernel) (by omega) ?_
                  exact hQ _ X64.grow.keeps
end Mine
end

theorem PySem.Challenge.cw_wn0008_01_holds : PySem.Challenge.rw_wn0008_01.Holds := by
  exact Mine.holds_of Mine.law_spec
