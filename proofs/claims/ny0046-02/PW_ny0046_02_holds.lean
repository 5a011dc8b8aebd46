import PyProof.Rows.All
import Wide.All
import OpenK.AllK
import Wide.FinOn
import PySem.Challenge.RW_ny0046_02
open PySem PySem.W PyProof.Rows PySem.Calls PySem.Builtin PySem.Builtin.Str
set_option Elab.async false
set_option linter.unusedVariables false
set_option maxRecDepth 100000

namespace Mine

/-- all objects but those of W stay as they are; the outside too; generators that stood stay; bare ones stay bare -/
structure Stp (W : List Addr) (s s' : Shared) : Prop where
  keep : ∀ b o, b ∉ W → s.heap.get? b = some o → s'.heap.get? b = some o
  os : s'.os = s.os
  bare : AllBare s.gens → AllBare s'.gens
  old : ∀ i, i < s.gens.size → s'.gens[i]? = s.gens[i]?

theorem Stp.refl (W : List Addr) (s : Shared) : Stp W s s := ⟨fun _ _ _ e => e, rfl, fun h => h, fun _ _ => rfl⟩
theorem Stp.trans {W : List Addr} {s s' s'' : Shared} (a : Stp W s s') (b : Stp W s' s'') : Stp W s s'' :=
  ⟨fun x o h e => b.keep x o h (a.keep x o h e), b.os.trans a.os, fun h => b.bare (a.bare h), fun i hi => by
    have h1 := a.old i hi
    have h2 : i < s'.gens.size := by
      rw [Array.getElem?_eq_getElem hi] at h1
      exact (Array.getElem?_eq_some_iff.mp h1).1
    exact (b.old i h2).trans h1⟩
theorem Stp.weaken {W W' : List Addr} {s s' : Shared} (a : Stp W s s') (h : ∀ b ∈ W, b ∈ W') : Stp W' s s' :=
  ⟨fun x o hx e => a.keep x o (fun hm => hx (h x hm)) e, a.os, a.bare, a.old⟩
theorem Stp.of_nil {W : List Addr} {s s' : Shared} (a : Stp [] s s') : Stp W s s' := a.weaken (fun _ h => nomatch h)
/-- the mutated ones were not there at the start -/
theorem Stp.fresh {W : List Addr} {s₀ s s' : Shared} (a : Stp [] s₀ s) (b : Stp W s s') (h : ∀ x ∈ W, s₀.heap.get? x = none) : Stp [] s₀ s' :=
  ⟨fun x o _ e => b.keep x o (fun hm => by rw [h x hm] at e; cases e) (a.keep x o (fun h => nomatch h) e), b.os.trans a.os, fun h => b.bare (a.bare h), (Stp.trans (W := W) a.of_nil b).old⟩
theorem Stp.all {s s' : Shared} (a : Stp [] s s') : ∀ b o, s.heap.get? b = some o → s'.heap.get? b = some o := fun b o e => a.keep b o (fun h => nomatch h) e

/-- a heap (and the count of tokens) changed alone -/
theorem Stp.heap {W : List Addr} {s : Shared} {h' : Heap} {tk : Nat} (hk : ∀ b o, b ∉ W → s.heap.get? b = some o → h'.get? b = some o) : Stp W s { s with heap := h', toks := tk } :=
  ⟨hk, rfl, fun h => h, fun _ _ => rfl⟩
theorem Stp.push {s : Shared} {o : Obj} {tk : Nat} : Stp [] s { s with heap := s.heap.push o, toks := tk } := Stp.heap fun _ _ _ e => Heap.get?_push_of_some _ e
theorem Stp.toks {s : Shared} {tk : Nat} : Stp [] s { s with toks := tk } := ⟨fun _ _ _ e => e, rfl, fun h => h, fun _ _ => rfl⟩
theorem Stp.same {L : Addr} {s : Shared} {h' : Heap} {tk : Nat} (hs : Heap.SameBut L s.heap h') : Stp [L] s { s with heap := h', toks := tk } :=
  Stp.heap fun b o hb e => (hs.2 b (fun h => hb (h ▸ List.mem_singleton.mpr rfl))).trans e

/-- what is looked at: the heap without W -/
abbrev View := Addr → Option Obj
def vw (W : List Addr) (h : Heap) : View := fun b => if b ∈ W then none else h.get? b
def VLe (g g' : View) : Prop := ∀ b o, g b = some o → g' b = some o
theorem VLe.refl (g : View) : VLe g g := fun _ _ e => e
theorem VLe.trans {g g' g'' : View} (a : VLe g g') (b : VLe g' g'') : VLe g g'' := fun x o e => b x o (a x o e)
theorem vw_some {W : List Addr} {h : Heap} {b : Addr} {o : Obj} (e : vw W h b = some o) : b ∉ W ∧ h.get? b = some o := by
  unfold vw at e; split at e
  · cases e
  · exact ⟨by assumption, e⟩
theorem vw_of {W : List Addr} {h : Heap} {b : Addr} {o : Obj} (hb : b ∉ W) (e : h.get? b = some o) : vw W h b = some o := by
  unfold vw; rw [if_neg hb]; exact e
theorem Stp.vle {W : List Addr} {s s' : Shared} (a : Stp W s s') : VLe (vw W s.heap) (vw W s'.heap) := fun b o e => vw_of (vw_some e).1 (a.keep b o (vw_some e).1 (vw_some e).2)
theorem vw_sub {W W' : List Addr} {h : Heap} (hs : ∀ b ∈ W', b ∈ W) : VLe (vw W h) (vw W' h) := fun _ _ e => vw_of (fun hm => (vw_some e).1 (hs _ hm)) (vw_some e).2
theorem Stp.vle' {W V : List Addr} {s s' : Shared} (a : Stp W s s') (hs : ∀ b ∈ W, b ∈ V) : VLe (vw V s.heap) (vw V s'.heap) := (a.weaken hs).vle

abbrev Dsc := View → Value → Prop
def Mono (D : Dsc) : Prop := ∀ g g' v, VLe g g' → D g v → D g' v

inductive All2 {α β : Type} (R : α → β → Prop) : List α → List β → Prop
  | nil : All2 R [] []
  | cons {a b as bs} : R a b → All2 R as bs → All2 R (a :: as) (b :: bs)
namespace All2
variable {α β : Type} {R R' : α → β → Prop}
theorem length : ∀ {as : List α} {bs : List β}, All2 R as bs → as.length = bs.length
  | _, _, .nil => rfl
  | _, _, .cons _ h => congrArg (· + 1) h.length
theorem imp (hi : ∀ a b, R a b → R' a b) : ∀ {as : List α} {bs : List β}, All2 R as bs → All2 R' as bs
  | _, _, .nil => .nil
  | _, _, .cons x h => .cons (hi _ _ x) (h.imp hi)
theorem append : ∀ {as as' : List α} {bs bs' : List β}, All2 R as bs → All2 R as' bs' → All2 R (as ++ as') (bs ++ bs')
  | _, _, _, _, .nil, h => h
  | _, _, _, _, .cons x h, h' => .cons x (h.append h')
theorem snoc {as : List α} {bs : List β} {a : α} {b : β} (h : All2 R as bs) (x : R a b) : All2 R (as ++ [a]) (bs ++ [b]) := h.append (.cons x .nil)
theorem take : ∀ {as : List α} {bs : List β} (k : Nat), All2 R as bs → All2 R (as.take k) (bs.take k)
  | _, _, 0, _ => by simp only [List.take_zero]; exact .nil
  | _, _, _ + 1, .nil => by simp only [List.take_nil]; exact .nil
  | _, _, k + 1, .cons x h => by simp only [List.take_succ_cons]; exact .cons x (h.take k)
theorem drop : ∀ {as : List α} {bs : List β} (k : Nat), All2 R as bs → All2 R (as.drop k) (bs.drop k)
  | _, _, 0, h => by simpa using h
  | _, _, _ + 1, .nil => by simp only [List.drop_nil]; exact .nil
  | _, _, k + 1, .cons _ h => by simp only [List.drop_succ_cons]; exact h.drop k
theorem reverse : ∀ {as : List α} {bs : List β}, All2 R as bs → All2 R as.reverse bs.reverse
  | _, _, .nil => .nil
  | _, _, .cons x h => by simp only [List.reverse_cons]; exact h.reverse.snoc x
theorem get : ∀ {as : List α} {bs : List β}, All2 R as bs → ∀ (i : Nat) (a : α), as[i]? = some a → ∃ b, bs[i]? = some b ∧ R a b
  | _, _, .nil, i, a, h => by simp at h
  | _, _, .cons x h, 0, a, e => by simp at e; subst e; exact ⟨_, rfl, x⟩
  | _, _, .cons x h, i + 1, a, e => by simpa using h.get i a (by simpa using e)
theorem getR : ∀ {as : List α} {bs : List β}, All2 R as bs → ∀ (i : Nat) (b : β), bs[i]? = some b → ∃ a, as[i]? = some a ∧ R a b
  | _, _, .nil, i, a, h => by simp at h
  | _, _, .cons x h, 0, a, e => by simp at e; subst e; exact ⟨_, rfl, x⟩
  | _, _, .cons x h, i + 1, a, e => by simpa using h.getR i a (by simpa using e)
theorem mem {as : List α} {bs : List β} (h : All2 R as bs) {b : β} (hb : b ∈ bs) : ∃ a ∈ as, R a b := by
  obtain ⟨i, hi⟩ := List.getElem?_of_mem hb
  obtain ⟨a, ha, r⟩ := h.getR i b hi
  exact ⟨a, List.mem_of_getElem? ha, r⟩
end All2

def isInt (i : Int) : Dsc := fun _ v => ∃ t, v = .int i t
def isStr (x : Str) : Dsc := fun _ v => ∃ t, v = .str x t
def isV (u : Value) : Dsc := fun _ v => v = u
def LAt (g : View) (a : Addr) (vs : List Value) : Prop := ∃ n, g a = some { cls := .type "list", data := .seq vs.toArray n }
def TAt (g : View) (a : Addr) (vs : List Value) : Prop := ∃ o n, g a = some o ∧ o.cls = .type "tuple" ∧ o.data = .seq vs.toArray n
def isLst {δ : Type} (R : δ → Dsc) (ds : List δ) : Dsc := fun g v => ∃ a vs, v = .ref a ∧ LAt g a vs ∧ All2 (fun d u => R d g u) ds vs
def isTup {δ : Type} (R : δ → Dsc) (ds : List δ) : Dsc := fun g v => ∃ a vs, v = .ref a ∧ TAt g a vs ∧ All2 (fun d u => R d g u) ds vs
theorem mono_int (i : Int) : Mono (isInt i) := fun _ _ _ _ h => h
theorem mono_str (x : Str) : Mono (isStr x) := fun _ _ _ _ h => h
theorem mono_v (u : Value) : Mono (isV u) := fun _ _ _ _ h => h
theorem LAt.mono {g g' : View} {a : Addr} {vs : List Value} (h : VLe g g') (x : LAt g a vs) : LAt g' a vs := let ⟨n, e⟩ := x; ⟨n, h _ _ e⟩
theorem TAt.mono {g g' : View} {a : Addr} {vs : List Value} (h : VLe g g') (x : TAt g a vs) : TAt g' a vs := let ⟨o, n, e, r⟩ := x; ⟨o, n, h _ _ e, r⟩
theorem mono_lst {δ : Type} {R : δ → Dsc} (hR : ∀ d, Mono (R d)) (ds : List δ) : Mono (isLst R ds) :=
  fun _ _ _ hg ⟨a, vs, e, l, x⟩ => ⟨a, vs, e, l.mono hg, x.imp fun d u => hR d _ _ u hg⟩
theorem mono_tup {δ : Type} {R : δ → Dsc} (hR : ∀ d, Mono (R d)) (ds : List δ) : Mono (isTup R ds) :=
  fun _ _ _ hg ⟨a, vs, e, l, x⟩ => ⟨a, vs, e, l.mono hg, x.imp fun d u => hR d _ _ u hg⟩
theorem LAt.plain {W : List Addr} {h : Heap} {a : Addr} {vs : List Value} (x : LAt (vw W h) a vs) : h.PlainList a vs.toArray := let ⟨n, e⟩ := x; ⟨n, (vw_some e).2⟩
theorem LAt.isList {W : List Addr} {h : Heap} {a : Addr} {vs : List Value} (x : LAt (vw W h) a vs) : h.IsList a vs.toArray := x.plain.isList
theorem LAt.notin {W : List Addr} {h : Heap} {a : Addr} {vs : List Value} (x : LAt (vw W h) a vs) : a ∉ W := let ⟨_, e⟩ := x; (vw_some e).1
theorem LAt.of {W : List Addr} {h : Heap} {a : Addr} {vs : List Value} (x : h.PlainList a vs.toArray) (hw : a ∉ W) : LAt (vw W h) a vs := let ⟨n, e⟩ := x; ⟨n, vw_of hw e⟩
theorem TAt.isTuple {W : List Addr} {h : Heap} {a : Addr} {vs : List Value} (x : TAt (vw W h) a vs) : h.IsTuple a vs.toArray := let ⟨o, n, e, c, d⟩ := x; ⟨o, (vw_some e).2, c, n, d⟩
theorem TAt.of {W : List Addr} {h : Heap} {a : Addr} {vs : List Value} (x : h.IsTuple a vs.toArray) (hw : a ∉ W) : TAt (vw W h) a vs := let ⟨o, e, c, n, d⟩ := x; ⟨o, n, vw_of hw e, c, d⟩

/-- the addresses of W lie no higher than what is alive -/
def Held (W : List Addr) (s : Shared) : Prop := ∀ b ∈ W, ∃ c o, b ≤ c ∧ s.heap.get? c = some o
theorem Held.stp {W : List Addr} {s s' : Shared} (h : Held W s) (a : Stp [] s s') : Held W s' := fun b hb => let ⟨c, o, l, e⟩ := h b hb; ⟨c, o, l, a.all c o e⟩
theorem Held.new {W : List Addr} {s : Shared} (h : Held W s) {k : Nat} (hk : s.heap.objs.size ≤ k) : k ∉ W := fun hm => let ⟨c, _, l, e⟩ := h _ hm; absurd (Nat.lt_of_le_of_lt l (Heap.lt_size e)) (Nat.not_lt.mpr hk)
theorem held_nil (s : Shared) : Held [] s := fun _ h => nomatch h
theorem Held.cons {W : List Addr} {s : Shared} {b : Addr} {o : Obj} (e : s.heap.get? b = some o) (h : Held W s) : Held (b :: W) s := fun x hx => by
  rcases List.mem_cons.mp hx with rfl | hx
  · exact ⟨_, o, Nat.le_refl _, e⟩
  · exact h x hx
theorem Held.append {W V : List Addr} {s : Shared} (h : Held W s) (h' : Held V s) : Held (W ++ V) s := fun x hx => (List.mem_append.mp hx).elim (h x) (h' x)
theorem Held.sub {W V : List Addr} {s : Shared} (h : Held W s) (hs : ∀ b ∈ V, b ∈ W) : Held V s := fun x hx => h x (hs x hx)

abbrev NoE : Value → Shared → Prop := fun _ _ => False

section
variable (prog : Program) (w : World) (A : Around) (env : Env)
/-- the tree t, from s on and from whatever s grows into, ends in a value as D says and changes nothing that stood -/
def EvT (t : Sem Value) (W : List Addr) (s : Shared) (D : Dsc) : Prop :=
  ∀ s₁, Stp [] s s₁ → Held W s₁ → wpAny (model prog w) A t (fun v s' => Stp [] s₁ s' ∧ D (vw W s'.heap) v) NoE s₁
abbrev Ev (e : Expr) (W : List Addr) (s : Shared) (D : Dsc) : Prop := EvT prog w A (eval e env) W s D
/-- a test -/
def TrT (t : Sem Bool) (s : Shared) (c : Bool) : Prop := ∀ s₁, Stp [] s s₁ → wpAny (model prog w) A t (fun b s' => Stp [] s₁ s' ∧ b = c) NoE s₁
abbrev Tr (e : Expr) (s : Shared) (c : Bool) : Prop := TrT prog w A (isTrue e env (eval e env)) s c
end

section
variable {prog : Program} {w : World} {A : Around} {env : Env} {W : List Addr} {s : Shared} {D D' : Dsc} {t : Sem Value}
theorem EvT.mono (h : EvT prog w A t W s D) (hi : ∀ g v, D g v → D' g v) : EvT prog w A t W s D' :=
  fun s₁ a hw => wpAny_mono (h s₁ a hw) (fun v _ x => ⟨x.1, hi _ v x.2⟩) fun _ _ x => x
theorem EvT.stp {s' : Shared} (h : EvT prog w A t W s D) (a : Stp [] s s') : EvT prog w A t W s' D := fun s₁ b hw => h s₁ (a.trans b) hw
theorem EvT.at (h : EvT prog w A t W s D) (hw : Held W s) : wpAny (model prog w) A t (fun v s' => Stp [] s s' ∧ D (vw W s'.heap) v) NoE s := h s (.refl _ _) hw
theorem EvT.pure {v : Value} (h : D (vw W s.heap) v) (hm : Mono D) : EvT prog w A (Pure.pure v) W s D := fun s₁ a _ => wpAny_pure ⟨.refl _ _, hm _ _ _ a.of_nil.vle h⟩
/-- one behind the other -/
theorem EvT.seq {t₂ : Value → Sem Value} (h : EvT prog w A t W s D) (h₂ : ∀ v s₁, Stp [] s s₁ → D (vw W s₁.heap) v → EvT prog w A (t₂ v) W s₁ D') :
    ∀ s₁, Stp [] s s₁ → Held W s₁ → wpAny (model prog w) A t (fun v s₂ => wpAny (model prog w) A (t₂ v) (fun u s' => Stp [] s₁ s' ∧ D' (vw W s'.heap) u) NoE s₂) NoE s₁ :=
  fun s₁ a hw => wpAny_mono (h s₁ a hw) (fun v s₂ ⟨b, d⟩ => wpAny_mono ((h₂ v s₂ (a.trans b) d).at (hw.stp b)) (fun _ _ ⟨c, d'⟩ => ⟨b.trans c, d'⟩) fun _ _ x => x) fun _ _ x => x
theorem EvT.bind {t₂ : Value → Sem Value} (h : EvT prog w A t W s D) (h₂ : ∀ v s₁, Stp [] s s₁ → D (vw W s₁.heap) v → EvT prog w A (t₂ v) W s₁ D') : EvT prog w A (t >>= t₂) W s D' :=
  fun s₁ a hw => wpAny_bind (h.seq h₂ s₁ a hw)
theorem EvT.holding {vs : List Value} (h : EvT prog w A t W s D) : EvT prog w A (PySem.holding vs t) W s D := fun s₁ a hw => wpAny_holding (h s₁ a hw)
theorem EvT.standAt {p : Pos} {t : Unit → Sem Value} (h : EvT prog w A (t ()) W s D) : EvT prog w A (PySem.standAt p >>= t) W s D := fun s₁ a hw => wpAny_bind (wpAny_standAt (h s₁ a hw))
end
end Mine

namespace Mine
section
variable {prog : Program} {w : World} {A : Around} {env : Env} {W : List Addr} {s : Shared} {D D₁ D₂ : Dsc}

theorem ev_local {x : Str} {pos : Pos} {v : Value} {m : Str → Option Value} (hn : s.heap.Ns env.locals m) (hv : m x = some v) (hd : D (vw W s.heap) v) (hm : Mono D)
    (hk : env.scope.kind = .function := by rfl) (hl : env.kindOf x = some .local := by rfl) (hx : (x == ("__debug__" : Str)) = false := by decide) : Ev prog w A env (.Name x pos) W s D :=
  fun s₁ a hw => wpAny_Name (wpAny_loadName_local hk hl (hn.keeps a.all) hv ⟨.refl _ _, hm _ _ _ a.of_nil.vle hd⟩) hx
theorem ev_cell {x : Str} {pos : Pos} {v : Value} {c : Addr} (hc : env.cells.lookup x = some c) (hv : s.heap.IsCell c (some v)) (hd : D (vw W s.heap) v) (hm : Mono D)
    (hk : env.scope.kind = .function := by rfl) (hl : env.kindOf x = some .cell := by rfl) (hx : (x == ("__debug__" : Str)) = false := by decide) : Ev prog w A env (.Name x pos) W s D :=
  fun s₁ a hw => wpAny_Name (wpAny_loadName_cell hk hl hc (hv.keeps a.all) ⟨.refl _ _, hm _ _ _ a.of_nil.vle hd⟩) hx
theorem ev_free {x : Str} {pos : Pos} {v : Value} {c : Addr} (hc : env.cells.lookup x = some c) (hv : s.heap.IsCell c (some v)) (hd : D (vw W s.heap) v) (hm : Mono D)
    (hk : env.scope.kind = .function := by rfl) (hl : env.kindOf x = some .free := by rfl) (hx : (x == ("__debug__" : Str)) = false := by decide) (hy : (x == ("__classdict__" : Str)) = false := by decide) : Ev prog w A env (.Name x pos) W s D :=
  fun s₁ a hw => wpAny_Name (wpAny_loadName_free hk hl hc (hv.keeps a.all) ⟨.refl _ _, hm _ _ _ a.of_nil.vle hd⟩ (hn := hy)) hx
theorem ev_global {x : Str} {pos : Pos} {v : Value} {mg : Str → Option Value} (hg : s.heap.Ns env.globals mg) (hv : mg x = some v)
    (hk : env.scope.kind = .function := by rfl) (hl : env.kindOf x = some .globalImplicit := by rfl) (hx : (x == ("__debug__" : Str)) = false := by decide) : Ev prog w A env (.Name x pos) W s (isV v) :=
  fun s₁ a hw => Name_function_global hk hl (loadGlobal_global (hg.keeps a.all) hv ⟨.refl _ _, rfl⟩) hx
theorem ev_builtin {x : Str} {pos : Pos} {v : Value} {mg mb : Str → Option Value} (hg : s.heap.Ns env.globals mg) (hn : mg x = none) (hb : s.heap.Ns env.builtins mb) (hv : mb x = some v)
    (hk : env.scope.kind = .function := by rfl) (hl : env.kindOf x = some .globalImplicit := by rfl) (hx : (x == ("__debug__" : Str)) = false := by decide) : Ev prog w A env (.Name x pos) W s (isV v) :=
  fun s₁ a hw => Name_function_global hk hl (loadGlobal_builtin (hg.keeps a.all) hn (hb.keeps a.all) hv ⟨.refl _ _, rfl⟩) hx

theorem ev_int (i : Int) {k : Nat} {pos : Pos} : Ev prog w A env (.Constant (.int i) k pos) W s (isInt i) := fun s₁ a hw => wpAny_Constant_int ⟨.toks, _, rfl⟩
theorem ev_str (x : Str) {k : Nat} {pos : Pos} : Ev prog w A env (.Constant (.str x) k pos) W s (isStr x) := fun s₁ a hw => by
  rw [eval_Constant]; exact wpAny_mkText ⟨.toks, _, rfl⟩
theorem ev_none {k : Nat} {pos : Pos} : Ev prog w A env (.Constant .none k pos) W s (isV .none) := fun s₁ a hw => by
  rw [eval_Constant]; exact wpAny_pure ⟨.refl _ _, rfl⟩
theorem ev_bool (b : Bool) {k : Nat} {pos : Pos} : Ev prog w A env (.Constant (.bool b) k pos) W s (isV (.bool b)) := fun s₁ a hw => by
  rw [eval_Constant]; exact wpAny_pure ⟨.refl _ _, rfl⟩

/-- two values, one behind the other -/
theorem ev_two {l r : Expr} {t : Value → Value → Sem Value} (h₁ : Ev prog w A env l W s D₁) (h₂ : Ev prog w A env r W s D₂) (m₁ : Mono D₁)
    (h : ∀ s₁ v u, Stp [] s s₁ → D₁ (vw W s₁.heap) v → D₂ (vw W s₁.heap) u → EvT prog w A (t v u) W s₁ D) :
    ∀ s₁, Stp [] s s₁ → Held W s₁ → wpAny (model prog w) A (eval l env) (fun v s₂ => wpAny (model prog w) A (eval r env) (fun u s₃ => wpAny (model prog w) A (t v u) (fun x s' => Stp [] s₁ s' ∧ D (vw W s'.heap) x) NoE s₃) NoE s₂) NoE s₁ :=
  fun s₁ a hw => wpAny_mono (h₁ s₁ a hw) (fun v s₂ ⟨b, d⟩ => wpAny_mono (h₂ s₂ (a.trans b) (hw.stp b)) (fun u s₃ ⟨c, d'⟩ =>
    wpAny_mono ((h s₃ v u ((a.trans b).trans c) (m₁ _ _ _ c.of_nil.vle d) d').at ((hw.stp b).stp c)) (fun x s' ⟨e, d''⟩ => ⟨(b.trans c).trans e, d''⟩) fun _ _ x => x) fun _ _ x => x) fun _ _ x => x
theorem ev_binop {l r : Expr} {op : Operator} {pos : Pos} (h₁ : Ev prog w A env l W s D₁) (h₂ : Ev prog w A env r W s D₂) (m₁ : Mono D₁)
    (h : ∀ s₁ v u, Stp [] s s₁ → D₁ (vw W s₁.heap) v → D₂ (vw W s₁.heap) u → EvT prog w A (binaryOp op v u) W s₁ D) : Ev prog w A env (.BinOp l op r pos) W s D :=
  fun s₁ a hw => wpAny_BinOp (ev_two h₁ h₂ m₁ h s₁ a hw)
theorem ev_cmp {l r : Expr} {op : CmpOp} {pos : Pos} (h₁ : Ev prog w A env l W s D₁) (h₂ : Ev prog w A env r W s D₂) (m₁ : Mono D₁)
    (h : ∀ s₁ v u, Stp [] s s₁ → D₁ (vw W s₁.heap) v → D₂ (vw W s₁.heap) u → EvT prog w A (compareOp op v u) W s₁ D) (hb : behindInMarks op r = false := by rfl) : Ev prog w A env (.Compare l [op] [r] pos) W s D :=
  fun s₁ a hw => wpAny_Compare1 (ev_two h₁ h₂ m₁ h s₁ a hw) hb

theorem ev_add {l r : Expr} {pos : Pos} {i j : Int} (h₁ : Ev prog w A env l W s (isInt i)) (h₂ : Ev prog w A env r W s (isInt j)) : Ev prog w A env (.BinOp l .Add r pos) W s (isInt (i + j)) :=
  ev_binop h₁ h₂ (mono_int _) fun s₁ v u _ ⟨t, e⟩ ⟨t', e'⟩ s₂ _ _ => by subst e; subst e'; exact add_int ⟨.toks, _, rfl⟩
theorem ev_sub {l r : Expr} {pos : Pos} {i j : Int} (h₁ : Ev prog w A env l W s (isInt i)) (h₂ : Ev prog w A env r W s (isInt j)) : Ev prog w A env (.BinOp l .Sub r pos) W s (isInt (i - j)) :=
  ev_binop h₁ h₂ (mono_int _) fun s₁ v u _ ⟨t, e⟩ ⟨t', e'⟩ s₂ _ _ => by subst e; subst e'; exact sub_int ⟨.toks, _, rfl⟩
theorem ev_mod {l r : Expr} {pos : Pos} {i j : Int} (hj : j ≠ 0) (h₁ : Ev prog w A env l W s (isInt i)) (h₂ : Ev prog w A env r W s (isInt j)) : Ev prog w A env (.BinOp l .Mod r pos) W s (isInt (i.fmod j)) :=
  ev_binop h₁ h₂ (mono_int _) fun s₁ v u _ ⟨t, e⟩ ⟨t', e'⟩ s₂ _ _ => by subst e; subst e'; exact mod_int' hj ⟨.toks, _, rfl⟩
theorem ev_cat {l r : Expr} {pos : Pos} {x y : Str} (hsz : x.length + y.length ≤ sizeLine) (h₁ : Ev prog w A env l W s (isStr x)) (h₂ : Ev prog w A env r W s (isStr y)) : Ev prog w A env (.BinOp l .Add r pos) W s (isStr (x ++ y)) :=
  ev_binop h₁ h₂ (mono_str _) fun s₁ v u _ ⟨t, e⟩ ⟨t', e'⟩ s₂ _ _ => by subst e; subst e'; exact add_str (fun _ _ => ⟨.toks, _, rfl⟩) hsz
theorem ev_neg {e : Expr} {pos : Pos} {i : Int} (h₁ : Ev prog w A env e W s (isInt i)) : Ev prog w A env (.UnaryOp .USub e pos) W s (isInt (-i)) := fun s₁ a hw => by
  rw [arm_eval_UnaryOp]
  exact wpAny_bind (wpAny_mono (h₁ s₁ a hw) (fun v s₂ ⟨b, t, e⟩ => by subst e; exact wpAny_bind (wpAny_standAt (wpAny_holding (neg_int ⟨b.trans .toks, _, rfl⟩)))) fun _ _ x => x)

theorem ev_eqInt {l r : Expr} {pos : Pos} {i j : Int} (h₁ : Ev prog w A env l W s (isInt i)) (h₂ : Ev prog w A env r W s (isInt j)) (hb : behindInMarks .Eq r = false := by rfl) : Ev prog w A env (.Compare l [.Eq] [r] pos) W s (isV (.bool (i == j))) :=
  ev_cmp (hb := hb) h₁ h₂ (mono_int _) fun s₁ v u _ ⟨t, e⟩ ⟨t', e'⟩ s₂ _ _ => by subst e; subst e'; exact eq_int ⟨.refl _ _, rfl⟩
theorem ev_neInt {l r : Expr} {pos : Pos} {i j : Int} (h₁ : Ev prog w A env l W s (isInt i)) (h₂ : Ev prog w A env r W s (isInt j)) (hb : behindInMarks .NotEq r = false := by rfl) : Ev prog w A env (.Compare l [.NotEq] [r] pos) W s (isV (.bool (i != j))) :=
  ev_cmp (hb := hb) h₁ h₂ (mono_int _) fun s₁ v u _ ⟨t, e⟩ ⟨t', e'⟩ s₂ _ _ => by subst e; subst e'; exact ne_int ⟨.refl _ _, rfl⟩
theorem ev_ltInt {l r : Expr} {pos : Pos} {i j : Int} (h₁ : Ev prog w A env l W s (isInt i)) (h₂ : Ev prog w A env r W s (isInt j)) (hb : behindInMarks .Lt r = false := by rfl) : Ev prog w A env (.Compare l [.Lt] [r] pos) W s (isV (.bool (decide (i < j)))) :=
  ev_cmp (hb := hb) h₁ h₂ (mono_int _) fun s₁ v u _ ⟨t, e⟩ ⟨t', e'⟩ s₂ _ _ => by subst e; subst e'; exact lt_int ⟨.refl _ _, rfl⟩
theorem ev_gtInt {l r : Expr} {pos : Pos} {i j : Int} (h₁ : Ev prog w A env l W s (isInt i)) (h₂ : Ev prog w A env r W s (isInt j)) (hb : behindInMarks .Gt r = false := by rfl) : Ev prog w A env (.Compare l [.Gt] [r] pos) W s (isV (.bool (decide (i > j)))) :=
  ev_cmp (hb := hb) h₁ h₂ (mono_int _) fun s₁ v u _ ⟨t, e⟩ ⟨t', e'⟩ s₂ _ _ => by subst e; subst e'; exact gt_int ⟨.refl _ _, rfl⟩
theorem ev_eqStr {l r : Expr} {pos : Pos} {i j : Str} (h₁ : Ev prog w A env l W s (isStr i)) (h₂ : Ev prog w A env r W s (isStr j)) (hb : behindInMarks .Eq r = false := by rfl) : Ev prog w A env (.Compare l [.Eq] [r] pos) W s (isV (.bool (i == j))) :=
  ev_cmp (hb := hb) h₁ h₂ (mono_str _) fun s₁ v u _ ⟨t, e⟩ ⟨t', e'⟩ s₂ _ _ => by subst e; subst e'; exact eq_str ⟨.refl _ _, rfl⟩
theorem ev_is {l r : Expr} {pos : Pos} {a b : Value} (hp : plainIs a b = true) (h₁ : Ev prog w A env l W s (isV a)) (h₂ : Ev prog w A env r W s (isV b)) (hb : behindInMarks .Is r = false := by rfl) : Ev prog w A env (.Compare l [.Is] [r] pos) W s (isV (.bool (a == b))) :=
  ev_cmp (hb := hb) h₁ h₂ (mono_v _) fun s₁ v u _ e e' s₂ _ _ => by cases e; cases e'; exact wpAny_is_plain hp ⟨.refl _ _, rfl⟩
theorem ev_isNot {l r : Expr} {pos : Pos} {a b : Value} (hp : plainIs a b = true) (h₁ : Ev prog w A env l W s (isV a)) (h₂ : Ev prog w A env r W s (isV b)) (hb : behindInMarks .IsNot r = false := by rfl) : Ev prog w A env (.Compare l [.IsNot] [r] pos) W s (isV (.bool (!(a == b)))) :=
  ev_cmp (hb := hb) h₁ h₂ (mono_v _) fun s₁ v u _ e e' s₂ _ _ => by cases e; cases e'; exact wpAny_isNot_plain hp ⟨.refl _ _, rfl⟩
end
end Mine

namespace Mine
section
variable {prog : Program} {w : World} {A : Around} {env : Env} {W : List Addr} {s : Shared} {D D₁ D₂ : Dsc} {δ : Type} {R : δ → Dsc}

/-- a list made anew -/
theorem lat_push {s₁ : Shared} {vs : List Value} (hw : Held W s₁) {n : Nat} : LAt (vw W (s₁.heap.push { cls := .type "list", data := .seq vs.toArray n })) s₁.heap.objs.size vs :=
  ⟨_, vw_of (hw.new (Nat.le_refl _)) (Heap.get?_push_size _ rfl)⟩
theorem tat_push {s₁ : Shared} {vs : List Value} (hw : Held W s₁) {n : Nat} : TAt (vw W (s₁.heap.push { cls := .type "tuple", data := .seq vs.toArray n })) s₁.heap.objs.size vs :=
  ⟨_, _, vw_of (hw.new (Nat.le_refl _)) (Heap.get?_push_size _ rfl), rfl, rfl⟩
theorem vle_push {s₁ : Shared} {o : Obj} : VLe (vw W s₁.heap) (vw W (s₁.heap.push o)) := fun _ _ e => vw_of (vw_some e).1 (Heap.get?_push_of_some _ (vw_some e).2)

/-- the items of a display, of a call -/
def EvAll (prog : Program) (w : World) (A : Around) (env : Env) (pos : Pos) (es : List Expr) (W : List Addr) (s : Shared) (P : View → List Value → Prop) : Prop :=
  ∀ s₁, Stp [] s s₁ → Held W s₁ → wpAny (model prog w) A (spliced (backTo pos (starEach es env))) (fun vs s' => Stp [] s₁ s' ∧ P (vw W s'.heap) vs) NoE s₁
theorem evAll_nil {pos : Pos} : EvAll prog w A env pos [] W s (fun _ vs => vs = []) := fun s₁ a hw => args_nil ⟨.refl _ _, rfl⟩
theorem evAll_cons {pos : Pos} {e : Expr} {es : List Expr} {P : View → List Value → Prop} (h : Ev prog w A env e W s D) (hm : Mono D) (hs : EvAll prog w A env pos es W s P)
    (he : starEach (e :: es) env = (false, eval e env) :: starEach es env := by rfl) : EvAll prog w A env pos (e :: es) W s (fun g vs => ∃ u us, vs = u :: us ∧ D g u ∧ P g us) := fun s₁ a hw =>
  args_cons (wpAny_mono (h s₁ a hw) (fun v s₂ ⟨b, d⟩ => wpAny_mono (hs s₂ (a.trans b) (hw.stp b)) (fun vs s₃ ⟨c, p⟩ => ⟨b.trans c, _, _, rfl, hm _ _ _ c.of_nil.vle d, p⟩) fun _ _ x => x) fun _ _ x => x) he
theorem EvAll.mono {pos : Pos} {es : List Expr} {P P' : View → List Value → Prop} (h : EvAll prog w A env pos es W s P) (hi : ∀ g vs, P g vs → P' g vs) : EvAll prog w A env pos es W s P' :=
  fun s₁ a hw => wpAny_mono (h s₁ a hw) (fun v _ x => ⟨x.1, hi _ v x.2⟩) fun _ _ x => x
theorem evAll_nil2 {pos : Pos} : EvAll prog w A env pos [] W s (fun g vs => All2 (fun d u => R d g u) [] vs) := evAll_nil.mono fun g vs e => by subst e; exact .nil
theorem evAll_cons2 {pos : Pos} {e : Expr} {es : List Expr} {d : δ} {ds : List δ} (h : Ev prog w A env e W s (R d)) (hm : Mono (R d)) (hs : EvAll prog w A env pos es W s (fun g vs => All2 (fun d u => R d g u) ds vs))
    (he : starEach (e :: es) env = (false, eval e env) :: starEach es env := by rfl) : EvAll prog w A env pos (e :: es) W s (fun g vs => All2 (fun d u => R d g u) (d :: ds) vs) :=
  (evAll_cons h hm hs he).mono fun g vs ⟨u, us, e, a, b⟩ => by subst e; exact .cons a b

/-- new since s -/
def New (s : Shared) (v : Value) : Prop := ∃ a, v = .ref a ∧ s.heap.get? a = none
theorem new_size {s s₁ : Shared} (a : Stp [] s s₁) : New s (.ref s₁.heap.objs.size) := ⟨_, rfl, by
  cases h : s.heap.get? s₁.heap.objs.size with
  | none => rfl
  | some o => exact absurd (Heap.lt_size (a.all _ _ h)) (Nat.lt_irrefl _)⟩

theorem ev_list {es : List Expr} {pos : Pos} {ds : List δ} (h : EvAll prog w A env pos es W s (fun g vs => All2 (fun d u => R d g u) ds vs)) (hR : ∀ d, Mono (R d)) (hsz : ds.length ≤ sizeLine) :
    Ev prog w A env (.List es pos) W s (fun g v => isLst R ds g v ∧ New s v) := fun s₁ a hw =>
  List_ (wpAny_mono (h s₁ a hw) (fun vs s₂ ⟨b, x⟩ => wpAny_newObj_type ⟨b.trans .push, ⟨_, vs, rfl, lat_push (hw.stp b), x.imp fun d u r => hR d _ _ u vle_push r⟩, new_size (a.trans b)⟩
    (by show vs.toArray.size ≤ sizeLine; rw [List.size_toArray, ← x.length]; exact hsz)) fun _ _ x => x)
theorem ev_tuple {es : List Expr} {k : Nat} {pos : Pos} {ds : List δ} (h : EvAll prog w A env pos es W s (fun g vs => All2 (fun d u => R d g u) ds vs)) (hR : ∀ d, Mono (R d)) (hsz : ds.length ≤ sizeLine) :
    Ev prog w A env (.Tuple es k pos) W s (fun g v => isTup R ds g v ∧ New s v) := fun s₁ a hw =>
  Tuple_ (wpAny_mono (h s₁ a hw) (fun vs s₂ ⟨b, x⟩ => wpAny_newObj_type ⟨b.trans .push, ⟨_, vs, rfl, tat_push (hw.stp b), x.imp fun d u r => hR d _ _ u vle_push r⟩, new_size (a.trans b)⟩
    (by show vs.toArray.size ≤ sizeLine; rw [List.size_toArray, ← x.length]; exact hsz)) fun _ _ x => x)

theorem catL {l b : Addr} {vs ws : List Value} {Q : Value → Shared → Prop} {E : Value → Shared → Prop} (hl : s.heap.IsList l vs.toArray) (hb : s.heap.IsList b ws.toArray)
    (h : Q (.ref s.heap.objs.size) { s with heap := s.heap.push { cls := .type "list", data := .seq (vs ++ ws).toArray } }) (hsz : vs.length + ws.length ≤ sizeLine) :
    wpAny (model prog w) A (binaryOp .Add (.ref l) (.ref b)) Q E s := by
  obtain ⟨⟨cls, dd, data, sl⟩, ho, hc, n, hd⟩ := id hl
  obtain ⟨⟨cls2, dd2, data2, sl2⟩, ho2, hc2, n2, hd2⟩ := id hb
  simp only at hc hd hc2 hd2
  subst hc hd hc2 hd2
  have e : vs.toArray ++ ws.toArray = (vs ++ ws).toArray := by simp
  refine concat_meets ⟨_, ho, rfl⟩ ⟨_, ho2, rfl⟩ noFill_list_add seq_list_add PySem.F.slot_list_add PySem.F.entry_list_add (PySem.F.args_list_add_2 _ _) (list_addW l b vs.toArray ws.toArray n n2 dd dd2 sl sl2 (by simpa using hsz)) ⟨ho, ho2, ?_⟩
  rw [e]
  exact h
theorem ev_catL {l r : Expr} {pos : Pos} {xs ys : List δ} (h₁ : Ev prog w A env l W s (isLst R xs)) (h₂ : Ev prog w A env r W s (isLst R ys)) (hR : ∀ d, Mono (R d)) (hsz : xs.length + ys.length ≤ sizeLine) :
    Ev prog w A env (.BinOp l .Add r pos) W s (isLst R (xs ++ ys)) :=
  ev_binop h₁ h₂ (mono_lst hR _) fun s₁ v u _ ⟨a, vs, e, l, x⟩ ⟨a', vs', e', l', x'⟩ s₂ b hw => by
    subst e; subst e'
    have g := b.of_nil.vle (W := W)
    exact catL (l.mono g).isList (l'.mono g).isList ⟨.push, _, _, rfl, lat_push hw, (x.imp fun d u r => hR d _ _ u (g.trans vle_push) r).append (x'.imp fun d u r => hR d _ _ u (g.trans vle_push) r)⟩
      (by rw [← x.length, ← x'.length]; exact hsz)

theorem ev_index {l r : Expr} {pos : Pos} {ds : List δ} {d : δ} {i : Int} (h₁ : Ev prog w A env l W s (isLst R ds)) (h₂ : Ev prog w A env r W s (isInt i)) (hR : ∀ d, Mono (R d)) (h0 : 0 ≤ i) (hi : i < 2 ^ 63) (hd : ds[i.toNat]? = some d)
    (hs : ∀ o k, subscripted r false o k = operate [o, k] (getItem o k) := by intro _ _; rfl) : Ev prog w A env (.Subscript l r pos) W s (R d) := fun s₁ a hw =>
  Subscript_ (ev_two (t := fun v u => subscriptTail l r v u) h₁ h₂ (mono_lst hR _) (fun s₁ v u _ ⟨a, vs, e, l, x⟩ ⟨t, e'⟩ s₂ b hw => by
    subst e; subst e'
    have g := b.of_nil.vle (W := W)
    obtain ⟨y, hy, r⟩ := x.get i.toNat d hd
    have hl := (l.mono g).isList
    exact tail_any hl.typeIs list_getitem_lookup (wpAny_getItem_list hl h0 hi (by simpa using hy) ⟨.refl _ _, hR d _ _ y g r⟩) (hs _ _)) s₁ a hw)

/-- a part of a slice -/
def EvP (prog : Program) (w : World) (A : Around) (env : Env) (e : Option Expr) (W : List Addr) (s : Shared) (i : Option Int) : Prop := EvT prog w A (valueOrNone (evalOpt e env)) W s (fun _ v => IsPart v i)
theorem evP_none : EvP prog w A env none W s none := fun s₁ a hw => wpAny_pure ⟨.refl _ _, .none⟩
theorem evP_some {e : Expr} {i : Int} (h : Ev prog w A env e W s (isInt i)) : EvP prog w A env (some e) W s (some i) := EvT.mono h fun _ _ ⟨t, e⟩ => e ▸ .int i t
theorem ev_sliceAny {value : Expr} {lo hi st : Option Expr} {p pos : Pos} {l u k : Option Int} (hv : Ev prog w A env value W s D) (hm : Mono D) (hl : EvP prog w A env lo W s l) (hu : EvP prog w A env hi W s u) (hk : EvP prog w A env st W s k)
    (h : ∀ s₁ o vl vu vk, Stp [] s s₁ → Held W s₁ → D (vw W s₁.heap) o → IsPart vl l → IsPart vu u → IsPart vk k →
      EvT prog w A (subscriptTail value (.Slice lo hi st p) o (.ref s₁.heap.objs.size)) W { s₁ with heap := s₁.heap.push { cls := .type "slice", data := .fields #[vl, vu, vk] } } D₁) :
    Ev prog w A env (.Subscript value (.Slice lo hi st p) pos) W s D₁ := fun s₁ a hw => by
  refine Subscript_ (wpAny_mono (hv s₁ a hw) (fun o s₂ ⟨b, d⟩ => ?_) fun _ _ x => x)
  rw [arm_eval_Slice]
  refine wpAny_bind (wpAny_mono (hl s₂ (a.trans b) (hw.stp b)) (fun vl s₃ ⟨c, dl⟩ => ?_) fun _ _ x => x)
  refine wpAny_bind (wpAny_holding (wpAny_mono (hu s₃ ((a.trans b).trans c) ((hw.stp b).stp c)) (fun vu s₄ ⟨c', du⟩ => ?_) fun _ _ x => x))
  refine wpAny_bind (wpAny_holding (wpAny_mono (hk s₄ (((a.trans b).trans c).trans c') (((hw.stp b).stp c).stp c')) (fun vk s₅ ⟨c'', dk⟩ => ?_) fun _ _ x => x))
  have ext := ((b.trans c).trans c').trans c''
  refine wpAny_newObj_type ?_
  refine wpAny_mono (h s₅ o vl vu vk (a.trans ext) (hw.stp ext) (hm _ _ _ ((c.trans c').trans c'').of_nil.vle d) dl du dk _ (.refl _ _) ((hw.stp ext).stp .push)) (fun v s' ⟨e, d'⟩ => ⟨(ext.trans .push).trans e, d'⟩) fun _ _ x => x
theorem subscripted_slice (lo hi st : Option Expr) (p : Pos) (o i : Value) : ∃ ops, subscripted (.Slice lo hi st p) false o i = operate ops (getItem o i) := by
  cases st with
  | none => exact ⟨_, rfl⟩
  | some e => exact ⟨_, rfl⟩
theorem ev_slice {value : Expr} {lo hi st : Option Expr} {p pos : Pos} {l u k : Option Int} {ds ds' : List δ} (hv : Ev prog w A env value W s (isLst R ds)) (hR : ∀ d, Mono (R d)) (hl : EvP prog w A env lo W s l) (hu : EvP prog w A env hi W s u) (hk : EvP prog w A env st W s k)
    (hk0 : k ≠ some 0) (hp : ∀ g vs, All2 (fun d u => R d g u) ds vs → All2 (fun d u => R d g u) ds' (slicePick vs.toArray l u k).toList) (hsz : ds.length ≤ sizeLine) :
    Ev prog w A env (.Subscript value (.Slice lo hi st p) pos) W s (isLst R ds') :=
  ev_sliceAny hv (mono_lst hR _) hl hu hk fun s₁ o vl vu vk a hw ⟨ad, vs, e, lt, x⟩ il iu ik s₂ b hw₂ => by
    subst e
    obtain ⟨ops, hs⟩ := subscripted_slice lo hi st p (.ref ad) (.ref s₁.heap.objs.size)
    have g : VLe (vw W s₁.heap) (vw W s₂.heap) := vle_push.trans b.of_nil.vle
    have hL := (lt.mono g).isList
    have hS : s₂.heap.IsSliceOf s₁.heap.objs.size vl vu vk := ⟨_, b.all _ _ (Heap.get?_push_size _ rfl), rfl, rfl⟩
    refine tail_any hL.typeIs list_getitem_lookup (wpAny_getItem_list_slice hL hS il iu ik hk0 ⟨.push, _, (slicePick vs.toArray l u k).toList, rfl, ?_, ?_⟩ (by simpa [← x.length] using hsz)) hs
    · have := lat_push (W := W) (s₁ := s₂) (vs := (slicePick vs.toArray l u k).toList) hw₂ (n := 0)
      simpa using this
    · exact hp _ _ (x.imp fun d u r => hR d _ _ u (g.trans vle_push) r)
theorem ev_from {value lo : Expr} {p pos : Pos} {i : Int} {ds : List δ} (hv : Ev prog w A env value W s (isLst R ds)) (hR : ∀ d, Mono (R d)) (hl : Ev prog w A env lo W s (isInt i)) (h0 : 0 ≤ i) (hsz : ds.length ≤ sizeLine) :
    Ev prog w A env (.Subscript value (.Slice (some lo) none none p) pos) W s (isLst R (ds.drop i.toNat)) :=
  ev_slice hv hR (evP_some hl) evP_none evP_none (by simp) (fun g vs x => by
    have e : i = (i.toNat : Int) := by omega
    rw [e, slicePick_from']; simpa [← e] using x.drop i.toNat) hsz
theorem ev_upto {value hi : Expr} {p pos : Pos} {i : Int} {ds : List δ} (hv : Ev prog w A env value W s (isLst R ds)) (hR : ∀ d, Mono (R d)) (hl : Ev prog w A env hi W s (isInt i)) (h0 : 0 ≤ i) (hsz : ds.length ≤ sizeLine) :
    Ev prog w A env (.Subscript value (.Slice none (some hi) none p) pos) W s (isLst R (ds.take i.toNat)) :=
  ev_slice hv hR evP_none (evP_some hl) evP_none (by simp) (fun g vs x => by
    have e : i = (i.toNat : Int) := by omega
    rw [e, slicePick_upto']; simpa [← e] using x.take i.toNat) hsz
theorem ev_run {value lo hi : Expr} {p pos : Pos} {i j : Int} {ds : List δ} (hv : Ev prog w A env value W s (isLst R ds)) (hR : ∀ d, Mono (R d)) (hl : Ev prog w A env lo W s (isInt i)) (hu : Ev prog w A env hi W s (isInt j)) (h0 : 0 ≤ i) (hij : i ≤ j) (hj : j ≤ ds.length) (hsz : ds.length ≤ sizeLine) :
    Ev prog w A env (.Subscript value (.Slice (some lo) (some hi) none p) pos) W s (isLst R ((ds.drop i.toNat).take (j.toNat - i.toNat))) :=
  ev_slice hv hR (evP_some hl) (evP_some hu) evP_none (by simp) (fun g vs x => by
    have e : i = (i.toNat : Int) := by omega
    have e' : j = (j.toNat : Int) := by omega
    rw [e, e', slicePick_run _ _ _ (by simp [← x.length]; omega) (by omega)]; simpa [← e, ← e'] using (x.drop i.toNat).take (j.toNat - i.toNat)) hsz
theorem ev_rev {value st : Expr} {p pos : Pos} {ds : List δ} (hv : Ev prog w A env value W s (isLst R ds)) (hR : ∀ d, Mono (R d)) (hk : Ev prog w A env st W s (isInt (-1))) (hsz : ds.length ≤ sizeLine) :
    Ev prog w A env (.Subscript value (.Slice none none (some st) p) pos) W s (isLst R ds.reverse) :=
  ev_slice hv hR evP_none evP_none (evP_some hk) (by simp) (fun g vs x => by
    rw [krv_pick]; simpa using x.reverse) hsz
theorem ev_butLast {value hi : Expr} {p pos : Pos} {ds : List δ} (hv : Ev prog w A env value W s (isLst R ds)) (hR : ∀ d, Mono (R d)) (hl : Ev prog w A env hi W s (isInt (-1))) (hsz : ds.length ≤ sizeLine) :
    Ev prog w A env (.Subscript value (.Slice none (some hi) none p) pos) W s (isLst R (ds.take (ds.length - 1))) :=
  ev_slice hv hR evP_none (evP_some hl) evP_none (by simp) (fun g vs x => by
    have h := slicePick_butLast vs.toArray 1 (Nat.le_refl _)
    rw [show (-(((1 : Nat)) : Int)) = -1 from rfl] at h
    rw [h]; simpa [← x.length] using x.take (ds.length - 1)) hsz

set_option maxHeartbeats 1000000 in
theorem ev_strSlice {value : Expr} {lo hi : Option Expr} {p pos : Pos} {l u : Option Int} {x : Str} (hv : Ev prog w A env value W s (isStr x)) (hl : EvP prog w A env lo W s l) (hu : EvP prog w A env hi W s u) (hsz : x.length ≤ sizeLine) :
    Ev prog w A env (.Subscript value (.Slice lo hi none p) pos) W s (isStr (Txt.slice x l u)) :=
by
    refine ev_sliceAny hv (mono_str _) hl hu evP_none ?_
    intro s₁ o vl vu vk a hw d il iu ik s₂ b hw₂
    obtain ⟨t, rfl⟩ := d
    obtain ⟨ops, hs⟩ := subscripted_slice lo hi none p (.str x t) (.ref s₁.heap.objs.size)
    have hS : ∃ l' u' : Option (Int × Tok), s₂.heap.IsSlice s₁.heap.objs.size l' u' none ∧ l'.map (·.1) = l ∧ u'.map (·.1) = u := by
      cases ik
      cases il with
      | none =>
        cases iu with
        | none => exact ⟨none, none, ⟨_, b.all _ _ (Heap.get?_push_size _ rfl), rfl, rfl⟩, rfl, rfl⟩
        | int j tj => exact ⟨none, some (j, tj), ⟨_, b.all _ _ (Heap.get?_push_size _ rfl), rfl, rfl⟩, rfl, rfl⟩
      | int i ti =>
        cases iu with
        | none => exact ⟨some (i, ti), none, ⟨_, b.all _ _ (Heap.get?_push_size _ rfl), rfl, rfl⟩, rfl, rfl⟩
        | int j tj => exact ⟨some (i, ti), some (j, tj), ⟨_, b.all _ _ (Heap.get?_push_size _ rfl), rfl, rfl⟩, rfl, rfl⟩
    obtain ⟨l', u', hS, rfl, rfl⟩ := hS
    refine tail_any (typeIs_str _ _ _) F.slot_str_getitem.lookup (wpAny_getItem_str_slice hS rfl ?_) hs
    have hm : sliceMade x t l' u' none = (if ((1 : Int) == 1 && (strSliceIndices (l'.map (·.1)) (u'.map (·.1)) 1 x.length).length == x.length) = true then Made.val (.str x t) else Made.str ⟨((strSliceIndices (l'.map (·.1)) (u'.map (·.1)) 1 x.length).filterMap (x.cps[·]?)).toArray⟩) := by
      unfold sliceMade slicePicked
      simp only [Option.map_none, Option.getD_none]
    rw [hm]
    clear hm
    have h1 : (Txt.slice x (l'.map (·.1)) (u'.map (·.1))).length ≤ sizeLine := Nat.le_trans (Txt.slice_le x (l'.map (·.1)) (u'.map (·.1))) hsz
    have h2 : ∀ t' k, Stp [] s₂ { s₂ with toks := k } ∧ isStr (Txt.slice x (l'.map (·.1)) (u'.map (·.1))) (vw W s₂.heap) (.str (Txt.slice x (l'.map (·.1)) (u'.map (·.1))) t') := fun t' k => ⟨.toks, t', rfl⟩
    generalize hz : Txt.slice x (l'.map (·.1)) (u'.map (·.1)) = z at h1 h2 ⊢
    unfold Txt.slice at hz
    refine post_val_or_str ?_
    rw [hz]
    exact ⟨h1, h2⟩
end
end Mine

namespace Mine

/-- room for k frames -/
structure AOk (k : Nat) (A : Around) : Prop where
  hd : A.handled = none
  depth : A.depth + k < 1000
  units : A.units + 20 * (k + 1) < 9900
theorem AOk.deeper {k : Nat} {A : Around} {env : Env} (h : AOk (k + 1) A) : AOk k (A.deeper env) :=
  ⟨h.hd, by have := h.depth; show A.depth + 1 + k < 1000; omega, by have := h.units; show A.units + 3 + 20 * (k + 1) < 9900; omega⟩
theorem AOk.less {k j : Nat} {A : Around} (h : AOk k A) (hj : j ≤ k) : AOk j A := ⟨h.hd, by have := h.depth; omega, by have := h.units; omega⟩
theorem AOk.room {k : Nat} {A : Around} (h : AOk k A) : A.depth < recursionLimit := by have := h.depth; show A.depth < 1000; omega
theorem AOk.caller : AOk 20 callerA := ⟨rfl, by decide, by decide⟩

/-- what stands for good: the written part, the globals, the builtins -/
structure Wld (K : Frag) (mg mb : Str → Option Value) (h : Heap) : Prop where
  kin : K.In h
  g : h.Ns mainGlobals mg
  b : h.Ns builtinsNs mb
  nl : h.NoLimit
theorem Wld.stp {K : Frag} {mg mb : Str → Option Value} {s s' : Shared} (h : Wld K mg mb s.heap) (a : Stp [] s s') : Wld K mg mb s'.heap :=
  ⟨fun x o e => a.all x o (h.kin x o e), h.g.keeps a.all, h.b.keeps a.all, h.nl.keeps a.all⟩

section
variable {prog : Program} {w : World} {A : Around} {env : Env} {W : List Addr} {s : Shared} {D D₁ D₂ : Dsc} {δ : Type} {R : δ → Dsc}

/-- a call of a def without cells -/
theorem call_def {f : Addr} {o : Obj} {fd : FuncData} {body : List Stmt} {vs : List Value} {binds : List (Str × Value)} {Q : Value → Shared → Prop}
    (hroom : A.depth < recursionLimit) (hlim : s.heap.NoLimit) (ho : s.heap.get? f = some o) (hfd : o.data = .func fd) (hcd : s.heap.CodeRec fd.code fd.qualname) (hb : fd.body = .stmts body)
    (hbind : BindsTo s fd ⟨vs, []⟩ binds) (hcell : ∀ x ∈ fd.scope.names, x.2 ≠ .cell) (hloc : ∀ x ∈ binds, fd.scope.names.lookup x.1 = some .local)
    (h : ∀ s₁, Stp [] s s₁ → s.heap.get? s.heap.objs.size = none → s₁.heap.Ns s.heap.objs.size (fun x => binds.reverse.lookup x) →
      wpAny (model prog w) (A.deeper (callEnv fd s.heap.objs.size f)) (execs body (callEnv fd s.heap.objs.size f)) (fun fl s' => Q (match fl with | .ret v => v | _ => .none) s') NoE s₁)
    (hco : fd.scope.isCoroutine = false := by rfl) (hgen : fd.scope.isGenerator = false := by rfl) (hk : fd.scope.kind = .function := by rfl) :
    wpAny (model prog w) A (call (.ref f) vs) Q NoE s :=
  wpAny_call (codeAny_call_def hroom ho hfd hlim hcd hb hbind hcell hloc (fun h₀ hn hk => wpAny_mono (h _ (.heap fun b o _ e => hk b o e) (by
    cases q : s.heap.get? s.heap.objs.size with
    | none => rfl
    | some o => exact absurd (Heap.lt_size q) (Nat.lt_irrefl _)) hn) (fun fl s' x => x) fun _ _ x => x.elim) hco hgen hk)
/-- a call of a def with cells -/
theorem call_defC {f : Addr} {o : Obj} {fd : FuncData} {body : List Stmt} {vs : List Value} {binds : List (Str × Value)} {Q : Value → Shared → Prop}
    (hroom : A.depth < recursionLimit) (hlim : s.heap.NoLimit) (ho : s.heap.get? f = some o) (hfd : o.data = .func fd) (hcd : s.heap.CodeRec fd.code fd.qualname) (hb : fd.body = .stmts body) (hcl : fd.closure = [])
    (hbind : BindsTo s fd ⟨vs, []⟩ binds)
    (hkind : (binds.all fun y => fd.scope.names.lookup y.1 == some .local || fd.scope.names.lookup y.1 == some .cell) = true)
    (h : ∀ L cs, cs = cellsFrom (L + 1) fd.scope.names [] → L = s.heap.objs.size → ∀ env, env = newEnv fd.scope L fd.globals cs (fd.qualname ++ ".<locals>.") (some f) fd.code none fd.builtins → ∀ s₁, Stp [] s s₁ → (∀ k, L ≤ k → s.heap.get? k = none) →
      s₁.heap.Ns L (bindL env.kindOf binds fun _ => none) → (∀ n c, cs.lookup n = some c → s₁.heap.IsCell c (bindC env.kindOf binds (fun _ => none) n)) →
      wpAny (model prog w) (A.deeper env) (execs body env) (fun fl s' => Q (match fl with | .ret v => v | _ => .none) s') NoE s₁)
    (hco : fd.scope.isCoroutine = false := by rfl) (hgen : fd.scope.isGenerator = false := by rfl) (hk : fd.scope.kind = .function := by rfl) :
    wpAny (model prog w) A (call (.ref f) vs) Q NoE s := by
  refine wpAny_call (codeAny_call_function hroom ho hfd hco hgen hb hcd (hbind _ _ _ _ ?_))
  rw [hcl]
  refine wpAny_newFunctionEnv_cells hk (kindsX hkind _) ?_
  intro env he s' x
  have hn : ∀ k, s.heap.objs.size ≤ k → s.heap.get? k = none := fun k hk => by
    cases q : s.heap.get? k with
    | none => rfl
    | some o => exact absurd (Heap.lt_size q) (Nat.not_lt.mpr hk)
  obtain ⟨h', tk, e, hkeep⟩ := x.done
  have st : Stp [] s s' := by rw [e]; exact .heap fun b o _ e => hkeep b o e
  refine ⟨hlim.keeps st.all, codeAny_func (wpAny_mono (h _ _ rfl rfl env he s' st hn ?_ ?_) (fun _ _ q => q) fun _ _ q => q.elim)⟩
  · have := x.toInCall.ns; rw [he] at this ⊢; exact this
  · have := x.cell; rw [he] at this ⊢; exact this

theorem ev_callF {f : Addr} {o : Obj} {fd : FuncData} {fe : Expr} {e : Expr} {es : List Expr} {pos : Pos} {P : View → List Value → Prop} (hn : Ev prog w A env fe W s (isV (.ref f))) (ho : s.heap.get? f = some o) (hfd : o.data = .func fd)
    (ha : EvAll prog w A env pos (e :: es) W s P)
    (hc : ∀ s₁ vs, Stp [] s s₁ → Held W s₁ → P (vw W s₁.heap) vs → wpAny (model prog w) A (call (.ref f) vs) (fun v s' => Stp [] s₁ s' ∧ D (vw W s'.heap) v) NoE s₁)
    (he : eval (.Call fe (e :: es) [] pos) env = (do callWith pos (← eval fe env) [] (backTo pos (starEach (e :: es) env)) (backToKw pos (keywordEach [] env))) := by rfl)
    (hs : starEach (e :: es) env = (false, eval e env) :: starEach es env := by rfl) : Ev prog w A env (.Call fe (e :: es) [] pos) W s D := fun s₁ a hw =>
  Call_ (wpAny_mono (hn s₁ a hw) (fun v s₂ ⟨b, q⟩ => by
    cases q
    exact callWith_def hfd (wpAny_mono (ha s₂ (a.trans b) (hw.stp b)) (fun vs s₃ ⟨c, p⟩ => ⟨((a.trans b).trans c).all _ _ ho,
      wpAny_mono (hc s₃ vs ((a.trans b).trans c) ((hw.stp b).stp c) p) (fun u s' ⟨d, x⟩ => ⟨(b.trans c).trans d, x⟩) fun _ _ x => x⟩) fun _ _ x => x) hs) fun _ _ x => x) he
theorem ev_callB {id : String} {fe : Expr} {e : Expr} {es : List Expr} {pos : Pos} {P : View → List Value → Prop} (hn : Ev prog w A env fe W s (isV (.builtin id)))
    (ha : EvAll prog w A env pos (e :: es) W s P)
    (hc : ∀ s₁ vs, Stp [] s s₁ → Held W s₁ → P (vw W s₁.heap) vs → wpAny (model prog w) A (call (.builtin id) vs) (fun v s' => Stp [] s₁ s' ∧ D (vw W s'.heap) v) NoE s₁)
    (he : eval (.Call fe (e :: es) [] pos) env = (do callWith pos (← eval fe env) [] (backTo pos (starEach (e :: es) env)) (backToKw pos (keywordEach [] env))) := by rfl)
    (hs : starEach (e :: es) env = (false, eval e env) :: starEach es env := by rfl) (hp : (backTo pos (starEach es env)).any (·.1) = false := by rfl) : Ev prog w A env (.Call fe (e :: es) [] pos) W s D := fun s₁ a hw =>
  Call_ (wpAny_mono (hn s₁ a hw) (fun v s₂ ⟨b, q⟩ => by
    cases q
    exact callWith_builtin1 (wpAny_mono (ha s₂ (a.trans b) (hw.stp b)) (fun vs s₃ ⟨c, p⟩ =>
      wpAny_mono (hc s₃ vs ((a.trans b).trans c) ((hw.stp b).stp c) p) (fun u s' ⟨d, x⟩ => ⟨(b.trans c).trans d, x⟩) fun _ _ x => x) fun _ _ x => x) hs hp) fun _ _ x => x) he
theorem ev_callT {T : String} {fe : Expr} {e : Expr} {es : List Expr} {pos : Pos} {P : View → List Value → Prop} (hn : Ev prog w A env fe W s (isV (.type T)))
    (ha : EvAll prog w A env pos (e :: es) W s P)
    (hc : ∀ s₁ vs, Stp [] s s₁ → Held W s₁ → P (vw W s₁.heap) vs → wpAny (model prog w) A (call (.type T) vs) (fun v s' => Stp [] s₁ s' ∧ D (vw W s'.heap) v) NoE s₁)
    (he : eval (.Call fe (e :: es) [] pos) env = (do callWith pos (← eval fe env) [] (backTo pos (starEach (e :: es) env)) (backToKw pos (keywordEach [] env))) := by rfl)
    (hs : starEach (e :: es) env = (false, eval e env) :: starEach es env := by rfl) (hp : (backTo pos (starEach es env)).any (·.1) = false := by rfl) : Ev prog w A env (.Call fe (e :: es) [] pos) W s D := fun s₁ a hw =>
  Call_ (wpAny_mono (hn s₁ a hw) (fun v s₂ ⟨b, q⟩ => by
    cases q
    exact Pv.callWith_type1 (wpAny_mono (ha s₂ (a.trans b) (hw.stp b)) (fun vs s₃ ⟨c, p⟩ =>
      wpAny_mono (hc s₃ vs ((a.trans b).trans c) ((hw.stp b).stp c) p) (fun u s' ⟨d, x⟩ => ⟨(b.trans c).trans d, x⟩) fun _ _ x => x) fun _ _ x => x) hs hp) fun _ _ x => x) he

theorem ev_lenL {fe e : Expr} {pos : Pos} {ds : List δ} (hn : Ev prog w A env fe W s (isV (.builtin "len"))) (h : Ev prog w A env e W s (isLst R ds)) (hR : ∀ d, Mono (R d)) (hsz : ds.length < 2 ^ 62)
    (he : eval (.Call fe [e] [] pos) env = (do callWith pos (← eval fe env) [] (backTo pos (starEach [e] env)) (backToKw pos (keywordEach [] env))) := by rfl)
    (hs : starEach [e] env = (false, eval e env) :: starEach [] env := by rfl) : Ev prog w A env (.Call fe [e] [] pos) W s (isInt ds.length) :=
  ev_callB hn (evAll_cons h (mono_lst hR _) evAll_nil hs) (fun s₁ vs a hw ⟨u, us, e, ⟨ad, ws, e', l, x⟩, e''⟩ => by
    subst e'' e' e
    refine call_len_list l.isList (by simp only [List.size_toArray, ← x.length]; omega) ⟨.toks, s₁.toks + 1, ?_⟩
    rw [List.size_toArray, ← x.length]) he hs
end
end Mine

namespace Mine
section
variable {prog : Program} {w : World} {A : Around} {env : Env} {W : List Addr} {s : Shared} {D D₁ D₂ : Dsc} {δ : Type} {R : δ → Dsc} {rest : List Stmt} {Q : Flow → Shared → Prop}

abbrev Go (prog : Program) (w : World) (A : Around) (env : Env) (ss : List Stmt) (Q : Flow → Shared → Prop) (s : Shared) : Prop := wpAny (model prog w) A (execs ss env) Q NoE s
theorem x_nil (h : Q .next s) : Go prog w A env [] Q s := wpAny_execs_nil h

theorem x_assign {e : Expr} {x : Str} {p pos : Pos} {m : Str → Option Value} (h : Ev prog w A env e W s D) (hw : Held W s) (hn : s.heap.Ns env.locals m) (hL : env.locals ∈ W) (hm : Mono D)
    (next : ∀ v s', Stp [env.locals] s s' → D (vw W s'.heap) v → s'.heap.Ns env.locals (fun y => if y = x then some v else m y) → Go prog w A env rest Q s')
    (hk : env.kindOf x = some .local := by rfl) (hp : (env.scope.kind == .class || (env.scope.kind == .module && env.locals != env.globals)) = false := by rfl)
    (hsw : swapsWith e (some (Expr.Name x p)) pos.line env = pure false := by rfl) : Go prog w A env (.Assign [.Name x p] e pos :: rest) Q s :=
  wpAny_execs_cons (wpAny_Assign_Name (wpAny_mono (h.at hw) (fun v s₁ ⟨a, d⟩ => wpAny_storeName_local hk (hn.keeps a.all) (fun h' hn' hs => by
    have st : Stp [env.locals] s₁ { s₁ with heap := h', toks := s₁.toks + 1 } := .same hs
    exact next v _ (a.of_nil.trans st) (hm _ _ _ (st.vle' fun b hb => by rw [List.mem_singleton.mp hb]; exact hL) d) hn') hp) fun _ _ x => x) hsw)
/-- a store into a cell -/
theorem x_assignC {e : Expr} {x : Str} {p pos : Pos} {c : Addr} {v₀ : Option Value} (h : Ev prog w A env e W s D) (hw : Held W s) (hcl : env.cells.lookup x = some c) (hc : s.heap.IsCell c v₀) (hL : c ∈ W) (hm : Mono D)
    (next : ∀ v s', Stp [c] s s' → D (vw W s'.heap) v → s'.heap.IsCell c (some v) → Go prog w A env rest Q s')
    (hf : env.scope.kind = .function := by rfl) (hk : env.kindOf x = some .cell := by rfl)
    (hsw : swapsWith e (some (Expr.Name x p)) pos.line env = pure false := by rfl) : Go prog w A env (.Assign [.Name x p] e pos :: rest) Q s :=
  wpAny_execs_cons (wpAny_Assign_Name (wpAny_mono (h.at hw) (fun v s₁ ⟨a, d⟩ => wpAny_storeName_cell hf hk hcl (hc.keeps a.all) (fun h' hn' hs => by
    have st : Stp [c] s₁ { s₁ with heap := h' } := .same hs
    exact next v _ (a.of_nil.trans st) (hm _ _ _ (st.vle' fun b hb => by rw [List.mem_singleton.mp hb]; exact hL) d) hn')) fun _ _ x => x) hsw)
theorem x_return {e : Expr} {pos : Pos} (h : Ev prog w A env e W s D) (hw : Held W s) (next : ∀ v s', Stp [] s s' → D (vw W s'.heap) v → Q (.ret v) s') : Go prog w A env (.Return (some e) pos :: rest) Q s :=
  wpAny_execs_cons (wpAny_Return_some (wpAny_mono (h.at hw) (fun v s' ⟨a, d⟩ => next v s' a d) fun _ _ x => x))
theorem x_if {e : Expr} {body orelse : List Stmt} {pos : Pos} {c : Bool} (h : Tr prog w A env e s c)
    (yes : c = true → ∀ s', Stp [] s s' → Go prog w A env body (fun f s' => match f with | .next => Go prog w A env rest Q s' | f => Q f s') s')
    (no : c = false → ∀ s', Stp [] s s' → Go prog w A env orelse (fun f s' => match f with | .next => Go prog w A env rest Q s' | f => Q f s') s') :
    Go prog w A env (.If e body orelse pos :: rest) Q s :=
  wpAny_execs_cons (wpAny_If (wpAny_mono (h s (.refl _ _)) (fun b s' ⟨a, q⟩ => by
    subst q
    cases b with
    | true => exact yes rfl s' a
    | false => exact no rfl s' a) fun _ _ x => x))
/-- a call for its deed: its value is None -/
theorem x_append {o e : Expr} {apos pos spos : Pos} {d : Addr} {vs : List Value} (ho : Ev prog w A env o W s (isV (.ref d))) (hd : s.heap.PlainList d vs.toArray) (hsz : vs.length ≤ sizeLine) (h : Ev prog w A env e W s D) (hw : Held W s) (hdW : d ∈ W) (hm : Mono D)
    (next : ∀ v s', Stp [d] s s' → D (vw W s'.heap) v → s'.heap.PlainList d (vs ++ [v]).toArray → Go prog w A env rest Q s')
    (hbase : attributeBase o "append" env (eval o env) = eval o env := by rfl)
    (hline : (apos.endLine == pos.line) = true := by rfl) (htrees : backTo pos (starEach [e] env) = [(false, eval e env)] := by rfl)
    (hfew : ((backTo pos (starEach [e] env)).all (fun x => !x.1) && (backToKw pos (keywordEach [] env)).all (fun x => x.1.isSome)
      && decide (([e] : List Expr).length + ([] : List Keyword).length + (if ([] : List Keyword).isEmpty then 0 else 1) < 30)) = true := by rfl)
    (hi : interactive env = false := by rfl)
    (hsw : swapsWith (.Call (.Attribute o "append" apos) [e] [] pos) none spos.line env = pure false := by rfl) :
    Go prog w A env (.Expr (.Call (.Attribute o "append" apos) [e] [] pos) spos :: rest) Q s := by
  refine wpAny_execs_cons (wpAny_Expr (wpAny_Call_append hbase hfew hline htrees ?_) hi hsw)
  refine wpAny_mono (ho.at hw) (fun ov s₁ ⟨a, q⟩ => ?_) fun _ _ x => x
  have hd1 := hd.at (h' := s₁.heap) fun o e => a.all _ o e
  refine ⟨d, vs.toArray, q, ?_, ?_⟩
  · obtain ⟨n, e1⟩ := hd1; exact ⟨_, n, e1, rfl, rfl, rfl⟩
  refine wpAny_mono (h s₁ a (hw.stp a)) (fun v s₂ ⟨b, x⟩ => ?_) fun _ _ x => x
  refine wpAny_list_append_plain (hd1.at fun o e => b.all _ o e) (fun h' hl hs => ?_) (by simpa using hsz)
  have st : Stp [d] s₂ { s₂ with heap := h' } := .same hs
  exact next v _ ((a.trans b).of_nil.trans st) (hm _ _ _ (st.vle' fun b hb => by rw [List.mem_singleton.mp hb]; exact hdW) x) (by simpa using hl)

/-- tests -/
theorem tr_plain {e : Expr} {b : Bool} (h : Ev prog w A env e [] s (isV (.bool b))) (he : isTrue e env (eval e env) = (do let v ← eval e env; standAt e.pos; holding [v] (truthy v)) := by rfl) : Tr prog w A env e s b := fun s₁ a =>
  isTrue_plain (wpAny_mono (h s₁ a (held_nil _)) (fun v s' ⟨c, q⟩ => by cases q; exact wpAny_truthy_bool ⟨c, rfl⟩) fun _ _ x => x) he
def Cmp (prog : Program) (w : World) (A : Around) (op : CmpOp) (W : List Addr) (s : Shared) (D₁ D₂ : Dsc) (b : Bool) : Prop :=
  ∀ s₁ v u, Stp [] s s₁ → D₁ (vw W s₁.heap) v → D₂ (vw W s₁.heap) u → EvT prog w A (compareOp op v u) W s₁ (isV (.bool b))
theorem tr_cmp {l r : Expr} {op : CmpOp} {pos : Pos} {b : Bool} (h₁ : Ev prog w A env l W s D₁) (h₂ : Ev prog w A env r W s D₂) (m₁ : Mono D₁) (hc : Cmp prog w A op W s D₁ D₂ b) (hw : Held W s) (hb : behindInMarks op r = false := by rfl) :
    Tr prog w A env (.Compare l [op] [r] pos) s b := fun s₁ a =>
  wpAny_isTrue_Compare1 (wpAny_mono (h₁ s₁ a (hw.stp a)) (fun v s₂ ⟨b, d⟩ => wpAny_mono (h₂ s₂ (a.trans b) ((hw.stp a).stp b)) (fun u s₃ ⟨c, d'⟩ =>
    wpAny_mono ((hc s₃ v u ((a.trans b).trans c) (m₁ _ _ _ c.of_nil.vle d) d').at (((hw.stp a).stp b).stp c)) (fun x s' ⟨e, q⟩ => by cases q; exact wpAny_truthy_bool ⟨(b.trans c).trans e, rfl⟩) fun _ _ x => x) fun _ _ x => x) fun _ _ x => x) hb
theorem evc {l r : Expr} {op : CmpOp} {pos : Pos} {b : Bool} (h₁ : Ev prog w A env l W s D₁) (h₂ : Ev prog w A env r W s D₂) (m₁ : Mono D₁) (hc : Cmp prog w A op W s D₁ D₂ b) (hb : behindInMarks op r = false := by rfl) :
    Ev prog w A env (.Compare l [op] [r] pos) W s (isV (.bool b)) := ev_cmp h₁ h₂ m₁ hc hb
theorem c_eqInt {i j : Int} : Cmp prog w A .Eq W s (isInt i) (isInt j) (i == j) := fun s₁ v u _ ⟨t, e⟩ ⟨t', e'⟩ s₂ _ _ => by subst e; subst e'; exact eq_int ⟨.refl _ _, rfl⟩
theorem c_neInt {i j : Int} : Cmp prog w A .NotEq W s (isInt i) (isInt j) (i != j) := fun s₁ v u _ ⟨t, e⟩ ⟨t', e'⟩ s₂ _ _ => by subst e; subst e'; exact ne_int ⟨.refl _ _, rfl⟩
theorem c_ltInt {i j : Int} : Cmp prog w A .Lt W s (isInt i) (isInt j) (decide (i < j)) := fun s₁ v u _ ⟨t, e⟩ ⟨t', e'⟩ s₂ _ _ => by subst e; subst e'; exact lt_int ⟨.refl _ _, rfl⟩
theorem c_gtInt {i j : Int} : Cmp prog w A .Gt W s (isInt i) (isInt j) (decide (i > j)) := fun s₁ v u _ ⟨t, e⟩ ⟨t', e'⟩ s₂ _ _ => by subst e; subst e'; exact gt_int ⟨.refl _ _, rfl⟩
theorem c_eqStr {i j : Str} : Cmp prog w A .Eq W s (isStr i) (isStr j) (i == j) := fun s₁ v u _ ⟨t, e⟩ ⟨t', e'⟩ s₂ _ _ => by subst e; subst e'; exact eq_str ⟨.refl _ _, rfl⟩
theorem c_notInStr {x y : Str} : Cmp prog w A .NotIn W s (isStr y) (isStr x) (!Txt.contains x y) := fun s₁ v u _ ⟨t, e⟩ ⟨t', e'⟩ s₂ _ _ => by subst e; subst e'; exact SB.notContains ⟨.refl _ _, rfl⟩
theorem c_is {a b : Value} (hp : plainIs a b = true) : Cmp prog w A .Is W s (isV a) (isV b) (a == b) := fun s₁ v u _ e e' s₂ _ _ => by cases e; cases e'; exact wpAny_is_plain hp ⟨.refl _ _, rfl⟩
theorem c_isNot {a b : Value} (hp : plainIs a b = true) : Cmp prog w A .IsNot W s (isV a) (isV b) (!(a == b)) := fun s₁ v u _ e e' s₂ _ _ => by cases e; cases e'; exact wpAny_isNot_plain hp ⟨.refl _ _, rfl⟩
theorem c_isNone {i : Int} : Cmp prog w A .Is W s (isInt i) (isV .none) false := fun s₁ v u _ ⟨t, e⟩ e' s₂ _ _ => by subst e; cases e'; exact is_int_none ⟨.refl _ _, rfl⟩
theorem tr_not {e : Expr} {pos : Pos} {b : Bool} (h : Tr prog w A env e s b) : Tr prog w A env (.UnaryOp .Not e pos) s (!b) := fun s₁ a => isTrue_not (wpAny_mono (h s₁ a) (fun c s' ⟨d, q⟩ => ⟨d, by rw [q]⟩) fun _ _ x => x)
theorem tr_or {e₁ e₂ : Expr} {pos : Pos} {b c : Bool} (h₁ : Tr prog w A env e₁ s b) (h₂ : Tr prog w A env e₂ s c) : Tr prog w A env (.BoolOp .Or [e₁, e₂] pos) s (b || c) := fun s₁ a =>
  isTrue_or (wpAny_mono (h₁ s₁ a) (fun b' s' ⟨d, q⟩ => by
    subst q
    cases b' with
    | true => exact ⟨d, rfl⟩
    | false => exact isTrue_or (wpAny_mono (h₂ s' (a.trans d)) (fun c' s'' ⟨d', q⟩ => by
        subst q
        cases c' with
        | true => exact ⟨d.trans d', rfl⟩
        | false => exact isTrue_or_nil ⟨d.trans d', rfl⟩) fun _ _ x => x)) fun _ _ x => x)
/-- a chain of «or» as a value, of bools -/
theorem ev_or {e₁ e₂ : Expr} {es : List Expr} {pos : Pos} {b c : Bool} (h₁ : Ev prog w A env e₁ W s (isV (.bool b))) (h₂ : Ev prog w A env (.BoolOp .Or (e₂ :: es) pos) W s (isV (.bool c))) : Ev prog w A env (.BoolOp .Or (e₁ :: e₂ :: es) pos) W s (isV (.bool (b || c))) := fun s₁ a hw =>
  BoolOp_or (wpAny_mono (h₁ s₁ a hw) (fun v s' ⟨d, q⟩ => by
    cases q
    refine wpAny_truthy_bool ?_
    cases b with
    | true => exact ⟨d, rfl⟩
    | false => exact wpAny_mono (h₂ s' (a.trans d) (hw.stp d)) (fun v' s'' ⟨d', q⟩ => ⟨d.trans d', q⟩) fun _ _ x => x) fun _ _ x => x)
theorem ev_and {e₁ e₂ : Expr} {es : List Expr} {pos : Pos} {b c : Bool} (h₁ : Ev prog w A env e₁ W s (isV (.bool b))) (h₂ : Ev prog w A env (.BoolOp .And (e₂ :: es) pos) W s (isV (.bool c))) : Ev prog w A env (.BoolOp .And (e₁ :: e₂ :: es) pos) W s (isV (.bool (b && c))) := fun s₁ a hw =>
  BoolOp_and (wpAny_mono (h₁ s₁ a hw) (fun v s' ⟨d, q⟩ => by
    cases q
    refine wpAny_truthy_bool ?_
    cases b with
    | false => exact ⟨d, rfl⟩
    | true => exact wpAny_mono (h₂ s' (a.trans d) (hw.stp d)) (fun v' s'' ⟨d', q⟩ => ⟨d.trans d', q⟩) fun _ _ x => x) fun _ _ x => x)
theorem ev_one {op : BoolOp} {e : Expr} {pos : Pos} (h : Ev prog w A env e W s D) : Ev prog w A env (.BoolOp op [e] pos) W s D := h
end
end Mine

namespace Mine
section
variable {prog : Program} {w : World} {A : Around} {env : Env} {W M : List Addr} {s : Shared} {D D₁ D₂ : Dsc} {δ : Type} {R : δ → Dsc} {rest : List Stmt} {Q : Flow → Shared → Prop}

/-- the value v is walked: n items, of which P tells; what is changed on the way is new -/
def Iters (prog : Program) (w : World) (A : Around) (M : List Addr) (v : Value) (s : Shared) (n : Nat) (P : Nat → Value → Prop) : Prop :=
  wpAny (model prog w) A (pyIter v) (fun it s' => ∃ I fp wr St, it = .ref I ∧ Walks prog w A I fp wr n P St ∧ St 0 s'.heap ∧ Stp [] s s' ∧ (∀ b ∈ wr, s.heap.get? b = none) ∧ (∀ b ∈ fp, b ∉ M) ∧ (∀ b ∈ fp, ∃ o, s'.heap.get? b = some o)) NoE s
theorem get_size (h : Heap) : h.get? h.objs.size = none := by
  cases q : h.get? h.objs.size with
  | none => rfl
  | some o => exact absurd (Heap.lt_size q) (Nat.lt_irrefl _)
theorem get_ge {h : Heap} {k : Nat} (hk : h.objs.size ≤ k) : h.get? k = none := by
  cases q : h.get? k with
  | none => rfl
  | some o => exact absurd (Heap.lt_size q) (Nat.not_lt.mpr hk)
theorem iters_list {a : Addr} {vs : List Value} (hh : A.handled = none) (h : s.heap.IsList a vs.toArray) (ha : a ∉ M) (hw : Held M s) : Iters prog w A M (.ref a) s vs.length (fun i v => vs[i]? = some v) := by
  obtain ⟨o, ho, _⟩ := id h
  have hne : a ≠ s.heap.objs.size := Nat.ne_of_lt (Heap.lt_size ho)
  have Wk := Walks.list (prog := prog) (w := w) hh s.heap.objs.size a hne vs.toArray
  simp only [List.size_toArray, List.getElem?_toArray] at Wk
  refine wpAny_pyIter_list h ⟨_, _, _, _, rfl, Wk, ?_, .push, ?_, ?_, ?_⟩
  · exact ⟨⟨_, Heap.get?_push_size _ rfl, rfl, rfl⟩, h.at fun o e => Heap.get?_push_of_some _ e⟩
  · intro b hb; rw [List.mem_singleton.mp hb]; exact get_size _
  · intro b hb
    rcases List.mem_cons.mp hb with rfl | hb
    · exact hw.new (Nat.le_refl _)
    · rw [List.mem_singleton.mp hb]; exact ha
  · intro b hb
    rcases List.mem_cons.mp hb with rfl | hb
    · exact ⟨_, Heap.get?_push_size _ rfl⟩
    · rw [List.mem_singleton.mp hb]; exact ⟨_, Heap.get?_push_of_some _ ho⟩
theorem iters_tuple {a : Addr} {vs : List Value} (hh : A.handled = none) (h : s.heap.IsTuple a vs.toArray) (ha : a ∉ M) (hw : Held M s) : Iters prog w A M (.ref a) s vs.length (fun i v => vs[i]? = some v) := by
  obtain ⟨o, ho, _⟩ := id h
  have hne : a ≠ s.heap.objs.size := Nat.ne_of_lt (Heap.lt_size ho)
  have Wk := Walks.tuple (prog := prog) (w := w) hh s.heap.objs.size a hne vs.toArray
  simp only [List.size_toArray, List.getElem?_toArray] at Wk
  refine wpAny_pyIter_tuple h ⟨_, _, _, _, rfl, Wk, ?_, .push, ?_, ?_, ?_⟩
  · exact ⟨⟨_, Heap.get?_push_size _ rfl, rfl, rfl⟩, h.at fun o e => Heap.get?_push_of_some _ e⟩
  · intro b hb; rw [List.mem_singleton.mp hb]; exact get_size _
  · intro b hb
    rcases List.mem_cons.mp hb with rfl | hb
    · exact hw.new (Nat.le_refl _)
    · rw [List.mem_singleton.mp hb]; exact ha
  · intro b hb
    rcases List.mem_cons.mp hb with rfl | hb
    · exact ⟨_, Heap.get?_push_size _ rfl⟩
    · rw [List.mem_singleton.mp hb]; exact ⟨_, Heap.get?_push_of_some _ ho⟩
/-- range(n) -/
def isRange (n : Int) : Dsc := fun g v => ∃ a t u x, v = .ref a ∧ g a = some { cls := .type "range", data := .fields #[.int 0 t, .int n u, .int 1 x] }
theorem mono_range (n : Int) : Mono (isRange n) := fun _ _ _ hg ⟨a, t, u, x, e, h⟩ => ⟨a, t, u, x, e, hg _ _ h⟩
theorem ev_range {fe e : Expr} {pos : Pos} {n : Int} (hn : Ev prog w A env fe W s (isV (.type "range"))) (h : Ev prog w A env e W s (isInt n))
    (he : eval (.Call fe [e] [] pos) env = (do callWith pos (← eval fe env) [] (backTo pos (starEach [e] env)) (backToKw pos (keywordEach [] env))) := by rfl)
    (hs : starEach [e] env = (false, eval e env) :: starEach [] env := by rfl) : Ev prog w A env (.Call fe [e] [] pos) W s (isRange n) :=
  ev_callT hn (evAll_cons h (mono_int _) evAll_nil hs) (fun s₁ vs a hw ⟨u, us, e, ⟨t, e'⟩, e''⟩ => by
    subst e'' e' e
    exact call_range_1 ⟨.push, _, _, _, _, rfl, vw_of (hw.new (Nat.le_refl _)) (Heap.get?_push_size _ rfl)⟩) he hs
theorem iters_range {v : Value} {n : Nat} (hh : A.handled = none) (h : isRange n (vw W s.heap) v) (hn : (n : Int) < 2 ^ 62) (hw : Held M s) : Iters prog w A M v s n (fun i v => ∃ t, v = .int i t) := by
  obtain ⟨a, t, u, x, rfl, e⟩ := h
  have hsz : Builtin.Range.rangeSize 0 (n : Int) 1 = n := by rw [rangeSize_one]; split <;> omega
  have Wk := Walks.range (prog := prog) (w := w) hh s.heap.objs.size 0 1 n
  simp only [Int.mul_one, Int.zero_add] at Wk
  refine wpAny_pyIter_range (vw_some e).2 (small_one (by decide) (by decide) (by omega) hn) ⟨_, _, _, _, rfl, Wk, ?_, .push, ?_, ?_, ?_⟩
  · show IsRangeIter _ _ _ _ _
    rw [hsz]
    simpa using Heap.get?_push_size _ rfl
  · intro b hb; rw [List.mem_singleton.mp hb]; exact get_size _
  · intro b hb; rw [List.mem_singleton.mp hb]; exact hw.new (Nat.le_refl _)
  · intro b hb; rw [List.mem_singleton.mp hb]; exact ⟨_, Heap.get?_push_size _ rfl⟩

/-- the value is walked, and its items are as told by xs -/
def Srcs {γ : Type} (prog : Program) (w : World) (A : Around) (M W : List Addr) (R₀ : γ → Dsc) (xs : List γ) (v : Value) (s : Shared) : Prop :=
  ∃ P, Iters prog w A M v s xs.length P ∧ ∀ i u, P i u → ∃ d, xs[i]? = some d ∧ R₀ d (vw W s.heap) u
theorem srcs_list {γ : Type} {R₀ : γ → Dsc} {xs : List γ} {v : Value} (hh : A.handled = none) (h : isLst R₀ xs (vw W s.heap) v) (hM : ∀ b ∈ M, b ∈ W) (hw : Held W s) : Srcs prog w A M W R₀ xs v s := by
  obtain ⟨a, vs, rfl, l, x⟩ := h
  refine ⟨fun i v => vs[i]? = some v, ?_, fun i u e => x.getR i u e⟩
  rw [x.length]
  exact iters_list hh l.isList (fun hm => l.notin (hM _ hm)) (hw.sub hM)
theorem srcs_tuple {γ : Type} {R₀ : γ → Dsc} {xs : List γ} {v : Value} (hh : A.handled = none) (h : isTup R₀ xs (vw W s.heap) v) (hM : ∀ b ∈ M, b ∈ W) (hw : Held W s) : Srcs prog w A M W R₀ xs v s := by
  obtain ⟨a, vs, rfl, l, x⟩ := h
  refine ⟨fun i v => vs[i]? = some v, ?_, fun i u e => x.getR i u e⟩
  rw [x.length]
  obtain ⟨o, n, e, r⟩ := id l
  exact iters_tuple hh l.isTuple (fun hm => (vw_some e).1 (hM _ hm)) (hw.sub hM)
theorem srcs_range {v : Value} {n : Nat} (hh : A.handled = none) (h : isRange n (vw W s.heap) v) (hn : n < 2 ^ 62) (hM : ∀ b ∈ M, b ∈ W) (hw : Held W s) : Srcs prog w A M W (fun i : Nat => isInt i) (List.range n) v s := by
  refine ⟨fun i v => i < n ∧ ∃ t, v = .int i t, ?_, fun i u ⟨hi, e⟩ => ⟨i, by simp [hi], e⟩⟩
  have := iters_range (prog := prog) (w := w) (A := A) (M := M) hh h (by exact_mod_cast hn) (hw.sub hM)
  refine wpAny_mono this (fun it s' y => ?_) fun _ _ x => x
  obtain ⟨I, fp, wr, St, rfl, Wk, r⟩ := y
  refine ⟨I, fp, wr, St, rfl, ?_, r⟩
  rw [List.length_range]
  exact { sub := Wk.sub, frame := Wk.frame, done := Wk.done, self := Wk.self, item := fun i s Q E hi st hQ => Wk.item i s Q E hi st fun v h' tk p => hQ v h' tk ⟨hi, p⟩ }

/-- a loop over what is walked; J tells of what the body changes (M) -/
theorem x_for {γ : Type} {R₀ : γ → Dsc} {xs : List γ} {iter : Expr} {x : Str} {px pos : Pos} {body : List Stmt} (J : Nat → Heap → Prop)
    (h : Ev prog w A env iter W s D) (hw : Held W s) (hit : ∀ s₁ v, Stp [] s s₁ → Held W s₁ → D (vw W s₁.heap) v → Srcs prog w A M W R₀ xs v s₁) (hMW : ∀ b ∈ M, b ∈ W) (hR₀ : ∀ d, Mono (R₀ d))
    (hJ : ∀ i h h', J i h → (∀ b ∈ M, ∀ o, h.get? b = some o → h'.get? b = some o) → J i h') (h0 : J 0 s.heap)
    (turn : ∀ i d v s₂, xs[i]? = some d → R₀ d (vw W s₂.heap) v → Stp M s s₂ → J i s₂.heap →
      wpAny (model prog w) A (storeName env x v) (fun _ s₃ => Go prog w A env body (fun f s₄ => match f with
        | .next | .cont => Stp M s₂ s₄ ∧ J (i + 1) s₄.heap
        | .brk => Go prog w A env rest Q s₄
        | .ret v => Q (.ret v) s₄) s₃) NoE s₂)
    (done : ∀ s', Stp M s s' → J xs.length s'.heap → Go prog w A env rest Q s')
    (hs : ∀ x, foldedSetIterable iter env x = pure x := by intro _; rfl) : Go prog w A env (.For (.Name x px) iter body [] pos :: rest) Q s := by
  refine wpAny_execs_cons (wpAny_For (wpAny_mono (h.at hw) (fun v s₁ ⟨a, d⟩ => ?_) fun _ _ x => x) hs)
  obtain ⟨P, hI, hP⟩ := hit s₁ v a (hw.stp a) d
  refine wpAny_mono hI (fun it s₂ y => ?_) fun _ _ x => x
  obtain ⟨I, fp, wr, St, rfl, Wk, hst, b, hnew, hfp, _⟩ := y
  have hwrM : ∀ c ∈ wr, c ∉ M := fun c hc => hfp c (Wk.sub c hc)
  refine codeAny_forLoop (fun k s' => ∃ i, i ≤ xs.length ∧ k = xs.length - i ∧ St i s'.heap ∧ Stp M s₁ s' ∧ J i s'.heap) ?_ xs.length ⟨0, Nat.zero_le _, rfl, hst, b.of_nil, hJ 0 _ _ h0 fun c _ o e => (a.trans b).all c o e⟩
  rintro k s' ⟨i, hi, rfl, hst', st', hj⟩
  rcases Nat.lt_or_eq_of_le hi with hlt | heq
  · refine Wk.item i s' _ _ hlt hst' (fun v h' tk hPv hst₁ hk => ?_)
    have stn : Stp M s₁ { s' with heap := h', toks := tk } := ⟨fun c o hc e => hk c o (fun hm => by rw [hnew c hm] at e; cases e) (st'.keep c o hc e), st'.os, st'.bare, st'.old⟩
    have hj' : J i h' := hJ i _ _ hj fun c hc o e => hk c o (fun hm => hwrM c hm hc) e
    obtain ⟨d, hd, r⟩ := hP i v hPv
    refine wpAny_assign_Name (wpAny_mono (turn i d v _ hd (hR₀ d _ _ v (stn.vle' hMW) r) (a.of_nil.trans stn) hj') (fun _ s₃ g => wpAny_mono g (fun f s₄ q => ?_) fun _ _ x => x.elim) fun _ _ x => x.elim)
    cases f with
    | next => exact ⟨xs.length - (i + 1), by omega, i + 1, hlt, rfl, Wk.frame _ _ _ hst₁ fun c hc o e => q.1.keep c o (hfp c hc) e, stn.trans q.1, q.2⟩
    | cont => exact ⟨xs.length - (i + 1), by omega, i + 1, hlt, rfl, Wk.frame _ _ _ hst₁ fun c hc o e => q.1.keep c o (hfp c hc) e, stn.trans q.1, q.2⟩
    | brk => exact q
    | ret v => exact q
  · subst heq
    refine Wk.done s' _ _ hst' (fun h' tk hk => wpAny_execs_nil ?_)
    refine done _ (a.of_nil.trans ⟨fun c o hc e => hk c o (fun hm => by rw [hnew c hm] at e; cases e) (st'.keep c o hc e), st'.os, st'.bare, st'.old⟩) (hJ _ _ _ hj fun c hc o e => hk c o (fun hm => hwrM c hm hc) e)
end
end Mine

namespace Mine
section
variable {prog : Program} {w : World} {A : Around} {env : Env} {W M : List Addr} {s : Shared} {D D₁ D₂ : Dsc} {δ : Type} {R : δ → Dsc} {rest : List Stmt} {Q : Flow → Shared → Prop}

theorem get_none_of {s s' : Shared} (a : Stp [] s s') {k : Addr} (h : s'.heap.get? k = none) : s.heap.get? k = none := by
  cases q : s.heap.get? k with
  | none => rfl
  | some o => have := a.all _ _ q; rw [h] at this; cases this

/-- a comprehension's loop: acc, C and what the walk changes are new since sb; V: what is not looked at -/
theorem comp_core {elt iter : Expr} {x : Str} {px pos : Pos} {scope : Scope} {cenv : Env} {I acc C : Addr} {fp wr V : List Addr} {n : Nat} {P : Nat → Value → Prop} {St : Nat → Heap → Prop} {m : Str → Option Value} {ds : List δ} {sb : Shared} {RR : Result → Shared → Prop}
    (hb : Stp [] sb s) (Wk : Walks prog w A I fp wr n P St) (hst : St 0 s.heap) (hacc : s.heap.PlainList acc #[]) (hC : s.heap.Ns C m) (hCe : cenv.locals = C) (hlen : ds.length = n) (hsz : n ≤ sizeLine)
    (hR : ∀ d, Mono (R d)) (nacc : sb.heap.get? acc = none) (nC : sb.heap.get? C = none) (nwr : ∀ b ∈ wr, sb.heap.get? b = none) (hDC : acc ≠ C) (haf : acc ∉ fp) (hCf : C ∉ fp) (hV : ∀ b ∈ acc :: C :: wr, b ∈ V)
    (helt : ∀ i v d s₂ m₂, ds[i]? = some d → P i v → Stp [] sb s₂ → s₂.heap.Ns C m₂ → m₂ x = some v → (∃ o, s₂.heap.get? acc = some o) → (∃ o, s₂.heap.get? C = some o) → wpAny (model prog w) A (eval elt cenv) (fun y s₃ => Stp [] s₂ s₃ ∧ R d (vw V s₃.heap) y) NoE s₂)
    (done : ∀ s' vs m', Stp [] sb s' → s'.heap.Ns C m' → s'.heap.PlainList acc vs.toArray → All2 (fun d u => R d (vw V s'.heap) u) ds vs → RR (.ok .next) s')
    (hx : cenv.kindOf x = some .local) (hp : (cenv.scope.kind == .class || (cenv.scope.kind == .module && cenv.locals != cenv.globals)) = false) :
    codeAny (model prog w) A (.compStart (.ListComp elt [⟨.Name x px, iter, [], 0⟩] scope pos) 0 (.ref I) (.ref acc) cenv) RR s := by
  have hCw : C ∉ wr := fun h => hCf (Wk.sub _ h)
  have haw : acc ∉ wr := fun h => haf (Wk.sub _ h)
  have loop : codeAny (model prog w) A (.compLoop (.ListComp elt [⟨.Name x px, iter, [], 0⟩] scope pos) 0 (.ref I) (.ref acc) cenv) RR s := by
    refine codeAny_compLoop_list (fun k s' => ∃ i vs m', i ≤ n ∧ k = n - i ∧ St i s'.heap ∧ Stp [] sb s' ∧ s'.heap.Ns C m' ∧ s'.heap.PlainList acc vs.toArray ∧
      All2 (fun d u => R d (vw V s'.heap) u) (ds.take i) vs) ?_ n ⟨0, [], m, Nat.zero_le _, rfl, hst, hb, hC, hacc, by simpa using All2.nil⟩
    rintro k s' ⟨i, vs, m', hi, rfl, hst', st', hC', hacc', hvs⟩
    rcases Nat.lt_or_eq_of_le hi with hlt | heq
    · refine Wk.item i s' _ _ hlt hst' (fun v h' tk hP hst₁ hk => ?_)
      have stn : Stp wr s' { s' with heap := h', toks := tk } := .heap hk
      refine wpAny_assign_Name (wpAny_storeName_local hx (m := m') (by rw [hCe]; exact hC'.at' fun o e => hk _ o hCw e) (fun h₂ hn₂ hs₂ => ?_) hp)
      rw [hCe] at hn₂ hs₂
      have st2 : Stp (C :: wr) s' { s' with heap := h₂, toks := tk + 1 } := (stn.weaken fun b hb => .tail _ hb).trans ((Stp.same (s := { s' with heap := h', toks := tk }) (tk := tk + 1) hs₂).weaken fun b hb => by rw [List.mem_singleton.mp hb]; exact .head _)
      have stb : Stp [] sb { s' with heap := h₂, toks := tk + 1 } := st'.fresh st2 fun b hb => by
        rcases List.mem_cons.mp hb with rfl | hb
        · exact nC
        · exact nwr b hb
      obtain ⟨d, hd⟩ : ∃ d, ds[i]? = some d := ⟨ds[i]'(by omega), by simp [show i < ds.length by omega]⟩
      have hacc₂ : h₂.PlainList acc vs.toArray := hacc'.at fun o e => (hs₂.2 acc hDC).trans (hk acc o haw e)
      have hst₂ : St (i + 1) h₂ := Wk.frame _ _ _ hst₁ fun b hb o e => (hs₂.2 b (fun h => hCf (h ▸ hb))).trans e
      obtain ⟨o₁, _, _, ho₁, _⟩ := id hn₂
      obtain ⟨n₂, ho₂⟩ := id hacc₂
      refine wpAny_mono (helt i v d _ _ hd hP stb hn₂ (by simp) ⟨_, ho₂⟩ ⟨_, ho₁⟩) (fun y s₃ ⟨b, r⟩ => ?_) fun _ _ x => x.elim
      have hacc₃ : s₃.heap.PlainList acc vs.toArray := hacc₂.at fun o e => b.all _ o e
      refine wpAny_list_append_plain hacc₃ (fun h₄ hl hs₄ => ?_) (by have := hvs.length; simp only [List.length_take] at this; simp only [List.size_toArray]; omega)
      have st4 : Stp [acc] s₃ { s₃ with heap := h₄ } := .same hs₄
      have stV : Stp (acc :: C :: wr) s' { s₃ with heap := h₄ } := ((st2.weaken fun b hb => .tail _ hb).trans (b.of_nil)).trans (st4.weaken fun b hb => by rw [List.mem_singleton.mp hb]; exact .head _)
      have stV2 : Stp (acc :: C :: wr) s₃ { s₃ with heap := h₄ } := st4.weaken fun b hb => by rw [List.mem_singleton.mp hb]; exact .head _
      have hC4 := (hn₂.keeps b.all).sameBut hs₄ (Ne.symm hDC)
      refine ⟨n - (i + 1), by omega, i + 1, vs ++ [y], _, hlt, rfl, ?_, ?_, hC4, by simpa using hl, ?_⟩
      · exact Wk.frame _ _ _ hst₂ fun c hc o e => (hs₄.2 c (fun h => haf (h ▸ hc))).trans (b.all c o e)
      · exact (stb.trans b).fresh st4 fun c hc => by rw [List.mem_singleton.mp hc]; exact nacc
      · have e : ds.take (i + 1) = ds.take i ++ [d] := by rw [List.take_add_one, hd]; rfl
        rw [e]
        exact (hvs.imp fun d u r => hR d _ _ u (stV.vle' hV) r).snoc (hR d _ _ y (stV2.vle' hV) r)
    · subst heq
      refine Wk.done s' _ _ hst' (fun h' tk hk => ?_)
      have stn : Stp wr s' { s' with heap := h', toks := tk } := .heap hk
      refine done _ vs m' (st'.fresh stn nwr) (hC'.at' fun o e => hk _ o hCw e) (hacc'.at fun o e => hk _ o haw e) ?_
      have e : ds.take i = ds := List.take_of_length_le (by omega)
      rw [e] at hvs
      exact hvs.imp fun d u r => hR d _ _ u (stn.vle' fun b hb => hV b (.tail _ (.tail _ hb))) r
  exact codeAny_compStart_list loop (Wk.self 0 _ _ _ hst loop)

/-- a comprehension of one clause -/
theorem comp_free {γ : Type} {R₀ : γ → Dsc} {xs : List γ} {elt iter : Expr} {x : Str} {px pos : Pos} {scope : Scope} {cl : List (Str × Addr)} {ds : List δ} {use : Option (Value → Sem Unit)} {QQ : Value → Shared → Prop}
    (h : Ev prog w A env iter W s D) (hit : ∀ s₁ v, Stp [] s s₁ → Held W s₁ → D (vw W s₁.heap) v → Srcs prog w A W W R₀ xs v s₁) (hR₀ : ∀ d, Mono (R₀ d))
    (hlen : ds.length = xs.length) (hsz : xs.length ≤ sizeLine) (hR : ∀ d, Mono (R d))
    (helt : ∀ V C (i : Nat) d₀ d v s₂ m₂, xs[i]? = some d₀ → ds[i]? = some d → R₀ d₀ (vw V s₂.heap) v → Stp [] s s₂ → VLe (vw W s.heap) (vw V s₂.heap) → Held V s₂ → s₂.heap.Ns C m₂ → m₂ x = some v → Ev prog w A (compEnvC scope cl C env) elt V s₂ (R d))
    (hclos : closureFor scope env = pure cl) (hcell : ∀ y ∈ scope.names, y.2 ≠ .cell) (hx : scope.names.lookup x = some .local)
    (hkind : scope.kind = .function) (hnames : ∀ x ∈ scope.names, x.2 = .local → scope.names.lookup x.1 = some .local)
    (hs : ∀ x, foldedSetIterable iter env x = pure x) (s₀ : Shared) (a₀ : Stp [] s s₀) (hw₀ : Held W s₀)
    (done : ∀ s' acc C (vs : List Value) m', Stp [] s₀ s' → s₀.heap.get? acc = none → s₀.heap.get? C = none → acc ∉ W → C ∉ W → acc ≠ C → s'.heap.Ns C m' → s'.heap.PlainList acc vs.toArray → isLst R ds (vw (C :: W) s'.heap) (.ref acc) → compPost (model prog w) A NoE use QQ (.ref acc) C (.ok .next) s') :
    wpAny (model prog w) A (comprehension (.ListComp elt [⟨.Name x px, iter, [], 0⟩] scope pos) scope env (firstIterPos [⟨.Name x px, iter, [], 0⟩] pos) (newList []) false (eval iter env) use) QQ NoE s₀ := by
  refine wpAny_comprehension_free (g := ⟨.Name x px, iter, [], 0⟩) (gs := []) rfl hs hclos hkind hnames ?_
  refine wpAny_mono (h s₀ a₀ hw₀) (fun v s₁ ⟨a, d⟩ => ?_) fun _ _ x => x
  obtain ⟨P, hI, hP⟩ := hit s₁ v (a₀.trans a) (hw₀.stp a) d
  refine wpAny_mono hI (fun it s₂ y => ?_) fun _ _ x => x
  obtain ⟨I, fp, wr, St, rfl, Wk, hst, b, hnew, hfp, hfa⟩ := y
  have hw₂ : Held W s₂ := (hw₀.stp a).stp b
  refine wpAny_newObj_type ?_
  refine wpAny_newFunctionEnv hcell (by intro y hy; simp at hy) (fun h₁ hns₁ hsb₁ => ?_) hkind
  dsimp only at hns₁ hsb₁ ⊢
  have hsz2 : (s₂.heap.push { cls := .type "list", data := .seq ([] : List Value).toArray }).objs.size = s₂.heap.objs.size + 1 := Heap.size_push ..
  rw [hsz2] at hns₁ hsb₁ ⊢
  have old : ∀ b o, s₂.heap.get? b = some o → h₁.get? b = some o := fun b o e =>
    hsb₁.extBut b o (Nat.ne_of_lt (Nat.lt_succ_of_lt (Heap.lt_size e))) (Heap.get?_push_of_some _ (Heap.get?_push_of_some _ e))
  have st3 : Stp [] s₂ { s₂ with heap := h₁, toks := s₂.toks + ([] : List (Str × Value)).length } := .heap fun b o _ e => old b o e
  have hacc : h₁.PlainList s₂.heap.objs.size #[] := ⟨0, hsb₁.extBut _ _ (Nat.ne_of_lt (Nat.lt_succ_self _)) (Heap.get?_push_of_some _ (Heap.get?_push_size _ rfl))⟩
  have lfp : ∀ c ∈ fp, c < s₂.heap.objs.size := fun c hc => let ⟨o, e⟩ := hfa c hc; Heap.lt_size e
  refine comp_core (sb := s₁) (V := s₂.heap.objs.size :: (s₂.heap.objs.size + 1) :: wr ++ W) (ds := ds) (R := R) (b.trans st3) Wk (Wk.frame _ _ _ hst fun c _ o e => old c o e) hacc hns₁ rfl hlen hsz hR
    (get_none_of b (get_size _)) (get_none_of b (get_ge (Nat.le_succ _))) hnew (Nat.ne_of_lt (Nat.lt_succ_self _)) (fun hm => absurd (lfp _ hm) (Nat.lt_irrefl _)) (fun hm => absurd (lfp _ hm) (Nat.not_lt.mpr (Nat.le_succ _))) (fun c hc => List.mem_append_left _ hc) ?_ ?_ (lookup_relabel_local hx) (by show (scope.kind == .class || (scope.kind == .module && _)) = false; rw [hkind]; rfl)
  · intro i v d s₄ m₂ hd hPv st4 hns4 hm ha4 hc4
    obtain ⟨d₀, hd₀, r₀⟩ := hP i v hPv
    obtain ⟨oa, hoa⟩ := ha4
    obtain ⟨oc, hoc⟩ := hc4
    have hV4 : Held (s₂.heap.objs.size :: (s₂.heap.objs.size + 1) :: wr ++ W) s₄ := by
      refine Held.append (.cons hoa (.cons hoc fun c hc => ⟨_, oa, Nat.le_of_lt (lfp c (Wk.sub c hc)), hoa⟩)) (((hw₀.stp a)).stp st4)
    have vl : ∀ sx : Shared, Stp [] sx s₁ → VLe (vw W sx.heap) (vw (s₂.heap.objs.size :: (s₂.heap.objs.size + 1) :: wr ++ W) s₄.heap) := fun sx ax c o e => by
      obtain ⟨hcW, he⟩ := vw_some e
      have e1 := ax.all _ _ he
      refine vw_of (fun hm => ?_) (st4.all _ _ e1)
      rcases List.mem_append.mp hm with hm | hm
      · have hlt := Heap.lt_size (b.all _ _ e1)
        rcases List.mem_cons.mp hm with rfl | hm
        · exact absurd hlt (Nat.lt_irrefl _)
        rcases List.mem_cons.mp hm with rfl | hm
        · exact absurd hlt (Nat.not_lt.mpr (Nat.le_succ _))
        · rw [hnew c hm] at e1; cases e1
      · exact hcW hm
    exact (helt _ _ i d₀ d v s₄ m₂ hd₀ hd (hR₀ d₀ _ _ v (vl s₁ (.refl _ _)) r₀) ((a₀.trans a).trans st4) (vl s (a₀.trans a)) hV4 hns4 hm).at hV4
  · intro s' vs m' st' hns' hp' hvs
    have sa := get_none_of a (get_none_of b (get_size s₂.heap))
    have sc := get_none_of a (get_none_of b (get_ge (h := s₂.heap) (Nat.le_succ _)))
    refine done s' s₂.heap.objs.size (s₂.heap.objs.size + 1) vs m' (a.trans st') sa sc (hw₂.new (Nat.le_refl _)) (hw₂.new (Nat.le_succ _)) (Nat.ne_of_lt (Nat.lt_succ_self _)) hns' hp' ⟨_, vs, rfl, ?_, ?_⟩
    · exact LAt.of hp' (fun hm => by
        rcases List.mem_cons.mp hm with e | hm
        · exact absurd e (Nat.ne_of_lt (Nat.lt_succ_self _))
        · exact hw₂.new (Nat.le_refl _) hm)
    · refine hvs.imp fun d u r => hR d _ _ u (vw_sub fun c hc => ?_) r
      rcases List.mem_cons.mp hc with rfl | hc
      · exact List.mem_append_left _ (.tail _ (.head _))
      · exact List.mem_append_right _ hc
theorem ev_comp {γ : Type} {R₀ : γ → Dsc} {xs : List γ} {elt iter : Expr} {x : Str} {px pos : Pos} {scope : Scope} {cl : List (Str × Addr)} {ds : List δ}
    (h : Ev prog w A env iter W s D) (hit : ∀ s₁ v, Stp [] s s₁ → Held W s₁ → D (vw W s₁.heap) v → Srcs prog w A W W R₀ xs v s₁) (hR₀ : ∀ d, Mono (R₀ d))
    (hlen : ds.length = xs.length) (hsz : xs.length ≤ sizeLine) (hR : ∀ d, Mono (R d))
    (helt : ∀ V C (i : Nat) d₀ d v s₂ m₂, xs[i]? = some d₀ → ds[i]? = some d → R₀ d₀ (vw V s₂.heap) v → Stp [] s s₂ → VLe (vw W s.heap) (vw V s₂.heap) → Held V s₂ → s₂.heap.Ns C m₂ → m₂ x = some v → Ev prog w A (compEnvC scope cl C env) elt V s₂ (R d))
    (hclos : closureFor scope env = pure cl := by rfl) (hcell : ∀ y ∈ scope.names, y.2 ≠ .cell := by decide) (hx : scope.names.lookup x = some .local := by rfl)
    (hkind : scope.kind = .function := by rfl) (hnames : ∀ x ∈ scope.names, x.2 = .local → scope.names.lookup x.1 = some .local := by decide)
    (hs : ∀ x, foldedSetIterable iter env x = pure x := by intro _; rfl) : Ev prog w A env (.ListComp elt [⟨.Name x px, iter, [], 0⟩] scope pos) W s (fun g v => isLst R ds g v ∧ New s v) := fun s₀ a₀ hw₀ => by
  rw [eval_ListComp]
  refine comp_free (use := none) h hit hR₀ hlen hsz hR helt hclos hcell hx hkind hnames hs s₀ a₀ hw₀ ?_
  intro s' acc C vs m' st' na nc hna hnc hac hns hpl hl
  refine ⟨m', hns, fun h' hsb => ?_⟩
  have st2 : Stp [C] s' { s' with heap := h' } := .same hsb
  have g : VLe (vw (C :: W) s'.heap) (vw W h') := (st2.vle' (V := C :: W) fun b hb => by rw [List.mem_singleton.mp hb]; exact .head _).trans (vw_sub fun b hb => .tail _ hb)
  exact ⟨st'.fresh st2 fun b hb => by rw [List.mem_singleton.mp hb]; exact nc, mono_lst hR ds _ _ _ g hl, _, rfl, get_none_of a₀ na⟩
end
end Mine

namespace Mine

/-- a text by the numbers of its signs -/
def tx (l : List Nat) : Str := ⟨l.toArray⟩
theorem tx_cps (l : List Nat) : (tx l).cps.toList = l := rfl
theorem tx_len (l : List Nat) : (tx l).length = l.length := by show l.toArray.size = _; simp
theorem tx_inj {a b : List Nat} : tx a = tx b ↔ a = b := ⟨fun h => by have := congrArg (fun s : Str => s.cps.toList) h; exact this, fun h => by rw [h]⟩
theorem tx_append (a b : List Nat) : tx a ++ tx b = tx (a ++ b) := by
  show (⟨(tx a).cps ++ (tx b).cps⟩ : Str) = ⟨(a ++ b).toArray⟩
  congr 1
  show a.toArray ++ b.toArray = (a ++ b).toArray
  simp
theorem tx_beq (a b : List Nat) : (tx a == tx b) = (a == b) := by
  rw [Bool.eq_iff_iff, beq_iff_eq, beq_iff_eq, tx_inj]
theorem tx_contains (l : List Nat) (c : Nat) : Txt.contains (tx l) (tx [c]) = l.contains c := by
  have h := StrLaws.found_one (tx l) c
  unfold Txt.contains
  rw [show tx [c] = (⟨#[c]⟩ : Str) from rfl, h, tx_cps, List.contains_eq_mem]
theorem tx_slice (l : List Nat) (i j : Nat) (hij : i ≤ j) (hj : j ≤ l.length) : Txt.slice (tx l) (some (i : Int)) (some (j : Int)) = tx ((l.drop i).take (j - i)) := by
  have h := beq_iff_eq.mp (slice_closesL (x := tx l) (i := (i : Int)) (j := (j : Int)) (by omega) (by omega) (by rw [tx_len]; exact_mod_cast hj))
  rw [h, tx_cps]
  have e : ((j : Int) - (i : Int)).toNat = j - i := by omega
  rw [e]; rfl
theorem tx_from (l : List Nat) (i : Nat) (hi : i ≤ l.length) : Txt.slice (tx l) (some (i : Int)) none = tx (l.drop i) := by
  have h := slice_from_eq (x := tx l) (i := (i : Int)) (b := (l.length : Int)) (by omega) (by rw [tx_len]; exact_mod_cast hi) (by rw [tx_len])
  rw [h, tx_cps]
  have e : ((l.length : Int) - (i : Int)).toNat = l.length - i := by omega
  rw [e]
  show (⟨((l.drop i).take (l.length - i)).toArray⟩ : Str) = tx (l.drop i)
  rw [List.take_of_length_le (by simp)]; rfl
theorem foldl_flat : ∀ (ls : List (List Nat)) (acc : List Nat), (ls.map tx).foldl (fun a (p : Str) => a ++ (tx []).cps ++ p.cps) acc.toArray = (acc ++ ls.flatten).toArray
  | [], acc => by simp
  | l :: ls, acc => by
    simp only [List.map_cons, List.foldl_cons]
    have e : acc.toArray ++ (tx []).cps ++ (tx l).cps = (acc ++ l).toArray := by
      show acc.toArray ++ ([] : List Nat).toArray ++ l.toArray = _
      simp
    rw [e, foldl_flat ls (acc ++ l)]; simp
theorem tx_join (ls : List (List Nat)) : Txt.join (tx []) (ls.map tx) = tx ls.flatten := by
  show glued (tx []) (ls.map tx) = _
  unfold glued
  cases ls with
  | nil => rfl
  | cons l ls =>
    simp only [List.map_cons, List.drop_succ_cons, List.drop_zero, List.headD_cons]
    have := foldl_flat ls l
    show (⟨_⟩ : Str) = ⟨_⟩
    congr 1
def isT (l : List Nat) : Dsc := isStr (tx l)
theorem mono_t (l : List Nat) : Mono (isT l) := mono_str _

section
variable {prog : Program} {w : World} {A : Around} {env : Env} {W M : List Addr} {s : Shared} {D D₁ D₂ : Dsc} {δ : Type} {R : δ → Dsc} {rest : List Stmt} {Q : Flow → Shared → Prop}
theorem ev_t {x : Str} {k : Nat} {pos : Pos} (l : List Nat) (h : x = tx l) : Ev prog w A env (.Constant (.str x) k pos) W s (isT l) := by subst h; exact ev_str _
theorem ev_catT {l r : Expr} {pos : Pos} {x y : List Nat} (hsz : x.length + y.length ≤ sizeLine) (h₁ : Ev prog w A env l W s (isT x)) (h₂ : Ev prog w A env r W s (isT y)) : Ev prog w A env (.BinOp l .Add r pos) W s (isT (x ++ y)) := by
  unfold isT
  rw [← tx_append]
  exact ev_cat (by rw [tx_len, tx_len]; exact hsz) h₁ h₂
theorem c_eqT {i j : List Nat} : Cmp prog w A .Eq W s (isT i) (isT j) (i == j) := by rw [← tx_beq]; exact c_eqStr
theorem c_notInT {l : List Nat} {c : Nat} : Cmp prog w A .NotIn W s (isT [c]) (isT l) (!l.contains c) := by rw [← tx_contains]; exact c_notInStr

/-- a method of one argument on a thing of a built-in type -/
theorem ev_method1 {o e : Expr} {apos pos : Pos} {name : Str} {T id : String} (ho : Ev prog w A env o W s D₁) (m₁ : Mono D₁) (he : Ev prog w A env e W s D₂) (pa : PlainAttrs T) (slot : Slot T name id) (ty : typeOf (.builtin id) = pure (.type "method_descriptor"))
    (hT : ∀ (s₁ : Shared) v, D₁ (vw W s₁.heap) v → s₁.TypeIs v T ∧ ∀ a, v = .ref a → ∃ ob, s₁.heap.get? a = some ob ∧ ob.dict = none)
    (hc : ∀ s₁ v u, Stp [] s s₁ → Held W s₁ → D₁ (vw W s₁.heap) v → D₂ (vw W s₁.heap) u → wpAny (model prog w) A (call (.builtin id) [v, u]) (fun r s' => Stp [] s₁ s' ∧ D (vw W s'.heap) r) NoE s₁)
    (hbase : attributeBase o name env (eval o env) = eval o env := by rfl) (hs : starEach [e] env = [(false, eval e env)] := by rfl) (hline : (apos.endLine == pos.line) = true := by rfl) :
    Ev prog w A env (.Call (.Attribute o name apos) [e] [] pos) W s D := fun s₁ a hw => by
  refine Call_method1 hbase hs hline (wpAny_mono (ho s₁ a hw) (fun v s₂ ⟨b, d⟩ => ?_) fun _ _ x => x)
  refine ⟨T, id, pa, slot, ty, (hT s₂ v d).1, (hT s₂ v d).2, ?_⟩
  refine Calls.callWith_builtin rfl (Calls.evalArgs_plain (Calls.spliced_cons (wpAny_mono (he s₂ (a.trans b) (hw.stp b)) (fun u s₃ ⟨c, d'⟩ => Calls.spliced_nil ?_) fun _ _ x => x)))
  exact wpAny_mono (hc s₃ v u ((a.trans b).trans c) ((hw.stp b).stp c) (m₁ _ _ _ c.of_nil.vle d) d') (fun r s' ⟨e, q⟩ => ⟨(b.trans c).trans e, q⟩) fun _ _ x => x
theorem ev_method0 {o : Expr} {apos pos : Pos} {name : Str} {T id : String} (ho : Ev prog w A env o W s D₁) (pa : PlainAttrs T) (slot : Slot T name id) (ty : typeOf (.builtin id) = pure (.type "method_descriptor"))
    (hT : ∀ (s₁ : Shared) v, D₁ (vw W s₁.heap) v → s₁.TypeIs v T ∧ ∀ a, v = .ref a → ∃ ob, s₁.heap.get? a = some ob ∧ ob.dict = none)
    (hc : ∀ s₁ v, Stp [] s s₁ → Held W s₁ → D₁ (vw W s₁.heap) v → wpAny (model prog w) A (call (.builtin id) [v]) (fun r s' => Stp [] s₁ s' ∧ D (vw W s'.heap) r) NoE s₁)
    (hbase : attributeBase o name env (eval o env) = eval o env := by rfl) (hline : (apos.endLine == pos.line) = true := by rfl) :
    Ev prog w A env (.Call (.Attribute o name apos) [] [] pos) W s D := fun s₁ a hw => by
  refine Call_method0 hbase hline (wpAny_mono (ho s₁ a hw) (fun v s₂ ⟨b, d⟩ => ?_) fun _ _ x => x)
  refine ⟨T, id, pa, slot, ty, (hT s₂ v d).1, (hT s₂ v d).2, ?_⟩
  refine Calls.callWith_builtin rfl (PySem.evalArgs_none ?_)
  exact wpAny_mono (hc s₂ v (a.trans b) (hw.stp b) d) (fun r s' ⟨e, q⟩ => ⟨b.trans e, q⟩) fun _ _ x => x

theorem strs_values : ∀ {ls : List (List Nat)} {vs : List Value} {g : View}, All2 (fun d u => isT d g u) ls vs → ∃ l : List (Str × Tok), vs = strValues l ∧ l.map (·.1) = ls.map tx
  | _, _, _, .nil => ⟨[], rfl, rfl⟩
  | a :: _, _, _, .cons ⟨t, e⟩ h => by
    obtain ⟨l, e1, e2⟩ := strs_values h
    refine ⟨(tx a, t) :: l, ?_, ?_⟩
    · rw [e, e1]; rfl
    · rw [List.map_cons, e2]; rfl
theorem joinOk {ls : List (List Nat)} (h : ls.flatten.length ≤ 1000000) : JoinOk (tx []) (ls.map tx) = true := by
  unfold JoinOk
  have aux : ∀ (ls : List (List Nat)) (n : Nat), (ls.map tx).foldl (fun a (p : Str) => a + p.length + (tx []).length) n = n + ls.flatten.length := by
    intro ls
    induction ls with
    | nil => intro n; simp
    | cons l ls ih => intro n; rw [List.map_cons, List.foldl_cons, ih, tx_len, tx_len, List.flatten_cons, List.length_append, List.length_nil]; omega
  rw [List.foldl_toArray, aux]
  simp only [tooLong, Bool.not_eq_true', decide_eq_false_iff_not]
  have := sizeLine_eq
  omega
theorem ev_join {o e : Expr} {apos pos : Pos} {ls : List (List Nat)} (ho : Ev prog w A env o W s (isT [])) (he : Ev prog w A env e W s (isLst isT ls)) (hsz : ls.flatten.length ≤ 1000000)
    (hbase : attributeBase o "join" env (eval o env) = eval o env := by rfl) (hs : starEach [e] env = [(false, eval e env)] := by rfl) (hline : (apos.endLine == pos.line) = true := by rfl) :
    Ev prog w A env (.Call (.Attribute o "join" apos) [e] [] pos) W s (isT ls.flatten) :=
  ev_method1 ho (mono_t _) he F.plainAttrs_str F.slot_str_join F.type_str_join (fun s₁ v ⟨t, e⟩ => by subst e; exact ⟨typeIs_str _ _ _, fun _ h => nomatch h⟩) (fun s₁ v u a hw ⟨t, e⟩ ⟨ad, vs, e', l, x⟩ => by
    subst e; subst e'
    obtain ⟨l', e1, e2⟩ := strs_values x
    subst e1
    refine SC.join l.isList e2 (joinOk hsz) fun t' k => ⟨.toks, t', ?_⟩
    rw [tx_join]) hbase hs hline
end
end Mine

namespace Mine
section
variable {prog : Program} {w : World} {A : Around} {env : Env} {W M : List Addr} {s : Shared} {D D₁ D₂ : Dsc} {δ : Type} {R : δ → Dsc} {rest : List Stmt} {Q : Flow → Shared → Prop}

/-- a pair unpacked into two locals -/
theorem assign_pair {xi xc : Str} {pk pv pt : Pos} {x1 : Nat} {T : Addr} {v0 v1 : Value} {m : Str → Option Value} {Q : Unit → Shared → Prop} {E : Value → Shared → Prop} (hh : A.handled = none) (ht : s.heap.IsTuple T #[v0, v1]) (hn : s.heap.Ns env.locals m)
    (h : ∀ s', Stp [env.locals] s s' → s'.heap.Ns env.locals (fun y => if y = xc then some v1 else if y = xi then some v0 else m y) → Q () s')
    (hxi : env.kindOf xi = some .local := by rfl) (hxc : env.kindOf xc = some .local := by rfl) (hp : (env.scope.kind == .class || (env.scope.kind == .module && env.locals != env.globals)) = false := by rfl) :
    wpAny (model prog w) A (assign (.Tuple [.Name xi pk, .Name xc pv] x1 pt) env (.ref T)) Q E s := by
  refine wpAny_assign_Tuple hh ht rfl rfl fun h₃ hx₃ => ?_
  have st3 : Stp [] s { s with heap := h₃ } := .heap fun b o _ e => hx₃ b o (Nat.ne_of_lt (Heap.lt_size e)) e
  show wpAny _ A (do holding [v1] (assign (.Name xi pk) env v0); do holding [] (assign (.Name xc pv) env v1); pure ()) _ _ _
  refine wpAny_bind (wpAny_holding (wpAny_assign_Name (wpAny_storeName_local hxi (hn.keeps st3.all) (fun h₄ hn₄ hs₄ => ?_) hp)))
  refine wpAny_bind (wpAny_holding (wpAny_assign_Name (wpAny_storeName_local hxc hn₄ (fun h₅ hn₅ hs₅ => wpAny_pure ?_) hp)))
  exact h _ ((st3.of_nil.trans (.same hs₄)).trans (.same hs₅)) hn₅

/-- for i, x in enumerate(a list) -/
theorem x_enum {γ : Type} {R₀ : γ → Dsc} {xs : List γ} {fe e : Expr} {xi xc : Str} {pk pv pt cpos pos : Pos} {x1 : Nat} {body : List Stmt} (J : Nat → Heap → Prop)
    (hh : A.handled = none) (hfe : Ev prog w A env fe W s (isV (.type "enumerate"))) (h : Ev prog w A env e W s (isLst R₀ xs)) (hw : Held W s) (hMW : ∀ b ∈ M, b ∈ W) (hR₀ : ∀ d, Mono (R₀ d))
    (hJ : ∀ i h h', J i h → (∀ b ∈ M, ∀ o, h.get? b = some o → h'.get? b = some o) → J i h') (h0 : J 0 s.heap) (hL : env.locals ∈ M) (hJn : ∀ i h, J i h → ∃ m, h.Ns env.locals m)
    (turn : ∀ i d v t s₂ m, xs[i]? = some d → R₀ d (vw W s₂.heap) v → Stp M s s₂ → J i s₂.heap → s₂.heap.Ns env.locals m → ∀ s₃, Stp [env.locals] s₂ s₃ → s₃.heap.Ns env.locals (fun y => if y = xc then some v else if y = xi then some (.int (i : Nat) t) else m y) →
      Go prog w A env body (fun f s₄ => match f with
        | .next | .cont => Stp M s₂ s₄ ∧ J (i + 1) s₄.heap
        | .brk => Go prog w A env rest Q s₄
        | .ret v => Q (.ret v) s₄) s₃)
    (done : ∀ s', Stp M s s' → J xs.length s'.heap → Go prog w A env rest Q s')
    (he : eval (.Call fe [e] [] cpos) env = (do callWith cpos (← eval fe env) [] (backTo cpos (starEach [e] env)) (backToKw cpos (keywordEach [] env))) := by rfl)
    (hst : starEach [e] env = (false, eval e env) :: starEach [] env := by rfl)
    (hs : ∀ x, foldedSetIterable (.Call fe [e] [] cpos) env x = pure x := by intro _; rfl)
    (hxi : env.kindOf xi = some .local := by rfl) (hxc : env.kindOf xc = some .local := by rfl) (hp : (env.scope.kind == .class || (env.scope.kind == .module && env.locals != env.globals)) = false := by rfl) :
    Go prog w A env (.For (.Tuple [.Name xi pk, .Name xc pv] x1 pt) (.Call fe [e] [] cpos) body [] pos :: rest) Q s := by
  refine wpAny_execs_cons (wpAny_For ?_ hs)
  refine Call_ (wpAny_mono (hfe s (.refl _ _) hw) (fun v s₀ ⟨a₀, q⟩ => ?_) fun _ _ x => x) he
  cases q
  refine Pv.callWith_type1 (args_cons (wpAny_mono (h s₀ a₀ (hw.stp a₀)) (fun v s₁ ⟨b₁, d⟩ => args_nil ?_) fun _ _ x => x) hst) hst rfl
  obtain ⟨l, vs, rfl, lat, x⟩ := d
  have a := a₀.trans b₁
  have hw₁ := hw.stp a
  have hlM : l ∉ M := fun hm => lat.notin (hMW _ hm)
  obtain ⟨nn, hlo⟩ := lat.plain
  have hlt : l < s₁.heap.objs.size := Heap.lt_size hlo
  refine call_enumerate_list lat.isList (fun h' hE hI hsz hk => ?_)
  refine wpAny_pyIter_enum hE ?_
  have b : Stp [] s₁ { s₁ with heap := h' } := .heap fun b o _ e => hk b o e
  have Wk := WalksT.enumerate (prog := prog) (w := w) (A := A) hh (s₁.heap.objs.size + 1) s₁.heap.objs.size l (Nat.ne_of_gt (Nat.lt_succ_self _)) (Nat.ne_of_lt (Nat.lt_succ_of_lt hlt)) (Nat.ne_of_lt hlt) vs.toArray
  simp only [List.size_toArray, List.getElem?_toArray] at Wk
  rw [← x.length] at Wk
  generalize hfp : [s₁.heap.objs.size + 1, s₁.heap.objs.size, l] = fp at Wk
  generalize hwr : [s₁.heap.objs.size + 1, s₁.heap.objs.size] = wr at Wk
  have hfpM : ∀ c ∈ fp, c ∉ M := fun c hc hm => by
    rw [← hfp] at hc
    rcases List.mem_cons.mp hc with rfl | hc
    · exact (hw₁.sub hMW).new (Nat.le_succ _) hm
    rcases List.mem_cons.mp hc with rfl | hc
    · exact (hw₁.sub hMW).new (Nat.le_refl _) hm
    · rw [List.mem_singleton.mp hc] at hm; exact hlM hm
  have hnew : ∀ c ∈ wr, s₁.heap.get? c = none := fun c hc => by
    rw [← hwr] at hc
    rcases List.mem_cons.mp hc with rfl | hc
    · exact get_ge (Nat.le_succ _)
    · rw [List.mem_singleton.mp hc]; exact get_size _
  have hwrM : ∀ c ∈ wr, c ∉ M := fun c hc => hfpM c (Wk.sub c hc)
  generalize hSt : (fun i (h : Heap) => (∃ old, IsEnum h (s₁.heap.objs.size + 1) s₁.heap.objs.size (i : Nat) old) ∧ h.IsListIter s₁.heap.objs.size l i ∧ h.IsList l vs.toArray) = St at Wk
  have hst0 : St 0 h' := by rw [← hSt]; exact ⟨⟨_, hE⟩, hI, (lat.isList).at fun o e => hk _ o e⟩
  refine codeAny_forLoop_any (fun k s' => ∃ i, i ≤ xs.length ∧ k = xs.length - i ∧ St i s'.heap ∧ Stp M s₁ s' ∧ J i s'.heap) ?_ xs.length ⟨0, Nat.zero_le _, rfl, hst0, b.of_nil, hJ 0 _ _ h0 fun c _ o e => (a.trans b).all c o e⟩
  rintro k s' ⟨i, hi, rfl, hst', st', hj⟩
  rcases Nat.lt_or_eq_of_le hi with hlt | heq
  · refine Wk.item i s' _ _ hlt hst' (fun T vals h₁ tk ⟨t, y, hy, hv⟩ hTn hT hMid hk₁ => ?_)
    subst hv
    have stn : Stp M s₁ { s' with heap := h₁, toks := tk } := ⟨fun c o hc e => hk₁ c o (fun hm => by rw [hnew c hm] at e; cases e) (st'.keep c o hc e), st'.os, st'.bare, st'.old⟩
    refine Wk.go _ _ _ i T _ _ _ hMid (fun h₂ hst₂ hk₂ => ?_)
    have stn2 : Stp M s₁ { s' with heap := h₂, toks := tk } := ⟨fun c o hc e => hk₂ c o (fun hm => by rw [hnew c hm] at e; cases e) (stn.keep c o hc e), st'.os, st'.bare, st'.old⟩
    have hj' : J i h₂ := hJ i _ _ hj fun c hc o e => hk₂ c o (fun hm => hwrM c hm hc) (hk₁ c o (fun hm => hwrM c hm hc) e)
    obtain ⟨d, hd, r⟩ := x.getR i y hy
    obtain ⟨m, hm⟩ := hJn i h₂ hj'
    refine assign_pair hh (hT.at fun o e => hk₂ T o (Wk.apart i T h₁ hMid) e) hm (fun s₃ st₃ hn₃ => ?_) hxi hxc hp
    refine wpAny_mono (turn i d y t _ m hd (hR₀ d _ _ y (stn2.vle' hMW) r) (a.of_nil.trans stn2) hj' hm s₃ st₃ hn₃) (fun f s₄ q => ?_) fun _ _ x => x.elim
    cases f with
    | next => exact ⟨xs.length - (i + 1), by omega, i + 1, hlt, rfl, Wk.frame _ _ _ hst₂ fun c hc o e => q.1.keep c o (hfpM c hc) e, stn2.trans q.1, q.2⟩
    | cont => exact ⟨xs.length - (i + 1), by omega, i + 1, hlt, rfl, Wk.frame _ _ _ hst₂ fun c hc o e => q.1.keep c o (hfpM c hc) e, stn2.trans q.1, q.2⟩
    | brk => exact q
    | ret v => exact q
  · subst heq
    refine Wk.done s' _ _ hst' (fun h₁ tk hk₁ => wpAny_execs_nil ?_)
    refine done _ (a.of_nil.trans ⟨fun c o hc e => hk₁ c o (fun hm => by rw [hnew c hm] at e; cases e) (st'.keep c o hc e), st'.os, st'.bare, st'.old⟩) (hJ _ _ _ hj fun c hc o e => hk₁ c o (fun hm => hwrM c hm hc) e)
end
end Mine

namespace Mine
section
variable {prog : Program} {w : World} {A : Around} {R : GenEnd} {Y : Protocol} {n : Nat} {s₀ : Shared} {c : Code} {fs : List Frame} {s : Shared} {env : Env}
  {K : Flow → Sem Fin} {H : Value → Sem Fin} {gd : Bool → Bool} {lv : List Value → List Value}

theorem seg_bindW {α β : Type} {m : Sem α} {f : α → Sem β} {K : β → Sem Fin} {H : Value → Sem Fin} {gd : Bool → Bool} {lv : List Value → List Value}
    (h : wpAny (model prog w) (A.over c fs) m (fun a s' => Seg (model prog w) A R Y n s₀ c ((f a).wrap K H gd lv) fs s') NoE s) :
    Seg (model prog w) A R Y n s₀ c ((m >>= f).wrap K H gd lv) fs s := by
  rw [Sem.bind_eq_wrap', Sem.wrap_wrap]
  exact seg_wrap (wpAny_mono h (fun _ _ x => x) fun _ _ x => x.elim)

/-- a statement that yields nothing -/
theorem seg_plain {st : Stmt} {rest : List Stmt} (h : wpAny (model prog w) (A.over c fs) (exec st env) (fun f s' => f = .next ∧ Seg (model prog w) A R Y n s₀ c ((execs rest env).wrap K H gd lv) fs s') NoE s) :
    Seg (model prog w) A R Y n s₀ c ((execs (st :: rest) env).wrap K H gd lv) fs s := by
  refine seg_execs_cons (seg_wrap (wpAny_mono h (fun f s' ⟨e, x⟩ => ?_) fun _ _ x => x.elim))
  subst e; exact x
theorem seg_If {test : Expr} {body orelse : List Stmt} {pos : Pos} {b : Bool} (h : Tr prog w (A.over c fs) env test s b)
    (yes : b = true → ∀ s', Stp [] s s' → Seg (model prog w) A R Y n s₀ c ((execs body env).wrap K H gd lv) fs s')
    (no : b = false → ∀ s', Stp [] s s' → Seg (model prog w) A R Y n s₀ c ((execs orelse env).wrap K H gd lv) fs s') :
    Seg (model prog w) A R Y n s₀ c ((exec (.If test body orelse pos) env).wrap K H gd lv) fs s := by
  rw [exec_If]
  refine seg_bindW (wpAny_standAt (seg_bindW (wpAny_mono (h s (.refl _ _)) (fun b' s' ⟨a, q⟩ => ?_) fun _ _ x => x)))
  subst q
  cases b' with
  | true => rw [if_pos rfl]; exact yes rfl s' a
  | false => rw [if_neg Bool.false_ne_true]; exact no rfl s' a
/-- the frame that a for loop leaves below -/
def forFrame (env : Env) (K : Flow → Sem Fin) (H : Value → Sem Fin) (gd : Bool → Bool) (lv : List Value → List Value) (c : Code) (p : Pos) : Frame :=
  .ret (fun r => ((match r with | .ok f => (.pure f : Sem Flow) | .error e => .raise e).onRaise fun (x : Value) => do
        if (← field x 1) == Value.none then unsupported "frame.own-activation:exception-without-traceback"
        setFlight x env.frame).wrap K H gd lv) none (gd false) (lv []) c p []
theorem seg_For {target iter : Expr} {body : List Stmt} {pos : Pos}
    (h : wpAny (model prog w) (A.over c fs) (eval iter env) (fun x s₁ => wpAny (model prog w) (A.over c fs) (pyIter x) (fun it s₂ =>
      ∀ p, Seg (model prog w) A R Y n s₀ (.forLoop target it body [] env) ((model prog w).den (.forLoop target it body [] env)) (forFrame env K H gd lv c p :: fs) s₂) NoE s₁) NoE s)
    (hs : ∀ x, foldedSetIterable iter env x = pure x := by intro _; rfl) :
    Seg (model prog w) A R Y n s₀ c ((exec (.For target iter body [] pos) env).wrap K H gd lv) fs s := by
  rw [exec_For]
  refine seg_bindW (wpAny_standAt (seg_bindW (wpAny_mono h (fun x s₁ h₁ => seg_bindW (wpAny_of_eq (hs x) (seg_bindW (wpAny_standAt (seg_bindW (wpAny_holding (wpAny_mono h₁ (fun it s₂ h₂ => ?_) fun _ _ x => x))))))) fun _ _ x => x)))
  exact seg_call h₂
/-- one turn -/
theorem seg_forLoop {target : Expr} {it : Value} {body : List Stmt}
    (h : wpAny (model prog w) (A.over (.forLoop target it body [] env) fs) (pyNext it) (fun r s₁ => match r with
      | none => Seg (model prog w) A R Y n s₀ (.block [] env) (.pure (.done .next)) fs s₁
      | some v => wpAny (model prog w) (A.over (.forLoop target it body [] env) fs) (letOwnedTupleGo target it v) (fun _ s₂ => wpAny (model prog w) (A.over (.forLoop target it body [] env) fs) (assign target env v) (fun _ s₃ =>
          Seg (model prog w) A R Y n s₀ (.forLoop target it body [] env) ((execs body env).wrap (fun f => match f with
            | .next | .cont => .pure (.again (.forLoop target it body [] env))
            | .brk => .pure (.done .next)
            | .ret v => .pure (.done (.ret v))) (fun e => (do noteFrame e env; theTreesLotGoes e : Sem Unit).wrap (fun _ => .raise e) .raise id id) id id) fs s₃) NoE s₂) NoE s₁) NoE s) :
    Seg (model prog w) A R Y n s₀ (.forLoop target it body [] env) ((model prog w).den (.forLoop target it body [] env)) fs s := by
  show Seg _ A R Y n s₀ _ ((forTurn target it body [] env).onRaise (fun x => do noteFrame x env; theTreesLotGoes x)) fs s
  unfold forTurn
  rw [Sem.onRaise_eq_wrap]
  refine seg_bindW (wpAny_standAt (seg_bindW (wpAny_onRaise (wpAny_mono h (fun r s₁ h₁ => ?_) fun _ _ x => x.elim))))
  cases r with
  | none =>
    show Seg _ A R Y n s₀ _ (.pure (.again (.block [] env))) fs s₁
    exact seg_again rfl h₁
  | some v =>
    refine seg_bindW (wpAny_mono h₁ (fun _ s₂ h₂ => seg_bindW (wpAny_mono h₂ (fun _ s₃ h₃ => ?_) fun _ _ x => x)) fun _ _ x => x)
    rw [Sem.bind_eq_wrap', Sem.wrap_wrap]
    rw [Sem.wrap_congr (execs body env) _ _ (K' := fun f => match f with
            | .next | .cont => .pure (.again (.forLoop target it body [] env))
            | .brk => .pure (.done .next)
            | .ret v => .pure (.done (.ret v))) (H' := (fun e => (do noteFrame e env; theTreesLotGoes e : Sem Unit).wrap (fun _ => .raise e) .raise id id))
        (fun f => by cases f <;> rfl)
        (fun e => by first | exact Sem.bind_eq_wrap _ _ | (show (do noteFrame e env; theTreesLotGoes e : Sem Unit).bind (fun _ => .raise e) = _; rw [Sem.bind_eq_wrap]))]
    exact h₃
end
end Mine

namespace Mine
/-- small data -/
inductive Dt where
  | i (n : Int)
  | t (l : List Nat)
  | n
def isD : Dt → Dsc
  | .i n => isInt n
  | .t l => isT l
  | .n => isV .none
theorem mono_d : ∀ d, Mono (isD d)
  | .i n => mono_int n
  | .t l => mono_t l
  | .n => mono_v _

theorem all2_two {α β : Type} {R : α → β → Prop} {a b : α} {vs : List β} (h : All2 R [a, b] vs) : ∃ u v, vs = [u, v] ∧ R a u ∧ R b v := by
  cases h with
  | cons x h => cases h with
    | cons y h => cases h with
      | nil => exact ⟨_, _, rfl, x, y⟩
theorem sl {n : Nat} (h : n ≤ 1000000) : n ≤ sizeLine := by have := sizeLine_eq; omega
theorem sl' {n : Nat} (h : Nat.ble n 1000000 = true) : n ≤ sizeLine := sl (Nat.le_of_ble_eq_true h)

/-- what the generator yields of a text, from place p on -/
def esc : Nat → Bool → List Nat → List (Nat × List Nat)
  | p, true, [] => [(p - 1, [92])]
  | _, false, [] => []
  | p, true, c :: r => (p, [92, c]) :: esc (p + 1) false r
  | p, false, c :: r => if c = 92 then esc (p + 1) true r else (p, [c]) :: esc (p + 1) false r

theorem item_at {α : Type} {items pre r : List α} {x : α} (h : items = pre ++ x :: r) : items[items.length - 1 - r.length]? = some x ∧ r.length < items.length := by
  subst h
  have e : (pre ++ x :: r).length - 1 - r.length = pre.length := by simp only [List.length_append, List.length_cons]; omega
  rw [e]
  refine ⟨by simp, ?_⟩
  simp only [List.length_append, List.length_cons]; omega

/-- the generator's own steps: what stood at sc, and a, stay -/
structure Priv (sc : Shared) (a : Addr) (s s' : Shared) : Prop where
  keep : ∀ b o, ((∃ o', sc.heap.get? b = some o') ∨ b = a) → s.heap.get? b = some o → s'.heap.get? b = some o
  os : s'.os = s.os
  bare : AllBare s.gens → AllBare s'.gens
  old : ∀ i, i < s.gens.size → s'.gens[i]? = s.gens[i]?
theorem Priv.refl (sc : Shared) (a : Addr) (s : Shared) : Priv sc a s s := ⟨fun _ _ _ e => e, rfl, fun h => h, fun _ _ => rfl⟩
theorem Priv.step {sc : Shared} {a : Addr} {s₀ s s' : Shared} {W : List Addr} (p : Priv sc a s₀ s) (st : Stp W s s') (hW : ∀ b ∈ W, sc.heap.get? b = none ∧ b ≠ a) : Priv sc a s₀ s' :=
  ⟨fun b o h e => st.keep b o (fun hm => by
      rcases h with ⟨o', h⟩ | h
      · rw [(hW b hm).1] at h; cases h
      · exact (hW b hm).2 h) (p.keep b o h e), st.os.trans p.os, fun h => st.bare (p.bare h), fun i hi => by
    have h1 := p.old i hi
    have h2 : i < s.gens.size := by
      rw [Array.getElem?_eq_getElem hi] at h1
      exact (Array.getElem?_eq_some_iff.mp h1).1
    exact (st.old i h2).trans h1⟩
/-- the other's steps: what did not stand at sc stays -/
def Cons (sc s s' : Shared) : Prop := ∀ b o, sc.heap.get? b = none → s.heap.get? b = some o → s'.heap.get? b = some o
def YY (sc : Shared) (a : Addr) (items : List (Nat × List Nat)) : Protocol := fun n s₀ v s₁ kap =>
  (∃ p k T t u, items[items.length - 1 - n]? = some (p, k) ∧ n < items.length ∧ v = .ref T ∧ s₁.heap.IsTuple T #[.int (p : Nat) t, .str (tx k) u]) ∧ Priv sc a s₀ s₁ ∧ ∀ s'', Cons sc s₁ s'' → kap (.send .none) s''
def PP (sc : Shared) (a : Addr) : Nat → Shared → Shared → Prop := fun n s₀ s₁ => n = 0 ∧ Priv sc a s₀ s₁
def RE (sc : Shared) (a : Addr) : GenEnd := fun n s₀ r s₁ => r = .ok (.ret .none) ∧ PP sc a n s₀ s₁

section
variable {prog : Program} {w : World} {A : Around} {E : Value → Shared → Prop} {s : Shared}
/-- next of a generator function's generator, with what is known of its state behind -/
theorem next_gen {a : Addr} {g n : Nat} {gs : GenState} {P : Nat → Shared → Shared → Prop} {Y : Protocol} {Q : Option Value → Shared → Prop} (hh : A.handled = none)
    (hl : s.heap.NoLimit) (hroom : A.depth < recursionLimit) (hg : s.heap.IsGen a g) (hgs : s.gens[g]? = some gs)
    (hgo : gs.Goes (model prog w) A.in1 (fun n s₀ r s₁ => r = .ok (.ret .none) ∧ P n s₀ s₁) Y n (.send .none) (s.setGen g .running))
    (hY : ∀ v s₁ gs', gs'.bare = true → Y (n - 1) (s.setGen g .running) v s₁ (fun r' s'' => match n with
        | 0 => False
        | m + 1 => gs'.Goes (model prog w) A.in1 (fun n s₀ r s₁ => r = .ok (.ret .none) ∧ P n s₀ s₁) Y m r' s'') → Q (some v) (s₁.setGen g gs'))
    (hP : ∀ s₁, P n (s.setGen g .running) s₁ → ∀ h', (∀ b o, s₁.heap.get? b = some o → h'.get? b = some o) → Q none { s₁.setGen g .finished with heap := h' }) :
    wpAny (model prog w) A (pyNext (.ref a)) Q E s := by
  unfold pyNext
  refine wpAny_bind (wpAny_attempt (wpAny_callSpecial?_slot (name := Str.ofString "__next__") hg.typeIs slot_gen_next
    (wpAny_call_entry slot_gen_next hg.typeIs entry_gen_next ?_ (args_gen_next _))))
  show wpAny _ A.in1 (Builtin.Generator.genWake (.ref a) (.send .none)) _ _ s
  unfold Builtin.Generator.genWake
  refine wpAny_bind (wpAny_holding (wpAny_genNumber hg (wpAny_bind (wpAny_genState hgs ?_))))
  cases gs with
  | running => exact hgo.elim
  | finished => exact hgo.elim
  | _ =>
    refine wpAny_bind (wpAny_roomToWake hl hroom ?_)
    show wpAny _ A.in1 (.resume g (.send .none) [] _) _ _ s
    refine wpAny_resumeQ hgs hgo (fun x s₁ hx => ?_) (fun v s₁ gs' hb hv => ?_)
    · obtain ⟨rfl, hp⟩ := hx
      show wpAny _ A.in1 (newExc (.type "StopIteration") [] >>= _) _ _ _
      refine wpAny_bind ?_
      simp only [newExc, newTuple]
      refine wpAny_bind (wpAny_newObj_type ?_ (by size_fits))
      refine wpAny_bind (m := firstArgMember _ _) (wpAny_of_eq (a := Value.none) (by first | rfl | (simp only [firstArgMember]; rfl)) ?_)
      refine wpAny_newObj_type ?_ (by size_fits)
      simp only [raiseNew]
      refine wpAny_bind (wpAny_bind (wpAny_handled ?_))
      first | rw [show A.in1.handled = none from hh] | rw [hh]
      refine wpAny_throw ?_
      refine wpAny_bind (wpAny_isInstance (T := "StopIteration") (b := true) ⟨_, Heap.get?_push_size _ rfl, rfl⟩ isSubtype_stop ?_)
      exact wpAny_pure (hP s₁ hp _ fun b o hb => Heap.get?_push_of_some _ (Heap.get?_push_of_some _ hb))
    · exact wpAny_pure ⟨v, rfl, wpAny_pure (hY v s₁ gs' hb hv)⟩
/-- the loop of the generator, by the text's places -/
theorem gen_loop {R : GenEnd} {Y : Protocol} {target it : _} {body : List Stmt} {env : Env} {fs : List Frame} (l : List Nat) (Inv : Nat → Bool → Shared → Shared → Prop)
    (step : ∀ i b s₀ s, i ≤ l.length → Inv i b s₀ s →
      (∀ b' s₀' s', i < l.length → Inv (i + 1) b' s₀' s' → Seg (model prog w) A R Y (esc (i + 1) b' (l.drop (i + 1))).length s₀' (.forLoop target it body [] env) ((model prog w).den (.forLoop target it body [] env)) fs s') →
      Seg (model prog w) A R Y (esc i b (l.drop i)).length s₀ (.forLoop target it body [] env) ((model prog w).den (.forLoop target it body [] env)) fs s) :
    ∀ k i b s₀ s, k = l.length - i → i ≤ l.length → Inv i b s₀ s → Seg (model prog w) A R Y (esc i b (l.drop i)).length s₀ (.forLoop target it body [] env) ((model prog w).den (.forLoop target it body [] env)) fs s := by
  intro k
  induction k with
  | zero => intro i b s₀ s hk hi h; exact step i b s₀ s hi h fun b' s₀' s' hlt _ => by omega
  | succ k ih => intro i b s₀ s hk hi h; exact step i b s₀ s hi h fun b' s₀' s' hlt h' => ih (i + 1) b' s₀' s' (by omega) hlt h'
end
end Mine

namespace Mine
set_option maxRecDepth 100000 in
set_option maxHeartbeats 8000000 in
open_top hd for PySem.Challenge.rw_ny0046_02
end Mine

namespace Mine
noncomputable abbrev KK (w : World) : Frag := hd.heap_39 w.params
abbrev PG : Program := PySem.Challenge.rw_ny0046_02.row.prog
theorem glob_of {K : Frag} {mg mb : Str → Option Value} {h : Heap} (X : Wld K mg mb h) {o : Obj} {es : Array DictEntry} {n : Nat} (e : K.lookup 3 = some o) (hd : o.data = .dict es n) (x : Str) : mg x = nsFind es x := by
  obtain ⟨o', es', n', h1, h2, _, h3⟩ := X.g
  have h4 := X.kin 3 o e
  rw [show mainGlobals = 3 from rfl, h4] at h1
  cases h1
  rw [hd] at h2
  cases h2
  exact (h3 x).symm
/-- the world of this claim -/
structure Wd (w : World) (mg mb : Str → Option Value) (h : Heap) : Prop extends Wld (KK w) mg mb h where
  bt : ∀ x : Str, x ≠ "__name__" → mb x = bootBuiltins x
theorem Wd.stp {w : World} {mg mb : Str → Option Value} {s s' : Shared} (h : Wd w mg mb s.heap) (a : Stp [] s s') : Wd w mg mb s'.heap := ⟨h.toWld.stp a, h.bt⟩

section
variable {w : World} {mg mb : Str → Option Value} {h : Heap}
theorem b_len (X : Wd w mg mb h) : mg "len" = none ∧ mb "len" = some (.builtin "len") := ⟨(glob_of X.toWld rfl rfl _).trans rfl, (X.bt _ (by decide)).trans (by decide +kernel)⟩
end
end Mine

namespace Mine
section
variable {prog : Program} {w : World} {A : Around} {env : Env} {W : List Addr} {s : Shared} {D : Dsc}
theorem e_assign {e : Expr} {x : Str} {p pos : Pos} {m : Str → Option Value} {Post : Shared → Prop} (h : Ev prog w A env e W s D) (hw : Held W s) (hn : s.heap.Ns env.locals m) (hL : env.locals ∈ W) (hm : Mono D)
    (next : ∀ v s', Stp [env.locals] s s' → D (vw W s'.heap) v → s'.heap.Ns env.locals (fun y => if y = x then some v else m y) → Post s')
    (hk : env.kindOf x = some .local := by rfl) (hp : (env.scope.kind == .class || (env.scope.kind == .module && env.locals != env.globals)) = false := by rfl)
    (hsw : swapsWith e (some (Expr.Name x p)) pos.line env = pure false := by rfl) : wpAny (model prog w) A (exec (.Assign [.Name x p] e pos) env) (fun f s' => f = .next ∧ Post s') NoE s :=
  wpAny_Assign_Name (wpAny_mono (h.at hw) (fun v s₁ ⟨a, d⟩ => wpAny_storeName_local hk (hn.keeps a.all) (fun h' hn' hs => by
    have st : Stp [env.locals] s₁ { s₁ with heap := h', toks := s₁.toks + 1 } := .same hs
    exact ⟨rfl, next v _ (a.of_nil.trans st) (hm _ _ _ (st.vle' fun b hb => by rw [List.mem_singleton.mp hb]; exact hL) d) hn'⟩) hp) fun _ _ x => x) hsw
end
section
variable {w : World} {mg mb : Str → Option Value} {s : Shared} {A : Around} {W : List Addr} {k : Nat}
theorem b_enum {h : Heap} (X : Wd w mg mb h) : mg "enumerate" = none ∧ mb "enumerate" = some (.type "enumerate") := ⟨(glob_of X.toWld rfl rfl _).trans rfl, (X.bt _ (by decide)).trans (by decide +kernel)⟩
set_option maxHeartbeats 2000000 in
theorem gen_call (X : Wd w mg mb s.heap) (hA : AOk (k + 2) A) {l : List Nat} {t : Tok} (hasc : ∀ c ∈ l, c < 128) (hlen : l.length ≤ 1000) :
    wpAny (model PG w) A (call (.ref 21) [.str (tx l) t]) (fun v s' => Stp [] s s' ∧ ∃ a, v = .ref a ∧ s.heap.get? a = none ∧ s'.heap.IsGen a s.gens.size ∧ ∃ gs, gs.bare = true ∧ s'.gens[s.gens.size]? = some gs ∧ s'.gens.size = s.gens.size + 1 ∧
      ∀ s'', Cons s s' s'' → Wd w mg mb s''.heap → gs.Goes (model PG w) A.in1 (RE s a) (YY s a (esc 0 false l)) (esc 0 false l).length (.send .none) s'') NoE s := by
  refine wpAny_call (codeAny_call_generator hA.room (X.kin 21 _ rfl) rfl rfl rfl rfl (codeRec_of X.kin (by rfl)) (BindsTo.of_eq (binds := [("addr", .str (tx l) t)]) rfl _ _ _ _ ?_))
  refine wpAny_newFunctionEnv (by decide) (locs (by rfl)) (fun h₁ hns hsb => ?_) rfl
  have st1 : Stp [] s { s with heap := h₁, toks := s.toks + 1 } := .heap fun b o _ e => hsb.extBut b o (Nat.ne_of_lt (Heap.lt_size e)) (Heap.get?_push_of_some _ e)
  have hsz1 : h₁.objs.size = s.heap.objs.size + 1 := by rw [hsb.1, Heap.size_push]
  refine ⟨X.nl.keeps st1.all, ?_⟩
  refine ⟨?_, h₁.objs.size, rfl, get_ge (by omega), ⟨_, _, _, Heap.get?_push_size _ rfl, rfl, rfl, rfl⟩, _, rfl, Array.getElem?_push_size .., by simp, ?_⟩
  · exact ⟨fun b o _ e => Heap.get?_push_of_some _ (st1.all b o e), rfl, fun h => h.push rfl, fun i hi => by simp [Array.getElem?_push, Nat.ne_of_lt hi]⟩
  intro s'' hcons X''
  refine ⟨rfl, seg_func ?_⟩
  have hL : s.heap.get? s.heap.objs.size = none := get_size _
  have ha : h₁.objs.size ≠ s.heap.objs.size := by rw [hsz1]; exact Nat.ne_of_gt (Nat.lt_succ_self _)
  have hnsS : s''.heap.Ns s.heap.objs.size (fun x => [((Str.ofString "addr"), Value.str (tx l) t)].reverse.lookup x) := by
    obtain ⟨o, es, ep, ho, r⟩ := hns
    exact ⟨o, es, ep, hcons _ o hL (Heap.get?_push_of_some _ ho), r⟩
  have hgS : ∃ o, s''.heap.get? h₁.objs.size = some o := ⟨_, hcons _ _ (get_ge (by omega)) (Heap.get?_push_size _ rfl)⟩
  clear hcons
  have hloc : ∀ {sx : Shared} {m : Str → Option Value}, sx.heap.Ns s.heap.objs.size m → Held [s.heap.objs.size] sx := fun {sx m} h => by
    obtain ⟨o, _, _, ho, _⟩ := h; exact .cons ho (held_nil _)
  refine seg_plain (e_assign (W := [s.heap.objs.size]) (ev_int 0) (hloc hnsS) hnsS (.head _) (mono_int 0) (fun v s₁ st₁ d₁ hn₁ => ?_))
  refine seg_plain (e_assign (W := [s.heap.objs.size]) (ev_bool false) (hloc hn₁) hn₁ (.head _) (mono_v _) (fun v₂ s₂ st₂ d₂ hn₂ => ?_))
  cases d₂
  have st02 : Stp [s.heap.objs.size] s'' s₂ := st₁.trans st₂
  have kold : ∀ {b : Addr} {o o' : Obj}, s.heap.get? b = some o' → s''.heap.get? b = some o → s₂.heap.get? b = some o := fun {b o o'} e e' => st02.keep b o (fun hm => by rw [List.mem_singleton.mp hm] at e; rw [hL] at e; cases e) e'
  have hg₂ : s₂.heap.Ns mainGlobals mg := by obtain ⟨o', _, _, ho', _⟩ := X.g; exact X''.g.at' fun o e => kold ho' e
  have hb₂ : s₂.heap.Ns builtinsNs mb := by obtain ⟨o', _, _, ho', _⟩ := X.b; exact X''.b.at' fun o e => kold ho' e
  have hga₂ : ∃ o, s₂.heap.get? h₁.objs.size = some o := by
    obtain ⟨o, e⟩ := hgS
    exact ⟨o, st02.keep _ o (fun hm => ha (List.mem_singleton.mp hm)) e⟩
  have haL : h₁.objs.size < s₂.heap.objs.size := by obtain ⟨o, e⟩ := hga₂; exact Heap.lt_size e
  have hLlt : s.heap.objs.size < s₂.heap.objs.size := hn₂.lt
  have pr02 : Priv s h₁.objs.size s'' s₂ := (Priv.refl _ _ _).step st02 (fun b hb => by rw [List.mem_singleton.mp hb]; exact ⟨hL, Ne.symm ha⟩)
  refine seg_execs_cons (seg_For ?_)
  refine Call_ (wpAny_mono ((ev_builtin (W := []) hg₂ (b_enum X).1 hb₂ (b_enum X).2) s₂ (.refl _ _) (held_nil _)) (fun f s₃ ⟨st₃, q⟩ => ?_) fun _ _ x => x)
  cases q
  refine Pv.callWith_type1 (args_cons (wpAny_mono ((ev_local (W := []) (D := isV (.str (tx l) t)) (hn₂.keeps st₃.all) rfl rfl (mono_v _)) s₃ (.refl _ _) (held_nil _)) (fun v s₄ ⟨st₄, q⟩ => args_nil ?_) fun _ _ x => x))
  cases q
  refine call_enumerate_str (fun h₅ hE hI hsz₅ hk₅ => wpAny_pyIter_enum hE (fun p => ?_))
  have st24 : Stp [] s₂ s₄ := st₃.trans st₄
  have hn₄ := hn₂.keeps st24.all
  have hLlt4 : s.heap.objs.size < s₄.heap.objs.size := hn₄.lt
  have haL4 : h₁.objs.size < s₄.heap.objs.size := by obtain ⟨o, e⟩ := hga₂; exact Heap.lt_size (st24.all _ _ e)
  have st45 : Stp [] s₄ { s₄ with heap := h₅ } := .heap fun b o _ e => hk₅ b o e
  have hit : strIterType (tx l) = "str_ascii_iterator" := by
    unfold strIterType
    rw [if_pos]
    show (l.toArray.all fun x => decide (x < 128)) = true
    simp only [List.all_toArray, List.all_eq_true, decide_eq_true_eq]
    exact hasc
  rw [hit] at hI
  -- the four addresses
  generalize he : s₄.heap.objs.size + 1 = e at hE ⊢
  generalize hi : s₄.heap.objs.size = it at hE hI hLlt4 haL4
  have hne : e ≠ it := by rw [← he, hi]; exact Nat.ne_of_gt (Nat.lt_succ_self _)
  have heL : e ≠ s.heap.objs.size := by rw [← he, hi]; exact Nat.ne_of_gt (Nat.lt_succ_of_lt hLlt4)
  have hiL : it ≠ s.heap.objs.size := Nat.ne_of_gt hLlt4
  have hea : e ≠ h₁.objs.size := by rw [← he, hi]; exact Nat.ne_of_gt (Nat.lt_succ_of_lt haL4)
  have hia : it ≠ h₁.objs.size := Nat.ne_of_gt haL4
  have hes : s.heap.get? e = none := get_ge (by rw [← he, hi]; exact Nat.le_of_lt (Nat.lt_succ_of_lt hLlt4))
  have his : s.heap.get? it = none := get_ge (Nat.le_of_lt hLlt4)
  have hown : ∀ b ∈ [s.heap.objs.size, e, it], s.heap.get? b = none ∧ b ≠ h₁.objs.size := fun b hb => by
    rcases List.mem_cons.mp hb with rfl | hb
    · exact ⟨hL, Ne.symm ha⟩
    rcases List.mem_cons.mp hb with rfl | hb
    · exact ⟨hes, hea⟩
    · rw [List.mem_singleton.mp hb]; exact ⟨his, hia⟩
  clear he hi
  have hn₅ : h₅.Ns s.heap.objs.size _ := hn₄.keeps fun b o e => hk₅ b o e
  have pr05 : Priv s h₁.objs.size s'' { s₄ with heap := h₅ } := (pr02.step st24 (fun b hb => nomatch hb)).step st45 (fun b hb => nomatch hb)
  -- the loop
  refine gen_loop l (fun i b s₀ s₁ => ∃ m pre, s₁.heap.Ns s.heap.objs.size m ∧ m "escape" = some (.bool b) ∧ (0 < i → ∃ t, m "pos" = some (.int ((i - 1 : Nat) : Int) t)) ∧ (b = true → 0 < i) ∧
    ((∃ old, IsEnum s₁.heap e it (i : Nat) old) ∧ s₁.heap.IsStrIter it "str_ascii_iterator" (tx l) t i) ∧ Priv s h₁.objs.size s₀ s₁ ∧ esc 0 false l = pre ++ esc i b (l.drop i)) ?_ l.length 0 false _ _ (by omega) (Nat.zero_le _) ?_
  rotate_left
  · exact ⟨_, [], hn₅, rfl, (fun h => absurd h (Nat.lt_irrefl _)), (fun h => nomatch h), ⟨⟨_, hE⟩, hI⟩, pr05, rfl⟩
  have hh6 : ∀ c env K H gd lv c', (A.in1.over c [forFrame env K H gd lv c' p]).handled = none := fun c env K H gd lv c' => by
    show (marksOver [_] (A.handled, A.handled)).1 = none
    rw [hA.hd]; rfl
  have Wk : ∀ A' : Around, A'.handled = none → WalksT PG w A' e [e, it] [e, it] l.length (fun i vals => ∃ t x, (∃ c u, l[i]? = some c ∧ x = .str (tx [c]) u) ∧ vals = #[.int (i : Nat) t, x])
      (fun i h => (∃ old, IsEnum h e it (i : Nat) old) ∧ h.IsStrIter it "str_ascii_iterator" (tx l) t i) (fun i T h => (∃ x, IsEnumOut h e it ((i : Int) + 1) x T) ∧ h.IsStrIter it "str_ascii_iterator" (tx l) t (i + 1) ∧ T ≠ e ∧ T ≠ it) := fun A' hA' => by
    have W0 := WalksT.enumerateD (Draws.strAscii (prog := PG) (w := w) (A := A'.in1) hA' it (tx l) t) e hne (fun hm => hne (List.mem_singleton.mp hm)) (.head _)
    have e1 : (tx l).cps.size = l.length := by show l.toArray.size = _; simp
    have e2 : ∀ i : Nat, (tx l).cps[i]? = l[i]? := fun i => by show l.toArray[i]? = _; simp
    rw [e1] at W0
    simp only [e2] at W0
    exact W0
  have keepSt : ∀ {j : Nat} {sx sy : Shared}, Stp [s.heap.objs.size] sx sy → ((∃ old, IsEnum sx.heap e it (j : Nat) old) ∧ sx.heap.IsStrIter it "str_ascii_iterator" (tx l) t j) → ((∃ old, IsEnum sy.heap e it (j : Nat) old) ∧ sy.heap.IsStrIter it "str_ascii_iterator" (tx l) t j) := fun {j sx sy} st h =>
    (Wk ({} : Around) rfl).frame j sx.heap sy.heap h fun b hb o q => st.keep b o (fun hm => by
      rw [List.mem_singleton.mp hm] at hb
      rcases List.mem_cons.mp hb with h | h
      · exact heL h.symm
      · exact hiL (List.mem_singleton.mp h).symm) q
  have hownL : ∀ b ∈ [s.heap.objs.size], s.heap.get? b = none ∧ b ≠ h₁.objs.size := fun b hb => by rw [List.mem_singleton.mp hb]; exact ⟨hL, Ne.symm ha⟩
  intro i b s₀ s₆ hi ⟨m, pre, hm, hesc, hpos, hb0, hst, hpr, hsuf⟩ IH
  refine seg_forLoop ?_
  rcases Nat.lt_or_eq_of_le hi with hlt | heq
  · refine (Wk _ (hh6 _ _ _ _ _ _ _)).item i s₆ _ _ hlt hst (fun T vals h₇ tk hv hTn hT hMid hk₇ => ?_)
    obtain ⟨t₇, x, ⟨c, u, hc, rfl⟩, rfl⟩ := hv
    refine (Wk _ (hh6 _ _ _ _ _ _ _)).go _ _ _ i T _ _ _ hMid (fun h₈ hst₈ hk₈ => ?_)
    have st68 : Stp [s.heap.objs.size, e, it] s₆ { s₆ with heap := h₈, toks := tk } := .heap fun b o hb e => hk₈ b o (fun hm => hb (.tail _ hm)) (hk₇ b o (fun hm => hb (.tail _ hm)) e)
    have hm8 : h₈.Ns s.heap.objs.size m := hm.at' fun o e => hk₈ _ o (by simp [Ne.symm heL, Ne.symm hiL]) (hk₇ _ o (by simp [Ne.symm heL, Ne.symm hiL]) e)
    refine assign_pair (hh6 _ _ _ _ _ _ _) (hT.at fun o e => hk₈ T o ((Wk _ (hh6 default default default default default default default)).apart i T h₇ hMid) e) hm8 (fun s₉ st₉ hn₉ => ?_)
    have st₉' : Stp [s.heap.objs.size] { s₆ with heap := h₈, toks := tk } s₉ := st₉
    have st69 : Stp [s.heap.objs.size, e, it] s₆ s₉ := st68.trans (st₉'.weaken fun b hb => by rw [List.mem_singleton.mp hb]; exact .head _)
    have hst9 := (Wk ({} : Around) rfl).frame (i + 1) h₈ s₉.heap hst₈ (fun b hb o e => st₉'.keep b o (fun hm => by
      rw [List.mem_singleton.mp hm] at hb
      rcases List.mem_cons.mp hb with h | h
      · exact heL h.symm
      · exact hiL (List.mem_singleton.mp h).symm) e)
    have hpr9 : Priv s h₁.objs.size s₀ s₉ := hpr.step st69 hown
    have hdrop : l.drop i = c :: l.drop (i + 1) := by
      obtain ⟨h1, h2⟩ := List.getElem?_eq_some_iff.mp hc
      rw [List.drop_eq_getElem_cons h1, h2]
    have hn9 : s₉.heap.Ns s.heap.objs.size (fun y => if y = (Str.ofString "ch") then some (Value.str (tx [c]) u) else if y = (Str.ofString "pos") then some (.int (i : Nat) t₇) else m y) := hn₉
    clear hn₉ st₉ hk₇ hk₈ hm8
    -- behind a yield: what is left of the turn's facts
    have behind : ∀ {sx sy : Shared}, Stp [] s₉ sx → Cons s sx sy → sy.heap.Ns s.heap.objs.size (fun y => if y = (Str.ofString "ch") then some (Value.str (tx [c]) u) else if y = (Str.ofString "pos") then some (.int (i : Nat) t₇) else m y) ∧
        ((∃ old, IsEnum sy.heap e it ((i + 1 : Nat) : Int) old) ∧ sy.heap.IsStrIter it "str_ascii_iterator" (tx l) t (i + 1)) := fun {sx sy} hx hy =>
      ⟨(hn9.keeps hx.all).at' fun o q => hy _ o hL q, (Wk ({} : Around) rfl).frame (i + 1) s₉.heap sy.heap hst9 fun b hb o q => hy b o (hown b (.tail _ hb)).1 (hx.all b o q)⟩
    refine seg_execs_cons (seg_If (b := b) (tr_plain (ev_local (D := isV (.bool b)) hn9 (by show (if _ then _ else _) = _; rw [if_neg (by decide), if_neg (by decide)]; exact hesc) rfl (mono_v _))) (fun hb s₁₀ st₁₀ => ?_) (fun hb s₁₀ st₁₀ => ?_))
    · subst hb
      have hes : esc i true (l.drop i) = (i, [92, c]) :: esc (i + 1) false (l.drop (i + 1)) := by rw [hdrop]; rfl
      rw [show (esc i true (l.drop i)).length = (esc (i + 1) false (l.drop (i + 1))).length + 1 from by rw [hes]; rfl]
      rw [hes] at hsuf
      refine seg_execs_cons (seg_Expr_Yield rfl rfl rfl ?_)
      refine wpAny_mono ((ev_tuple (W := []) (R := isD) (ds := [.i (i : Nat), .t [92, c]]) (evAll_cons2 (ev_local (hn9.keeps st₁₀.all) rfl ⟨t₇, rfl⟩ (mono_int _)) (mono_d (.i _)) (evAll_cons2 (ev_catT (x := [92]) (y := [c]) (sl' rfl) (ev_t [92] rfl) (ev_local (hn9.keeps st₁₀.all) rfl ⟨u, rfl⟩ (mono_t _))) (mono_d (.t _)) evAll_nil2)) mono_d (sl' rfl)).at (held_nil _)) (fun v s₁₁ hv kap hkap => ?_) fun _ _ x => x.elim
      obtain ⟨st₁₁, ⟨T', vs, rfl, tat, x⟩, _⟩ := hv
      obtain ⟨_, _, rfl, ⟨tt, rfl⟩, ⟨tu, rfl⟩⟩ := all2_two x
      have stx : Stp [] s₉ s₁₁ := st₁₀.trans st₁₁
      refine ⟨⟨i, [92, c], T', tt, tu, (item_at hsuf).1, (item_at hsuf).2, rfl, tat.isTuple⟩, hpr9.step stx (fun b hb => nomatch hb), fun sy hy => hkap .none sy ?_⟩
      obtain ⟨hnS, hstS⟩ := behind stx hy
      refine seg_plain (e_assign (W := [s.heap.objs.size]) (ev_bool false) (hloc hnS) hnS (.head _) (mono_v _) (fun v s₁₂ st₁₂ d hn₁₂ => ?_))
      cases d
      refine seg_execs_nil (seg_execs_nil (seg_again rfl (IH false sy s₁₂ hlt ⟨_, pre ++ [(i, [92, c])], hn₁₂, rfl, fun _ => ⟨t₇, rfl⟩, (fun h => nomatch h), ?_, ?_, by rw [hsuf]; simp⟩)))
      · exact keepSt st₁₂ hstS
      · exact (Priv.refl _ _ _).step (W := [s.heap.objs.size]) st₁₂ hownL
    · subst hb
      refine seg_execs_cons (seg_If (b := ([c] == [92])) (tr_cmp (W := []) (ev_local (hn9.keeps st₁₀.all) rfl ⟨u, rfl⟩ (mono_t _)) (ev_t [92] rfl) (mono_t _) c_eqT (held_nil _)) (fun hq s₁₁ st₁₁ => ?_) (fun hq s₁₁ st₁₁ => ?_))
      · have hc92 : c = 92 := by simpa using hq
        subst hc92
        have hes : esc i false (l.drop i) = esc (i + 1) true (l.drop (i + 1)) := by rw [hdrop]; rfl
        rw [hes] at hsuf ⊢
        have stx : Stp [] s₉ s₁₁ := st₁₀.trans st₁₁
        have hn11 := hn9.keeps stx.all
        refine seg_plain (e_assign (W := [s.heap.objs.size]) (ev_bool true) (hloc hn11) hn11 (.head _) (mono_v _) (fun v s₁₂ st₁₂ d hn₁₂ => ?_))
        cases d
        refine seg_execs_nil (seg_execs_nil (seg_execs_nil (seg_again rfl (IH true s₀ s₁₂ hlt ⟨_, pre, hn₁₂, rfl, fun _ => ⟨t₇, rfl⟩, (fun _ => Nat.succ_pos _), ?_, ?_, hsuf⟩))))
        · exact keepSt st₁₂ ((Wk ({} : Around) rfl).frame (i + 1) s₉.heap s₁₁.heap hst9 fun b _ o q => stx.all b o q)
        · exact (hpr9.step stx (fun b hb => nomatch hb)).step (W := [s.heap.objs.size]) st₁₂ hownL
      · have hc92 : c ≠ 92 := by simpa using hq
        have hes : esc i false (l.drop i) = (i, [c]) :: esc (i + 1) false (l.drop (i + 1)) := by rw [hdrop]; simp only [esc]; rw [if_neg hc92]
        rw [show (esc i false (l.drop i)).length = (esc (i + 1) false (l.drop (i + 1))).length + 1 from by rw [hes]; rfl]
        rw [hes] at hsuf
        have stx : Stp [] s₉ s₁₁ := st₁₀.trans st₁₁
        have hn11 := hn9.keeps stx.all
        refine seg_execs_cons (seg_Expr_Yield rfl rfl rfl ?_)
        refine wpAny_mono ((ev_tuple (W := []) (R := isD) (ds := [.i (i : Nat), .t [c]]) (evAll_cons2 (ev_local hn11 rfl ⟨t₇, rfl⟩ (mono_int _)) (mono_d (.i _)) (evAll_cons2 (ev_local hn11 rfl ⟨u, rfl⟩ (mono_t _)) (mono_d (.t _)) evAll_nil2)) mono_d (sl' rfl)).at (held_nil _)) (fun v s₁₂ hv kap hkap => ?_) fun _ _ x => x.elim
        obtain ⟨st₁₂, ⟨T', vs, rfl, tat, x⟩, _⟩ := hv
        obtain ⟨_, _, rfl, ⟨tt, rfl⟩, ⟨tu, rfl⟩⟩ := all2_two x
        have sty : Stp [] s₉ s₁₂ := stx.trans st₁₂
        refine ⟨⟨i, [c], T', tt, tu, (item_at hsuf).1, (item_at hsuf).2, rfl, tat.isTuple⟩, hpr9.step sty (fun b hb => nomatch hb), fun sy hy => hkap .none sy ?_⟩
        obtain ⟨hnS, hstS⟩ := behind sty hy
        refine seg_execs_nil (seg_execs_nil (seg_execs_nil (seg_again rfl (IH false sy sy hlt ⟨_, pre ++ [(i, [c])], hnS, ?_, fun _ => ⟨t₇, rfl⟩, (fun h => nomatch h), hstS, Priv.refl _ _ _, by rw [hsuf]; simp⟩))))
        show (if _ then _ else _) = _
        rw [if_neg (by decide), if_neg (by decide)]; exact hesc
  · subst heq
    refine (Wk _ (hh6 _ _ _ _ _ _ _)).done s₆ _ _ hst (fun h₇ tk hk₇ => ?_)
    refine seg_leaf (.ok .next) ?_
    have hdrop : l.drop l.length = [] := by simp
    rw [hdrop] at hsuf ⊢
    have hm7 : h₇.Ns s.heap.objs.size m := hm.at' fun o e => hk₇ _ o (by simp [Ne.symm heL, Ne.symm hiL]) e
    have st67 : Stp [e, it] s₆ { s₆ with heap := h₇, toks := tk } := .heap hk₇
    have hpr7 := hpr.step st67 (fun b hb => hown b (.tail _ hb))
    refine seg_execs_cons (seg_If (b := b) (tr_plain (ev_local (D := isV (.bool b)) hm7 hesc rfl (mono_v _))) (fun hb s₁₀ st₁₀ => ?_) (fun hb s₁₀ st₁₀ => ?_))
    · subst hb
      obtain ⟨tp, hp⟩ := hpos (hb0 rfl)
      refine seg_execs_cons (seg_Expr_Yield (n := 0) rfl rfl rfl ?_)
      have hm10 := hm7.keeps st₁₀.all
      refine wpAny_mono ((ev_tuple (W := []) (R := isD) (ds := [.i ((l.length - 1 : Nat) : Int), .t [92]]) (evAll_cons2 (ev_local hm10 hp ⟨tp, rfl⟩ (mono_int _)) (mono_d (.i _)) (evAll_cons2 (ev_t [92] rfl) (mono_d (.t _)) evAll_nil2)) mono_d (sl' rfl)).at (held_nil _)) (fun v s₁₂ hv kap hkap => ?_) fun _ _ x => x.elim
      obtain ⟨st₁₂, ⟨T', vs, rfl, tat, x⟩, _⟩ := hv
      obtain ⟨_, _, rfl, ⟨tt, rfl⟩, ⟨tu, rfl⟩⟩ := all2_two x
      have hsuf' : esc 0 false l = pre ++ (l.length - 1, [92]) :: [] := hsuf
      refine ⟨⟨l.length - 1, [92], T', tt, tu, (item_at hsuf').1, (item_at hsuf').2, rfl, tat.isTuple⟩, (hpr7.step st₁₀ (fun b hb => nomatch hb)).step st₁₂ (fun b hb => nomatch hb), fun sy hy => hkap .none sy ?_⟩
      exact seg_execs_nil (seg_execs_nil (seg_end (.ok (.ret .none)) ⟨rfl, rfl, Priv.refl _ _ _⟩))
    · subst hb
      exact seg_execs_nil (seg_execs_nil (seg_end (.ok (.ret .none)) ⟨rfl, rfl, hpr7.step st₁₀ (fun b hb => nomatch hb)⟩))
end
end Mine

namespace Mine
/-- a piece of a text, whatever the two places -/
theorem tx_piece (l : List Nat) (i j : Nat) : Txt.slice (tx l) (some (i : Int)) (some (j : Int)) = tx ((l.take j).drop i) := by
  have hn : (tx l).length = l.length := tx_len l
  have e : strSliceIndices (some (i : Int)) (some (j : Int)) 1 l.length = strSliceIndices (some ((min i l.length : Nat) : Int)) (some ((min j l.length : Nat) : Int)) 1 l.length := by
    have h1 : ¬ (i : Int) < 0 := by omega
    have h2 : ¬ (j : Int) < 0 := by omega
    have h3 : ¬ ((min i l.length : Nat) : Int) < 0 := by omega
    have h4 : ¬ ((min j l.length : Nat) : Int) < 0 := by omega
    simp only [strSliceIndices, if_neg h1, if_neg h2, if_neg h3, if_neg h4, show (1 : Int) > 0 from by decide, if_true]
    have e1 : max 0 (min (i : Int) (l.length : Int)) = max 0 (min ((min i l.length : Nat) : Int) (l.length : Int)) := by omega
    have e2 : max 0 (min (j : Int) (l.length : Int)) = max 0 (min ((min j l.length : Nat) : Int) (l.length : Int)) := by omega
    rw [e1, e2]
  have e' : Txt.slice (tx l) (some (i : Int)) (some (j : Int)) = Txt.slice (tx l) (some ((min i l.length : Nat) : Int)) (some ((min j l.length : Nat) : Int)) := by
    unfold Txt.slice
    rw [hn, e]
  rw [e']
  by_cases h : min i l.length ≤ min j l.length
  · rw [tx_slice l _ _ h (Nat.min_le_right _ _)]
    congr 1
    apply List.ext_getElem?
    intro k
    simp only [List.getElem?_take, List.getElem?_drop]
    split <;> split <;> first
      | rfl
      | omega
      | (congr 1; omega)
      | (rw [List.getElem?_eq_none (by omega)])
      | (rw [eq_comm, List.getElem?_eq_none (by omega)])
  · have h5 : (l.take j).drop i = [] := by
      apply List.drop_eq_nil_of_le
      rw [List.length_take]; omega
    rw [h5]
    have h3 : ¬ ((min i l.length : Nat) : Int) < 0 := by omega
    have h4 : ¬ ((min j l.length : Nat) : Int) < 0 := by omega
    have e3 : strSliceIndices (some ((min i l.length : Nat) : Int)) (some ((min j l.length : Nat) : Int)) 1 l.length = [] := by
      simp only [strSliceIndices, if_neg h3, if_neg h4, show (1 : Int) > 0 from by decide, if_true, sliceRange]
      rw [if_neg (by omega)]
      rfl
    unfold Txt.slice
    rw [hn, e3]
    rw [if_neg]
    · rfl
    · have : l.length ≠ 0 := by omega
      simp only [List.length_nil, beq_self_eq_true, Bool.true_and, beq_iff_eq]
      exact fun q => this q.symm
end Mine

namespace Mine
def GenNew (w : World) (mg mb : Str → Option Value) (A : Around) (items : List (Nat × List Nat)) (sc : Shared) (v : Value) (s' : Shared) : Prop :=
  Stp [] sc s' ∧ ∃ a, v = .ref a ∧ sc.heap.get? a = none ∧ s'.heap.IsGen a sc.gens.size ∧ ∃ gs, gs.bare = true ∧ s'.gens[sc.gens.size]? = some gs ∧ s'.gens.size = sc.gens.size + 1 ∧
      ∀ s'', Cons sc s' s'' → Wd w mg mb s''.heap → gs.Goes (model PG w) A.in1 (RE sc a) (YY sc a items) items.length (.send .none) s''
theorem bare_set {g : Array GenState} {i : Nat} {x : GenState} (h : AllBare g) (hx : x.bare = true) : AllBare (g.setIfInBounds i x) := fun y hy => by
  obtain ⟨j, hj, rfl⟩ := Array.mem_iff_getElem.mp hy
  rw [Array.getElem_setIfInBounds]
  rotate_left
  · simpa using hj
  split
  · exact hx
  · exact h _ (Array.getElem_mem _)
section
variable {w : World} {mg mb : Str → Option Value} {s : Shared} {A : Around} {W M : List Addr} {k : Nat} {env : Env} {rest : List Stmt} {Q : Flow → Shared → Prop}
theorem let_gen {target : Expr} {s : Shared} {a T : Addr} {g : Nat} {Q : Unit → Shared → Prop} {E : Value → Shared → Prop} (hg : s.heap.IsGen a g) (h : Q () s) (ht : ∃ es n p, target = .Tuple es n p) : wpAny (model PG w) A (letOwnedTupleGo target (.ref a) (.ref T)) Q E s := by
  obtain ⟨es, n, p, rfl⟩ := ht
  obtain ⟨o, nm, qn, ho, hc, hd, _⟩ := hg
  unfold letOwnedTupleGo
  refine wpAny_bind (wpAny_load ho ?_)
  rw [hc, hd]
  exact wpAny_pure h
/-- for p, x in the generator -/
theorem x_forGen {iter : Expr} {xi xc : Str} {pk pv pt pos : Pos} {x1 : Nat} {body : List Stmt} {items : List (Nat × List Nat)} (J : Nat → Heap → Prop)
    (hA : AOk k A) (X : Wd w mg mb s.heap)
    (hgen : wpAny (model PG w) A (eval iter env) (fun v s' => ∃ sc, Stp [] s sc ∧ GenNew w mg mb A items sc v s') NoE s)
    (hMa : ∀ b ∈ M, ∃ o, s.heap.get? b = some o) (hMX : ∀ b ∈ M, ∀ s' : Shared, Stp M s s' → Wd w mg mb s'.heap)
    (hJ : ∀ i h h', J i h → (∀ b ∈ M, ∀ o, h.get? b = some o → h'.get? b = some o) → J i h') (h0 : J 0 s.heap) (hL : env.locals ∈ M) (hJn : ∀ i h, J i h → ∃ m, h.Ns env.locals m)
    (turn : ∀ (j : Nat) p x t u s₂ m, items[j]? = some (p, x) → Stp M s s₂ → J j s₂.heap → s₂.heap.Ns env.locals m → ∀ s₃, Stp [env.locals] s₂ s₃ → s₃.heap.Ns env.locals (fun y => if y = xc then some (.str (tx x) u) else if y = xi then some (.int (p : Nat) t) else m y) →
      Go PG w A env body (fun f s₄ => match f with
        | .next | .cont => Stp M s₂ s₄ ∧ J (j + 1) s₄.heap
        | .brk => Go PG w A env rest Q s₄
        | .ret v => Q (.ret v) s₄) s₃)
    (done : ∀ s', Stp M s s' → J items.length s'.heap → Go PG w A env rest Q s')
    (hs : ∀ x, foldedSetIterable iter env x = pure x := by intro _; rfl)
    (hxi : env.kindOf xi = some .local := by rfl) (hxc : env.kindOf xc = some .local := by rfl) (hp : (env.scope.kind == .class || (env.scope.kind == .module && env.locals != env.globals)) = false := by rfl) :
    Go PG w A env (.For (.Tuple [.Name xi pk, .Name xc pv] x1 pt) iter body [] pos :: rest) Q s := by
  refine wpAny_execs_cons (wpAny_For (wpAny_mono hgen (fun v s₁ ⟨sc, a, b, ga, e, hnew, hig, gs, hbare, hgs, hgsz, hgo⟩ => ?_) fun _ _ x => x) hs)
  subst e
  refine wpAny_pyIter_gen hig ?_
  have hMa' : ∀ c ∈ M, ∃ o, sc.heap.get? c = some o := fun c hc => let ⟨o, e⟩ := hMa c hc; ⟨o, a.all _ _ e⟩
  have hgaM : ga ∉ M := fun hm => by obtain ⟨o, e⟩ := hMa' ga hm; rw [hnew] at e; cases e
  have scM : ∀ c, sc.heap.get? c = none → c ∉ M := fun c hc hm => by obtain ⟨o, e⟩ := hMa' c hm; rw [hc] at e; cases e
  refine codeAny_forLoop_any (fun k s' => ∃ j gs, j ≤ items.length ∧ k = items.length - j ∧ Stp M sc s' ∧ J j s'.heap ∧ s'.heap.IsGen ga sc.gens.size ∧ s'.gens[sc.gens.size]? = some gs ∧
      ∀ s'', Cons sc s' s'' → Wd w mg mb s''.heap → gs.Goes (model PG w) A.in1 (RE sc ga) (YY sc ga items) (items.length - j) (.send .none) s'') ?_ items.length
      ⟨0, gs, Nat.zero_le _, rfl, b.of_nil, hJ 0 _ _ h0 fun c _ o e => (a.trans b).all c o e, hig, hgs, hgo⟩
  clear hgo hgs hig hbare gs hgsz
  rintro kk s' ⟨j, gs, hj, rfl, st', hJj, hig', hgs', hgo'⟩
  have X' : Wd w mg mb s'.heap := hMX _ hL s' (a.of_nil.trans st')
  have run : ∀ s₁, Priv sc ga (s'.setGen sc.gens.size .running) s₁ → ∀ (x : GenState) (hx : x.bare = true) (h' : Heap), (∀ b o, s₁.heap.get? b = some o → h'.get? b = some o) →
      Stp M sc { s₁.setGen sc.gens.size x with heap := h' } ∧ J j h' ∧ h'.IsGen ga sc.gens.size ∧ (s₁.setGen sc.gens.size x).gens[sc.gens.size]? = some x := fun s₁ pr x hx h' hh' => by
    have hlt : sc.gens.size < s'.gens.size := (Array.getElem?_eq_some_iff.mp hgs').1
    have hrun : s₁.gens[sc.gens.size]? = some .running := by
      rw [pr.old _ (by simpa [Shared.setGen] using hlt)]
      exact setGen_self hgs'
    refine ⟨⟨fun c o hc e => hh' c o (pr.keep c o (.inl ⟨o, e⟩) (st'.keep c o hc e)), pr.os.trans st'.os, fun hb => bare_set (pr.bare (bare_set (st'.bare hb) rfl)) hx, fun i hi => ?_⟩, ?_, ?_, setGen_self hrun⟩
    · have h1 : (s'.setGen sc.gens.size .running).gens[i]? = s'.gens[i]? := by simp [Shared.setGen, Nat.ne_of_gt hi]
      have h2 : i < (s'.setGen sc.gens.size .running).gens.size := by simp only [Shared.setGen, Array.size_setIfInBounds]; exact Nat.lt_trans hi hlt
      show (s₁.gens.setIfInBounds sc.gens.size x)[i]? = _
      rw [Array.getElem?_setIfInBounds_ne (Nat.ne_of_gt hi), pr.old i h2, h1, st'.old i hi]
    · exact hJ j _ _ hJj fun c hc o e => hh' c o (pr.keep c o (.inl (hMa' c hc)) e)
    · obtain ⟨o, nm, qn, ho, r⟩ := hig'; exact ⟨o, nm, qn, hh' _ o (pr.keep _ o (.inr rfl) ho), r⟩
  refine next_gen hA.hd X'.nl hA.room hig' hgs' (hgo' _ (fun _ _ _ e => e) X') (fun v s₁ gs' hb hv => ?_) (fun s₁ hp h' hk' => ?_)
  · obtain ⟨⟨p, x, T, t, u, hit, hnl, rfl, hT⟩, pr, hkap⟩ := hv
    rcases Nat.lt_or_eq_of_le hj with hlt | heq
    · obtain ⟨m', hm'⟩ : ∃ m', items.length - j = m' + 1 := ⟨items.length - j - 1, by omega⟩
      obtain ⟨stn, hJn', hign, hgsn⟩ := run s₁ pr gs' hb s₁.heap (fun _ _ e => e)
      have hidx : items.length - 1 - (items.length - j - 1) = j := by omega
      rw [hidx] at hit
      rw [hm'] at hkap
      refine let_gen (s := s₁.setGen sc.gens.size gs') hign ?_ ⟨_, _, _, rfl⟩
      obtain ⟨m, hm⟩ := hJn j _ hJn'
      refine assign_pair (s := s₁.setGen sc.gens.size gs') hA.hd hT hm (fun s₃ st₃ hn₃ => ?_) hxi hxc hp
      refine wpAny_mono (turn j p x t u (s₁.setGen sc.gens.size gs') m hit (a.of_nil.trans stn) hJn' hm s₃ st₃ hn₃) (fun f s₄ q => ?_) fun _ _ x => x.elim
      have fin : (Stp M (s₁.setGen sc.gens.size gs') s₄ ∧ J (j + 1) s₄.heap) → ∃ m, m < items.length - j ∧ ∃ j gs, j ≤ items.length ∧ m = items.length - j ∧ Stp M sc s₄ ∧ J j s₄.heap ∧ s₄.heap.IsGen ga sc.gens.size ∧ s₄.gens[sc.gens.size]? = some gs ∧
          ∀ s'', Cons sc s₄ s'' → Wd w mg mb s''.heap → gs.Goes (model PG w) A.in1 (RE sc ga) (YY sc ga items) (items.length - j) (.send .none) s'' := fun q => by
        have hlt2 : sc.gens.size < (s₁.setGen sc.gens.size gs').gens.size := (Array.getElem?_eq_some_iff.mp hgsn).1
        refine ⟨items.length - (j + 1), by omega, j + 1, gs', hlt, rfl, stn.trans q.1, q.2, ?_, (q.1.old _ hlt2).trans hgsn, fun s'' hc _ => ?_⟩
        · obtain ⟨o, nm, qn, ho, r⟩ := hign; exact ⟨o, nm, qn, q.1.keep _ o hgaM ho, r⟩
        · have e : items.length - (j + 1) = m' := by omega
          rw [e]
          exact hkap s'' fun c o hcn e => hc c o hcn (q.1.keep c o (scM c hcn) e)
      cases f with
      | next => exact fin q
      | cont => exact fin q
      | brk => exact q
      | ret v => exact q
    · subst heq
      rw [Nat.sub_self] at hkap
      exact (hkap s₁ fun _ _ _ e => e).elim
  · obtain ⟨hn, pr⟩ := hp
    have heq : j = items.length := by omega
    subst heq
    obtain ⟨stn, hJn', _, _⟩ := run s₁ pr .finished rfl h' hk'
    exact wpAny_execs_nil (done _ (a.of_nil.trans stn) hJn')
end
end Mine

namespace Mine
theorem ns_unique {h : Heap} {a : Addr} {m m' : Str → Option Value} (x : h.Ns a m) (y : h.Ns a m') : m = m' := by
  obtain ⟨o, es, ep, h1, h2, _, h3⟩ := x
  obtain ⟨o', es', ep', h1', h2', _, h3'⟩ := y
  rw [h1] at h1'; cases h1'
  rw [h2] at h2'; cases h2'
  funext n
  rw [← h3 n, ← h3' n]
/-- one item met -/
def stepS (l : List Nat) (st : Nat × Option Nat × List (List Nat)) (it : Nat × List Nat) : Nat × Option Nat × List (List Nat) :=
  if it.2 == [34] then
    match st.2.1 with
    | none => (st.1, some it.1, st.2.2)
    | some q => (it.1 + 1, none, if (st.1 : Int) != (q : Int) then st.2.2 ++ [(l.take q).drop st.1] else st.2.2)
  else st
def foldS (l : List Nat) (its : List (Nat × List Nat)) : Nat × Option Nat × List (List Nat) := its.foldl (stepS l) (0, none, [])
/-- what is left of a text -/
def stripP (l : List Nat) : List Nat :=
  if l.contains 34 then (if (foldS l (esc 0 false l)).1 < l.length then (foldS l (esc 0 false l)).2.2 ++ [l.drop (foldS l (esc 0 false l)).1] else (foldS l (esc 0 false l)).2.2).flatten else l
theorem esc_len : ∀ (l : List Nat) (p : Nat) (b : Bool), (esc p b l).length ≤ l.length + 1
  | [], _, true => by simp [esc]
  | [], _, false => by simp [esc]
  | c :: r, p, true => by have := esc_len r (p + 1) false; simp only [esc, List.length_cons]; omega
  | c :: r, p, false => by
    simp only [esc, List.length_cons]
    split
    · have := esc_len r (p + 1) true; omega
    · have := esc_len r (p + 1) false; simp only [List.length_cons]; omega
theorem fold_small (l : List Nat) : ∀ (its : List (Nat × List Nat)) (st : Nat × Option Nat × List (List Nat)) (n : Nat), st.2.2.length ≤ n → st.2.2.flatten.length ≤ n * l.length →
    (its.foldl (stepS l) st).2.2.length ≤ n + its.length ∧ (its.foldl (stepS l) st).2.2.flatten.length ≤ (n + its.length) * l.length
  | [], st, n, h1, h2 => ⟨by simpa using h1, by simpa using h2⟩
  | it :: its, st, n, h1, h2 => by
    rw [List.foldl_cons]
    have hs : (stepS l st it).2.2.length ≤ n + 1 ∧ (stepS l st it).2.2.flatten.length ≤ (n + 1) * l.length := by
      have h3 : n * l.length ≤ (n + 1) * l.length := Nat.mul_le_mul_right _ (Nat.le_succ _)
      unfold stepS
      split
      · split
        · exact ⟨Nat.le_succ_of_le h1, Nat.le_trans h2 h3⟩
        · simp only
          split
          · refine ⟨by simp only [List.length_append, List.length_cons, List.length_nil]; omega, ?_⟩
            simp only [List.flatten_append, List.length_append, List.flatten_cons, List.flatten_nil, List.length_nil, List.length_drop, List.length_take]
            rw [Nat.add_mul]
            omega
          · exact ⟨Nat.le_succ_of_le h1, Nat.le_trans h2 h3⟩
      · exact ⟨Nat.le_succ_of_le h1, Nat.le_trans h2 h3⟩
    have := fold_small l its (stepS l st it) (n + 1) hs.1 hs.2
    rw [List.length_cons]
    rwa [show n + (its.length + 1) = n + 1 + its.length from by omega]
def opV : Option Nat → Dsc
  | none => isV .none
  | some q => isInt (q : Int)
section
variable {prog : Program} {w : World} {A : Around} {env : Env} {W : List Addr} {s : Shared}
theorem ev_lenT {fe e : Expr} {pos : Pos} {l : List Nat} (hn : Ev prog w A env fe W s (isV (.builtin "len"))) (h : Ev prog w A env e W s (isT l)) (hsz : l.length < 2 ^ 62)
    (he : eval (.Call fe [e] [] pos) env = (do callWith pos (← eval fe env) [] (backTo pos (starEach [e] env)) (backToKw pos (keywordEach [] env))) := by rfl)
    (hs : starEach [e] env = (false, eval e env) :: starEach [] env := by rfl) : Ev prog w A env (.Call fe [e] [] pos) W s (isInt l.length) :=
  ev_callB hn (evAll_cons h (mono_t _) evAll_nil hs) (fun s₁ vs a hw ⟨u, us, e, ⟨t, e'⟩, e''⟩ => by
    subst e'' e' e
    refine P.len_str (by rw [tx_len]; omega) ⟨.toks, s₁.toks + 1, ?_⟩
    rw [tx_len]) he hs
theorem ev_piece {value lo hi : Expr} {p pos : Pos} {i j : Nat} {l : List Nat} (hv : Ev prog w A env value W s (isT l)) (hl : Ev prog w A env lo W s (isInt i)) (hu : Ev prog w A env hi W s (isInt j)) (hsz : l.length ≤ 1000000) :
    Ev prog w A env (.Subscript value (.Slice (some lo) (some hi) none p) pos) W s (isT ((l.take j).drop i)) := by
  unfold isT
  rw [← tx_piece]
  exact ev_strSlice hv (evP_some hl) (evP_some hu) (by rw [tx_len]; exact sl hsz)
theorem ev_tail {value lo : Expr} {p pos : Pos} {i : Nat} {l : List Nat} (hv : Ev prog w A env value W s (isT l)) (hl : Ev prog w A env lo W s (isInt i)) (hi : i ≤ l.length) (hsz : l.length ≤ 1000000) :
    Ev prog w A env (.Subscript value (.Slice (some lo) none none p) pos) W s (isT (l.drop i)) := by
  unfold isT
  rw [← tx_from l i hi]
  exact ev_strSlice hv (evP_some hl) evP_none (by rw [tx_len]; exact sl hsz)
end
end Mine

namespace Mine
section
variable {w : World} {mg mb : Str → Option Value} {s : Shared} {A : Around} {W : List Addr} {k : Nat}
theorem g_iter {h : Heap} (X : Wd w mg mb h) : mg "_iter_escaped_chars" = some (.ref 21) := (glob_of X.toWld rfl rfl _).trans rfl
theorem x_ifj {prog : Program} {env : Env} {rest : List Stmt} {Q : Flow → Shared → Prop} {e : Expr} {body orelse : List Stmt} {pos : Pos} {c : Bool} (Mid : Shared → Prop) (h : Tr prog w A env e s c)
    (yes : c = true → ∀ s', Stp [] s s' → Go prog w A env body (fun f s' => f = .next ∧ Mid s') s') (no : c = false → ∀ s', Stp [] s s' → Go prog w A env orelse (fun f s' => f = .next ∧ Mid s') s')
    (next : ∀ s', Mid s' → Go prog w A env rest Q s') : Go prog w A env (.If e body orelse pos :: rest) Q s :=
  x_if h (fun hc s' a => wpAny_mono (yes hc s' a) (fun f s₂ ⟨e, q⟩ => by subst e; exact next s₂ q) fun _ _ x => x) (fun hc s' a => wpAny_mono (no hc s' a) (fun f s₂ ⟨e, q⟩ => by subst e; exact next s₂ q) fun _ _ x => x)
theorem up1 {m : Str → Option Value} {x y : Str} {v : Value} (h : y ≠ x) : (if y = x then some v else m y) = m y := if_neg h
theorem up2 {m : Str → Option Value} {x x' y : Str} {v v' : Value} (h : y ≠ x) (h' : y ≠ x') : (if y = x then some v else if y = x' then some v' else m y) = m y := by rw [if_neg h, if_neg h']
theorem Wd.stpW {sc s s' : Shared} {W : List Addr} (X : Wd w mg mb sc.heap) (a : Stp [] sc s) (b : Stp W s s') (hW : ∀ c ∈ W, sc.heap.get? c = none) : Wd w mg mb s'.heap := X.stp (a.fresh b hW)
set_option maxHeartbeats 4000000 in
theorem strip_spec (X : Wd w mg mb s.heap) (hA : AOk (k + 3) A) {v : Value} {l : List Nat} (hv : isT l (vw W s.heap) v) (hasc : ∀ c ∈ l, c < 128) (hlen : l.length ≤ 500) (hw : Held W s) :
    wpAny (model PG w) A (call (.ref 28) [v]) (fun r s' => Stp [] s s' ∧ isT (stripP l) (vw W s'.heap) r) NoE s := by
  obtain ⟨t, rfl⟩ := hv
  refine call_def hA.room X.nl (X.kin 28 _ rfl) rfl (codeRec_of X.kin (by rfl)) rfl (BindsTo.of_eq (binds := [("addr", .str (tx l) t)]) rfl) (by decide) (locs (by rfl)) ?_
  intro s₁ a₁ hL hn₁
  generalize hLe : s.heap.objs.size = L at hL hn₁ ⊢
  have hloc : ∀ {sx : Shared} {m : Str → Option Value}, sx.heap.Ns L m → Held [L] sx := fun {sx m} h => by
    obtain ⟨o, _, _, ho, _⟩ := h; exact .cons ho (held_nil _)
  have hA' : ∀ env, AOk (k + 2) (A.deeper env) := fun env => hA.deeper
  refine x_if (c := !l.contains 34) (tr_cmp (W := []) (ev_t [34] rfl) (ev_local hn₁ rfl ⟨t, rfl⟩ (mono_t _)) (mono_t _) c_notInT (held_nil _)) (fun hc s₂ a₂ => ?_) (fun hc s₂ a₂ => ?_)
  · refine x_return (D := isT l) (W := []) (ev_local (hn₁.keeps a₂.all) rfl ⟨t, rfl⟩ (mono_t _)) (held_nil _) (fun r s' b d => ⟨(a₁.trans a₂).trans b, ?_⟩)
    have e : stripP l = l := by unfold stripP; rw [if_neg]; simpa using hc
    rw [e]; exact d
  refine x_nil ?_
  have hc' : l.contains 34 = true := by simpa using hc
  have hn₂ := hn₁.keeps a₂.all
  refine x_assign (W := [L]) (ev_int 0) (hloc hn₂) hn₂ (.head _) (mono_int 0) (fun v₃ s₃ a₃ d₃ hn₃ => ?_)
  obtain ⟨t3, rfl⟩ := d₃
  refine x_assign (W := [L]) ev_none (hloc hn₃) hn₃ (.head _) (mono_v _) (fun v₄ s₄ a₄ d₄ hn₄ => ?_)
  cases d₄
  refine x_assign (W := [L]) (D := fun g v => isLst isT [] g v ∧ New s₄ v) (ev_list (R := isT) evAll_nil2 mono_t (sl' rfl)) (hloc hn₄) hn₄ (.head _) (fun g g' v hg h => ⟨mono_lst mono_t _ _ _ _ hg h.1, h.2⟩) (fun v₅ s₅ a₅ d₅ hn₅ => ?_)
  obtain ⟨⟨Da, vs, rfl, hD, hvs⟩, ⟨_, hq, hDn⟩⟩ := d₅
  cases hq
  cases hvs
  have a24 : Stp [L] s₂ s₄ := a₃.trans a₄
  have a25 : Stp [L] s₂ s₅ := a24.trans a₅
  have a12 := a₁.trans a₂
  have hDs : s.heap.get? Da = none := get_none_of (a12.fresh a24 (fun c hc => by rw [List.mem_singleton.mp hc]; exact hL)) hDn
  have hDL : Da ≠ L := fun e => hD.notin (by rw [e]; exact .head _)
  have hD5 : s₅.heap.PlainList Da ([] : List Value).toArray := hD.plain
  have st5 : Stp [] s s₅ := a12.fresh a25 (fun c hc => by rw [List.mem_singleton.mp hc]; exact hL)
  have hM : ∀ c ∈ [L, Da], s.heap.get? c = none := fun c hc => by
    rcases List.mem_cons.mp hc with rfl | hc
    · exact hL
    · rw [List.mem_singleton.mp hc]; exact hDs
  have hMa : ∀ c ∈ [L, Da], ∃ o, s₅.heap.get? c = some o := fun c hc => by
    rcases List.mem_cons.mp hc with rfl | hc
    · obtain ⟨o, _, _, ho, _⟩ := hn₅; exact ⟨o, ho⟩
    · rw [List.mem_singleton.mp hc]; obtain ⟨n, e⟩ := hD5; exact ⟨_, e⟩
  refine x_forGen (M := [L, Da]) (items := esc 0 false l) (mg := mg) (mb := mb) (fun j h => ∃ m vs, h.Ns L m ∧ m "addr" = some (.str (tx l) t) ∧ (∃ u, m "start" = some (.int ((foldS l ((esc 0 false l).take j)).1 : Int) u)) ∧
      (∃ v, m "open_pos" = some v ∧ opV (foldS l ((esc 0 false l).take j)).2.1 (fun _ => none) v) ∧ m "result" = some (.ref Da) ∧ h.PlainList Da vs.toArray ∧ All2 (fun d u => isT d (fun _ => none) u) (foldS l ((esc 0 false l).take j)).2.2 vs)
    (hA' _) (X.stp st5) ?gen hMa (fun _ _ s' st => X.stpW st5 st hM) ?hJ ?h0 (.head _) (fun i h ⟨m, _, hm, _⟩ => ⟨m, hm⟩) ?turn ?done
  case gen =>
    have X5 := X.stp st5
    refine Call_ (wpAny_mono ((ev_global (W := []) X5.g (g_iter X)) s₅ (.refl _ _) (held_nil _)) (fun f s₆ ⟨a₆, q⟩ => ?_) fun _ _ x => x)
    cases q
    obtain ⟨o43, fd43, ho43, hd43⟩ : ∃ o fd, (KK w).lookup 21 = some o ∧ o.data = .func fd := ⟨_, _, rfl, rfl⟩
    refine callWith_def hd43 (args_cons (wpAny_mono ((ev_local (W := []) (D := isV (.str (tx l) t)) (hn₅.keeps a₆.all) rfl rfl (mono_v _)) s₆ (.refl _ _) (held_nil _)) (fun v s₇ ⟨a₇, q⟩ => args_nil ?_) fun _ _ x => x))
    cases q
    have X7 := X5.stp (a₆.trans a₇)
    exact ⟨X7.kin 21 _ ho43, wpAny_mono (gen_call X7 (hA' _) hasc (by omega)) (fun v s' h => ⟨s₇, a₆.trans a₇, h⟩) fun _ _ x => x⟩
  case hJ =>
    rintro i h h' ⟨m, vs, h1, h2, h3, h4, h5, h6, h7⟩ hk
    exact ⟨m, vs, h1.at' fun o e => hk _ (.head _) o e, h2, h3, h4, h5, h6.at fun o e => hk _ (.tail _ (.head _)) o e, h7⟩
  case h0 =>
    exact ⟨_, [], hn₅, rfl, ⟨t3, rfl⟩, ⟨_, rfl, rfl⟩, rfl, hD5, .nil⟩
  case turn =>
    rintro j p x tp u s₆ m hj st6 ⟨m', vs, h1, h2, ⟨u3, h3⟩, ⟨vo, h4, h4'⟩, h5, h6, h7⟩ hm s₇ st7 hn7
    obtain rfl := ns_unique hm h1
    have hn7' : s₇.heap.Ns L (fun y => if y = (Str.ofString "ch") then some (Value.str (tx x) u) else if y = (Str.ofString "pos") then some (.int (p : Nat) tp) else m y) := hn7
    clear hn7
    have st67 : Stp [L] s₆ s₇ := st7
    have hD7 : s₇.heap.PlainList Da vs.toArray := h6.at fun o e => st67.keep _ o (fun hm => hDL (List.mem_singleton.mp hm)) e
    have hfold : foldS l ((esc 0 false l).take (j + 1)) = stepS l (foldS l ((esc 0 false l).take j)) (p, x) := by
      unfold foldS
      rw [List.take_add_one, hj]; simp
    have hsm := fold_small l ((esc 0 false l).take j) (0, none, []) 0 (Nat.le_refl _) (by simp)
    have hel := esc_len l 0 false
    have hvl : vs.length ≤ 1000 := by
      have e1 := h7.length
      have e2 : ((esc 0 false l).take j).length ≤ (esc 0 false l).length := by rw [List.length_take]; exact Nat.min_le_right _ _
      unfold foldS at e1
      omega
    generalize hF : foldS l ((esc 0 false l).take j) = F at *
    obtain ⟨st, op, res⟩ := F
    simp only at h3 h4' h7 hsm
    have up : ∀ {sx : Shared}, Stp [L] s₇ sx → Stp [L, Da] s₆ sx := fun {sx} h => (st67.trans h).weaken fun c hc => by rw [List.mem_singleton.mp hc]; exact .head _
    have hW7 : ∀ {sx : Shared}, Stp [] s₇ sx → Held [L, Da] sx := fun {sx} h => by
      obtain ⟨o, _, _, ho, _⟩ := hn7'
      obtain ⟨n, e⟩ := hD7
      exact .cons (h.all _ _ ho) (.cons (h.all _ _ e) (held_nil _))
    refine x_if (c := (x == [34])) (tr_cmp (W := []) (ev_local hn7' rfl ⟨u, rfl⟩ (mono_t _)) (ev_t [34] rfl) (mono_t _) c_eqT (held_nil _)) (fun hx s₈ a₈ => ?_) (fun hx s₈ a₈ => ?_)
    · have hn8 := hn7'.keeps a₈.all
      have hD8 : s₈.heap.PlainList Da vs.toArray := hD7.at fun o e => a₈.all _ o e
      cases op with
      | none =>
        cases h4'
        refine x_if (c := true) (tr_cmp (W := []) (b := true) (ev_local (D := isV .none) hn8 (by show (if _ then _ else _) = _; rw [if_neg (by decide), if_neg (by decide)]; exact h4) rfl (mono_v _)) ev_none (mono_v _) (c_is rfl) (held_nil _)) (fun _ s₉ a₉ => ?_) (fun h => nomatch h)
        have hn9 := hn8.keeps a₉.all
        refine x_assign (W := [L, Da]) (ev_local (D := isInt (p : Nat)) hn9 rfl ⟨tp, rfl⟩ (mono_int _)) (hW7 (a₈.trans a₉)) hn9 (.head _) (mono_int _) (fun v s₁₀ a₁₀ d hn10 => ?_)
        obtain ⟨tv, rfl⟩ := d
        refine x_nil (x_nil (x_nil ?_))
        have hst : stepS l (st, none, res) (p, x) = (st, some p, res) := by unfold stepS; rw [if_pos hx]
        rw [hst] at hfold
        refine ⟨up ((a₈.trans a₉).of_nil.trans a₁₀), _, vs, hn10, h2, ⟨u3, ?_⟩, ⟨_, rfl, ?_⟩, h5, ?_, ?_⟩
        · rw [hfold]; exact h3
        · rw [hfold]; exact ⟨tv, rfl⟩
        · exact (hD8.at fun o e => a₉.all _ o e).at fun o e => (show Stp [L] s₉ s₁₀ from a₁₀).keep _ o (fun hm => hDL (List.mem_singleton.mp hm)) e
        · rw [hfold]; exact h7
      | some q =>
        obtain ⟨uq, rfl⟩ := h4'
        refine x_if (c := false) (tr_cmp (W := []) (b := false) (ev_local (D := isInt (q : Int)) hn8 h4 ⟨uq, rfl⟩ (mono_int _)) ev_none (mono_int _) c_isNone (held_nil _)) (fun h => nomatch h) (fun _ s₉ a₉ => ?_)
        have hn9 := hn8.keeps a₉.all
        have hst : stepS l (st, some q, res) (p, x) = (p + 1, none, if (st : Int) != (q : Int) then res ++ [(l.take q).drop st] else res) := by unfold stepS; rw [if_pos hx]
        rw [hst] at hfold
        refine x_ifj (fun sx => ∃ vs', Stp [L, Da] s₆ sx ∧ sx.heap.Ns L (fun y => if y = (Str.ofString "ch") then some (Value.str (tx x) u) else if y = (Str.ofString "pos") then some (.int (p : Nat) tp) else m y) ∧
            sx.heap.PlainList Da vs'.toArray ∧ All2 (fun d u => isT d (fun _ => none) u) (if (st : Int) != (q : Int) then res ++ [(l.take q).drop st] else res) vs') (c := ((st : Int) != (q : Int)))
          (tr_cmp (W := []) (ev_local (D := isInt (st : Int)) hn9 h3 ⟨u3, rfl⟩ (mono_int _)) (ev_local (D := isInt (q : Int)) hn9 h4 ⟨uq, rfl⟩ (mono_int _)) (mono_int _) c_neInt (held_nil _)) (fun hc s₁₀ a₁₀ => ?_) (fun hc s₁₀ a₁₀ => ?_) ?_
        · have a810 := (a₈.trans a₉).trans a₁₀
          have hn10 := hn9.keeps a₁₀.all
          refine x_append (W := [L, Da]) (d := Da) (vs := vs) (ev_local hn10 h5 rfl (mono_v _)) (hD7.at fun o e => a810.all _ o e) (sl (by omega)) (ev_piece (ev_local (D := isT l) hn10 h2 ⟨t, rfl⟩ (mono_t _)) (ev_local hn10 h3 ⟨u3, rfl⟩ (mono_int _)) (ev_local hn10 h4 ⟨uq, rfl⟩ (mono_int _)) (by omega)) (hW7 a810) (.tail _ (.head _)) (mono_t _) (fun v s₁₁ a₁₁ d hp => ?_)
          refine x_nil ⟨rfl, vs ++ [v], (up a810.of_nil).trans (a₁₁.weaken fun c hc => by rw [List.mem_singleton.mp hc]; exact .tail _ (.head _)), hn10.at' fun o e => a₁₁.keep _ o (fun hm => hDL (List.mem_singleton.mp hm).symm) e, hp, ?_⟩
          rw [if_pos hc]
          exact h7.snoc d
        · have a810 := (a₈.trans a₉).trans a₁₀
          refine x_nil ⟨rfl, vs, up a810.of_nil, hn9.keeps a₁₀.all, hD7.at fun o e => a810.all _ o e, ?_⟩
          rw [if_neg (by rw [hc]; exact Bool.false_ne_true)]
          exact h7
        · rintro s₁₁ ⟨vs', st11, hn11, hD11, hres⟩
          have hW : ∀ {sx : Shared} {m : Str → Option Value}, sx.heap.Ns L m → sx.heap.PlainList Da vs'.toArray → Held [L, Da] sx := fun {sx m} h1 h2 => by
            obtain ⟨o, _, _, ho, _⟩ := h1
            obtain ⟨n, e⟩ := h2
            exact .cons ho (.cons e (held_nil _))
          refine x_assign (W := [L, Da]) (D := isInt ((p + 1 : Nat) : Int)) ((ev_add (ev_local hn11 rfl ⟨tp, rfl⟩ (mono_int _)) (ev_int 1)).mono fun _ _ h => by simpa using h) (hW hn11 hD11) hn11 (.head _) (mono_int _) (fun v s₁₂ a₁₂ d hn12 => ?_)
          have hD12 : s₁₂.heap.PlainList Da vs'.toArray := hD11.at fun o e => (show Stp [L] s₁₁ s₁₂ from a₁₂).keep _ o (fun hm => hDL (List.mem_singleton.mp hm)) e
          refine x_assign (W := [L, Da]) ev_none (hW hn12 hD12) hn12 (.head _) (mono_v _) (fun v' s₁₃ a₁₃ d' hn13 => ?_)
          cases d'
          obtain ⟨tv, rfl⟩ := d
          refine x_nil (x_nil (x_nil ?_))
          have a1113 : Stp [L] s₁₁ s₁₃ := a₁₂.trans a₁₃
          refine ⟨st11.trans (a1113.weaken fun c hc => by rw [List.mem_singleton.mp hc]; exact .head _), _, vs', hn13, h2, ⟨tv, ?_⟩, ⟨_, rfl, ?_⟩, h5, hD11.at fun o e => a1113.keep _ o (fun hm => hDL (List.mem_singleton.mp hm)) e, ?_⟩
          · rw [hfold]; rfl
          · rw [hfold]; rfl
          · rw [hfold]; exact hres
    · refine x_nil (x_nil ?_)
      have hst : stepS l (st, op, res) (p, x) = (st, op, res) := by unfold stepS; rw [if_neg (by rw [hx]; exact Bool.false_ne_true)]
      rw [hst] at hfold
      refine ⟨up (a₈.of_nil), _, vs, hn7'.keeps a₈.all, h2, ⟨u3, ?_⟩, ⟨vo, h4, ?_⟩, h5, hD7.at fun o e => a₈.all _ o e, ?_⟩
      · rw [hfold]; exact h3
      · rw [hfold]; exact h4'
      · rw [hfold]; exact h7
  case done =>
    rintro s₆ st6 ⟨m, vs, h1, h2, ⟨u3, h3⟩, ⟨vo, h4, h4'⟩, h5, h6, h7⟩
    rw [List.take_length] at h3 h4' h7
    have hsm := fold_small l (esc 0 false l) (0, none, []) 0 (Nat.le_refl _) (by simp)
    have hel := esc_len l 0 false
    have hfl : (foldS l (esc 0 false l)).2.2.flatten.length ≤ 600 * l.length := by
      unfold foldS
      refine Nat.le_trans hsm.2 (Nat.mul_le_mul_right _ (by omega))
    have hfl2 : 600 * l.length ≤ 300000 := by omega
    have hvl : vs.length ≤ 1000 := by
      have e1 := h7.length
      unfold foldS at e1
      omega
    have hX6 : Wd w mg mb s₆.heap := X.stpW st5 st6 hM
    have hW : ∀ {sx : Shared}, Stp [] s₆ sx → Held [L, Da] sx := fun {sx} h => by
      obtain ⟨o, _, _, ho, _⟩ := h1
      obtain ⟨n, e⟩ := h6
      exact .cons (h.all _ _ ho) (.cons (h.all _ _ e) (held_nil _))
    have hsp : stripP l = (if (foldS l (esc 0 false l)).1 < l.length then (foldS l (esc 0 false l)).2.2 ++ [l.drop (foldS l (esc 0 false l)).1] else (foldS l (esc 0 false l)).2.2).flatten := by unfold stripP; rw [if_pos hc']
    generalize hF : foldS l (esc 0 false l) = F at *
    refine x_ifj (fun sx => ∃ vs', Stp [L, Da] s₆ sx ∧ sx.heap.Ns L m ∧ sx.heap.PlainList Da vs'.toArray ∧ All2 (fun d u => isT d (fun _ => none) u) (if F.1 < l.length then F.2.2 ++ [l.drop F.1] else F.2.2) vs') (c := decide ((F.1 : Int) < (l.length : Int)))
        (tr_cmp (W := []) (ev_local (D := isInt (F.1 : Int)) h1 h3 ⟨u3, rfl⟩ (mono_int _)) (ev_lenT (ev_builtin hX6.g (b_len X).1 hX6.b (b_len X).2) (ev_local (D := isT l) h1 h2 ⟨t, rfl⟩ (mono_t _)) (by omega)) (mono_int _) c_ltInt (held_nil _)) (fun hc s₇ a₇ => ?_) (fun hc s₇ a₇ => ?_) ?_
    · have hlt : F.1 < l.length := by have := of_decide_eq_true hc; omega
      have hn7 := h1.keeps a₇.all
      refine x_append (W := [L, Da]) (d := Da) (vs := vs) (ev_local hn7 h5 rfl (mono_v _)) (h6.at fun o e => a₇.all _ o e) (sl (by omega)) (ev_tail (ev_local (D := isT l) hn7 h2 ⟨t, rfl⟩ (mono_t _)) (ev_local hn7 h3 ⟨u3, rfl⟩ (mono_int _)) (by omega) (by omega)) (hW a₇) (.tail _ (.head _)) (mono_t _) (fun v s₈ a₈ d hp => ?_)
      refine x_nil ⟨rfl, vs ++ [v], a₇.of_nil.trans (a₈.weaken fun c hc => by rw [List.mem_singleton.mp hc]; exact .tail _ (.head _)), hn7.at' fun o e => a₈.keep _ o (fun hm => hDL (List.mem_singleton.mp hm).symm) e, hp, ?_⟩
      rw [if_pos hlt]
      exact h7.snoc d
    · have hlt : ¬ F.1 < l.length := by have := of_decide_eq_false hc; omega
      refine x_nil ⟨rfl, vs, a₇.of_nil, h1.keeps a₇.all, h6.at fun o e => a₇.all _ o e, ?_⟩
      rw [if_neg hlt]
      exact h7
    · rintro s₇ ⟨vs', st7, hn7, hD7, hres⟩
      refine x_return (W := []) (D := isT (stripP l)) ?_ (held_nil _) (fun r s' b d => ⟨(st5.fresh (st6.trans st7) hM).trans b, d⟩)
      rw [hsp]
      refine ev_join (ev_t [] rfl) (ev_local hn7 h5 ⟨Da, vs', rfl, LAt.of hD7 (fun h => nomatch h), hres.imp fun _ _ h => h⟩ (mono_lst mono_t _)) ?_
      split
      · simp only [List.flatten_append, List.length_append, List.flatten_cons, List.flatten_nil, List.length_nil, List.length_drop]; omega
      · omega
end
end Mine

namespace Mine
def dedupStep (acc : List (List Nat)) (x : List Nat) : List (List Nat) := if acc.contains x then acc else acc ++ [x]
def dedup (xs : List (List Nat)) : List (List Nat) := xs.foldl dedupStep []
/-- an item's text, if it is one -/
def txtOf : Value → Str
  | .str x _ => x
  | _ => Str.empty
theorem any_texts {l : List Nat} : ∀ {acc : List (List Nat)} {vs : List Value} {g : View}, All2 (fun d u => isT d g u) acc vs → vs.any (fun y => txtOf y == tx l) = acc.contains l
  | _, _, _, .nil => rfl
  | a :: acc, _, _, .cons ⟨t, e⟩ h => by
    subst e
    rw [List.any_cons, any_texts h, List.contains_cons]
    show (tx a == tx l || _) = _
    have e : (a == l) = (l == a) := by rw [Bool.eq_iff_iff, beq_iff_eq, beq_iff_eq]; exact eq_comm
    rw [tx_beq, e]
section
variable {prog : Program} {w : World} {A : Around} {env : Env} {W : List Addr} {s : Shared}
/-- a text looked for in a list of texts -/
theorem c_notInL {l : List Nat} {acc : List (List Nat)} : Cmp prog w A .NotIn W s (isT l) (isLst isT acc) (!acc.contains l) := fun s₁ v u _ ⟨t, e⟩ ⟨a, vs, e', lt, x⟩ s₂ b hw => by
  subst e; subst e'
  have hl := (lt.mono b.of_nil.vle).isList
  refine SeqAt.notIn_listAt (fun y => txtOf y == tx l) hl (fun y hy => ?_) ?_
  · obtain ⟨d, _, ⟨ty, rfl⟩⟩ := x.mem (by simpa using hy)
    exact SeqAt.EqAt.str_str (tx d) ty (tx l) t
  · refine ⟨.refl _ _, ?_⟩
    show Value.bool (!vs.toArray.any _) = _
    rw [List.any_toArray, any_texts x]
end
section
variable {w : World} {mg mb : Str → Option Value} {s : Shared} {A : Around} {W : List Addr} {k : Nat}
theorem dedup_len (xs : List (List Nat)) : (dedup xs).length ≤ xs.length := by
  have aux : ∀ (xs acc : List (List Nat)), (xs.foldl dedupStep acc).length ≤ acc.length + xs.length := by
    intro xs
    induction xs with
    | nil => intro acc; simp
    | cons x xs ih =>
      intro acc
      rw [List.foldl_cons, List.length_cons]
      refine Nat.le_trans (ih _) ?_
      unfold dedupStep
      split
      · omega
      · simp only [List.length_append, List.length_cons, List.length_nil]; omega
  simpa [dedup] using aux xs []
set_option maxHeartbeats 4000000 in
theorem dedup_spec (X : Wd w mg mb s.heap) (hA : AOk (k + 1) A) {v : Value} {xs : List (List Nat)} (hv : isLst isT xs (vw W s.heap) v) (hlen : xs.length ≤ 1000) (hw : Held W s) :
    wpAny (model PG w) A (call (.ref 43) [v]) (fun r s' => Stp [] s s' ∧ isLst isT (dedup xs) (vw W s'.heap) r ∧ New s r) NoE s := by
  refine call_def hA.room X.nl (X.kin 43 _ rfl) rfl (codeRec_of X.kin (by rfl)) rfl (BindsTo.of_eq (binds := [("unhashable_params", v)]) rfl) (by decide) (locs (by rfl)) ?_
  intro s₁ a₁ hL hn₁
  generalize hLe : s.heap.objs.size = L at hL hn₁ ⊢
  have hloc : ∀ {sx : Shared} {m : Str → Option Value}, sx.heap.Ns L m → Held [L] sx := fun {sx m} h => by
    obtain ⟨o, _, _, ho, _⟩ := h; exact .cons ho (held_nil _)
  have hw1 : Held (L :: W) s₁ := by obtain ⟨o, _, _, ho, _⟩ := hn₁; exact .cons ho (hw.stp a₁)
  refine x_assign (W := L :: W) (D := fun g v => isLst isT [] g v ∧ New s₁ v) (ev_list (R := isT) evAll_nil2 mono_t (sl' rfl)) hw1 hn₁ (.head _) (fun g g' v hg h => ⟨mono_lst mono_t _ _ _ _ hg h.1, h.2⟩) (fun v₅ s₅ a₅ d₅ hn₅ => ?_)
  obtain ⟨⟨Da, vs, rfl, hD, hvs⟩, ⟨_, hq, hDn⟩⟩ := d₅
  cases hq
  cases hvs
  have a₅' : Stp [L] s₁ s₅ := a₅
  have hDs : s.heap.get? Da = none := get_none_of a₁ hDn
  have hDL : Da ≠ L := fun e => hD.notin (by rw [e]; exact .head _)
  have hD5 : s₅.heap.PlainList Da ([] : List Value).toArray := hD.plain
  have st5 : Stp [] s s₅ := a₁.fresh a₅' (fun c hc => by rw [List.mem_singleton.mp hc]; exact hL)
  have hM : ∀ c ∈ [L, Da], s.heap.get? c = none := fun c hc => by
    rcases List.mem_cons.mp hc with rfl | hc
    · exact hL
    · rw [List.mem_singleton.mp hc]; exact hDs
  have hW : ∀ {sx : Shared} {m : Str → Option Value} {vs : List Value}, sx.heap.Ns L m → sx.heap.PlainList Da vs.toArray → Held [L, Da] sx := fun {sx m vs} h1 h2 => by
    obtain ⟨o, _, _, ho, _⟩ := h1
    obtain ⟨n, e⟩ := h2
    exact .cons ho (.cons e (held_nil _))
  have gW : VLe (vw W s.heap) (vw [L, Da] s₅.heap) := fun c o e => vw_of (fun hm => by
    have := hM c hm; rw [(vw_some e).2] at this; cases this) (st5.all _ _ (vw_some e).2)
  refine x_for (M := [L, Da]) (W := [L, Da]) (R₀ := isT) (xs := xs) (D := isLst isT xs) (fun j h => ∃ m vs, h.Ns L m ∧ m "new_unhashable" = some (.ref Da) ∧ h.PlainList Da vs.toArray ∧ All2 (fun d u => isT d (fun _ => none) u) (dedup (xs.take j)) vs)
    (ev_local hn₅ rfl (mono_lst mono_t _ _ _ _ gW hv) (mono_lst mono_t _)) (hW hn₅ hD5) (fun s₆ u a₆ hw₆ hd => srcs_list hA.hd hd (fun _ h => h) hw₆) (fun _ h => h) mono_t ?hJ ?h0 ?turn ?done
  case hJ =>
    rintro i h h' ⟨m, vs, h1, h2, h3, h4⟩ hk
    exact ⟨m, vs, h1.at' fun o e => hk _ (.head _) o e, h2, h3.at fun o e => hk _ (.tail _ (.head _)) o e, h4⟩
  case h0 => exact ⟨_, [], hn₅, rfl, hD5, .nil⟩
  case turn =>
    rintro i d u s₆ hd ⟨tu, rfl⟩ st6 ⟨m, vs, h1, h2, h3, h4⟩
    refine wpAny_storeName_local rfl h1 (fun h' hn' hs => ?_) rfl
    have st67 : Stp [L] s₆ { s₆ with heap := h', toks := s₆.toks + 1 } := .same hs
    have hD7 : h'.PlainList Da vs.toArray := h3.at fun o e => st67.keep _ o (fun hm => hDL (List.mem_singleton.mp hm)) e
    have hfold : dedup (xs.take (i + 1)) = dedupStep (dedup (xs.take i)) d := by unfold dedup; rw [List.take_add_one, hd]; simp
    have hlv : vs.length ≤ 1000 := by
      have e1 := h4.length
      have e2 := dedup_len (xs.take i)
      rw [List.length_take] at e2
      omega
    have hn7 : h'.Ns L (fun y => if y = (Str.ofString "t") then some (Value.str (tx d) tu) else m y) := hn'
    have up : ∀ {sx : Shared}, Stp [L, Da] { s₆ with heap := h', toks := s₆.toks + 1 } sx → Stp [L, Da] s₆ sx := fun {sx} h => (st67.weaken fun c hc => by rw [List.mem_singleton.mp hc]; exact .head _).trans h
    refine x_if (c := !(dedup (xs.take i)).contains d) (tr_cmp (W := []) (ev_local hn7 rfl ⟨tu, rfl⟩ (mono_t _)) (ev_local hn7 h2 ⟨Da, vs, rfl, LAt.of hD7 (fun h => nomatch h), h4.imp fun _ _ h => h⟩ (mono_lst mono_t _)) (mono_t _) c_notInL (held_nil _)) (fun hc s₈ a₈ => ?_) (fun hc s₈ a₈ => ?_)
    · have hn8 := hn7.keeps a₈.all
      have hD8 : s₈.heap.PlainList Da vs.toArray := hD7.at fun o e => a₈.all _ o e
      refine x_append (W := [L, Da]) (d := Da) (vs := vs) (ev_local hn8 h2 rfl (mono_v _)) hD8 (sl (by omega)) (ev_local (D := isT d) hn8 rfl ⟨tu, rfl⟩ (mono_t _)) (hW hn8 hD8) (.tail _ (.head _)) (mono_t _) (fun v s₉ a₉ dd hp => ?_)
      refine x_nil (x_nil ⟨up (a₈.of_nil.trans (a₉.weaken fun c hc => by rw [List.mem_singleton.mp hc]; exact .tail _ (.head _))), _, vs ++ [v], hn8.at' fun o e => a₉.keep _ o (fun hm => hDL (List.mem_singleton.mp hm).symm) e, h2, hp, ?_⟩)
      rw [hfold]
      unfold dedupStep
      rw [if_neg (by simpa using hc)]
      exact h4.snoc dd
    · refine x_nil (x_nil ⟨up a₈.of_nil, _, vs, hn7.keeps a₈.all, h2, hD7.at fun o e => a₈.all _ o e, ?_⟩)
      rw [hfold]
      unfold dedupStep
      rw [if_pos (by simpa using hc)]
      exact h4
  case done =>
    rintro s₆ st6 ⟨m, vs, h1, h2, h3, h4⟩
    rw [List.take_length] at h4
    have hDW : Da ∉ W := fun hm => hD.notin (.tail _ hm)
    refine x_return (W := W) (D := fun g v => isLst isT (dedup xs) g v ∧ v = .ref Da) (ev_local h1 h2 ⟨⟨Da, vs, rfl, LAt.of h3 hDW, h4.imp fun _ _ h => h⟩, rfl⟩ (fun g g' v hg h => ⟨mono_lst mono_t _ _ _ _ hg h.1, h.2⟩)) (hw.stp (st5.fresh st6 hM)) (fun r s' b d => ⟨(st5.fresh st6 hM).trans b, d.1, Da, d.2, hDs⟩)
end
end Mine

namespace Mine
/-- those of S change their slots at most, all else stays -/
structure SStp (S : List Addr) (s s' : Shared) : Prop extends Stp S s s' where
  slots : ∀ b ∈ S, ∀ o, s.heap.get? b = some o → ∃ sl, s'.heap.get? b = some { o with slots := sl }
theorem SStp.of {S : List Addr} {s s' : Shared} (a : Stp [] s s') : SStp S s s' := ⟨a.of_nil, fun b _ o e => ⟨o.slots, a.all b o e⟩⟩
theorem SStp.trans {S : List Addr} {s s' s'' : Shared} (a : SStp S s s') (b : SStp S s' s'') : SStp S s s'' :=
  ⟨a.toStp.trans b.toStp, fun c hc o e => by
    obtain ⟨sl, e1⟩ := a.slots c hc o e
    obtain ⟨sl', e2⟩ := b.slots c hc _ e1
    exact ⟨sl', e2⟩⟩
theorem SStp.ns {S : List Addr} {s s' : Shared} (a : SStp S s s') {L : Addr} {m : Str → Option Value} (h : s.heap.Ns L m) : s'.heap.Ns L m := by
  obtain ⟨o, es, ep, ho, hd, r⟩ := h
  by_cases hL : L ∈ S
  · obtain ⟨sl, e⟩ := a.slots L hL o ho
    exact ⟨_, es, ep, e, hd, r⟩
  · exact ⟨o, es, ep, a.keep _ o hL ho, hd, r⟩

section
variable {M : Model} {A : Around} {E : Value → Shared → Prop} {s : Shared}
/-- an exception made anew passes its own frame -/
theorem note_new {base : Heap} {env : Env} {outer : List Env} {L e : Addr} {oe : Obj} {vs : Array Value} {Q : Unit → Shared → Prop} (hfr : A.frames = some (env :: outer)) (hl : s.heap.FunFrames base (env :: outer)) (hf : env.frame = some L)
    (he : s.heap.get? e = some oe) (hd : oe.data = .fields vs) (h1 : vs[1]? = some .none)
    (h : ∀ h' tb ts, (∀ b o, b ∉ (env :: outer).filterMap (·.frame) → b ≠ e → s.heap.get? b = some o → h'.get? b = some o) → (∀ b ∈ (env :: outer).filterMap (·.frame), ∀ o, s.heap.get? b = some o → ∃ sl, h'.get? b = some { o with slots := sl }) →
      s.heap.get? tb = none → tb ≠ e → h'.get? e = some (oe.mapFields (·.setIfInBounds 1 (.ref tb))) → h'.get? tb = some { cls := .type "traceback", dict := none, data := .fields ts } → ts[3]? = some (rawInt L) → Q () { s with heap := h' }) :
    wpAny M A (noteFrame (.ref e) env) Q E s := by
  have hsz : 1 < vs.size := (Array.getElem?_eq_some_iff.mp h1).1
  have hef : e ∉ (env :: outer).filterMap (·.frame) := fun hm => by
    obtain ⟨_, o, ho, hnf⟩ := hl.mem hm
    rw [he] at ho; cases ho
    exact hnf vs hd
  unfold noteFrame
  simp only [hf]
  refine wpAny_bind (wpAny_field he hd h1 ?_)
  rw [if_neg (by decide)]
  refine wpAny_bind (wpAny_frameOf_fun hfr hl hf fun h₁ hs₁ => ?_)
  refine wpAny_bind (wpAny_entryPlaceOf fun pl hpl => ?_)
  unfold EntryCells.newEntry newFields
  refine wpAny_bind (wpAny_newObj_type ?_ (hpl.sizeOk5 _ _ _ _ _))
  have he₁ : h₁.get? e = some oe := (hs₁.2.1 e hef).trans he
  have hlt : e < h₁.objs.size := Heap.lt_size he₁
  refine wpAny_setField (Heap.get?_push_of_some _ he₁) hd hsz ?_
  have hTe : h₁.objs.size ≠ e := Nat.ne_of_gt hlt
  refine h _ h₁.objs.size ([Value.none, .ref L, .none, rawInt L, .none] ++ (if pl.isEmpty then List.replicate 6 Value.none else pl)).toArray (fun b o hb hbe q => ?_) (fun b hb o q => ?_) (get_ge (by rw [hs₁.1]; exact Nat.le_refl _)) hTe (Heap.get?_update_self _ (Heap.get?_push_of_some _ he₁) (Obj.isFreed_of_fields (Obj.data_mapFields hd _))) ?_ ?_
  · rw [Heap.get?_update_other _ _ (Ne.symm hbe)]
    exact Heap.get?_push_of_some _ ((hs₁.2.1 b hb).trans q)
  · obtain ⟨sl, e1⟩ := hs₁.2.2 b o q
    refine ⟨sl, ?_⟩
    rw [Heap.get?_update_other _ _ (fun (e2 : e = b) => hef (e2 ▸ hb))]
    exact Heap.get?_push_of_some _ e1
  · rw [Heap.get?_update_other _ _ (Ne.symm hTe)]
    exact Heap.get?_push_size h₁ rfl
  · simp
end
end Mine

namespace Mine
/-- without its first item that is d -/
def rm1 (d : List Nat) : List (List Nat) → Option (List (List Nat))
  | [] => none
  | a :: r => if a == d then some r else (rm1 d r).map (a :: ·)
theorem rm1_some {d : List Nat} : ∀ {acc acc' : List (List Nat)}, rm1 d acc = some acc' → ∃ j, ∃ hj : j < acc.length, acc[j] = d ∧ (∀ m (hm : m < acc.length), m < j → acc[m] ≠ d) ∧ acc' = acc.eraseIdx j
  | [], _, h => nomatch h
  | a :: r, acc', h => by
    unfold rm1 at h
    by_cases q : (a == d) = true
    · rw [if_pos q] at h
      cases h
      exact ⟨0, Nat.succ_pos _, beq_iff_eq.mp q, fun m _ hm => absurd hm (Nat.not_lt_zero _), rfl⟩
    · rw [if_neg q] at h
      obtain ⟨r', hr, e⟩ := Option.map_eq_some_iff.mp h
      obtain ⟨j, hj, h1, h2, h3⟩ := rm1_some hr
      refine ⟨j + 1, Nat.succ_lt_succ hj, by simpa using h1, fun m hm hlt => ?_, by rw [← e, h3]; rfl⟩
      cases m with
      | zero => exact fun e => q (beq_iff_eq.mpr e)
      | succ m => simpa using h2 m (by simpa using hm) (by omega)
theorem rm1_none {d : List Nat} : ∀ {acc : List (List Nat)}, rm1 d acc = none → ∀ a ∈ acc, a ≠ d
  | [], _, _, h => nomatch h
  | a :: r, h, b, hb => by
    unfold rm1 at h
    by_cases q : (a == d) = true
    · rw [if_pos q] at h; cases h
    · rw [if_neg q] at h
      rcases List.mem_cons.mp hb with rfl | hb
      · exact fun e => q (beq_iff_eq.mpr e)
      · exact rm1_none (Option.map_eq_none_iff.mp h) b hb
theorem All2.eraseIdx {α β : Type} {R : α → β → Prop} : ∀ {as : List α} {bs : List β} (k : Nat), All2 R as bs → All2 R (as.eraseIdx k) (bs.eraseIdx k)
  | _, _, _, .nil => by simpa using All2.nil
  | _, _, 0, .cons _ h => by simpa using h
  | _, _, k + 1, .cons x h => by simpa using All2.cons x (All2.eraseIdx k h)
theorem All2.at {α β : Type} {R : α → β → Prop} {as : List α} {bs : List β} (h : All2 R as bs) {j : Nat} (h1 : j < as.length) (h2 : j < bs.length) : R as[j] bs[j] := by
  obtain ⟨b, hb, r⟩ := h.get j as[j] (by simp [h1])
  rw [List.getElem?_eq_getElem h2] at hb
  cases hb; exact r
section
variable {prog : Program} {w : World} {A : Around} {env : Env} {W M : List Addr} {s : Shared} {D : Dsc} {E : Value → Shared → Prop}
/-- a loop whose turns may raise -/
theorem e_for {γ : Type} {R₀ : γ → Dsc} {xs : List γ} {iter : Expr} {x : Str} {px pos : Pos} {body : List Stmt} {Qf : Flow → Shared → Prop} (J : Nat → Heap → Prop)
    (h : Ev prog w A env iter W s D) (hw : Held W s) (hit : ∀ s₁ v, Stp [] s s₁ → Held W s₁ → D (vw W s₁.heap) v → Srcs prog w A M W R₀ xs v s₁) (hMW : ∀ b ∈ M, b ∈ W) (hR₀ : ∀ d, Mono (R₀ d))
    (hJ : ∀ i h h', J i h → (∀ b ∈ M, ∀ o, h.get? b = some o → h'.get? b = some o) → J i h') (h0 : J 0 s.heap)
    (turn : ∀ i d v s₂, xs[i]? = some d → R₀ d (vw W s₂.heap) v → Stp M s s₂ → J i s₂.heap →
      wpAny (model prog w) A (storeName env x v) (fun _ s₃ => wpAny (model prog w) A (execs body env) (fun f s₄ => match f with
        | .next | .cont => Stp M s₂ s₄ ∧ J (i + 1) s₄.heap
        | .brk => Qf .next s₄
        | .ret v => Qf (.ret v) s₄) (notedBy (model prog w) A env (cameBackBy (model prog w) A env E)) s₃) NoE s₂)
    (done : ∀ s', Stp M s s' → J xs.length s'.heap → Qf .next s')
    (hs : ∀ x, foldedSetIterable iter env x = pure x := by intro _; rfl) : wpAny (model prog w) A (exec (.For (.Name x px) iter body [] pos) env) Qf E s := by
  refine wpAny_For (wpAny_mono (h.at hw) (fun v s₁ ⟨a, d⟩ => ?_) fun _ _ x => x.elim) hs
  obtain ⟨P, hI, hP⟩ := hit s₁ v a (hw.stp a) d
  refine wpAny_mono hI (fun it s₂ y => ?_) fun _ _ x => x.elim
  obtain ⟨I, fp, wr, St, rfl, Wk, hst, b, hnew, hfp, _⟩ := y
  have hwrM : ∀ c ∈ wr, c ∉ M := fun c hc => hfp c (Wk.sub c hc)
  refine codeAny_forLoop (fun k s' => ∃ i, i ≤ xs.length ∧ k = xs.length - i ∧ St i s'.heap ∧ Stp M s₁ s' ∧ J i s'.heap) ?_ xs.length ⟨0, Nat.zero_le _, rfl, hst, b.of_nil, hJ 0 _ _ h0 fun c _ o e => (a.trans b).all c o e⟩
  rintro k s' ⟨i, hi, rfl, hst', st', hj⟩
  rcases Nat.lt_or_eq_of_le hi with hlt | heq
  · refine Wk.item i s' _ _ hlt hst' (fun v h' tk hPv hst₁ hk => ?_)
    have stn : Stp M s₁ { s' with heap := h', toks := tk } := ⟨fun c o hc e => hk c o (fun hm => by rw [hnew c hm] at e; cases e) (st'.keep c o hc e), st'.os, st'.bare, st'.old⟩
    have hj' : J i h' := hJ i _ _ hj fun c hc o e => hk c o (fun hm => hwrM c hm hc) e
    obtain ⟨d, hd, r⟩ := hP i v hPv
    refine wpAny_assign_Name (wpAny_mono (turn i d v _ hd (hR₀ d _ _ v (stn.vle' hMW) r) (a.of_nil.trans stn) hj') (fun _ s₃ g => wpAny_mono g (fun f s₄ q => ?_) fun _ _ x => x) fun _ _ x => x.elim)
    cases f with
    | next => exact ⟨xs.length - (i + 1), by omega, i + 1, hlt, rfl, Wk.frame _ _ _ hst₁ fun c hc o e => q.1.keep c o (hfp c hc) e, stn.trans q.1, q.2⟩
    | cont => exact ⟨xs.length - (i + 1), by omega, i + 1, hlt, rfl, Wk.frame _ _ _ hst₁ fun c hc o e => q.1.keep c o (hfp c hc) e, stn.trans q.1, q.2⟩
    | brk => exact q
    | ret v => exact q
  · subst heq
    refine Wk.done s' _ _ hst' (fun h' tk hk => wpAny_execs_nil ?_)
    refine done _ (a.of_nil.trans ⟨fun c o hc e => hk c o (fun hm => by rw [hnew c hm] at e; cases e) (st'.keep c o hc e), st'.os, st'.bare, st'.old⟩) (hJ _ _ _ hj fun c hc o e => hk c o (fun hm => hwrM c hm hc) e)
/-- remove of a text from a list of texts -/
theorem call_remove {Da : Addr} {vs : List Value} {acc : List (List Nat)} {d : List Nat} {t : Tok} {Q : Value → Shared → Prop} (hh : A.handled = none) (hD : s.heap.PlainList Da vs.toArray) (hx : All2 (fun d u => isT d (fun _ => none) u) acc vs) (hsz : vs.length ≤ sizeLine)
    (hok : ∀ acc', rm1 d acc = some acc' → ∀ s' vs', Stp [Da] s s' → s'.heap.PlainList Da vs'.toArray → All2 (fun d u => isT d (fun _ => none) u) acc' vs' → Q .none s')
    (hno : rm1 d acc = none → ∀ h' tk e, Heap.NewExc s.heap h' e "ValueError" → E (.ref e) { s with heap := h', toks := tk }) :
    wpAny (model prog w) A (call (.builtin "list.remove") [.ref Da, .str (tx d) t]) Q E s := by
  obtain ⟨n, ho⟩ := id hD
  have hT : s.TypeIs (.ref Da) "list" := ⟨_, ho, rfl⟩
  have heq : ∀ y, y ∈ vs.toArray → MeetsSeq.EqGives y (.str (tx d) t) ((txtOf y).cps.toList == d) := fun y hy => by
    obtain ⟨a, _, ⟨ty, rfl⟩⟩ := hx.mem (by simpa using hy)
    exact SeqRoads2.EqGives.str (tx a) (tx d) ty t
  cases hr : rm1 d acc with
  | none =>
    have hm := rm1_none hr
    refine call_meets F.slot_list_remove hT F.entry_list_remove (F.args_list_remove_2 _ _) (MeetsSeq.list_remove_none Da vs.toArray n (.str (tx d) t) _ heq (fun m hm' => ?_)) ⟨ho, hh, fun h' tk e hx => hno hr h' tk e hx⟩
    have hm2 : m < vs.length := by simpa using hm'
    have hma : m < acc.length := by rw [hx.length]; exact hm2
    have := hx.at (j := m) hma hm2
    obtain ⟨ty, e⟩ := this
    simp only [List.getElem_toArray]
    rw [e]
    show ((tx acc[m]).cps.toList == d) = false
    rw [tx_cps]
    exact beq_eq_false_iff_ne.mpr (hm _ (List.getElem_mem _))
  | some acc' =>
    obtain ⟨j, hj, h1, h2, h3⟩ := rm1_some hr
    have hjv : j < vs.length := by rw [← hx.length]; exact hj
    refine call_meets F.slot_list_remove hT F.entry_list_remove (F.args_list_remove_2 _ _) (MeetsSeq.list_remove Da vs.toArray n (.str (tx d) t) _ heq j (by simpa using hjv) ?_ (fun m hm' hlt => ?_) (by simpa using hsz)) ⟨ho, ?_⟩
    · obtain ⟨ty, e⟩ := hx.at hj hjv
      simp only [List.getElem_toArray]
      rw [e]
      show ((tx acc[j]).cps.toList == d) = true
      rw [tx_cps, h1]; exact beq_self_eq_true _
    · have hm2 : m < vs.length := by simpa using hm'
      have hma : m < acc.length := by rw [hx.length]; exact hm2
      obtain ⟨ty, e⟩ := hx.at (j := m) hma hm2
      simp only [List.getElem_toArray]
      rw [e]
      show ((tx acc[m]).cps.toList == d) = false
      rw [tx_cps]
      exact beq_eq_false_iff_ne.mpr (h2 m hma hlt)
    · refine hok acc' hr _ (vs.eraseIdx j) (.heap fun b o hb e => ?_) ?_ (by rw [h3]; exact hx.eraseIdx j)
      · rw [Heap.get?_update_other _ _ (fun (q : Da = b) => hb (by rw [q]; exact .head _))]; exact e
      · obtain ⟨n', hd'⟩ : ∃ n', Obj.mapSeq (fun xs => xs.eraseIdxIfInBounds j) ({ cls := .type "list", data := .seq vs.toArray n } : Obj) = { cls := .type "list", data := .seq (vs.eraseIdx j).toArray n' } := by
          have e1 : vs.toArray.eraseIdxIfInBounds j = (vs.eraseIdx j).toArray := by simp [Array.eraseIdxIfInBounds, hjv]
          exact ⟨if (vs.toArray.eraseIdxIfInBounds j).size == vs.toArray.size then n else n + 1, by rw [← e1]; rfl⟩
        exact ⟨n', by rw [← hd']; exact Heap.get?_update_self _ ho (by rw [hd']; rfl)⟩
end
end Mine

namespace Mine
/-- the frames change their slots at most, the exception changes, all else stays -/
structure ExcStp (F : List Addr) (ex : Addr) (s s' : Shared) : Prop where
  keep : ∀ b o, b ∉ F → b ≠ ex → s.heap.get? b = some o → s'.heap.get? b = some o
  slots : ∀ b ∈ F, ∀ o, s.heap.get? b = some o → ∃ sl, s'.heap.get? b = some { o with slots := sl }
  os : s'.os = s.os
  gens : s'.gens = s.gens
theorem ExcStp.ns {F : List Addr} {ex : Addr} {s s' : Shared} (x : ExcStp F ex s s') {a : Addr} {m : Str → Option Value} (h : s.heap.Ns a m) (hne : a ≠ ex) : s'.heap.Ns a m := by
  obtain ⟨o, es, ep, ho, hd, r⟩ := h
  by_cases hF : a ∈ F
  · obtain ⟨sl, e⟩ := x.slots a hF o ho
    exact ⟨_, es, ep, e, hd, r⟩
  · exact ⟨o, es, ep, x.keep a o hF hne ho, hd, r⟩
section
variable {prog : Program} {w : World} {A : Around} {s : Shared} {env : Env}
theorem fields_set {o : Obj} {vs : Array Value} (hd : o.data = .fields vs) (i : Nat) (x : Value) : (o.mapFields (·.setIfInBounds i x)).data = .fields (vs.setIfInBounds i x) := Obj.data_mapFields hd _
/-- an exception made anew in the try's body, held by its one clause -/
theorem caught {base : Heap} {outer : List Env} {L ex : Addr} {oe : Obj} {vs : Array Value} {t : Expr} {b₀ : Stmt} {suite : List Stmt} {pos : Pos} {Q : Flow → Shared → Prop}
    (hfr : A.frames = some (env :: outer)) (hfl : s.heap.FunFrames base (env :: outer)) (hf : env.frame = some L) (he : s.heap.get? ex = some oe) (hcls : oe.cls = .type "ValueError") (hd : oe.data = .fields vs) (h1 : vs[1]? = some .none)
    (hname : ∀ s', ExcStp ((env :: outer).filterMap (·.frame)) ex s s' → wpAny (model prog w) (A.mark (some (.ref ex))) (eval t env) (fun c s₁ => c = .type "ValueError" ∧ Stp [] s' s₁) NoE s')
    (k : ∀ s' s'', ExcStp ((env :: outer).filterMap (·.frame)) ex s s' → Stp [] s' s'' → ∀ h₃ tb, s.heap.get? tb = none → Heap.SameBut tb s''.heap h₃ → wpAny (model prog w) (A.mark (some (.ref ex))) (execs (b₀ :: suite) env) Q NoE { s'' with heap := h₃ }) :
    notedBy (model prog w) A env (cameBackBy (model prog w) A env (fun e s₁ => wpAny (model prog w) A (noteFrame e env) (fun _ s₂ => wpAny (model prog w) A (setFlight e none) (fun _ s₃ =>
      wpAny (model prog w) A (handleBy e env [.ExceptHandler (some t) none (b₀ :: suite) pos]) Q NoE s₃) NoE s₂) NoE s₁)) (.ref ex) s := by
  have hsz : 1 < vs.size := (Array.getElem?_eq_some_iff.mp h1).1
  have hexF : ex ∉ (env :: outer).filterMap (·.frame) := fun hm => by
    obtain ⟨_, o, ho, hnf⟩ := hfl.mem hm
    rw [he] at ho; cases ho
    exact hnf vs hd
  refine note_new hfr hfl hf he hd h1 (fun h₁ tb ts hk₁ hsl₁ htb htbe he₁ htb₁ h3 => ?_)
  have htbF : tb ∉ (env :: outer).filterMap (·.frame) := fun hm => by
    obtain ⟨_, o, ho, _⟩ := hfl.mem hm
    rw [htb] at ho; cases ho
  have hde := fields_set hd 1 (.ref tb)
  have h1' : (vs.setIfInBounds 1 (.ref tb))[1]? = some (.ref tb) := by simp [hsz]
  have hs3 : 3 < ts.size := (Array.getElem?_eq_some_iff.mp h3).1
  -- back from the loop: the flight is set anew
  show wpAny (model prog w) A (do
    if (← field (.ref ex) 1) == .none then unsupported "frame.own-activation:exception-without-traceback"
    setFlight (.ref ex) env.frame) _ _ _
  refine wpAny_bind (wpAny_field he₁ hde h1' ?_)
  rw [if_neg (show ¬ ((Value.ref tb == Value.none) = true) from by simp)]
  unfold setFlight
  refine wpAny_bind (wpAny_field he₁ hde h1' ?_)
  rw [if_pos (show (Value.ref tb != Value.none) = true from by simp), hf]
  show wpAny (model prog w) A (setField (.ref tb) 3 (rawInt L)) _ _ _
  refine wpAny_setField htb₁ rfl hs3 ?_
  -- one state of the traceback, whatever its third field
  have upd : ∀ (h : Heap) (ts' : Array Value) (x : Value), h.get? ex = some (oe.mapFields (·.setIfInBounds 1 (.ref tb))) → h.get? tb = some { cls := .type "traceback", dict := none, data := .fields ts' } → 3 < ts'.size →
      (h.update tb (Obj.mapFields (·.setIfInBounds 3 x))).get? ex = some (oe.mapFields (·.setIfInBounds 1 (.ref tb))) ∧
      (h.update tb (Obj.mapFields (·.setIfInBounds 3 x))).get? tb = some { cls := .type "traceback", dict := none, data := .fields (ts'.setIfInBounds 3 x) } := fun h ts' x q1 q2 q3 =>
    ⟨by rw [Heap.get?_update_other _ _ htbe]; exact q1, Heap.get?_update_self _ q2 rfl⟩
  obtain ⟨he₂, htb₂⟩ := upd _ _ (rawInt L) he₁ htb₁ hs3
  refine wpAny_noteFrame_inFlight hf he₂ hde h1' htb₂ rfl (by simp [hs3]) ?_
  refine wpAny_setFlight_none he₂ hde h1' htb₂ rfl (by simpa using hs3) ?_
  obtain ⟨he₃, htb₃⟩ := upd _ _ Value.none he₂ htb₂ (by simpa using hs3)
  generalize hH : ((h₁.update tb (Obj.mapFields (·.setIfInBounds 3 (rawInt L)))).update tb (Obj.mapFields (·.setIfInBounds 3 Value.none))) = H at he₃ htb₃
  have hother : ∀ b, b ≠ tb → H.get? b = h₁.get? b := fun b hb => by
    rw [← hH, Heap.get?_update_other _ _ (Ne.symm hb), Heap.get?_update_other _ _ (Ne.symm hb)]
  have xs : ExcStp ((env :: outer).filterMap (·.frame)) ex s { s with heap := H } := ⟨fun b o hb hbe q => by
      show H.get? b = some o
      rw [hother b (fun e => by rw [e, htb] at q; cases q)]
      exact hk₁ b o hb hbe q, fun b hb o q => by
      obtain ⟨sl, e1⟩ := hsl₁ b hb o q
      refine ⟨sl, ?_⟩
      show H.get? b = _
      rw [hother b (fun e => htbF (e ▸ hb))]
      exact e1, rfl, rfl⟩
  refine wpAny_handleBy_builtin (X := "ValueError") (T := "ValueError") (b := true) (isSubtype_of_subB (by decide +kernel)) (isSubtype_of_subB (by decide +kernel)) (isSubtype_of_subB (by decide +kernel))
    (wpAny_mono (hname { s with heap := H } xs) (fun c s₁ ⟨e, a⟩ => ⟨e, ⟨_, a.all _ _ he₃, by rw [Obj.cls_mapFields]; exact hcls⟩, ?_⟩) fun _ _ x => x.elim)
  rw [if_pos rfl]
  refine wpAny_setFlight_none (a.all _ _ he₃) hde h1' (a.all _ _ htb₃) rfl (by simpa using hs3) ?_
  exact wpAny_mono (k _ s₁ xs a _ tb htb (Heap.SameBut.update ..)) (fun _ _ x => x) fun _ _ x => x.elim
end
end Mine

namespace Mine
def rmAll (xs ys : List (List Nat)) : Option (List (List Nat)) := xs.foldlM (fun acc d => rm1 d acc) ys
def cmpP (xs ys : List (List Nat)) : Bool := match rmAll (dedup xs) (dedup ys) with
  | some r => r.isEmpty
  | none => false
theorem rmAll_step {l ys : List (List Nat)} {i : Nat} {d : List Nat} {acc : List (List Nat)} (h : rmAll (l.take i) ys = some acc) (hd : l[i]? = some d) : rmAll (l.take (i + 1)) ys = rm1 d acc := by
  unfold rmAll at *
  rw [List.take_add_one, hd, List.foldlM_append, h]
  simp
theorem rmAll_stop {l ys : List (List Nat)} {i : Nat} (h : rmAll (l.take i) ys = none) : rmAll l ys = none := by
  have e : l = l.take i ++ l.drop i := (List.take_append_drop i l).symm
  unfold rmAll at *
  rw [e, List.foldlM_append, h]; rfl
theorem rm1_len {d : List Nat} {acc acc' : List (List Nat)} (h : rm1 d acc = some acc') : acc'.length ≤ acc.length := by
  obtain ⟨j, hj, _, _, rfl⟩ := rm1_some h
  rw [List.length_eraseIdx]; split <;> omega
section
variable {prog : Program} {w : World} {A : Around} {env : Env} {W : List Addr} {s : Shared} {δ : Type} {R : δ → Dsc}
/-- list(a list) -/
theorem ev_listL {fe e : Expr} {pos : Pos} {ds : List δ} (hn : Ev prog w A env fe W s (isV (.type "list"))) (h : Ev prog w A env e W s (isLst R ds)) (hR : ∀ d, Mono (R d)) (hsz : ds.length ≤ sizeLine)
    (he : eval (.Call fe [e] [] pos) env = (do callWith pos (← eval fe env) [] (backTo pos (starEach [e] env)) (backToKw pos (keywordEach [] env))) := by rfl)
    (hs : starEach [e] env = (false, eval e env) :: starEach [] env := by rfl) : Ev prog w A env (.Call fe [e] [] pos) W s (fun g v => isLst R ds g v ∧ New s v) :=
  ev_callT hn (evAll_cons h (mono_lst hR _) evAll_nil hs) (fun s₁ vs a hw ⟨u, us, e, ⟨ad, ws, e', l, x⟩, e''⟩ => by
    subst e'' e' e
    obtain ⟨n, ho⟩ := l.plain
    refine call_list_seq ad (.inl rfl) ho rfl rfl (fun h' c' hk hD => ?_) (by simpa [← x.length] using hsz)
    have st : Stp [] s₁ { s₁ with heap := h' } := .heap fun b o _ e => hk b o e
    exact ⟨st, ⟨_, ws, rfl, ⟨c', vw_of (hw.new (Nat.le_refl _)) hD⟩, x.imp fun d u r => hR d _ _ u st.of_nil.vle r⟩, new_size a⟩) he hs
theorem ev_notL {e : Expr} {pos : Pos} {ds : List δ} (h : Ev prog w A env e W s (isLst R ds)) (hsz : ds.length < 2 ^ 62) : Ev prog w A env (.UnaryOp .Not e pos) W s (isV (.bool ds.isEmpty)) := fun s₁ a hw => by
  rw [arm_eval_UnaryOp]
  refine wpAny_bind (wpAny_mono (h s₁ a hw) (fun v s₂ ⟨b, d⟩ => wpAny_bind (wpAny_standAt (wpAny_holding ?_))) fun _ _ x => x)
  obtain ⟨ad, vs, rfl, l, x⟩ := d
  refine not_of (wpAny_truthy_list l.isList (by simp only [List.size_toArray, ← x.length]; omega) ⟨b.trans .toks, ?_⟩)
  have e : vs.toArray.isEmpty = ds.isEmpty := by
    cases x <;> rfl
  show Value.bool (!!vs.toArray.isEmpty) = _
  rw [Bool.not_not, e]
end
section
variable {w : World} {mg mb : Str → Option Value} {s : Shared} {A : Around} {W : List Addr} {k : Nat}
theorem g_dedup {h : Heap} (X : Wd w mg mb h) : mg "_deduplicate_unhashable" = some (.ref 43) := (glob_of X.toWld rfl rfl _).trans rfl
theorem b_list {h : Heap} (X : Wd w mg mb h) : mg "list" = none ∧ mb "list" = some (.type "list") := ⟨(glob_of X.toWld rfl rfl _).trans rfl, (X.bt _ (by decide)).trans (by decide +kernel)⟩
theorem b_value {h : Heap} (X : Wd w mg mb h) : mg "ValueError" = none ∧ mb "ValueError" = some (.type "ValueError") := ⟨(glob_of X.toWld rfl rfl _).trans rfl, (X.bt _ (by decide)).trans (by decide +kernel)⟩
/-- the call of the list's dedup, as an expression -/
theorem ev_dedup {env : Env} {fe e : Expr} {pos : Pos} {xs : List (List Nat)} (X : Wd w mg mb s.heap) (hA : AOk (k + 1) A) (hfe : Ev PG w A env fe W s (isV (.ref 43))) (he : Ev PG w A env e W s (isLst isT xs)) (hlen : xs.length ≤ 1000)
    (hc : eval (.Call fe [e] [] pos) env = (do callWith pos (← eval fe env) [] (backTo pos (starEach [e] env)) (backToKw pos (keywordEach [] env))) := by rfl)
    (hs : starEach [e] env = (false, eval e env) :: starEach [] env := by rfl) : Ev PG w A env (.Call fe [e] [] pos) W s (isLst isT (dedup xs)) := by
  obtain ⟨o, fd, ho, hd⟩ : ∃ o fd, (KK w).lookup 43 = some o ∧ o.data = .func fd := ⟨_, _, rfl, rfl⟩
  refine ev_callF hfe (X.kin 43 o ho) hd (evAll_cons he (mono_lst mono_t _) evAll_nil hs) (fun s₁ vs a hw ⟨u, us, e1, h1, e2⟩ => ?_) hc hs
  subst e2; subst e1
  exact wpAny_mono (dedup_spec (X.stp a) hA h1 hlen hw) (fun r s' ⟨b, c, _⟩ => ⟨b, c⟩) fun _ _ x => x
set_option maxHeartbeats 4000000 in
theorem cmp_spec (X : Wd w mg mb s.heap) (hA : AOk (k + 2) A) {outer : List Env} (hfr : A.frames = some outer) (hfl : s.heap.FunFrames {} outer) {v u : Value} {xs ys : List (List Nat)} (hv : isLst isT xs (vw W s.heap) v) (hu : isLst isT ys (vw W s.heap) u) (hx : xs.length ≤ 1000) (hy : ys.length ≤ 1000) (hw : Held W s) :
    wpAny (model PG w) A (call (.ref 50) [v, u]) (fun r s' => SStp (outer.filterMap (·.frame)) s s' ∧ r = .bool (cmpP xs ys)) NoE s := by
  refine call_def hA.room X.nl (X.kin 50 _ rfl) rfl (codeRec_of X.kin (by rfl)) rfl (BindsTo.of_eq (binds := [("first_args", v), ("second_args", u)]) rfl) (by decide) (locs (by rfl)) ?_
  intro s₁ a₁ hL hn₁
  generalize hLe : s.heap.objs.size = L at hL hn₁ ⊢
  have hLlt : ∀ b ∈ outer.filterMap (·.frame), b ≠ L := fun b hb e => by
    obtain ⟨_, o, ho, _⟩ := hfl.mem hb
    rw [e, hL] at ho; cases ho
  have hLW : L ∉ W := by rw [← hLe]; exact hw.new (Nat.le_refl _)
  have hw1 : ∀ {sx : Shared} {m : Str → Option Value}, Stp [] s sx → sx.heap.Ns L m → Held (L :: W) sx := fun {sx m} h h' => by obtain ⟨o, _, _, ho, _⟩ := h'; exact .cons ho (hw.stp h)
  have hA' : ∀ env, AOk (k + 1) (A.deeper env) := fun env => hA.deeper
  have hv1 : isLst isT xs (vw (L :: W) s₁.heap) v := mono_lst mono_t _ _ _ _ (fun c o e => vw_of (fun hm => by
    rcases List.mem_cons.mp hm with rfl | hm
    · have := (vw_some e).2; rw [hL] at this; cases this
    · exact (vw_some e).1 hm) (a₁.all _ _ (vw_some e).2)) hv
  have hu1 : isLst isT ys (vw (L :: W) s₁.heap) u := mono_lst mono_t _ _ _ _ (fun c o e => vw_of (fun hm => by
    rcases List.mem_cons.mp hm with rfl | hm
    · have := (vw_some e).2; rw [hL] at this; cases this
    · exact (vw_some e).1 hm) (a₁.all _ _ (vw_some e).2)) hu
  have X1 := X.stp a₁
  refine x_assign (W := L :: W) (ev_dedup X1 (hA' _) (ev_global X1.g (g_dedup X)) (ev_local hn₁ rfl hv1 (mono_lst mono_t _)) hx) (hw1 a₁ hn₁) hn₁ (.head _) (mono_lst mono_t _) (fun v₂ s₂ a₂ d₂ hn₂ => ?_)
  have a12 : Stp [L] s₁ s₂ := a₂
  have st2 : Stp [] s s₂ := a₁.fresh a12 (fun c hc => by rw [List.mem_singleton.mp hc]; exact hL)
  have X2 := X.stp st2
  have hu2 := mono_lst mono_t ys _ _ _ (a12.vle' (V := L :: W) fun b hb => by rw [List.mem_singleton.mp hb]; exact .head _) hu1
  refine x_assign (W := L :: W) (ev_dedup X2 (hA' _) (ev_global X2.g (g_dedup X)) (ev_local hn₂ rfl hu2 (mono_lst mono_t _)) hy) (hw1 st2 hn₂) hn₂ (.head _) (mono_lst mono_t _) (fun v₃ s₃ a₃ d₃ hn₃ => ?_)
  have a23 : Stp [L] s₂ s₃ := a₃
  have st3 : Stp [] s s₃ := st2.fresh a23 (fun c hc => by rw [List.mem_singleton.mp hc]; exact hL)
  have X3 := X.stp st3
  have hf3 := mono_lst mono_t (dedup xs) _ _ _ (a23.vle' (V := L :: W) fun b hb => by rw [List.mem_singleton.mp hb]; exact .head _) d₂
  have hdx := dedup_len xs
  have hdy := dedup_len ys
  refine x_assign (W := L :: W) (D := fun g v => isLst isT (dedup ys) g v ∧ New s₃ v) (ev_listL (ev_builtin X3.g (b_list X).1 X3.b (b_list X).2) (ev_local hn₃ rfl d₃ (mono_lst mono_t _)) mono_t (sl (by omega))) (hw1 st3 hn₃) hn₃ (.head _) (fun g g' v hg h => ⟨mono_lst mono_t _ _ _ _ hg h.1, h.2⟩) (fun v₄ s₄ a₄ d₄ hn₄ => ?_)
  obtain ⟨⟨Da, vs, rfl, hD, hvs⟩, ⟨_, hq, hDn⟩⟩ := d₄
  cases hq
  have a34 : Stp [L] s₃ s₄ := a₄
  have st4 : Stp [] s s₄ := st3.fresh a34 (fun c hc => by rw [List.mem_singleton.mp hc]; exact hL)
  have X4 := X.stp st4
  have hDs : s.heap.get? Da = none := get_none_of st3 hDn
  have hDL : Da ≠ L := fun e => hD.notin (by rw [e]; exact .head _)
  have hD4 : s₄.heap.PlainList Da vs.toArray := hD.plain
  have hvs' : All2 (fun d u => isT d (fun _ => none) u) (dedup ys) vs := hvs.imp fun _ _ h => h
  have hM : ∀ c ∈ [L, Da], s.heap.get? c = none := fun c hc => by
    rcases List.mem_cons.mp hc with rfl | hc
    · exact hL
    · rw [List.mem_singleton.mp hc]; exact hDs
  have hW4 : ∀ {sx : Shared} {m : Str → Option Value} {vs : List Value}, sx.heap.Ns L m → sx.heap.PlainList Da vs.toArray → Held [L, Da] sx := fun {sx m vs} h1 h2 => by
    obtain ⟨o, _, _, ho, _⟩ := h1
    obtain ⟨n, e⟩ := h2
    exact .cons ho (.cons e (held_nil _))
  -- the first list, seen without L and the copy
  have hf4 : isLst isT (dedup xs) (vw [L, Da] s₄.heap) v₂ := by
    have h1 := mono_lst mono_t (dedup xs) _ _ _ (a34.vle' (V := L :: W) fun b hb => by rw [List.mem_singleton.mp hb]; exact .head _) hf3
    obtain ⟨b, ws, rfl, l, x⟩ := h1
    obtain ⟨b', ws', e, l', x'⟩ := hf3
    cases e
    have hbD : b ≠ Da := fun e => by
      obtain ⟨n, q⟩ := l'.plain
      rw [e, hDn] at q; cases q
    refine ⟨b, ws, rfl, LAt.of l.plain (fun hm => ?_), x.imp fun _ _ h => h⟩
    rcases List.mem_cons.mp hm with rfl | hm
    · exact l.notin (.head _)
    · exact hbD (List.mem_singleton.mp hm)
  have hF4 : ∀ {sx : Shared} {m : Str → Option Value}, Stp [] s sx → sx.heap.Ns L m → ∀ env : Env, env.scope.kind ≠ .module → env.frame = some L → sx.heap.FunFrames {} (env :: outer) := fun {sx m} hs hn env hk hfm => by
    obtain ⟨o, es, ep, ho, hd, _⟩ := hn
    exact ⟨hk, ⟨L, o, hfm, rfl, ho, fun vs => by rw [hd]; exact fun e => nomatch e⟩, hfl.of_keeps fun b o hb _ => ⟨o, hs.all _ _ hb, rfl⟩⟩
  refine wpAny_execs_cons (wpAny_Try_except (wpAny_execs_cons (e_for (M := [L, Da]) (W := [L, Da]) (R₀ := isT) (xs := dedup xs) (D := isLst isT (dedup xs))
    (fun i h => ∃ m vs acc, h.Ns L m ∧ m "t" = some (.ref Da) ∧ h.PlainList Da vs.toArray ∧ All2 (fun d u => isT d (fun _ => none) u) acc vs ∧ rmAll ((dedup xs).take i) (dedup ys) = some acc ∧ acc.length ≤ 1000)
    (ev_local hn₄ rfl hf4 (mono_lst mono_t _)) (hW4 hn₄ hD4) (fun s₆ u a₆ hw₆ hd => srcs_list hA.hd hd (fun _ h => h) hw₆) (fun _ h => h) mono_t ?hJ ?h0 ?turn ?done)))
  case hJ =>
    rintro i h h' ⟨m, vs, acc, h1, h2, h3, h4, h5, h6⟩ hk
    exact ⟨m, vs, acc, h1.at' fun o e => hk _ (.head _) o e, h2, h3.at fun o e => hk _ (.tail _ (.head _)) o e, h4, h5, h6⟩
  case h0 => exact ⟨_, vs, dedup ys, hn₄, rfl, hD4, hvs', rfl, by omega⟩
  case done =>
    rintro s₅ st5 ⟨m, ws, acc, h1, h2, h3, h4, h5, h6⟩
    rw [List.take_length] at h5
    refine wpAny_execs_nil (wpAny_execs_nil ?_)
    have stx : Stp [] s s₅ := st4.fresh st5 hM
    refine x_return (W := []) (D := isV (.bool acc.isEmpty)) (ev_notL (R := isT) (ev_local h1 h2 ⟨Da, ws, rfl, LAt.of h3 (fun h => nomatch h), h4.imp fun _ _ h => h⟩ (mono_lst mono_t _)) (by omega)) (held_nil _) (fun r s' b d => ⟨SStp.of (stx.trans b), ?_⟩)
    cases d
    unfold cmpP
    rw [h5]
  case turn =>
    rintro i d uv s₅ hd ⟨tu, rfl⟩ st5 ⟨m, ws, acc, h1, h2, h3, h4, h5, h6⟩
    refine wpAny_storeName_local rfl h1 (fun h' hn' hs => ?_) rfl
    have st56 : Stp [L] s₅ { s₅ with heap := h', toks := s₅.toks + 1 } := .same hs
    have hD6 : h'.PlainList Da ws.toArray := h3.at fun o e => st56.keep _ o (fun hm => hDL (List.mem_singleton.mp hm)) e
    have hn6 : h'.Ns L (fun y => if y = (Str.ofString "elem") then some (Value.str (tx d) tu) else m y) := hn'
    have sts6 : Stp [] s { s₅ with heap := h', toks := s₅.toks + 1 } := st4.fresh (st5.trans (st56.weaken fun c hc => by rw [List.mem_singleton.mp hc]; exact .head _)) hM
    have hstep := rmAll_step h5 hd
    refine wpAny_execs_cons (wpAny_Expr (Call_method1 rfl rfl rfl ?_))
    refine wpAny_mono (EvT.at (D := isV (.ref Da)) (W := []) ?e1 (held_nil _)) (fun ov s₇ ⟨a₇, q⟩ => ?_) fun _ _ x => x.elim
    case e1 => exact ev_local hn6 h2 rfl (mono_v _)
    cases q
    have hD7 : s₇.heap.PlainList Da ws.toArray := hD6.at fun o e => a₇.all _ o e
    refine ⟨"list", "list.remove", F.plainAttrs_list, F.slot_list_remove, F.type_list_remove, hD7.isList.typeIs, (fun a e => by cases e; obtain ⟨n, q⟩ := hD7; exact ⟨_, q, rfl⟩), ?_⟩
    refine Calls.callWith_builtin rfl (Calls.evalArgs_plain (Calls.spliced_cons ?_))
    refine wpAny_mono (EvT.at (D := isT d) (W := []) ?e2 (held_nil _)) (fun uu s₈ ⟨a₈, q⟩ => Calls.spliced_nil ?_) fun _ _ x => x.elim
    case e2 => exact ev_local (hn6.keeps a₇.all) rfl ⟨tu, rfl⟩ (mono_t _)
    obtain ⟨tt, rfl⟩ := q
    have a68 := a₇.trans a₈
    refine call_remove hA.hd (hD7.at fun o e => a₈.all _ o e) h4 (sl (by have := h4.length; omega)) (fun acc' hr s₉ ws' st9 hp hx => ?_) (fun hr h₉ tk ex hx => ?_)
    · refine wpAny_execs_nil ⟨?_, _, ws', acc', (hn6.keeps a68.all).at' fun o e => st9.keep _ o (fun hm => hDL (List.mem_singleton.mp hm).symm) e, h2, hp, hx, by rw [hstep]; exact hr, Nat.le_trans (rm1_len hr) h6⟩
      exact ((st56.weaken fun c hc => by rw [List.mem_singleton.mp hc]; exact .head _).trans a68.of_nil).trans (st9.weaken fun c hc => by rw [List.mem_singleton.mp hc]; exact .tail _ (.head _))
    · have hfail : rmAll (dedup xs) (dedup ys) = none := rmAll_stop (i := i + 1) (by rw [hstep]; exact hr)
      obtain ⟨ob, t0, hob, hcl, hdt⟩ := hx.there
      have st9 : Stp [] s { s₈ with heap := h₉, toks := tk } := (sts6.trans a68).trans (.heap fun b o _ e => hx.keeps b o e)
      have hn9 : h₉.Ns L _ := (hn6.keeps a68.all).keeps hx.keeps
      have hexs : s.heap.get? ex = none := get_none_of (sts6.trans a68) hx.new
      refine caught (s := { s₈ with heap := h₉, toks := tk }) (base := {}) (outer := outer) (L := L) (by show A.frames.map _ = _; rw [hfr]; rfl) (hF4 st9 hn9 _ (fun e => nomatch e) rfl) rfl hob hcl hdt rfl (fun s₁₀ x10 => ?_) (fun s₁₀ s₁₁ x10 a11 h₁₂ tb htb hsb => ?_)
      · have X9 := X.stp st9
        have hg10 : s₁₀.heap.Ns mainGlobals mg := x10.ns X9.g (fun e => by obtain ⟨o, _, _, ho, _⟩ := X.g; rw [e, hexs] at ho; cases ho)
        have hb10 : s₁₀.heap.Ns builtinsNs mb := x10.ns X9.b (fun e => by obtain ⟨o, _, _, ho, _⟩ := X.b; rw [e, hexs] at ho; cases ho)
        refine wpAny_mono (EvT.at (D := isV (.type "ValueError")) (W := []) ?e3 (held_nil _)) (fun c s₁₁ ⟨a, q⟩ => ⟨q, a⟩) fun _ _ x => x
        case e3 => exact ev_builtin hg10 (b_value X).1 hb10 (b_value X).2
      · refine x_return (W := []) (ev_bool false) (held_nil _) (fun r s' b d => ?_)
        cases d
        refine ⟨?_, ?_⟩
        · have hne : ∀ {c : Addr} {o : Obj}, s.heap.get? c = some o → c ≠ tb := fun {c o} e e' => by have := st9.all _ _ e; rw [e', htb] at this; cases this
          have hne2 : ∀ {c : Addr} {o : Obj}, s.heap.get? c = some o → c ≠ ex := fun {c o} e e' => by rw [e', hexs] at e; cases e
          have gen : s'.os = s.os ∧ (AllBare s.gens → AllBare s'.gens) ∧ ∀ i, i < s.gens.size → s'.gens[i]? = s.gens[i]? := by
            have y : Stp [] s { s₁₁ with heap := s.heap } := by
              have z := st9
              refine ⟨fun _ _ _ e => e, (a11.os.trans x10.os).trans z.os, fun hb => a11.bare (by rw [x10.gens]; exact z.bare hb), fun i hi => ?_⟩
              have e1 := z.old i hi
              have e2 : i < s₁₀.gens.size := by
                rw [x10.gens]
                rw [Array.getElem?_eq_getElem hi] at e1
                exact (Array.getElem?_eq_some_iff.mp e1).1
              show s₁₁.gens[i]? = _
              rw [a11.old i e2, x10.gens]; exact e1
            have z : Stp [] { s₁₁ with heap := s.heap } { s' with heap := s.heap } := ⟨fun _ _ _ e => e, b.os, b.bare, b.old⟩
            have q := y.trans z
            exact ⟨q.os, q.bare, q.old⟩
          refine ⟨⟨fun c o hc e => ?_, gen.1, gen.2.1, gen.2.2⟩, fun c hc o e => ?_⟩
          · refine b.all c o ((hsb.2 c (hne e)).trans (a11.all c o (x10.keep c o (fun hm => ?_) (hne2 e) (st9.all _ _ e))))
            rcases List.mem_cons.mp hm with e' | hm
            · rw [e'] at e; exact absurd (hL.symm.trans e) (fun h => nomatch h)
            · exact hc hm
          · obtain ⟨sl, e1⟩ := x10.slots c (.tail _ hc) o (st9.all _ _ e)
            exact ⟨sl, b.all c _ ((hsb.2 c (hne e)).trans (a11.all c _ e1))⟩
        · unfold cmpP; rw [hfail]
end
end Mine

namespace Mine
section
variable {prog : Program} {w : World} {A : Around} {E : Value → Shared → Prop} {s : Shared} {R : Result → Shared → Prop}
theorem typeCall_dict_0 : checkTypeCall "dict" ⟨[], []⟩ = pure () := by kernel_rfl
theorem newCall_dict_0 : checkBuiltinCall "dict.__new__" ⟨[.type "dict"], []⟩ = pure () := by kernel_rfl
theorem code_dict_new0 {Q₁ : Value → Shared → Prop} (h : Q₁ (.ref s.heap.objs.size) { s with heap := s.heap.push { cls := .type "dict", data := .dict #[] } }) :
    codeAny (model prog w) A (.call (.builtin "dict.__new__") ⟨[.type "dict"], []⟩) (wants Q₁ E) s := by
  refine codeAny_call_builtin F.kt_plain_dict_new F.kt_entry_dict_new (wpAny_of_eq newCall_dict_0 ?_)
  have hsub := F.kt_sub_dict
  have hmro := F.kt_mro_dict
  obtain ⟨hp, g, d, tk, os⟩ := s
  unfold Builtin.«dict.__new__»
  wp_walk
  exact h
theorem call_dict0 {Q : Value → Shared → Prop} (h : Q (.ref s.heap.objs.size) { s with heap := s.heap.push { cls := .type "dict", data := .dict #[] } }) :
    wpAny (model prog w) A (call (.type "dict") []) Q E s := by
  refine callType_codes (Q₁ := fun obj s₁ => obj = .ref s.heap.objs.size ∧ s₁ = { s with heap := s.heap.push { cls := .type "dict", data := .dict #[] } }) F.kt_called_dict typeCall_dict_0 F.entry_dict_init (code_dict_new0 ⟨rfl, rfl⟩) ?_
  rintro obj s₁ ⟨rfl, rfl⟩
  have hnew : (s.heap.push { cls := .type "dict", data := .dict #[] }).DictOf (strKind prog w) s.heap.objs.size [] := Heap.DictOf.new s.heap
  refine ⟨hnew.typeIs, F.args_dict_init_1 _, ?_⟩
  unfold Builtin.«dict.__init__»
  refine wpAny_bind ?_
  unfold Builtin.Dict.selfAndRest
  refine wpAny_bind (wpAny_notOrdered_dict hnew.typeIs ?_)
  show wpAny _ _ (pure (s.heap.objs.size, ([] : List Value))) _ _ _
  refine wpAny_pure ?_
  show wpAny _ _ (Builtin.Dict.addKeywords s.heap.objs.size [] >>= _) _ _ _
  exact wpAny_bind (wpAny_pure (wpAny_pure ⟨rfl, h⟩))

def kvN (d : List Nat) : Str × Value := (tx d, .none)
theorem stored_dedup (acc : List (List Nat)) (d : List Nat) : stored (acc.map kvN) (tx d) .none = (dedupStep acc d).map kvN := by
  have key : ∀ e : List Nat, (tx e = tx d) ↔ e = d := fun e => ⟨fun h => by have := congrArg (fun x => x.cps.toList) h; simpa [tx_cps] using this, fun h => by rw [h]⟩
  have hany : ((acc.map kvN).any fun kv => kv.1 = tx d) = acc.contains d := by
    rw [List.any_map, List.contains_eq_any_beq]
    congr 1; funext e
    show decide (tx e = tx d) = (d == e)
    rw [decide_eq_decide.mpr (key e)]
    by_cases h : e = d
    · subst h; simp
    · rw [decide_eq_false h]; exact (beq_eq_false_iff_ne.mpr fun q => h q.symm).symm
  unfold stored dedupStep
  rw [hany]
  split
  · rename_i h
    rw [List.map_map]
    refine List.map_congr_left fun e _ => ?_
    show (if (kvN e).1 = tx d then ((kvN e).1, Value.none) else kvN e) = kvN e
    split <;> rfl
  · rw [List.map_append]; rfl

theorem isStrOf_self (x : Str) (t : Tok) : PySem.Value.isStrOf x (.str x t) = true := decide_eq_true rfl
theorem entry_fkl : entryFor table "dict.fromkeys.loop" = some Builtin.«dict.fromkeys.loop» := entryFor_of_tree (by kernel_rfl)
theorem plain_fkl : plainId "dict.fromkeys.loop" = true := by decide +kernel
theorem fk_loop {I D : Addr} {fp wr : List Addr} {xs : List (List Nat)} {P : Nat → Value → Prop} {St : Nat → Heap → Prop} (Wk : Walks prog w A.in1 I fp wr xs.length P St) (hD : D ∉ fp)
    (hP : ∀ i v, P i v → ∃ d, xs[i]? = some d ∧ ∃ t, v = .str (tx d) t) (hsz : xs.length ≤ 1000) :
    ∀ (k i : Nat) (s : Shared), xs.length - i = k → i ≤ xs.length → St i s.heap → s.heap.DictOf (strKind prog w) D ((dedup (xs.take i)).map kvN) →
    (∀ s', Stp (D :: wr) s s' → s'.heap.DictOf (strKind prog w) D ((dedup xs).map kvN) → R (.ok (.ret (.ref D))) s') → codeAny (model prog w) A (.builtin "dict.fromkeys.loop" ⟨[.ref D, .ref I, .none], []⟩) R s := by
  have hDw : D ∉ wr := fun h => hD (Wk.sub _ h)
  intro k
  induction k with
  | zero =>
    intro i s hk hi hst hd hR
    have hin : i = xs.length := by omega
    subst hin
    rw [List.take_length] at hd
    refine codeAny_builtin entry_fkl ?_
    rw [Around.under_plainId plain_fkl _]
    show wpAny _ A.in1 (pyNext (.ref I) >>= _) _ _ s
    refine wpAny_bind (Wk.done s _ _ hst fun h' tk hk => ?_)
    refine wpAny_pure (hR _ (.heap fun b o hb e => hk b o (fun hm => hb (.tail _ hm)) e) ?_)
    obtain ⟨o, es, ep, ho, r⟩ := hd
    exact ⟨o, es, ep, hk _ _ hDw ho, r⟩
  | succ k ih =>
    intro i s hk hi hst hd hR
    have hlt : i < xs.length := by omega
    refine codeAny_builtin entry_fkl ?_
    rw [Around.under_plainId plain_fkl _]
    show wpAny _ A.in1 (pyNext (.ref I) >>= _) _ _ s
    refine wpAny_bind (Wk.item i s _ _ hlt hst fun v h' tk hPv hst' hk' => ?_)
    obtain ⟨d, hxd, t, rfl⟩ := hP i v hPv
    have hd' : h'.DictOf (strKind prog w) D ((dedup (xs.take i)).map kvN) := by
      obtain ⟨o, es, ep, ho, r⟩ := hd
      exact ⟨o, es, ep, hk' _ _ hDw ho, r⟩
    show wpAny _ A.in1 (typeOf (.ref D) >>= _) _ _ _
    refine wpAny_bind (wpAny_typeOf (s := { s with heap := h', toks := tk }) hd'.typeIs ?_)
    rw [if_pos (by decide)]
    refine wpAny_bind (wpAny_pure (wpAny_bind (wpAny_holding ?_)))
    have hlen := dedup_len (xs.take i)
    have hlen' : (xs.take i).length ≤ xs.length := by rw [List.length_take]; exact Nat.min_le_right ..
    refine wpAny_dictSet_pairs (k := tx d) (knd := strKind prog w) (isStrOf_self _ t) hd' (fun h'' hd'' hs => ?_) (by rw [List.length_map]; exact sl (by omega))
    rw [stored_dedup] at hd''
    have hfold : dedup (xs.take (i + 1)) = dedupStep (dedup (xs.take i)) d := by unfold dedup; rw [List.take_add_one, hxd]; simp
    rw [← hfold] at hd''
    refine wpAny_pure ⟨plainId_quiet plain_fkl _, ih (i + 1) _ (by omega) hlt (Wk.frame _ _ _ hst' fun b hb o e => ?_) hd'' fun s' st hd3 => hR s' (Stp.trans ?_ st) hd3⟩
    · rw [hs.2 b (fun q => hD (q ▸ hb))]; exact e
    · refine Stp.trans (s' := { s with heap := h', toks := tk }) (.heap fun b o hb e => hk' b o (fun hm => hb (.tail _ hm)) e) (.heap fun b o hb e => ?_)
      rw [hs.2 b (fun q => hb (q ▸ .head _))]; exact e
end
end Mine

namespace Mine
/-- a dict: these texts, each with None -/
def isDct (w : World) (ks : List (List Nat)) : Dsc := fun g v => ∃ a o, v = .ref a ∧ g a = some o ∧ o.IsDictOf (PySem.strKind PG w) (ks.map kvN) ∧ (a == sysModules) = false
theorem mono_dct (w : World) (ks : List (List Nat)) : Mono (isDct w ks) := fun _ _ _ hg ⟨a, o, e, h, r⟩ => ⟨a, o, e, hg _ _ h, r⟩
def boundK : Obj := { cls := .type "builtin_function_or_method", data := .fields #[.builtin "dict.fromkeys", .type "dict"] }
theorem type_fk : typeOf (.builtin "dict.fromkeys") = pure (.type "classmethod_descriptor") := by show builtinType _ = _; rw [builtinType_eq_fast]; kernel_rfl
theorem entry_fk : entryFor table "dict.fromkeys" = some Builtin.«dict.fromkeys» := entryFor_of_tree (by kernel_rfl)
theorem quiet_fk {as : Args} : (Code.builtin "dict.fromkeys" as).quiet = true := Code.quiet_builtin _ (by decide +kernel)
theorem plain_fk : plainId "dict.fromkeys" = true := by decide +kernel
theorem type_dict : isType (.type "dict") = pure true := by first | rfl | kernel_rfl | (unfold isType; rw [isSubtype_type]; kernel_rfl)
theorem owner_fk : (kfb_private% "ownerAndName") "dict.fromkeys" = ("dict", "fromkeys") := by first | decide +kernel | kernel_rfl
section
variable {prog : Program} {w : World} {M : Model} {A : Around} {E : Value → Shared → Prop} {s : Shared} {K : Frag}
theorem run_getK {P : Fin → Shared → Prop} (h : P (.done (.ret (.ref s.heap.objs.size))) { s with heap := s.heap.push boundK }) :
    wpAny M A (Builtin.«classmethod_descriptor.__get__» ⟨[.builtin "dict.fromkeys", .none, .type "dict"], []⟩) P E s := by
  unfold Builtin.«classmethod_descriptor.__get__»
  refine wpAny_bind (wpAny_of_eq (a := (.builtin "dict.fromkeys", none, some (.type "dict"))) (by first | rfl | kernel_rfl) ?_)
  simp only [owner_fk]
  refine wpAny_bind (wpAny_of_eq (a := .type "dict") rfl ?_)
  refine wpAny_bind (wpAny_of_eq (a := true) type_dict ?_)
  refine KFB.if_not rfl ?_
  refine wpAny_bind (wpAny_of_eq (a := true) F.kt_sub_dict ?_)
  refine KFB.if_not rfl ?_
  exact wpAny_bind (wpAny_newObj_type (wpAny_pure h))
theorem getmK {pl : Sem Bool} {Q : Value × List Value → Shared → Prop} (X : K.In s.heap)
    (e : findCls K (.type "dict") (.type "type") (PySem.Str.ofString "fromkeys") = some (.get (.builtin "classmethod_descriptor.__get__") (.builtin "dict.fromkeys") .none (.type "dict")))
    (h : Q (.ref s.heap.objs.size, []) { s with heap := s.heap.push boundK, toks := s.toks + 1 }) :
    wpAny (model prog w) A (getMethod (.type "dict") (PySem.Str.ofString "fromkeys") pl) Q E s := by
  have hstub : opaqueClassAbove (.type "dict") = pure none := by unfold opaqueClassAbove; dsimp only; rw [show Manifest.isStub "dict" = false by decide +kernel]; rfl
  have ht : typeOf (.type "dict") = pure (.type "type") := by first | rfl | kernel_rfl
  have L0 : Looks (model prog w) s.heap (typeOf (.type "dict")) (.type "type") := Looks.of_pure ht
  have hg : findIn K (.type "type") "__getattribute__" = some (some (.builtin "type.__getattribute__")) := type_tga
  unfold getMethod specialOf
  refine wpAny_bind (wpAny_bind (L0.here ((looks_findIn X hg).here ?_)))
  dsimp only
  rw [if_pos canon_tga]
  refine wpAny_bind (wpAny_mono (Q := fun v => Q (v, [])) (E := E) ?_ (fun _ _ z => wpAny_pure z) fun _ _ z => z)
  have LO : Looks (model prog w) s.heap (opaqueClassAbove (.type "dict")) none := Looks.of_pure hstub
  refine cls_open X LO L0 hg (looks_hook X (r := none) (by rfl)) (by show subIn K _ _ = _; rfl) e ?_
  show wpAny _ _ (holding [.builtin "dict.fromkeys"] (call (.builtin "classmethod_descriptor.__get__") [.builtin "dict.fromkeys", .none, .type "dict"]) >>= fun v => ret v) _ _ _
  refine wpAny_bind (wpAny_holding (wpAny_call_entry KFB.slot_get type_fk KFB.entry_get (run_getK ⟨_, rfl, wpAny_pure (wpAny_pure h)⟩) (KFB.args_get _ _ _)))
theorem callWith_K {pos : Pos} {u : Addr} {first : List Value} {args : List (Bool × Sem Value)} {Q : Value → Shared → Prop} (hplain : args.any (·.1) = false)
    (h : wpAny M A (evalArgs (.ref u) true args []) (fun x s₁ => s₁.heap.get? u = some boundK ∧ wpAny M A (call (.ref u) (first ++ x.pos) x.kw) Q E s₁) E s) : wpAny M A (callWith pos (.ref u) first args []) Q E s := by
  unfold callWith
  refine wpAny_bind (wpAny_holding (wpAny_mono h (fun x s₁ h₁ => wpAny_bind (wpAny_standAt ?_)) fun _ _ x => x))
  obtain ⟨ho, hcall⟩ := h₁
  simp only [hplain, List.any_nil, Bool.or_false]
  refine wpAny_bind (m := keeperOf (.ref u)) ?_
  unfold keeperOf
  refine wpAny_bind (wpAny_load ho ?_)
  simp only [boundK, show (Value.type "builtin_function_or_method" != Value.type "method") = true by decide, show (Value.type "builtin_function_or_method" == Value.type "builtin_function_or_method" || Value.type "builtin_function_or_method" == Value.type "method-wrapper") = true by decide, if_true]
  refine wpAny_pure ?_
  exact wpAny_bind (wpAny_mono hcall (fun r s₂ hr => wpAny_bind (wpAny_holding (wpAny_point (wpAny_pure hr)))) fun _ _ x => x)
theorem check_fk {b : Value} : checkBoundCall "dict.fromkeys" ⟨[.type "dict", b], []⟩ = pure () := by first | kernel_rfl | rfl
/-- the call of the bound thing, on a list of texts -/
theorem call_K {x : Addr} {v : Value} {W : List Addr} {xs : List (List Nat)} {Q : Value → Shared → Prop} (ho : s.heap.get? x = some boundK) (hh : A.handled = none) (hv : isLst isT xs (vw W s.heap) v) (hlen : xs.length ≤ 1000)
    (h : ∀ s' D, s.heap.objs.size ≤ D → Stp [] s s' → s'.heap.DictOf (PySem.strKind prog w) D ((dedup xs).map kvN) → Q (.ref D) s') : wpAny (model prog w) A (call (.ref x) [v]) Q E s := by
  refine wpAny_call (codeAny_of_tree ?_)
  show wpAny _ A.in1 (callAny (.ref x) ⟨[v], []⟩) _ _ s
  simp only [callAny]
  refine wpAny_bind (wpAny_load ho ?_)
  simp only [boundK, show (Value.type "builtin_function_or_method" == Value.type "method" || Value.type "builtin_function_or_method" == Value.type "builtin_function_or_method" || Value.type "builtin_function_or_method" == Value.type "method-wrapper") = true by decide, if_true]
  refine KFB.if_so (by decide) ?_
  refine wpAny_bind (wpAny_of_eq (a := ()) check_fk ?_)
  refine wpAny_bind (wpAny_pure (wpAny_pure ?_))
  refine ⟨quiet_fk, codeAny_builtin entry_fk ?_⟩
  rw [Around.under_plainId plain_fk _]
  obtain ⟨a, vs, rfl, l, x2⟩ := hv
  unfold Builtin.«dict.fromkeys»
  refine wpAny_bind (wpAny_of_eq (a := true) type_dict ?_)
  refine KFB.if_not rfl ?_
  refine wpAny_bind (wpAny_of_eq (a := true) F.kt_sub_dict ?_)
  refine KFB.if_not rfl ?_
  refine KFB.if_not rfl ?_
  refine wpAny_bind (wpAny_bind (wpAny_rule (wpAny_pure ?_)))
  refine wpAny_bind (wpAny_pure ?_)
  show wpAny _ _ (call (.type "dict") [] >>= _) _ _ _
  refine wpAny_bind (call_dict0 ?_)
  refine wpAny_holding ?_
  have hl' : (s.heap.push { cls := .type "dict", data := .dict #[] }).IsList a vs.toArray := l.isList.at fun o e => Heap.get?_push_of_some _ e
  have hd' : (s.heap.push { cls := .type "dict", data := .dict #[] }).DictOf (PySem.strKind prog w) s.heap.objs.size [] := Heap.DictOf.new s.heap
  generalize hs2 : ({ s with heap := s.heap.push { cls := .type "dict", data := .dict #[] } } : Shared) = s2
  have hl2 : s2.heap.IsList a vs.toArray := by rw [← hs2]; exact hl'
  have hd2 : s2.heap.DictOf (PySem.strKind prog w) s.heap.objs.size [] := by rw [← hs2]; exact hd'
  have st2 : Stp [] s s2 := by rw [← hs2]; exact .push
  refine wpAny_bind (wpAny_typeOf hl2.typeIs ?_)
  refine wpAny_bind (wpAny_typeOf hd2.typeIs ?_)
  refine KFB.if_not (by decide) ?_
  refine wpAny_bind (wpAny_typeOf hd2.typeIs ?_)
  refine KFB.if_not (by decide) ?_
  have hw2 : Held [s.heap.objs.size] s2 := by
    obtain ⟨o, _, _, ho, _⟩ := hd2
    exact .cons ho (held_nil _)
  have haD : a ∉ [s.heap.objs.size] := fun hm => by
    obtain ⟨n, q⟩ := l.plain
    rw [List.mem_singleton.mp hm, get_size] at q; cases q
  refine wpAny_bind (wpAny_mono (iters_list (prog := prog) (w := w) (A := A.in1) (M := [s.heap.objs.size]) hh hl2 haD hw2) (fun it s3 y => ?_) fun _ _ x => x.elim)
  obtain ⟨I, fp, wr, St, rfl, Wk, hst, b, hnew, hfp, _⟩ := y
  rw [← x2.length] at Wk
  refine wpAny_pure ⟨plainId_quiet plain_fkl _, fk_loop Wk (fun hm => hfp _ hm (.head _)) (fun i v e => ?_) hlen xs.length 0 _ rfl (Nat.zero_le _) hst ?_ (fun s' st hd => h s' _ (Nat.le_refl _) ((st2.trans b).fresh st fun c hc => ?_) hd)⟩
  · obtain ⟨d, e1, t, e2⟩ := x2.getR i v e
    exact ⟨d, e1, t, e2⟩
  · obtain ⟨o, es, ep, ho, r⟩ := hd2
    exact ⟨o, es, ep, b.all _ _ ho, r⟩
  · rcases List.mem_cons.mp hc with rfl | hc
    · exact get_size _
    · exact get_none_of st2 (hnew c hc)
end
end Mine

namespace Mine
section
variable {w : World} {mg mb : Str → Option Value} {s : Shared} {A : Around} {W : List Addr} {k : Nat}
theorem b_dict {h : Heap} (X : Wd w mg mb h) : mg "dict" = none ∧ mb "dict" = some (.type "dict") := ⟨(glob_of X.toWld rfl rfl _).trans rfl, (X.bt _ (by decide)).trans (by decide +kernel)⟩
theorem find_fk (w : World) : findCls (KK w) (.type "dict") (.type "type") (PySem.Str.ofString "fromkeys") = some (.get (.builtin "classmethod_descriptor.__get__") (.builtin "dict.fromkeys") .none (.type "dict")) := by first | rfl | kernel_rfl
/-- dict.fromkeys(a list of texts) -/
theorem ev_fromkeys {env : Env} {oe e : Expr} {apos pos : Pos} {xs : List (List Nat)} (X : Wd w mg mb s.heap) (hh : A.handled = none) (hoe : Ev PG w A env oe W s (isV (.type "dict"))) (he : Ev PG w A env e W s (isLst isT xs)) (hlen : xs.length ≤ 1000)
    (hbase : attributeBase oe "fromkeys" env (eval oe env) = eval oe env := by rfl) (hs : starEach [e] env = [(false, eval e env)] := by rfl) (hline : (apos.endLine == pos.line) = true := by rfl) :
    Ev PG w A env (.Call (.Attribute oe "fromkeys" apos) [e] [] pos) W s (fun g v => isDct w (dedup xs) g v ∧ New s v) := fun s₁ a hw => by
  rw [arm_eval_Call, hbase]
  refine wpAny_bind (wpAny_mono (hoe s₁ a hw) (fun ov s₂ ⟨b, q⟩ => ?_) fun _ _ e => e)
  cases q
  refine wpAny_bind (wpAny_standAt ?_)
  have hform : methodCallForm ([e].length + ([] : List Keyword).length) (backTo pos (starEach [e] env)) (backToKw pos (keywordEach [] env)) = true := by rw [hs]; rfl
  have hpos : methodCallPos true oe env apos pos = pure pos := by unfold methodCallPos; simp [hline]
  unfold methodCall
  rw [hform]
  have X2 := (X.stp a).stp b
  refine wpAny_bind (wpAny_holding (getmK X2.kin (find_fk w) ?_))
  refine wpAny_bind (wpAny_of_eq hpos ?_)
  rw [hs]
  have st3 : Stp [] s₂ { s₂ with heap := s₂.heap.push boundK, toks := s₂.toks + 1 } := .heap fun b o _ e => Heap.get?_push_of_some _ e
  have hb3 : (s₂.heap.push boundK).get? s₂.heap.objs.size = some boundK := Heap.get?_push_size _ rfl
  refine callWith_K (by rfl) (evalArgs_plain (spliced_cons (wpAny_mono (he _ ((a.trans b).trans st3) ((hw.stp b).stp st3)) (fun u s₄ ⟨c, d⟩ => spliced_nil ?_) fun _ _ x => x)))
  refine ⟨c.all _ _ hb3, ?_⟩
  refine call_K (c.all _ _ hb3) hh d hlen (fun s' D hD st hdo => ?_)
  have st4 := ((b.trans st3).trans c)
  obtain ⟨o, ho, hd⟩ := Heap.dictOf_iff.mp hdo
  have hDs : s₁.heap.get? D = none := get_none_of st4 (get_ge hD)
  refine ⟨st4.trans st, ⟨D, o, rfl, vw_of ((hw.stp st4).new hD |> fun h => h) ho, hd, ?_⟩, ⟨D, rfl, get_none_of a hDs⟩⟩
  refine beq_eq_false_iff_ne.mpr fun e => ?_
  have h60 : 60 < s₄.heap.objs.size := Heap.lt_size (((X2.stp st3).stp c).kin 60 _ rfl)
  have e1 : D = 1 := e
  have hD' : s₄.heap.objs.size ≤ D := hD
  rw [e1] at hD'
  exact absurd h60 (by omega)
set_option maxHeartbeats 1000000 in
theorem dd_spec (X : Wd w mg mb s.heap) (hA : AOk (k + 1) A) {v : Value} {xs : List (List Nat)} (hv : isLst isT xs (vw W s.heap) v) (hx : xs.length ≤ 1000) (hw : Held W s) :
    wpAny (model PG w) A (call (.ref 36) [v]) (fun r s' => Stp [] s s' ∧ isDct w (dedup xs) (vw W s'.heap) r) NoE s := by
  refine call_def hA.room X.nl (X.kin 36 _ rfl) rfl (codeRec_of X.kin (by rfl)) rfl (kp_binds (binds := [("params", v), ("unhashable_fallback", .bool false)]) X.kin (fun S => by rfl)) (by decide) (locs (by rfl)) ?_
  intro s₁ a₁ hL hn₁
  generalize hLe : s.heap.objs.size = L at hL hn₁ ⊢
  have X1 := X.stp a₁
  refine wpAny_execs_cons (wpAny_Try_except ?_)
  refine wpAny_execs_cons (wpAny_Return_some (wpAny_mono (EvT.at (D := fun g v => isDct w (dedup xs) g v ∧ New s₁ v) (W := W) ?e (hw.stp a₁)) (fun r s' ⟨b, d⟩ => ?_) fun _ _ x => x.elim))
  case e => exact ev_fromkeys X1 hA.deeper.hd (ev_builtin X1.g (b_dict X).1 X1.b (b_dict X).2) (ev_local hn₁ rfl (mono_lst mono_t _ _ _ _ a₁.of_nil.vle hv) (mono_lst mono_t _)) hx
  exact ⟨a₁.trans b, d.1⟩
end
end Mine

namespace Mine
/-- a list of ints, whatever else its object holds -/
def isIL (ns : List Int) : Dsc := fun g v => ∃ a vs o n, v = .ref a ∧ g a = some o ∧ o.cls = .type "list" ∧ o.data = .seq vs.toArray n ∧ IntsAre vs ns
theorem mono_il (ns : List Int) : Mono (isIL ns) := fun _ _ _ hg ⟨a, vs, o, n, e, h, r⟩ => ⟨a, vs, o, n, e, hg _ _ h, r⟩
def unitOf (k : Nat) : List Nat := ([[97], [92, 34], [92, 92]] : List (List Nat)).getD k []
theorem unitOf_len (k : Nat) : (unitOf k).length ≤ 2 := by
  unfold unitOf
  match k with
  | 0 => decide
  | 1 => decide
  | 2 => decide
  | k + 3 => simp
section
variable {prog : Program} {w : World} {A : Around} {env : Env} {W : List Addr} {s : Shared} {D : Dsc}
theorem ev_ifexp {test body orelse : Expr} {pos : Pos} {c : Bool} (ht : Tr prog w A env test s c) (hb : c = true → Ev prog w A env body W s D) (ho : c = false → Ev prog w A env orelse W s D) : Ev prog w A env (.IfExp test body orelse pos) W s D := fun s₁ a hw =>
  wpAny_IfExp (wpAny_mono (ht s₁ a) (fun b s₂ ⟨st, q⟩ => by
    subst q
    cases b with
    | true => exact wpAny_mono (hb rfl s₂ (a.trans st) (hw.stp st)) (fun v s' ⟨d, e⟩ => ⟨st.trans d, e⟩) fun _ _ x => x
    | false => exact wpAny_mono (ho rfl s₂ (a.trans st) (hw.stp st)) (fun v s' ⟨d, e⟩ => ⟨st.trans d, e⟩) fun _ _ x => x) fun _ _ x => x)
theorem call_sum {a : Addr} {vs : List Value} {ns : List Int} {Q : Value → Shared → Prop} {E : Value → Shared → Prop} (hh : A.handled = none) (hl : s.heap.IsList a vs.toArray) (hi : IntsAre vs ns)
    (h : ∀ s' t, Stp [] s s' → Q (.int ns.sum t) s') : wpAny (model prog w) A (call (.builtin "sum") [.ref a]) Q E s := by
  obtain ⟨xs, e⟩ := AllInts.items hi.allInts
  rw [e] at hl
  have e2 : numsOf vs = xs.toList.map (·.1) := by
    rw [← nums_intItems, ← e]
  refine sum_intListG hh hl fun h' tk t' hk => ?_
  have := h { s with heap := h', toks := tk } t' (.heap fun b o _ e => hk b o e)
  rw [preSum_eq, List.take_of_length_le (by simp), ← e2, hi.numsOf]; exact this
theorem ev_sum {fe e : Expr} {pos : Pos} {ns : List Int} (hh : A.handled = none) (hn : Ev prog w A env fe W s (isV (.builtin "sum"))) (h : Ev prog w A env e W s (isIL ns))
    (he : eval (.Call fe [e] [] pos) env = (do callWith pos (← eval fe env) [] (backTo pos (starEach [e] env)) (backToKw pos (keywordEach [] env))) := by rfl)
    (hs : starEach [e] env = (false, eval e env) :: starEach [] env := by rfl) : Ev prog w A env (.Call fe [e] [] pos) W s (isInt ns.sum) :=
  ev_callB hn (evAll_cons h (mono_il _) evAll_nil hs) (fun s₁ vs a hw ⟨u, us, e, ⟨ad, ws, o, n, e', l, hc, hd, x⟩, e''⟩ => by
    subst e'' e' e
    exact call_sum hh ⟨o, (vw_some l).2, hc, n, hd⟩ x fun s' t st => ⟨st, t, rfl⟩) he hs
theorem ev_lenIL {fe e : Expr} {pos : Pos} {ns : List Int} (hn : Ev prog w A env fe W s (isV (.builtin "len"))) (h : Ev prog w A env e W s (isIL ns)) (hsz : ns.length < 2 ^ 62)
    (he : eval (.Call fe [e] [] pos) env = (do callWith pos (← eval fe env) [] (backTo pos (starEach [e] env)) (backToKw pos (keywordEach [] env))) := by rfl)
    (hs : starEach [e] env = (false, eval e env) :: starEach [] env := by rfl) : Ev prog w A env (.Call fe [e] [] pos) W s (isInt ns.length) :=
  ev_callB hn (evAll_cons h (mono_il _) evAll_nil hs) (fun s₁ vs a hw ⟨u, us, e, ⟨ad, ws, o, n, e', l, hc, hd, x⟩, e''⟩ => by
    subst e'' e' e
    refine call_len_list ⟨o, (vw_some l).2, hc, n, hd⟩ (by simp only [List.size_toArray, x.length]; omega) ⟨.toks, s₁.toks + 1, ?_⟩
    rw [List.size_toArray, x.length]) he hs
theorem ev_pick {value : Expr} {lo hi st : Option Expr} {p pos : Pos} {l u k : Option Int} {ns : List Int} (hv : Ev prog w A env value W s (isIL ns)) (hl : EvP prog w A env lo W s l) (hu : EvP prog w A env hi W s u) (hk : EvP prog w A env st W s k)
    (hk0 : k ≠ some 0) (hsz : ns.length ≤ sizeLine) : Ev prog w A env (.Subscript value (.Slice lo hi st p) pos) W s (isIL (pickNums ns l u k)) :=
  ev_sliceAny hv (mono_il _) hl hu hk fun s₁ o vl vu vk a hw ⟨ad, vs, ob, n, e, lt, hc, hd, x⟩ il iu ik s₂ b hw₂ => by
    subst e
    obtain ⟨ops, hs⟩ := subscripted_slice lo hi st p (.ref ad) (.ref s₁.heap.objs.size)
    have g : VLe (vw W s₁.heap) (vw W s₂.heap) := vle_push.trans b.of_nil.vle
    have hL : s₂.heap.IsList ad vs.toArray := ⟨ob, (vw_some (g _ _ lt)).2, hc, n, hd⟩
    have hS : s₂.heap.IsSliceOf s₁.heap.objs.size vl vu vk := ⟨_, b.all _ _ (Heap.get?_push_size _ rfl), rfl, rfl⟩
    refine tail_any hL.typeIs list_getitem_lookup (wpAny_getItem_list_slice hL hS il iu ik hk0 ⟨.push, _, (slicePick vs.toArray l u k).toList, _, 0, rfl, vw_of (hw₂.new (Nat.le_refl _)) (Heap.get?_push_size _ rfl), rfl, rfl, x.pick l u k⟩ (by simpa [x.length] using hsz)) hs
end
section
variable {w : World} {mg mb : Str → Option Value} {s : Shared} {A : Around} {W : List Addr} {k : Nat}
theorem b_sum {h : Heap} (X : Wd w mg mb h) : mg "sum" = none ∧ mb "sum" = some (.builtin "sum") := ⟨(glob_of X.toWld rfl rfl _).trans rfl, (X.bt _ (by decide)).trans (by decide +kernel)⟩
theorem b_range {h : Heap} (X : Wd w mg mb h) : mg "range" = none ∧ mb "range" = some (.type "range") := ⟨(glob_of X.toWld rfl rfl _).trans rfl, (X.bt _ (by decide)).trans (by decide +kernel)⟩
def kindAt (ns : List Int) (p : Nat) : Nat := ((([0, 1, 0, 0, 2] : List Int).getD p 0 + (pickNums ns (some (p : Int)) none (some 5)).sum).fmod 3).toNat
theorem kindAt_lt (ns : List Int) (p : Nat) : kindAt ns p < 3 := by
  unfold kindAt
  generalize (([0, 1, 0, 0, 2] : List Int).getD p 0 + (pickNums ns (some (p : Int)) none (some 5)).sum) = x
  rw [Int.fmod_eq_emod_of_nonneg _ (by decide)]
  have := Int.emod_nonneg x (show (3 : Int) ≠ 0 by decide)
  have := Int.emod_lt_of_pos x (show (0 : Int) < 3 by decide)
  omega
theorem kindAt_eq (ns : List Int) (p : Nat) : ((kindAt ns p : Nat) : Int) = ((([0, 1, 0, 0, 2] : List Int).getD p 0 + (pickNums ns (some (p : Int)) none (some 5)).sum).fmod 3) := by
  unfold kindAt
  generalize (([0, 1, 0, 0, 2] : List Int).getD p 0 + (pickNums ns (some (p : Int)) none (some 5)).sum) = x
  rw [Int.fmod_eq_emod_of_nonneg _ (by decide)]
  have := Int.emod_nonneg x (show (3 : Int) ≠ 0 by decide)
  omega
def cntOf (n : Nat) : Nat := if n < 2 then 3 else if n < 4 then 4 else 5
theorem cntOf_le (n : Nat) : cntOf n ≤ 5 ∧ 3 ≤ cntOf n := by
  unfold cntOf
  split
  · omega
  · split <;> omega
set_option maxHeartbeats 2000000 in
theorem units_spec (X : Wd w mg mb s.heap) (hA : AOk (k + 1) A) {v : Value} {ns : List Int} (hv : isIL ns (vw W s.heap) v) (hlen : ns.length ≤ 1000) (hw : Held W s) :
    wpAny (model PG w) A (call (.ref 55) [v]) (fun r s' => Stp [] s s' ∧ ∃ ks : List Nat, 3 ≤ ks.length ∧ ks.length ≤ 5 ∧ (∀ k ∈ ks, k < 3) ∧ isLst isT (ks.map unitOf) (vw W s'.heap) r) NoE s := by
  refine call_defC hA.room X.nl (X.kin 55 _ rfl) rfl (codeRec_of X.kin (by rfl)) rfl rfl (BindsTo.of_eq (binds := [("script", v)]) rfl) (by rfl) ?_
  intro L cs hcs hL env henv s₁ a hn hns hcells
  subst hcs
  subst henv
  have X1 := X.stp a
  have hcell : s₁.heap.IsCell (L + 1) (some v) := hcells "script" (L + 1) rfl
  have hcellk : s₁.heap.IsCell (L + 2) none := hcells "kinds" (L + 2) rfl
  have hLn : s.heap.get? L = none := hn L (Nat.le_refl _)
  have hKn : s.heap.get? (L + 2) = none := hn (L + 2) (by omega)
  have hA' : ∀ env, AOk k (A.deeper env) := fun env => hA.deeper
  have hM : ∀ c ∈ [L, L + 2], s.heap.get? c = none := fun c hc => by
    rcases List.mem_cons.mp hc with rfl | hc
    · exact hLn
    · rw [List.mem_singleton.mp hc]; exact hKn
  have gW : ∀ {sx : Shared}, Stp [] s sx → isIL ns (vw (L :: (L + 2) :: W) sx.heap) v := fun {sx} h => by
    obtain ⟨ad, vs, o, n, e, l, r⟩ := hv
    refine ⟨ad, vs, o, n, e, vw_of (fun hm => ?_) (h.all _ _ (vw_some l).2), r⟩
    have l2 := (vw_some l).2
    rcases List.mem_cons.mp hm with rfl | hm
    · rw [hLn] at l2; cases l2
    rcases List.mem_cons.mp hm with rfl | hm
    · rw [hKn] at l2; cases l2
    · exact (vw_some l).1 hm
  have hH : ∀ {sx : Shared} {m : Str → Option Value} {cv : Option Value}, Stp [] s sx → sx.heap.Ns L m → sx.heap.IsCell (L + 2) cv → Held (L :: (L + 2) :: W) sx := fun {sx m cv} h h' h'' => by
    obtain ⟨o, _, _, ho, _⟩ := h'
    obtain ⟨o', ho', _⟩ := h''
    exact .cons ho (.cons ho' (hw.stp h))
  have hN := cntOf_le ns.length
  have hne1 : L + 1 ≠ L := Nat.succ_ne_self L
  have hne2 : L + 2 ≠ L := Nat.ne_of_gt (Nat.lt_add_of_pos_right (by decide))
  have hne3 : L + 1 ≠ L + 2 := Nat.ne_of_lt (Nat.lt_succ_self _)
  -- count
  refine x_assign (W := L :: (L + 2) :: W) (D := isInt (cntOf ns.length : Nat)) ?e1 (hH a hns hcellk) hns (.head _) (mono_int _) (fun v₂ s₂ a₂ d₂ hn₂ => ?_)
  case e1 =>
    refine ev_ifexp (c := decide (((ns.length : Nat) : Int) < 2)) (tr_cmp (W := L :: (L + 2) :: W) (ev_lenIL (ev_builtin X1.g (b_len X).1 X1.b (b_len X).2) (ev_cell rfl hcell (gW a) (mono_il _)) (by omega)) (ev_int 2) (mono_int _) c_ltInt (hH a hns hcellk)) (fun hc => ?_) (fun hc => ?_)
    · rw [show cntOf ns.length = 3 by unfold cntOf; rw [if_pos (by have := of_decide_eq_true hc; omega)]]
      exact ev_int 3
    · have h2 : ¬ ns.length < 2 := by have := of_decide_eq_false hc; omega
      refine ev_ifexp (c := decide (((ns.length : Nat) : Int) < 4)) (tr_cmp (W := L :: (L + 2) :: W) (ev_lenIL (ev_builtin X1.g (b_len X).1 X1.b (b_len X).2) (ev_cell rfl hcell (gW a) (mono_il _)) (by omega)) (ev_int 4) (mono_int _) c_ltInt (hH a hns hcellk)) (fun hc => ?_) (fun hc => ?_)
      · rw [show cntOf ns.length = 4 by unfold cntOf; rw [if_neg h2, if_pos (by have := of_decide_eq_true hc; omega)]]
        exact ev_int 4
      · rw [show cntOf ns.length = 5 by unfold cntOf; rw [if_neg h2, if_neg (by have := of_decide_eq_false hc; omega)]]
        exact ev_int 5
  obtain ⟨tc, rfl⟩ := d₂
  have a12 : Stp [L] s₁ s₂ := a₂
  have st2 : Stp [] s s₂ := a.fresh a12 (fun c hc => by rw [List.mem_singleton.mp hc]; exact hLn)
  have cell_at : ∀ {sx sy : Shared} {c d : Addr} {cv : Option Value}, Stp [d] sx sy → c ≠ d → sx.heap.IsCell c cv → sy.heap.IsCell c cv := fun {sx sy c d cv} h hc h' => by
    obtain ⟨o, ho, r⟩ := h'
    exact ⟨o, h.keep _ _ (fun hm => hc (List.mem_singleton.mp hm)) ho, r⟩
  have hcell2 := cell_at a12 hne1 hcell
  have hcellk2 := cell_at a12 hne2 hcellk
  -- kinds
  refine x_assignC (W := L :: (L + 2) :: W) (D := isLst isT [[97], [92, 34], [92, 92]]) ((ev_list (R := isT) (evAll_cons2 (ev_t _ rfl) (mono_t _) (evAll_cons2 (ev_t _ rfl) (mono_t _) (evAll_cons2 (ev_t _ rfl) (mono_t _) evAll_nil2))) mono_t (sl (by show 3 ≤ 1000000; decide))).mono fun _ _ h => h.1) (hH st2 hn₂ hcellk2) rfl hcellk2 (.tail _ (.head _)) (mono_lst mono_t _) (fun kv s₃ a₃ d₃ hcellk3 => ?_)
  have a23 : Stp [L + 2] s₂ s₃ := a₃
  have st3 : Stp [] s s₃ := st2.fresh a23 (fun c hc => by rw [List.mem_singleton.mp hc]; exact hKn)
  have hcell3 := cell_at a23 hne3 hcell2
  have hn3 := hn₂.at' (h' := s₃.heap) fun o e => a23.keep _ o (fun hm => absurd (List.mem_singleton.mp hm) (by show L ≠ L + 2; omega)) e
  have X3 := X.stp st3
  refine x_return (W := L :: (L + 2) :: W) (D := fun g v => isLst isT (((List.range (cntOf ns.length)).map (kindAt ns)).map unitOf) g v ∧ New s₃ v) ?e2 (hH st3 hn3 hcellk3) (fun v s' b d => ⟨st3.trans b, (List.range (cntOf ns.length)).map (kindAt ns), ?_, ?_, ?_, mono_lst mono_t _ _ _ _ (vw_sub fun b hb => .tail _ (.tail _ hb)) d.1⟩)
  case e2 =>
    refine ev_comp (R := isT) (ds := ((List.range (cntOf ns.length)).map (kindAt ns)).map unitOf) (R₀ := fun i : Nat => isInt i) (xs := List.range (cntOf ns.length)) (cl := [("script", L + 1), ("kinds", L + 2)]) (D := isRange (cntOf ns.length : Nat)) ?_ ?_ (fun d => mono_int _) (by simp) (sl (by simp; omega)) mono_t ?_
    · exact ev_range (ev_builtin X3.g (b_range X).1 X3.b (b_range X).2) (ev_local hn3 rfl ⟨tc, rfl⟩ (mono_int _))
    · intro s₄ u b hw' hd
      exact srcs_range hA.hd hd (by omega) (fun _ h => h) hw'
    · intro V C i d₀ d u s₄ m₂ hd₀ hd hu st vl hV hns4 hm
      have hi : i < cntOf ns.length := by
        rcases Nat.lt_or_ge i (cntOf ns.length) with h | h
        · exact h
        · rw [List.getElem?_eq_none (by simpa using h)] at hd₀; cases hd₀
      have e0 : d₀ = i := by simpa [hi] using hd₀.symm
      have e1 : d = unitOf (kindAt ns i) := by simpa [hi] using hd.symm
      subst e0; subst e1
      have X4 := X3.stp st
      have hk3 := kindAt_lt ns d₀
      refine ev_index (R := isT) (ds := [[97], [92, 34], [92, 92]]) (i := ((kindAt ns d₀ : Nat) : Int)) (ev_cell rfl (hcellk3.keeps st.all) (mono_lst mono_t _ _ _ _ vl d₃) (mono_lst mono_t _)) ?_ mono_t (by omega) (by omega) ?_
      · rw [kindAt_eq]
        refine ev_mod (by decide) (ev_add (ev_index (R := fun z : Int => isInt z) (ds := [0, 1, 0, 0, 2]) (i := (d₀ : Int)) ((ev_list (R := fun z : Int => isInt z) (evAll_cons2 (ev_int _) (mono_int _) (evAll_cons2 (ev_int _) (mono_int _) (evAll_cons2 (ev_int _) (mono_int _) (evAll_cons2 (ev_int _) (mono_int _) (evAll_cons2 (ev_int _) (mono_int _) evAll_nil2))))) (fun z => mono_int _) (sl (by show 5 ≤ 1000000; decide))).mono fun _ _ h => h.1) (ev_local hns4 hm hu (mono_int _)) (fun z => mono_int _) (by omega) (by omega) ?_) (ev_sum (hA' _).hd (ev_builtin X4.g (b_sum X).1 X4.b (b_sum X).2) (ev_pick (ev_cell rfl (hcell3.keeps st.all) (mono_il _ _ _ _ vl (gW st3)) (mono_il _)) (evP_some (ev_local hns4 hm hu (mono_int _))) evP_none (evP_some (ev_int 5)) (by decide) (sl (by omega))))) (ev_int 3)
        rw [Int.toNat_natCast]
        have h4 : d₀ < 5 := by omega
        match d₀, h4 with
        | 0, _ => rfl
        | 1, _ => rfl
        | 2, _ => rfl
        | 3, _ => rfl
        | 4, _ => rfl
      · rw [Int.toNat_natCast]
        unfold unitOf
        generalize kindAt ns d₀ = q at hk3
        match q, hk3 with
        | 0, _ => rfl
        | 1, _ => rfl
        | 2, _ => rfl
  · simp; omega
  · simp; omega
  · intro k hk
    obtain ⟨p, _, rfl⟩ := List.mem_map.mp hk
    exact kindAt_lt ns p
end
end Mine

namespace Mine
section
variable {prog : Program} {w : World} {A : Around} {s : Shared} {R : Result → Shared → Prop} {env : Env} {elt iter iter' target target' : Expr} {scope : Scope} {pos : Pos} {it acc : Value}
theorem turn_in (elt target target' iter iter' : Expr) (scope : Scope) (pos : Pos) (it acc : Value) (env : Env) :
    compTurn (.ListComp elt [⟨target, iter, [], 0⟩, ⟨target', iter', [], 0⟩] scope pos) 1 it acc env = (standAt iter'.pos >>= fun _ => pyNext it >>= fun r => match r with
      | none => pure (.done .next)
      | some v => letOwnedTupleGo target' it v >>= fun _ => assign target' env v >>= fun _ =>
        (eval elt env >>= fun x => call (.builtin "list.append") [acc, x] >>= fun _ => pure ()) >>= fun _ =>
          again (.compLoop (.ListComp elt [⟨target, iter, [], 0⟩, ⟨target', iter', [], 0⟩] scope pos) 1 it acc env)) := by rfl
theorem turn_out (elt target target' iter iter' : Expr) (scope : Scope) (pos : Pos) (it acc : Value) (env : Env) :
    compTurn (.ListComp elt [⟨target, iter, [], 0⟩, ⟨target', iter', [], 0⟩] scope pos) 0 it acc env = (standAt iter.pos >>= fun _ => pyNext it >>= fun r => match r with
      | none => pure (.done .next)
      | some v => letOwnedTupleGo target it v >>= fun _ => assign target env v >>= fun _ =>
        (eval iter' env >>= fun x => standAt iter'.pos >>= fun _ => foldedSetIterable iter' env x >>= fun x => holding [x] (pyIter x) >>= fun it' =>
          runOwn (.compStart (.ListComp elt [⟨target, iter, [], 0⟩, ⟨target', iter', [], 0⟩] scope pos) 1 it' acc env) env >>= fun _ =>
          again (.compLoop (.ListComp elt [⟨target, iter, [], 0⟩, ⟨target', iter', [], 0⟩] scope pos) 0 it acc env))) := by rfl
theorem loop_in (I : Nat → Shared → Prop)
    (turn : ∀ n s, I n s → wpAny (model prog w) A (pyNext it) (fun r s₁ => match r with
      | none => R (.ok .next) s₁
      | some v => wpAny (model prog w) A (assign target' env v) (fun _ s₂ => wpAny (model prog w) A (eval elt env) (fun x s₃ =>
          wpAny (model prog w) A (call (.builtin "list.append") [acc, x]) (fun _ s₄ => ∃ m, m < n ∧ I m s₄) NoE s₃) NoE s₂) NoE s₁) NoE s)
    (n : Nat) (h : I n s) (ht : ∀ v, letOwnedTupleGo target' it v = pure () := by intro _; rfl) :
    codeAny (model prog w) A (.compLoop (.ListComp elt [⟨target, iter, [], 0⟩, ⟨target', iter', [], 0⟩] scope pos) 1 it acc env) R s := by
  refine codeAny_loop rfl I (fun n s hI => ?_) n h
  show wpAny _ _ ((compTurn (.ListComp elt [⟨target, iter, [], 0⟩, ⟨target', iter', [], 0⟩] scope pos) 1 it acc env).onRaise (fun x => do noteFrame x env; theTreesLotGoes x)) _ _ s
  refine wpAny_noted ?_
  rw [turn_in]
  refine wpAny_bind (wpAny_standAt (wpAny_bind (wpAny_mono (turn n s hI) (fun r s₁ h₁ => ?_) fun _ _ h' => h'.elim)))
  cases r with
  | none => exact wpAny_pure h₁
  | some v =>
    refine wpAny_bind (wpAny_of_eq (ht v) ?_)
    exact wpAny_bind (wpAny_mono h₁ (fun _ s₂ h₂ => wpAny_bind (wpAny_bind (wpAny_mono h₂ (fun x s₃ h₃ => wpAny_bind (wpAny_mono h₃
      (fun _ s₄ h₄ => wpAny_pure (wpAny_pure ⟨rfl, h₄⟩)) fun _ _ h' => h'.elim)) fun _ _ h' => h'.elim))) fun _ _ h' => h'.elim)
theorem start_in (h0 : codeAny (model prog w) A (.compLoop (.ListComp elt [⟨target, iter, [], 0⟩, ⟨target', iter', [], 0⟩] scope pos) 1 it acc env) R s)
    (h : wpAny (model prog w) A (pyIter it) (fun it' s' => codeAny (model prog w) A (.compLoop (.ListComp elt [⟨target, iter, [], 0⟩, ⟨target', iter', [], 0⟩] scope pos) 1 it' acc env) R s') NoE s) :
    codeAny (model prog w) A (.compStart (.ListComp elt [⟨target, iter, [], 0⟩, ⟨target', iter', [], 0⟩] scope pos) 1 it acc env) R s := by
  refine codeAny_of_tree ?_
  show wpAny _ _ ((compStart (.ListComp elt [⟨target, iter, [], 0⟩, ⟨target', iter', [], 0⟩] scope pos) 1 it acc env).onRaise (fun x => do noteFrame x env; standAt theWindowsPlace)) _ _ s
  refine wpAny_notedAt ?_
  unfold compStart
  show wpAny _ _ (ask >>= _) _ _ s
  refine wpAny_bind (wpAny_askSetting (wpAny_ite ?_))
  split
  · first
      | exact wpAny_bind (wpAny_pure (wpAny_pure (And.intro rfl h0)))
      | exact wpAny_pure (And.intro rfl h0)
  · first
      | exact wpAny_bind (wpAny_rule (wpAny_bind (wpAny_standAt (wpAny_bind (wpAny_mono h (fun it' s' h' => wpAny_pure (And.intro rfl h')) fun _ _ x => x.elim)))))
      | (refine wpAny_bind (wpAny_rule ?_); show wpAny _ _ (standAt iter'.pos >>= _) _ _ s; exact wpAny_bind (wpAny_standAt (wpAny_bind (wpAny_mono h (fun it' s' h' => wpAny_pure (And.intro rfl h')) fun _ _ x => x.elim))))
theorem loop_out (I : Nat → Shared → Prop)
    (turn : ∀ n s, I n s → wpAny (model prog w) A (pyNext it) (fun r s₁ => match r with
      | none => R (.ok .next) s₁
      | some v => wpAny (model prog w) A (assign target env v) (fun _ s₂ => wpAny (model prog w) A (eval iter' env) (fun x s₃ => wpAny (model prog w) A (pyIter x) (fun it' s₄ =>
          codeAny (model prog w) A (.compStart (.ListComp elt [⟨target, iter, [], 0⟩, ⟨target', iter', [], 0⟩] scope pos) 1 it' acc env) (fun r s₅ => match r with | .ok _ => ∃ m, m < n ∧ I m s₅ | .error _ => False) s₄) NoE s₃) NoE s₂) NoE s₁) NoE s)
    (n : Nat) (h : I n s) (ht : ∀ v, letOwnedTupleGo target it v = pure () := by intro _; rfl) (hs : ∀ x, foldedSetIterable iter' env x = pure x := by intro _; rfl) :
    codeAny (model prog w) A (.compLoop (.ListComp elt [⟨target, iter, [], 0⟩, ⟨target', iter', [], 0⟩] scope pos) 0 it acc env) R s := by
  refine codeAny_loop rfl I (fun n s hI => ?_) n h
  show wpAny _ _ ((compTurn (.ListComp elt [⟨target, iter, [], 0⟩, ⟨target', iter', [], 0⟩] scope pos) 0 it acc env).onRaise (fun x => do noteFrame x env; theTreesLotGoes x)) _ _ s
  refine wpAny_noted ?_
  rw [turn_out]
  refine wpAny_bind (wpAny_standAt (wpAny_bind (wpAny_mono (turn n s hI) (fun r s₁ h₁ => ?_) fun _ _ h' => h'.elim)))
  cases r with
  | none => exact wpAny_pure h₁
  | some v =>
    refine wpAny_bind (wpAny_of_eq (ht v) ?_)
    refine wpAny_bind (wpAny_mono h₁ (fun _ s₂ h₂ => wpAny_bind (wpAny_mono h₂ (fun x s₃ h₃ => wpAny_bind (wpAny_standAt (wpAny_bind (wpAny_of_eq (hs x) (wpAny_bind (wpAny_holding (wpAny_mono h₃ (fun it' s₄ h₄ => wpAny_bind (wpAny_runOwn (codeAny_mono h₄ (fun r s₅ h₅ => ?_)))) fun _ _ h' => h'.elim))))))) fun _ _ h' => h'.elim)) fun _ _ h' => h'.elim)
    cases r with
    | ok f => exact wpAny_pure ⟨rfl, h₅⟩
    | error e => exact h₅.elim
end
end Mine

namespace Mine
section
variable {prog : Program} {w : World} {A : Around} {env : Env} {W : List Addr} {s : Shared} {rest : List Stmt} {Q : Flow → Shared → Prop}
abbrev txs (ls : List (List Nat)) (vs : List Value) : Prop := All2 (fun d u => isT d (fun _ => none) u) ls vs
set_option maxHeartbeats 2000000 in
/-- a comprehension of two clauses, of texts -/
theorem comp2 {xs ys : List (List Nat)} {f : List Nat → List Nat → List Nat} {elt iter iter' : Expr} {x y : Str} {px py pos : Pos} {scope : Scope} {cl : List (Str × Addr)} {use : Option (Value → Sem Unit)} {QQ : Value → Shared → Prop}
    (hh : A.handled = none) (h : Ev prog w A env iter W s (isLst isT xs))
    (hin : ∀ C s₂ m₂, Stp [] s s₂ → s₂.heap.Ns C m₂ → EvT prog w A (eval iter' (compEnvC scope cl C env)) [] s₂ (isTup isT ys))
    (helt : ∀ C d e t t' s₂ m₂, d ∈ xs → e ∈ ys → Stp [] s s₂ → s₂.heap.Ns C m₂ → m₂ x = some (.str (tx d) t) → m₂ y = some (.str (tx e) t') → Ev prog w A (compEnvC scope cl C env) elt [] s₂ (isT (f d e)))
    (hsz : xs.length * ys.length ≤ 1000000) (hxy : x ≠ y)
    (hclos : closureFor scope env = pure cl) (hcell : ∀ y ∈ scope.names, y.2 ≠ .cell) (hx : scope.names.lookup x = some .local) (hy : scope.names.lookup y = some .local)
    (hkind : scope.kind = .function) (hnames : ∀ x ∈ scope.names, x.2 = .local → scope.names.lookup x.1 = some .local)
    (hs : ∀ x, foldedSetIterable iter env x = pure x) (hs' : ∀ C x, foldedSetIterable iter' (compEnvC scope cl C env) x = pure x) (s₀ : Shared) (a₀ : Stp [] s s₀) (hw₀ : Held W s₀)
    (done : ∀ s' acc C (vs : List Value) m', Stp [] s₀ s' → s₀.heap.get? acc = none → s₀.heap.get? C = none → acc ∉ W → C ∉ W → acc ≠ C → s'.heap.Ns C m' → s'.heap.PlainList acc vs.toArray → txs (xs.flatMap fun d => ys.map (f d)) vs → compPost (model prog w) A NoE use QQ (.ref acc) C (.ok .next) s') :
    wpAny (model prog w) A (comprehension (.ListComp elt [⟨.Name x px, iter, [], 0⟩, ⟨.Name y py, iter', [], 0⟩] scope pos) scope env (firstIterPos [⟨.Name x px, iter, [], 0⟩, ⟨.Name y py, iter', [], 0⟩] pos) (newList []) false (eval iter env) use) QQ NoE s₀ := by
  refine wpAny_comprehension_free (g := ⟨.Name x px, iter, [], 0⟩) (gs := [⟨.Name y py, iter', [], 0⟩]) rfl hs hclos hkind hnames ?_
  refine wpAny_mono (h s₀ a₀ hw₀) (fun v s₁ ⟨a, d⟩ => ?_) fun _ _ x => x
  obtain ⟨la, items, rfl, hl, hitems⟩ := d
  have hlist : s₁.heap.IsList la items.toArray := hl.isList
  obtain ⟨ol, hol, _⟩ := id hlist
  have hne : la ≠ s₁.heap.objs.size := Nat.ne_of_lt (Heap.lt_size hol)
  have Wk := Walks.list (prog := prog) (w := w) hh s₁.heap.objs.size la hne items.toArray
  simp only [List.size_toArray, List.getElem?_toArray] at Wk
  generalize hIe : s₁.heap.objs.size = I at Wk
  have hIn : s₁.heap.get? I = none := by rw [← hIe]; exact get_size _
  refine wpAny_pyIter_list hlist ?_
  rw [hIe]
  generalize hs2 : ({ s₁ with heap := s₁.heap.push _ } : Shared) = s₂
  have b : Stp [] s₁ s₂ := by rw [← hs2]; exact .push
  have hst : s₂.heap.IsListIter I la 0 ∧ s₂.heap.IsList la items.toArray := by
    rw [← hs2, ← hIe]
    exact ⟨⟨_, Heap.get?_push_size _ rfl, rfl, rfl⟩, hlist.at fun o e => Heap.get?_push_of_some _ e⟩
  have hw₂ : Held W s₂ := (hw₀.stp a).stp b
  refine wpAny_newObj_type ?_
  refine wpAny_newFunctionEnv hcell (by intro y hy; simp at hy) (fun h₁ hns₁ hsb₁ => ?_) hkind
  dsimp only at hns₁ hsb₁ ⊢
  have hsz2 : (s₂.heap.push { cls := .type "list", data := .seq ([] : List Value).toArray }).objs.size = s₂.heap.objs.size + 1 := Heap.size_push ..
  rw [hsz2] at hns₁ hsb₁ ⊢
  have old : ∀ b o, s₂.heap.get? b = some o → h₁.get? b = some o := fun b o e =>
    hsb₁.extBut b o (Nat.ne_of_lt (Nat.lt_succ_of_lt (Heap.lt_size e))) (Heap.get?_push_of_some _ (Heap.get?_push_of_some _ e))
  have st3 : Stp [] s₂ { s₂ with heap := h₁, toks := s₂.toks + ([] : List (Str × Value)).length } := .heap fun b o _ e => old b o e
  have hacc : h₁.PlainList s₂.heap.objs.size ([] : List Value).toArray := ⟨0, hsb₁.extBut _ _ (Nat.ne_of_lt (Nat.lt_succ_self _)) (Heap.get?_push_of_some _ (Heap.get?_push_size _ rfl))⟩
  have na := get_none_of b (get_size s₂.heap)
  have nc : s₁.heap.get? (s₂.heap.objs.size + 1) = none := get_none_of b (get_ge (h := s₂.heap) (Nat.le_succ _))
  have hac : s₂.heap.objs.size ≠ s₂.heap.objs.size + 1 := Nat.ne_of_lt (Nat.lt_succ_self _)
  have naW := hw₂.new (Nat.le_refl s₂.heap.objs.size)
  have ncW : s₂.heap.objs.size + 1 ∉ W := hw₂.new (Nat.le_succ s₂.heap.objs.size)
  have hIlt : I < s₂.heap.objs.size := by obtain ⟨⟨o, ho, _⟩, _⟩ := hst; exact Heap.lt_size ho
  have hlalt : la < s₂.heap.objs.size := by obtain ⟨_, ⟨o, ho, _⟩⟩ := hst; exact Heap.lt_size ho
  generalize hacce : s₂.heap.objs.size = acc at *
  generalize hCe : acc + 1 = C at *
  have hIa : I ≠ acc := Nat.ne_of_lt hIlt
  have hIC : I ≠ C := by rw [← hCe]; exact Nat.ne_of_lt (Nat.lt_succ_of_lt hIlt)
  have hla : la ≠ acc := Nat.ne_of_lt hlalt
  have hlC : la ≠ C := by rw [← hCe]; exact Nat.ne_of_lt (Nat.lt_succ_of_lt hlalt)
  have st13 : Stp [] s₁ { s₂ with heap := h₁, toks := s₂.toks + ([] : List (Str × Value)).length } := b.trans st3
  have hst3 : h₁.IsListIter I la 0 ∧ h₁.IsList la items.toArray := Wk.frame 0 _ _ hst fun b _ o e => old b o e
  have hxk : (compEnvC scope cl C env).kindOf x = some .local := lookup_relabel_local hx
  have hyk : (compEnvC scope cl C env).kindOf y = some .local := lookup_relabel_local hy
  have hp : ((compEnvC scope cl C env).scope.kind == .class || ((compEnvC scope cl C env).scope.kind == .module && (compEnvC scope cl C env).locals != (compEnvC scope cl C env).globals)) = false := by
    show (scope.kind == .class || (scope.kind == .module && _)) = false
    rw [hkind]; rfl
  have hlen : items.length = xs.length := hitems.length.symm
  have fr : ∀ c ∈ [acc, C], s₁.heap.get? c = none := fun c hc => by
    rcases List.mem_cons.mp hc with rfl | hc
    · exact na
    · rw [List.mem_singleton.mp hc]; exact nc
  generalize hpre : (fun i : Nat => (xs.take i).flatMap fun d => ys.map (f d)) = pre
  have pre_len : ∀ i, (pre i).length ≤ xs.length * ys.length := fun i => by
    rw [← hpre]
    have : ∀ l : List (List Nat), (l.flatMap fun d => ys.map (f d)).length = l.length * ys.length := fun l => by
      induction l with
      | nil => simp
      | cons d l ih => rw [List.flatMap_cons, List.length_append, ih, List.length_map, List.length_cons, Nat.add_mul]; omega
    show ((xs.take i).flatMap fun d => ys.map (f d)).length ≤ _
    rw [this]
    exact Nat.mul_le_mul_right _ (by rw [List.length_take]; exact Nat.min_le_right ..)
  have loop : codeAny (model prog w) A (.compLoop (.ListComp elt [⟨.Name x px, iter, [], 0⟩, ⟨.Name y py, iter', [], 0⟩] scope pos) 0 (.ref I) (.ref acc) (compEnvC scope cl C env)) (compPost (model prog w) A NoE use QQ (.ref acc) C) { s₂ with heap := h₁, toks := s₂.toks + ([] : List (Str × Value)).length } := by
    refine loop_out (fun k s' => ∃ i vs m', i ≤ items.length ∧ k = items.length - i ∧ (s'.heap.IsListIter I la i ∧ s'.heap.IsList la items.toArray) ∧ Stp [] s₁ s' ∧ s'.heap.Ns C m' ∧ s'.heap.PlainList acc vs.toArray ∧ txs (pre i) vs) ?_ items.length
      ⟨0, [], _, Nat.zero_le _, rfl, hst3, st13, hns₁, hacc, by rw [← hpre]; exact .nil⟩ (hs := hs' C)
    rintro k s' ⟨i, vs, m', hi, rfl, hst', st', hC', hacc', hvs⟩
    rcases Nat.lt_or_eq_of_le hi with hlt | heq
    · refine Wk.item i s' _ _ hlt hst' (fun v h' tk hP hst₁ hk => ?_)
      obtain ⟨d, hd, ⟨t, rfl⟩⟩ := hitems.getR i v hP
      have hk' : ∀ c o, c ≠ I → s'.heap.get? c = some o → h'.get? c = some o := fun c o hc e => hk c o (fun hm => hc (List.mem_singleton.mp hm)) e
      refine wpAny_assign_Name (wpAny_storeName_local hxk (m := m') (hC'.at' fun o e => hk' _ o hIC.symm e) (fun h₂ hn₂ hs₂ => ?_) hp)
      have stn : Stp [I] s' { s' with heap := h', toks := tk } := .heap hk
      have stc : Stp [C] { s' with heap := h', toks := tk } { s' with heap := h₂, toks := tk + 1 } := .same hs₂
      generalize hs4 : ({ s' with heap := h₂, toks := tk + 1 } : Shared) = s₄ at stc
      have hh4 : s₄.heap = h₂ := by rw [← hs4]
      have st14 : Stp [] s₁ s₄ := (st'.fresh stn fun c hc => by rw [List.mem_singleton.mp hc]; exact hIn).fresh stc fun c hc => by rw [List.mem_singleton.mp hc]; exact nc
      have hacc4 : s₄.heap.PlainList acc vs.toArray := hacc'.at fun o e => stc.keep _ o (fun hm => hac (List.mem_singleton.mp hm)) (hk' _ o (Ne.symm hIa) e)
      have hst4 : s₄.heap.IsListIter I la (i + 1) ∧ s₄.heap.IsList la items.toArray := Wk.frame _ _ _ hst₁ fun c hc o e => stc.keep c o (fun hm => by
        rw [List.mem_singleton.mp hm] at hc
        rcases List.mem_cons.mp hc with q | hc
        · exact hIC q.symm
        · exact hlC (List.mem_singleton.mp hc).symm) e
      have hn4 : s₄.heap.Ns C (fun z => if z = x then some (.str (tx d) t) else m' z) := by rw [hh4]; exact hn₂
      refine wpAny_mono ((hin C s₄ _ ((a₀.trans a).trans st14) hn4).at (held_nil _)) (fun tv s₅ ⟨st45, dt⟩ => ?_) fun _ _ x => x
      obtain ⟨ta, tvs, rfl, hta, htvs⟩ := dt
      have hn5 := hn4.keeps st45.all
      have hacc5 : s₅.heap.PlainList acc vs.toArray := hacc4.at fun o e => st45.all _ o e
      have hst5 : s₅.heap.IsListIter I la (i + 1) ∧ s₅.heap.IsList la items.toArray := Wk.frame _ _ _ hst4 fun c _ o e => st45.all c o e
      have st15 := st14.trans st45
      have hM5 : Held [acc, C] s₅ := by
        obtain ⟨n, e⟩ := id hacc5
        obtain ⟨o, _, _, ho, _⟩ := id hn5
        exact .cons e (.cons ho (held_nil _))
      have htM : ta ∉ [acc, C] := fun hm => by
        obtain ⟨ot, n, e1, c1, d1⟩ := hta
        have e2 := (vw_some e1).2
        rcases List.mem_cons.mp hm with q | hm
        · obtain ⟨n', e'⟩ := hacc5
          rw [q, e'] at e2
          have := congrArg (fun o => o.map (fun o : Obj => o.cls)) e2
          simp [c1] at this
        · obtain ⟨o', es, ep, ho', hd', _⟩ := id hn5
          rw [List.mem_singleton.mp hm, ho'] at e2
          have := congrArg (fun o => o.map (fun o : Obj => o.data)) e2
          simp [hd', d1] at this
      refine wpAny_mono (iters_tuple (prog := prog) (w := w) (A := A) (M := [acc, C]) hh hta.isTuple htM hM5) (fun it s₆ yy => ?_) fun _ _ x => x
      obtain ⟨I', fp', wr', St', rfl, Wk', hst6, st56, hnew', hfp', hfa'⟩ := yy
      have hn6 := hn5.keeps st56.all
      have hacc6 : s₆.heap.PlainList acc vs.toArray := hacc5.at fun o e => st56.all _ o e
      have hst6o : s₆.heap.IsListIter I la (i + 1) ∧ s₆.heap.IsList la items.toArray := Wk.frame _ _ _ hst5 fun c _ o e => st56.all c o e
      have hI5 : ∃ o, s₅.heap.get? I = some o := by obtain ⟨⟨o, ho, _⟩, _⟩ := hst5; exact ⟨o, ho⟩
      have hl5 : ∃ o, s₅.heap.get? la = some o := by obtain ⟨_, ⟨o, ho, _⟩⟩ := hst5; exact ⟨o, ho⟩
      have wr1 : ∀ c ∈ wr', s₁.heap.get? c = none := fun c hc => get_none_of st15 (hnew' c hc)
      have nI' : ∀ c ∈ wr', c ≠ I := fun c hc q => by obtain ⟨o, ho⟩ := hI5; rw [← q, hnew' c hc] at ho; cases ho
      have nl' : ∀ c ∈ wr', c ≠ la := fun c hc q => by obtain ⟨o, ho⟩ := hl5; rw [← q, hnew' c hc] at ho; cases ho
      have hylen : tvs.length = ys.length := htvs.length.symm
      -- the inner loop
      have inner : codeAny (model prog w) A (.compLoop (.ListComp elt [⟨.Name x px, iter, [], 0⟩, ⟨.Name y py, iter', [], 0⟩] scope pos) 1 (.ref I') (.ref acc) (compEnvC scope cl C env)) (fun r s₅ => match r with | .ok _ => ∃ m, m < items.length - i ∧ ∃ i vs m', i ≤ items.length ∧ m = items.length - i ∧ (s₅.heap.IsListIter I la i ∧ s₅.heap.IsList la items.toArray) ∧ Stp [] s₁ s₅ ∧ s₅.heap.Ns C m' ∧ s₅.heap.PlainList acc vs.toArray ∧ txs (pre i) vs | .error _ => False) s₆ := by
        refine loop_in (fun k s' => ∃ j vs m', j ≤ tvs.length ∧ k = tvs.length - j ∧ St' j s'.heap ∧ (s'.heap.IsListIter I la (i + 1) ∧ s'.heap.IsList la items.toArray) ∧ Stp [] s₁ s' ∧ s'.heap.Ns C m' ∧ m' x = some (.str (tx d) t) ∧ s'.heap.PlainList acc vs.toArray ∧ txs (pre i ++ (ys.take j).map (f d)) vs) ?_ tvs.length
          ⟨0, vs, _, Nat.zero_le _, rfl, hst6, hst6o, st15.trans st56, hn6, by simp, hacc6, by simpa using hvs⟩
        rintro k s' ⟨j, vs, m', hj, rfl, hst', hsto, st', hC', hmx, hacc', hvs⟩
        rcases Nat.lt_or_eq_of_le hj with hjlt | hjeq
        · refine Wk'.item j s' _ _ hjlt hst' (fun v h' tk hP hst₁ hk => ?_)
          obtain ⟨e, he, ⟨t', rfl⟩⟩ := htvs.getR j v hP
          have hCw : C ∉ wr' := fun hm => hfp' C (Wk'.sub _ hm) (.tail _ (.head _))
          have haw : acc ∉ wr' := fun hm => hfp' acc (Wk'.sub _ hm) (.head _)
          refine wpAny_assign_Name (wpAny_storeName_local hyk (m := m') (hC'.at' fun o e => hk _ o hCw e) (fun h₂ hn₂ hs₂ => ?_) hp)
          have stn : Stp wr' s' { s' with heap := h', toks := tk } := .heap hk
          have stc : Stp [C] { s' with heap := h', toks := tk } { s' with heap := h₂, toks := tk + 1 } := .same hs₂
          generalize hs7 : ({ s' with heap := h₂, toks := tk + 1 } : Shared) = s₇ at stc
          have hh7 : s₇.heap = h₂ := by rw [← hs7]
          have st17 : Stp [] s₁ s₇ := (st'.fresh stn wr1).fresh stc fun c hc => by rw [List.mem_singleton.mp hc]; exact nc
          have hn7 : s₇.heap.Ns C (fun z => if z = y then some (.str (tx e) t') else m' z) := by rw [hh7]; exact hn₂
          have hacc7 : s₇.heap.PlainList acc vs.toArray := hacc'.at fun o e => stc.keep _ o (fun hm => hac (List.mem_singleton.mp hm)) (hk _ o haw e)
          have hst7 : St' (j + 1) s₇.heap := Wk'.frame _ _ _ hst₁ fun c hc o e => stc.keep c o (fun hm => hfp' c hc (by rw [List.mem_singleton.mp hm]; exact .tail _ (.head _))) e
          have hso7 : s₇.heap.IsListIter I la (i + 1) ∧ s₇.heap.IsList la items.toArray := Wk.frame _ _ _ hsto fun c hc o e => by
            rcases List.mem_cons.mp hc with q | hc
            · exact stc.keep c o (fun hm => hIC (q ▸ List.mem_singleton.mp hm)) (hk c o (fun hm => nI' c hm q) e)
            · have q := List.mem_singleton.mp hc
              exact stc.keep c o (fun hm => hlC (q ▸ List.mem_singleton.mp hm)) (hk c o (fun hm => nl' c hm q) e)
          refine wpAny_mono ((helt C d e t t' s₇ _ (List.mem_of_getElem? hd) (List.mem_of_getElem? he) ((a₀.trans a).trans st17) hn7 (by rw [if_neg hxy]; exact hmx) (by simp)).at (held_nil _)) (fun v s₈ ⟨st78, dv⟩ => ?_) fun _ _ x => x
          have hacc8 : s₈.heap.PlainList acc vs.toArray := hacc7.at fun o e => st78.all _ o e
          have hvl : vs.length ≤ 1000000 + ys.length := by
            have e1 := hvs.length
            rw [List.length_append, List.length_map, List.length_take] at e1
            have e2 := pre_len i
            omega
          have hvl2 : vs.length ≤ 1000000 := by
            have e1 := hvs.length
            rw [List.length_append, List.length_map, List.length_take] at e1
            have e3 : (pre i).length + ys.length ≤ xs.length * ys.length := by
              have e4 : pre (i + 1) = pre i ++ ys.map (f d) := by
                rw [← hpre]
                show (xs.take (i + 1)).flatMap _ = (xs.take i).flatMap _ ++ _
                rw [List.take_add_one, hd, List.flatMap_append]
                simp
              have e5 := pre_len (i + 1)
              rw [e4, List.length_append, List.length_map] at e5
              exact e5
            have e6 : min j ys.length ≤ ys.length := Nat.min_le_right ..
            omega
          refine wpAny_list_append_plain hacc8 (fun h₄ hl hs₄ => ?_) (by rw [List.size_toArray]; exact sl hvl2)
          have st4 : Stp [acc] s₈ { s₈ with heap := h₄ } := .same hs₄
          refine ⟨tvs.length - (j + 1), by omega, j + 1, vs ++ [v], _, hjlt, rfl, ?_, ?_, ?_, (hn7.keeps st78.all).sameBut hs₄ (Ne.symm hac), by rw [if_neg hxy]; exact hmx, by simpa using hl, ?_⟩
          · exact Wk'.frame _ _ _ hst7 fun c hc o e => st4.keep c o (fun hm => hfp' c hc (by rw [List.mem_singleton.mp hm]; exact .head _)) (st78.all c o e)
          · refine Wk.frame _ _ _ hso7 fun c hc o e => st4.keep c o (fun hm => ?_) (st78.all c o e)
            rcases List.mem_cons.mp hc with q | hc
            · exact hIa (q ▸ List.mem_singleton.mp hm)
            · exact hla ((List.mem_singleton.mp hc) ▸ List.mem_singleton.mp hm)
          · exact (st17.trans st78).fresh st4 fun c hc => by rw [List.mem_singleton.mp hc]; exact na
          · rw [List.take_add_one, he, List.map_append, ← List.append_assoc]
            exact hvs.snoc dv
        · subst hjeq
          refine Wk'.done s' _ _ hst' (fun h' tk hk => ?_)
          have hCw : C ∉ wr' := fun hm => hfp' C (Wk'.sub _ hm) (.tail _ (.head _))
          have haw : acc ∉ wr' := fun hm => hfp' acc (Wk'.sub _ hm) (.head _)
          have stn : Stp wr' s' { s' with heap := h', toks := tk } := .heap hk
          refine ⟨items.length - (i + 1), by omega, i + 1, vs, m', hlt, rfl, ?_, st'.fresh stn wr1, hC'.at' fun o e => hk _ o hCw e, hacc'.at fun o e => hk _ o haw e, ?_⟩
          · refine Wk.frame _ _ _ hsto fun c hc o e => ?_
            rcases List.mem_cons.mp hc with q | hc
            · exact hk c o (fun hm => nI' c hm q) e
            · exact hk c o (fun hm => nl' c hm (List.mem_singleton.mp hc)) e
          · have e4 : pre (i + 1) = pre i ++ ys.map (f d) := by
              rw [← hpre]
              show (xs.take (i + 1)).flatMap _ = (xs.take i).flatMap _ ++ _
              rw [List.take_add_one, hd, List.flatMap_append]
              simp
            rw [e4]
            rw [hylen, List.take_length] at hvs
            exact hvs
      exact start_in inner (Wk'.self 0 _ _ _ hst6 inner)
    · subst heq
      refine Wk.done s' _ _ hst' (fun h' tk hk => ?_)
      have hk' : ∀ c o, c ≠ I → s'.heap.get? c = some o → h'.get? c = some o := fun c o hc e => hk c o (fun hm => hc (List.mem_singleton.mp hm)) e
      have stn : Stp [I] s' { s' with heap := h', toks := tk } := .heap hk
      refine done _ acc C vs m' (a.trans (st'.fresh stn fun c hc => by rw [List.mem_singleton.mp hc]; exact hIn)) (get_none_of a na) (get_none_of a nc) naW ncW hac (hC'.at' fun o e => hk' _ o hIC.symm e) (hacc'.at fun o e => hk' _ o (Ne.symm hIa) e) ?_
      rw [← hpre] at hvs
      have e : xs.take items.length = xs := List.take_of_length_le (by omega)
      simpa [e] using hvs
  exact codeAny_compStart_list loop (Wk.self 0 _ _ _ hst3 loop)
end
end Mine

namespace Mine
section
variable {prog : Program} {w : World} {A : Around} {env : Env} {W M : List Addr} {s : Shared} {rest : List Stmt} {Q : Flow → Shared → Prop}
/-- a loop over a list; what the turns make may be told of: it is not the iterator I -/
theorem x_forL {γ : Type} {R₀ : γ → Dsc} {xs : List γ} {iter : Expr} {x : Str} {px pos : Pos} {body : List Stmt} (J : Addr → Nat → Heap → Prop) (hh : A.handled = none)
    (h : Ev prog w A env iter W s (isLst R₀ xs)) (hw : Held W s) (hMW : ∀ b ∈ M, b ∈ W) (hR₀ : ∀ d, Mono (R₀ d))
    (hJ : ∀ I i h h', J I i h → (∀ b o, b ≠ I → h.get? b = some o → h'.get? b = some o) → J I i h')
    (h0 : ∀ I s', I ∉ W → s.heap.get? I = none → Stp [] s s' → (∃ o, s'.heap.get? I = some o) → J I 0 s'.heap)
    (turn : ∀ I i d v s₂, xs[i]? = some d → R₀ d (vw W s₂.heap) v → I ∉ W → s.heap.get? I = none → (∃ o, s₂.heap.get? I = some o) → Stp M s s₂ → J I i s₂.heap →
      wpAny (model prog w) A (storeName env x v) (fun _ s₃ => Go prog w A env body (fun f s₄ => match f with
        | .next | .cont => Stp M s₂ s₄ ∧ J I (i + 1) s₄.heap
        | .brk => Go prog w A env rest Q s₄
        | .ret v => Q (.ret v) s₄) s₃) NoE s₂)
    (done : ∀ I s', s.heap.get? I = none → Stp M s s' → J I xs.length s'.heap → Go prog w A env rest Q s')
    (hs : ∀ x, foldedSetIterable iter env x = pure x := by intro _; rfl) : Go prog w A env (.For (.Name x px) iter body [] pos :: rest) Q s := by
  refine wpAny_execs_cons (wpAny_For (wpAny_mono (h.at hw) (fun v s₁ ⟨a, d⟩ => ?_) fun _ _ x => x) hs)
  obtain ⟨la, items, rfl, hl, hitems⟩ := d
  have hlist : s₁.heap.IsList la items.toArray := hl.isList
  obtain ⟨ol, hol, _⟩ := id hlist
  have hne : la ≠ s₁.heap.objs.size := Nat.ne_of_lt (Heap.lt_size hol)
  have Wk := Walks.list (prog := prog) (w := w) hh s₁.heap.objs.size la hne items.toArray
  simp only [List.size_toArray, List.getElem?_toArray] at Wk
  generalize hIe : s₁.heap.objs.size = I at Wk hne
  have hIn : s₁.heap.get? I = none := by rw [← hIe]; exact get_size _
  have hIs : s.heap.get? I = none := get_none_of a hIn
  have hIW : I ∉ W := by rw [← hIe]; exact (hw.stp a).new (Nat.le_refl _)
  have hIM : I ∉ M := fun hm => hIW (hMW _ hm)
  have hlM : la ∉ M := fun hm => hl.notin (hMW _ hm)
  refine wpAny_pyIter_list hlist ?_
  rw [hIe]
  generalize hs2 : ({ s₁ with heap := s₁.heap.push _ } : Shared) = s₂
  have b : Stp [] s₁ s₂ := by rw [← hs2]; exact .push
  have hst : s₂.heap.IsListIter I la 0 ∧ s₂.heap.IsList la items.toArray := by
    rw [← hs2, ← hIe]
    exact ⟨⟨_, Heap.get?_push_size _ rfl, rfl, rfl⟩, hlist.at fun o e => Heap.get?_push_of_some _ e⟩
  have hlen : items.length = xs.length := hitems.length.symm
  refine codeAny_forLoop (fun k s' => ∃ i, i ≤ items.length ∧ k = items.length - i ∧ (s'.heap.IsListIter I la i ∧ s'.heap.IsList la items.toArray) ∧ Stp M s₁ s' ∧ J I i s'.heap) ?_ items.length ⟨0, Nat.zero_le _, rfl, hst, b.of_nil, h0 I s₂ hIW hIs (a.trans b) (let ⟨⟨o, ho, _⟩, _⟩ := hst; ⟨o, ho⟩)⟩
  have fpk : ∀ {sx sy : Shared} {i : Nat}, Stp M sx sy → (sx.heap.IsListIter I la i ∧ sx.heap.IsList la items.toArray) → (sy.heap.IsListIter I la i ∧ sy.heap.IsList la items.toArray) := fun {sx sy i} st hh => Wk.frame _ _ _ hh fun c hc o e => st.keep c o (fun hm => by
    rcases List.mem_cons.mp hc with q | hc
    · exact hIM (q ▸ hm)
    · exact hlM ((List.mem_singleton.mp hc) ▸ hm)) e
  rintro k s' ⟨i, hi, rfl, hst', st', hj⟩
  rcases Nat.lt_or_eq_of_le hi with hlt | heq
  · refine Wk.item i s' _ _ hlt hst' (fun v h' tk hPv hst₁ hk => ?_)
    have hk' : ∀ c o, c ≠ I → s'.heap.get? c = some o → h'.get? c = some o := fun c o hc e => hk c o (fun hm => hc (List.mem_singleton.mp hm)) e
    have stn : Stp M s₁ { s' with heap := h', toks := tk } := ⟨fun c o hc e => hk' c o (fun q => by rw [q, hIn] at e; cases e) (st'.keep c o hc e), st'.os, st'.bare, st'.old⟩
    have hj' : J I i h' := hJ I i _ _ hj hk'
    obtain ⟨d, hd, r⟩ := hitems.getR i v hPv
    refine wpAny_assign_Name (wpAny_mono (turn I i d v _ hd (hR₀ d _ _ v (stn.vle' hMW) r) hIW hIs (let ⟨⟨o, ho, _⟩, _⟩ := hst₁; ⟨o, ho⟩) (a.of_nil.trans stn) hj') (fun _ s₃ g => wpAny_mono g (fun f s₄ q => ?_) fun _ _ x => x.elim) fun _ _ x => x.elim)
    cases f with
    | next => exact ⟨items.length - (i + 1), by omega, i + 1, hlt, rfl, fpk q.1 hst₁, stn.trans q.1, q.2⟩
    | cont => exact ⟨items.length - (i + 1), by omega, i + 1, hlt, rfl, fpk q.1 hst₁, stn.trans q.1, q.2⟩
    | brk => exact q
    | ret v => exact q
  · subst heq
    refine Wk.done s' _ _ hst' (fun h' tk hk => wpAny_execs_nil ?_)
    have hk' : ∀ c o, c ≠ I → s'.heap.get? c = some o → h'.get? c = some o := fun c o hc e => hk c o (fun hm => hc (List.mem_singleton.mp hm)) e
    exact done I _ hIs (a.of_nil.trans ⟨fun c o hc e => hk' c o (fun q => by rw [q, hIn] at e; cases e) (st'.keep c o hc e), st'.os, st'.bare, st'.old⟩) (by rw [← hlen]; exact hJ _ _ _ _ hj hk')
/-- a comprehension of two clauses that is stored as it ends -/
theorem x_assignComp2 {xs ys : List (List Nat)} {f : List Nat → List Nat → List Nat} {elt iter iter' : Expr} {x y z : Str} {px py pz pos spos : Pos} {scope : Scope} {cl : List (Str × Addr)} {m : Str → Option Value}
    (hh : A.handled = none) (h : Ev prog w A env iter W s (isLst isT xs))
    (hin : ∀ C s₂ m₂, Stp [] s s₂ → s₂.heap.Ns C m₂ → EvT prog w A (eval iter' (compEnvC scope cl C env)) [] s₂ (isTup isT ys))
    (helt : ∀ C d e t t' s₂ m₂, d ∈ xs → e ∈ ys → Stp [] s s₂ → s₂.heap.Ns C m₂ → m₂ x = some (.str (tx d) t) → m₂ y = some (.str (tx e) t') → Ev prog w A (compEnvC scope cl C env) elt [] s₂ (isT (f d e)))
    (hsz : xs.length * ys.length ≤ 1000000) (hw : Held W s) (hn : s.heap.Ns env.locals m) (hL : env.locals ∈ W)
    (next : ∀ ta vs s', Stp [env.locals] s s' → ta ∉ W → s.heap.get? ta = none → s'.heap.PlainList ta vs.toArray → txs (xs.flatMap fun d => ys.map (f d)) vs → s'.heap.Ns env.locals (fun k => if k = z then some (.ref ta) else m k) → Go prog w A env rest Q s')
    (hxy : x ≠ y := by decide) (hsw : swapsWith (.ListComp elt [⟨.Name x px, iter, [], 0⟩, ⟨.Name y py, iter', [], 0⟩] scope pos) (some (.Name z pz)) spos.line env = pure true := by rfl)
    (hclos : closureFor scope env = pure cl := by rfl) (hcell : ∀ y ∈ scope.names, y.2 ≠ .cell := by decide) (hx : scope.names.lookup x = some .local := by rfl) (hy : scope.names.lookup y = some .local := by rfl)
    (hkind : scope.kind = .function := by rfl) (hnames : ∀ x ∈ scope.names, x.2 = .local → scope.names.lookup x.1 = some .local := by decide)
    (hz : env.kindOf z = some .local := by rfl) (hp : (env.scope.kind == .class || (env.scope.kind == .module && env.locals != env.globals)) = false := by rfl)
    (hs : ∀ x, foldedSetIterable iter env x = pure x := by intro _; rfl) (hs' : ∀ C x, foldedSetIterable iter' (compEnvC scope cl C env) x = pure x := by intro _ _; rfl) :
    Go prog w A env (.Assign [.Name z pz] (.ListComp elt [⟨.Name x px, iter, [], 0⟩, ⟨.Name y py, iter', [], 0⟩] scope pos) spos :: rest) Q s := by
  refine wpAny_execs_cons ?_
  rw [exec_Assign_Name_used _ _ _ _ hsw]
  refine wpAny_bind (wpAny_standAt (wpAny_bind ?_))
  show wpAny _ A (do let _ ← comprehension (.ListComp elt [⟨.Name x px, iter, [], 0⟩, ⟨.Name y py, iter', [], 0⟩] scope pos) scope env _ (newList []) false (eval iter env) (some (assign (.Name z pz) env))) _ _ s
  refine wpAny_bind (wpAny_mono (comp2 (use := some (assign (.Name z pz) env)) (QQ := fun _ s' => Go prog w A env rest Q s') hh h hin helt hsz hxy hclos hcell hx hy hkind hnames hs hs' s (.refl _ _) hw ?_) (fun _ s' hq => wpAny_pure (wpAny_pure hq)) fun _ _ e => e)
  intro s' acc C vs m' st' na nc hna hnc hac hns hpl hl
  have hLC : env.locals ≠ C := fun e => hnc (e ▸ hL)
  have hLa : env.locals ≠ acc := fun e => hna (e ▸ hL)
  show wpAny _ A (assign (.Name z pz) env (.ref acc)) _ _ _
  refine wpAny_assign_Name (wpAny_storeName_local hz (hn.keeps st'.all) (fun h₂ hn₂ hs₂ => ?_) hp)
  refine ⟨m', hns.sameBut hs₂ (Ne.symm hLC), fun h₃ hs₃ => ?_⟩
  have st2 : Stp [env.locals] s' { s' with heap := h₂, toks := s'.toks + 1 } := .same hs₂
  have st3 : Stp [C] { s' with heap := h₂, toks := s'.toks + 1 } { s' with heap := h₃, toks := s'.toks + 1 } := .heap fun b o hb e => hs₃.extBut b o (fun q => hb (q ▸ .head _)) e
  refine next acc vs _ ?_ hna na ?_ hl (hn₂.sameBut hs₃ hLC)
  · refine ⟨fun c o hc e => ?_, (st'.trans (s'' := { s' with heap := s'.heap }) (.refl _ _)).os, fun hb => st'.bare hb, fun i hi => st'.old i hi⟩
    exact st3.keep c o (fun hm => by rw [List.mem_singleton.mp hm, nc] at e; cases e) (st2.keep c o hc (st'.all c o e))
  · exact hpl.at fun o e => st3.keep _ o (fun hm => hac (List.mem_singleton.mp hm)) (st2.keep _ o (fun hm => hLa (List.mem_singleton.mp hm).symm) e)
end
end Mine

namespace Mine
def markS (ts : List (List Nat)) (u : List Nat) : List (List Nat) := ts.flatMap fun t => [[], [34]].map fun m => t ++ m ++ u
def markN (us : List (List Nat)) : List (List Nat) := us.foldl markS [[]]
def markedP (us : List (List Nat)) : List (List Nat) := markN (us ++ [[]])
theorem markN_succ {us : List (List Nat)} {i : Nat} {u : List Nat} (h : us[i]? = some u) : markN (us.take (i + 1)) = markS (markN (us.take i)) u := by
  unfold markN
  rw [List.take_add_one, h, List.foldl_append]; rfl
theorem markS_len (ts : List (List Nat)) (u : List Nat) : (markS ts u).length = 2 * ts.length := by
  induction ts with
  | nil => rfl
  | cons t ts ih => unfold markS at *; rw [List.flatMap_cons, List.length_append, ih]; simp; omega
theorem markS_item {ts : List (List Nat)} {u : List Nat} {n : Nat} (h : ∀ t ∈ ts, t.length ≤ n) (hu : u.length ≤ 2) : ∀ t ∈ markS ts u, t.length ≤ n + 3 := by
  intro t ht
  obtain ⟨t', ht', hm⟩ := List.mem_flatMap.mp ht
  obtain ⟨m, hm1, rfl⟩ := List.mem_map.mp hm
  have := h t' ht'
  have hml : m.length ≤ 1 := by
    rcases List.mem_cons.mp hm1 with rfl | hm1
    · decide
    · rw [List.mem_singleton.mp hm1]; decide
  rw [List.length_append, List.length_append]
  omega
theorem markN_facts (us : List (List Nat)) (hu : ∀ u ∈ us, u.length ≤ 2) : (markN us).length = 2 ^ us.length ∧ ∀ t ∈ markN us, t.length ≤ 3 * us.length := by
  have key : ∀ (us ts : List (List Nat)) (n : Nat), (∀ u ∈ us, u.length ≤ 2) → (∀ t ∈ ts, t.length ≤ n) → (us.foldl markS ts).length = ts.length * 2 ^ us.length ∧ ∀ t ∈ us.foldl markS ts, t.length ≤ n + 3 * us.length := by
    intro us
    induction us with
    | nil => intro ts n _ ht; exact ⟨by simp, by simpa using ht⟩
    | cons u us ih =>
      intro ts n hu ht
      rw [List.foldl_cons]
      obtain ⟨h1, h2⟩ := ih (markS ts u) (n + 3) (fun x hx => hu x (.tail _ hx)) (markS_item ht (hu u (.head _)))
      refine ⟨?_, fun t ht => ?_⟩
      · rw [h1, markS_len, List.length_cons, Nat.pow_succ]; rw [Nat.mul_comm 2, Nat.mul_assoc, Nat.mul_comm 2]
      · have := h2 t ht; rw [List.length_cons]; omega
  obtain ⟨h1, h2⟩ := key us [[]] 0 hu (by simp)
  exact ⟨by unfold markN; simpa using h1, fun t ht => by have := h2 t ht; omega⟩
section
variable {w : World} {mg mb : Str → Option Value} {s : Shared} {A : Around} {W : List Addr} {k : Nat}
set_option maxHeartbeats 4000000 in
theorem marked_spec (X : Wd w mg mb s.heap) (hA : AOk (k + 1) A) {v : Value} {us : List (List Nat)} (hv : isLst isT us (vw W s.heap) v) (hul : ∀ u ∈ us, u.length ≤ 2) (hlen : us.length ≤ 8) (hw : Held W s) :
    wpAny (model PG w) A (call (.ref 60) [v]) (fun r s' => Stp [] s s' ∧ isLst isT (markedP us) (vw W s'.heap) r) NoE s := by
  refine call_defC hA.room X.nl (X.kin 60 _ rfl) rfl (codeRec_of X.kin (by rfl)) rfl rfl (BindsTo.of_eq (binds := [("units", v)]) rfl) (by rfl) ?_
  intro L cs hcs hL env henv s₁ a₁ hn hns hcells
  subst hcs
  subst henv
  have X1 := X.stp a₁
  have hcell1 : s₁.heap.IsCell (L + 1) none := hcells "unit" (L + 1) rfl
  have hLn : s.heap.get? L = none := hn L (Nat.le_refl _)
  have hCn : s.heap.get? (L + 1) = none := hn (L + 1) (Nat.le_succ _)
  have hLC : L ≠ L + 1 := Nat.ne_of_lt (Nat.lt_succ_self _)
  have hA' : ∀ env, AOk k (A.deeper env) := fun env => hA.deeper
  have hM : ∀ c ∈ [L, L + 1], s.heap.get? c = none := fun c hc => by
    rcases List.mem_cons.mp hc with rfl | hc
    · exact hLn
    · rw [List.mem_singleton.mp hc]; exact hCn
  have hWs : ∀ c ∈ [L, L + 1], c ∉ W := fun c hc => by
    rcases List.mem_cons.mp hc with rfl | hc
    · rw [hL]; exact hw.new (Nat.le_refl _)
    · rw [List.mem_singleton.mp hc, hL]; exact hw.new (Nat.le_succ _)
  have hH : ∀ {sx : Shared} {m : Str → Option Value} {cv : Option Value}, Stp [] s sx → sx.heap.Ns L m → sx.heap.IsCell (L + 1) cv → Held (L :: (L + 1) :: W) sx := fun {sx m cv} h h' h'' => by
    obtain ⟨o, _, _, ho, _⟩ := h'
    obtain ⟨o', ho', _⟩ := h''
    exact .cons ho (.cons ho' (hw.stp h))
  have gV : ∀ {sx : Shared}, Stp [] s sx → isLst isT us (vw (L :: (L + 1) :: W) sx.heap) v := fun {sx} h => mono_lst mono_t _ _ _ _ (fun c o e => by
    obtain ⟨e1, e2⟩ := vw_some e
    refine vw_of (fun hm => ?_) (h.all _ _ e2)
    rcases List.mem_cons.mp hm with rfl | hm
    · rw [hLn] at e2; cases e2
    rcases List.mem_cons.mp hm with rfl | hm
    · rw [hCn] at e2; cases e2
    · exact e1 hm) hv
  refine x_assign (W := L :: (L + 1) :: W) (D := fun g v => isLst isT [[]] g v ∧ New s₁ v) (ev_list (R := isT) (evAll_cons2 (ev_t [] rfl) (mono_t _) evAll_nil2) mono_t (sl (by show 1 ≤ 1000000; decide))) (hH a₁ hns hcell1) hns (.head _) (fun g g' v hg h => ⟨mono_lst mono_t _ _ _ _ hg h.1, h.2⟩) (fun tv s₂ a₂ d₂ hn₂ => ?_)
  obtain ⟨⟨Ta, vs, rfl, hT, hvs⟩, ⟨_, hq, hTn⟩⟩ := d₂
  cases hq
  have a12 : Stp [L] s₁ s₂ := a₂
  have st2 : Stp [] s s₂ := a₁.fresh a12 (fun c hc => by rw [List.mem_singleton.mp hc]; exact hLn)
  have hcell2 : s₂.heap.IsCell (L + 1) none := by
    obtain ⟨o, ho, r⟩ := hcell1
    exact ⟨o, a12.keep _ _ (fun hm => hLC (List.mem_singleton.mp hm).symm) ho, r⟩
  have X2 := X.stp st2
  have hu' : ∀ u ∈ us ++ [[]], u.length ≤ 2 := fun u hu => by
    rcases List.mem_append.mp hu with hu | hu
    · exact hul u hu
    · rw [List.mem_singleton.mp hu]; decide
  have hul' : (us ++ [[]]).length ≤ 9 := by rw [List.length_append]; simp; omega
  refine x_forL (M := [L, L + 1]) (W := L :: (L + 1) :: W) (R₀ := isT) (xs := us ++ [[]])
    (fun I j h => L ≠ I ∧ L + 1 ≠ I ∧ ∃ m cv ta vs, h.Ns L m ∧ h.IsCell (L + 1) cv ∧ m "texts" = some (.ref ta) ∧ ta ≠ I ∧ ta ∉ L :: (L + 1) :: W ∧ h.PlainList ta vs.toArray ∧ txs (markN ((us ++ [[]]).take j)) vs)
    hA.deeper.hd (ev_catL (ev_local hn₂ rfl (gV st2) (mono_lst mono_t _)) ((ev_list (R := isT) (evAll_cons2 (ev_t [] rfl) (mono_t _) evAll_nil2) mono_t (sl (by show 1 ≤ 1000000; decide))).mono fun _ _ h => h.1) mono_t (sl (by simp; omega)))
    (hH st2 hn₂ hcell2) (fun b hb => by
      rcases List.mem_cons.mp hb with rfl | hb
      · exact .head _
      · rw [List.mem_singleton.mp hb]; exact .tail _ (.head _)) mono_t ?hJ ?h0 ?turn ?done
  case hJ =>
    rintro I i h h' ⟨n1, n2, m, cv, ta, vs, h1, ⟨oc, hc, rc⟩, h3, n3, n4, h5, h6⟩ hk
    exact ⟨n1, n2, m, cv, ta, vs, h1.at' fun o e => hk _ o n1 e, ⟨oc, hk _ _ n2 hc, rc⟩, h3, n3, n4, h5.at fun o e => hk _ o n3 e, h6⟩
  case h0 =>
    intro I s' hIW hI st ⟨o, ho⟩
    refine ⟨fun q => hIW (by rw [← q]; exact .head _), fun q => hIW (by rw [← q]; exact .tail _ (.head _)), _, none, Ta, vs, hn₂.keeps st.all, hcell2.keeps st.all, rfl, fun q => ?_, hT.notin, hT.plain.at fun o e => st.all _ o e, hvs.imp fun _ _ h => h⟩
    obtain ⟨n, e⟩ := hT.plain
    rw [q, hI] at e; cases e
  case done =>
    rintro I s₆ hI st6 ⟨n1, n2, m, cv, ta, vs, h1, h2, h3, n3, n4, h5, h6⟩
    rw [List.take_length] at h6
    have sts6 := st2.fresh st6 hM
    refine x_return (W := W) (D := isLst isT (markedP us)) (ev_local h1 h3 ⟨ta, vs, rfl, LAt.of h5 (fun hm => n4 (.tail _ (.tail _ hm))), h6.imp fun _ _ h => h⟩ (mono_lst mono_t _)) (hw.stp sts6) (fun r s' b d => ⟨sts6.trans b, d⟩)
  case turn =>
    rintro I i u uv s₆ hd ⟨tu, rfl⟩ hIW hI ⟨oI, hoI⟩ st6 ⟨n1, n2, m, cv, ta, vs, h1, h2, h3, n3, n4, h5, h6⟩
    refine wpAny_storeName_cell rfl rfl rfl h2 (fun h' hc' hs => ?_)
    have st67 : Stp [L + 1] s₆ { s₆ with heap := h' } := .same hs
    generalize hs7 : ({ s₆ with heap := h' } : Shared) = s₇ at st67 ⊢
    have hh7 : s₇.heap = h' := by rw [← hs7]
    have hcell7 : s₇.heap.IsCell (L + 1) (some (.str (tx u) tu)) := by rw [hh7]; exact hc'
    have hn7 : s₇.heap.Ns L m := h1.at' fun o e => st67.keep _ o (fun hm => hLC (List.mem_singleton.mp hm)) e
    have hta7 : s₇.heap.PlainList ta vs.toArray := h5.at fun o e => st67.keep _ o (fun hm => n4 (by rw [List.mem_singleton.mp hm]; exact .tail _ (.head _))) e
    have hI7 : s₇.heap.get? I = some oI := st67.keep _ _ (fun hm => n2 (List.mem_singleton.mp hm).symm) hoI
    have st27 : Stp [L, L + 1] s₂ s₇ := st6.trans (st67.weaken fun c hc => by rw [List.mem_singleton.mp hc]; exact .tail _ (.head _))
    have sts7 := st2.fresh st27 hM
    have hum : u ∈ us ++ [[]] := List.mem_of_getElem? hd
    have hu2 := hu' u hum
    have hi : i < (us ++ [[]]).length := by
      rcases Nat.lt_or_ge i (us ++ [[]]).length with h | h
      · exact h
      · rw [List.getElem?_eq_none h] at hd; cases hd
    obtain ⟨f1, f2⟩ := markN_facts ((us ++ [[]]).take i) (fun u hu => hu' u (List.mem_of_mem_take hu))
    have hti : ((us ++ [[]]).take i).length ≤ 8 := by rw [List.length_take]; omega
    have f1' : (markN ((us ++ [[]]).take i)).length ≤ 256 := by
      rw [f1]
      exact Nat.le_trans (Nat.pow_le_pow_right (by decide) hti) (by decide)
    have hHI : Held (L :: (L + 1) :: I :: W) s₇ := by
      obtain ⟨o, _, _, ho, _⟩ := id hn7
      obtain ⟨o', ho', _⟩ := id hcell7
      exact .cons ho (.cons ho' (.cons hI7 (hw.stp sts7)))
    have ntI : ta ∉ L :: (L + 1) :: I :: W := fun hm => by
      rcases List.mem_cons.mp hm with q | hm
      · exact n4 (by rw [q]; exact .head _)
      rcases List.mem_cons.mp hm with q | hm
      · exact n4 (by rw [q]; exact .tail _ (.head _))
      rcases List.mem_cons.mp hm with q | hm
      · exact n3 q
      · exact n4 (.tail _ (.tail _ hm))
    refine x_assignComp2 (W := L :: (L + 1) :: I :: W) (xs := markN ((us ++ [[]]).take i)) (ys := [[], [34]]) (f := fun t m => t ++ m ++ u) (cl := [("unit", L + 1)]) hA.deeper.hd ?e1 ?e2 ?e3 (by simp only [List.length_cons, List.length_nil]; omega) hHI hn7 (.head _) (fun ta' vs' s₈ a₈ hta' hnew hpl hvs' hn₈ => ?_)
    case e1 => exact ev_local hn7 h3 ⟨ta, vs, rfl, LAt.of hta7 ntI, h6.imp fun _ _ h => h⟩ (mono_lst mono_t _)
    case e2 =>
      intro C s₈ m₂ st hns8
      exact (ev_tuple (R := isT) (ds := [[], [34]]) (evAll_cons2 (ev_t [] rfl) (mono_t _) (evAll_cons2 (ev_t [34] rfl) (mono_t _) evAll_nil2)) mono_t (sl (by show 2 ≤ 1000000; decide))).mono fun _ _ h => h.1
    case e3 =>
      intro C d e t t' s₈ m₂ hdm hem st hns8 hmx hmy
      have hd3 := f2 d hdm
      have he1 : e.length ≤ 1 := by
        rcases List.mem_cons.mp hem with rfl | hem
        · decide
        · rw [List.mem_singleton.mp hem]; decide
      exact ev_catT (sl (by rw [List.length_append]; omega)) (ev_catT (sl (by omega)) (ev_local hns8 hmx ⟨t, rfl⟩ (mono_t _)) (ev_local hns8 hmy ⟨t', rfl⟩ (mono_t _))) (ev_cell rfl (hcell7.keeps st.all) ⟨tu, rfl⟩ (mono_t _))
    have a78 : Stp [L] s₇ s₈ := a₈
    refine x_nil ⟨(st67.weaken fun c hc => by rw [List.mem_singleton.mp hc]; exact .tail _ (.head _)).trans (a78.weaken fun c hc => by rw [List.mem_singleton.mp hc]; exact .head _), n1, n2, _, some (.str (tx u) tu), ta', vs', hn₈, ?_, rfl, fun q => hta' (by rw [q]; exact .tail _ (.tail _ (.head _))), fun hm => hta' ?_, hpl, ?_⟩
    · obtain ⟨o, ho, r⟩ := hcell7
      exact ⟨o, a78.keep _ _ (fun hm => hLC (List.mem_singleton.mp hm).symm) ho, r⟩
    · rcases List.mem_cons.mp hm with q | hm
      · rw [q]; exact .head _
      rcases List.mem_cons.mp hm with q | hm
      · rw [q]; exact .tail _ (.head _)
      · exact .tail _ (.tail _ (.tail _ hm))
    · rw [markN_succ hd]
      exact hvs'
end
end Mine

namespace Mine
/-- pairs of a text and a number -/
abbrev PL := List (List Nat × Int)
def setP (ps : PL) (k : List Nat) (n : Int) : PL := if ps.any (fun p => p.1 == k) then ps.map (fun p => if p.1 == k then (p.1, n) else p) else ps ++ [(k, n)]
def getP (ps : PL) (k : List Nat) : Option Int := (ps.find? fun p => p.1 == k).map (·.2)
def mergeP (ps more : PL) : PL := more.foldl (fun acc p => setP acc p.1 p.2) ps
def KV (ps : PL) (kvs : List (Str × Value)) : Prop := All2 (fun (p : List Nat × Int) (kv : Str × Value) => kv.1 = tx p.1 ∧ ∃ t, kv.2 = .int p.2 t) ps kvs
theorem tx_dec (a b : List Nat) : decide (tx a = tx b) = (a == b) := by
  rw [decide_eq_decide.mpr tx_inj]
  by_cases h : a = b
  · subst h; simp
  · rw [decide_eq_false h]; exact (beq_eq_false_iff_ne.mpr h).symm
theorem KV.any {ps : PL} {kvs : List (Str × Value)} (h : KV ps kvs) (k : List Nat) : (kvs.any fun kv => kv.1 = tx k) = ps.any (fun p => p.1 == k) := by
  unfold KV at h
  induction h with
  | nil => rfl
  | cons r _ ih => rw [List.any_cons, List.any_cons, ih, r.1, tx_dec]
theorem KV.stored {ps : PL} {kvs : List (Str × Value)} (h : KV ps kvs) (k : List Nat) (n : Int) (t : Tok) : KV (setP ps k n) (stored kvs (tx k) (.int n t)) := by
  unfold setP PySem.stored
  rw [h.any k]
  split
  · rename_i hk
    clear hk
    unfold KV at *
    induction h with
    | nil => exact .nil
    | @cons p kv _ _ r _ ih =>
      rw [List.map_cons, List.map_cons]
      refine .cons ?_ ih
      by_cases hk : p.1 = k
      · have e1 : (p.1 == k) = true := by rw [hk]; exact beq_self_eq_true _
        rw [if_pos (by rw [r.1, hk]), if_pos e1]
        exact ⟨r.1, t, rfl⟩
      · rw [if_neg (by rw [r.1]; exact fun q => hk (tx_inj.mp q)), if_neg (by simpa using hk)]
        exact r
  · exact All2.snoc h ⟨rfl, t, rfl⟩
theorem KV.valueAt {ps : PL} {kvs : List (Str × Value)} (h : KV ps kvs) (k : List Nat) : match getP ps k with | none => PySem.valueAt kvs (tx k) = none | some n => ∃ t, PySem.valueAt kvs (tx k) = some (.int n t) := by
  unfold KV at h
  induction h with
  | nil => rfl
  | @cons p kv ps kvs r _ ih =>
    unfold getP PySem.valueAt at *
    rw [List.find?_cons, List.find?_cons]
    have e : decide (kv.1 = tx k) = (p.1 == k) := by rw [r.1, tx_dec]
    rw [e]
    cases hk : (p.1 == k) with
    | true => obtain ⟨t, ht⟩ := r.2; exact ⟨t, by rw [Option.map_some, ht]⟩
    | false => exact ih
theorem KV.merged {ps more : PL} {kvs mvs : List (Str × Value)} (h : KV ps kvs) (h' : KV more mvs) : KV (mergeP ps more) (PySem.merged kvs mvs) := by
  unfold mergeP PySem.merged
  unfold KV at h'
  induction h' generalizing ps kvs with
  | nil => exact h
  | @cons p kv _ _ r _ ih =>
    rw [List.foldl_cons, List.foldl_cons]
    obtain ⟨t, ht⟩ := r.2
    rw [r.1, ht]
    exact ih (h.stored p.1 p.2 t)
theorem setP_len (ps : PL) (k : List Nat) (n : Int) : (setP ps k n).length ≤ ps.length + 1 := by
  unfold setP
  split
  · rw [List.length_map]; omega
  · rw [List.length_append]; simp
theorem mergeP_len (ps more : PL) : (mergeP ps more).length ≤ ps.length + more.length := by
  unfold mergeP
  induction more generalizing ps with
  | nil => simp
  | cons p more ih =>
    rw [List.foldl_cons, List.length_cons]
    refine Nat.le_trans (ih _) ?_
    have := setP_len ps p.1 p.2
    omega
/-- a dict of texts and numbers at an address -/
def DI (prog : Program) (w : World) (h : Heap) (d : Addr) (ps : PL) : Prop := (d == sysModules) = false ∧ ∃ kvs, h.DictOf (PySem.strKind prog w) d kvs ∧ KV ps kvs
theorem DI.at {prog : Program} {w : World} {h h' : Heap} {d : Addr} {ps : PL} (x : DI prog w h d ps) (hk : ∀ o, h.get? d = some o → h'.get? d = some o) : DI prog w h' d ps := by
  obtain ⟨h1, kvs, ⟨o, es, ep, ho, r⟩, h3⟩ := x
  exact ⟨h1, kvs, ⟨o, es, ep, hk _ ho, r⟩, h3⟩
theorem DI.there {prog : Program} {w : World} {h : Heap} {d : Addr} {ps : PL} (x : DI prog w h d ps) : ∃ o, h.get? d = some o ∧ o.dict = none ∧ o.cls = .type "dict" := by
  obtain ⟨h1, kvs, ⟨o, es, ep, ho, hc, r⟩, h3⟩ := x
  exact ⟨o, ho, hc.2.1, hc.1⟩
theorem DI.typeIs {prog : Program} {w : World} {s : Shared} {d : Addr} {ps : PL} (x : DI prog w s.heap d ps) : s.TypeIs (.ref d) "dict" := let ⟨_, _, h, _⟩ := x; h.typeIs
theorem isStrOf_tx (x : Str) (t : Tok) : PySem.Value.isStrOf x (.str x t) = true := decide_eq_true rfl
section
variable {prog : Program} {w : World} {A : Around} {env : Env} {W M : List Addr} {s : Shared} {rest : List Stmt} {Q : Flow → Shared → Prop} {E : Value → Shared → Prop}
/-- d[key] = number -/
theorem x_setI {o i e : Expr} {pos' pos : Pos} {d : Addr} {ps : PL} {k : List Nat} {n : Int} (ho : Ev prog w A env o W s (isV (.ref d))) (hi : Ev prog w A env i W s (isT k)) (he : Ev prog w A env e W s (isInt n)) (hd : DI prog w s.heap d ps) (hsz : ps.length ≤ 1000000) (hw : Held W s)
    (next : ∀ s', Stp [d] s s' → DI prog w s'.heap d (setP ps k n) → Go prog w A env rest Q s')
    (hs : swapsWith e (some (.Subscript o i pos')) pos.line env = pure false := by rfl) : Go prog w A env (.Assign [.Subscript o i pos'] e pos :: rest) Q s := by
  refine wpAny_execs_cons (wpAny_Assign_Subscript (wpAny_mono (he.at hw) (fun v s₁ ⟨a, d₁⟩ => wpAny_mono (ho s₁ a (hw.stp a)) (fun ov s₂ ⟨b, d₂⟩ => wpAny_mono (hi s₂ (a.trans b) ((hw.stp a).stp b)) (fun iv s₃ ⟨c, d₃⟩ => ?_) fun _ _ x => x) fun _ _ x => x) fun _ _ x => x) hs)
  obtain ⟨t, rfl⟩ := d₁
  cases d₂
  obtain ⟨t', rfl⟩ := d₃
  have st := (a.trans b).trans c
  obtain ⟨h1, kvs, h2, h3⟩ := hd.at (h' := s₃.heap) fun o e => st.all _ o e
  refine wpAny_setItem_pairs (knd := PySem.strKind prog w) (k := tx k) (isStrOf_tx _ t') h2 (fun h' hd' hs' => ?_) (by have := KV.stored h3 k n 0; have e : ps.length = kvs.length := h3.length; exact sl (by omega))
  exact next _ (st.of_nil.trans (.same hs')) ⟨h1, _, hd', h3.stored k n t⟩
/-- d.get(key, number) -/
theorem ev_getI {o e e' : Expr} {apos pos : Pos} {d : Addr} {ps : PL} {k : List Nat} {n : Int} (ho : Ev prog w A env o W s (isV (.ref d))) (he : Ev prog w A env e W s (isT k)) (he' : Ev prog w A env e' W s (isInt n)) (hd : DI prog w s.heap d ps)
    (hbase : attributeBase o "get" env (eval o env) = eval o env := by rfl) (hs : starEach [e, e'] env = [(false, eval e env), (false, eval e' env)] := by rfl) (hline : (apos.endLine == pos.line) = true := by rfl) :
    Ev prog w A env (.Call (.Attribute o "get" apos) [e, e'] [] pos) W s (isInt ((getP ps k).getD n)) := fun s₁ a hw => by
  refine Call_method2 hbase hs hline (wpAny_mono (ho s₁ a hw) (fun v s₂ ⟨b, q⟩ => ?_) fun _ _ x => x)
  cases q
  have hd2 := hd.at (h' := s₂.heap) fun o e => (a.trans b).all _ o e
  refine ⟨"dict", "dict.get", PySem.F.plainAttrs_dict, PySem.F.slot_dict_get, PySem.F.type_dict_get, hd2.typeIs, (fun a e => by cases e; obtain ⟨o, h1, h2, _⟩ := hd2.there; exact ⟨o, h1, h2⟩), ?_⟩
  refine Calls.callWith_builtin rfl (Calls.evalArgs_plain (Calls.spliced_cons (wpAny_mono (he s₂ (a.trans b) (hw.stp b)) (fun u s₃ ⟨c, d₁⟩ => Calls.spliced_cons (wpAny_mono (he' s₃ ((a.trans b).trans c) ((hw.stp b).stp c)) (fun u' s₄ ⟨c', d₂⟩ => Calls.spliced_nil ?_) fun _ _ x => x)) fun _ _ x => x)))
  obtain ⟨t, rfl⟩ := d₁
  obtain ⟨t', rfl⟩ := d₂
  have st := (b.trans c).trans c'
  have hd4 := hd.at (h' := s₄.heap) fun o e => (a.trans st).all _ o e
  obtain ⟨h1, kvs, h2, h3⟩ := id hd4
  refine call_meetsIn PySem.F.slot_dict_get hd4.typeIs PySem.F.entry_dict_get (PySem.F.args_dict_get_3 _ _ _) (meets_dict_get_default (PySem.strKind prog w) d (k := tx k) (key := .str (tx k) t) (isStrOf_tx (tx k) t) h1 (.int n t')) ⟨_, h2.mapOf, st.trans .toks, ?_⟩
  have hv := h3.valueAt k
  cases hg : getP ps k with
  | none => rw [hg] at hv; rw [hv]; exact ⟨t', rfl⟩
  | some z => rw [hg] at hv; obtain ⟨t0, hv⟩ := hv; rw [hv]; exact ⟨t0, rfl⟩
end
end Mine

namespace Mine
def isDI (prog : Program) (w : World) (ps : PL) : Dsc := fun g v => ∃ d o kvs, v = .ref d ∧ g d = some o ∧ o.IsDictOf (PySem.strKind prog w) kvs ∧ KV ps kvs ∧ (d == sysModules) = false
theorem mono_di {prog : Program} {w : World} (ps : PL) : Mono (isDI prog w ps) := fun _ _ _ hg ⟨d, o, kvs, e, h, r⟩ => ⟨d, o, kvs, e, hg _ _ h, r⟩
theorem isDI.di {prog : Program} {w : World} {ps : PL} {W : List Addr} {h : Heap} {d : Addr} (x : isDI prog w ps (vw W h) (.ref d)) : DI prog w h d ps ∧ d ∉ W := by
  obtain ⟨d', o, kvs, e, h1, h2, h3, h4⟩ := x
  cases e
  exact ⟨⟨h4, kvs, Heap.dictOf_iff.mpr ⟨o, (vw_some h1).2, h2⟩, h3⟩, (vw_some h1).1⟩
theorem DI.is {prog : Program} {w : World} {ps : PL} {W : List Addr} {h : Heap} {d : Addr} (x : DI prog w h d ps) (hd : d ∉ W) : isDI prog w ps (vw W h) (.ref d) := by
  obtain ⟨h1, kvs, h2, h3⟩ := x
  obtain ⟨o, ho, hd'⟩ := Heap.dictOf_iff.mp h2
  exact ⟨d, o, kvs, rfl, vw_of hd ho, hd', h3, h1⟩
section
variable {prog : Program} {w : World} {A : Around} {env : Env} {W M : List Addr} {s : Shared} {rest : List Stmt} {Q : Flow → Shared → Prop} {E : Value → Shared → Prop}
theorem big_of {s s' : Shared} (hb : ∃ (b : Nat) (o : Obj), 1 < b ∧ s.heap.get? b = some o) (a : Stp [] s s') : (s'.heap.objs.size == sysModules) = false := by
  obtain ⟨b, o, h1, h2⟩ := hb
  have h3 : b < s'.heap.objs.size := Heap.lt_size (a.all _ _ h2)
  refine beq_eq_false_iff_ne.mpr fun e => ?_
  have e1 : s'.heap.objs.size = 1 := e
  rw [e1] at h3
  omega
/-- a display of one pair -/
theorem ev_dict1 {e e' : Expr} {pos : Pos} {k : List Nat} {n : Int} (hb : ∃ (b : Nat) (o : Obj), 1 < b ∧ s.heap.get? b = some o) (h : Ev prog w A env e W s (isT k)) (h' : Ev prog w A env e' W s (isInt n)) :
    Ev prog w A env (.Dict [some e] [e'] pos) W s (fun g v => isDI prog w [(k, n)] g v ∧ New s v) := fun s₁ a hw => by
  refine wpAny_Dict_pairs (knd := PySem.strKind prog w) (pairs := [(eval e env, do let x ← eval e' env; standAt pos; pure x)]) rfl (fun h => nomatch h) (by show 1 ≤ 15; decide) ?_
  have st1 : Stp [] s₁ { s₁ with heap := s₁.heap.push { cls := .type "dict", data := .dict #[] } } := .push
  have hnew : (s₁.heap.push { cls := .type "dict", data := .dict #[] }).DictOf (PySem.strKind prog w) s₁.heap.objs.size [] := Heap.DictOf.new s₁.heap
  show wpAny _ _ (do let kv ← eval e env; let vv ← holding [kv] (do let x ← eval e' env; standAt pos; pure x); return (kv, vv) :: (← holding [kv, vv] (evalPairs []))) _ _ _
  refine wpAny_bind (wpAny_mono (h _ (a.trans st1) (hw.stp st1)) (fun kv s₂ ⟨b, d⟩ => ?_) fun _ _ x => x)
  refine wpAny_bind (wpAny_holding (wpAny_bind (wpAny_mono (h' s₂ ((a.trans st1).trans b) ((hw.stp st1).stp b)) (fun vv s₃ ⟨c, d'⟩ => wpAny_bind (wpAny_standAt (wpAny_pure ?_))) fun _ _ x => x)))
  refine wpAny_bind (wpAny_holding (wpAny_pure (wpAny_pure ?_)))
  obtain ⟨t, rfl⟩ := d
  obtain ⟨t', rfl⟩ := d'
  have st := b.trans c
  have hd3 : s₃.heap.DictOf (PySem.strKind prog w) s₁.heap.objs.size [] := by
    obtain ⟨o, es, ep, ho, r⟩ := hnew
    exact ⟨o, es, ep, st.all _ _ ho, r⟩
  refine ⟨[(tx k, .int n t')], ⟨isStrOf_tx (tx k) t, rfl, trivial⟩, hd3, fun h' hd' hs' => ?_⟩
  have hkv : KV [(k, n)] (PySem.merged [] [(tx k, .int n t')]) := All2.cons ⟨rfl, t', rfl⟩ .nil
  obtain ⟨o, ho, hdo⟩ := Heap.dictOf_iff.mp hd'
  have st4 : Stp [s₁.heap.objs.size] s₃ { s₃ with heap := h', toks := s₃.toks + [((Value.str (tx k) t), (Value.int n t'))].length } := .heap fun b o hb e => by rw [hs'.2 b (fun q => hb (q ▸ .head _))]; exact e
  refine ⟨(st1.trans st).fresh st4 (fun c hc => by rw [List.mem_singleton.mp hc]; exact get_size _), ⟨_, o, _, rfl, vw_of (hw.new (Nat.le_refl _)) ho, hdo, hkv, big_of hb a⟩, _, rfl, get_none_of a (get_size _)⟩
/-- dict(d) -/
theorem ev_dictOf {fe e : Expr} {pos : Pos} {ps : PL} (hb : ∃ (b : Nat) (o : Obj), 1 < b ∧ s.heap.get? b = some o) (hn : Ev prog w A env fe W s (isV (.type "dict"))) (h : Ev prog w A env e W s (isDI prog w ps)) (hsz : ps.length ≤ 1000000)
    (he : eval (.Call fe [e] [] pos) env = (do callWith pos (← eval fe env) [] (backTo pos (starEach [e] env)) (backToKw pos (keywordEach [] env))) := by rfl)
    (hs : starEach [e] env = (false, eval e env) :: starEach [] env := by rfl) : Ev prog w A env (.Call fe [e] [] pos) W s (fun g v => isDI prog w ps g v ∧ New s v) :=
  ev_callT hn (evAll_cons h (mono_di _) evAll_nil hs) (fun s₁ vs a hw ⟨u, us, e, hd, e''⟩ => by
    subst e'' e
    obtain ⟨d, o, kvs, rfl, h1, h2, h3, h4⟩ := hd
    have hl : ps.length = kvs.length := h3.length
    refine kt_call_dict h4 (Heap.dictOf_iff.mpr ⟨o, (vw_some h1).2, h2⟩) (sl (by omega)) fun h' hd' hs' => ?_
    obtain ⟨o', ho', hdo⟩ := Heap.dictOf_iff.mp hd'
    have st1 : Stp [] s₁ { s₁ with heap := s₁.heap.push { cls := .type "dict", data := .dict #[] } } := .push
    have st2 : Stp [s₁.heap.objs.size] { s₁ with heap := s₁.heap.push { cls := .type "dict", data := .dict #[] } } { s₁ with heap := h' } := .heap fun b o hb e => by rw [hs'.2 b (fun q => hb (q ▸ .head _))]; exact e
    exact ⟨st1.fresh st2 (fun c hc => by rw [List.mem_singleton.mp hc]; exact get_size _), ⟨_, o', kvs, rfl, vw_of (hw.new (Nat.le_refl _)) ho', hdo, h3, big_of hb a⟩, _, rfl, get_none_of a (get_size _)⟩) he hs
/-- d.update(d') -/
theorem x_update {o e : Expr} {apos pos spos : Pos} {d d' : Addr} {ps more : PL} (ho : Ev prog w A env o W s (isV (.ref d))) (he : Ev prog w A env e W s (isV (.ref d'))) (hd : DI prog w s.heap d ps) (hd' : DI prog w s.heap d' more) (hdd : d ≠ d') (hsz : ps.length + more.length ≤ 1000000) (hw : Held W s)
    (next : ∀ s', Stp [d] s s' → DI prog w s'.heap d (mergeP ps more) → Go prog w A env rest Q s')
    (hbase : attributeBase o "update" env (eval o env) = eval o env := by rfl) (hs : starEach [e] env = [(false, eval e env)] := by rfl) (hline : (apos.endLine == pos.line) = true := by rfl) (hi : interactive env = false := by rfl) :
    Go prog w A env (.Expr (.Call (.Attribute o "update" apos) [e] [] pos) spos :: rest) Q s := by
  refine wpAny_execs_cons (wpAny_Expr (hi := hi) (Call_method1 hbase hs hline (wpAny_mono (ho.at hw) (fun v s₂ ⟨b, q⟩ => ?_) fun _ _ x => x)))
  cases q
  have hd2 := hd.at (h' := s₂.heap) fun o e => b.all _ o e
  refine ⟨"dict", "dict.update", PySem.F.plainAttrs_dict, PySem.F.slot_dict_update, PySem.F.type_dict_update, hd2.typeIs, (fun a e => by cases e; obtain ⟨o, h1, h2, _⟩ := hd2.there; exact ⟨o, h1, h2⟩), ?_⟩
  refine Calls.callWith_builtin rfl (Calls.evalArgs_plain (Calls.spliced_cons (wpAny_mono (he s₂ b (hw.stp b)) (fun u s₃ ⟨c, q⟩ => Calls.spliced_nil ?_) fun _ _ x => x)))
  cases q
  have st := b.trans c
  have hd3 := hd.at (h' := s₃.heap) fun o e => st.all _ o e
  obtain ⟨h1, kvs, h2, h3⟩ := id hd3
  obtain ⟨h1', kvs', h2', h3'⟩ := hd'.at (h' := s₃.heap) fun o e => st.all _ o e
  have l1 : ps.length = kvs.length := h3.length
  have l2 : more.length = kvs'.length := h3'.length
  refine call_meetsIn PySem.F.slot_dict_update hd3.typeIs PySem.F.entry_dict_update (PySem.F.args_dict_update_2 _ _) (meets_dict_update (PySem.strKind prog w) d d' hdd h1') ⟨kvs, kvs', h2, h2', sl (by omega), fun h' hm _ hs' => ?_⟩
  exact next _ (st.of_nil.trans (.heap fun b o hb e => by rw [hs'.2 b (fun q => hb (q ▸ .head _))]; exact e)) ⟨h1, _, hm, h3.merged h3'⟩
end
end Mine

namespace Mine
section
variable {prog : Program} {w : World} {A : Around} {env : Env} {W M : List Addr} {s : Shared} {rest : List Stmt} {Q : Flow → Shared → Prop}
/-- for i, x in enumerate(a list); what the turns make may be told of: it is none of N, the iterators -/
theorem x_enumN {γ : Type} {R₀ : γ → Dsc} {xs : List γ} {fe e : Expr} {xi xc : Str} {pk pv pt cpos pos : Pos} {x1 : Nat} {body : List Stmt} (J : List Addr → Nat → Heap → Prop)
    (hh : A.handled = none) (hfe : Ev prog w A env fe W s (isV (.type "enumerate"))) (h : Ev prog w A env e W s (isLst R₀ xs)) (hw : Held W s) (hMW : ∀ b ∈ M, b ∈ W) (hR₀ : ∀ d, Mono (R₀ d))
    (hJ : ∀ N i h h', J N i h → (∀ b o, b ∉ N → h.get? b = some o → h'.get? b = some o) → J N i h')
    (h0 : ∀ N s', (∀ c ∈ N, c ∉ W ∧ s.heap.get? c = none) → Stp [] s s' → J N 0 s'.heap) (hL : env.locals ∈ M) (hJn : ∀ N i h, J N i h → ∃ m, h.Ns env.locals m)
    (turn : ∀ N i d v t s₂ m, xs[i]? = some d → R₀ d (vw W s₂.heap) v → (∀ c ∈ N, c ∉ W ∧ s.heap.get? c = none) → (∀ c ∈ N, ∃ o, s₂.heap.get? c = some o) → Stp M s s₂ → J N i s₂.heap → s₂.heap.Ns env.locals m → ∀ s₃, Stp [env.locals] s₂ s₃ → s₃.heap.Ns env.locals (fun y => if y = xc then some v else if y = xi then some (.int (i : Nat) t) else m y) →
      Go prog w A env body (fun f s₄ => match f with
        | .next | .cont => Stp M s₂ s₄ ∧ J N (i + 1) s₄.heap
        | .brk => Go prog w A env rest Q s₄
        | .ret v => Q (.ret v) s₄) s₃)
    (done : ∀ N s', (∀ c ∈ N, c ∉ W ∧ s.heap.get? c = none) → Stp M s s' → J N xs.length s'.heap → Go prog w A env rest Q s')
    (he : eval (.Call fe [e] [] cpos) env = (do callWith cpos (← eval fe env) [] (backTo cpos (starEach [e] env)) (backToKw cpos (keywordEach [] env))) := by rfl)
    (hst : starEach [e] env = (false, eval e env) :: starEach [] env := by rfl)
    (hs : ∀ x, foldedSetIterable (.Call fe [e] [] cpos) env x = pure x := by intro _; rfl)
    (hxi : env.kindOf xi = some .local := by rfl) (hxc : env.kindOf xc = some .local := by rfl) (hp : (env.scope.kind == .class || (env.scope.kind == .module && env.locals != env.globals)) = false := by rfl) :
    Go prog w A env (.For (.Tuple [.Name xi pk, .Name xc pv] x1 pt) (.Call fe [e] [] cpos) body [] pos :: rest) Q s := by
  refine wpAny_execs_cons (wpAny_For ?_ hs)
  refine Call_ (wpAny_mono (hfe s (.refl _ _) hw) (fun v s₀ ⟨a₀, q⟩ => ?_) fun _ _ x => x) he
  cases q
  refine Pv.callWith_type1 (args_cons (wpAny_mono (h s₀ a₀ (hw.stp a₀)) (fun v s₁ ⟨b₁, d⟩ => args_nil ?_) fun _ _ x => x) hst) hst rfl
  obtain ⟨l, vs, rfl, lat, x⟩ := d
  have a := a₀.trans b₁
  have hw₁ := hw.stp a
  have hlM : l ∉ M := fun hm => lat.notin (hMW _ hm)
  obtain ⟨nn, hlo⟩ := lat.plain
  have hlt : l < s₁.heap.objs.size := Heap.lt_size hlo
  refine call_enumerate_list lat.isList (fun h' hE hI hsz hk => ?_)
  refine wpAny_pyIter_enum hE ?_
  have b : Stp [] s₁ { s₁ with heap := h' } := .heap fun b o _ e => hk b o e
  have Wk := WalksT.enumerate (prog := prog) (w := w) (A := A) hh (s₁.heap.objs.size + 1) s₁.heap.objs.size l (Nat.ne_of_gt (Nat.lt_succ_self _)) (Nat.ne_of_lt (Nat.lt_succ_of_lt hlt)) (Nat.ne_of_lt hlt) vs.toArray
  simp only [List.size_toArray, List.getElem?_toArray] at Wk
  rw [← x.length] at Wk
  generalize hfp : [s₁.heap.objs.size + 1, s₁.heap.objs.size, l] = fp at Wk
  generalize hwr : [s₁.heap.objs.size + 1, s₁.heap.objs.size] = wr at Wk
  have hfpM : ∀ c ∈ fp, c ∉ M := fun c hc hm => by
    rw [← hfp] at hc
    rcases List.mem_cons.mp hc with rfl | hc
    · exact (hw₁.sub hMW).new (Nat.le_succ _) hm
    rcases List.mem_cons.mp hc with rfl | hc
    · exact (hw₁.sub hMW).new (Nat.le_refl _) hm
    · rw [List.mem_singleton.mp hc] at hm; exact hlM hm
  have hnew : ∀ c ∈ wr, s₁.heap.get? c = none := fun c hc => by
    rw [← hwr] at hc
    rcases List.mem_cons.mp hc with rfl | hc
    · exact get_ge (Nat.le_succ _)
    · rw [List.mem_singleton.mp hc]; exact get_size _
  have hN : ∀ c ∈ wr, c ∉ W ∧ s.heap.get? c = none := fun c hc => ⟨by
    rw [← hwr] at hc
    rcases List.mem_cons.mp hc with rfl | hc
    · exact hw₁.new (Nat.le_succ _)
    · rw [List.mem_singleton.mp hc]; exact hw₁.new (Nat.le_refl _), get_none_of a (hnew c hc)⟩
  generalize hSt : (fun i (h : Heap) => (∃ old, IsEnum h (s₁.heap.objs.size + 1) s₁.heap.objs.size (i : Nat) old) ∧ h.IsListIter s₁.heap.objs.size l i ∧ h.IsList l vs.toArray) = St at Wk
  have hex : ∀ i h, St i h → ∀ c ∈ wr, ∃ o, h.get? c = some o := fun i h hs c hc => by
    rw [← hSt] at hs
    obtain ⟨⟨old, h1⟩, ⟨o, h2, _⟩, _⟩ := hs
    rw [← hwr] at hc
    rcases List.mem_cons.mp hc with rfl | hc
    · exact ⟨_, h1⟩
    · rw [List.mem_singleton.mp hc]; exact ⟨_, h2⟩
  have hst0 : St 0 h' := by rw [← hSt]; exact ⟨⟨_, hE⟩, hI, (lat.isList).at fun o e => hk _ o e⟩
  refine codeAny_forLoop_any (fun k s' => ∃ i, i ≤ xs.length ∧ k = xs.length - i ∧ St i s'.heap ∧ Stp M s₁ s' ∧ J wr i s'.heap) ?_ xs.length ⟨0, Nat.zero_le _, rfl, hst0, b.of_nil, h0 wr { s₁ with heap := h' } hN (a.trans b)⟩
  rintro k s' ⟨i, hi, rfl, hst', st', hj⟩
  rcases Nat.lt_or_eq_of_le hi with hlt | heq
  · refine Wk.item i s' _ _ hlt hst' (fun T vals h₁ tk ⟨t, y, hy, hv⟩ hTn hT hMid hk₁ => ?_)
    subst hv
    have stn : Stp M s₁ { s' with heap := h₁, toks := tk } := ⟨fun c o hc e => hk₁ c o (fun hm => by rw [hnew c hm] at e; cases e) (st'.keep c o hc e), st'.os, st'.bare, st'.old⟩
    refine Wk.go _ _ _ i T _ _ _ hMid (fun h₂ hst₂ hk₂ => ?_)
    have stn2 : Stp M s₁ { s' with heap := h₂, toks := tk } := ⟨fun c o hc e => hk₂ c o (fun hm => by rw [hnew c hm] at e; cases e) (stn.keep c o hc e), st'.os, st'.bare, st'.old⟩
    have hj' : J wr i h₂ := hJ wr i _ _ hj fun c o hc e => hk₂ c o hc (hk₁ c o hc e)
    obtain ⟨d, hd, r⟩ := x.getR i y hy
    obtain ⟨m, hm⟩ := hJn wr i h₂ hj'
    refine assign_pair hh (hT.at fun o e => hk₂ T o (Wk.apart i T h₁ hMid) e) hm (fun s₃ st₃ hn₃ => ?_) hxi hxc hp
    refine wpAny_mono (turn wr i d y t { s' with heap := h₂, toks := tk } m hd (hR₀ d _ _ y (stn2.vle' hMW) r) hN (hex _ _ hst₂) (a.of_nil.trans stn2) hj' hm s₃ st₃ hn₃) (fun f s₄ q => ?_) fun _ _ x => x.elim
    cases f with
    | next => exact ⟨xs.length - (i + 1), by omega, i + 1, hlt, rfl, Wk.frame _ _ _ hst₂ fun c hc o e => q.1.keep c o (hfpM c hc) e, stn2.trans q.1, q.2⟩
    | cont => exact ⟨xs.length - (i + 1), by omega, i + 1, hlt, rfl, Wk.frame _ _ _ hst₂ fun c hc o e => q.1.keep c o (hfpM c hc) e, stn2.trans q.1, q.2⟩
    | brk => exact q
    | ret v => exact q
  · subst heq
    refine Wk.done s' _ _ hst' (fun h₁ tk hk₁ => wpAny_execs_nil ?_)
    exact done wr _ hN (a.of_nil.trans ⟨fun c o hc e => hk₁ c o (fun hm => by rw [hnew c hm] at e; cases e) (st'.keep c o hc e), st'.os, st'.bare, st'.old⟩) (hJ _ _ _ _ hj fun c o hc e => hk₁ c o hc e)
/-- for k, v in d.items(): d stays -/
theorem x_items {o : Expr} {xk xv : Str} {pk pv pt cpos apos pos : Pos} {x1 : Nat} {body : List Stmt} {T : Addr} {ps : PL} (J : Nat → Heap → Prop)
    (hh : A.handled = none) (ho : Ev prog w A env o W s (isV (.ref T))) (hT : DI prog w s.heap T ps) (hTM : T ∉ M) (hw : Held W s) (hMW : ∀ b ∈ M, b ∈ W)
    (hJ : ∀ i h h', J i h → (∀ b ∈ M, ∀ o, h.get? b = some o → h'.get? b = some o) → J i h') (h0 : J 0 s.heap) (hL : env.locals ∈ M) (hJn : ∀ i h, J i h → ∃ m, h.Ns env.locals m)
    (turn : ∀ i p t t' s₂ m, ps[i]? = some p → Stp M s s₂ → J i s₂.heap → s₂.heap.Ns env.locals m → ∀ s₃, Stp [env.locals] s₂ s₃ → s₃.heap.Ns env.locals (fun y => if y = xv then some (.int p.2 t) else if y = xk then some (.str (tx p.1) t') else m y) →
      Go prog w A env body (fun f s₄ => match f with
        | .next | .cont => Stp M s₂ s₄ ∧ J (i + 1) s₄.heap
        | .brk => Go prog w A env rest Q s₄
        | .ret v => Q (.ret v) s₄) s₃)
    (done : ∀ s', Stp M s s' → J ps.length s'.heap → Go prog w A env rest Q s')
    (hbase : attributeBase o "items" env (eval o env) = eval o env := by rfl) (hline : (apos.endLine == cpos.line) = true := by rfl)
    (hs : ∀ x, foldedSetIterable (.Call (.Attribute o "items" apos) [] [] cpos) env x = pure x := by intro _; rfl)
    (hxk : env.kindOf xk = some .local := by rfl) (hxv : env.kindOf xv = some .local := by rfl) (hp : (env.scope.kind == .class || (env.scope.kind == .module && env.locals != env.globals)) = false := by rfl) :
    Go prog w A env (.For (.Tuple [.Name xk pk, .Name xv pv] x1 pt) (.Call (.Attribute o "items" apos) [] [] cpos) body [] pos :: rest) Q s := by
  refine wpAny_execs_cons (wpAny_For (Call_method0 hbase hline (wpAny_mono (ho.at hw) (fun v s₁ ⟨a, q⟩ => ?_) fun _ _ x => x)) hs)
  cases q
  have hT1 := hT.at (h' := s₁.heap) fun o e => a.all _ o e
  refine ⟨"dict", "dict.items", PySem.F.plainAttrs_dict, PySem.F.slot_dict_items, PySem.F.type_dict_items, hT1.typeIs, (fun a e => by cases e; obtain ⟨o, h1, h2, _⟩ := hT1.there; exact ⟨o, h1, h2⟩), ?_⟩
  refine Calls.callWith_builtin rfl (PySem.evalArgs_none ?_)
  obtain ⟨hsm, kvs, hD, hkv⟩ := id hT1
  obtain ⟨ep, hDA⟩ := hD.dictAt
  refine call_meetsIn PySem.F.slot_dict_items hT1.typeIs PySem.F.entry_dict_items (PySem.F.args_dict_items_1 _) (meets_dict_items (PySem.strKind prog w) T hsm) ⟨⟨kvs, hD⟩, ?_⟩
  generalize hs2 : ({ s₁ with heap := s₁.heap.push { cls := .type "dict_items", data := .fields #[.ref T] } } : Shared) = s₂
  have b : Stp [] s₁ s₂ := by rw [← hs2]; exact .push
  have hview : s₂.heap.IsItemsView s₁.heap.objs.size T := by rw [← hs2]; exact ⟨_, Heap.get?_push_size _ rfl, rfl, rfl⟩
  have hDA2 : s₂.heap.DictAt (PySem.strKind prog w) T kvs ep := hDA.at fun o e => b.all _ o e
  refine wpAny_pyIter_items hview hDA2 ?_
  generalize hIe : s₂.heap.objs.size = I
  have hIn2 : s₂.heap.get? I = none := by rw [← hIe]; exact get_size _
  have hIn : s₁.heap.get? I = none := get_none_of b hIn2
  have hIM : I ∉ M := by rw [← hIe]; exact (((hw.stp a).stp b).sub hMW).new (Nat.le_refl _)
  have hTI : T ≠ I := fun e => by obtain ⟨o, h1, _⟩ := hT1.there; rw [e, hIn] at h1; cases h1
  generalize hs3 : ({ s₂ with heap := s₂.heap.push _ } : Shared) = s₃
  have c : Stp [] s₂ s₃ := by rw [← hs3]; exact .push
  have hit : IsItemIter s₃.heap I T 0 kvs.length ep .none .none := by rw [← hs3, ← hIe]; exact Heap.get?_push_size _ rfl
  have hDA3 : s₃.heap.DictAt (PySem.strKind prog w) T kvs ep := hDA2.at fun o e => c.all _ o e
  have hlen : ps.length = kvs.length := hkv.length
  refine codeAny_forLoop_any (fun n s' => ∃ i ok ov, IsItemIter s'.heap I T i kvs.length ep ok ov ∧ s'.heap.DictAt (PySem.strKind prog w) T kvs ep ∧ Stp M s₁ s' ∧ J i s'.heap ∧ i ≤ kvs.length ∧ n = kvs.length + 1 - i) ?_ (kvs.length + 1)
    ⟨0, .none, .none, hit, hDA3, (b.trans c).of_nil, hJ 0 _ _ h0 (fun x _ o e => ((a.trans b).trans c).all x o e), Nat.zero_le _, rfl⟩
  rintro n s' ⟨i, ok, ov, hit', hm', st', hj, hi, rfl⟩
  cases hv : kvs[i]? with
  | none =>
    have hsz : i = kvs.length := Nat.le_antisymm hi (by simpa using hv)
    refine wpAny_pyNext_items_end hh hit' hm' hv fun h₁ he₁ => wpAny_execs_nil ?_
    refine done _ (a.of_nil.trans ⟨fun c o hc e => he₁ c o (fun q => by rw [q, hIn] at e; cases e) (st'.keep c o hc e), st'.os, st'.bare, st'.old⟩) ?_
    rw [hlen, ← hsz]
    exact hJ _ _ _ hj fun c hc o e => he₁ c o (fun q => hIM (q ▸ hc)) e
  | some kv =>
    obtain ⟨k, v⟩ := kv
    have hlt : i < kvs.length := (List.getElem?_eq_some_iff.mp hv).1
    obtain ⟨p, hpi, hk1, t, ht⟩ := All2.getR hkv i (k, v) hv
    dsimp only at hk1 ht
    subst ht
    refine wpAny_pyNext_items_item hit' hm' hv fun key h₁ hkey heo ht₁ hz₁ hk₁ => ?_
    have hkey' : PySem.Value.isStrOf k key = true := hkey
    rw [hk1] at hkey'
    obtain ⟨t', rfl⟩ := Value.isStrOf_shape hkey'
    refine wpAny_letOwnedTupleGo_items heo fun h₂ he₂ hs₂ => ?_
    replace hs₂ : Heap.SameBut I h₁ h₂ := hs₂
    have hTne : s'.heap.objs.size ≠ I := Nat.ne_of_gt (Heap.lt_size hit')
    have hk2 : ∀ c o, c ≠ I → s'.heap.get? c = some o → h₂.get? c = some o := fun c o hc e => (hs₂.2 c hc).trans (hk₁ c o hc e)
    have hj' : J i h₂ := hJ i _ _ hj fun c hc o e => hk2 c o (fun q => hIM (q ▸ hc)) e
    obtain ⟨m, hm⟩ := hJn i h₂ hj'
    have stn2 : Stp M s₁ { s' with heap := h₂ } := ⟨fun c o hc e => hk2 c o (fun q => by rw [q, hIn] at e; cases e) (st'.keep c o hc e), st'.os, st'.bare, st'.old⟩
    refine assign_pair hh (⟨_, (hs₂.2 _ hTne).trans ht₁, rfl, _, rfl⟩) hm (fun s₄ st₄ hn₄ => ?_) hxk hxv hp
    refine wpAny_mono (turn i p t t' { s' with heap := h₂ } m hpi (a.of_nil.trans stn2) hj' hm s₄ st₄ hn₄) (fun f s₅ q => ?_) fun _ _ x => x.elim
    have hm2 : h₂.DictAt (PySem.strKind prog w) T kvs ep := hm'.at fun o e => hk2 T o hTI e
    cases f with
    | next => exact ⟨kvs.length + 1 - (i + 1), by omega, i + 1, _, _, q.1.keep _ _ hIM he₂, hm2.at fun o e => q.1.keep T o hTM e, stn2.trans q.1, q.2, hlt, rfl⟩
    | cont => exact ⟨kvs.length + 1 - (i + 1), by omega, i + 1, _, _, q.1.keep _ _ hIM he₂, hm2.at fun o e => q.1.keep T o hTM e, stn2.trans q.1, q.2, hlt, rfl⟩
    | brk => exact q
    | ret v => exact q
end
end Mine

namespace Mine
theorem Stp.freshW {M W : List Addr} {s₀ s s' : Shared} (a : Stp M s₀ s) (b : Stp W s s') (h : ∀ x ∈ W, x ∈ M ∨ s₀.heap.get? x = none) : Stp M s₀ s' :=
  ⟨fun x o hx e => b.keep x o (fun hm => (h x hm).elim hx fun q => by rw [q] at e; cases e) (a.keep x o hx e), b.os.trans a.os, fun h => b.bare (a.bare h), (Stp.trans (W := M ++ W) (a.weaken fun c hc => List.mem_append_left _ hc) (b.weaken fun c hc => List.mem_append_right _ hc)).old⟩
def stepIn (u behind : List Nat) (st : PL × PL) (p : List Nat × Int) : PL × PL := (setP st.1 (p.1 ++ u ++ behind) p.2, setP st.2 (p.1 ++ u) ((getP st.2 (p.1 ++ u)).getD 0 + p.2))
def behindOf (us : List (List Nat)) (i : Nat) : List Nat := [34] ++ (us.drop (i + 1)).flatten
def dueN (us : List (List Nat)) : Nat → PL × PL
  | 0 => ([([34] ++ us.flatten, 1)], [([], 1)])
  | i + 1 => (dueN us i).2.foldl (stepIn (us.getD i []) (behindOf us i)) (dueN us i)
def dueP (us : List (List Nat)) : PL := mergeP (dueN us us.length).1 (dueN us us.length).2
theorem setP_mem {ps : PL} {k : List Nat} {n : Int} {p : List Nat × Int} (h : p ∈ setP ps k n) : p.1 = k ∨ ∃ q ∈ ps, q.1 = p.1 := by
  unfold setP at h
  split at h
  · obtain ⟨q, hq, rfl⟩ := List.mem_map.mp h
    split
    · exact .inr ⟨q, hq, rfl⟩
    · exact .inr ⟨q, hq, rfl⟩
  · rcases List.mem_append.mp h with h | h
    · exact .inr ⟨p, h, rfl⟩
    · rw [List.mem_singleton.mp h]; exact .inl rfl
theorem stepIn_fold (u b : List Nat) : ∀ (ts : PL) (st : PL × PL), (ts.foldl (stepIn u b) st).1.length ≤ st.1.length + ts.length ∧ (ts.foldl (stepIn u b) st).2.length ≤ st.2.length + ts.length
  | [], st => by simp
  | p :: ts, st => by
    have h := stepIn_fold u b ts (stepIn u b st p)
    have h1 := setP_len st.1 (p.1 ++ u ++ b) p.2
    have h2 := setP_len st.2 (p.1 ++ u) ((getP st.2 (p.1 ++ u)).getD 0 + p.2)
    rw [List.foldl_cons, List.length_cons]
    have e1 : (stepIn u b st p).1.length = (setP st.1 (p.1 ++ u ++ b) p.2).length := rfl
    have e2 : (stepIn u b st p).2.length = (setP st.2 (p.1 ++ u) ((getP st.2 (p.1 ++ u)).getD 0 + p.2)).length := rfl
    omega
theorem stepIn_keys {u b : List Nat} {n : Nat} (hu : u.length ≤ 2) : ∀ (ts : PL) (st : PL × PL), (∀ p ∈ ts, p.1.length ≤ n) → (∀ p ∈ st.2, p.1.length ≤ n + 2) → ∀ p ∈ (ts.foldl (stepIn u b) st).2, p.1.length ≤ n + 2
  | [], st, _, h => h
  | q :: ts, st, ht, h => by
    rw [List.foldl_cons]
    refine stepIn_keys hu ts _ (fun p hp => ht p (.tail _ hp)) fun p hp => ?_
    rcases setP_mem hp with e | ⟨r, hr, e⟩
    · rw [e, List.length_append]; have := ht q (.head _); omega
    · rw [← e]; exact h r hr
theorem dueN_len (us : List (List Nat)) : ∀ i, (dueN us i).1.length ≤ 2 ^ i ∧ (dueN us i).2.length ≤ 2 ^ i
  | 0 => by simp [dueN]
  | i + 1 => by
    have ⟨h1, h2⟩ := dueN_len us i
    have ⟨h3, h4⟩ := stepIn_fold (us.getD i []) (behindOf us i) (dueN us i).2 (dueN us i)
    have e : 2 ^ (i + 1) = 2 ^ i + 2 ^ i := by rw [Nat.pow_succ]; omega
    rw [e]
    have e1 : dueN us (i + 1) = (dueN us i).2.foldl (stepIn (us.getD i []) (behindOf us i)) (dueN us i) := rfl
    rw [e1]
    omega
theorem dueN_keys (us : List (List Nat)) (hu : ∀ u ∈ us, u.length ≤ 2) : ∀ i, ∀ p ∈ (dueN us i).2, p.1.length ≤ 2 * i
  | 0, p, hp => by simp [dueN] at hp; rw [hp]; simp
  | i + 1, p, hp => by
    have ih := dueN_keys us hu i
    have hu' : (us.getD i []).length ≤ 2 := by
      rw [List.getD_eq_getElem?_getD]
      cases q : us[i]? with
      | none => simp
      | some u => exact hu u (List.mem_of_getElem? q)
    have := stepIn_keys hu' (b := behindOf us i) (dueN us i).2 (dueN us i) ih (fun p hp => Nat.le_trans (ih p hp) (Nat.le_add_right _ _)) p hp
    omega
theorem flat_len : ∀ (us : List (List Nat)), (∀ u ∈ us, u.length ≤ 2) → us.flatten.length ≤ 2 * us.length
  | [], _ => by simp
  | u :: us, h => by
    have h1 := flat_len us fun x hx => h x (.tail _ hx)
    have h2 := h u (.head _)
    rw [List.flatten_cons, List.length_append, List.length_cons]
    omega
theorem mono_din {w : World} {s : Shared} (ps : PL) : Mono (fun g v => isDI PG w ps g v ∧ New s v) := fun g g' v hg h => ⟨mono_di _ _ _ _ hg h.1, h.2⟩
/-- an assignment, as one statement -/
theorem x_assignE {prog : Program} {w : World} {A : Around} {env : Env} {W : List Addr} {s : Shared} {D : Dsc} {QQ : Flow → Shared → Prop} {e : Expr} {x : Str} {p pos : Pos} {m : Str → Option Value} (h : Ev prog w A env e W s D) (hw : Held W s) (hn : s.heap.Ns env.locals m) (hL : env.locals ∈ W) (hm : Mono D)
    (next : ∀ v s', Stp [env.locals] s s' → D (vw W s'.heap) v → s'.heap.Ns env.locals (fun y => if y = x then some v else m y) → QQ .next s')
    (hk : env.kindOf x = some .local := by rfl) (hp : (env.scope.kind == .class || (env.scope.kind == .module && env.locals != env.globals)) = false := by rfl)
    (hsw : swapsWith e (some (Expr.Name x p)) pos.line env = pure false := by rfl) : wpAny (model prog w) A (exec (.Assign [.Name x p] e pos) env) QQ NoE s :=
  wpAny_Assign_Name (wpAny_mono (h.at hw) (fun v s₁ ⟨a, d⟩ => wpAny_storeName_local hk (hn.keeps a.all) (fun h' hn' hs => by
    have st : Stp [env.locals] s₁ { s₁ with heap := h', toks := s₁.toks + 1 } := .same hs
    exact next v _ (a.of_nil.trans st) (hm _ _ _ (st.vle' fun b hb => by rw [List.mem_singleton.mp hb]; exact hL) d) hn') hp) fun _ _ x => x) hsw
section
variable {w : World} {mg mb : Str → Option Value} {s : Shared} {A : Around} {W : List Addr} {k : Nat}
theorem Wd.big {h : Heap} (X : Wd w mg mb h) : ∃ (b : Nat) (o : Obj), 1 < b ∧ h.get? b = some o := ⟨60, _, by decide, X.kin 60 _ rfl⟩
theorem swaps_dict (ks : List (Option Expr)) (vs : List Expr) (p : Pos) (x : Str) (q : Pos) (l : Nat) (env : Env) : swapsWith (.Dict ks vs p) (some (Expr.Name x q)) l env = pure false := rfl
set_option maxHeartbeats 4000000 in
theorem due_spec (X : Wd w mg mb s.heap) (hA : AOk (k + 1) A) {v : Value} {us : List (List Nat)} (hv : isLst isT us (vw W s.heap) v) (hul : ∀ u ∈ us, u.length ≤ 2) (hlen : us.length ≤ 8) (hw : Held W s) :
    wpAny (model PG w) A (call (.ref 67) [v]) (fun r s' => Stp [] s s' ∧ isDI PG w (dueP us) (vw W s'.heap) r) NoE s := by
  refine call_def hA.room X.nl (X.kin 67 _ rfl) rfl (codeRec_of X.kin (by rfl)) rfl (BindsTo.of_eq (binds := [("units", v)]) rfl) (by decide) (locs (by rfl)) ?_
  intro s₁ a₁ hL hn₁
  generalize hLe : s.heap.objs.size = L at hL hn₁ ⊢
  have hA' : ∀ env, AOk k (A.deeper env) := fun env => hA.deeper
  have hLW : L ∉ W := by rw [← hLe]; exact hw.new (Nat.le_refl _)
  have X1 := X.stp a₁
  have hfl := flat_len us hul
  have hw1 : Held (L :: W) s₁ := by obtain ⟨o, _, _, ho, _⟩ := hn₁; exact .cons ho (hw.stp a₁)
  -- table
  refine wpAny_execs_cons ?_
  refine x_assignE (W := L :: W) (D := fun g v => isDI PG w [([], 1)] g v ∧ New s₁ v) ?et hw1 hn₁ (.head _) (mono_din _) (fun tv s₂ a₂ d₂ hn₂ => ?_) (hsw := swaps_dict _ _ _ _ _ _ _)
  case et =>
    have hb := X1.big
    refine ev_dict1 hb ?a ?b
    case a => exact ev_t [] rfl
    case b => exact ev_int 1
  obtain ⟨dT, Ta, rfl, hTn⟩ := d₂
  obtain ⟨hT2, hTW⟩ := dT.di
  have a12 : Stp [L] s₁ s₂ := a₂
  have st2 : Stp [] s s₂ := a₁.fresh a12 (fun c hc => by rw [List.mem_singleton.mp hc]; exact hL)
  have hTs : s.heap.get? Ta = none := get_none_of a₁ hTn
  have X2 := X.stp st2
  have hw2 : Held (L :: W) s₂ := by obtain ⟨o, _, _, ho, _⟩ := hn₂; exact .cons ho (hw.stp st2)
  have gU : ∀ {sx : Shared} {N : List Addr}, (∀ c ∈ N, s.heap.get? c = none) → Stp [] s sx → isLst isT us (vw (N ++ W) sx.heap) v := fun {sx N} hN h => mono_lst mono_t _ _ _ _ (fun c o e => by
    obtain ⟨e1, e2⟩ := vw_some e
    refine vw_of (fun hm => ?_) (h.all _ _ e2)
    rcases List.mem_append.mp hm with hm | hm
    · rw [hN c hm] at e2; cases e2
    · exact e1 hm) hv
  have gL : ∀ {sx : Shared}, Stp [] s sx → isLst isT us (vw (L :: W) sx.heap) v := fun {sx} h => gU (N := [L]) (fun c hc => by rw [List.mem_singleton.mp hc]; exact hL) h
  -- due
  refine wpAny_execs_cons ?_
  refine x_assignE (W := L :: W) (D := fun g v => isDI PG w [([34] ++ us.flatten, 1)] g v ∧ New s₂ v) ?ed hw2 hn₂ (.head _) (mono_din _) (fun dv s₃ a₃ d₃ hn₃ => ?_) (hsw := swaps_dict _ _ _ _ _ _ _)
  case ed =>
    have hb := X2.big
    refine ev_dict1 hb ?a ?b
    case a => exact ev_catT (sl (by show 1 + us.flatten.length ≤ 1000000; omega)) (ev_t [34] rfl) (ev_join (ev_t [] rfl) (ev_local hn₂ rfl (gL st2) (mono_lst mono_t _)) (by omega))
    case b => exact ev_int 1
  obtain ⟨dD, Du, rfl, hDn⟩ := d₃
  obtain ⟨hD3, hDW⟩ := dD.di
  have a23 : Stp [L] s₂ s₃ := a₃
  have st3 : Stp [] s s₃ := st2.fresh a23 (fun c hc => by rw [List.mem_singleton.mp hc]; exact hL)
  have hDs : s.heap.get? Du = none := get_none_of st2 hDn
  have X3 := X.stp st3
  have hTL : Ta ≠ L := fun e => hTW (by rw [e]; exact .head _)
  have hDL : Du ≠ L := fun e => hDW (by rw [e]; exact .head _)
  have hTD : Ta ≠ Du := fun e => by obtain ⟨o, h1, _⟩ := hT2.there; rw [e, hDn] at h1; cases h1
  have hT3 : DI PG w s₃.heap Ta [([], 1)] := hT2.at fun o e => a23.keep _ o (fun hm => hTL (List.mem_singleton.mp hm)) e
  have hM : ∀ c ∈ [L, Du], s.heap.get? c = none := fun c hc => by
    rcases List.mem_cons.mp hc with rfl | hc
    · exact hL
    · rw [List.mem_singleton.mp hc]; exact hDs
  have hH : ∀ {sx : Shared} {m : Str → Option Value} {ps : PL}, Stp [] s sx → sx.heap.Ns L m → DI PG w sx.heap Du ps → Held (L :: Du :: W) sx := fun {sx m ps} h h' h'' => by
    obtain ⟨o, _, _, ho, _⟩ := h'
    obtain ⟨o', ho', _⟩ := h''.there
    exact .cons ho (.cons ho' (hw.stp h))
  refine x_enumN (M := [L, Du]) (W := L :: Du :: W) (R₀ := isT) (xs := us)
    (fun N i h => L ∉ N ∧ Du ∉ N ∧ ∃ m Ta, h.Ns L m ∧ m "units" = some v ∧ m "due" = some (.ref Du) ∧ m "table" = some (.ref Ta) ∧ Ta ∉ [L, Du] ∧ Ta ∉ N ∧ DI PG w h Du (dueN us i).1 ∧ DI PG w h Ta (dueN us i).2)
    hA.deeper.hd (ev_builtin X3.g (b_enum X).1 X3.b (b_enum X).2) (ev_local hn₃ rfl (gU (N := [L, Du]) hM st3) (mono_lst mono_t _)) (hH st3 hn₃ hD3) (fun b hb => by
      rcases List.mem_cons.mp hb with rfl | hb
      · exact .head _
      · rw [List.mem_singleton.mp hb]; exact .tail _ (.head _)) mono_t ?hJ ?h0 (.head _) ?hJn ?turn ?done
  case hJ =>
    rintro N i h h' ⟨n1, n2, m, Ta, h1, h2, h3, h4, n3, n4, h5, h6⟩ hk
    exact ⟨n1, n2, m, Ta, h1.at' fun o e => hk _ o n1 e, h2, h3, h4, n3, n4, h5.at fun o e => hk _ o n2 e, h6.at fun o e => hk _ o n4 e⟩
  case h0 =>
    intro N s' hN st
    refine ⟨fun hm => (hN L hm).1 (.head _), fun hm => (hN Du hm).1 (.tail _ (.head _)), _, Ta, hn₃.keeps st.all, rfl, rfl, rfl, fun hm => ?_, fun hm => ?_, hD3.at fun o e => st.all _ o e, hT3.at fun o e => st.all _ o e⟩
    · rcases List.mem_cons.mp hm with q | hm
      · exact hTL q
      · exact hTD (List.mem_singleton.mp hm)
    · obtain ⟨o, h1, _⟩ := hT3.there
      rw [(hN Ta hm).2] at h1; cases h1
  case hJn => exact fun N i h ⟨_, _, m, _, h1, _⟩ => ⟨m, h1⟩
  case done =>
    rintro N s₆ hN st6 ⟨n1, n2, m, Ta, h1, h2, h3, h4, n3, n4, h5, h6⟩
    have sts6 := st3.fresh st6 hM
    have ⟨l1, l2⟩ := dueN_len us us.length
    have l3 : 2 ^ us.length ≤ 256 := Nat.le_trans (Nat.pow_le_pow_right (by decide) hlen) (by decide)
    refine x_update (W := []) (d := Du) (d' := Ta) (ev_local h1 h3 rfl (mono_v _)) (ev_local h1 h4 rfl (mono_v _)) h5 h6 (fun e => n3 (by rw [e]; exact .tail _ (.head _))) (by omega) (held_nil _) (fun s₇ a₇ h7 => ?_)
    have sts7 := sts6.fresh a₇ (fun c hc => by rw [List.mem_singleton.mp hc]; exact hDs)
    have hn7 := h1.at' (h' := s₇.heap) fun o e => a₇.keep _ o (fun hm => hDL (List.mem_singleton.mp hm).symm) e
    refine x_return (W := W) (D := isDI PG w (dueP us)) (ev_local hn7 h3 (h7.is (fun hm => hDW (.tail _ hm))) (mono_di _)) (hw.stp sts7) (fun r s' b d => ⟨sts7.trans b, d⟩)
  case turn =>
    intro N i u uv t s₄ m hd hu hN hNe st4 hj hns4 s₅ a₅ hn₅
    obtain ⟨n1, n2, m', Ta, h1, h2, h3, h4, n3, n4, h5, h6⟩ := hj
    obtain rfl := ns_unique h1 hns4
    obtain ⟨tu, rfl⟩ := hu
    have a45 : Stp [L] s₄ s₅ := a₅
    have s35 : Stp [L, Du] s₃ s₅ := st4.trans (a45.weaken fun c hc => by rw [List.mem_singleton.mp hc]; exact .head _)
    have sts5 := st3.fresh s35 hM
    have X5 := X.stp sts5
    have hi : i < us.length := by
      rcases Nat.lt_or_ge i us.length with h | h
      · exact h
      · rw [List.getElem?_eq_none h] at hd; cases hd
    have hu2 := hul u (List.mem_of_getElem? hd)
    have hTL' : Ta ≠ L := fun e => n3 (by rw [e]; exact .head _)
    have hTD' : Ta ≠ Du := fun e => n3 (by rw [e]; exact .tail _ (.head _))
    have hD5 : DI PG w s₅.heap Du (dueN us i).1 := h5.at fun o e => a45.keep _ o (fun hm => hDL (List.mem_singleton.mp hm)) e
    have hT5 : DI PG w s₅.heap Ta (dueN us i).2 := h6.at fun o e => a45.keep _ o (fun hm => hTL' (List.mem_singleton.mp hm)) e
    have hdl : (us.drop (i + 1)).flatten.length ≤ 2 * us.length := Nat.le_trans (flat_len _ fun x hx => hul x (List.mem_of_mem_drop hx)) (by rw [List.length_drop]; omega)
    have hNe5 : ∀ c ∈ N, ∃ o, s₅.heap.get? c = some o := fun c hc => by
      obtain ⟨o, ho⟩ := hNe c hc
      exact ⟨o, a45.keep _ _ (fun hm => n1 (by rw [← List.mem_singleton.mp hm]; exact hc)) ho⟩
    have hHN : ∀ {sx : Shared} {m : Str → Option Value} {ps : PL}, Stp [] s sx → sx.heap.Ns L m → DI PG w sx.heap Du ps → (∀ c ∈ N, ∃ o, sx.heap.get? c = some o) → Held (L :: Du :: N) sx := fun {sx m ps} h h' h'' h3 => by
      obtain ⟨o, _, _, ho, _⟩ := h'
      obtain ⟨o', ho', _⟩ := h''.there
      exact .cons ho (.cons ho' fun c hc => let ⟨o, e⟩ := h3 c hc; ⟨c, o, Nat.le_refl _, e⟩)
    -- behind
    refine wpAny_execs_cons ?_
    refine x_assignE (W := L :: Du :: W) (D := isT (behindOf us i)) ?eb (hH sts5 hn₅ hD5) hn₅ (.head _) (mono_t _) (fun bv s₆ a₆ d₆ hn₆ => ?_)
    case eb =>
      unfold behindOf
      refine ev_catT (sl (by show 1 + (us.drop (i + 1)).flatten.length ≤ 1000000; omega)) (ev_t [34] rfl) (ev_join (ev_t [] rfl) ?f (by omega))
      exact ev_from (i := ((i + 1 : Nat) : Int)) (ev_local hn₅ h2 (gU (N := [L, Du]) hM sts5) (mono_lst mono_t _)) mono_t (by rw [show ((i + 1 : Nat) : Int) = (i : Int) + 1 by omega]; exact ev_add (ev_local hn₅ rfl ⟨t, rfl⟩ (mono_int _)) (ev_int 1)) (by omega) (sl (by omega))
    obtain ⟨tb, rfl⟩ := d₆
    have a56 : Stp [L] s₅ s₆ := a₆
    have s36 : Stp [L, Du] s₃ s₆ := s35.trans (a56.weaken fun c hc => by rw [List.mem_singleton.mp hc]; exact .head _)
    have sts6 := st3.fresh s36 hM
    have X6 := X.stp sts6
    have hD6 : DI PG w s₆.heap Du (dueN us i).1 := hD5.at fun o e => a56.keep _ o (fun hm => hDL (List.mem_singleton.mp hm)) e
    have hT6 : DI PG w s₆.heap Ta (dueN us i).2 := hT5.at fun o e => a56.keep _ o (fun hm => hTL' (List.mem_singleton.mp hm)) e
    have hNe6 : ∀ c ∈ N, ∃ o, s₆.heap.get? c = some o := fun c hc => by
      obtain ⟨o, ho⟩ := hNe5 c hc
      exact ⟨o, a56.keep _ _ (fun hm => n1 (by rw [← List.mem_singleton.mp hm]; exact hc)) ho⟩
    have hTN : Ta ∉ L :: Du :: N := fun hm => by
      rcases List.mem_cons.mp hm with q | hm
      · exact hTL' q
      rcases List.mem_cons.mp hm with q | hm
      · exact hTD' q
      · exact n4 hm
    have ⟨l1, l2⟩ := dueN_len us i
    have l3 : 2 ^ i ≤ 256 := Nat.le_trans (Nat.pow_le_pow_right (by decide) (show i ≤ 8 by omega)) (by decide)
    -- grown
    refine wpAny_execs_cons ?_
    refine x_assignE (W := L :: Du :: N) (D := fun g v => isDI PG w (dueN us i).2 g v ∧ New s₆ v) ?eg (hHN sts6 hn₆ hD6 hNe6) hn₆ (.head _) (mono_din _) (fun gv s₇ a₇ d₇ hn₇ => ?_)
    case eg =>
      have hb := X6.big
      exact ev_dictOf hb (ev_builtin X6.g (b_dict X).1 X6.b (b_dict X).2) (ev_local hn₆ h4 (hT6.is hTN) (mono_di _)) (by omega)
    obtain ⟨dG, Gr, rfl, hGn⟩ := d₇
    obtain ⟨hG7, hGW⟩ := dG.di
    have a67 : Stp [L] s₆ s₇ := a₇
    have s37 : Stp [L, Du] s₃ s₇ := s36.trans (a67.weaken fun c hc => by rw [List.mem_singleton.mp hc]; exact .head _)
    have sts7 := st3.fresh s37 hM
    have hGL : Gr ≠ L := fun e => hGW (by rw [e]; exact .head _)
    have hGD : Gr ≠ Du := fun e => hGW (by rw [e]; exact .tail _ (.head _))
    have hGN : Gr ∉ N := fun hm => hGW (.tail _ (.tail _ hm))
    have hGT : Ta ≠ Gr := fun e => by obtain ⟨o, h1, _⟩ := hT6.there; rw [e, hGn] at h1; cases h1
    have hG4 : s₄.heap.get? Gr = none := by
      cases q : s₄.heap.get? Gr with
      | none => rfl
      | some o =>
        have := a56.keep _ _ (fun hm => hGL (List.mem_singleton.mp hm)) (a45.keep _ _ (fun hm => hGL (List.mem_singleton.mp hm)) q)
        rw [hGn] at this; cases this
    have hD7 : DI PG w s₇.heap Du (dueN us i).1 := hD6.at fun o e => a67.keep _ o (fun hm => hDL (List.mem_singleton.mp hm)) e
    have hT7 : DI PG w s₇.heap Ta (dueN us i).2 := hT6.at fun o e => a67.keep _ o (fun hm => hTL' (List.mem_singleton.mp hm)) e
    have hug : us.getD i [] = u := by rw [List.getD_eq_getElem?_getD, hd]; rfl
    have hkeys := dueN_keys us hul i
    have hH3 : Held [L, Du, Gr] s₇ := by
      obtain ⟨o, _, _, ho, _⟩ := id hn₇
      obtain ⟨o', ho', _⟩ := hD7.there
      obtain ⟨o'', ho'', _⟩ := hG7.there
      exact .cons ho (.cons ho' (.cons ho'' (held_nil _)))
    refine x_items (M := [L, Du, Gr]) (W := [L, Du, Gr]) (T := Ta) (ps := (dueN us i).2)
      (fun j h => ∃ m, h.Ns L m ∧ m "units" = some v ∧ m "due" = some (.ref Du) ∧ m "grown" = some (.ref Gr) ∧ m "unit" = some (.str (tx u) tu) ∧ m "behind" = some (.str (tx (behindOf us i)) tb) ∧
        DI PG w h Du (((dueN us i).2.take j).foldl (stepIn u (behindOf us i)) (dueN us i)).1 ∧ DI PG w h Gr (((dueN us i).2.take j).foldl (stepIn u (behindOf us i)) (dueN us i)).2)
      hA.deeper.hd (ev_local hn₇ h4 rfl (mono_v _)) hT7 (fun hm => by
        rcases List.mem_cons.mp hm with q | hm
        · exact hTL' q
        rcases List.mem_cons.mp hm with q | hm
        · exact hTD' q
        · exact hGT (List.mem_singleton.mp hm)) hH3 (fun b hb => hb) ?kJ ?k0 (.head _) ?kJn ?kturn ?kdone
    case kJ =>
      rintro j h h' ⟨m, q1, q2, q3, q4, q5, q6, q7, q8⟩ hk
      exact ⟨m, q1.at' fun o e => hk _ (.head _) o e, q2, q3, q4, q5, q6, q7.at fun o e => hk _ (.tail _ (.head _)) o e, q8.at fun o e => hk _ (.tail _ (.tail _ (.head _))) o e⟩
    case k0 => exact ⟨_, hn₇, h2, h3, rfl, rfl, rfl, hD7, hG7⟩
    case kJn => exact fun j h ⟨m, q1, _⟩ => ⟨m, q1⟩
    case kdone =>
      rintro s₈ st8 ⟨m, q1, q2, q3, q4, q5, q6, q7, q8⟩
      rw [List.take_length] at q7 q8
      refine wpAny_execs_cons ?_
      refine x_assignE (W := [L]) (D := isV (.ref Gr)) (ev_local q1 q4 rfl (mono_v _)) (by obtain ⟨o, _, _, ho, _⟩ := q1; exact .cons ho (held_nil _)) q1 (.head _) (mono_v _) (fun tv s₉ a₉ d₉ hn₉ => ?_)
      cases d₉
      have a89 : Stp [L] s₈ s₉ := a₉
      refine x_nil ⟨?_, n1, n2, _, Gr, hn₉, q2, q3, rfl, fun hm => ?_, hGN, ?_, ?_⟩
      · refine (((a45.trans a56).trans a67).weaken (W' := [L, Du]) fun c hc => by rw [List.mem_singleton.mp hc]; exact .head _).freshW (st8.trans (a89.weaken fun c hc => by rw [List.mem_singleton.mp hc]; exact .head _)) fun c hc => ?_
        rcases List.mem_cons.mp hc with rfl | hc
        · exact .inl (.head _)
        rcases List.mem_cons.mp hc with rfl | hc
        · exact .inl (.tail _ (.head _))
        · rw [List.mem_singleton.mp hc]; exact .inr hG4
      · rcases List.mem_cons.mp hm with q | hm
        · exact hGL q
        · exact hGD (List.mem_singleton.mp hm)
      · show DI PG w s₉.heap Du ((dueN us i).2.foldl (stepIn (us.getD i []) (behindOf us i)) (dueN us i)).1
        rw [hug]
        exact q7.at fun o e => a89.keep _ o (fun hm => hDL (List.mem_singleton.mp hm)) e
      · show DI PG w s₉.heap Gr ((dueN us i).2.foldl (stepIn (us.getD i []) (behindOf us i)) (dueN us i)).2
        rw [hug]
        exact q8.at fun o e => a89.keep _ o (fun hm => hGL (List.mem_singleton.mp hm)) e
    case kturn =>
      intro j p tj tj' s₈ m hpj st8 hj8 hns8 s₉ a₉ hn₉
      obtain ⟨m', q1, q2, q3, q4, q5, q6, q7, q8⟩ := hj8
      obtain rfl := ns_unique q1 hns8
      have hpk := hkeys p (List.mem_of_getElem? hpj)
      have a89 : Stp [L] s₈ s₉ := a₉
      generalize hF : ((dueN us i).2.take j).foldl (stepIn u (behindOf us i)) (dueN us i) = F at q7 q8
      have hFs : ((dueN us i).2.take (j + 1)).foldl (stepIn u (behindOf us i)) (dueN us i) = stepIn u (behindOf us i) F p := by
        rw [List.take_add_one, hpj, List.foldl_append, hF]; rfl
      have ⟨f1, f2⟩ := stepIn_fold u (behindOf us i) ((dueN us i).2.take j) (dueN us i)
      rw [hF, List.length_take] at f1 f2
      have hbl : (behindOf us i).length ≤ 17 := by show (([34] : List Nat) ++ (us.drop (i + 1)).flatten).length ≤ 17; rw [List.length_append]; show 1 + _ ≤ 17; omega
      have hD9 : DI PG w s₉.heap Du F.1 := q7.at fun o e => a89.keep _ o (fun hm => hDL (List.mem_singleton.mp hm)) e
      have hG9 : DI PG w s₉.heap Gr F.2 := q8.at fun o e => a89.keep _ o (fun hm => hGL (List.mem_singleton.mp hm)) e
      refine x_setI (W := []) (k := p.1 ++ u ++ behindOf us i) (n := p.2) (ev_local hn₉ q3 rfl (mono_v _)) ?i1 (ev_local hn₉ rfl ⟨tj, rfl⟩ (mono_int _)) hD9 (by omega) (held_nil _) (fun s₁₀ a₁₀ h10 => ?_)
      case i1 => exact ev_catT (sl (by rw [List.length_append]; omega)) (ev_catT (sl (by omega)) (ev_local hn₉ rfl ⟨tj', rfl⟩ (mono_t _)) (ev_local hn₉ q5 ⟨tu, rfl⟩ (mono_t _))) (ev_local hn₉ q6 ⟨tb, rfl⟩ (mono_t _))
      have hn10 := hn₉.at' (h' := s₁₀.heap) fun o e => a₁₀.keep _ o (fun hm => hDL (List.mem_singleton.mp hm).symm) e
      have hG10 : DI PG w s₁₀.heap Gr F.2 := hG9.at fun o e => a₁₀.keep _ o (fun hm => hGD (List.mem_singleton.mp hm)) e
      refine x_setI (W := []) (k := p.1 ++ u) (n := (getP F.2 (p.1 ++ u)).getD 0 + p.2) (ev_local hn10 q4 rfl (mono_v _)) ?i2 ?i3 hG10 (by omega) (held_nil _) (fun s₁₁ a₁₁ h11 => ?_)
      case i2 => exact ev_catT (sl (by omega)) (ev_local hn10 rfl ⟨tj', rfl⟩ (mono_t _)) (ev_local hn10 q5 ⟨tu, rfl⟩ (mono_t _))
      case i3 => exact ev_add (ev_getI (ev_local hn10 q4 rfl (mono_v _)) (ev_catT (sl (by omega)) (ev_local hn10 rfl ⟨tj', rfl⟩ (mono_t _)) (ev_local hn10 q5 ⟨tu, rfl⟩ (mono_t _))) (ev_int 0) hG10) (ev_local hn10 rfl ⟨tj, rfl⟩ (mono_int _))
      refine x_nil ⟨?_, _, hn10.at' fun o e => a₁₁.keep _ o (fun hm => hGL (List.mem_singleton.mp hm).symm) e, q2, q3, q4, q5, q6, ?_, ?_⟩
      · exact ((a89.weaken fun c hc => by rw [List.mem_singleton.mp hc]; exact .head _).trans (a₁₀.weaken fun c hc => by rw [List.mem_singleton.mp hc]; exact .tail _ (.head _))).trans (a₁₁.weaken fun c hc => by rw [List.mem_singleton.mp hc]; exact .tail _ (.tail _ (.head _)))
      · rw [hFs]; exact h10.at fun o e => a₁₁.keep _ o (fun hm => hGD (List.mem_singleton.mp hm).symm) e
      · rw [hFs]; exact h11
end
end Mine

namespace Mine
theorem all2_get {α β : Type} {R : α → β → Prop} : ∀ {as : List α} {bs : List β}, as.length = bs.length → (∀ (j : Nat) (a : α) (b : β), as[j]? = some a → bs[j]? = some b → R a b) → All2 R as bs
  | [], [], _, _ => .nil
  | a :: as, b :: bs, h, f => .cons (f 0 a b rfl rfl) (all2_get (Nat.succ.inj h) fun j x y e1 e2 => f (j + 1) x y e1 e2)
section
variable {prog : Program} {w : World} {A : Around} {env : Env} {W : List Addr} {s : Shared} {E : Value → Shared → Prop}
/-- list(a dict with texts as keys) -/
theorem call_listD {d : Addr} {kvs : List (Str × Value)} {ks : List (List Nat)} {Q : Value → Shared → Prop} (hh : A.handled = none) (hd : s.heap.DictOf (PySem.strKind prog w) d kvs) (hk : kvs.map (·.1) = ks.map tx) (lo : (d == sysModules) = false) (hn : ks.length ≤ 1000000) (hw : Held W s)
    (h : ∀ v s', Stp [] s s' → isLst isT ks (vw W s'.heap) v → s.heap.get? (match v with | .ref a => a | _ => 0) = none → Q v s') : wpAny (model prog w) A (call (.type "list") [.ref d]) Q E s := by
  have hl : kvs.length = ks.length := by have := congrArg List.length hk; simpa using this
  obtain ⟨ep, hat⟩ := hd.dictAt
  refine kdl_call (kdl_dict (knd := PySem.strKind prog w) (kvs := kvs) (ep := ep) lo) hh hat (sl (by omega)) (fun h' tk acc c hkeep hS hacc => ?_)
  have st : Stp [] s { s with heap := h', toks := tk } := .heap fun b o _ e => hkeep b o e
  refine h _ _ st ⟨_, acc.toList, rfl, ⟨c, vw_of (hw.new (Nat.le_refl _)) (by rw [Array.toArray_toList]; exact hS)⟩, all2_get (by have e1 : acc.toList.length = acc.size := Array.length_toList; rw [e1, hacc.1, hl]) (fun j a b e1 e2 => ?_)⟩ (get_size _)
  obtain ⟨k, x, e3, e4⟩ := hacc.2 j b (by rw [← Array.getElem?_toList]; exact e2)
  obtain ⟨t, rfl⟩ := Value.isStrOf_shape e4
  have e5 : (kvs.map (·.1))[j]? = some k := by rw [List.getElem?_map, e3]; rfl
  rw [hk, List.getElem?_map, e1] at e5
  cases e5
  exact ⟨t, rfl⟩
/-- a list's count of a text -/
theorem ev_count {o e : Expr} {apos pos : Pos} {xs : List (List Nat)} {k : List Nat} (ho : Ev prog w A env o W s (isLst isT xs)) (he : Ev prog w A env e W s (isT k))
    (hbase : attributeBase o "count" env (eval o env) = eval o env := by rfl) (hs : starEach [e] env = [(false, eval e env)] := by rfl) (hline : (apos.endLine == pos.line) = true := by rfl) :
    Ev prog w A env (.Call (.Attribute o "count" apos) [e] [] pos) W s (isInt (xs.count k : Nat)) :=
  ev_method1 ho (mono_lst mono_t _) he PySem.F.plainAttrs_list PySem.F.slot_list_count PySem.F.type_list_count (fun s₁ v ⟨a, vs, e, l, _⟩ => by
    subst e
    obtain ⟨n, q⟩ := l.plain
    exact ⟨⟨_, q, rfl⟩, fun b e => by cases e; exact ⟨_, q, rfl⟩⟩) (fun s₁ v u a hw ⟨ad, vs, e, l, x⟩ ⟨t, e'⟩ => by
    subst e; subst e'
    obtain ⟨n, q⟩ := l.plain
    refine call_meets PySem.F.slot_list_count ⟨_, q, rfl⟩ PySem.F.entry_list_count (PySem.F.args_list_count_2 _ _) (SeqAt.list_countAt ad vs.toArray n none #[] (.str (tx k) t) (fun y => match y with | .str z _ => z == tx k | _ => false)) ⟨q, fun y hy => ?_, .toks, s₁.toks, ?_⟩
    · obtain ⟨d, _, ⟨ty, rfl⟩⟩ := x.mem (by simpa using hy)
      exact SeqAt.EqAt.str_str (tx d) ty (tx k) t
    · congr 1
      have key : ∀ {ls : List (List Nat)} {ws : List Value}, All2 (fun d u => isT d (vw W s₁.heap) u) ls ws → ws.countP (fun y => match y with | .str z _ => z == tx k | _ => false) = ls.count k := by
        intro ls ws hx
        induction hx with
        | nil => rfl
        | @cons d u _ _ r _ ih =>
          obtain ⟨t0, rfl⟩ := r
          rw [List.countP_cons, List.count_cons, ih]
          congr 1
          show (if (tx d == tx k) = true then 1 else 0) = _
          rw [tx_beq]
      have := key x
      exact_mod_cast this) hbase hs hline
end
end Mine

namespace Mine
theorem all2_at {α β : Type} {R : α → β → Prop} {as : List α} {bs : List β} (h : All2 R as bs) {j : Nat} (h1 : j < as.length) (h2 : j < bs.length) : R as[j] bs[j] := by
  obtain ⟨y, hy, r⟩ := h.get j as[j] (List.getElem?_eq_getElem h1)
  rw [List.getElem?_eq_getElem h2] at hy
  cases hy
  exact r
section
variable {prog : Program} {w : World} {A : Around} {env : Env} {W : List Addr} {s : Shared} {E : Value → Shared → Prop}
/-- d.get(key), the key there -/
theorem ev_get1 {o e : Expr} {apos pos : Pos} {d : Addr} {ps : PL} {k : List Nat} {n : Int} (ho : Ev prog w A env o W s (isV (.ref d))) (he : Ev prog w A env e W s (isT k)) (hd : DI prog w s.heap d ps) (hg : getP ps k = some n)
    (hbase : attributeBase o "get" env (eval o env) = eval o env := by rfl) (hs : starEach [e] env = [(false, eval e env)] := by rfl) (hline : (apos.endLine == pos.line) = true := by rfl) :
    Ev prog w A env (.Call (.Attribute o "get" apos) [e] [] pos) W s (isInt n) := fun s₁ a hw => by
  refine Call_method1 hbase hs hline (wpAny_mono (ho s₁ a hw) (fun v s₂ ⟨b, q⟩ => ?_) fun _ _ x => x)
  cases q
  have hd2 := hd.at (h' := s₂.heap) fun o e => (a.trans b).all _ o e
  refine ⟨"dict", "dict.get", PySem.F.plainAttrs_dict, PySem.F.slot_dict_get, PySem.F.type_dict_get, hd2.typeIs, (fun a e => by cases e; obtain ⟨o, h1, h2, _⟩ := hd2.there; exact ⟨o, h1, h2⟩), ?_⟩
  refine Calls.callWith_builtin rfl (Calls.evalArgs_plain (Calls.spliced_cons (wpAny_mono (he s₂ (a.trans b) (hw.stp b)) (fun u s₃ ⟨c, d₁⟩ => Calls.spliced_nil ?_) fun _ _ x => x)))
  obtain ⟨t, rfl⟩ := d₁
  have st := b.trans c
  have hd4 := hd.at (h' := s₃.heap) fun o e => (a.trans st).all _ o e
  obtain ⟨h1, kvs, h2, h3⟩ := id hd4
  refine call_meetsIn PySem.F.slot_dict_get hd4.typeIs PySem.F.entry_dict_get (PySem.F.args_dict_get_2 _ _) (meets_dict_get (PySem.strKind prog w) d (k := tx k) (key := .str (tx k) t) (isStrOf_tx (tx k) t) h1) ⟨_, h2.mapOf, st.trans .toks, ?_⟩
  have hv := h3.valueAt k
  rw [hg] at hv; obtain ⟨t0, hv⟩ := hv; rw [hv]; exact ⟨t0, rfl⟩
/-- two lists of the same texts are not unequal -/
theorem c_neTs {ks : List (List Nat)} (hu : A.units < 9800) : Cmp prog w A .NotEq W s (isLst isT ks) (isLst isT ks) false := fun s₁ v u _ ⟨a, vs, e, l, x⟩ ⟨b, us, e', l', x'⟩ s₂ st hw => by
  subst e; subst e'
  have m := st.of_nil.vle (W := W)
  have h1 := (l.mono m).isList
  have h2 := (l'.mono m).isList
  have hsz : vs.toArray.size = us.toArray.size := by rw [List.size_toArray, List.size_toArray, ← x.length, ← x'.length]
  refine SeqAt.RcNeAt.lists (e := fun _ => true) h1 h2 hsz (by show A.units < 9900; omega) (fun j g1 g2 => ?_) prog w _ _ ?_
  · have g1' : j < vs.length := by simpa using g1
    have g2' : j < us.length := by simpa using g2
    have gk : j < ks.length := by rw [x.length]; exact g1'
    obtain ⟨t, e1⟩ := all2_at x gk g1'
    obtain ⟨t', e2⟩ := all2_at x' gk g2'
    simp only [List.getElem_toArray]
    rw [e1, e2]
    have := SeqAt.EqAt.str_str (A := A.in1) (s := s₂) (tx ks[j]) t (tx ks[j]) t'
    rw [beq_self_eq_true] at this
    exact this
  · refine ⟨.refl _ _, ?_⟩
    show Value.bool (!(List.range _).all fun _ => true) = _
    simp
end
end Mine

namespace Mine
section
variable {w : World} {mg mb : Str → Option Value} {s : Shared} {A : Around} {W : List Addr} {k : Nat} {env : Env}
theorem g_units {h : Heap} (X : Wd w mg mb h) : mg "_law_units" = some (.ref 55) := (glob_of X.toWld rfl rfl _).trans rfl
theorem g_marked {h : Heap} (X : Wd w mg mb h) : mg "_law_marked" = some (.ref 60) := (glob_of X.toWld rfl rfl _).trans rfl
theorem g_due {h : Heap} (X : Wd w mg mb h) : mg "_law_due" = some (.ref 67) := (glob_of X.toWld rfl rfl _).trans rfl
theorem g_dd {h : Heap} (X : Wd w mg mb h) : mg "_deduplicate" = some (.ref 36) := (glob_of X.toWld rfl rfl _).trans rfl
theorem g_cmp {h : Heap} (X : Wd w mg mb h) : mg "_compare_args_orderless" = some (.ref 50) := (glob_of X.toWld rfl rfl _).trans rfl
theorem g_strip {h : Heap} (X : Wd w mg mb h) : mg "_strip_quoted_realnames" = some (.ref 28) := (glob_of X.toWld rfl rfl _).trans rfl
theorem ev_strip {fe e : Expr} {pos : Pos} {l : List Nat} (X : Wd w mg mb s.heap) (hA : AOk (k + 3) A) (hfe : Ev PG w A env fe W s (isV (.ref 28))) (he : Ev PG w A env e W s (isT l)) (hasc : ∀ c ∈ l, c < 128) (hlen : l.length ≤ 500)
    (hc : eval (.Call fe [e] [] pos) env = (do callWith pos (← eval fe env) [] (backTo pos (starEach [e] env)) (backToKw pos (keywordEach [] env))) := by rfl)
    (hs : starEach [e] env = (false, eval e env) :: starEach [] env := by rfl) : Ev PG w A env (.Call fe [e] [] pos) W s (isT (stripP l)) := by
  obtain ⟨o, fd, ho, hd⟩ : ∃ o fd, (KK w).lookup 28 = some o ∧ o.data = .func fd := ⟨_, _, rfl, rfl⟩
  refine ev_callF hfe (X.kin 28 o ho) hd (evAll_cons he (mono_t _) evAll_nil hs) (fun s₁ vs a hw ⟨u, us, e1, h1, e2⟩ => ?_) hc hs
  subst e2; subst e1
  exact strip_spec (X.stp a) hA h1 hasc hlen hw
theorem ev_marked {fe e : Expr} {pos : Pos} {us : List (List Nat)} (X : Wd w mg mb s.heap) (hA : AOk (k + 1) A) (hfe : Ev PG w A env fe W s (isV (.ref 60))) (he : Ev PG w A env e W s (isLst isT us)) (hul : ∀ u ∈ us, u.length ≤ 2) (hlen : us.length ≤ 8)
    (hc : eval (.Call fe [e] [] pos) env = (do callWith pos (← eval fe env) [] (backTo pos (starEach [e] env)) (backToKw pos (keywordEach [] env))) := by rfl)
    (hs : starEach [e] env = (false, eval e env) :: starEach [] env := by rfl) : Ev PG w A env (.Call fe [e] [] pos) W s (isLst isT (markedP us)) := by
  obtain ⟨o, fd, ho, hd⟩ : ∃ o fd, (KK w).lookup 60 = some o ∧ o.data = .func fd := ⟨_, _, rfl, rfl⟩
  refine ev_callF hfe (X.kin 60 o ho) hd (evAll_cons he (mono_lst mono_t _) evAll_nil hs) (fun s₁ vs a hw ⟨u, us, e1, h1, e2⟩ => ?_) hc hs
  subst e2; subst e1
  exact marked_spec (X.stp a) hA h1 hul hlen hw
theorem ev_due {fe e : Expr} {pos : Pos} {us : List (List Nat)} (X : Wd w mg mb s.heap) (hA : AOk (k + 1) A) (hfe : Ev PG w A env fe W s (isV (.ref 67))) (he : Ev PG w A env e W s (isLst isT us)) (hul : ∀ u ∈ us, u.length ≤ 2) (hlen : us.length ≤ 8)
    (hc : eval (.Call fe [e] [] pos) env = (do callWith pos (← eval fe env) [] (backTo pos (starEach [e] env)) (backToKw pos (keywordEach [] env))) := by rfl)
    (hs : starEach [e] env = (false, eval e env) :: starEach [] env := by rfl) : Ev PG w A env (.Call fe [e] [] pos) W s (isDI PG w (dueP us)) := by
  obtain ⟨o, fd, ho, hd⟩ : ∃ o fd, (KK w).lookup 67 = some o ∧ o.data = .func fd := ⟨_, _, rfl, rfl⟩
  refine ev_callF hfe (X.kin 67 o ho) hd (evAll_cons he (mono_lst mono_t _) evAll_nil hs) (fun s₁ vs a hw ⟨u, us, e1, h1, e2⟩ => ?_) hc hs
  subst e2; subst e1
  exact due_spec (X.stp a) hA h1 hul hlen hw
/-- the comparison of two lists of texts, as an expression: frames may change their slots -/
theorem cmp_call {fe e e' : Expr} {pos : Pos} {xs ys : List (List Nat)} {outer : List Env} (X : Wd w mg mb s.heap) (hA : AOk (k + 2) A) (hfr : A.frames = some outer) (hfl : s.heap.FunFrames {} outer)
    (hfe : Ev PG w A env fe W s (isV (.ref 50))) (he : Ev PG w A env e W s (isLst isT xs)) (he' : Ev PG w A env e' W s (isLst isT ys)) (hx : xs.length ≤ 1000) (hy : ys.length ≤ 1000) (hw : Held W s)
    (hc : eval (.Call fe [e, e'] [] pos) env = (do callWith pos (← eval fe env) [] (backTo pos (starEach [e, e'] env)) (backToKw pos (keywordEach [] env))) := by rfl)
    (hs : starEach [e, e'] env = (false, eval e env) :: starEach [e'] env := by rfl) (hs' : starEach [e'] env = (false, eval e' env) :: starEach [] env := by rfl) :
    wpAny (model PG w) A (eval (.Call fe [e, e'] [] pos) env) (fun r s' => SStp (outer.filterMap (·.frame)) s s' ∧ r = .bool (cmpP xs ys)) NoE s := by
  obtain ⟨o, fd, ho, hd⟩ : ∃ o fd, (KK w).lookup 50 = some o ∧ o.data = .func fd := ⟨_, _, rfl, rfl⟩
  refine Call_ (wpAny_mono (hfe s (.refl _ _) hw) (fun v s₂ ⟨b, q⟩ => ?_) fun _ _ x => x) hc
  cases q
  refine callWith_def hd (wpAny_mono ((evAll_cons he (mono_lst mono_t _) (evAll_cons he' (mono_lst mono_t _) evAll_nil hs') hs) s₂ b (hw.stp b)) (fun vs s₃ ⟨c, p⟩ => ?_) fun _ _ x => x) hs
  obtain ⟨u, us, e1, h1, u2, us2, e2, h2, e3⟩ := p
  subst e3; subst e2; subst e1
  have st := b.trans c
  refine ⟨st.all _ _ (X.kin 50 o ho), wpAny_mono (cmp_spec (X.stp st) hA hfr (hfl.of_keeps fun b o hb _ => ⟨o, st.all _ _ hb, rfl⟩) h1 h2 hx hy (hw.stp st)) (fun r s' ⟨d, q⟩ => ⟨(SStp.of st).trans d, q⟩) fun _ _ x => x⟩
theorem tr_isnt {l r : Expr} {pos : Pos} {S : List Addr} {b b' : Bool} (h : wpAny (model PG w) A (eval l env) (fun r s' => SStp S s s' ∧ r = .bool b) NoE s)
    (h' : ∀ s', SStp S s s' → Ev PG w A env r [] s' (isV (.bool b'))) (hb : behindInMarks .IsNot r = false := by rfl) :
    wpAny (model PG w) A (isTrue (.Compare l [.IsNot] [r] pos) env (eval (.Compare l [.IsNot] [r] pos) env)) (fun c s' => SStp S s s' ∧ c = !(b == b')) NoE s := by
  refine wpAny_isTrue_Compare1 (wpAny_mono h (fun v s₂ ⟨a, q⟩ => ?_) fun _ _ x => x) hb
  subst q
  refine wpAny_mono ((h' s₂ a).at (held_nil _)) (fun u s₃ ⟨c, q⟩ => ?_) fun _ _ x => x
  cases q
  refine wpAny_isNot_plain (by cases b <;> cases b' <;> rfl) (wpAny_truthy_bool ⟨a.trans (SStp.of c), ?_⟩)
  cases b <;> cases b' <;> rfl
theorem cmp_callS {fe e e' : Expr} {pos : Pos} {xs ys : List (List Nat)} {outer : List Env} {S : List Addr} (X : Wd w mg mb s.heap) (hA : AOk (k + 2) A) (hfr : A.frames = some outer) (hS : outer.filterMap (·.frame) = S) (hfl : s.heap.FunFrames {} outer)
    (hfe : Ev PG w A env fe W s (isV (.ref 50))) (he : Ev PG w A env e W s (isLst isT xs)) (he' : Ev PG w A env e' W s (isLst isT ys)) (hx : xs.length ≤ 1000) (hy : ys.length ≤ 1000) (hw : Held W s)
    (hc : eval (.Call fe [e, e'] [] pos) env = (do callWith pos (← eval fe env) [] (backTo pos (starEach [e, e'] env)) (backToKw pos (keywordEach [] env))) := by rfl)
    (hs : starEach [e, e'] env = (false, eval e env) :: starEach [e'] env := by rfl) (hs' : starEach [e'] env = (false, eval e' env) :: starEach [] env := by rfl) :
    wpAny (model PG w) A (eval (.Call fe [e, e'] [] pos) env) (fun r s' => SStp S s s' ∧ r = .bool (cmpP xs ys)) NoE s := by
  subst hS
  exact cmp_call X hA hfr hfl hfe he he' hx hy hw hc hs hs'
end
end Mine

namespace Mine
section
variable {prog : Program} {w : World} {A : Around} {env : Env} {W M : List Addr} {s : Shared} {D : Dsc} {δ : Type} {R : δ → Dsc} {rest : List Stmt} {Q : Flow → Shared → Prop}
/-- a comprehension that is stored as it ends -/
theorem x_assignComp {γ : Type} {R₀ : γ → Dsc} {xs : List γ} {elt iter : Expr} {x y : Str} {px py pos spos : Pos} {scope : Scope} {cl : List (Str × Addr)} {ds : List δ} {m : Str → Option Value}
    (h : Ev prog w A env iter W s D) (hit : ∀ s₁ v, Stp [] s s₁ → Held W s₁ → D (vw W s₁.heap) v → Srcs prog w A W W R₀ xs v s₁) (hR₀ : ∀ d, Mono (R₀ d))
    (hlen : ds.length = xs.length) (hsz : xs.length ≤ sizeLine) (hR : ∀ d, Mono (R d))
    (helt : ∀ V C (i : Nat) d₀ d v s₂ m₂, xs[i]? = some d₀ → ds[i]? = some d → R₀ d₀ (vw V s₂.heap) v → Stp [] s s₂ → VLe (vw W s.heap) (vw V s₂.heap) → Held V s₂ → s₂.heap.Ns C m₂ → m₂ x = some v → Ev prog w A (compEnvC scope cl C env) elt V s₂ (R d))
    (hw : Held W s) (hn : s.heap.Ns env.locals m) (hL : env.locals ∈ W)
    (next : ∀ v s', Stp [env.locals] s s' → isLst R ds (vw W s'.heap) v → s'.heap.Ns env.locals (fun z => if z = y then some v else m z) → Go prog w A env rest Q s')
    (hsw : swapsWith (.ListComp elt [⟨.Name x px, iter, [], 0⟩] scope pos) (some (.Name y py)) spos.line env = pure true := by rfl)
    (hclos : closureFor scope env = pure cl := by rfl) (hcell : ∀ y ∈ scope.names, y.2 ≠ .cell := by decide) (hx : scope.names.lookup x = some .local := by rfl)
    (hkind : scope.kind = .function := by rfl) (hnames : ∀ x ∈ scope.names, x.2 = .local → scope.names.lookup x.1 = some .local := by decide)
    (hy : env.kindOf y = some .local := by rfl) (hp : (env.scope.kind == .class || (env.scope.kind == .module && env.locals != env.globals)) = false := by rfl)
    (hs : ∀ x, foldedSetIterable iter env x = pure x := by intro _; rfl) : Go prog w A env (.Assign [.Name y py] (.ListComp elt [⟨.Name x px, iter, [], 0⟩] scope pos) spos :: rest) Q s := by
  refine wpAny_execs_cons ?_
  rw [exec_Assign_Name_used _ _ _ _ hsw]
  refine wpAny_bind (wpAny_standAt (wpAny_bind ?_))
  show wpAny _ A (do let _ ← comprehension (.ListComp elt [⟨.Name x px, iter, [], 0⟩] scope pos) scope env _ (newList []) false (eval iter env) (some (assign (.Name y py) env))) _ _ s
  refine wpAny_bind (wpAny_mono (comp_free (use := some (assign (.Name y py) env)) (QQ := fun _ s' => Go prog w A env rest Q s') h hit hR₀ hlen hsz hR helt hclos hcell hx hkind hnames hs s (.refl _ _) hw ?_) (fun _ s' hq => wpAny_pure (wpAny_pure hq)) fun _ _ e => e)
  intro s' acc C vs m' st' na nc hna hnc hac hns hpl hl
  have hLC : env.locals ≠ C := fun e => hnc (e ▸ hL)
  show wpAny _ A (assign (.Name y py) env (.ref acc)) _ _ _
  refine wpAny_assign_Name (wpAny_storeName_local hy (hn.keeps st'.all) (fun h₂ hn₂ hs₂ => ?_) hp)
  refine ⟨m', hns.sameBut hs₂ (Ne.symm hLC), fun h₃ hs₃ => ?_⟩
  have st2 : Stp [env.locals] s' { s' with heap := h₂, toks := s'.toks + 1 } := .same hs₂
  have st3 : Stp [C] { s' with heap := h₂, toks := s'.toks + 1 } { s' with heap := h₃, toks := s'.toks + 1 } := .heap fun b o hb e => hs₃.extBut b o (fun q => hb (q ▸ .head _)) e
  refine next (.ref acc) _ ?_ ?_ (hn₂.sameBut hs₃ hLC)
  · refine ⟨fun c o hc e => ?_, (st'.trans (s'' := { s' with heap := s'.heap }) (.refl _ _)).os, fun hb => st'.bare hb, fun i hi => st'.old i hi⟩
    exact st3.keep c o (fun hm => by rw [List.mem_singleton.mp hm, nc] at e; cases e) (st2.keep c o hc (st'.all c o e))
  · refine mono_lst hR ds _ _ _ (fun c o e => ?_) hl
    obtain ⟨hc, he⟩ := vw_some e
    refine vw_of (fun hm => hc (.tail _ hm)) (st3.keep c o (fun hm => hc (by rw [List.mem_singleton.mp hm]; exact .head _)) (st2.keep c o (fun hm => hc (by rw [List.mem_singleton.mp hm]; exact .tail _ hL)) he))
end
end Mine

namespace Mine
def restsM (us : List (List Nat)) : List (List Nat) := (markedP us).map stripP
theorem markN_asc (us : List (List Nat)) (hu : ∀ u ∈ us, ∀ c ∈ u, c < 128) : ∀ t ∈ markN us, ∀ c ∈ t, c < 128 := by
  have key : ∀ (us ts : List (List Nat)), (∀ u ∈ us, ∀ c ∈ u, c < 128) → (∀ t ∈ ts, ∀ c ∈ t, c < 128) → ∀ t ∈ us.foldl markS ts, ∀ c ∈ t, c < 128 := by
    intro us
    induction us with
    | nil => intro ts _ ht; exact ht
    | cons u us ih =>
      intro ts hu ht
      rw [List.foldl_cons]
      refine ih _ (fun x hx => hu x (.tail _ hx)) fun t htm c hc => ?_
      obtain ⟨t', ht', hm⟩ := List.mem_flatMap.mp htm
      obtain ⟨m, hm1, rfl⟩ := List.mem_map.mp hm
      rcases List.mem_append.mp hc with hc | hc
      · rcases List.mem_append.mp hc with hc | hc
        · exact ht t' ht' c hc
        · rcases List.mem_cons.mp hm1 with rfl | hm1
          · cases hc
          · rw [List.mem_singleton.mp hm1] at hc
            rw [List.mem_singleton.mp hc]; decide
      · exact hu u (.head _) c hc
  exact key us [[]] hu (by intro t ht c hc; rw [List.mem_singleton.mp ht] at hc; cases hc)
theorem unitOf_asc (k : Nat) : ∀ c ∈ unitOf k, c < 128 := by
  intro c hcl
  unfold unitOf at hcl
  match k with
  | 0 => simp at hcl; omega
  | 1 => simp at hcl; omega
  | 2 => simp at hcl; omega
  | k + 3 => simp at hcl
theorem KV.keys {ps : PL} {kvs : List (Str × Value)} (h : KV ps kvs) : kvs.map (·.1) = (ps.map (·.1)).map tx := by
  unfold KV at h
  induction h with
  | nil => rfl
  | cons r _ ih => rw [List.map_cons, List.map_cons, List.map_cons, ih, r.1]
section
variable {w : World} {A : Around} {env : Env} {W : List Addr} {s : Shared}
theorem ev_listDct {fe e : Expr} {pos : Pos} {ks : List (List Nat)} (hh : A.handled = none) (hn : Ev PG w A env fe W s (isV (.type "list"))) (h : Ev PG w A env e W s (isDct w ks)) (hsz : ks.length ≤ 1000)
    (he : eval (.Call fe [e] [] pos) env = (do callWith pos (← eval fe env) [] (backTo pos (starEach [e] env)) (backToKw pos (keywordEach [] env))) := by rfl)
    (hs : starEach [e] env = (false, eval e env) :: starEach [] env := by rfl) : Ev PG w A env (.Call fe [e] [] pos) W s (isLst isT ks) :=
  ev_callT hn (evAll_cons h (mono_dct _ _) evAll_nil hs) (fun s₁ vs a hw ⟨u, us, e, ⟨d, o, e', h1, h2, h3⟩, e''⟩ => by
    subst e'' e' e
    exact call_listD hh (Heap.dictOf_iff.mpr ⟨o, (vw_some h1).2, h2⟩) (by rw [List.map_map]; rfl) h3 (by omega) hw fun v s' st hl _ => ⟨st, hl⟩) he hs
theorem ev_listDI {fe e : Expr} {pos : Pos} {ps : PL} (hh : A.handled = none) (hn : Ev PG w A env fe W s (isV (.type "list"))) (h : Ev PG w A env e W s (isDI PG w ps)) (hsz : ps.length ≤ 1000)
    (he : eval (.Call fe [e] [] pos) env = (do callWith pos (← eval fe env) [] (backTo pos (starEach [e] env)) (backToKw pos (keywordEach [] env))) := by rfl)
    (hs : starEach [e] env = (false, eval e env) :: starEach [] env := by rfl) : Ev PG w A env (.Call fe [e] [] pos) W s (isLst isT (ps.map (·.1))) :=
  ev_callT hn (evAll_cons h (mono_di _) evAll_nil hs) (fun s₁ vs a hw ⟨u, us, e, ⟨d, o, kvs, e', h1, h2, h3, h4⟩, e''⟩ => by
    subst e'' e' e
    exact call_listD hh (Heap.dictOf_iff.mpr ⟨o, (vw_some h1).2, h2⟩) h3.keys h4 (by rw [List.length_map]; omega) hw fun v s' st hl _ => ⟨st, hl⟩) he hs
end
theorem ev_dd {w : World} {mg mb : Str → Option Value} {A : Around} {env : Env} {W : List Addr} {s : Shared} {k : Nat} {fe e : Expr} {pos : Pos} {xs : List (List Nat)} (X : Wd w mg mb s.heap) (hA : AOk (k + 1) A) (hfe : Ev PG w A env fe W s (isV (.ref 36))) (he : Ev PG w A env e W s (isLst isT xs)) (hlen : xs.length ≤ 1000)
    (hc : eval (.Call fe [e] [] pos) env = (do callWith pos (← eval fe env) [] (backTo pos (starEach [e] env)) (backToKw pos (keywordEach [] env))) := by rfl)
    (hs : starEach [e] env = (false, eval e env) :: starEach [] env := by rfl) : Ev PG w A env (.Call fe [e] [] pos) W s (isDct w (dedup xs)) := by
  obtain ⟨o, fd, ho, hd⟩ : ∃ o fd, (KK w).lookup 36 = some o ∧ o.data = .func fd := ⟨_, _, rfl, rfl⟩
  refine ev_callF hfe (X.kin 36 o ho) hd (evAll_cons he (mono_lst mono_t _) evAll_nil hs) (fun s₁ vs a hw ⟨u, us, e1, h1, e3⟩ => ?_) hc hs
  subst e3; subst e1
  exact dd_spec (X.stp a) hA h1 hlen hw
section
variable {w : World} {A : Around} {env : Env} {s : Shared}
theorem sv_is {l r : Expr} {pos : Pos} {S : List Addr} {b b' : Bool} (h : wpAny (model PG w) A (eval l env) (fun r s' => SStp S s s' ∧ r = .bool b) NoE s)
    (h' : ∀ s', SStp S s s' → Ev PG w A env r [] s' (isV (.bool b'))) (hb : behindInMarks .Is r = false := by rfl) :
    wpAny (model PG w) A (eval (.Compare l [.Is] [r] pos) env) (fun c s' => SStp S s s' ∧ c = .bool (b == b')) NoE s := by
  refine wpAny_Compare1 (wpAny_mono h (fun v s₂ ⟨a, q⟩ => ?_) fun _ _ x => x) hb
  subst q
  refine wpAny_mono ((h' s₂ a).at (held_nil _)) (fun u s₃ ⟨c, q⟩ => ?_) fun _ _ x => x
  cases q
  refine wpAny_is_plain (by cases b <;> cases b' <;> rfl) ⟨a.trans (SStp.of c), ?_⟩
  cases b <;> cases b' <;> rfl
end
/-- what the plain law says of a row of units -/
structure Good (us : List (List Nat)) : Prop where
  len : (restsM us).length ≤ 500
  count : ∀ t ∈ dedup (restsM us), getP (dueP us) t = some ((restsM us).count t : Nat)
  c1 : cmpP (restsM us) ((dueP us).map (·.1)) = true
  c2 : cmpP ((dueP us).map (·.1)) (restsM us) = true
  c3 : cmpP ((dedup (restsM us)).drop 1 ++ [[98]]) (restsM us) = false
  c4 : cmpP (restsM us) ((dedup (restsM us)).drop 1) = false
  c5 : cmpP ((dedup (restsM us)).take ((dedup (restsM us)).length - 1)) (restsM us) = false
section
variable {w : World} {mg mb : Str → Option Value} {s : Shared}
set_option maxHeartbeats 8000000 in
theorem law_spec (hgood : ∀ ks : List Nat, 3 ≤ ks.length → ks.length ≤ 5 → (∀ k ∈ ks, k < 3) → Good (ks.map unitOf)) (X : Wd w mg mb s.heap) {v : Value} {ns : List Int} (hv : isIL ns (vw [] s.heap) v) (hlen : ns.length ≤ 1000) :
    wpAny (model PG w) callerA (call (.ref 72) [v]) (fun r s' => Stp [] s s' ∧ r = .bool true) NoE s := by
  have hA0 : AOk 20 callerA := AOk.caller
  refine call_def hA0.room X.nl (X.kin 72 _ rfl) rfl (codeRec_of X.kin (by rfl)) rfl (BindsTo.of_eq (binds := [("script", v)]) rfl) (by decide) (locs (by rfl)) ?_
  intro s₁ a₁ hL hn₁
  generalize hLe : s.heap.objs.size = L at hL hn₁ ⊢
  have hA : ∀ env, AOk 19 (callerA.deeper env) := fun env => hA0.deeper
  have X1 := X.stp a₁
  have hH : ∀ {sx : Shared} {m : Str → Option Value}, sx.heap.Ns L m → Held [L] sx := fun {sx m} h => by
    obtain ⟨o, _, _, ho, _⟩ := h; exact .cons ho (held_nil _)
  have hXs : ∀ {sx : Shared}, Stp [L] s₁ sx → Wd w mg mb sx.heap := fun {sx} h => X.stp (a₁.fresh h fun c hc => by rw [List.mem_singleton.mp hc]; exact hL)
  have vl : ∀ {sx sy : Shared}, Stp [L] sx sy → VLe (vw [L] sx.heap) (vw [L] sy.heap) := fun h => h.vle' fun b hb => hb
  have hv1 : isIL ns (vw [L] s₁.heap) v := mono_il _ _ _ _ (fun c o e => vw_of (fun hm => by
    have := (vw_some e).2; rw [List.mem_singleton.mp hm, hL] at this; cases this) (a₁.all _ _ (vw_some e).2)) hv
  -- units
  refine wpAny_execs_cons ?_
  refine x_assignE (W := [L]) (D := fun g v => ∃ ks : List Nat, 3 ≤ ks.length ∧ ks.length ≤ 5 ∧ (∀ k ∈ ks, k < 3) ∧ isLst isT (ks.map unitOf) g v) ?eu (hH hn₁) hn₁ (.head _) (fun g g' v hg ⟨ks, h1, h2, h3, h4⟩ => ⟨ks, h1, h2, h3, mono_lst mono_t _ _ _ _ hg h4⟩) (fun uv s₂ a₂ d₂ hn₂ => ?_)
  case eu =>
    obtain ⟨o, fd, ho, hd⟩ : ∃ o fd, (KK w).lookup 55 = some o ∧ o.data = .func fd := ⟨_, _, rfl, rfl⟩
    refine ev_callF (ev_global X1.g (g_units X)) (X1.kin 55 o ho) hd (evAll_cons (ev_local hn₁ rfl hv1 (mono_il _)) (mono_il _) evAll_nil) (fun s₂ vs a hw ⟨u, us, e1, h1, e2⟩ => ?_)
    subst e2; subst e1
    exact units_spec (k := 0) (X1.stp a) ((hA _).less (by omega)) h1 hlen hw
  obtain ⟨ks, hk1, hk5, hk3, hu2⟩ := d₂
  have G := hgood ks hk1 hk5 hk3
  generalize hus : ks.map unitOf = us at hu2 G
  have hul : ∀ u ∈ us, u.length ≤ 2 := fun u hu => by
    rw [← hus] at hu
    obtain ⟨k, _, rfl⟩ := List.mem_map.mp hu
    exact unitOf_len k
  have husl : us.length ≤ 8 := by rw [← hus, List.length_map]; omega
  have a12 : Stp [L] s₁ s₂ := a₂
  have X2 := hXs a12
  have hua : ∀ u ∈ us, ∀ c ∈ u, c < 128 := fun u hu => by
    rw [← hus] at hu
    obtain ⟨k, _, rfl⟩ := List.mem_map.mp hu
    exact unitOf_asc k
  have hul' : ∀ u ∈ us ++ [[]], u.length ≤ 2 := fun u hu => by
    rcases List.mem_append.mp hu with hu | hu
    · exact hul u hu
    · rw [List.mem_singleton.mp hu]; decide
  have hua' : ∀ u ∈ us ++ [[]], ∀ c ∈ u, c < 128 := fun u hu => by
    rcases List.mem_append.mp hu with hu | hu
    · exact hua u hu
    · rw [List.mem_singleton.mp hu]; intro c hc; cases hc
  have ⟨mk1, mk2⟩ := markN_facts (us ++ [[]]) hul'
  have mk3 := markN_asc (us ++ [[]]) hua'
  have hml : (us ++ [[]]).length ≤ 9 := by rw [List.length_append]; show us.length + 1 ≤ 9; omega
  have mk1' : (markedP us).length ≤ 512 := by
    show (markN (us ++ [[]])).length ≤ 512
    rw [mk1]; exact Nat.le_trans (Nat.pow_le_pow_right (by decide) hml) (by decide)
  -- rests
  refine x_assignComp (W := [L]) (R := isT) (ds := restsM us) (R₀ := isT) (xs := markedP us) (cl := []) (D := isLst isT (markedP us)) ?ri ?rit mono_t (by simp [restsM]) (sl (by omega)) mono_t ?relt (hH hn₂) hn₂ (.head _) (fun rv s₃ a₃ d₃ hn₃ => ?_)
  case ri => exact ev_marked (k := 0) X2 ((hA _).less (by omega)) (ev_global X2.g (g_marked X)) (ev_local hn₂ rfl hu2 (mono_lst mono_t _)) hul husl
  case rit =>
    intro s₃ u b hw' hd
    exact srcs_list (hA _).hd hd (fun _ h => h) hw'
  case relt =>
    intro V C i d₀ d u s₃ m₂ hd₀ hd hu st vl' hV hns3 hm
    have e2 : d = stripP d₀ := by simp [restsM, hd₀] at hd; exact hd.symm
    subst e2
    have hin : d₀ ∈ markN (us ++ [[]]) := List.mem_of_getElem? hd₀
    have X3 := X2.stp st
    exact ev_strip (k := 0) X3 ((hA _).less (by omega)) (ev_global X3.g (g_strip X)) (ev_local hns3 hm hu (mono_t _)) (mk3 d₀ hin) (by have := mk2 d₀ hin; omega)
  have a23 : Stp [L] s₂ s₃ := a₃
  have s13 := a12.trans a23
  have X3 := hXs s13
  have hu3 : isLst isT us (vw [L] s₃.heap) uv := mono_lst mono_t _ _ _ _ (vl a23) hu2
  -- due
  refine wpAny_execs_cons ?_
  refine x_assignE (W := [L]) (D := isDI PG w (dueP us)) ?ed (hH hn₃) hn₃ (.head _) (mono_di _) (fun dv s₄ a₄ d₄ hn₄ => ?_)
  case ed => exact ev_due (k := 0) X3 ((hA _).less (by omega)) (ev_global X3.g (g_due X)) (ev_local hn₃ rfl hu3 (mono_lst mono_t _)) hul husl
  have a34 : Stp [L] s₃ s₄ := a₄
  have s14 := s13.trans a34
  have X4 := hXs s14
  have hr4 : isLst isT (restsM us) (vw [L] s₄.heap) rv := mono_lst mono_t _ _ _ _ (vl a34) d₃
  have hrl := G.len
  have hdl := dedup_len (restsM us)
  -- kept
  refine wpAny_execs_cons ?_
  refine x_assignE (W := [L]) (D := isLst isT (dedup (restsM us))) ?ek (hH hn₄) hn₄ (.head _) (mono_lst mono_t _) (fun kv s₅ a₅ d₅ hn₅ => ?_)
  case ek => exact ev_listDct (hA _).hd (ev_builtin X4.g (b_list X).1 X4.b (b_list X).2) (ev_dd (k := 0) X4 ((hA _).less (by omega)) (ev_global X4.g (g_dd X)) (ev_local hn₄ rfl hr4 (mono_lst mono_t _)) (by omega)) (by omega)
  have a45 : Stp [L] s₄ s₅ := a₅
  have s15 := s14.trans a45
  have X5 := hXs s15
  have hr5 : isLst isT (restsM us) (vw [L] s₅.heap) rv := mono_lst mono_t _ _ _ _ (vl a45) hr4
  have hun : ∀ env, (callerA.deeper env).units < 9800 := fun env => by show 4 + 3 < 9800; decide
  refine x_if (c := false) (tr_cmp (W := [L]) (ev_dedup (k := 0) X5 ((hA _).less (by omega)) (ev_global X5.g (g_dedup X)) (ev_local hn₅ rfl hr5 (mono_lst mono_t _)) (by omega)) (ev_local hn₅ rfl d₅ (mono_lst mono_t _)) (mono_lst mono_t _) (c_neTs (hun _)) (hH hn₅)) (fun hc => by cases hc) (fun _ s₆ a₆ => x_nil ?_)
  have s16 := s15.trans a₆.of_nil
  have hn6 := hn₅.keeps a₆.all
  have a56 : Stp [L] s₅ s₆ := a₆.of_nil
  have hd5 : isDI PG w (dueP us) (vw [L] s₅.heap) dv := mono_di _ _ _ _ (vl a45) d₄
  have hd6 : isDI PG w (dueP us) (vw [L] s₆.heap) dv := mono_di _ _ _ _ (vl a56) hd5
  have hr6 : isLst isT (restsM us) (vw [L] s₆.heap) rv := mono_lst mono_t _ _ _ _ (vl a56) hr5
  have hk6 : isLst isT (dedup (restsM us)) (vw [L] s₆.heap) kv := mono_lst mono_t _ _ _ _ (vl a56) d₅
  clear hr5 hd5 hr4 d₄ d₃ hu3 hu2 hv1
  obtain ⟨Dd, hdv⟩ : ∃ d, dv = .ref d := by obtain ⟨d, _, _, e, _⟩ := hd6; exact ⟨d, e⟩
  subst hdv
  have hDI : ∀ {sx : Shared}, Stp [L] s₆ sx → DI PG w sx.heap Dd (dueP us) := fun {sx} h => by
    obtain ⟨d, o, kvs, e', h1, h2, h3, h4⟩ := mono_di _ _ _ _ (vl h) hd6
    cases e'
    exact ⟨h4, kvs, Heap.dictOf_iff.mpr ⟨o, (vw_some h1).2, h2⟩, h3⟩
  have hDl : (dueP us).length ≤ 1000 := by
    have h1 := mergeP_len (dueN us us.length).1 (dueN us us.length).2
    have ⟨h2, h3⟩ := dueN_len us us.length
    have h4 : 2 ^ us.length ≤ 256 := Nat.le_trans (Nat.pow_le_pow_right (by decide) husl) (by decide)
    have h5 : (dueP us).length ≤ (dueN us us.length).1.length + (dueN us us.length).2.length := h1
    omega
  have hR : ∀ {sx : Shared}, Stp [L] s₆ sx → isLst isT (restsM us) (vw [L] sx.heap) rv := fun h => mono_lst mono_t _ _ _ _ (vl h) hr6
  have hK : ∀ {sx : Shared}, Stp [L] s₆ sx → isLst isT (dedup (restsM us)) (vw [L] sx.heap) kv := fun h => mono_lst mono_t _ _ _ _ (vl h) hk6
  have hD : ∀ {sx : Shared}, Stp [L] s₆ sx → isDI PG w (dueP us) (vw [L] sx.heap) (.ref Dd) := fun h => mono_di _ _ _ _ (vl h) hd6
  have hX : ∀ {sx : Shared}, Stp [L] s₆ sx → Wd w mg mb sx.heap := fun h => hXs (s16.trans h)
  -- how often
  refine x_for (M := [L]) (W := [L]) (R₀ := isT) (xs := dedup (restsM us)) (D := isLst isT (dedup (restsM us))) (fun i h => ∃ m, h.Ns L m ∧ m "rests" = some rv ∧ m "due" = some (.ref Dd) ∧ m "kept" = some kv) ?lit (hH hn6) (fun s₇ u a₇ hw₇ hd => srcs_list (hA _).hd hd (fun _ h => h) hw₇) (fun _ h => h) mono_t ?lJ ?l0 ?lturn ?ldone
  case lit => exact ev_local hn6 rfl hk6 (mono_lst mono_t _)
  case lJ =>
    rintro i h h' ⟨m, h1, h2⟩ hk
    exact ⟨m, h1.at' fun o e => hk _ (.head _) o e, h2⟩
  case l0 => exact ⟨_, hn6, rfl, rfl, rfl⟩
  case lturn =>
    rintro i t u s₇ ht hu st7 ⟨m, h1, h2, h3, h4⟩
    refine wpAny_storeName_local rfl h1 (fun h' hn' hs => ?_) rfl
    have st78 : Stp [L] s₇ { s₇ with heap := h', toks := s₇.toks + 1 } := .same hs
    generalize hs8 : ({ s₇ with heap := h', toks := s₇.toks + 1 } : Shared) = s₈ at st78 ⊢
    have hn8 : s₈.heap.Ns L (fun y => if y = (Str.ofString "text") then some u else m y) := by rw [← hs8]; exact hn'
    have s68 := st7.trans st78
    have hu8 : isT t (vw [L] s₈.heap) u := mono_t _ _ _ _ (vl st78) hu
    have hg := G.count t (List.mem_of_getElem? ht)
    refine x_if (c := ((restsM us).count t : Int) != ((restsM us).count t : Int)) (tr_cmp (W := [L]) (ev_count (ev_local hn8 h2 (hR s68) (mono_lst mono_t _)) (ev_local hn8 rfl hu8 (mono_t _))) (ev_get1 (ev_local hn8 h3 rfl (mono_v _)) (ev_local hn8 rfl hu8 (mono_t _)) (hDI s68) hg) (mono_int _) c_neInt (hH hn8)) (fun hc => by simp at hc) (fun _ s₉ a₉ => x_nil (x_nil ⟨st78.trans a₉.of_nil, _, hn8.keeps a₉.all, h2, h3, h4⟩))
  case ldone =>
    rintro s₇ s67 ⟨m, h1, h2, h3, h4⟩
    have hfl : ∀ {sx : Shared} {m : Str → Option Value}, sx.heap.Ns L m → ∀ env : Env, env.scope.kind ≠ .module → env.frame = some L → sx.heap.FunFrames {} [env] := fun {sx m} hn env hk hfm => by
      obtain ⟨o, es, ep, ho, hd, _⟩ := hn
      exact ⟨hk, ⟨L, o, hfm, rfl, ho, fun vs => by rw [hd]; exact fun e => nomatch e⟩, trivial⟩
    -- the same texts
    refine wpAny_execs_cons (wpAny_If (isTrue_or (wpAny_mono (tr_isnt (S := [L]) (b := cmpP (restsM us) ((dueP us).map (·.1))) (b' := true) ?c1 (fun s' a => ev_bool true)) (fun b1 s₈ q1 => ?_) fun _ _ x => x)))
    case c1 =>
      have X7 := hX s67
      exact cmp_callS (k := 0) (W := [L]) X7 ((hA _).less (by omega)) rfl rfl (hfl h1 _ (by intro e; exact nomatch e) rfl) (ev_global X7.g (g_cmp X)) (ev_local h1 h2 (hR s67) (mono_lst mono_t _)) (ev_listDI (hA _).hd (ev_builtin X7.g (b_list X).1 X7.b (b_list X).2) (ev_local h1 h3 (hD s67) (mono_di _)) hDl) (by omega) (by rw [List.length_map]; omega) (hH h1)
    obtain ⟨x8, e1⟩ := q1
    rw [G.c1] at e1
    subst e1
    have s78 : Stp [L] s₇ s₈ := x8.toStp
    have s68 := s67.trans s78
    have hn8 := x8.ns h1
    refine isTrue_or (wpAny_mono (tr_isnt (S := [L]) (b := cmpP ((dueP us).map (·.1)) (restsM us)) (b' := true) ?c2 (fun s' a => ev_bool true)) (fun b2 s₉ q2 => ?_) fun _ _ x => x)
    case c2 =>
      have X8 := hX s68
      exact cmp_callS (k := 0) (W := [L]) X8 ((hA _).less (by omega)) rfl rfl (hfl hn8 _ (by intro e; exact nomatch e) rfl) (ev_global X8.g (g_cmp X)) (ev_listDI (hA _).hd (ev_builtin X8.g (b_list X).1 X8.b (b_list X).2) (ev_local hn8 h3 (hD s68) (mono_di _)) hDl) (ev_local hn8 h2 (hR s68) (mono_lst mono_t _)) (by rw [List.length_map]; omega) (by omega) (hH hn8)
    obtain ⟨x9, e2⟩ := q2
    rw [G.c2] at e2
    subst e2
    refine isTrue_or_nil ?_
    have s69 := s68.trans x9.toStp
    have hn9 := x9.ns hn8
    refine x_nil ?_
    -- another one in its place
    refine wpAny_execs_cons (wpAny_If (wpAny_mono (tr_isnt (S := [L]) (b := cmpP ((dedup (restsM us)).drop 1 ++ [[98]]) (restsM us)) (b' := false) ?c3 (fun s' a => ev_bool false)) (fun b3 s₁₀ q3 => ?_) fun _ _ x => x))
    case c3 =>
      have X9 := hX s69
      refine cmp_callS (k := 0) (W := [L]) X9 ((hA _).less (by omega)) rfl rfl (hfl hn9 _ (by intro e; exact nomatch e) rfl) (ev_global X9.g (g_cmp X)) (ev_catL (ev_from (i := 1) (ev_local hn9 h4 (hK s69) (mono_lst mono_t _)) mono_t (ev_int 1) (by decide) (sl (by omega))) ((ev_list (R := isT) (evAll_cons2 (ev_t [98] rfl) (mono_t _) evAll_nil2) mono_t (sl (by decide))).mono fun _ _ h => h.1) mono_t (sl ?l3)) (ev_local hn9 h2 (hR s69) (mono_lst mono_t _)) ?l4 (by omega) (hH hn9)
      case l3 => rw [List.length_drop, List.length_singleton]; omega
      case l4 => rw [List.length_append, List.length_drop, List.length_singleton]; omega
    obtain ⟨x10, e3⟩ := q3
    rw [G.c3] at e3
    subst e3
    refine x_nil ?_
    have s610 := s69.trans x10.toStp
    have hn10 := x10.ns hn9
    -- one less
    refine wpAny_execs_cons (wpAny_Return_some (BoolOp_and (wpAny_mono (sv_is (S := [L]) (b := cmpP (restsM us) ((dedup (restsM us)).drop 1)) (b' := false) ?c4 (fun s' a => ev_bool false)) (fun b4 s₁₁ q4 => ?_) fun _ _ x => x)))
    case c4 =>
      have X10 := hX s610
      exact cmp_callS (k := 0) (W := [L]) X10 ((hA _).less (by omega)) rfl rfl (hfl hn10 _ (by intro e; exact nomatch e) rfl) (ev_global X10.g (g_cmp X)) (ev_local hn10 h2 (hR s610) (mono_lst mono_t _)) (ev_from (i := 1) (ev_local hn10 h4 (hK s610) (mono_lst mono_t _)) mono_t (ev_int 1) (by decide) (sl (by omega))) (by omega) (by rw [List.length_drop]; omega) (hH hn10)
    obtain ⟨x11, e4⟩ := q4
    rw [G.c4] at e4
    subst e4
    refine wpAny_truthy_bool ?_
    have s611 := s610.trans x11.toStp
    have hn11 := x11.ns hn10
    refine wpAny_mono (sv_is (S := [L]) (b := cmpP ((dedup (restsM us)).take ((dedup (restsM us)).length - 1)) (restsM us)) (b' := false) ?c5 (fun s' a => ev_bool false)) (fun b5 s₁₂ q5 => ?_) fun _ _ x => x
    case c5 =>
      have X11 := hX s611
      exact cmp_callS (k := 0) (W := [L]) X11 ((hA _).less (by omega)) rfl rfl (hfl hn11 _ (by intro e; exact nomatch e) rfl) (ev_global X11.g (g_cmp X)) (ev_butLast (ev_local hn11 h4 (hK s611) (mono_lst mono_t _)) mono_t (ev_neg (ev_int 1)) (sl (by omega))) (ev_local hn11 h2 (hR s611) (mono_lst mono_t _)) (by rw [List.length_take]; omega) (by omega) (hH hn11)
    obtain ⟨x12, e5⟩ := q5
    rw [G.c5] at e5
    subst e5
    exact ⟨a₁.fresh (s16.trans (s611.trans x12.toStp)) fun c hc => by rw [List.mem_singleton.mp hc]; exact hL, rfl⟩
end
end Mine

namespace Mine
/-- what stands behind the first bare mark -/
def aft : List Nat → Option (List Nat)
  | [] => none
  | [c] => if c = 34 then some [] else none
  | c :: d :: r => if c = 34 then some (d :: r) else if c = 92 then aft r else aft (d :: r)
theorem aft_mark (x : List Nat) : aft (34 :: x) = some x := by
  cases x <;> simp [aft]
theorem aft_letter (x : List Nat) : aft (97 :: x) = aft x := by
  cases x <;> simp [aft]
theorem aft_pair (c : Nat) (x : List Nat) : aft (92 :: c :: x) = aft x := by
  simp [aft]
/-- a unit: a letter, or two signs of which the first is a backslash -/
structure Cu (u : List Nat) : Prop where
  aft : ∀ x, Mine.aft (u ++ x) = Mine.aft x
  pos : 0 < u.length
  esc : ∀ p r, Mine.esc p false (u ++ r) = (p + u.length - 1, u) :: Mine.esc (p + u.length) false r
  ne : (u == [34]) = false
  no : 98 ∉ u
theorem cu_unit (k : Nat) (hk : k < 3) : Cu (unitOf k) := by
  match k, hk with
  | 0, _ => exact ⟨fun x => aft_letter x, by decide, fun p r => by simp [unitOf, Mine.esc], by decide, by decide⟩
  | 1, _ => exact ⟨fun x => aft_pair 34 x, by decide, fun p r => by simp [unitOf, Mine.esc], by decide, by decide⟩
  | 2, _ => exact ⟨fun x => aft_pair 92 x, by decide, fun p r => by simp [unitOf, Mine.esc], by decide, by decide⟩

/-- what is kept so far, and, while a mark stands open, what stands behind it -/
abbrev QS := List Nat × Option (List Nat)
def uS : QS → List Nat → QS
  | (t, none), u => (t ++ u, none)
  | (t, some p), u => (t, some (p ++ u))
def mS : QS → QS
  | (t, none) => (t, some [])
  | (t, some _) => (t, none)
def outS : QS → List Nat
  | (t, none) => t
  | (t, some p) => t ++ [34] ++ p
def pendS : QS → List Nat
  | (_, none) => []
  | (_, some p) => p
def Inv (x : List Nat) (s : QS) (st : Nat × Option Nat × List (List Nat)) : Prop :=
  (34 ∉ x → st = (0, none, [])) ∧ match s with
    | (t, none) => st.2.1 = none ∧ st.1 ≤ x.length ∧ st.2.2.flatten ++ x.drop st.1 = t
    | (t, some p) => ∃ y, x = y ++ [34] ++ p ∧ st.2.1 = some y.length ∧ st.1 ≤ y.length ∧ st.2.2.flatten ++ y.drop st.1 = t
def Rel (x : List Nat) (s : QS) : Prop := ∀ r, ∃ st, foldS (x ++ r) (esc 0 false (x ++ r)) = (esc x.length false r).foldl (stepS (x ++ r)) st ∧ Inv x s st
theorem rel_start : Rel [] ([], none) := fun r => ⟨(0, none, []), rfl, fun _ => rfl, rfl, Nat.le_refl _, rfl⟩
theorem inv_unit {x u : List Nat} {s : QS} {st : Nat × Option Nat × List (List Nat)} (h : Inv x s st) : Inv (x ++ u) (uS s u) st := by
  obtain ⟨h0, h⟩ := h
  refine ⟨fun hn => h0 fun hm => hn (List.mem_append_left _ hm), ?_⟩
  obtain ⟨t, o⟩ := s
  cases o with
  | none =>
    obtain ⟨h1, h2, h3⟩ := h
    refine ⟨h1, by rw [List.length_append]; omega, ?_⟩
    rw [List.drop_append_of_le_length h2, ← List.append_assoc, h3]
  | some p =>
    obtain ⟨y, h1, h2, h3, h4⟩ := h
    exact ⟨y, by rw [h1]; simp, h2, h3, h4⟩
theorem rel_unit {x u : List Nat} {s : QS} (hu : Cu u) (h : Rel x s) : Rel (x ++ u) (uS s u) := fun r => by
  obtain ⟨st, e, i⟩ := h (u ++ r)
  refine ⟨st, ?_, inv_unit i⟩
  rw [List.append_assoc, e, hu.esc, List.foldl_cons, List.length_append]
  congr 1
  unfold stepS
  rw [hu.ne]
  rfl
theorem rel_nil {x : List Nat} {s : QS} (h : Rel x s) : Rel (x ++ []) (uS s []) := by
  have e : uS s [] = s := by
    obtain ⟨t, o⟩ := s
    cases o <;> simp [uS]
  rw [e, List.append_nil]; exact h
theorem rel_mark {x : List Nat} {s : QS} (h : Rel x s) : Rel (x ++ [34]) (mS s) := fun r => by
  obtain ⟨st, e, h0, h⟩ := h ([34] ++ r)
  have e2 : esc x.length false ([34] ++ r) = (x.length, [34]) :: esc (x.length + 1) false r := by simp [esc]
  refine ⟨stepS (x ++ ([34] ++ r)) st (x.length, [34]), ?_, fun hn => absurd (List.mem_append_right x (.head _)) hn, ?_⟩
  · rw [List.append_assoc, e, e2, List.foldl_cons, List.length_append]
    rfl
  obtain ⟨t, o⟩ := s
  obtain ⟨b, q, res⟩ := st
  cases o with
  | none =>
    obtain ⟨h1, h2, h3⟩ := h
    simp only at h1 h2 h3
    subst h1
    exact ⟨x, by simp, rfl, h2, h3⟩
  | some p =>
    obtain ⟨y, h1, h2, h3, h4⟩ := h
    simp only at h1 h2 h3 h4
    subst h2
    refine ⟨rfl, by show x.length + 1 ≤ _; rw [List.length_append]; exact Nat.le_refl _, ?_⟩
    have e3 : (x ++ [34]).drop (x.length + 1) = [] := List.drop_eq_nil_of_le (by rw [List.length_append]; exact Nat.le_refl _)
    show (if (b : Int) != (y.length : Int) then res ++ [((x ++ ([34] ++ r)).take y.length).drop b] else res).flatten ++ (x ++ [34]).drop (x.length + 1) = t
    rw [e3, List.append_nil, ← h4]
    have e4 : (x ++ ([34] ++ r)).take y.length = y := by rw [h1]; simp
    rw [e4]
    split
    · simp
    · rename_i hb
      have hb : (b : Int) = (y.length : Int) := by simpa using hb
      have hb : b = y.length := by omega
      rw [hb]; simp
theorem rel_strip {x : List Nat} {s : QS} (h : Rel x s) : stripP x = outS s := by
  obtain ⟨st, e, h0, h⟩ := h []
  rw [List.append_nil] at e
  have e1 : foldS x (esc 0 false x) = st := by rw [e]; simp [esc]
  unfold stripP
  rw [e1]
  obtain ⟨t, o⟩ := s
  obtain ⟨b, q, res⟩ := st
  cases o with
  | none =>
    obtain ⟨h1, h2, h3⟩ := h
    simp only at h1 h2 h3
    show _ = t
    split
    · split
      · rw [← h3]; simp
      · rename_i hlt
        rw [← h3, List.drop_eq_nil_of_le (Nat.not_lt.mp hlt), List.append_nil]
    · rename_i hc
      have := h0 (by simpa using hc)
      cases this
      rw [← h3]; simp
  | some p =>
    obtain ⟨y, h1, h2, h3, h4⟩ := h
    simp only at h1 h2 h3 h4
    show _ = t ++ [34] ++ p
    have hl : b < x.length := by rw [h1]; simp; omega
    have hc : x.contains 34 = true := by rw [h1]; simp
    rw [if_pos hc, if_pos hl, ← h4, h1]
    simp [List.drop_append_of_le_length h3]

def nextS (ss : List QS) (u : List Nat) : List QS := ss.flatMap fun s => [uS s u, uS (mS s) u]
def ssN (us : List (List Nat)) : List QS := us.foldl nextS [([], none)]
theorem rel_next {ts : List (List Nat)} {ss : List QS} {u : List Nat} (hu : ∀ x s, Rel x s → Rel (x ++ u) (uS s u)) (h : All2 Rel ts ss) : All2 Rel (markS ts u) (nextS ss u) := by
  induction h with
  | nil => exact .nil
  | @cons x s ts ss r _ ih =>
    unfold markS nextS at *
    rw [List.flatMap_cons, List.flatMap_cons]
    refine All2.append ?_ ih
    refine .cons ?_ (.cons ?_ .nil)
    · show Rel (x ++ [] ++ u) (uS s u)
      rw [List.append_nil]; exact hu _ _ r
    · exact hu _ _ (rel_mark r)
theorem rel_all : ∀ (us ts : List (List Nat)) (ss : List QS), (∀ u ∈ us, Cu u) → All2 Rel ts ss → All2 Rel (us.foldl markS ts) (us.foldl nextS ss)
  | [], _, _, _, h => h
  | u :: us, ts, ss, hu, h => rel_all us _ _ (fun x hx => hu x (.tail _ hx)) (rel_next (fun _ _ => rel_unit (hu u (.head _))) h)
theorem rests_eq (us : List (List Nat)) (hu : ∀ u ∈ us, Cu u) : restsM us = (nextS (ssN us) []).map outS := by
  have h := rel_next (u := []) (fun _ _ => rel_nil) (rel_all us [[]] [([], none)] hu (.cons rel_start .nil))
  have e : markedP us = markS (us.foldl markS [[]]) [] := by
    unfold markedP markN
    rw [List.foldl_append]; rfl
  unfold restsM
  rw [e]
  unfold ssN
  generalize markS (us.foldl markS [[]]) [] = ts at h
  generalize nextS (us.foldl nextS [([], none)]) [] = ss at h
  induction h with
  | nil => rfl
  | cons r _ ih => rw [List.map_cons, List.map_cons, ih, rel_strip r]

/-- the sub-rows, and those with a mark -/
def subN (us : List (List Nat)) : Nat → List (List Nat)
  | 0 => [[]]
  | i + 1 => subN us i ++ (subN us i).map (· ++ us.getD i [])
def oneN (us : List (List Nat)) : Nat → List (List Nat)
  | 0 => [[34] ++ us.flatten]
  | i + 1 => (subN us i).map (fun t => t ++ us.getD i [] ++ behindOf us i) ++ oneN us i
theorem perm_pairs {α β : Type} {h : α → List β} {f g : α → β} (hp : ∀ a, (h a).Perm [f a, g a]) : ∀ l : List α, (l.flatMap h).Perm (l.map f ++ l.map g)
  | [] => .nil
  | a :: l => by
    rw [List.flatMap_cons, List.map_cons, List.map_cons]
    refine ((hp a).append (perm_pairs hp l)).trans ?_
    show (f a :: (g a :: (l.map f ++ l.map g))).Perm (f a :: (l.map f ++ g a :: l.map g))
    exact .cons _ (List.perm_middle.symm)
theorem ssN_succ {us : List (List Nat)} {i : Nat} (hi : i < us.length) : ssN (us.take (i + 1)) = nextS (ssN (us.take i)) (us.getD i []) := by
  unfold ssN
  have e : us[i]? = some (us.getD i []) := by rw [List.getD_eq_getElem?_getD, List.getElem?_eq_getElem hi]; rfl
  rw [List.take_add_one, e, List.foldl_append]; rfl
theorem drop_flat {us : List (List Nat)} {i : Nat} (hi : i < us.length) : (us.drop i).flatten = us.getD i [] ++ (us.drop (i + 1)).flatten := by
  rw [List.drop_eq_getElem_cons hi, List.flatten_cons, List.getD_eq_getElem?_getD, List.getElem?_eq_getElem hi]; rfl
theorem ss_perm (us : List (List Nat)) : ∀ i, i ≤ us.length → ((ssN (us.take i)).map (·.1)).Perm (subN us i) ∧ ((ssN (us.take i)).map (fun s => s.1 ++ [34] ++ pendS s ++ (us.drop i).flatten)).Perm (oneN us i)
  | 0, _ => ⟨by rw [List.take_zero]; exact .refl _, by rw [List.take_zero]; simp [ssN, oneN, pendS]⟩
  | i + 1, hi => by
    obtain ⟨h1, h2⟩ := ss_perm us i (by omega)
    rw [ssN_succ (by omega)]
    generalize hu : us.getD i [] = u
    generalize hss : ssN (us.take i) = ss at h1 h2
    constructor
    · unfold nextS
      rw [List.map_flatMap]
      refine (perm_pairs (f := fun s : QS => s.1) (g := fun s : QS => s.1 ++ u) (fun s => ?_) ss).trans ?_
      · obtain ⟨t, o⟩ := s
        cases o with
        | none => exact .swap _ _ _
        | some p => exact .refl _
      · show List.Perm _ (subN us i ++ (subN us i).map (· ++ us.getD i []))
        rw [hu]
        refine h1.append ?_
        have := h1.map (· ++ u)
        rw [List.map_map] at this
        exact this
    · unfold nextS
      rw [List.map_flatMap]
      refine (perm_pairs (f := fun s : QS => s.1 ++ u ++ behindOf us i) (g := fun s : QS => s.1 ++ [34] ++ pendS s ++ (us.drop i).flatten) (fun s => ?_) ss).trans ?_
      · rw [drop_flat (i := i) (by omega), hu]
        obtain ⟨t, o⟩ := s
        cases o with
        | none =>
          simp only [List.map_cons, List.map_nil, uS, mS, pendS, behindOf]
          simp
        | some p =>
          simp only [List.map_cons, List.map_nil, uS, mS, pendS, behindOf]
          simp only [List.append_assoc, List.append_nil, List.nil_append]
          exact .swap _ _ _
      · show List.Perm _ ((subN us i).map (fun t => t ++ us.getD i [] ++ behindOf us i) ++ oneN us i)
        rw [hu]
        refine List.Perm.append ?_ h2
        have := h1.map (fun t => t ++ u ++ behindOf us i)
        rw [List.map_map] at this
        exact this
theorem rests_perm (us : List (List Nat)) (hu : ∀ u ∈ us, Cu u) : (restsM us).Perm (subN us us.length ++ oneN us us.length) := by
  rw [rests_eq us hu]
  obtain ⟨h1, h2⟩ := ss_perm us us.length (Nat.le_refl _)
  rw [List.take_length] at h1 h2
  rw [List.drop_length] at h2
  unfold nextS
  rw [List.map_flatMap]
  refine (perm_pairs (f := fun s : QS => s.1) (g := fun s : QS => s.1 ++ [34] ++ pendS s ++ ([] : List (List Nat)).flatten) (fun s => ?_) (ssN us)).trans (h1.append h2)
  obtain ⟨t, o⟩ := s
  cases o with
  | none => simp [uS, mS, outS, pendS]
  | some p =>
    simp only [List.map_cons, List.map_nil, uS, mS, outS, pendS, List.append_nil, List.flatten_nil]
    exact .swap _ _ _
end Mine

namespace Mine
/-- what a dict of counts tells -/
def rep (n : Nat) : Option Int := if n = 0 then none else some (n : Int)
theorem getP_nil (t : List Nat) : getP [] t = none := rfl
theorem getP_cons (p : List Nat × Int) (ps : PL) (t : List Nat) : getP (p :: ps) t = if p.1 = t then some p.2 else getP ps t := by
  unfold getP
  rw [List.find?_cons]
  by_cases h : p.1 = t
  · have e : (p.1 == t) = true := by rw [h]; exact beq_self_eq_true _
    rw [if_pos h, e]; rfl
  · rw [if_neg h, beq_eq_false_iff_ne.mpr h]
theorem getP_mem {ps : PL} {t : List Nat} : getP ps t ≠ none ↔ t ∈ ps.map (·.1) := by
  induction ps with
  | nil => simp [getP]
  | cons p ps ih =>
    rw [getP_cons, List.map_cons, List.mem_cons]
    by_cases h : p.1 = t
    · rw [if_pos h]; simp [h]
    · rw [if_neg h, ih]
      constructor
      · exact .inr
      · rintro (q | q)
        · exact absurd q.symm h
        · exact q
theorem getP_setP (ps : PL) (k : List Nat) (n : Int) (t : List Nat) : getP (setP ps k n) t = if k = t then some n else getP ps t := by
  unfold setP
  by_cases ha : ps.any (fun p => p.1 == k) = true
  · rw [if_pos ha]
    induction ps with
    | nil => simp at ha
    | cons p ps ih =>
      rw [List.map_cons, getP_cons, getP_cons]
      by_cases hp : p.1 = k
      · have e : (p.1 == k) = true := by rw [hp]; exact beq_self_eq_true _
        rw [if_pos e]
        by_cases hk : k = t
        · rw [if_pos (by rw [← hk]; exact hp), if_pos hk]
        · rw [if_neg (by show ¬ p.1 = t; rw [hp]; exact hk), if_neg hk, if_neg (by rw [hp]; exact hk)]
          by_cases hr : ps.any (fun p => p.1 == k) = true
          · rw [ih hr, if_neg hk]
          · congr 1
            clear ih ha
            induction ps with
            | nil => rfl
            | cons q ps ih2 =>
              rw [List.any_cons, Bool.or_eq_true, not_or] at hr
              rw [List.map_cons, if_neg hr.1, ih2 hr.2]
      · have e : ¬ (p.1 == k) = true := by rw [beq_iff_eq]; exact hp
        rw [if_neg e]
        rw [List.any_cons, Bool.or_eq_true] at ha
        have hr := ha.resolve_left e
        rw [ih hr]
        by_cases hk : k = t
        · rw [if_neg (by rw [← hk]; exact hp), if_pos hk, if_pos hk]
        · rw [if_neg hk]; simp [hk]
  · rw [if_neg ha]
    induction ps with
    | nil => rw [List.nil_append, getP_cons]
    | cons p ps ih =>
      rw [List.any_cons, Bool.or_eq_true, not_or] at ha
      have hp : ¬ p.1 = k := fun q => ha.1 (by rw [q]; exact beq_self_eq_true _)
      rw [List.cons_append, getP_cons, getP_cons, ih ha.2]
      by_cases hk : k = t
      · rw [if_neg (by rw [← hk]; exact hp), if_pos hk, if_pos hk]
      · rw [if_neg hk]; simp [hk]
theorem setP_keys (ps : PL) (k : List Nat) (n : Int) (h : (ps.map (·.1)).Nodup) : ((setP ps k n).map (·.1)).Nodup := by
  unfold setP
  split
  · have e : (ps.map (fun p => if p.1 == k then (p.1, n) else p)).map (·.1) = ps.map (·.1) := by
      rw [List.map_map]
      apply List.map_congr_left
      intro p _
      show (if (p.1 == k) = true then (p.1, n) else p).1 = p.1
      split <;> rfl
    rw [e]; exact h
  · rename_i ha
    rw [List.map_append, List.nodup_append]
    refine ⟨h, by simp, ?_⟩
    intro a ha' b hb q
    simp at hb
    subst hb q
    apply ha
    rw [List.any_eq_true]
    obtain ⟨p, hp, e⟩ := List.mem_map.mp ha'
    exact ⟨p, hp, by rw [e]; exact beq_self_eq_true _⟩
theorem stepIn_nodup (u b : List Nat) : ∀ (ts : PL) (st : PL × PL), (st.2.map (·.1)).Nodup → ((ts.foldl (stepIn u b) st).2.map (·.1)).Nodup
  | [], _, h => h
  | p :: ts, st, h => stepIn_nodup u b ts _ (setP_keys _ _ _ h)
theorem none_of_notin {ts : PL} {t u : List Nat} (h : ∀ k ∈ ts.map (·.1), k ++ u ≠ t) : ts.find? (fun p => p.1 ++ u == t) = none := by
  rw [List.find?_eq_none]
  intro p hp q
  exact h p.1 (List.mem_map.mpr ⟨p, hp, rfl⟩) (beq_iff_eq.mp q)
/-- the inner loop: what it adds to the table, and to what is due -/
theorem fold_grown (u b : List Nat) (t : List Nat) : ∀ (ts : PL) (st : PL × PL), (ts.map (·.1)).Nodup →
    getP (ts.foldl (stepIn u b) st).2 t = match ts.find? (fun p => p.1 ++ u == t) with | none => getP st.2 t | some p => some ((getP st.2 t).getD 0 + p.2)
  | [], _, _ => rfl
  | p :: ts, st, h => by
    rw [List.map_cons, List.nodup_cons] at h
    rw [List.foldl_cons, fold_grown u b t ts _ h.2, List.find?_cons]
    have e : getP (stepIn u b st p).2 t = if p.1 ++ u = t then some ((getP st.2 (p.1 ++ u)).getD 0 + p.2) else getP st.2 t := getP_setP _ _ _ _
    rw [e]
    by_cases hp : p.1 ++ u = t
    · have e2 : (p.1 ++ u == t) = true := by rw [hp]; exact beq_self_eq_true _
      rw [if_pos hp, e2, none_of_notin (fun k hk q => h.1 (by rw [← hp] at q; rw [← List.append_cancel_right q]; exact hk)), hp]
    · rw [if_neg hp, beq_eq_false_iff_ne.mpr hp]
theorem fold_due (u b : List Nat) (t : List Nat) : ∀ (ts : PL) (st : PL × PL), (ts.map (·.1)).Nodup →
    getP (ts.foldl (stepIn u b) st).1 t = match ts.find? (fun p => p.1 ++ (u ++ b) == t) with | none => getP st.1 t | some p => some p.2
  | [], _, _ => rfl
  | p :: ts, st, h => by
    rw [List.map_cons, List.nodup_cons] at h
    rw [List.foldl_cons, fold_due u b t ts _ h.2, List.find?_cons]
    have e : getP (stepIn u b st p).1 t = if p.1 ++ u ++ b = t then some p.2 else getP st.1 t := getP_setP _ _ _ _
    rw [e, List.append_assoc]
    by_cases hp : p.1 ++ (u ++ b) = t
    · have e2 : (p.1 ++ (u ++ b) == t) = true := by rw [hp]; exact beq_self_eq_true _
      rw [if_pos hp, e2, none_of_notin (fun k hk q => h.1 (by rw [← hp] at q; rw [← List.append_cancel_right q]; exact hk))]
    · rw [if_neg hp, beq_eq_false_iff_ne.mpr hp]
theorem getP_merge (t : List Nat) : ∀ (more ps : PL), (more.map (·.1)).Nodup → getP (mergeP ps more) t = match getP more t with | none => getP ps t | some n => some n
  | [], _, _ => rfl
  | p :: more, ps, h => by
    rw [List.map_cons, List.nodup_cons] at h
    have e : mergeP ps (p :: more) = mergeP (setP ps p.1 p.2) more := rfl
    rw [e, getP_merge t more _ h.2, getP_setP, getP_cons]
    by_cases hp : p.1 = t
    · have hn : getP more t = none := by
        cases q : getP more t with
        | none => rfl
        | some n => exact absurd (getP_mem.mp (by rw [q]; exact fun e => nomatch e)) (by rw [← hp]; exact h.1)
      rw [if_pos hp, if_pos hp, hn]
    · rw [if_neg hp, if_neg hp]
/-- counting what is longer by u -/
theorem count_app (u t : List Nat) (S : List (List Nat)) : (S.map (· ++ u)).count (t ++ u) = S.count t := by
  induction S with
  | nil => rfl
  | cons x S ih =>
    rw [List.map_cons, List.count_cons, List.count_cons, ih]
    congr 1
    by_cases h : x = t
    · rw [h]; simp
    · rw [if_neg (by rw [beq_iff_eq]; exact fun q => h (List.append_cancel_right q)), if_neg (by rw [beq_iff_eq]; exact h)]
theorem find_app (u t : List Nat) (ts : PL) : (ts.find? (fun p => p.1 ++ u == t ++ u)).map (·.2) = getP ts t := by
  unfold getP
  congr 2
  funext p
  rw [Bool.eq_iff_iff, beq_iff_eq, beq_iff_eq]
  exact ⟨fun q => List.append_cancel_right q, fun q => by rw [q]⟩
/-- a table that counts S: the pairs whose text, longer by u, is t -/
theorem find_rep {ts : PL} {S : List (List Nat)} (h : ∀ t, getP ts t = rep (S.count t)) (u t : List Nat) : (ts.find? (fun p => p.1 ++ u == t)).map (·.2) = rep ((S.map (· ++ u)).count t) := by
  by_cases he : ∃ t', t = t' ++ u
  · obtain ⟨t', rfl⟩ := he
    rw [find_app, count_app, h]
  · have h1 : ts.find? (fun p => p.1 ++ u == t) = none := none_of_notin fun k _ q => he ⟨k, q.symm⟩
    have h2 : (S.map (· ++ u)).count t = 0 := by
      rw [List.count_eq_zero]
      intro hm
      obtain ⟨x, _, q⟩ := List.mem_map.mp hm
      exact he ⟨x, q.symm⟩
    rw [h1, h2]; rfl
theorem table_rep (us : List (List Nat)) : ∀ i, ((dueN us i).2.map (·.1)).Nodup ∧ ∀ t, getP (dueN us i).2 t = rep ((subN us i).count t)
  | 0 => ⟨by simp [dueN], fun t => by
      show getP [([], 1)] t = rep (([[]] : List (List Nat)).count t)
      rw [getP_cons, List.count_cons, getP_nil]
      by_cases h : ([] : List Nat) = t
      · subst h; rfl
      · rw [if_neg h, if_neg (by rw [beq_iff_eq]; exact h)]; rfl⟩
  | i + 1 => by
    obtain ⟨h1, h2⟩ := table_rep us i
    have e : dueN us (i + 1) = (dueN us i).2.foldl (stepIn (us.getD i []) (behindOf us i)) (dueN us i) := rfl
    have e' : subN us (i + 1) = subN us i ++ (subN us i).map (· ++ us.getD i []) := rfl
    refine ⟨by rw [e]; exact stepIn_nodup _ _ _ _ h1, fun t => ?_⟩
    rw [e, e', fold_grown _ _ _ _ _ h1, List.count_append, h2 t]
    have h3 := find_rep h2 (us.getD i []) t
    generalize ((subN us i).map (· ++ us.getD i [])).count t = n at h3
    generalize (subN us i).count t = m
    cases q : (dueN us i).2.find? (fun p => p.1 ++ us.getD i [] == t) with
    | none =>
      rw [q] at h3
      have hn : n = 0 := by
        unfold rep at h3
        split at h3
        · assumption
        · cases h3
      rw [hn]; rfl
    | some p =>
      rw [q] at h3
      have hn : n ≠ 0 ∧ p.2 = n := by
        unfold rep at h3
        split at h3
        · cases h3
        · rename_i hz
          refine ⟨hz, ?_⟩
          simpa using h3
      show some ((rep m).getD 0 + p.2) = rep (m + n)
      unfold rep
      rw [if_neg (show ¬ m + n = 0 by omega), hn.2]
      congr 1
      by_cases hm : m = 0
      · rw [if_pos hm, hm]; simp
      · rw [if_neg hm]; simp
theorem getD_unit {us : List (List Nat)} (hu : ∀ u ∈ us, Cu u) {i : Nat} (hi : i < us.length) : Cu (us.getD i []) := by
  rw [List.getD_eq_getElem?_getD, List.getElem?_eq_getElem hi]
  exact hu _ (List.getElem_mem hi)
theorem flat_aft {us : List (List Nat)} (hu : ∀ u ∈ us, Cu u) : ∀ x, aft (us.flatten ++ x) = aft x := by
  induction us with
  | nil => intro x; rfl
  | cons u us ih =>
    intro x
    rw [List.flatten_cons, List.append_assoc, (hu u (.head _)).aft, ih fun v hv => hu v (.tail _ hv)]
theorem flat_no {us : List (List Nat)} (hu : ∀ u ∈ us, Cu u) : 98 ∉ us.flatten := by
  intro hm
  obtain ⟨u, h1, h2⟩ := List.mem_flatten.mp hm
  exact (hu u h1).no h2
theorem sub_aft {us : List (List Nat)} (hu : ∀ u ∈ us, Cu u) : ∀ i, i ≤ us.length → ∀ t ∈ subN us i, (∀ x, aft (t ++ x) = aft x) ∧ 98 ∉ t
  | 0, _, t, ht => by
    rw [List.mem_singleton.mp ht]
    exact ⟨fun x => rfl, by simp⟩
  | i + 1, hi, t, ht => by
    have ih := sub_aft hu i (by omega)
    rcases List.mem_append.mp ht with ht | ht
    · exact ih t ht
    · obtain ⟨t', ht', rfl⟩ := List.mem_map.mp ht
      have c := getD_unit hu (i := i) (by omega)
      refine ⟨fun x => by rw [List.append_assoc, (ih t' ht').1, c.aft], fun hm => ?_⟩
      rcases List.mem_append.mp hm with hm | hm
      · exact (ih t' ht').2 hm
      · exact c.no hm
theorem sub_behind {us : List (List Nat)} (hu : ∀ u ∈ us, Cu u) {i : Nat} (hi : i < us.length) {t : List Nat} (ht : t ∈ subN us i) : aft (t ++ us.getD i [] ++ behindOf us i) = some (us.drop (i + 1)).flatten := by
  rw [List.append_assoc, (sub_aft hu i (by omega) t ht).1, (getD_unit hu hi).aft]
  exact aft_mark _
theorem one_aft {us : List (List Nat)} (hu : ∀ u ∈ us, Cu u) : ∀ i, i ≤ us.length → ∀ t ∈ oneN us i, (∃ r, aft t = some r ∧ (us.drop i).flatten.length ≤ r.length) ∧ 98 ∉ t
  | 0, _, t, ht => by
    rw [List.mem_singleton.mp ht]
    refine ⟨⟨us.flatten, aft_mark _, by rw [List.drop_zero]; exact Nat.le_refl _⟩, fun hm => ?_⟩
    rcases List.mem_append.mp hm with hm | hm
    · simp at hm
    · exact flat_no hu hm
  | i + 1, hi, t, ht => by
    rcases List.mem_append.mp ht with ht | ht
    · obtain ⟨t', ht', rfl⟩ := List.mem_map.mp ht
      refine ⟨⟨_, sub_behind hu (by omega) ht', Nat.le_refl _⟩, fun hm => ?_⟩
      rcases List.mem_append.mp hm with hm | hm
      · rcases List.mem_append.mp hm with hm | hm
        · exact (sub_aft hu i (by omega) t' ht').2 hm
        · exact (getD_unit hu (by omega)).no hm
      · rcases List.mem_append.mp hm with hm | hm
        · simp at hm
        · exact flat_no (fun u h => hu u (List.mem_of_mem_drop h)) hm
    · obtain ⟨⟨r, h1, h2⟩, h3⟩ := one_aft hu i (by omega) t ht
      refine ⟨⟨r, h1, ?_⟩, h3⟩
      rw [drop_flat (by omega), List.length_append] at h2
      omega
theorem due_rep {us : List (List Nat)} (hu : ∀ u ∈ us, Cu u) : ∀ i, i ≤ us.length → ∀ t, getP (dueN us i).1 t = rep ((oneN us i).count t)
  | 0, _, t => by
    show getP [([34] ++ us.flatten, 1)] t = rep (([[34] ++ us.flatten] : List (List Nat)).count t)
    rw [getP_cons, List.count_cons, getP_nil]
    by_cases h : [34] ++ us.flatten = t
    · rw [if_pos h, if_pos (by rw [beq_iff_eq]; exact h)]; rfl
    · rw [if_neg h, if_neg (by rw [beq_iff_eq]; exact h)]; rfl
  | i + 1, hi, t => by
    have ih := due_rep hu i (by omega) t
    obtain ⟨h1, h2⟩ := table_rep us i
    have e : dueN us (i + 1) = (dueN us i).2.foldl (stepIn (us.getD i []) (behindOf us i)) (dueN us i) := rfl
    have e' : oneN us (i + 1) = (subN us i).map (· ++ (us.getD i [] ++ behindOf us i)) ++ oneN us i := by
      show (subN us i).map (fun t => t ++ us.getD i [] ++ behindOf us i) ++ oneN us i = _
      congr 1
      apply List.map_congr_left
      intro t _
      exact List.append_assoc ..
    rw [e, e', fold_due _ _ _ _ _ h1, List.count_append, ih]
    have h3 := find_rep h2 (us.getD i [] ++ behindOf us i) t
    have h4 : ((subN us i).map (· ++ (us.getD i [] ++ behindOf us i))).count t ≠ 0 → (oneN us i).count t = 0 := by
      intro hn
      have hm : t ∈ (subN us i).map (· ++ (us.getD i [] ++ behindOf us i)) := by
        by_cases q : t ∈ (subN us i).map (· ++ (us.getD i [] ++ behindOf us i))
        · exact q
        · exact absurd (List.count_eq_zero.mpr q) hn
      obtain ⟨t', ht', q⟩ := List.mem_map.mp hm
      rw [List.count_eq_zero]
      intro hm2
      obtain ⟨⟨r, h5, h6⟩, _⟩ := one_aft hu i (by omega) t hm2
      have h7 := sub_behind hu (by omega) ht'
      rw [List.append_assoc, q, h5] at h7
      cases h7
      rw [drop_flat (by omega), List.length_append] at h6
      have := (getD_unit hu (i := i) (by omega)).pos
      omega
    generalize ((subN us i).map (· ++ (us.getD i [] ++ behindOf us i))).count t = n at h3 h4
    generalize (oneN us i).count t = m at h4
    cases q : (dueN us i).2.find? (fun p => p.1 ++ (us.getD i [] ++ behindOf us i) == t) with
    | none =>
      rw [q] at h3
      have hn : n = 0 := by
        unfold rep at h3
        split at h3
        · assumption
        · cases h3
      rw [hn, Nat.zero_add]
    | some p =>
      rw [q] at h3
      have hn : n ≠ 0 := fun hz => by rw [hz] at h3; cases h3
      rw [h4 hn, Nat.add_zero, ← h3]; rfl
theorem getP_due {us : List (List Nat)} (hu : ∀ u ∈ us, Cu u) (t : List Nat) : getP (dueP us) t = rep ((subN us us.length ++ oneN us us.length).count t) := by
  obtain ⟨h1, h2⟩ := table_rep us us.length
  have h3 := due_rep hu us.length (Nat.le_refl _) t
  unfold dueP
  rw [getP_merge _ _ _ h1, h2, h3, List.count_append]
  by_cases hs : t ∈ subN us us.length
  · have e : (oneN us us.length).count t = 0 := by
      rw [List.count_eq_zero]
      intro hm
      obtain ⟨⟨r, h5, _⟩, _⟩ := one_aft hu us.length (Nat.le_refl _) t hm
      have h6 := (sub_aft hu us.length (Nat.le_refl _) t hs).1 []
      rw [List.append_nil, h5] at h6
      cases h6
    have hn : (subN us us.length).count t ≠ 0 := fun q => List.count_eq_zero.mp q hs
    rw [e, Nat.add_zero]
    unfold rep
    rw [if_neg hn]
  · rw [List.count_eq_zero.mpr hs, Nat.zero_add]; rfl
end Mine

namespace Mine
theorem dedup_facts (xs : List (List Nat)) : (dedup xs).Nodup ∧ ∀ t, t ∈ dedup xs ↔ t ∈ xs := by
  have key : ∀ (xs acc : List (List Nat)), acc.Nodup → (xs.foldl dedupStep acc).Nodup ∧ ∀ t, t ∈ xs.foldl dedupStep acc ↔ t ∈ acc ∨ t ∈ xs := by
    intro xs
    induction xs with
    | nil => intro acc h; exact ⟨h, fun t => by simp⟩
    | cons x xs ih =>
      intro acc h
      rw [List.foldl_cons]
      unfold dedupStep at *
      by_cases hx : acc.contains x = true
      · rw [if_pos hx]
        obtain ⟨h1, h2⟩ := ih acc h
        refine ⟨h1, fun t => ?_⟩
        rw [h2, List.mem_cons]
        have hx' : x ∈ acc := by simpa using hx
        constructor
        · rintro (q | q)
          · exact .inl q
          · exact .inr (.inr q)
        · rintro (q | q | q)
          · exact .inl q
          · exact .inl (q ▸ hx')
          · exact .inr q
      · rw [if_neg hx]
        have hx' : x ∉ acc := by simpa using hx
        obtain ⟨h1, h2⟩ := ih (acc ++ [x]) (by
          rw [List.nodup_append]
          refine ⟨h, by simp, fun a ha b hb q => ?_⟩
          rw [List.mem_singleton.mp hb] at q
          exact hx' (q ▸ ha))
        refine ⟨h1, fun t => ?_⟩
        rw [h2, List.mem_append, List.mem_singleton, List.mem_cons, or_assoc]
  obtain ⟨h1, h2⟩ := key xs [] List.nodup_nil
  exact ⟨h1, fun t => by rw [show dedup xs = xs.foldl dedupStep [] from rfl, h2]; simp⟩
theorem rm1_perm {d : List Nat} : ∀ {acc acc' : List (List Nat)}, rm1 d acc = some acc' → acc.Perm (d :: acc')
  | [], _, h => nomatch h
  | a :: r, acc', h => by
    unfold rm1 at h
    by_cases q : (a == d) = true
    · rw [if_pos q] at h
      cases h
      rw [beq_iff_eq.mp q]
    · rw [if_neg q] at h
      obtain ⟨r', hr, e⟩ := Option.map_eq_some_iff.mp h
      subst e
      exact ((rm1_perm hr).cons a).trans (.swap _ _ _)
theorem rmAll_cons (x : List Nat) (xs ys : List (List Nat)) : rmAll (x :: xs) ys = (rm1 x ys).bind (rmAll xs) := by
  unfold rmAll
  rw [List.foldlM_cons]; rfl
theorem rmAll_perm : ∀ {xs ys r : List (List Nat)}, rmAll xs ys = some r → ys.Perm (xs ++ r)
  | [], ys, r, h => by cases h; exact .refl _
  | x :: xs, ys, r, h => by
    rw [rmAll_cons] at h
    cases q : rm1 x ys with
    | none => rw [q] at h; cases h
    | some ys' =>
      rw [q] at h
      exact (rm1_perm q).trans ((rmAll_perm h).cons x)
theorem rmAll_there : ∀ {xs ys : List (List Nat)}, xs.Nodup → (∀ x ∈ xs, x ∈ ys) → ∃ r, rmAll xs ys = some r
  | [], ys, _, _ => ⟨ys, rfl⟩
  | x :: xs, ys, hn, h => by
    rw [List.nodup_cons] at hn
    rw [rmAll_cons]
    cases q : rm1 x ys with
    | none => exact absurd rfl (rm1_none q x (h x (.head _)))
    | some ys' =>
      refine rmAll_there hn.2 fun z hz => ?_
      rcases List.mem_cons.mp ((rm1_perm q).mem_iff.mp (h z (.tail _ hz))) with e | e
      · exact absurd (e ▸ hz) hn.1
      · exact e
theorem cmp_true {xs ys : List (List Nat)} (h : ∀ t, t ∈ xs ↔ t ∈ ys) : cmpP xs ys = true := by
  obtain ⟨n1, m1⟩ := dedup_facts xs
  obtain ⟨n2, m2⟩ := dedup_facts ys
  obtain ⟨r, hr⟩ := rmAll_there n1 fun t ht => (m2 t).mpr ((h t).mp ((m1 t).mp ht))
  unfold cmpP
  rw [hr]
  have hp := rmAll_perm hr
  cases r with
  | nil => rfl
  | cons z r =>
    have hz : z ∈ dedup xs := (m1 z).mpr ((h z).mpr ((m2 z).mp (hp.mem_iff.mpr (List.mem_append_right _ (.head _)))))
    have hn := hp.nodup_iff.mp n2
    rw [List.nodup_append] at hn
    exact absurd rfl (hn.2.2 z hz z (.head _))
theorem cmp_mem {xs ys : List (List Nat)} (h : cmpP xs ys = true) : ∀ t, t ∈ xs ↔ t ∈ ys := by
  obtain ⟨n1, m1⟩ := dedup_facts xs
  obtain ⟨n2, m2⟩ := dedup_facts ys
  unfold cmpP at h
  cases q : rmAll (dedup xs) (dedup ys) with
  | none => rw [q] at h; cases h
  | some r =>
    rw [q] at h
    have hr : r = [] := by simpa using h
    have hp := rmAll_perm q
    rw [hr, List.append_nil] at hp
    intro t
    rw [← m1, ← m2, hp.mem_iff]
theorem cmp_false {xs ys : List (List Nat)} {t : List Nat} (h : ¬ (t ∈ xs ↔ t ∈ ys)) : cmpP xs ys = false := by
  cases q : cmpP xs ys with
  | false => rfl
  | true => exact absurd (cmp_mem q t) h
theorem good_of {us : List (List Nat)} (hu : ∀ u ∈ us, Cu u) (hul : ∀ u ∈ us, u.length ≤ 2) (h5 : us.length ≤ 5) : Good us := by
  have hp := rests_perm us hu
  have hc : ∀ t, getP (dueP us) t = rep ((restsM us).count t) := fun t => by rw [getP_due hu, hp.count_eq]
  have hk : ∀ t, t ∈ (dueP us).map (·.1) ↔ t ∈ restsM us := fun t => by
    rw [← getP_mem, hc]
    unfold rep
    constructor
    · intro h
      by_cases q : t ∈ restsM us
      · exact q
      · rw [if_pos (List.count_eq_zero.mpr q)] at h; exact absurd rfl h
    · intro h
      rw [if_neg (fun q => List.count_eq_zero.mp q h)]
      exact fun e => nomatch e
  obtain ⟨n1, m1⟩ := dedup_facts (restsM us)
  have hb : [98] ∉ restsM us := fun h => by
    rcases List.mem_append.mp (hp.mem_iff.mp h) with h | h
    · exact (sub_aft hu us.length (Nat.le_refl _) _ h).2 (.head _)
    · exact (one_aft hu us.length (Nat.le_refl _) _ h).2 (.head _)
  have hne : ∃ z zs, dedup (restsM us) = z :: zs := by
    have h1 : [34] ++ us.flatten ∈ restsM us := hp.mem_iff.mpr (List.mem_append_right _ (by
      have key : ∀ i, [34] ++ us.flatten ∈ oneN us i := fun i => by
        induction i with
        | zero => exact .head _
        | succ i ih => exact List.mem_append_right _ ih
      exact key _))
    cases q : dedup (restsM us) with
    | nil => have := (m1 _).mpr h1; rw [q] at this; cases this
    | cons z zs => exact ⟨z, zs, rfl⟩
  obtain ⟨z, zs, hz⟩ := hne
  refine ⟨?_, fun t ht => ?_, cmp_true fun t => (hk t).symm, cmp_true hk, ?_, ?_, ?_⟩
  · have hm : ∀ u ∈ us ++ [[]], u.length ≤ 2 := fun u hu => by
      rcases List.mem_append.mp hu with hu | hu
      · exact hul u hu
      · rw [List.mem_singleton.mp hu]; decide
    have h1 := (markN_facts (us ++ [[]]) hm).1
    have h2 : (us ++ [[]]).length ≤ 6 := by rw [List.length_append]; show us.length + 1 ≤ 6; omega
    show ((markN (us ++ [[]])).map stripP).length ≤ 500
    rw [List.length_map, h1]
    exact Nat.le_trans (Nat.pow_le_pow_right (by decide) h2) (by decide)
  · rw [hc]
    unfold rep
    rw [if_neg (fun q => List.count_eq_zero.mp q ((m1 t).mp ht))]
    rfl
  · exact cmp_false (t := [98]) fun h => hb (h.mp (List.mem_append_right _ (.head _)))
  · refine cmp_false (t := z) fun h => ?_
    have h1 : z ∈ restsM us := (m1 z).mp (by rw [hz]; exact .head _)
    have h2 := h.mp h1
    rw [hz] at h2 n1
    exact (List.nodup_cons.mp n1).1 h2
  · generalize hd : dedup (restsM us) = ds at n1 m1 hz
    have hl : 0 < ds.length := by rw [hz]; exact Nat.succ_pos _
    have hlt : ds.length - 1 < ds.length := by omega
    refine cmp_false (t := ds[ds.length - 1]) fun h => ?_
    have h1 : ds[ds.length - 1] ∈ restsM us := (m1 _).mp (List.getElem_mem hlt)
    have h2 := h.mpr h1
    have e : ds = ds.take (ds.length - 1) ++ [ds[ds.length - 1]] := by
      have e1 := (List.take_append_drop (ds.length - 1) ds).symm
      rw [List.drop_eq_getElem_cons hlt, List.drop_eq_nil_of_le (by omega)] at e1
      exact e1
    rw [e, List.nodup_append] at n1
    exact n1.2.2 _ h2 _ (.head _) rfl
theorem good_row (ks : List Nat) (h5 : ks.length ≤ 5) (hk : ∀ k ∈ ks, k < 3) : Good (ks.map unitOf) := by
  refine good_of (fun u hu => ?_) (fun u hu => ?_) (by rw [List.length_map]; exact h5)
  · obtain ⟨k, h1, rfl⟩ := List.mem_map.mp hu
    exact cu_unit k (hk k h1)
  · obtain ⟨k, h1, rfl⟩ := List.mem_map.mp hu
    exact unitOf_len k
end Mine

namespace Mine
set_option maxHeartbeats 2000000 in
theorem go : PySem.Challenge.rw_ny0046_02.Holds := by
  refine hd ?_
  intro w s₀ s₁ mg mb G Y a o pm cd doc dV kV ho hd' hcd hD hmg hg args vals as hpre hlay hrd hwl hlo
  have KX := kIn_of Y
  refine Ground.open G ?_
  intro T B D TE TW
  clear hd' hcd hD D TE TW B
  wrow_args hpre hlay hrd hwl hlo
  rename_i ns _ _ _ _ _ _ _ la vs _ hl _ _ _ hi _ hc _
  have X : Wd w mg mb s₁.heap := { kin := KX, g := T.g, b := T.b, nl := T.nolimit, bt := T.builtins }
  have ha : a = 72 := by
    have h1 : mg "law" = some (.ref a) := hmg
    have h2 : mg "law" = some (.ref 72) := (glob_of X.toWld rfl rfl _).trans rfl
    rw [h1] at h2
    injection h2 with h2
    injection h2
  subst ha
  have hv : isIL ns (vw [] s₁.heap) (.ref la) := by
    obtain ⟨o, ho, hcl, n, hdt⟩ := hl
    exact ⟨la, vs, o, n, rfl, vw_of (fun h => nomatch h) ho, hcl, hdt, hi⟩
  refine wpAny_mono (law_spec (fun ks _ h5 hk => good_row ks h5 hk) X hv (by omega)) (fun r s' ⟨st, e⟩ => ?_) fun _ _ x => x.elim
  subst e
  refine ⟨.inl ⟨_, _, [], rfl, raisesW_false ?hn, ReadsW.bool true, ?hp, fun _ => ⟨List.nodup_nil, fun _ h => nomatch h⟩⟩, .of_keep st.all, st.os, st.bare ?hb⟩
  case hn => wrow_none_raised
  case hp => wrow_post
  case hb => exact .of_eq hg
end Mine

theorem PySem.Challenge.cw_ny0046_02_holds : PySem.Challenge.rw_ny0046_02.Holds := by
  exact Mine.go
