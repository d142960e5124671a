import PyProof.Rows.All
import Wide.All
import OpenK.AllK
import Wide.FinOn
import PySem.Challenge.RW_dn0275_01
set_option Elab.async false
namespace Mine
section
open PySem PySem.W PyProof.Rows
/-- plain Python data -/
inductive D where
  | none
  | bool (b : Bool)
  | int (i : Int)
  | str (x : Str)
  | list (ds : List D)
  | tup (ds : List D)
  | dict (ks : List Str) (ds : List D)
  | fn (a : Addr)
  | rng (a b : Int)
  | slc (lo hi : Option Int)
  | bytes (b : Array UInt8)
  | fstr (x : Str)
  | ostr (x : Str)

abbrev Zf := Addr → Option Obj

/-- what is fixed while the law runs -/
structure Gnd where
  prog : Program
  w : World
  K : Frag
  p : Program
  loose : List Str
  mg : Str → Option Value
  mb : Str → Option Value
  base : Heap
  os : OsState
  X : K.In base
  T : TopRead p loose mg mb base
  nb : NoneBooked base
  t0 : Nat

mutual
/-- the value v is the datum d, as the frozen objects Z tell it -/
inductive Rep (G : Gnd) (Z : Zf) : Value → D → Prop
  | none : Rep G Z .none .none
  | bool (b : Bool) : Rep G Z (.bool b) (.bool b)
  | int (i : Int) (t : Tok) : Rep G Z (.int i t) (.int i)
  | str (x : Str) (t : Tok) : Rep G Z (.str x t) (.str x)
  | list {a : Addr} {vs : List Value} {n : Nat} {ds : List D} : Z a = some (listOf vs.toArray n) → RepAll G Z vs ds → Rep G Z (.ref a) (.list ds)
  | tup {a : Addr} {vs : List Value} {n : Nat} {ds : List D} : Z a = some { cls := .type "tuple", data := .seq vs.toArray n } → RepAll G Z vs ds → Rep G Z (.ref a) (.tup ds)
  | dict {a : Addr} {o : Obj} {kvs : List (Str × Value)} {ds : List D} : Z a = some o → (a == sysModules) = false → o.IsDictOf (strKind G.prog G.w) kvs →
      RepAll G Z (kvs.map (·.2)) ds → Rep G Z (.ref a) (.dict (kvs.map (·.1)) ds)
  | fn (a : Addr) : Rep G Z (.ref a) (.fn a)
  | rng {x : Addr} {a b : Int} {t u v : Tok} : Z x = some { cls := .type "range", data := .fields #[.int a t, .int b u, .int 1 v] } → Rep G Z (.ref x) (.rng a b)
  | slc {x : Addr} {vl vu : Value} {lo hi : Option Int} : Z x = some { cls := .type "slice", data := .fields #[vl, vu, .none] } → IsPart vl lo → IsPart vu hi → Rep G Z (.ref x) (.slc lo hi)
  | bytes (b : Array UInt8) (t : Tok) : Rep G Z (.bytes b t) (.bytes b)
  | fstr (x : Str) (t : Tok) : G.t0 < t → Rep G Z (.str x t) (.fstr x)
  | ostr (x : Str) (t : Tok) : 0 < t → t ≤ G.t0 → Rep G Z (.str x t) (.ostr x)
inductive RepAll (G : Gnd) (Z : Zf) : List Value → List D → Prop
  | nil : RepAll G Z [] []
  | cons {v : Value} {vs : List Value} {d : D} {ds : List D} : Rep G Z v d → RepAll G Z vs ds → RepAll G Z (v :: vs) (d :: ds)
end

def Zle (Z Z' : Zf) : Prop := ∀ a o, Z a = some o → Z' a = some o
theorem Zle.same {Z : Zf} : Zle Z Z := fun _ _ h => h
theorem Zle.trans {Z Z' Z'' : Zf} (a : Zle Z Z') (b : Zle Z' Z'') : Zle Z Z'' := fun x o h => b x o (a x o h)

mutual
theorem Rep.mono {G : Gnd} {Z Z' : Zf} (hz : Zle Z Z') : ∀ {v : Value} {d : D}, Rep G Z v d → Rep G Z' v d
  | _, _, .none => .none
  | _, _, .bool b => .bool b
  | _, _, .int i t => .int i t
  | _, _, .str x t => .str x t
  | _, _, .list h r => .list (hz _ _ h) (RepAll.mono hz r)
  | _, _, .tup h r => .tup (hz _ _ h) (RepAll.mono hz r)
  | _, _, .dict h hs hd r => .dict (hz _ _ h) hs hd (RepAll.mono hz r)
  | _, _, .fn a => .fn a
  | _, _, .rng h => .rng (hz _ _ h)
  | _, _, .slc h p q => .slc (hz _ _ h) p q
  | _, _, .bytes b t => .bytes b t
  | _, _, .fstr x t h => .fstr x t h
  | _, _, .ostr x t h h' => .ostr x t h h'
theorem RepAll.mono {G : Gnd} {Z Z' : Zf} (hz : Zle Z Z') : ∀ {vs : List Value} {ds : List D}, RepAll G Z vs ds → RepAll G Z' vs ds
  | _, _, .nil => .nil
  | _, _, .cons h r => .cons (Rep.mono hz h) (RepAll.mono hz r)
end

section
variable {G : Gnd} {Z : Zf}
theorem RepAll.length : ∀ {vs : List Value} {ds : List D}, RepAll G Z vs ds → vs.length = ds.length
  | _, _, .nil => rfl
  | _, _, .cons _ r => by rw [List.length_cons, List.length_cons, RepAll.length r]
theorem RepAll.append : ∀ {vs ws : List Value} {ds es : List D}, RepAll G Z vs ds → RepAll G Z ws es → RepAll G Z (vs ++ ws) (ds ++ es)
  | _, _, _, _, .nil, k => k
  | _, _, _, _, .cons h r, k => .cons h (RepAll.append r k)
theorem RepAll.get : ∀ {vs : List Value} {ds : List D}, RepAll G Z vs ds → ∀ {i : Nat} {d : D}, ds[i]? = some d → ∃ v, vs[i]? = some v ∧ Rep G Z v d
  | _, _, .nil, _, _, h => by simp at h
  | _, _, .cons h r, 0, _, e => by simp at e; subst e; exact ⟨_, rfl, h⟩
  | _, _, .cons _ r, i + 1, _, e => by simp at e; simpa using RepAll.get r e
end

/-- from Z, s to Z', s': nothing that stood is changed, what is newly frozen is new -/
structure Ext (Z : Zf) (s : Shared) (Z' : Zf) (s' : Shared) : Prop where
  le : Zle Z Z'
  keep : ∀ a o, s.heap.get? a = some o → s'.heap.get? a = some o
  zin : ∀ a o, Z' a = some o → s'.heap.get? a = some o
  new : ∀ a o, Z' a = some o → Z a = some o ∨ s.heap.get? a = none
  gens : s'.gens = s.gens
  os : s'.os = s.os
  tk : s.toks ≤ s'.toks

theorem Ext.same {Z : Zf} {s : Shared} (hz : ∀ a o, Z a = some o → s.heap.get? a = some o) : Ext Z s Z s := ⟨Zle.same, fun _ _ h => h, hz, fun _ _ h => .inl h, Eq.refl _, Eq.refl _, Nat.le_refl _⟩
theorem Ext.tok {Z : Zf} {s : Shared} (hz : ∀ a o, Z a = some o → s.heap.get? a = some o) {t : Nat} (ht : s.toks ≤ t) : Ext Z s Z { s with toks := t } := ⟨Zle.same, fun _ _ h => h, hz, fun _ _ h => .inl h, Eq.refl _, Eq.refl _, ht⟩
theorem Ext.trans {Z Z' Z'' : Zf} {s s' s'' : Shared} (x : Ext Z s Z' s') (y : Ext Z' s' Z'' s'') : Ext Z s Z'' s'' where
  le := x.le.trans y.le
  keep := fun a o h => y.keep a o (x.keep a o h)
  zin := y.zin
  new := fun a o h => by
    rcases y.new a o h with h | h
    · exact x.new a o h
    · cases q : s.heap.get? a with
      | none => exact .inr (Eq.refl _)
      | some ob => rw [x.keep a ob q] at h; cases h
  gens := y.gens.trans x.gens
  os := y.os.trans x.os
  tk := Nat.le_trans x.tk y.tk
/-- only the heap's keeping counts: Z stays -/
theorem Ext.back {Z Z₁ Z' : Zf} {s s' : Shared} (x : Ext Z₁ s Z' s') (hz : ∀ a o, Z a = some o → s.heap.get? a = some o) : Ext Z s Z s' :=
  ⟨Zle.same, x.keep, fun a o h => x.keep a o (hz a o h), fun _ _ h => .inl h, x.gens, x.os, x.tk⟩

def Zadd (Z : Zf) (a : Addr) (o : Obj) : Zf := fun b => if b = a then some o else Z b
theorem Zadd.self {Z : Zf} {a : Addr} {o : Obj} : Zadd Z a o a = some o := if_pos rfl
theorem Zadd.le {Z : Zf} {a : Addr} {o : Obj} (h : Z a = none) : Zle Z (Zadd Z a o) := fun b ob e => by
  unfold Zadd
  by_cases q : b = a
  · subst q; rw [h] at e; cases e
  · rw [if_neg q]; exact e

theorem get?_size_none (h : Heap) : h.get? h.objs.size = none := by
  cases q : h.get? h.objs.size with
  | none => rfl
  | some o => exact absurd (Heap.lt_size q) (Nat.lt_irrefl _)

/-- a new object, frozen at once -/
theorem Ext.alloc {Z : Zf} {s : Shared} {o : Obj} {t : Nat} (hz : ∀ a o, Z a = some o → s.heap.get? a = some o) (hf : o.isFreed = false) (ht : s.toks ≤ t) :
    Ext Z s (Zadd Z s.heap.objs.size o) { s with heap := s.heap.push o, toks := t } where
  le := Zadd.le (by
    cases q : Z s.heap.objs.size with
    | none => rfl
    | some ob => exact absurd (hz _ _ q) (by rw [get?_size_none]; intro h; cases h))
  keep := fun a ob h => Heap.get?_push_of_some _ h
  zin := fun a ob h => by
    unfold Zadd at h
    by_cases q : a = s.heap.objs.size
    · subst q; rw [if_pos rfl] at h; cases h; exact Heap.get?_push_size _ hf
    · rw [if_neg q] at h; exact Heap.get?_push_of_some _ (hz _ _ h)
  new := fun a ob h => by
    unfold Zadd at h
    by_cases q : a = s.heap.objs.size
    · subst q; exact .inr (get?_size_none _)
    · rw [if_neg q] at h; exact .inl h
  gens := rfl
  os := rfl
  tk := ht

end
section
open PySem PySem.W PyProof.Rows
/-- what a name stands for: a datum, or a list that the frame alone holds -/
inductive B where
  | val (d : D)
  | own (ds : List D)

abbrev Loc := List (Str × B)

abbrev upd (ρ : Loc) (x : Str) (b : B) : Loc := (x, b) :: ρ

theorem lookup_upd (ρ : Loc) (x z : Str) (b : B) : (upd ρ x b).lookup z = if z = x then some b else ρ.lookup z := by
  show List.lookup z ((x, b) :: ρ) = _
  rw [List.lookup_cons]
  by_cases h : z = x
  · rw [beq_iff_eq.mpr h, if_pos h]
  · rw [beq_eq_false_iff_ne.mpr h, if_neg h]

def Has (env : Env) (h : Heap) (x : Str) (v : Value) : Prop :=
  (env.kindOf x = some .local ∧ ∃ m, h.Ns env.locals m ∧ m x = some v) ∨
  ((env.kindOf x = some .cell ∨ (env.kindOf x = some .free ∧ (x == ("__classdict__" : Str)) = false)) ∧ ∃ c, env.cells.lookup x = some c ∧ h.IsCell c (some v))

theorem Has.keeps {env : Env} {h h' : Heap} {x : Str} {v : Value} (H : Has env h x v) (hk : ∀ b o, h.get? b = some o → h'.get? b = some o) : Has env h' x v := by
  rcases H with ⟨k, m, n, e⟩ | ⟨k, c, e, n⟩
  · exact .inl ⟨k, m, n.keeps hk, e⟩
  · exact .inr ⟨k, c, e, n.keeps hk⟩

theorem ns_uniq {h : Heap} {a : Addr} {m m' : Str → Option Value} (x : h.Ns a m) (y : h.Ns a m') : m = m' := by
  obtain ⟨o, es, ep, ho, hd, hk, hf⟩ := x
  obtain ⟨o', es', ep', ho', hd', hk', hf'⟩ := y
  rw [ho] at ho'; cases ho'
  rw [hd] at hd'; cases hd'
  funext n
  rw [← hf, ← hf']

/-- the state, as the frame sees it -/
structure St (G : Gnd) (env : Env) (Z H : Zf) (ρ : Loc) (s : Shared) : Prop where
  fk : env.scope.kind = .function
  gl : env.globals = mainGlobals
  bl : env.builtins = builtinsNs
  gens : s.gens = #[]
  os : s.os = G.os
  tk : G.t0 < s.toks
  zin : ∀ a o, Z a = some o → s.heap.get? a = some o
  hin : ∀ a o, H a = some o → s.heap.get? a = some o
  dj : ∀ a o, Z a = some o → H a = none
  bas : ∀ a o, G.base.get? a = some o → Z a = some o ∨ H a = some o
  ns : ∃ m, s.heap.Ns env.locals m
  lz : Z env.locals = none
  lh : H env.locals = none
  cells : ∀ x c, env.cells.lookup x = some c → c ≠ env.locals ∧ (env.func.isSome = true → Z c = none ∧ H c = none ∧ ∃ v, s.heap.IsCell c v) ∧ (env.func.isSome = false → ∃ o, H c = some o)
  inj : ∀ x y c, env.cells.lookup x = some c → env.cells.lookup y = some c → x = y
  vars : ∀ x d, ρ.lookup x = some (.val d) → ∃ v, Has env s.heap x v ∧ Rep G Z v d
  owns : ∃ oa : Str → Addr, (∀ x y ds es, ρ.lookup x = some (.own ds) → ρ.lookup y = some (.own es) → oa x = oa y → x = y) ∧
    ∀ x ds, ρ.lookup x = some (.own ds) → Has env s.heap x (.ref (oa x)) ∧ Z (oa x) = none ∧ H (oa x) = none ∧ oa x ≠ env.locals ∧ (∀ y c, env.cells.lookup y = some c → oa x ≠ c) ∧
      ∃ vs n, s.heap.get? (oa x) = some (listOf vs.toArray n) ∧ RepAll G Z vs ds

section
variable {G : Gnd} {env : Env} {Z Z' H : Zf} {ρ : Loc} {s s' : Shared}

theorem St.keepBase (S : St G env Z H ρ s) : ∀ a o, G.base.get? a = some o → s.heap.get? a = some o := fun a o h =>
  (S.bas a o h).elim (S.zin a o) (S.hin a o)
theorem St.X (S : St G env Z H ρ s) : G.K.In s.heap := fun a o h => S.keepBase a o (G.X a o h)
theorem St.T (S : St G env Z H ρ s) : TopRead G.p G.loose G.mg G.mb s.heap := G.T.keeps S.keepBase

theorem ext_none {a : Addr} (x : Ext Z s Z' s') (hz : Z a = none) (ho : ∃ o, s.heap.get? a = some o) : Z' a = none := by
  cases q : Z' a with
  | none => rfl
  | some o =>
    rcases x.new a o q with h | h
    · rw [hz] at h; cases h
    · obtain ⟨ob, e⟩ := ho; rw [h] at e; cases e

theorem St.ext (S : St G env Z H ρ s) (x : Ext Z s Z' s') : St G env Z' H ρ s' where
  fk := S.fk
  gl := S.gl
  bl := S.bl
  gens := x.gens.trans S.gens
  os := x.os.trans S.os
  tk := Nat.lt_of_lt_of_le S.tk x.tk
  zin := x.zin
  hin := fun a o h => x.keep a o (S.hin a o h)
  dj := fun a o h => by
    rcases x.new a o h with h | h
    · exact S.dj a o h
    · cases q : H a with
      | none => rfl
      | some ob => rw [S.hin a ob q] at h; cases h
  bas := fun a o h => (S.bas a o h).elim (fun h => .inl (x.le a o h)) .inr
  ns := let ⟨m, n⟩ := S.ns; ⟨m, n.keeps x.keep⟩
  lz := ext_none x S.lz (let ⟨_, o, _, _, h, _⟩ := S.ns; ⟨o, h⟩)
  lh := S.lh
  cells := fun y c e => by
    obtain ⟨hl, h⟩ := S.cells y c e
    refine ⟨hl, fun hf => ?_, h.2⟩
    obtain ⟨h1, h2, v, h3⟩ := h.1 hf
    exact ⟨ext_none x h1 (let ⟨o, ho, _⟩ := h3; ⟨o, ho⟩), h2, v, h3.keeps x.keep⟩
  inj := S.inj
  vars := fun y d e => by
    obtain ⟨v, h, r⟩ := S.vars y d e
    exact ⟨v, h.keeps x.keep, r.mono x.le⟩
  owns := by
    obtain ⟨oa, hi, h⟩ := S.owns
    refine ⟨oa, hi, fun y ds e => ?_⟩
    obtain ⟨h1, h2, h3, h4, h5, vs, n, h6, h7⟩ := h y ds e
    exact ⟨h1.keeps x.keep, ext_none x h2 ⟨_, h6⟩, h3, h4, h5, vs, n, x.keep _ _ h6, h7.mono x.le⟩

theorem St.same (S : St G env Z H ρ s) : Ext Z s Z s := Ext.same S.zin

/-- the tree t ends in the datum d, and changes nothing that stood -/
def Yields (G : Gnd) (A : Around) (t : Sem Value) (Z : Zf) (d : D) (s : Shared) : Prop :=
  wpAny (model G.prog G.w) A t (fun v s' => ∃ Z', Ext Z s Z' s' ∧ Rep G Z' v d) (fun _ _ => False) s

/-- room for n more frames -/
structure Room (n : Nat) (A : Around) : Prop where
  handled : A.handled = none
  depth : A.depth + n < recursionLimit
  units : A.units + 8 * n < cLine
  guards : A.guards = some []
theorem Room.deeper {n : Nat} {A : Around} {env : Env} (r : Room (n + 1) A) : Room n (A.deeper env) := ⟨r.handled, by have := r.depth; show A.depth + 1 + n < _; omega, by have := r.units; show A.units + 3 + 8 * n < _; omega, r.guards⟩
theorem Room.less {n m : Nat} {A : Around} (r : Room n A) (h : m ≤ n) : Room m A := ⟨r.handled, by have := r.depth; omega, by have := r.units; omega, r.guards⟩

/-- the expression e is the datum d where the names are ρ -/
structure Ev (G : Gnd) (env : Env) (n : Nat) (ρ : Loc) (e : PySem.Expr) (d : D) : Prop where
  run : ∀ A Z H s, Room n A → St G env Z H ρ s → Yields G A (eval e env) Z d s

/-- a test -/
structure Tst (G : Gnd) (env : Env) (n : Nat) (ρ : Loc) (e : PySem.Expr) (b : Bool) : Prop where
  run : ∀ A Z H s, Room n A → St G env Z H ρ s → wpAny (model G.prog G.w) A (isTrue e env (eval e env)) (fun b' s' => b' = b ∧ Ext Z s Z s') (fun _ _ => False) s

variable {A : Around} {E : Value → Shared → Prop} {n : Nat}

theorem wp_seq {α : Type} {M : Model} {t : Sem α} {P Q : α → Shared → Prop} (h : wpAny M A t P (fun _ _ => False) s) (hq : ∀ v s', P v s' → Q v s') : wpAny M A t Q E s :=
  wpAny_mono h hq fun _ _ x => x.elim

/-- tokens only grow -/
theorem wp_tok {α : Type} {M : Model} {t : Sem α} {Q : α → Shared → Prop} (h : wpAny M A t (fun a s' => s.toks ≤ s'.toks → Q a s') (fun _ _ => False) s) : wpAny M A t Q (fun _ _ => False) s :=
  wpAny_with_toks (Nat.le_refl _) (wpAny_mono h (fun _ _ x => x) fun _ _ x => x.elim)

/-- a name -/
theorem ev_name {x : Str} {pos : Pos} {d : D} (h : ρ.lookup x = some (.val d)) (hd : (x == ("__debug__" : Str)) = false) : Ev G env n ρ (.Name x pos) d := by
  constructor
  intro A Z H s _ S
  obtain ⟨v, hv, r⟩ := S.vars x d h
  refine wpAny_Name ?_ hd
  rcases hv with ⟨k, m, n, e⟩ | ⟨k, c, e, n⟩
  · exact wpAny_loadName_local S.fk k n e ⟨Z, S.same, r⟩
  · rcases k with k | k
    · exact wpAny_loadName_cell S.fk k e n ⟨Z, S.same, r⟩
    · exact wpAny_loadName_free S.fk k.1 e n ⟨Z, S.same, r⟩ k.2

end
end
section
open PySem PySem.W PyProof.Rows
section
variable {G : Gnd} {env : Env} {Z Z' H : Zf} {ρ ρ' : Loc} {s s' : Shared} {A : Around} {E : Value → Shared → Prop}

theorem Has.store_local {h h' : Heap} {x y : Str} {v u : Value} {m : Str → Option Value} (hn : h.Ns env.locals m) (hn' : h'.Ns env.locals (fun y => if y = x then some v else m y))
    (hs : Heap.SameBut env.locals h h') (hcl : ∀ y c, env.cells.lookup y = some c → c ≠ env.locals) (hy : y ≠ x) (q : Has env h y u) : Has env h' y u := by
  rcases q with ⟨k, m₂, n, e⟩ | ⟨k, c, e, n⟩
  · rw [ns_uniq n hn] at e
    exact .inl ⟨k, _, hn', by simpa [hy] using e⟩
  · exact .inr ⟨k, c, e, n.sameBut hs (hcl y c e)⟩

theorem Has.store_cell {h h' : Heap} {x y : Str} {u : Value} {c : Addr} (hs : Heap.SameBut c h h') (hc : env.cells.lookup x = some c)
    (inj : ∀ x y c, env.cells.lookup x = some c → env.cells.lookup y = some c → x = y) (hcl : c ≠ env.locals) (hy : y ≠ x) (q : Has env h y u) : Has env h' y u := by
  rcases q with ⟨k, m₂, n, e⟩ | ⟨k, c', e, n⟩
  · exact .inl ⟨k, m₂, n.sameBut hs (Ne.symm hcl), e⟩
  · exact .inr ⟨k, c', e, n.sameBut hs fun q => hy (inj y x c (q ▸ e) hc)⟩

/-- a change at an address that is neither frozen nor held -/
theorem St.put (S : St G env Z H ρ s) {a : Addr} {h' : Heap} {t : Nat} (ht : s.toks ≤ t) (hs : Heap.SameBut a s.heap h') (hz : Z a = none) (hh : H a = none) (hns : ∃ m, h'.Ns env.locals m)
    (hce : ∀ y c, env.cells.lookup y = some c → env.func.isSome = true → ∃ v, h'.IsCell c v)
    (hvars : ∀ y d, ρ'.lookup y = some (.val d) → ∃ v, Has env h' y v ∧ Rep G Z v d)
    (howns : ∃ oa : Str → Addr, (∀ x y ds es, ρ'.lookup x = some (.own ds) → ρ'.lookup y = some (.own es) → oa x = oa y → x = y) ∧
      ∀ x ds, ρ'.lookup x = some (.own ds) → Has env h' x (.ref (oa x)) ∧ Z (oa x) = none ∧ H (oa x) = none ∧ oa x ≠ env.locals ∧ (∀ y c, env.cells.lookup y = some c → oa x ≠ c) ∧
        ∃ vs n, h'.get? (oa x) = some (listOf vs.toArray n) ∧ RepAll G Z vs ds) :
    St G env Z H ρ' { s with heap := h', toks := t } where
  fk := S.fk
  gl := S.gl
  bl := S.bl
  gens := S.gens
  os := S.os
  tk := Nat.lt_of_lt_of_le S.tk ht
  zin := fun b o h => (hs.2 b fun q => by rw [q, hz] at h; cases h).trans (S.zin b o h)
  hin := fun b o h => (hs.2 b fun q => by rw [q, hh] at h; cases h).trans (S.hin b o h)
  dj := S.dj
  bas := S.bas
  ns := hns
  lz := S.lz
  lh := S.lh
  cells := fun y c e => by
    obtain ⟨hl, h⟩ := S.cells y c e
    refine ⟨hl, fun hf => ?_, h.2⟩
    obtain ⟨h1, h2, _⟩ := h.1 hf
    exact ⟨h1, h2, hce y c e hf⟩
  inj := S.inj
  vars := hvars
  owns := howns

/-- where a name may be stored -/
def Can (env : Env) (x : Str) : Prop := env.kindOf x = some .local ∨ (env.kindOf x = some .cell ∧ env.func.isSome = true ∧ ∃ c, env.cells.lookup x = some c)

/-- the heaps behind a store of x: all other names stand -/
theorem wp_storeName {x : Str} {v : Value} {Q : Unit → Shared → Prop} (S : St G env Z H ρ s) (hc : Can env x)
    (h : ∀ a h' t, s.toks ≤ t → Z a = none → H a = none → Heap.SameBut a s.heap h' → (∃ m, h'.Ns env.locals m) → (∀ y c, env.cells.lookup y = some c → env.func.isSome = true → ∃ v, h'.IsCell c v) →
      Has env h' x v → (∀ y u, y ≠ x → Has env s.heap y u → Has env h' y u) → (∀ b, s.heap.get? b ≠ none → b ≠ env.locals → (∀ y c, env.cells.lookup y = some c → b ≠ c) → b ≠ a) → Q () { s with heap := h', toks := t }) :
    wpAny (model G.prog G.w) A (storeName env x v) Q E s := by
  rcases hc with k | ⟨k, hf, c, e⟩
  · obtain ⟨m, hn⟩ := S.ns
    refine wpAny_storeName_local k hn (fun h' hn' hs => ?_) (by rw [S.fk]; rfl)
    refine h env.locals h' _ (Nat.le_succ _) S.lz S.lh hs ⟨_, hn'⟩ (fun y c e hf => ?_) (.inl ⟨k, _, hn', by simp⟩) (fun y u hy q => q.store_local hn hn' hs (fun y c e => (S.cells y c e).1) hy) fun b _ hb _ => hb
    obtain ⟨hl, h1, _⟩ := S.cells y c e
    obtain ⟨_, _, v', hv⟩ := h1 hf
    exact ⟨v', hv.sameBut hs hl⟩
  · obtain ⟨hl, h1, _⟩ := S.cells x c e
    obtain ⟨hz, hh, v₀, hv⟩ := h1 hf
    refine wpAny_storeName_cell S.fk k e hv fun h' hv' hs => ?_
    refine h c h' s.toks (Nat.le_refl _) hz hh hs (let ⟨m, hn⟩ := S.ns; ⟨m, hn.sameBut hs (Ne.symm hl)⟩) (fun y c' e' hf' => ?_) (.inr ⟨.inl k, c, e, hv'⟩) (fun y u hy q => q.store_cell hs e S.inj hl hy) fun b _ _ hb => hb x c e
    by_cases q : c' = c
    · subst q; exact ⟨_, hv'⟩
    · obtain ⟨_, h2, _⟩ := S.cells y c' e'
      obtain ⟨_, _, v', hv''⟩ := h2 hf'
      exact ⟨v', hv''.sameBut hs q⟩

theorem st_store {x : Str} {v : Value} {d : D} (S : St G env Z H ρ s) (r : Rep G Z v d) (hc : Can env x) :
    wpAny (model G.prog G.w) A (storeName env x v) (fun _ s' => St G env Z H (upd ρ x (.val d)) s') E s := by
  refine wp_storeName S hc fun a h' t ht hz hh hs hns hce hx hy hb => S.put ht hs hz hh hns hce ?_ ?_
  · intro y d' e
    rw [lookup_upd] at e
    by_cases q : y = x
    · subst q; rw [if_pos rfl] at e; cases e; exact ⟨v, hx, r⟩
    · rw [if_neg q] at e
      obtain ⟨u, hu, ru⟩ := S.vars y d' e
      exact ⟨u, hy y u q hu, ru⟩
  · obtain ⟨oa, hi, ho⟩ := S.owns
    have old : ∀ y ds, (upd ρ x (.val d)).lookup y = some (.own ds) → y ≠ x ∧ ρ.lookup y = some (.own ds) := fun y ds e => by
      rw [lookup_upd] at e
      by_cases q : y = x
      · rw [if_pos q] at e; cases e
      · rw [if_neg q] at e; exact ⟨q, e⟩
    refine ⟨oa, fun y z ds es ey ez => hi y z ds es (old y ds ey).2 (old z es ez).2, fun y ds e => ?_⟩
    obtain ⟨q, e⟩ := old y ds e
    obtain ⟨h1, h2, h3, h4, h5, vs, n, h6, h7⟩ := ho y ds e
    exact ⟨hy y _ q h1, h2, h3, h4, h5, vs, n, (hs.2 _ (hb _ (by rw [h6]; intro z; cases z) h4 h5)).trans h6, h7⟩

/-- a list that none but the frame holds is stored -/
theorem st_storeOwn {x : Str} {a : Addr} {vs : List Value} {n : Nat} {ds : List D} (S : St G env Z H ρ s) (hz : Z a = none) (hh : H a = none) (hl : a ≠ env.locals)
    (hcs : ∀ y c, env.cells.lookup y = some c → a ≠ c) (hoa : ∀ y es v, ρ.lookup y = some (.own es) → Has env s.heap y v → v ≠ .ref a) (ho : s.heap.get? a = some (listOf vs.toArray n)) (r : RepAll G Z vs ds)
    (hc : Can env x) :
    wpAny (model G.prog G.w) A (storeName env x (.ref a)) (fun _ s' => St G env Z H (upd ρ x (.own ds)) s') E s := by
  refine wp_storeName S hc fun b h' t ht hz' hh' hs hns hce hx hy hb => S.put ht hs hz' hh' hns hce ?_ ?_
  · intro y d' e
    rw [lookup_upd] at e
    by_cases q : y = x
    · subst q; rw [if_pos rfl] at e; cases e
    · rw [if_neg q] at e
      obtain ⟨u, hu, ru⟩ := S.vars y d' e
      exact ⟨u, hy y u q hu, ru⟩
  · obtain ⟨oa, hi, ho'⟩ := S.owns
    have old : ∀ y es, y ≠ x → (upd ρ x (.own ds)).lookup y = some (.own es) → ρ.lookup y = some (.own es) := fun y es q e => by
      rw [lookup_upd, if_neg q] at e; exact e
    refine ⟨fun y => if y = x then a else oa y, fun y z es es' ey ez q => ?_, fun y es e => ?_⟩
    · by_cases hy : y = x <;> by_cases hz : z = x
      · rw [hy, hz]
      · simp only [hy, hz, if_true, if_false] at q
        exact absurd rfl (q ▸ hoa z _ _ (old z _ hz ez) (ho' z _ (old z _ hz ez)).1)
      · simp only [hy, hz, if_true, if_false] at q
        exact absurd (by rw [q]) (hoa y _ _ (old y _ hy ey) (ho' y _ (old y _ hy ey)).1)
      · simp only [hy, hz, if_false] at q
        exact hi y z _ _ (old y _ hy ey) (old z _ hz ez) q
    · by_cases q : y = x
      · subst q
        rw [lookup_upd, if_pos rfl] at e; cases e
        simp only [if_true]
        exact ⟨hx, hz, hh, hl, hcs, vs, n, (hs.2 _ (hb _ (by rw [ho]; intro z; cases z) hl hcs)).trans ho, r⟩
      · simp only [q, if_false]
        obtain ⟨h1, h2, h3, h4, h5, vs, n, h6, h7⟩ := ho' y es (old y es q e)
        exact ⟨hy y _ q h1, h2, h3, h4, h5, vs, n, (hs.2 _ (hb _ (by rw [h6]; intro z; cases z) h4 h5)).trans h6, h7⟩

/-- an owned list is frozen -/
theorem St.freeze {x : Str} {ds : List D} (S : St G env Z H ρ s) (hx : ρ.lookup x = some (.own ds)) : ∃ Z', Zle Z Z' ∧ St G env Z' H (upd ρ x (.val (.list ds))) s ∧
    (∀ a o, Z' a = some o → Z a = some o ∨ ∃ v, Has env s.heap x v ∧ v = .ref a) := by
  obtain ⟨oa, hi, ho⟩ := S.owns
  obtain ⟨h1, h2, h3, h4, h5, vs, n, h6, h7⟩ := ho x ds hx
  have le : Zle Z (Zadd Z (oa x) (listOf vs.toArray n)) := Zadd.le h2
  have ne : ∀ b, b ≠ oa x → Zadd Z (oa x) (listOf vs.toArray n) b = Z b := fun b hb => if_neg hb
  refine ⟨Zadd Z (oa x) (listOf vs.toArray n), le, ?_, ?_⟩
  · refine ⟨S.fk, S.gl, S.bl, S.gens, S.os, S.tk, fun b o e => ?_, S.hin, fun b o e => ?_, fun b o e => (S.bas b o e).elim (fun h => .inl (le _ _ h)) .inr, S.ns, ?_, S.lh, fun y c e => ?_, S.inj, fun y d e => ?_, ?_⟩
    · by_cases q : b = oa x
      · subst q; rw [Zadd.self] at e; cases e; exact h6
      · rw [ne b q] at e; exact S.zin b o e
    · by_cases q : b = oa x
      · subst q; exact h3
      · rw [ne b q] at e; exact S.dj b o e
    · rw [ne _ (Ne.symm h4)]; exact S.lz
    · obtain ⟨hl, h, h'⟩ := S.cells y c e
      refine ⟨hl, fun hf => ?_, h'⟩
      obtain ⟨g1, g2⟩ := h hf
      exact ⟨by rw [ne _ (Ne.symm (h5 y c e))]; exact g1, g2⟩
    · rw [lookup_upd] at e
      by_cases q : y = x
      · subst q; rw [if_pos rfl] at e; cases e
        exact ⟨_, h1, .list Zadd.self (h7.mono le)⟩
      · rw [if_neg q] at e
        obtain ⟨u, hu, ru⟩ := S.vars y d e
        exact ⟨u, hu, ru.mono le⟩
    · have old : ∀ y es, (upd ρ x (.val (.list ds))).lookup y = some (.own es) → y ≠ x ∧ ρ.lookup y = some (.own es) := fun y es e => by
        rw [lookup_upd] at e
        by_cases q : y = x
        · rw [if_pos q] at e; cases e
        · rw [if_neg q] at e; exact ⟨q, e⟩
      refine ⟨oa, fun y z es es' ey ez => hi y z es es' (old y es ey).2 (old z es' ez).2, fun y es e => ?_⟩
      obtain ⟨q, e⟩ := old y es e
      obtain ⟨g1, g2, g3, g4, g5, vs', n', g6, g7⟩ := ho y es e
      exact ⟨g1, by rw [ne _ fun z => q (hi y x _ _ e hx z)]; exact g2, g3, g4, g5, vs', n', g6, g7.mono le⟩
  · intro b o e
    by_cases q : b = oa x
    · subst q; exact .inr ⟨_, h1, rfl⟩
    · rw [ne b q] at e; exact .inl e

end
end
section
open PySem PySem.W PyProof.Rows
set_option linter.unusedVariables false
/-- the state, as a callee sees it -/
structure Bs (G : Gnd) (Z : Zf) (s : Shared) : Prop where
  gens : s.gens = #[]
  os : s.os = G.os
  tk : G.t0 < s.toks
  zin : ∀ a o, Z a = some o → s.heap.get? a = some o
  bas : ∀ a o, G.base.get? a = some o → s.heap.get? a = some o

section
variable {G : Gnd} {env : Env} {Z Z' H : Zf} {ρ ρ' : Loc} {s s' : Shared} {A : Around} {E : Value → Shared → Prop} {n : Nat} {pos apos : Pos}

theorem St.bs (S : St G env Z H ρ s) : Bs G Z s := ⟨S.gens, S.os, S.tk, S.zin, S.keepBase⟩
theorem Bs.X (b : Bs G Z s) : G.K.In s.heap := fun a o h => b.bas a o (G.X a o h)
theorem Bs.T (b : Bs G Z s) : TopRead G.p G.loose G.mg G.mb s.heap := G.T.keeps b.bas
theorem Bs.same (b : Bs G Z s) : Ext Z s Z s := Ext.same b.zin
theorem Bs.nolimit (b : Bs G Z s) : s.heap.NoLimit := b.T.nolimit

structure Op1 (G : Gnd) (f : Value → Sem Value) (d₁ d : D) : Prop where
  run : ∀ A Z s v₁, Room 0 A → Bs G Z s → Rep G Z v₁ d₁ → Yields G A (f v₁) Z d s
structure Op2 (G : Gnd) (f : Value → Value → Sem Value) (d₁ d₂ d : D) : Prop where
  run : ∀ A Z s v₁ v₂, Room 0 A → Bs G Z s → Rep G Z v₁ d₁ → Rep G Z v₂ d₂ → Yields G A (f v₁ v₂) Z d s
/-- a built-in function, or a method with its object ahead -/
structure BF (G : Gnd) (id : String) (ds : List D) (d : D) : Prop where
  run : ∀ A Z s vs, Room 0 A → Bs G Z s → RepAll G Z vs ds → Yields G A (call (.builtin id) vs) Z d s
/-- a def of the text's -/
structure Fn (G : Gnd) (n : Nat) (f : Addr) (ds : List D) (d : D) : Prop where
  run : ∀ A Z s vs, Room n A → Bs G Z s → RepAll G Z vs ds → Yields G A (call (.ref f) vs) Z d s
structure GetM (G : Gnd) (name : Str) (d : D) (id : String) : Prop where
  run : ∀ M A pl Z s v Q E, (∀ a o, Z a = some o → s.heap.get? a = some o) → Rep G Z v d → Q (Value.builtin id, [v]) s → wpAny M A (getMethod v name pl) Q E s

theorem ev_int {i : Int} {k : Nat} : Ev G env n ρ (.Constant (.int i) k pos) (.int i) := Ev.mk fun _ Z _ _ _ S => wpAny_Constant_int ⟨Z, Ext.tok S.zin (Nat.le_succ _), .int _ _⟩
theorem ev_str {x : Str} {k : Nat} : Ev G env n ρ (.Constant (.str x) k pos) (.str x) := Ev.mk fun _ Z _ _ _ S => Calls.Constant_str ⟨Z, Ext.tok S.zin (Nat.le_succ _), .str _ _⟩
theorem ev_bool {b : Bool} {k : Nat} : Ev G env n ρ (.Constant (.bool b) k pos) (.bool b) := Ev.mk fun _ Z _ _ _ S => wpAny_pure ⟨Z, S.same, .bool _⟩
theorem ev_none {k : Nat} : Ev G env n ρ (.Constant .none k pos) .none := Ev.mk fun _ Z _ _ _ S => wpAny_pure ⟨Z, S.same, .none⟩

theorem ev_glob {x : Str} {a : Addr} (e : nsIn G.K mainGlobals x = some (some (.ref a))) (hx : env.kindOf x = some .globalImplicit) (hd : (x == ("__debug__" : Str)) = false) : Ev G env n ρ (.Name x pos) (.fn a) :=
  Ev.mk fun _ Z _ _ _ S => Calls.Name_function_global S.fk hx (Calls.loadGlobal_global (by rw [S.gl]; exact S.T.g) (mg_of G.X G.T.g e) ⟨Z, S.same, .fn _⟩) hd

theorem wp_builtinName {x : Str} {v : Value} {M : Model} {Q : Value → Shared → Prop} (S : St G env Z H ρ s) (e : nsIn G.K mainGlobals x = some none) (hv : bootBuiltins x = some v) (hn : x ≠ "__name__") (hx : env.kindOf x = some .globalImplicit)
    (hd : (x == ("__debug__" : Str)) = false) (h : Q v s) : wpAny M A (eval (.Name x pos) env) Q E s :=
  Calls.Name_function_global S.fk hx (Calls.loadGlobal_builtin (by rw [S.gl]; exact S.T.g) (mg_none_of G.X G.T.g e) (by rw [S.bl]; exact S.T.b) ((G.T.builtins x hn).trans hv) h) hd

theorem ev_binop {l r : PySem.Expr} {op : Operator} {d₁ d₂ d : D} (h₁ : Ev G env n ρ l d₁) (h₂ : Ev G env n ρ r d₂) (h₃ : Op2 G (binaryOp op) d₁ d₂ d) : Ev G env n ρ (.BinOp l op r pos) d :=
  Ev.mk fun A Z H s R S => wpAny_BinOp (wp_seq (h₁.run A Z H s R S) fun v₁ s₁ ⟨Z₁, x₁, r₁⟩ => wp_seq (h₂.run A Z₁ H s₁ R (S.ext x₁)) fun v₂ s₂ ⟨Z₂, x₂, r₂⟩ =>
    wp_seq (h₃.run A Z₂ s₂ v₁ v₂ (R.less (Nat.zero_le _)) ((S.ext x₁).ext x₂).bs (r₁.mono x₂.le) r₂) fun _ _ ⟨Z₃, x₃, r₃⟩ => ⟨Z₃, x₁.trans (x₂.trans x₃), r₃⟩)

theorem ev_cmp {l r : PySem.Expr} {op : CmpOp} {d₁ d₂ d : D} (h₁ : Ev G env n ρ l d₁) (h₂ : Ev G env n ρ r d₂) (h₃ : Op2 G (compareOp op) d₁ d₂ d) (hm : behindInMarks op r = false) : Ev G env n ρ (.Compare l [op] [r] pos) d :=
  Ev.mk fun A Z H s R S => wpAny_Compare1 (wp_seq (h₁.run A Z H s R S) fun v₁ s₁ ⟨Z₁, x₁, r₁⟩ => wp_seq (h₂.run A Z₁ H s₁ R (S.ext x₁)) fun v₂ s₂ ⟨Z₂, x₂, r₂⟩ =>
    wp_seq (h₃.run A Z₂ s₂ v₁ v₂ (R.less (Nat.zero_le _)) ((S.ext x₁).ext x₂).bs (r₁.mono x₂.le) r₂) fun _ _ ⟨Z₃, x₃, r₃⟩ => ⟨Z₃, x₁.trans (x₂.trans x₃), r₃⟩) hm

theorem tst_cmp {l r : PySem.Expr} {op : CmpOp} {d₁ d₂ : D} {b : Bool} (h₁ : Ev G env n ρ l d₁) (h₂ : Ev G env n ρ r d₂) (h₃ : Op2 G (compareOp op) d₁ d₂ (.bool b)) (hm : behindInMarks op r = false) : Tst G env n ρ (.Compare l [op] [r] pos) b :=
  Tst.mk fun A Z H s R S => wpAny_isTrue_Compare1 (wp_seq (h₁.run A Z H s R S) fun v₁ s₁ ⟨Z₁, x₁, r₁⟩ => wp_seq (h₂.run A Z₁ H s₁ R (S.ext x₁)) fun v₂ s₂ ⟨Z₂, x₂, r₂⟩ =>
    wp_seq (h₃.run A Z₂ s₂ v₁ v₂ (R.less (Nat.zero_le _)) ((S.ext x₁).ext x₂).bs (r₁.mono x₂.le) r₂) fun _ _ ⟨Z₃, x₃, r₃⟩ => by cases r₃; exact wpAny_truthy_bool ⟨rfl, (x₁.trans (x₂.trans x₃)).back S.zin⟩) hm

theorem tst_not {x : PySem.Expr} {b : Bool} (h : Tst G env n ρ x b) : Tst G env n ρ (.UnaryOp .Not x pos) (!b) :=
  Tst.mk fun A Z H s R S => isTrue_not (wp_seq (h.run A Z H s R S) fun _ _ ⟨e, x⟩ => ⟨by rw [e], x⟩)
theorem tst_and_nil : Tst G env n ρ (.BoolOp .And [] pos) true := Tst.mk fun _ _ _ _ _ S => isTrue_and_nil ⟨rfl, S.same⟩
theorem tst_or_nil : Tst G env n ρ (.BoolOp .Or [] pos) false := Tst.mk fun _ _ _ _ _ S => isTrue_or_nil ⟨rfl, S.same⟩
theorem tst_and {x : PySem.Expr} {rest : List PySem.Expr} {c b : Bool} (h : Tst G env n ρ x c) (h' : c = true → Tst G env n ρ (.BoolOp .And rest pos) b) : Tst G env n ρ (.BoolOp .And (x :: rest) pos) (c && b) :=
  Tst.mk fun A Z H s R S => isTrue_and (wp_seq (h.run A Z H s R S) fun c' s' ⟨e, x⟩ => by
    subst e
    cases c' with
    | false => exact ⟨rfl, x⟩
    | true => exact wp_seq ((h' rfl).run A Z H s' R (S.ext x)) fun _ _ ⟨e, y⟩ => ⟨e, x.trans y⟩)
theorem tst_or {x : PySem.Expr} {rest : List PySem.Expr} {c b : Bool} (h : Tst G env n ρ x c) (h' : c = false → Tst G env n ρ (.BoolOp .Or rest pos) b) : Tst G env n ρ (.BoolOp .Or (x :: rest) pos) (c || b) :=
  Tst.mk fun A Z H s R S => isTrue_or (wp_seq (h.run A Z H s R S) fun c' s' ⟨e, x⟩ => by
    subst e
    cases c' with
    | true => exact ⟨rfl, x⟩
    | false => exact wp_seq ((h' rfl).run A Z H s' R (S.ext x)) fun _ _ ⟨e, y⟩ => ⟨e, x.trans y⟩)
theorem ev_ifexp {t b o : PySem.Expr} {c : Bool} {d₁ d₂ : D} (h : Tst G env n ρ t c) (h₁ : c = true → Ev G env n ρ b d₁) (h₂ : c = false → Ev G env n ρ o d₂) : Ev G env n ρ (.IfExp t b o pos) (if c then d₁ else d₂) :=
  Ev.mk fun A Z H s R S => IfExp_ (wp_seq (h.run A Z H s R S) fun c' s' ⟨e, x⟩ => by
    subst e
    cases c' with
    | true => exact wp_seq ((h₁ rfl).run A Z H s' R (S.ext x)) fun _ _ ⟨Z₁, y, r⟩ => ⟨Z₁, x.trans y, r⟩
    | false => exact wp_seq ((h₂ rfl).run A Z H s' R (S.ext x)) fun _ _ ⟨Z₁, y, r⟩ => ⟨Z₁, x.trans y, r⟩)

/-- several expressions in a row -/
structure Evs (G : Gnd) (env : Env) (n : Nat) (ρ : Loc) (es : List PySem.Expr) (ds : List D) : Prop where
  run : ∀ A Z H s pos, Room n A → St G env Z H ρ s → wpAny (model G.prog G.w) A (spliced (backTo pos (starEach es env))) (fun vs s' => ∃ Z', Ext Z s Z' s' ∧ RepAll G Z' vs ds) (fun _ _ => False) s
theorem evs_nil : Evs G env n ρ [] [] := Evs.mk fun _ Z _ _ _ _ S => spliced_none ⟨Z, S.same, .nil⟩
theorem evs_cons {e : PySem.Expr} {es : List PySem.Expr} {d : D} {ds : List D} (h : Ev G env n ρ e d) (h' : Evs G env n ρ es ds) (he : starEach (e :: es) env = (false, eval e env) :: starEach es env) : Evs G env n ρ (e :: es) (d :: ds) :=
  Evs.mk fun A Z H s pos R S => spliced_more (wp_seq (h.run A Z H s R S) fun v s₁ ⟨Z₁, x₁, r₁⟩ => wp_seq (h'.run A Z₁ H s₁ pos R (S.ext x₁)) fun vs s₂ ⟨Z₂, x₂, r₂⟩ => ⟨Z₂, x₁.trans x₂, .cons (r₁.mono x₂.le) r₂⟩) he

theorem wp_newTuple {vs : List Value} {ds : List D} (b : Bs G Z s) (r : RepAll G Z vs ds) (hsz : ds.length ≤ sizeLine) : Yields G A (newTuple vs) Z (.tup ds) s :=
  wpAny_newObj_type ⟨_, Ext.alloc b.zin rfl (Nat.le_refl _), .tup Zadd.self (r.mono (Ext.alloc (s := s) (t := s.toks) b.zin rfl (Nat.le_refl _)).le)⟩ (by show vs.toArray.size ≤ sizeLine; rw [List.size_toArray, r.length]; exact hsz)
theorem wp_newList {vs : List Value} {ds : List D} (b : Bs G Z s) (r : RepAll G Z vs ds) (hsz : ds.length ≤ sizeLine) : Yields G A (newList vs) Z (.list ds) s :=
  wpAny_newObj_type ⟨_, Ext.alloc b.zin rfl (Nat.le_refl _), .list Zadd.self (r.mono (Ext.alloc (s := s) (t := s.toks) b.zin rfl (Nat.le_refl _)).le)⟩ (by show vs.toArray.size ≤ sizeLine; rw [List.size_toArray, r.length]; exact hsz)

theorem ev_tuple {es : List PySem.Expr} {ds : List D} {k : Nat} (h : Evs G env n ρ es ds) (hsz : ds.length ≤ sizeLine) : Ev G env n ρ (.Tuple es k pos) (.tup ds) :=
  Ev.mk fun A Z H s R S => Tuple_ (wp_seq (h.run A Z H s pos R S) fun vs s₁ ⟨Z₁, x₁, r₁⟩ => wp_seq (wp_newTuple (S.ext x₁).bs r₁ hsz) fun _ _ ⟨Z₂, x₂, r₂⟩ => ⟨Z₂, x₁.trans x₂, r₂⟩)
theorem ev_list {es : List PySem.Expr} {ds : List D} (h : Evs G env n ρ es ds) (hsz : ds.length ≤ sizeLine) : Ev G env n ρ (.List es pos) (.list ds) :=
  Ev.mk fun A Z H s R S => List_ (wp_seq (h.run A Z H s pos R S) fun vs s₁ ⟨Z₁, x₁, r₁⟩ => wp_seq (wp_newList (S.ext x₁).bs r₁ hsz) fun _ _ ⟨Z₂, x₂, r₂⟩ => ⟨Z₂, x₁.trans x₂, r₂⟩)

theorem starred_none {es : List PySem.Expr} (h : (starEach es env).any (·.1) = false) (pos : Pos) : (backTo pos (starEach es env)).any (·.1) = false := by
  unfold backTo
  rw [List.any_map]
  exact h

theorem wp_evalArgs {M : Model} {f : Value} {args : List (Bool × Sem Value)} {Q : Args → Shared → Prop} (hp : args.any (·.1) = false)
    (h : wpAny M A (spliced args) (fun vs s₁ => Q ⟨vs, []⟩ s₁) E s) : wpAny M A (evalArgs f true args []) Q E s := by
  match args, hp, h with
  | [], _, h =>
    unfold evalArgs
    show wpAny M A (spliced [] >>= _) Q E s
    refine wpAny_bind (wpAny_mono h (fun vs s' h' => ?_) fun _ _ x => x)
    refine wpAny_bind (wpAny_pure (wpAny_holding ?_))
    exact wpAny_bind (wpAny_pure (wpAny_bind (wpAny_pure (wpAny_pure h'))))
  | (false, t) :: r, _, h => exact Calls.evalArgs_plain h
  | (true, t) :: r, hp, _ => simp at hp

/-- a call of one of the text's defs, by whatever expression it is reached -/
theorem ev_callFn {f : PySem.Expr} {es : List PySem.Expr} {a : Addr} {ds : List D} {d : D} (hf : Ev G env n ρ f (.fn a)) (h : Evs G env n ρ es ds) (hk : keepIn G.K (.ref a) = true) (hc : Fn G n a ds d)
    (hp : (starEach es env).any (·.1) = false)
    (he : eval (.Call f es [] pos) env = (do callWith pos (← eval f env) [] (backTo pos (starEach es env)) [])) : Ev G env n ρ (.Call f es [] pos) d := by
  constructor
  intro A Z H s R S
  unfold Yields
  rw [he]
  refine wpAny_bind (wp_seq (hf.run A Z H s R S) fun v s₁ ⟨Z₁, x₁, r₁⟩ => ?_)
  cases r₁
  have S₁ := S.ext x₁
  refine callWith_of (P := fun h => G.K.In h) (by rw [starred_none hp]; rfl) (keeps_K hk) (wp_evalArgs (starred_none hp pos) (wp_seq (h.run A Z₁ H s₁ pos R S₁) fun vs s₂ ⟨Z₂, x₂, r₂⟩ => ⟨(S₁.ext x₂).X, ?_⟩))
  exact wp_seq (hc.run A Z₂ s₂ vs R (S₁.ext x₂).bs r₂) fun _ _ ⟨Z₃, x₃, r₃⟩ => ⟨Z₃, x₁.trans (x₂.trans x₃), r₃⟩

/-- a call of a built-in function by its name -/
theorem ev_callBF {x : Str} {p : Pos} {id : String} {es : List PySem.Expr} {ds : List D} {d : D} (h : Evs G env n ρ es ds) (hc : BF G id ds d)
    (e : nsIn G.K mainGlobals x = some none) (hv : bootBuiltins x = some (.builtin id)) (hn : x ≠ "__name__") (hx : env.kindOf x = some .globalImplicit) (hd : (x == ("__debug__" : Str)) = false)
    (hp : (starEach es env).any (·.1) = false)
    (he : eval (.Call (.Name x p) es [] pos) env = (do callWith pos (← eval (.Name x p) env) [] (backTo pos (starEach es env)) [])) : Ev G env n ρ (.Call (.Name x p) es [] pos) d := by
  constructor
  intro A Z H s R S
  unfold Yields
  rw [he]
  refine wpAny_bind (wp_builtinName S e hv hn hx hd ?_)
  refine Calls.callWith_builtin (starred_none hp pos) (wp_evalArgs (starred_none hp pos) (wp_seq (h.run A Z H s pos R S) fun vs s₂ ⟨Z₂, x₂, r₂⟩ => ?_))
  exact wp_seq (hc.run A Z₂ s₂ vs (R.less (Nat.zero_le _)) (S.ext x₂).bs r₂) fun _ _ ⟨Z₃, x₃, r₃⟩ => ⟨Z₃, x₂.trans x₃, r₃⟩

/-- a call of a built-in class by its name -/
structure BT (G : Gnd) (T : String) (ds : List D) (d : D) : Prop where
  run : ∀ A Z s vs, Room 1 A → Bs G Z s → RepAll G Z vs ds → Yields G A (call (.type T) vs) Z d s
theorem ev_callBT {x : Str} {p : Pos} {T : String} {es : List PySem.Expr} {ds : List D} {d : D} (h : Evs G env (n + 1) ρ es ds) (hc : BT G T ds d)
    (e : nsIn G.K mainGlobals x = some none) (hv : bootBuiltins x = some (.type T)) (hn : x ≠ "__name__") (hx : env.kindOf x = some .globalImplicit) (hd : (x == ("__debug__" : Str)) = false)
    (hp : (starEach es env).any (·.1) = false)
    (he : eval (.Call (.Name x p) es [] pos) env = (do callWith pos (← eval (.Name x p) env) [] (backTo pos (starEach es env)) [])) : Ev G env (n + 1) ρ (.Call (.Name x p) es [] pos) d := by
  constructor
  intro A Z H s R S
  unfold Yields
  rw [he]
  refine wpAny_bind (wp_builtinName S e hv hn hx hd ?_)
  refine PyProof.Rows.callWith_type (starred_none hp pos) (wp_evalArgs (starred_none hp pos) (wp_seq (h.run A Z H s pos R S) fun vs s₂ ⟨Z₂, x₂, r₂⟩ => ?_))
  exact wp_seq (hc.run A Z₂ s₂ vs (R.less (by omega)) (S.ext x₂).bs r₂) fun _ _ ⟨Z₃, x₃, r₃⟩ => ⟨Z₃, x₂.trans x₃, r₃⟩

/-- a call of a method of a built-in class -/
theorem ev_method {o : PySem.Expr} {name : Str} {id : String} {es : List PySem.Expr} {d₀ : D} {ds : List D} {d : D} {pl : Sem Bool} (ho : Ev G env n ρ o d₀) (g : GetM G name d₀ id) (h : Evs G env n ρ es ds) (hc : BF G id (d₀ :: ds) d)
    (hp : (starEach es env).any (·.1) = false)
    (he : eval (.Call (.Attribute o name apos) es [] pos) env = (do
      let ov ← eval o env
      standAt apos.atName
      let (f, first) ← holding [ov] (getMethod ov name pl)
      callWith pos f first (backTo pos (starEach es env)) [])) : Ev G env n ρ (.Call (.Attribute o name apos) es [] pos) d := by
  constructor
  intro A Z H s R S
  refine MethodCall_ (wp_seq (ho.run A Z H s R S) fun v s₁ ⟨Z₁, x₁, r₁⟩ => ?_) he
  have S₁ := S.ext x₁
  refine g.run _ A pl Z₁ s₁ v _ _ S₁.zin r₁ ?_
  refine Calls.callWith_builtin (starred_none hp pos) (wp_evalArgs (starred_none hp pos) (wp_seq (h.run A Z₁ H s₁ pos R S₁) fun vs s₂ ⟨Z₂, x₂, r₂⟩ => ?_))
  exact wp_seq (hc.run A Z₂ s₂ (v :: vs) (R.less (Nat.zero_le _)) (S₁.ext x₂).bs (.cons (r₁.mono x₂.le) r₂)) fun _ _ ⟨Z₃, x₃, r₃⟩ => ⟨Z₃, x₁.trans (x₂.trans x₃), r₃⟩

/-- an item -/
def Sb (G : Gnd) (value slice : PySem.Expr) (d₁ d₂ d : D) : Prop := Op2 G (subscriptTail value slice) d₁ d₂ d
theorem ev_sub {value slice : PySem.Expr} {d₁ d₂ d : D} (h₁ : Ev G env n ρ value d₁) (h₂ : Ev G env n ρ slice d₂) (h₃ : Sb G value slice d₁ d₂ d) : Ev G env n ρ (.Subscript value slice pos) d :=
  Ev.mk fun A Z H s R S => Subscript_ (wp_seq (h₁.run A Z H s R S) fun v₁ s₁ ⟨Z₁, x₁, r₁⟩ => wp_seq (h₂.run A Z₁ H s₁ R (S.ext x₁)) fun v₂ s₂ ⟨Z₂, x₂, r₂⟩ =>
    wp_seq (h₃.run A Z₂ s₂ v₁ v₂ (R.less (Nat.zero_le _)) ((S.ext x₁).ext x₂).bs (r₁.mono x₂.le) r₂) fun _ _ ⟨Z₃, x₃, r₃⟩ => ⟨Z₃, x₁.trans (x₂.trans x₃), r₃⟩)

theorem ev_neg {e : PySem.Expr} {d₁ d : D} {op : UnaryOp} (h : Ev G env n ρ e d₁) (h' : Op1 G (unaryOp op) d₁ d) : Ev G env n ρ (.UnaryOp op e pos) d := by
  constructor
  intro A Z H s R S
  show wpAny _ _ (do let v ← eval e env; standAt pos; holding [v] (unaryOp op v)) _ _ _
  exact wpAny_bind (wp_seq (h.run A Z H s R S) fun v s₁ ⟨Z₁, x₁, r₁⟩ => wpAny_bind (wpAny_standAt (wpAny_holding (wp_seq (h'.run A Z₁ s₁ v (R.less (Nat.zero_le _)) (S.ext x₁).bs r₁) fun _ _ ⟨Z₂, x₂, r₂⟩ => ⟨Z₂, x₁.trans x₂, r₂⟩))))

end
end
section
open PySem PySem.W PyProof.Rows
set_option linter.unusedVariables false
section
variable {G : Gnd} {env : Env} {Z Z' H : Zf} {ρ ρ' : Loc} {s s' : Shared} {A : Around} {E : Value → Shared → Prop} {n : Nat} {pos apos : Pos}

/-- how a block ends -/
inductive Fl where
  | next | brk | cont
  | ret (d : D)

inductive FlRep (G : Gnd) (Z : Zf) : Flow → Fl → Prop
  | next : FlRep G Z .next .next
  | brk : FlRep G Z .brk .brk
  | cont : FlRep G Z .cont .cont
  | ret {v : Value} {d : D} : Rep G Z v d → FlRep G Z (.ret v) (.ret d)
def ExPost (G : Gnd) (env : Env) (Z H : Zf) (Φ : Fl → Loc → Prop) (f : Flow) (s' : Shared) : Prop := ∃ Z' ρ' fl, Zle Z Z' ∧ St G env Z' H ρ' s' ∧ FlRep G Z' f fl ∧ Φ fl ρ'
/-- a statement -/
structure Ex (G : Gnd) (env : Env) (n : Nat) (ρ : Loc) (st : Stmt) (Φ : Fl → Loc → Prop) : Prop where
  run : ∀ A Z H s, Room n A → St G env Z H ρ s → wpAny (model G.prog G.w) A (exec st env) (ExPost G env Z H Φ) (fun _ _ => False) s
/-- statements in a row -/
structure Exs (G : Gnd) (env : Env) (n : Nat) (ρ : Loc) (sts : List Stmt) (Φ : Fl → Loc → Prop) : Prop where
  run : ∀ A Z H s, Room n A → St G env Z H ρ s → wpAny (model G.prog G.w) A (execs sts env) (ExPost G env Z H Φ) (fun _ _ => False) s

def Then (Φ : Fl → Loc → Prop) (K : Loc → Prop) : Fl → Loc → Prop
  | .next, ρ => K ρ
  | fl, ρ => Φ fl ρ

theorem exs_nil {Φ : Fl → Loc → Prop} (h : Φ .next ρ) : Exs G env n ρ [] Φ := Exs.mk fun A Z H s _ S => wpAny_execs_nil ⟨Z, ρ, .next, Zle.same, S, .next, h⟩
theorem exs_cons {st : Stmt} {rest : List Stmt} {Φ : Fl → Loc → Prop} (h : Ex G env n ρ st (Then Φ fun ρ' => Exs G env n ρ' rest Φ)) : Exs G env n ρ (st :: rest) Φ := by
  constructor
  intro A Z H s R S
  refine wpAny_execs_cons (wp_seq (h.run A Z H s R S) fun f s' ⟨Z', ρ', fl, le, S', hf, hΦ⟩ => ?_)
  cases hf with
  | next => exact wp_seq (hΦ.run A Z' H s' R S') fun f s'' ⟨Z'', ρ'', fl, le', S'', hf, h⟩ => ⟨Z'', ρ'', fl, le.trans le', S'', hf, h⟩
  | brk => exact ⟨Z', ρ', _, le, S', .brk, hΦ⟩
  | cont => exact ⟨Z', ρ', _, le, S', .cont, hΦ⟩
  | ret r => exact ⟨Z', ρ', _, le, S', .ret r, hΦ⟩
theorem exs_mono {sts : List Stmt} {Φ Ψ : Fl → Loc → Prop} (h : Exs G env n ρ sts Φ) (hΦ : ∀ fl ρ', Φ fl ρ' → Ψ fl ρ') : Exs G env n ρ sts Ψ :=
  Exs.mk fun A Z H s R S => wp_seq (h.run A Z H s R S) fun _ _ ⟨Z', ρ', fl, le, S', hf, h⟩ => ⟨Z', ρ', fl, le, S', hf, hΦ _ _ h⟩
theorem ex_assign {x : Str} {p : Pos} {e : PySem.Expr} {d : D} {Φ : Fl → Loc → Prop} (h : Ev G env n ρ e d) (hc : Can env x) (hs : swapsWith e (some (.Name x p)) pos.line env = pure false) (k : Φ .next (upd ρ x (.val d))) :
    Ex G env n ρ (.Assign [.Name x p] e pos) Φ :=
  Ex.mk fun A Z H s R S => wpAny_Assign_Name (wp_seq (h.run A Z H s R S) fun v s₁ ⟨Z₁, x₁, r₁⟩ => wp_seq (st_store (S.ext x₁) r₁ hc) fun _ s₂ S₂ => ⟨Z₁, _, _, x₁.le, S₂, .next, k⟩) hs

theorem ex_return {e : PySem.Expr} {d : D} {Φ : Fl → Loc → Prop} (h : Ev G env n ρ e d) (k : Φ (.ret d) ρ) : Ex G env n ρ (.Return (some e) pos) Φ :=
  Ex.mk fun A Z H s R S => wpAny_Return_some (wp_seq (h.run A Z H s R S) fun v s₁ ⟨Z₁, x₁, r₁⟩ => ⟨Z₁, _, _, x₁.le, S.ext x₁, .ret r₁, k⟩)
theorem ex_if {t : PySem.Expr} {body orelse : List Stmt} {c : Bool} {Φ : Fl → Loc → Prop} (h : Tst G env n ρ t c) (h₁ : c = true → Exs G env n ρ body Φ) (h₂ : c = false → Exs G env n ρ orelse Φ) : Ex G env n ρ (.If t body orelse pos) Φ :=
  Ex.mk fun A Z H s R S => wpAny_If (wp_seq (h.run A Z H s R S) fun c' s' ⟨e, x⟩ => by
    subst e
    cases c' with
    | true => exact (h₁ rfl).run A Z H s' R (S.ext x)
    | false => exact (h₂ rfl).run A Z H s' R (S.ext x))

/-- an object more is held -/
theorem St.hold {I : Addr} {o : Obj} (S : St G env Z H ρ s) (x : Ext Z s Z s') (hI : s.heap.get? I = none) (ho : s'.heap.get? I = some o) :
    St G env Z (Zadd H I o) ρ s' ∧ G.base.get? I = none ∧ H I = none ∧ Z I = none ∧ ∀ y c, env.cells.lookup y = some c → c ≠ I := by
  have S' := S.ext x
  have old : ∀ a ob, s.heap.get? a = some ob → a ≠ I := fun a ob h q => by rw [q, hI] at h; cases h
  have hH : H I = none := by
    cases q : H I with
    | none => rfl
    | some ob => exact absurd rfl (old I ob (S.hin I ob q))
  have hZ : Z I = none := by
    cases q : Z I with
    | none => rfl
    | some ob => exact absurd rfl (old I ob (S.zin I ob q))
  have hB : G.base.get? I = none := by
    cases q : G.base.get? I with
    | none => rfl
    | some ob => exact absurd rfl (old I ob (S.keepBase I ob q))
  have hC : ∀ y c, env.cells.lookup y = some c → c ≠ I := fun y c e => by
    obtain ⟨_, h1, h2⟩ := S.cells y c e
    cases hf : env.func.isSome with
    | true => obtain ⟨_, _, v, ob, hob, _⟩ := h1 hf; exact old c ob hob
    | false => obtain ⟨ob, hob⟩ := h2 hf; exact old c ob (S.hin c ob hob)
  have le := Zadd.le (o := o) hH
  have ne : ∀ b, b ≠ I → Zadd H I o b = H b := fun b hb => if_neg hb
  obtain ⟨oL, _, _, hoL, _⟩ := S.ns.choose_spec
  refine ⟨⟨S'.fk, S'.gl, S'.bl, S'.gens, S'.os, S'.tk, S'.zin, fun a ob h => ?_, fun a ob h => ?_, fun a ob h => (S'.bas a ob h).elim .inl (fun h => .inr (le _ _ h)), S'.ns, S'.lz, ?_, fun y c e => ?_, S'.inj, S'.vars, ?_⟩, hB, hH, hZ, hC⟩
  · by_cases q : a = I
    · subst q; rw [Zadd.self] at h; cases h; exact ho
    · rw [ne a q] at h; exact S'.hin a ob h
  · rw [ne a fun q => by rw [q, hZ] at h; cases h]; exact S'.dj a ob h
  · rw [ne _ (old _ _ hoL)]; exact S'.lh
  · obtain ⟨h0, h1, h2⟩ := S'.cells y c e
    refine ⟨h0, fun hf => ?_, fun hf => ?_⟩
    · obtain ⟨a, b, c'⟩ := h1 hf
      exact ⟨a, by rw [ne _ (hC y c e)]; exact b, c'⟩
    · obtain ⟨ob, h⟩ := h2 hf
      exact ⟨ob, le _ _ h⟩
  · obtain ⟨oa, hi, h⟩ := S.owns
    obtain ⟨oa', hi', h'⟩ := S'.owns
    refine ⟨oa, hi, fun y ds e => ?_⟩
    obtain ⟨g1, g2, g3, g4, g5, vs, k, g6, g7⟩ := h y ds e
    exact ⟨g1.keeps x.keep, g2, by rw [ne _ (old _ _ g6)]; exact g3, g4, g5, vs, k, x.keep _ _ g6, g7⟩

/-- a held object is changed -/
theorem St.turn {I : Addr} {o o' : Obj} {h' : Heap} {t : Nat} (S : St G env Z (Zadd H I o) ρ s) (hB : G.base.get? I = none) (hC : ∀ y c, env.cells.lookup y = some c → c ≠ I)
    (hk : ∀ b ob, b ≠ I → s.heap.get? b = some ob → h'.get? b = some ob) (ho : h'.get? I = some o') (ht : s.toks ≤ t) : St G env Z (Zadd H I o') ρ { s with heap := h', toks := t } := by
  have self : Zadd H I o I = some o := Zadd.self
  have ne : ∀ b, b ≠ I → Zadd H I o' b = Zadd H I o b := fun b hb => by unfold Zadd; rw [if_neg hb, if_neg hb]
  have zI : ∀ a ob, Z a = some ob → a ≠ I := fun a ob h q => by have := S.dj a ob h; rw [q, self] at this; cases this
  have nI : ∀ a, Zadd H I o a = none → a ≠ I := fun a h q => by rw [q, self] at h; cases h
  have lI := nI _ S.lh
  have has : ∀ y v, Has env s.heap y v → Has env h' y v := fun y v q => by
    rcases q with ⟨k, m, ⟨ob, es, ep, e1, e2⟩, e⟩ | ⟨k, c, e, ob, e1, e2⟩
    · exact .inl ⟨k, m, ⟨ob, es, ep, hk _ _ lI e1, e2⟩, e⟩
    · exact .inr ⟨k, c, e, ob, hk _ _ (hC y c e) e1, e2⟩
  refine ⟨S.fk, S.gl, S.bl, S.gens, S.os, Nat.lt_of_lt_of_le S.tk ht, fun a ob h => hk _ _ (zI a ob h) (S.zin a ob h), fun a ob h => ?_, fun a ob h => ?_, fun a ob h => ?_, ?_, S.lz, ?_, fun y c e => ?_, S.inj, fun y d e => ?_, ?_⟩
  · by_cases q : a = I
    · subst q; rw [Zadd.self] at h; cases h; exact ho
    · rw [ne a q] at h; exact hk _ _ q (S.hin a ob h)
  · rw [ne a (zI a ob h)]; exact S.dj a ob h
  · refine (S.bas a ob h).elim .inl fun q => .inr ?_
    rw [ne a fun z => by rw [z, hB] at h; cases h]; exact q
  · obtain ⟨m, ob, es, ep, e1, e2⟩ := S.ns; exact ⟨m, ob, es, ep, hk _ _ lI e1, e2⟩
  · rw [ne _ lI]; exact S.lh
  · obtain ⟨h0, h1, h2⟩ := S.cells y c e
    refine ⟨h0, fun hf => ?_, fun hf => ?_⟩
    · obtain ⟨a, b, v, ob, e1, e2⟩ := h1 hf
      exact ⟨a, by rw [ne _ (hC y c e)]; exact b, v, ob, hk _ _ (hC y c e) e1, e2⟩
    · obtain ⟨ob, h⟩ := h2 hf
      exact ⟨ob, by rw [ne _ (hC y c e)]; exact h⟩
  · obtain ⟨v, h, r⟩ := S.vars y d e; exact ⟨v, has y v h, r⟩
  · obtain ⟨oa, hi, h⟩ := S.owns
    refine ⟨oa, hi, fun y ds e => ?_⟩
    obtain ⟨g1, g2, g3, g4, g5, vs, k, g6, g7⟩ := h y ds e
    exact ⟨has _ _ g1, g2, by rw [ne _ (nI _ g3)]; exact g3, g4, g5, vs, k, hk _ _ (nI _ g3) g6, g7⟩

/-- it is held no more -/
theorem St.unhold {I : Addr} {o : Obj} (S : St G env Z (Zadd H I o) ρ s) (hB : G.base.get? I = none) (hC : ∀ y c, env.cells.lookup y = some c → c ≠ I) (hH : H I = none) : St G env Z H ρ s := by
  have self : Zadd H I o I = some o := Zadd.self
  have le := Zadd.le (o := o) hH
  have ne : ∀ b, b ≠ I → Zadd H I o b = H b := fun b hb => if_neg hb
  have none_of : ∀ a, Zadd H I o a = none → H a = none := fun a h => by
    cases q : H a with
    | none => rfl
    | some ob => rw [le _ _ q] at h; cases h
  refine ⟨S.fk, S.gl, S.bl, S.gens, S.os, S.tk, S.zin, fun a ob h => S.hin a ob (le _ _ h), fun a ob h => none_of a (S.dj a ob h), fun a ob h => ?_, S.ns, S.lz, none_of _ S.lh, fun y c e => ?_, S.inj, S.vars, ?_⟩
  · refine (S.bas a ob h).elim .inl fun q => .inr ?_
    rwa [ne a fun z => by rw [z, hB] at h; cases h] at q
  · obtain ⟨h0, h1, h2⟩ := S.cells y c e
    refine ⟨h0, fun hf => ?_, fun hf => ?_⟩
    · obtain ⟨a, b, v⟩ := h1 hf
      exact ⟨a, none_of _ b, v⟩
    · obtain ⟨ob, h⟩ := h2 hf
      rw [ne _ (hC y c e)] at h
      exact ⟨ob, h⟩
  · obtain ⟨oa, hi, h⟩ := S.owns
    refine ⟨oa, hi, fun y ds e => ?_⟩
    obtain ⟨g1, g2, g3, g4⟩ := h y ds e
    exact ⟨g1, g2, none_of _ g3, g4⟩

/-- a held object is let go, whatever becomes of it -/
theorem St.drop {I : Addr} {o : Obj} {h' : Heap} {t : Nat} (S : St G env Z (Zadd H I o) ρ s) (hB : G.base.get? I = none) (hC : ∀ y c, env.cells.lookup y = some c → c ≠ I) (hH : H I = none)
    (hk : ∀ b ob, b ≠ I → s.heap.get? b = some ob → h'.get? b = some ob) (ht : s.toks ≤ t) : St G env Z H ρ { s with heap := h', toks := t } := by
  have self : Zadd H I o I = some o := Zadd.self
  have le := Zadd.le (o := o) hH
  have ne : ∀ b, b ≠ I → Zadd H I o b = H b := fun b hb => if_neg hb
  have none_of : ∀ a, Zadd H I o a = none → H a = none := fun a h => by
    cases q : H a with
    | none => rfl
    | some ob => rw [le _ _ q] at h; cases h
  have zI : ∀ a ob, Z a = some ob → a ≠ I := fun a ob h q => by have := S.dj a ob h; rw [q, self] at this; cases this
  have nI : ∀ a, Zadd H I o a = none → a ≠ I := fun a h q => by rw [q, self] at h; cases h
  have hI : ∀ a ob, H a = some ob → a ≠ I := fun a ob h q => by rw [q, hH] at h; cases h
  have lI := nI _ S.lh
  have has : ∀ y v, Has env s.heap y v → Has env h' y v := fun y v q => by
    rcases q with ⟨k, m, ⟨ob, es, ep, e1, e2⟩, e⟩ | ⟨k, c, e, ob, e1, e2⟩
    · exact .inl ⟨k, m, ⟨ob, es, ep, hk _ _ lI e1, e2⟩, e⟩
    · exact .inr ⟨k, c, e, ob, hk _ _ (hC y c e) e1, e2⟩
  refine ⟨S.fk, S.gl, S.bl, S.gens, S.os, Nat.lt_of_lt_of_le S.tk ht, fun a ob h => hk _ _ (zI a ob h) (S.zin a ob h), fun a ob h => hk _ _ (hI a ob h) (S.hin a ob (le _ _ h)), fun a ob h => none_of a (S.dj a ob h), fun a ob h => ?_, ?_, S.lz, none_of _ S.lh, fun y c e => ?_, S.inj, fun y d e => ?_, ?_⟩
  · refine (S.bas a ob h).elim .inl fun q => .inr ?_
    rwa [ne a fun z => by rw [z, hB] at h; cases h] at q
  · obtain ⟨m, ob, es, ep, e1, e2⟩ := S.ns; exact ⟨m, ob, es, ep, hk _ _ lI e1, e2⟩
  · obtain ⟨h0, h1, h2⟩ := S.cells y c e
    refine ⟨h0, fun hf => ?_, fun hf => ?_⟩
    · obtain ⟨a, b, v, ob, e1, e2⟩ := h1 hf
      exact ⟨a, none_of _ b, v, ob, hk _ _ (hC y c e) e1, e2⟩
    · obtain ⟨ob, h⟩ := h2 hf
      rw [ne _ (hC y c e)] at h
      exact ⟨ob, h⟩
  · obtain ⟨v, h, r⟩ := S.vars y d e; exact ⟨v, has y v h, r⟩
  · obtain ⟨oa, hi, h⟩ := S.owns
    refine ⟨oa, hi, fun y ds e => ?_⟩
    obtain ⟨g1, g2, g3, g4, g5, vs, k, g6, g7⟩ := h y ds e
    exact ⟨has _ _ g1, g2, none_of _ g3, g4, g5, vs, k, hk _ _ (nI _ g3) g6, g7⟩

end
end
section
open PySem PySem.W PyProof.Rows
set_option linter.unusedVariables false
section
variable {G : Gnd} {env : Env} {Z Z' H : Zf} {ρ ρ' : Loc} {s s' : Shared} {A : Around} {E : Value → Shared → Prop} {n : Nat} {pos apos : Pos}

def ownsTuples (T : String) : Bool := ["enumerate", "zip", "dict_itemiterator", "dict_reverseitemiterator", "odict_iterator", "itertools.zip_longest", "itertools.pairwise"].contains T

/-- an iterator's turns, at times when the counter is behind G.t0 -/
structure WalksG (G : Gnd) (A : Around) (I : Addr) (fp wr : List Addr) (n : Nat) (P : Nat → Value → Prop) (St : Nat → Heap → Prop) : Prop where
  sub : ∀ b ∈ wr, b ∈ fp
  frame : ∀ i h h', St i h → (∀ b ∈ fp, ∀ o, h.get? b = some o → h'.get? b = some o) → St i h'
  item : ∀ i (s : Shared) (Q : Option Value → Shared → Prop) (E : Value → Shared → Prop), i < n → G.t0 < s.toks → St i s.heap →
    (∀ v h' tk, P i v → St (i + 1) h' → (∀ b o, b ∉ wr → s.heap.get? b = some o → h'.get? b = some o) → Q (some v) { s with heap := h', toks := tk }) → wpAny (model G.prog G.w) A (pyNext (.ref I)) Q E s
  done : ∀ (s : Shared) (Q : Option Value → Shared → Prop) (E : Value → Shared → Prop), St n s.heap →
    (∀ h' tk, (∀ b o, b ∉ wr → s.heap.get? b = some o → h'.get? b = some o) → Q none { s with heap := h', toks := tk }) → wpAny (model G.prog G.w) A (pyNext (.ref I)) Q E s
  self : ∀ i (s : Shared) (Q : Value → Shared → Prop) (E : Value → Shared → Prop), St i s.heap → Q (.ref I) s → wpAny (model G.prog G.w) A (pyIter (.ref I)) Q E s
theorem toWG {I : Addr} {fp wr : List Addr} {n : Nat} {P : Nat → Value → Prop} {St : Nat → Heap → Prop} (W : Walks G.prog G.w A I fp wr n P St) : WalksG G A I fp wr n P St :=
  ⟨W.sub, W.frame, fun i s Q E hi _ st h => W.item i s Q E hi st h, W.done, W.self⟩

/-- an iterator that is new, and the data that it will give -/
def ItrAt (G : Gnd) (Z : Zf) (ds : List D) (s s' : Shared) (it : Value) : Prop :=
  ∃ (I : Addr) (fp : List Addr) (P : Nat → Value → Prop) (W : Nat → Heap → Prop), it = .ref I ∧ Ext Z s Z s' ∧ s.heap.get? I = none ∧ (∀ A' : Around, A'.handled = none → WalksG G A' I fp [I] ds.length P W) ∧
    (∀ b ∈ fp, b = I ∨ ∃ o, Z b = some o) ∧ W 0 s'.heap ∧ (∀ i h, W i h → ∃ o T, h.get? I = some o ∧ o.cls = .type T ∧ ownsTuples T = false) ∧ (∀ i v, P i v → ∃ d, ds[i]? = some d ∧ Rep G Z v d)
structure Itr (G : Gnd) (d : D) (ds : List D) : Prop where
  run : ∀ A Z s v, Room 0 A → Bs G Z s → Rep G Z v d → wpAny (model G.prog G.w) A (pyIter v) (fun it s' => ItrAt G Z ds s s' it) (fun _ _ => False) s

/-- a target takes a datum -/
structure Asg (G : Gnd) (env : Env) (tgt : PySem.Expr) (d : D) (ρ ρ' : Loc) : Prop where
  run : ∀ A Z H s v, Room 0 A → St G env Z H ρ s → Rep G Z v d → wpAny (model G.prog G.w) A (assign tgt env v) (fun _ s' => ∃ Z', Zle Z Z' ∧ St G env Z' H ρ' s') (fun _ _ => False) s
theorem asg_name {x : Str} {p : Pos} {d : D} (hc : Can env x) : Asg G env (.Name x p) d ρ (upd ρ x (.val d)) :=
  Asg.mk fun A Z H s v R S r => wpAny_assign_Name (wp_seq (st_store S r hc) fun _ _ S' => ⟨Z, Zle.same, S'⟩)

theorem wp_letOwned {tgt : PySem.Expr} {I : Addr} {v : Value} {o : Obj} {T : String} {M : Model} {Q : Unit → Shared → Prop} (ho : s.heap.get? I = some o) (hc : o.cls = .type T) (hT : ownsTuples T = false) (h : Q () s) :
    wpAny M A (letOwnedTupleGo tgt (.ref I) v) Q E s := by
  have go : wpAny M A (match (Value.ref I, v) with
    | (.ref r, .ref a) => do
      let o ← load r
      match o.cls, o.data with
      | .type n, .fields vs =>
        if ["enumerate", "zip", "dict_itemiterator", "dict_reverseitemiterator", "odict_iterator", "itertools.zip_longest", "itertools.pairwise"].contains n && vs[0]? == some (rawInt a) then
          rule "for.unpacks-the-owned-tuple"
          updateField r 0 .none
      | _, _ => pure ()
    | _ => pure ()) Q E s := by
    cases v with
    | ref a =>
      refine wpAny_bind (wpAny_load ho ?_)
      rw [hc]
      cases o.data <;> first | exact wpAny_pure h | skip
      rename_i vs
      unfold ownsTuples at hT
      dsimp only
      rw [hT]
      exact wpAny_pure h
    | _ => exact wpAny_pure h
  unfold letOwnedTupleGo
  cases tgt <;> first | exact wpAny_pure h | exact go

def LoopPost (Φ : Fl → Loc → Prop) (K : Loc → Prop) : Fl → Loc → Prop
  | .next, ρ => K ρ
  | .cont, ρ => K ρ
  | .brk, ρ => Φ .next ρ
  | .ret d, ρ => Φ (.ret d) ρ

theorem ex_for {tgt iter : PySem.Expr} {body : List Stmt} {d : D} {ds : List D} {Φ : Fl → Loc → Prop} (P : Nat → Loc → Prop) (h : Ev G env n ρ iter d) (hi : Itr G d ds) (h0 : P 0 ρ)
    (turn : ∀ i d ρ', ds[i]? = some d → P i ρ' → ∃ ρ'', Asg G env tgt d ρ' ρ'' ∧ Exs G env n ρ'' body (LoopPost Φ (P (i + 1))))
    (done : ∀ ρ', P ds.length ρ' → Φ .next ρ') (hs : ∀ x, foldedSetIterable iter env x = pure x) : Ex G env n ρ (.For tgt iter body [] pos) Φ := by
  constructor
  intro A Z H s R S
  refine wpAny_For (wp_seq (h.run A Z H s R S) fun v s₁ ⟨Z₁, x₁, r₁⟩ => wp_seq (hi.run A Z₁ s₁ v (R.less (Nat.zero_le _)) (S.ext x₁).bs r₁) fun it s₂ ⟨I, fp, P', W, e, x₂, hI, hW, hfp, hW0, hcls, hP⟩ => ?_) hs
  subst e
  have W₀ := hW A R.handled
  obtain ⟨o₂, _, ho₂, _⟩ := hcls 0 _ hW0
  obtain ⟨S₂, hB, hH, hZ, hC⟩ := (S.ext x₁).hold x₂ hI ho₂
  refine codeAny_forLoop_any (fun m s => ∃ i Zc ρc o, m = ds.length - i ∧ i ≤ ds.length ∧ Zle Z₁ Zc ∧ St G env Zc (Zadd H I o) ρc s ∧ W i s.heap ∧ P i ρc) (fun m s hm => ?_) ds.length ⟨0, Z₁, ρ, o₂, rfl, Nat.zero_le _, Zle.same, S₂, hW0, h0⟩
  obtain ⟨i, Zc, ρc, o, rfl, hle, lec, Sc, hWi, hPi⟩ := hm
  by_cases hlt : i < ds.length
  · refine wpAny_with_toks (Nat.le_refl s.toks) (W₀.item i s _ _ hlt Sc.tk hWi fun v h' tk pv hW' hk tok => ?_)
    obtain ⟨d', hd', rv⟩ := hP i v pv
    obtain ⟨o', T, ho', hcT, hT⟩ := hcls _ _ hW'
    have St' := Sc.turn (t := tk) hB hC (fun b ob hb e => hk b ob (by simpa using hb) e) ho' tok
    refine wp_letOwned (s := { s with heap := h', toks := tk }) ho' hcT hT ?_
    obtain ⟨ρ'', ha, hb⟩ := turn i d' ρc hd' hPi
    refine wp_seq (ha.run A Zc _ _ v (R.less (Nat.zero_le _)) St' (rv.mono lec)) fun _ s₄ ⟨Z₄, le₄, S₄⟩ => ?_
    refine wp_seq (hb.run A Z₄ _ s₄ R S₄) fun f s₅ ⟨Z₅, ρ₅, fl, le₅, S₅, hf, hΦ⟩ => ?_
    have les : Zle Z Z₅ := x₁.le.trans (lec.trans (le₄.trans le₅))
    have nx : P (i + 1) ρ₅ → ∃ m, m < ds.length - i ∧ ∃ i Zc ρc o, m = ds.length - i ∧ i ≤ ds.length ∧ Zle Z₁ Zc ∧ St G env Zc (Zadd H I o) ρc s₅ ∧ W i s₅.heap ∧ P i ρc := fun hp => by
      refine ⟨ds.length - (i + 1), by omega, i + 1, Z₅, ρ₅, o', rfl, by omega, lec.trans (le₄.trans le₅), S₅, W₀.frame _ _ _ hW' fun b hb ob e => ?_, hp⟩
      rcases hfp b hb with rfl | ⟨oz, hz⟩
      · have e' : h'.get? b = some ob := e
        rw [ho'] at e'; cases e'
        exact S₅.hin _ _ Zadd.self
      · have e1 := St'.zin b oz (lec b oz hz)
        have e' : h'.get? b = some ob := e
        have e2 : h'.get? b = some oz := e1
        rw [e'] at e2; cases e2
        exact S₅.zin _ _ (le₅ _ _ (le₄ _ _ (lec _ _ hz)))
    cases hf with
    | next => exact nx hΦ
    | cont => exact nx hΦ
    | brk => exact ⟨Z₅, ρ₅, .next, les, S₅.unhold hB hC hH, .next, hΦ⟩
    | ret r => exact ⟨Z₅, ρ₅, .ret _, les, S₅.unhold hB hC hH, .ret r, hΦ⟩
  · have hlen : i = ds.length := by omega
    subst hlen
    refine wpAny_with_toks (Nat.le_refl s.toks) (W₀.done s _ _ hWi fun h' tk hk tok => ?_)
    refine wpAny_execs_nil ?_
    exact ⟨Zc, ρc, .next, x₁.le.trans lec, Sc.drop (t := tk) hB hC hH (fun b ob hb e => hk b ob (by simpa using hb) e) tok, .next, done _ hPi⟩

/-- a while, by a measure -/
theorem ex_while {t : PySem.Expr} {body : List Stmt} {Φ : Fl → Loc → Prop} (P : Nat → Loc → Prop) {m : Nat} (h0 : P m ρ)
    (turn : ∀ m ρ', P m ρ' → ∃ c, Tst G env n ρ' t c ∧ (c = true → Exs G env n ρ' body (LoopPost Φ fun ρ'' => ∃ k, k < m ∧ P k ρ'')) ∧ (c = false → Φ .next ρ')) : Ex G env n ρ (.While t body [] pos) Φ := by
  constructor
  intro A Z H s R S
  refine wpAny_While ?_
  refine codeAny_whileLoop (fun m s => ∃ Zc ρc, Zle Z Zc ∧ St G env Zc H ρc s ∧ P m ρc) (fun m s hm => ?_) m ⟨Z, ρ, Zle.same, S, h0⟩
  obtain ⟨Zc, ρc, lec, Sc, hp⟩ := hm
  obtain ⟨c, ht, h1, h2⟩ := turn m ρc hp
  refine wp_seq (ht.run A Zc H s R Sc) fun c' s₁ ⟨e, x⟩ => ?_
  subst e
  cases c' with
  | false => exact wpAny_execs_nil ⟨Zc, ρc, .next, lec, Sc.ext x, .next, h2 rfl⟩
  | true =>
    refine wp_seq ((h1 rfl).run A Zc H s₁ R (Sc.ext x)) fun f s₂ ⟨Z₂, ρ₂, fl, le₂, S₂, hf, hΦ⟩ => ?_
    cases hf with
    | next => obtain ⟨k, hk, hp⟩ := hΦ; exact ⟨k, hk, Z₂, ρ₂, lec.trans le₂, S₂, hp⟩
    | cont => obtain ⟨k, hk, hp⟩ := hΦ; exact ⟨k, hk, Z₂, ρ₂, lec.trans le₂, S₂, hp⟩
    | brk => exact ⟨Z₂, ρ₂, .next, lec.trans le₂, S₂, .next, hΦ⟩
    | ret r => exact ⟨Z₂, ρ₂, .ret _, lec.trans le₂, S₂, .ret r, hΦ⟩

/-- the text's def at an address -/
structure DefAt (G : Gnd) (a : Addr) (fd : FuncData) (body : List Stmt) : Prop where
  obj : ∃ o, G.K.lookup a = some o ∧ o.data = .func fd
  code : codeIn G.K fd.code fd.qualname = true
  body : fd.body = .stmts body
  closure : fd.closure = []
  gl : fd.globals = mainGlobals
  bl : fd.builtins = builtinsNs
  co : fd.scope.isCoroutine = false
  gen : fd.scope.isGenerator = false
  kind : fd.scope.kind = .function

/-- the names that the parameters are, at the start -/
def startLoc : List Str → List D → Loc
  | x :: xs, d :: ds => (x, .val d) :: startLoc xs ds
  | _, _ => []

end
end
section
open PySem PySem.W PyProof.Rows
set_option linter.unusedVariables false
section
variable {G : Gnd} {env : Env} {Z Z' H : Zf} {ρ ρ' : Loc} {s s' : Shared} {A : Around} {E : Value → Shared → Prop} {n : Nat} {pos apos : Pos}

theorem bindL_skip {k : Str → Option NameKind} {x : Str} : ∀ {bs : List (Str × Value)} {m : Str → Option Value}, x ∉ bs.map (·.1) → bindL k bs m x = m x
  | [], _, _ => rfl
  | (y, v) :: r, m, h => by
    simp only [List.map_cons, List.mem_cons, not_or] at h
    unfold bindL
    rw [bindL_skip h.2]
    split
    · exact if_neg h.1
    · rfl
theorem bindL_get {k : Str → Option NameKind} {x : Str} {v : Value} (hk : k x = some .local) : ∀ {bs : List (Str × Value)} {m : Str → Option Value}, (bs.map (·.1)).Nodup → (x, v) ∈ bs → bindL k bs m x = some v
  | (y, w) :: r, m, hn, h => by
    simp only [List.map_cons, List.nodup_cons] at hn
    unfold bindL
    rcases List.mem_cons.mp h with e | h
    · cases e
      rw [bindL_skip hn.1, if_pos hk, if_pos rfl]
    · exact bindL_get hk hn.2 h
theorem bindC_skip {k : Str → Option NameKind} {x : Str} : ∀ {bs : List (Str × Value)} {m : Str → Option Value}, x ∉ bs.map (·.1) → bindC k bs m x = m x
  | [], _, _ => rfl
  | (y, v) :: r, m, h => by
    simp only [List.map_cons, List.mem_cons, not_or] at h
    unfold bindC
    rw [bindC_skip h.2]
    split
    · rfl
    · exact if_neg h.1
theorem bindC_get {k : Str → Option NameKind} {x : Str} {v : Value} (hk : k x = some .cell) : ∀ {bs : List (Str × Value)} {m : Str → Option Value}, (bs.map (·.1)).Nodup → (x, v) ∈ bs → bindC k bs m x = some v
  | (y, w) :: r, m, hn, h => by
    simp only [List.map_cons, List.nodup_cons] at hn
    unfold bindC
    rcases List.mem_cons.mp h with e | h
    · cases e
      rw [bindC_skip hn.1, if_neg (by rw [hk]; decide), if_pos rfl]
    · exact bindC_get hk hn.2 h

theorem startLoc_lookup {b : B} : ∀ {xs : List Str} {ds : List D} {vs : List Value} {x : Str}, RepAll G Z vs ds → xs.length = ds.length → (startLoc xs ds).lookup x = some b → ∃ v d, b = .val d ∧ (x, v) ∈ xs.zip vs ∧ Rep G Z v d
  | [], _, _, _, _, _, h => by simp [startLoc] at h
  | y :: xs, [], _, _, _, hl, _ => by simp at hl
  | y :: xs, d :: ds, v :: vs, x, .cons r rs, hl, h => by
    unfold startLoc at h
    rw [List.lookup_cons] at h
    by_cases q : x = y
    · subst q
      simp at h
      subst h
      exact ⟨v, d, rfl, by simp, r⟩
    · rw [beq_eq_false_iff_ne.mpr q] at h
      obtain ⟨v', d', e, hm, r'⟩ := startLoc_lookup rs (by simpa using hl) h
      exact ⟨v', d', e, by simp [hm], r'⟩

/-- what a call leaves, once its frame is gone -/
theorem ext_of_frame (b : Bs G Z s) (hZ' : Zle Z Z') (S : St G env Z' (fun a => if Z a = none then s.heap.get? a else none) ρ s') (ht : s.toks ≤ s'.toks) : Ext Z s Z' s' where
  le := hZ'
  keep := fun a o h => by
    cases q : Z a with
    | some o' =>
      have := b.zin a o' q
      rw [h] at this; cases this
      exact S.zin _ _ (hZ' _ _ q)
    | none => exact S.hin a o (by simp [q, h])
  zin := S.zin
  new := fun a o h => by
    cases q : Z a with
    | some o' => left; have := hZ' _ _ q; rw [h] at this; cases this; rfl
    | none =>
      right
      have := S.dj a o h
      simpa [q] using this
  gens := S.gens.trans b.gens.symm
  os := S.os.trans b.os.symm
  tk := ht

def RetPost (d : D) : Fl → Loc → Prop
  | .ret d', _ => d' = d
  | .next, _ => d = .none
  | _, _ => False

theorem fn_of {a : Addr} {fd : FuncData} {body : List Stmt} {xs : List Str} {ds : List D} {d : D} (D : DefAt G a fd body) (hb : ∀ vs : List Value, vs.length = xs.length → bindArgs fd ⟨vs, []⟩ = pure (xs.zip vs)) (hlen : xs.length = ds.length)
    (hx : ∀ x ∈ xs, fd.scope.names.lookup x = some .local ∨ (fd.scope.names.lookup x = some .cell ∧ ∀ k, ((cellsFrom k fd.scope.names []).lookup x).isSome = true)) (hnd : xs.Nodup)
    (h : ∀ L, Exs G (callEnvC fd L a) n (startLoc xs ds) body (RetPost d)) : Fn G (n + 1) a ds d := by
  constructor
  intro A Z s vs R b r
  obtain ⟨o, ho, hd⟩ := D.obj
  have hvl : vs.length = xs.length := r.length.trans hlen.symm
  have hmap : (xs.zip vs).map (·.1) = xs := by rw [List.map_fst_zip]; omega
  have hnd' : ((xs.zip vs).map (·.1)).Nodup := by rw [hmap]; exact hnd
  refine wp_tok ?_
  refine wpAny_call ?_
  refine codeAny_call_function (by have := R.depth; omega) (b.X _ _ ho) hd D.co D.gen D.body (codeRec_of b.X D.code) ?_
  rw [hb vs hvl, D.closure]
  refine wpAny_pure (wpAny_with_toks (Nat.le_refl s.toks) (wpAny_newFunctionEnv_cells D.kind (fun x hm => ?_) fun env he s₁ x tok => ?_))
  · have : x.1 ∈ xs := by rw [← hmap]; exact List.mem_map_of_mem hm
    rcases hx _ this with q | ⟨q, q'⟩
    · exact .inl q
    · exact .inr ⟨q, q' _⟩
  subst he
  have hcall := x.toInCall
  obtain ⟨h₁, tk, rfl, hk₁⟩ := x.done
  refine ⟨b.nolimit.keeps hcall.keep, codeAny_func ?_⟩
  have HZ : ∀ a' o', (if Z a' = none then s.heap.get? a' else none) = some o' → Z a' = none ∧ s.heap.get? a' = some o' := fun a' o' e => by
    split at e
    · rename_i q; exact ⟨q, e⟩
    · cases e
  have hLnone : s.heap.get? s.heap.objs.size = none := get?_size_none _
  have nz : ∀ c, s.heap.objs.size ≤ c → s.heap.get? c = none := fun c hc => by
    cases q : s.heap.get? c with
    | none => rfl
    | some ob => exact absurd (Heap.lt_size q) (Nat.not_lt.mpr hc)
  have nzZ : ∀ c, s.heap.objs.size ≤ c → Z c = none := fun c hc => by
    cases q : Z c with
    | none => rfl
    | some ob => have := b.zin c ob q; rw [nz c hc] at this; cases this
  have S₁ : St G (callEnvC fd s.heap.objs.size a) Z (fun a => if Z a = none then s.heap.get? a else none) (startLoc xs ds) { s with heap := h₁, toks := tk } := by
    refine ⟨D.kind, D.gl, D.bl, b.gens, b.os, Nat.lt_of_lt_of_le b.tk tok, fun a' o' e => hk₁ _ _ (b.zin _ _ e), fun a' o' e => hk₁ _ _ (HZ _ _ e).2, fun a' o' e => by simp [e], fun a' o' e => ?_, ⟨_, hcall.ns⟩, nzZ _ (Nat.le_refl _), ?_, fun y c e => ⟨?_, fun _ => ?_, fun hf => by cases hf⟩, ?_, fun y d' e => ?_, ?_⟩
    · have e' := b.bas _ _ e
      cases q : Z a' with
      | none => right; simp [q, e']
      | some ob => left; have := b.zin _ _ q; rw [e'] at this; cases this; rfl
    · show (if Z s.heap.objs.size = none then s.heap.get? s.heap.objs.size else none) = none
      rw [nzZ _ (Nat.le_refl _), if_pos rfl]; exact hLnone
    · exact Nat.ne_of_gt (x.above y c (mem_of_lookup e))
    · have hc : s.heap.objs.size ≤ c := Nat.le_of_lt (x.above y c (mem_of_lookup e))
      refine ⟨nzZ c hc, ?_, _, x.cell y c e⟩
      show (if Z c = none then s.heap.get? c else none) = none
      rw [nzZ c hc, if_pos rfl]; exact nz c hc
    · exact fun y z c e e' => name_of_addr x.apart (mem_of_lookup e) (mem_of_lookup e')
    · obtain ⟨v, d'', e', hm, r'⟩ := startLoc_lookup r hlen e
      cases e'
      have hxm : y ∈ xs := by rw [← hmap]; exact List.mem_map_of_mem hm
      refine ⟨v, ?_, r'⟩
      rcases hx y hxm with q | ⟨q, q'⟩
      · exact .inl ⟨q, _, hcall.ns, bindL_get (k := (callEnvC fd s.heap.objs.size a).kindOf) q hnd' hm⟩
      · obtain ⟨c, hc⟩ := Option.isSome_iff_exists.mp (q' (s.heap.objs.size + 1))
        refine .inr ⟨.inl q, c, hc, ?_⟩
        have := x.cell y c hc
        exact (bindC_get (k := (callEnvC fd s.heap.objs.size a).kindOf) q hnd' hm) ▸ this
    · refine ⟨fun _ => 0, fun y z es es' e => ?_, fun y es e => ?_⟩
      · obtain ⟨_, _, e', _⟩ := startLoc_lookup r hlen e; cases e'
      · obtain ⟨_, _, e', _⟩ := startLoc_lookup r hlen e; cases e'
  refine wp_seq ((h s.heap.objs.size).run _ Z _ _ R.deeper S₁) fun f s₂ ⟨Z₂, ρ₂, fl, le₂, S₂, hf, hΦ⟩ tok₂ => ?_
  cases hf with
  | next => cases hΦ; exact ⟨Z₂, ext_of_frame b le₂ S₂ tok₂, .none⟩
  | brk => exact hΦ.elim
  | cont => exact hΦ.elim
  | ret r' => cases hΦ; exact ⟨Z₂, ext_of_frame b le₂ S₂ tok₂, r'⟩

end
end
section
open PySem PySem.W PyProof.Rows
set_option linter.unusedVariables false
section
variable {G : Gnd} {env : Env} {Z Z' H H' : Zf} {ρ ρ' : Loc} {s s' : Shared} {A : Around} {E : Value → Shared → Prop} {n : Nat} {pos apos : Pos}

/-- what is known is forgotten -/
def Sub (ρ ρ' : Loc) : Prop := ∀ x b, ρ.lookup x = some b → ρ'.lookup x = some b
theorem St.weaken (S : St G env Z H ρ' s) (h : Sub ρ ρ') : St G env Z H ρ s :=
  { S with
    vars := fun x d e => S.vars x d (h x _ e)
    owns := let ⟨oa, hi, ho⟩ := S.owns; ⟨oa, fun x y ds es ex ey => hi x y ds es (h x _ ex) (h y _ ey), fun x ds e => ho x ds (h x _ e)⟩ }
/-- held objects are changed, or held anew, or no more -/
theorem St.shift (S : St G env Z H ρ s) {h' : Heap} {t : Nat} (T : Addr → Prop) (hT : ∀ a, T a → G.base.get? a = none ∧ (∀ y c, env.cells.lookup y = some c → c ≠ a) ∧ ((∃ o, H a = some o) ∨ s.heap.get? a = none))
    (hk : ∀ b ob, ¬ T b → s.heap.get? b = some ob → h'.get? b = some ob) (hH : ∀ b, ¬ T b → H' b = H b) (hH' : ∀ a o, T a → H' a = some o → h'.get? a = some o) (ht : s.toks ≤ t) : St G env Z H' ρ { s with heap := h', toks := t } := by
  have zT : ∀ a ob, Z a = some ob → ¬ T a := fun a ob h q => by
    rcases (hT a q).2.2 with ⟨o, e⟩ | e
    · have := S.dj a ob h; rw [e] at this; cases this
    · have := S.zin a ob h; rw [e] at this; cases this
  have nT : ∀ a ob, s.heap.get? a = some ob → H a = none → ¬ T a := fun a ob h hn q => by
    rcases (hT a q).2.2 with ⟨o, e⟩ | e
    · rw [hn] at e; cases e
    · rw [h] at e; cases e
  obtain ⟨m, oL, es, ep, eL, eL'⟩ := S.ns
  have lT := nT _ _ eL S.lh
  have cT : ∀ y c, env.cells.lookup y = some c → ¬ T c := fun y c e q => (hT c q).2.1 y c e rfl
  have has : ∀ y v, Has env s.heap y v → Has env h' y v := fun y v q => by
    rcases q with ⟨k, m, ⟨ob, es, ep, e1, e2⟩, e⟩ | ⟨k, c, e, ob, e1, e2⟩
    · exact .inl ⟨k, m, ⟨ob, es, ep, hk _ _ lT e1, e2⟩, e⟩
    · exact .inr ⟨k, c, e, ob, hk _ _ (cT y c e) e1, e2⟩
  refine ⟨S.fk, S.gl, S.bl, S.gens, S.os, Nat.lt_of_lt_of_le S.tk ht, fun a ob h => hk _ _ (zT a ob h) (S.zin a ob h), fun a ob h => ?_, fun a ob h => ?_, fun a ob h => ?_, ⟨m, oL, es, ep, hk _ _ lT eL, eL'⟩, S.lz, ?_, fun y c e => ?_, S.inj, fun y d e => ?_, ?_⟩
  · by_cases q : T a
    · exact hH' a ob q h
    · rw [hH a q] at h; exact hk _ _ q (S.hin a ob h)
  · rw [hH a (zT a ob h)]; exact S.dj a ob h
  · refine (S.bas a ob h).elim .inl fun q => .inr ?_
    rw [hH a fun z => by rw [(hT a z).1] at h; cases h]; exact q
  · rw [hH _ lT]; exact S.lh
  · obtain ⟨h0, h1, h2⟩ := S.cells y c e
    refine ⟨h0, fun hf => ?_, fun hf => ?_⟩
    · obtain ⟨a, b, v, ob, e1, e2⟩ := h1 hf
      exact ⟨a, by rw [hH _ (cT y c e)]; exact b, v, ob, hk _ _ (cT y c e) e1, e2⟩
    · obtain ⟨ob, h⟩ := h2 hf
      exact ⟨ob, by rw [hH _ (cT y c e)]; exact h⟩
  · obtain ⟨v, h, r⟩ := S.vars y d e; exact ⟨v, has y v h, r⟩
  · obtain ⟨oa, hi, h⟩ := S.owns
    refine ⟨oa, hi, fun y ds e => ?_⟩
    obtain ⟨g1, g2, g3, g4, g5, vs, k, g6, g7⟩ := h y ds e
    exact ⟨has _ _ g1, g2, by rw [hH _ (nT _ _ g6 g3)]; exact g3, g4, g5, vs, k, hk _ _ (nT _ _ g6 g3) g6, g7⟩

structure Tsts (G : Gnd) (env : Env) (n : Nat) (ρ : Loc) (ifs : List PySem.Expr) (ok : Bool) : Prop where
  run : ∀ A Z H s, Room n A → St G env Z H ρ s → wpAny (model G.prog G.w) A (forIn ifs true fun c r => if r = true then do let ok ← isTrue c env (eval c env); pure (ForInStep.yield ok) else pure (ForInStep.yield r)) (fun b s' => b = ok ∧ Ext Z s Z s') (fun _ _ => False) s
theorem tsts_nil : Tsts G env n ρ [] true := Tsts.mk fun A Z H s R S => wpAny_tests_nil ⟨rfl, S.same⟩
/-- what stands while a comprehension's loop runs: its iterator and its list are held -/
structure CRun (G : Gnd) (env : Env) (n : Nat) (e : PySem.Expr) (k : Nat) (ρ : Loc) (ds : List D) (out : List D) : Prop where
  run : ∀ A Z H s I D fp P W vs m outs o, Room n A → St G env Z H ρ s → H I = some o → H D = some (listOf vs.toArray m) → I ≠ D → RepAll G Z vs outs → outs.length + out.length ≤ sizeLine →
    G.base.get? I = none → G.base.get? D = none → (∀ y c, env.cells.lookup y = some c → c ≠ I ∧ c ≠ D) →
    (∀ A' : Around, A'.handled = none → WalksG G A' I fp [I] ds.length P W) → (∀ b ∈ fp, b = I ∨ ∃ o, Z b = some o) → W 0 s.heap → (∀ i h, W i h → ∃ o T, h.get? I = some o ∧ o.cls = .type T ∧ ownsTuples T = false) →
    (∀ i v, P i v → ∃ d, ds[i]? = some d ∧ Rep G Z v d) →
    codeAny (model G.prog G.w) A (.compLoop e k (.ref I) (.ref D) env) (fun r s' => r = .ok .next ∧ ∃ Z' H' vs' m', Zle Z Z' ∧ (∀ b, b ≠ I → b ≠ D → H' b = H b) ∧ H' I = none ∧ H' D = some (listOf vs'.toArray m') ∧
      St G env Z' H' ρ s' ∧ RepAll G Z' vs' (outs ++ out)) s

theorem comp_start {elt : PySem.Expr} {gens : List Comprehension} {g : Comprehension} {scope : Scope} {k : Nat} {it acc : Value} {R : Result → Shared → Prop} {prog : Program} {w : World} (hg : gens[k]? = some g) (ha : g.is_async = 0)
    (h0 : codeAny (model prog w) A (.compLoop (.ListComp elt gens scope pos) k it acc env) R s)
    (h : wpAny (model prog w) A (pyIter it) (fun it' s' => codeAny (model prog w) A (.compLoop (.ListComp elt gens scope pos) k it' acc env) R s') (notedBy (model prog w) A env fun x s' => R (.error x) s') s) :
    codeAny (model prog w) A (.compStart (.ListComp elt gens scope pos) k it acc env) R s := by
  refine codeAny_of_tree ?_
  show wpAny _ _ ((compStart (.ListComp elt gens scope pos) k it acc env).onRaise (fun x => do noteFrame x env; standAt theWindowsPlace)) _ _ s
  refine wpAny_notedAt ?_
  unfold compStart
  simp only [clausesOf, hg, Option.elim_some, ha]
  show wpAny _ _ (ask >>= _) _ _ s
  refine wpAny_bind (wpAny_askSetting (wpAny_ite ?_))
  split
  · exact wpAny_pure (And.intro rfl h0)
  · exact wpAny_bind (wpAny_rule (wpAny_bind (wpAny_standAt (wpAny_bind (wpAny_mono h (fun it' s' h' => wpAny_pure (And.intro rfl h')) fun _ _ x => x)))))

def CInv (G : Gnd) (env : Env) (ρ : Loc) (Z H : Zf) (I D : Addr) {α : Type} (xs : List α) (F : α → List Mine.D) (outs : List Mine.D) (W : Nat → Heap → Prop) (j : Nat) (s : Shared) : Prop :=
  ∃ (i : Nat) (Zc Hc : Zf) (vs : List Value) (m : Nat) (o : Obj), j = xs.length - i ∧ i ≤ xs.length ∧ Zle Z Zc ∧ (∀ b, b ≠ I → b ≠ D → Hc b = H b) ∧ Hc I = some o ∧ Hc D = some (listOf vs.toArray m) ∧ St G env Zc Hc ρ s ∧ W i s.heap ∧
    RepAll G Zc vs (outs ++ (xs.take i).flatMap F)
/-- the last clause of a comprehension -/
theorem comp_last {elt tgt iter : PySem.Expr} {ifs : List PySem.Expr} {gens : List Comprehension} {scope : Scope} {k : Nat} {α : Type} {xs : List α} {mk : α → D} {F : α → List D}
    (he : ∀ it acc, compTurn (.ListComp elt gens scope pos) k it acc env = (do
      standAt iter.pos
      match ← pyNext it with
      | none => pure (.done .next)
      | some v =>
        letOwnedTupleGo tgt it v
        assign tgt env v
        let mut ok := true
        for c in ifs do
          if ok then ok ← isTrue c env (eval c env)
        if ok then
          (do let _ ← call (.builtin "list.append") [acc, ← eval elt env])
        again (.compLoop (.ListComp elt gens scope pos) k it acc env)))
    (item : ∀ a ∈ xs, ∃ ρ₁ ok, Asg G env tgt (mk a) ρ ρ₁ ∧ Sub ρ ρ₁ ∧ Tsts G env n ρ₁ ifs ok ∧ (ok = false → F a = []) ∧ (ok = true → ∃ x, Ev G env n ρ₁ elt x ∧ F a = [x])) :
    CRun G env n (.ListComp elt gens scope pos) k ρ (xs.map mk) (xs.flatMap F) := by
  constructor
  intro A Z H s I D fp P W vs m outs o R S hI hD hID hv hsz hBI hBD hC hW hfp hW0 hcls hP
  have W₀ := hW A R.handled
  refine codeAny_loop rfl (CInv G env ρ Z H I D xs F outs W) (fun j s hj => ?_) xs.length ⟨0, Z, H, vs, m, o, rfl, Nat.zero_le _, Zle.same, fun _ _ _ => rfl, hI, hD, S, hW0, by simpa using hv⟩
  obtain ⟨i, Zc, Hc, vs, m, o, rfl, hle, lec, hHc, hI, hD, Sc, hWi, hv⟩ := hj
  show wpAny _ A ((compTurn (.ListComp elt gens scope pos) k (.ref I) (.ref D) env).onRaise (fun x => do noteFrame x env; theTreesLotGoes x)) _ _ s
  refine wpAny_noted ?_
  rw [he]
  have len : (xs.map mk).length = xs.length := List.length_map ..
  by_cases hlt : i < xs.length
  · refine wpAny_bind (wpAny_standAt (wpAny_bind (wpAny_with_toks (Nat.le_refl s.toks) (W₀.item i s _ _ (by omega) Sc.tk hWi fun v h' tk pv hW' hk tok => ?_))))
    obtain ⟨d', hd', rv⟩ := hP i v pv
    obtain ⟨o', T, ho', hcT, hTT⟩ := hcls _ _ hW'
    obtain ⟨a, ha⟩ : ∃ a, xs[i]? = some a := ⟨xs[i], by simp [hlt]⟩
    have hd'' : d' = mk a := by rw [List.getElem?_map, ha] at hd'; simpa using hd'.symm
    subst hd''
    have S₁ : St G env Zc (Zadd Hc I o') ρ { s with heap := h', toks := tk } := Sc.shift (fun b => b = I) (fun b q => by subst q; exact ⟨hBI, fun y c e => (hC y c e).1, .inl ⟨_, hI⟩⟩) (fun b ob hb e => hk b ob (by simpa using hb) e)
      (fun b hb => if_neg hb) (fun b ob q e => by subst q; rw [Zadd.self] at e; cases e; exact ho') tok
    have hD₁ : Zadd Hc I o' D = some (listOf vs.toArray m) := by rw [show Zadd Hc I o' D = Hc D from if_neg (Ne.symm hID)]; exact hD
    refine wpAny_bind (wp_letOwned (s := { s with heap := h', toks := tk }) ho' hcT hTT ?_)
    obtain ⟨ρ₁, ok, hasg, hsub, htst, hno, hyes⟩ := item a (List.mem_of_getElem? ha)
    refine wpAny_bind (wp_seq (hasg.run A Zc _ _ v (R.less (Nat.zero_le _)) S₁ (rv.mono lec)) fun _ s₂ ⟨Z₂, le₂, S₂⟩ => ?_)
    refine wpAny_bind (wp_seq (htst.run A Z₂ _ s₂ R S₂) fun ok' s₃ ⟨eo, x₃⟩ => ?_)
    subst eo
    have S₃ := S₂.ext x₃
    have take_succ : (xs.take (i + 1)).flatMap F = (xs.take i).flatMap F ++ F a := by rw [List.take_add_one, ha]; simp
    have nextW : ∀ (Z₄ H₄ : Zf) (s₄ : Shared) (ρ₄ : Loc), Zle Zc Z₄ → H₄ I = some o' → St G env Z₄ H₄ ρ₄ s₄ → W (i + 1) s₄.heap := fun Z₄ H₄ s₄ ρ₄ le₄ hI₄ S₄ => W₀.frame _ _ _ hW' fun b hb ob e => by
      rcases hfp b hb with rfl | ⟨oz, hz⟩
      · rw [ho'] at e; cases e; exact S₄.hin _ _ hI₄
      · have e2 : h'.get? b = some oz := S₁.zin b oz (lec b oz hz)
        rw [e] at e2; cases e2
        exact S₄.zin _ _ (le₄ _ _ (lec _ _ hz))
    cases ok' with
    | false =>
      refine wpAny_pure ⟨rfl, xs.length - (i + 1), by omega, i + 1, Z₂, Zadd Hc I o', vs, m, o', rfl, by omega, lec.trans le₂, fun b h1 h2 => ?_, Zadd.self, hD₁, S₃.weaken hsub, nextW Z₂ _ s₃ ρ₁ le₂ Zadd.self S₃, ?_⟩
      · rw [show Zadd Hc I o' b = Hc b from if_neg h1]; exact hHc b h1 h2
      · rw [take_succ, hno rfl, List.append_nil]; exact hv.mono le₂
    | true =>
      obtain ⟨x, hx, hFx⟩ := hyes rfl
      refine wpAny_bind (wpAny_bind (wp_seq (hx.run A Z₂ _ s₃ R S₃) fun y s₄ ⟨Z₄, x₄, r₄⟩ => wpAny_bind ?_))
      have S₄ := S₃.ext x₄
      have oD := S₄.hin _ _ hD₁
      have hlenv : vs.length ≤ sizeLine := by
        have h1 := hv.length
        rw [List.length_append] at h1
        have h2 : ((xs.take i).flatMap F).length ≤ (xs.flatMap F).length := by
          conv => rhs; rw [← List.take_append_drop i xs, List.flatMap_append, List.length_append]
          omega
        omega
      refine append_at oD (fun h₅ hs₅ ho₅ => ?_) (by simpa using hlenv)
      have S₅ : St G env Z₄ (Zadd (Zadd Hc I o') D (listOf (vs ++ [y]).toArray (m + 1))) ρ₁ { s₄ with heap := h₅ } := S₄.shift (fun b => b = D) (fun b q => by subst q; exact ⟨hBD, fun y c e => (hC y c e).2, .inl ⟨_, hD₁⟩⟩)
        (fun b ob hb e => (hs₅.2 b hb).trans e) (fun b hb => if_neg hb) (fun b ob q e => by subst q; rw [Zadd.self] at e; cases e; rw [ho₅]; simp) (Nat.le_refl _)
      have hI₅ : Zadd (Zadd Hc I o') D (listOf (vs ++ [y]).toArray (m + 1)) I = some o' := by rw [show Zadd (Zadd Hc I o') D (listOf (vs ++ [y]).toArray (m + 1)) I = Zadd Hc I o' I from if_neg hID]; exact Zadd.self
      refine wpAny_pure (wpAny_pure ⟨rfl, xs.length - (i + 1), by omega, i + 1, Z₄, _, vs ++ [y], m + 1, o', rfl, by omega, lec.trans (le₂.trans x₄.le), fun b h1 h2 => ?_, hI₅, Zadd.self, S₅.weaken hsub, nextW Z₄ _ _ ρ₁ (le₂.trans x₄.le) hI₅ S₅, ?_⟩)
      · rw [show Zadd (Zadd Hc I o') D (listOf (vs ++ [y]).toArray (m + 1)) b = Zadd Hc I o' b from if_neg h2, show Zadd Hc I o' b = Hc b from if_neg h1]; exact hHc b h1 h2
      · rw [take_succ, hFx, ← List.append_assoc]; exact (hv.mono (le₂.trans x₄.le)).append (.cons r₄ .nil)
  · have hlen : i = xs.length := by omega
    subst hlen
    refine wpAny_bind (wpAny_standAt (wpAny_bind (wpAny_with_toks (Nat.le_refl s.toks) (W₀.done s _ _ (by rw [len]; exact hWi) fun h' tk hk tok => ?_))))
    refine wpAny_pure ⟨rfl, Zc, fun b => if b = I then none else Hc b, vs, m, lec, fun b h1 h2 => ?_, if_pos rfl, ?_, ?_, ?_⟩
    · exact (if_neg h1).trans (hHc b h1 h2)
    · exact (if_neg (Ne.symm hID)).trans hD
    · exact Sc.shift (fun b => b = I) (fun b q => by subst q; exact ⟨hBI, fun y c e => (hC y c e).1, .inl ⟨_, hI⟩⟩) (fun b ob hb e => hk b ob (by simpa using hb) e) (fun b hb => if_neg hb) (fun b ob q e => by have e' : (if b = I then none else Hc b) = some ob := e; rw [if_pos q] at e'; cases e') tok
    · rwa [List.take_length] at hv

end
end
section
open PySem PySem.W PyProof.Rows
set_option linter.unusedVariables false
section
variable {G : Gnd} {env : Env} {Z Z' H H' : Zf} {ρ ρ' ρc : Loc} {s s' : Shared} {A : Around} {E : Value → Shared → Prop} {n : Nat} {pos apos : Pos}

/-- what must be so of a comprehension's scope, seen from the frame around -/
structure Scoped (env : Env) (scope : Scope) (cl : List (Str × Addr)) (ρ ρc : Loc) : Prop where
  kind : scope.kind = .function
  names : ∀ x ∈ scope.names, x.2 = .local → scope.names.lookup x.1 = some .local
  nocell : ∀ y ∈ scope.names, y.2 ≠ .cell
  clos : closureFor scope env = pure cl
  cells : ∀ x c, cl.lookup x = some c → env.cells.lookup x = some c
  cap : ∀ x b, ρc.lookup x = some b → (∃ d, b = .val d) ∧ ρ.lookup x = some b ∧ env.kindOf x ≠ some .local ∧ (∃ c, cl.lookup x = some c) ∧ ((relabel scope env).names.lookup x = some .cell ∨ ((relabel scope env).names.lookup x = some .free ∧ (x == ("__classdict__" : Str)) = false))

def CompPost (G : Gnd) (Z : Zf) (s : Shared) (out : List D) (acc : Value) (C : Addr) (r : Result) (s' : Shared) : Prop :=
  r = .ok .next ∧ ∃ Z', Ext Z s Z' s' ∧ Rep G Z' acc (.list out) ∧ s.heap.get? C = none ∧ Z' C = none ∧ ∃ m, s'.heap.Ns C m

theorem comp_core {elt : PySem.Expr} {g : Comprehension} {gs : List Comprehension} {scope : Scope} {cl : List (Str × Addr)} {d : D} {ds out : List D} (R : Room n A) (S : St G env Z H ρ s) (K : Scoped env scope cl ρ ρc) (ha : g.is_async = 0)
    (h : Ev G env n ρ g.iter d) (hi : Itr G d ds) (run : ∀ C, CRun G (compEnvC scope cl C env) n (.ListComp elt (g :: gs) scope pos) 0 ρc ds out) (hsz : out.length ≤ sizeLine) :
    wpAny (model G.prog G.w) A (eval g.iter env) (fun x s₁ => wpAny (model G.prog G.w) A (pyIter x) (fun it s₂ => wpAny (model G.prog G.w) A (newList []) (fun acc s₃ =>
      wpAny (model G.prog G.w) A (newFunctionEnv scope env.globals cl [] env.qual none .none (some env)) (fun cenv s₄ =>
        codeAny (model G.prog G.w) A (.compStart (.ListComp elt (g :: gs) scope pos) 0 it acc { cenv with scope := relabel scope env }) (CompPost G Z s out acc cenv.locals) s₄) E s₃) E s₂) E s₁) E s := by
  refine wp_seq (h.run A Z H s R S) fun v s₁ ⟨Z₁, x₁, r₁⟩ => ?_
  have S₁ := S.ext x₁
  refine wp_seq (hi.run A Z₁ s₁ v (R.less (Nat.zero_le _)) S₁.bs r₁) fun it s₂ ⟨I, fp, P, W, e, x₂, hI, hW, hfp, hW0, hcls, hP⟩ => ?_
  subst e
  have S₂ := S₁.ext x₂
  refine wpAny_newObj_type (wpAny_newFunctionEnv K.nocell (by intro y hy; simp at hy) (fun h₁ hns₁ hsb₁ => ?_) K.kind)
  dsimp only at hns₁ hsb₁ ⊢
  generalize hH2 : s₂.heap.push { cls := .type "list", dict := none, data := .seq ([] : List Value).toArray } = H2 at hns₁ hsb₁ ⊢
  have hC : H2.objs.size = s₂.heap.objs.size + 1 := by rw [← hH2, Heap.size_push]
  have oldC : ∀ b ob, s₂.heap.get? b = some ob → b ≠ H2.objs.size ∧ b ≠ s₂.heap.objs.size := fun b ob e => by
    have := Heap.lt_size e
    rw [hC]
    exact ⟨Nat.ne_of_lt (Nat.lt_succ_of_lt this), Nat.ne_of_lt this⟩
  have old : ∀ b o, s₂.heap.get? b = some o → h₁.get? b = some o := fun b o e => hsb₁.extBut b o (oldC b o e).1 (Heap.get?_push_of_some _ (hH2 ▸ Heap.get?_push_of_some _ e))
  have hDC : s₂.heap.objs.size ≠ H2.objs.size := by rw [hC]; exact Nat.ne_of_lt (Nat.lt_succ_self _)
  have hDo : h₁.get? s₂.heap.objs.size = some (listOf ([] : List Value).toArray 0) := hsb₁.extBut _ _ hDC (Heap.get?_push_of_some _ (hH2 ▸ Heap.get?_push_size _ rfl))
  have hCn : s₂.heap.get? H2.objs.size = none := by
    cases q : s₂.heap.get? H2.objs.size with
    | none => rfl
    | some ob => exact absurd rfl (oldC _ ob q).1
  have hDn : s₂.heap.get? s₂.heap.objs.size = none := get?_size_none _
  obtain ⟨oI, _, hoI, _⟩ := hcls 0 _ hW0
  have zn : ∀ b, s₂.heap.get? b = none → Z₁ b = none := fun b e => by
    cases q : Z₁ b with
    | none => rfl
    | some ob => have := S₂.zin b ob q; rw [e] at this; cases this
  have hIn : Z₁ I = none := by
    cases q : Z₁ I with
    | none => rfl
    | some ob => have := S₁.zin I ob q; rw [hI] at this; cases this
  let HH : Zf := fun b => if Z₁ b = none then (if b = H2.objs.size then none else h₁.get? b) else none
  have HHof : ∀ b ob, HH b = some ob → Z₁ b = none ∧ b ≠ H2.objs.size ∧ h₁.get? b = some ob := fun b ob e => by
    have e' : (if Z₁ b = none then (if b = H2.objs.size then none else h₁.get? b) else none) = some ob := e
    split at e'
    · rename_i q
      split at e'
      · cases e'
      · rename_i q'; exact ⟨q, q', e'⟩
    · cases e'
  have HHto : ∀ b ob, Z₁ b = none → b ≠ H2.objs.size → h₁.get? b = some ob → HH b = some ob := fun b ob q q' e => by
    show (if Z₁ b = none then (if b = H2.objs.size then none else h₁.get? b) else none) = some ob
    rw [if_pos q, if_neg q']; exact e
  have cellNew : ∀ x c, cl.lookup x = some c → Z₁ c = none ∧ ∃ ob, s₂.heap.get? c = some ob := fun x c e => by
    obtain ⟨_, h1, h2⟩ := S₂.cells x c (K.cells x c e)
    cases hf : env.func.isSome with
    | true => obtain ⟨a, _, v, ob, e1, _⟩ := h1 hf; exact ⟨a, ob, e1⟩
    | false =>
      obtain ⟨ob, e1⟩ := h2 hf
      refine ⟨?_, ob, S₂.hin c ob e1⟩
      cases q : Z₁ c with
      | none => rfl
      | some oz => have := S₂.dj c oz q; rw [e1] at this; cases this
  have SC : St G (compEnvC scope cl H2.objs.size env) Z₁ HH ρc { s₂ with heap := h₁, toks := s₂.toks + ([] : List (Str × Value)).length } := by
    refine ⟨K.kind, S₂.gl, S₂.bl, S₂.gens, S₂.os, S₂.tk, fun b ob e => old b ob (S₂.zin b ob e), fun b ob e => (HHof b ob e).2.2, fun b ob e => ?_, fun b ob e => ?_, ⟨_, hns₁⟩, zn _ hCn, ?_, fun x c e => ⟨?_, fun hf => (by cases hf), fun _ => ?_⟩, fun x y c e e' => S₂.inj x y c (K.cells x c e) (K.cells y c e'), fun x d' e => ?_, ?_⟩
    · show (if Z₁ b = none then (if b = H2.objs.size then none else h₁.get? b) else none) = none
      rw [if_neg (by rw [e]; intro q; cases q)]
    · have e2 := S₂.keepBase b ob e
      cases q : Z₁ b with
      | none => exact .inr (HHto b ob q (oldC b ob e2).1 (old b ob e2))
      | some oz => left; have := S₂.zin b oz q; rw [e2] at this; cases this; rfl
    · show (if Z₁ H2.objs.size = none then (if H2.objs.size = H2.objs.size then none else h₁.get? H2.objs.size) else none) = none
      rw [if_pos (zn _ hCn), if_pos rfl]
    · obtain ⟨_, ob, e1⟩ := cellNew x c e
      exact (oldC c ob e1).1
    · obtain ⟨hz, ob, e1⟩ := cellNew x c e
      exact ⟨ob, HHto c ob hz (oldC c ob e1).1 (old c ob e1)⟩
    · obtain ⟨_, e1, hk, ⟨c, hc⟩, hkd⟩ := K.cap x _ e
      obtain ⟨u, hu, ru⟩ := S₂.vars x d' e1
      refine ⟨u, ?_, ru⟩
      rcases hu with ⟨k, _⟩ | ⟨_, c', e2, n2⟩
      · exact absurd k hk
      · rw [K.cells x c hc] at e2; cases e2
        refine .inr ⟨hkd, c, hc, n2.keeps old⟩
    · refine ⟨fun _ => 0, fun x y es es' e => ?_, fun x es e => ?_⟩
      · obtain ⟨⟨_, e'⟩, _⟩ := K.cap x _ e; cases e'
      · obtain ⟨⟨_, e'⟩, _⟩ := K.cap x _ e; cases e'
  have nIC := (oldC I oI hoI).1
  have nID := (oldC I oI hoI).2
  have bn : ∀ b, s₁.heap.get? b = none → G.base.get? b = none := fun b e => by
    cases q : G.base.get? b with
    | none => rfl
    | some ob => have := S₁.keepBase b ob q; rw [e] at this; cases this
  have hDn₁ : s₁.heap.get? s₂.heap.objs.size = none := by
    cases q : s₁.heap.get? s₂.heap.objs.size with
    | none => rfl
    | some ob => rw [x₂.keep _ _ q] at hDn; cases hDn
  have loop := (run H2.objs.size).run A Z₁ HH _ I s₂.heap.objs.size fp P W [] 0 [] oI R SC (HHto I oI hIn nIC (old I oI hoI)) (HHto _ _ (zn _ hDn) hDC hDo) nID .nil (by simpa using hsz) (bn _ hI) (bn _ hDn₁)
    (fun x c e => by
      obtain ⟨hz, ob, e1⟩ := cellNew x c e
      refine ⟨fun q => ?_, (oldC c ob e1).2⟩
      obtain ⟨_, h1, h2⟩ := S₁.cells x c (K.cells x c e)
      cases hf : env.func.isSome with
      | true => obtain ⟨_, _, v, ob', e2, _⟩ := h1 hf; rw [q, hI] at e2; cases e2
      | false => obtain ⟨ob', e2⟩ := h2 hf; have := S₁.hin _ _ e2; rw [q, hI] at this; cases this)
    hW hfp ((hW A R.handled).frame _ _ _ hW0 fun b _ ob e => old b ob e) hcls hP
  have fin : ∀ (r : Result) (s' : Shared), (s₂.toks ≤ s'.toks ∧ r = .ok .next ∧ ∃ Z' H' vs' m', Zle Z₁ Z' ∧ (∀ b, b ≠ I → b ≠ s₂.heap.objs.size → H' b = HH b) ∧ H' I = none ∧ H' s₂.heap.objs.size = some (listOf vs'.toArray m') ∧
      St G (compEnvC scope cl H2.objs.size env) Z' H' ρc s' ∧ RepAll G Z' vs' ([] ++ out)) → CompPost G Z s out (.ref s₂.heap.objs.size) H2.objs.size r s' := by
    rintro r s' ⟨tok, rfl, Z', H', vs', m', le', hH', hI', hD', S', hv'⟩
    have hDz : Z' s₂.heap.objs.size = none := by
      cases q : Z' s₂.heap.objs.size with
      | none => rfl
      | some ob => have := S'.dj _ ob q; rw [hD'] at this; cases this
    have le := Zadd.le (o := listOf vs'.toArray m') hDz
    have keep : ∀ b ob, s₁.heap.get? b = some ob → b ≠ I ∧ b ≠ s₂.heap.objs.size ∧ b ≠ H2.objs.size := fun b ob e => by
      have e2 := x₂.keep b ob e
      exact ⟨fun q => (by rw [q, hI] at e; cases e), (oldC b ob e2).2, (oldC b ob e2).1⟩
    refine ⟨rfl, Zadd Z' s₂.heap.objs.size (listOf vs'.toArray m'), x₁.trans ⟨le'.trans le, fun b ob e => ?_, fun b ob e => ?_, fun b ob e => ?_, S'.gens.trans S₁.gens.symm, S'.os.trans S₁.os.symm, Nat.le_trans x₂.tk tok⟩, .list Zadd.self (hv'.mono le), ?_, ?_, S'.ns⟩
    · obtain ⟨q1, q2, q3⟩ := keep b ob e
      cases q : Z₁ b with
      | none => exact S'.hin b ob (by rw [hH' b q1 q2]; exact HHto b ob q q3 (old b ob (x₂.keep b ob e)))
      | some oz => have := S₁.zin b oz q; rw [e] at this; cases this; exact S'.zin b ob (le' b ob q)
    · by_cases q : b = s₂.heap.objs.size
      · subst q; rw [Zadd.self] at e; cases e; exact S'.hin _ _ hD'
      · rw [show Zadd Z' s₂.heap.objs.size (listOf vs'.toArray m') b = Z' b from if_neg q] at e
        exact S'.zin b ob e
    · by_cases q : b = s₂.heap.objs.size
      · subst q; exact .inr hDn₁
      · rw [show Zadd Z' s₂.heap.objs.size (listOf vs'.toArray m') b = Z' b from if_neg q] at e
        cases q1 : s₁.heap.get? b with
        | none => exact .inr rfl
        | some o1 =>
          left
          obtain ⟨p1, p2, p3⟩ := keep b o1 q1
          cases q2 : Z₁ b with
          | some oz => have := le' b oz q2; rw [e] at this; cases this; rfl
          | none =>
            have h1 := HHto b o1 q2 p3 (old b o1 (x₂.keep b o1 q1))
            have := S'.dj b ob e
            rw [hH' b p1 p2, h1] at this; cases this
    · cases q : s.heap.get? H2.objs.size with
      | none => rfl
      | some ob => have := x₂.keep _ _ (x₁.keep _ _ q); rw [hCn] at this; cases this
    · rw [show Zadd Z' s₂.heap.objs.size (listOf vs'.toArray m') H2.objs.size = Z' H2.objs.size from if_neg (Ne.symm hDC)]
      exact S'.lz
  have loop' := codeAny_mono (codeAny_toks_of (n := s₂.toks) (by exact Nat.le_add_right _ _) loop) fin
  exact comp_start rfl ha loop' ((hW A R.handled).self 0 _ _ _ ((hW A R.handled).frame _ _ _ hW0 fun b _ ob e => old b ob e) loop')

theorem eval_ListComp' (elt : PySem.Expr) (g : Comprehension) (gs : List Comprehension) (scope : Scope) (pos : Pos) (ha : g.is_async = 0) (use : Option (Value → Sem Unit)) :
    comprehension (.ListComp elt (g :: gs) scope pos) scope env (firstIterPos (g :: gs) pos) (newList []) (firstAsync (g :: gs)) (firstIter (g :: gs) env) use =
      comprehension (.ListComp elt (g :: gs) scope pos) scope env (firstIterPos (g :: gs) pos) (newList []) false (eval g.iter env) use := by
  obtain ⟨t, i, f, a⟩ := g
  subst ha
  rfl

theorem ev_listcomp {elt : PySem.Expr} {g : Comprehension} {gs : List Comprehension} {scope : Scope} {cl : List (Str × Addr)} {d : D} {ds out : List D} (K : Scoped env scope cl ρ ρc) (ha : g.is_async = 0) (hs : ∀ x, foldedSetIterable g.iter env x = pure x)
    (h : Ev G env n ρ g.iter d) (hi : Itr G d ds) (run : ∀ C, CRun G (compEnvC scope cl C env) n (.ListComp elt (g :: gs) scope pos) 0 ρc ds out) (hsz : out.length ≤ sizeLine) :
    Ev G env n ρ (.ListComp elt (g :: gs) scope pos) (.list out) := by
  constructor
  intro A Z H s R S
  unfold Yields
  rw [show eval (.ListComp elt (g :: gs) scope pos) env = _ from eval_ListComp' elt g gs scope pos ha none]
  refine wpAny_comprehension_free (use := none) rfl hs K.clos K.kind K.names (wpAny_mono (comp_core R S K ha h hi run hsz) (fun x s₁ h₁ => wpAny_mono h₁ (fun it s₂ h₂ => wpAny_mono h₂ (fun acc s₃ h₃ => wpAny_mono h₃ (fun cenv s₄ h₄ => codeAny_mono h₄ fun r s' hr => ?_) fun _ _ e => e) fun _ _ e => e) fun _ _ e => e) fun _ _ e => e)
  obtain ⟨rfl, Z', x, r, hC, hZC, m, hm⟩ := hr
  refine ⟨m, hm, fun h' hs' => ⟨Z', ⟨x.le, fun a o e => ?_, fun a o e => ?_, x.new, x.gens, x.os, x.tk⟩, r⟩⟩
  · exact hs'.extBut a o (fun q => by rw [q, hC] at e; cases e) (x.keep a o e)
  · exact hs'.extBut a o (fun q => by rw [q, hZC] at e; cases e) (x.zin a o e)

end
end
section
open PySem PySem.W PyProof.Rows
set_option linter.unusedVariables false
section
variable {G : Gnd} {env : Env} {Z Z' H H' : Zf} {ρ ρ' ρc : Loc} {s s' : Shared} {A : Around} {E : Value → Shared → Prop} {n : Nat} {pos apos : Pos}

theorem Bs.y {v : Value} {d : D} {t : Nat} (b : Bs G Z s) (ht : s.toks ≤ t) (r : Rep G Z v d) : ∃ Z', Ext Z s Z' { s with toks := t } ∧ Rep G Z' v d := ⟨Z, Ext.tok b.zin ht, r⟩

-- whole numbers
theorem op_fdiv_int {a b : Int} (hb : b ≠ 0) (hp : Builtin.divisionGoesByPylong a b = false) : Op2 G (binaryOp .FloorDiv) (.int a) (.int b) (.int (a.fdiv b)) := Op2.mk fun A Z s v₁ v₂ R b r₁ r₂ => by cases r₁; cases r₂; exact floordiv_int hb (b.y (Nat.le_succ _) (.int _ _)) (.inl hp)
theorem op_mod_int {a b : Int} (hb : b ≠ 0) : Op2 G (binaryOp .Mod) (.int a) (.int b) (.int (a.fmod b)) := Op2.mk fun A Z s v₁ v₂ R b r₁ r₂ => by cases r₁; cases r₂; exact mod_int' hb (b.y (Nat.le_succ _) (.int _ _))
theorem op_eq_int {a b : Int} : Op2 G (compareOp .Eq) (.int a) (.int b) (.bool (a == b)) := Op2.mk fun A Z s v₁ v₂ R b r₁ r₂ => by cases r₁; cases r₂; exact eq_int ⟨Z, b.same, .bool _⟩
theorem op_lt_int {a b : Int} : Op2 G (compareOp .Lt) (.int a) (.int b) (.bool (decide (a < b))) := Op2.mk fun A Z s v₁ v₂ R b r₁ r₂ => by cases r₁; cases r₂; exact lt_int ⟨Z, b.same, .bool _⟩
theorem op_gt_int {a b : Int} : Op2 G (compareOp .Gt) (.int a) (.int b) (.bool (decide (b < a))) := Op2.mk fun A Z s v₁ v₂ R b r₁ r₂ => by cases r₁; cases r₂; exact gt_int ⟨Z, b.same, .bool _⟩
-- texts
theorem op_add_str {x y : Str} (h : x.length + y.length ≤ sizeLine) : Op2 G (binaryOp .Add) (.str x) (.str y) (.str (x ++ y)) := Op2.mk fun A Z s v₁ v₂ R b r₁ r₂ => by cases r₁; cases r₂; exact wp_tok (add_str (fun t k tok => b.y tok (.str _ _)) h)
theorem op_eq_str {x y : Str} : Op2 G (compareOp .Eq) (.str x) (.str y) (.bool (x == y)) := Op2.mk fun A Z s v₁ v₂ R b r₁ r₂ => by cases r₁; cases r₂; exact eq_str ⟨Z, b.same, .bool _⟩
theorem isList_of {a : Addr} {vs : List Value} {k : Nat} {h : Heap} (e : h.get? a = some (listOf vs.toArray k)) : h.IsList a vs.toArray := ⟨_, e, rfl, _, rfl⟩
theorem isTuple_of {a : Addr} {vs : List Value} {k : Nat} {h : Heap} (e : h.get? a = some { cls := .type "tuple", data := .seq vs.toArray k }) : h.IsTuple a vs.toArray := ⟨_, e, rfl, _, rfl⟩
theorem bf_len_list {ds : List D} (h : ds.length ≤ sizeLine) : BF G "len" [.list ds] (.int ds.length) := BF.mk fun A Z s vs R b r => by
  cases r with
  | cons r rs =>
    cases rs
    cases r with
    | list hz ra => exact len_list (isList_of (b.zin _ _ hz)) (by rw [List.size_toArray, ra.length]; rw [sizeLine_eq] at h; omega) (b.y (by omega) (by rw [List.size_toArray, ra.length]; exact .int _ _))
theorem bf_chr {i : Int} (h0 : 0 ≤ i) (h1 : i ≤ 1114111) : BF G "chr" [.int i] (.str ⟨#[i.toNat]⟩) := BF.mk fun A Z s vs R b r => by
  cases r with | cons r rs => cases rs; cases r; exact chr_of_range h0 h1 (b.y (Nat.le_succ _) (.str _ _))

-- truth
-- items
theorem slOk (slice : PySem.Expr) (o i : Value) : ∃ ops, subscripted slice false o i = operate ops (getItem o i) := by
  unfold subscripted
  split
  · exact ⟨_, rfl⟩
  · rename_i h; cases h
  · exact ⟨_, rfl⟩
theorem tail_all {value slice : PySem.Expr} {o i : Value} {T id : String} {Q : Value → Shared → Prop} (hT : s.TypeIs o T) (hl : typeLookup (.type T) "__getitem__" = pure (some (.builtin id))) (hg : wpAny (model G.prog G.w) A (getItem o i) Q E s) :
    wpAny (model G.prog G.w) A (subscriptTail value slice o i) Q E s := let ⟨_, e⟩ := slOk slice o i; tail_any hT hl hg e

theorem sb_str {value slice : PySem.Expr} {x : Str} {i : Int} {c : Nat} (h0 : 0 ≤ i) (hb : i < 2 ^ 63) (hc : x.cps[i.toNat]? = some c) : Sb G value slice (.str x) (.int i) (.str ⟨#[c]⟩) := Op2.mk fun A Z s v₁ v₂ R b r₁ r₂ => by
  cases r₁; cases r₂
  have hlt : i.toNat < x.cps.size := (Array.getElem?_eq_some_iff.mp hc).1
  have hl : x.length = x.cps.size := rfl
  refine tail_all (typeIs_str _ _ _) F.slot_str_getitem.lookup (PyProof.Rows.getItem_str (by simp; omega) ?_ (b.y (Nat.le_succ _) (.str _ _)))
  have e : seqIndex? i x.length = some i.toNat := by
    unfold seqIndex?
    have h1 : ¬ i < 0 := by omega
    have h2 : i < (x.length : Int) := by rw [hl]; omega
    simp [h1, h0, h2]
  rw [e]; exact hc
theorem sb_list {value slice : PySem.Expr} {ds : List D} {i : Int} {d : D} (h0 : 0 ≤ i) (h1 : i < 2 ^ 63) (hd : ds[i.toNat]? = some d) : Sb G value slice (.list ds) (.int i) d := Op2.mk fun A Z s v₁ v₂ R b r₁ r₂ => by
  cases r₂
  cases r₁ with
  | list hz ra =>
    obtain ⟨v, hv, rv⟩ := ra.get hd
    have hl := isList_of (b.zin _ _ hz)
    exact tail_all hl.typeIs slot_list_getitem.lookup (wpAny_getItem_list hl h0 h1 (by simpa using hv) ⟨Z, b.same, rv⟩)
-- tables
theorem merged_new {K : Type} [DecidableEq K] : ∀ (more acc : List (K × Value)), ((acc ++ more).map (·.1)).Nodup → merged acc more = acc ++ more
  | [], acc, _ => by simp [merged]
  | (k, v) :: more, acc, h => by
    have hk : acc.any (fun kv => kv.1 = k) = false := by
      rw [List.any_eq_false]
      intro kv hkv
      simp only [decide_eq_true_eq]
      intro q
      rw [List.map_append, List.nodup_append] at h
      exact h.2.2 kv.1 (List.mem_map_of_mem hkv) k (by simp) q
    have e : merged acc ((k, v) :: more) = merged (acc ++ [(k, v)]) more := by
      show merged (stored acc k v) more = _
      unfold stored
      rw [hk]; rfl
    rw [e, merged_new more (acc ++ [(k, v)]) (by simpa using h)]
    simp

end
end
section
open PySem PySem.W PyProof.Rows
set_option linter.unusedVariables false
section
variable {G : Gnd} {env : Env} {Z Z' H H' : Zf} {ρ ρ' ρc : Loc} {s s' : Shared} {A : Around} {E : Value → Shared → Prop} {n : Nat} {pos apos : Pos}

/-- an object is made that is not frozen -/
theorem Ext.push {o : Obj} {t : Nat} (hz : ∀ a o, Z a = some o → s.heap.get? a = some o) (ht : s.toks ≤ t) : Ext Z s Z { s with heap := s.heap.push o, toks := t } :=
  ⟨Zle.same, fun a ob h => Heap.get?_push_of_some _ h, fun a ob h => Heap.get?_push_of_some _ (hz a ob h), fun _ _ h => .inl h, rfl, rfl, ht⟩

-- what is gone through
theorem itr_list {ds : List D} : Itr G (.list ds) ds := Itr.mk fun A Z s v R b r => by
  cases r with
  | @list a vs k _ hz ra =>
    have hl := isList_of (b.zin _ _ hz)
    refine wpAny_pyIter_list hl ⟨s.heap.objs.size, [s.heap.objs.size, a], fun i v => vs.toArray[i]? = some v, fun i h => h.IsListIter s.heap.objs.size a i ∧ h.IsList a vs.toArray, rfl, Ext.push (t := s.toks) b.zin (Nat.le_refl _), get?_size_none _, fun A' hA => ?_, ?_, ?_, ?_, ?_⟩
    · have := Walks.list (prog := G.prog) (w := G.w) hA s.heap.objs.size a (fun q => by have := b.zin _ _ hz; rw [q, get?_size_none] at this; cases this) vs.toArray
      have e : vs.toArray.size = ds.length := by rw [List.size_toArray, ra.length]
      rw [e] at this; exact toWG this
    · intro c hc
      rcases List.mem_cons.mp hc with rfl | hc
      · exact .inl rfl
      · rw [List.mem_singleton] at hc; subst hc; exact .inr ⟨_, hz⟩
    · exact ⟨⟨_, Heap.get?_push_size _ rfl, rfl, rfl⟩, hl.push _⟩
    · rintro i h ⟨⟨o, ho, hc, _⟩, _⟩
      exact ⟨o, _, ho, hc, by decide⟩
    · intro i v hv
      have hv' : vs[i]? = some v := by simpa using hv
      have hlt : i < ds.length := by rw [← ra.length]; exact (List.getElem?_eq_some_iff.mp hv').1
      obtain ⟨w, hw, rw'⟩ := ra.get (i := i) (d := ds[i]) (by simp [hlt])
      rw [hv'] at hw; cases hw
      exact ⟨ds[i], by simp [hlt], rw'⟩

def charsOf (x : Str) : List D := x.cps.toList.map fun c => .str ⟨#[c]⟩
theorem itr_str {x : Str} : Itr G (.str x) (charsOf x) := Itr.mk fun A Z s v R b r => by
  cases r with
  | str x t =>
    have hlen : (charsOf x).length = x.cps.size := by simp [charsOf]
    have hP : ∀ i v, SignAt x i v → ∃ d, (charsOf x)[i]? = some d ∧ Rep G Z v d := by
      rintro i v ⟨c, u, hc, rfl⟩
      exact ⟨.str ⟨#[c]⟩, by simp [charsOf, hc], .str _ _⟩
    cases ha : x.cps.all (· < 128)
    · refine wpAny_pyIter_wide ha ⟨s.heap.objs.size, [s.heap.objs.size], SignAt x, fun i h => h.IsStrIter s.heap.objs.size "str_iterator" x t i, rfl, Ext.push (t := s.toks) b.zin (Nat.le_refl _), get?_size_none _, fun A' hA => ?_, fun c hc => .inl (by simpa using hc), ⟨_, Heap.get?_push_size _ rfl, rfl, rfl⟩, ?_, hP⟩
      · rw [hlen]; exact toWG (Walks.strWide hA _ x t)
      · rintro i h ⟨o, ho, hc, _⟩; exact ⟨o, _, ho, hc, by decide⟩
    · refine wpAny_pyIter_ascii ha ⟨s.heap.objs.size, [s.heap.objs.size], SignAt x, fun i h => h.IsStrIter s.heap.objs.size "str_ascii_iterator" x t i, rfl, Ext.push (t := s.toks) b.zin (Nat.le_refl _), get?_size_none _, fun A' hA => ?_, fun c hc => .inl (by simpa using hc), ⟨_, Heap.get?_push_size _ rfl, rfl, rfl⟩, ?_, hP⟩
      · rw [hlen]; exact toWG (Walks.strAscii hA _ x t)
      · rintro i h ⟨o, ho, hc, _⟩; exact ⟨o, _, ho, hc, by decide⟩

theorem itr_rng {a b : Int} (ha : -(2 ^ 62) ≤ a) (ha' : a < 2 ^ 62) (hb : -(2 ^ 62) ≤ b) (hb' : b < 2 ^ 62) : Itr G (.rng a b) ((List.range (b - a).toNat).map fun (i : Nat) => .int (a + i)) := Itr.mk fun A Z s v R b' r => by
  cases r with
  | @rng x _ _ t u v hz =>
    have hr : IsRange s.heap x a b 1 t u v := b'.zin _ _ hz
    have hsz : Builtin.Range.rangeSize a b 1 = ((b - a).toNat : Int) := by rw [rangeSize_one]; split <;> omega
    refine wpAny_pyIter_range hr (small_one ha ha' hb hb') ⟨s.heap.objs.size, [s.heap.objs.size], fun i v => i < (b - a).toNat ∧ ∃ t, v = .int (a + i * 1) t, fun i h => IsRangeIter h s.heap.objs.size (a + (i : Nat) * 1) (((b - a).toNat : Int) - (i : Nat)) 1, rfl, Ext.push (t := s.toks) b'.zin (Nat.le_refl _), get?_size_none _, fun A' hA => ?_, fun c hc => .inl (by simpa using hc), ?_, ?_, ?_⟩
    · rw [List.length_map, List.length_range]
      exact toWG (walks_lt (Walks.range hA s.heap.objs.size a 1 (b - a).toNat))
    · have := Heap.get?_push_size s.heap (o := { cls := .type "range_iterator", data := .fields #[rawInt a, rawInt (Builtin.Range.rangeSize a b 1), rawInt 1] }) rfl
      rw [hsz] at this
      rw [hsz]
      simpa using this
    · intro i h hi; exact ⟨_, _, hi, rfl, by decide⟩
    · rintro i v ⟨hi, t, rfl⟩
      exact ⟨.int (a + i), by simp [hi], by rw [Int.mul_one]; exact .int _ _⟩
where walks_lt {prog : Program} {w : World} {A : Around} {I : Addr} {fp wr : List Addr} {n : Nat} {P : Nat → Value → Prop} {St : Nat → Heap → Prop} (W : Walks prog w A I fp wr n P St) : Walks prog w A I fp wr n (fun i v => i < n ∧ P i v) St :=
    ⟨W.sub, W.frame, fun i s Q E hi st hQ => W.item i s Q E hi st fun v h' tk p st' k => hQ v h' tk ⟨hi, p⟩ st' k, W.done, W.self⟩

theorem bt_range1 {b : Int} : BT G "range" [.int b] (.rng 0 b) := BT.mk fun A Z s vs R bs r => by
  cases r with | cons r rs => cases rs; cases r; exact call_range_1 ⟨_, Ext.alloc bs.zin rfl (by omega), .rng Zadd.self⟩
-- cuts
theorem ev_slice {l u : Option PySem.Expr} {lo hi : Option Int} (hl : match l, lo with | none, none => True | some e, some i => Ev G env n ρ e (.int i) | _, _ => False)
    (hu : match u, hi with | none, none => True | some e, some i => Ev G env n ρ e (.int i) | _, _ => False) : Ev G env n ρ (.Slice l u none pos) (.slc lo hi) := by
  constructor
  intro A Z H s R S
  have part : ∀ (e : Option PySem.Expr) (i : Option Int), (match e, i with | none, none => True | some e, some i => Ev G env n ρ e (.int i) | _, _ => False) → ∀ Z₁ s₁, St G env Z₁ H ρ s₁ →
      wpAny (model G.prog G.w) A (valueOrNone (evalOpt e env)) (fun v s' => ∃ Z', Ext Z₁ s₁ Z' s' ∧ IsPart v i) (fun _ _ => False) s₁ := by
    intro e i h Z₁ s₁ S₁
    cases e <;> cases i <;> first | exact h.elim | skip
    · exact wpAny_pure ⟨Z₁, S₁.same, .none⟩
    · exact wp_seq (h.run A Z₁ H s₁ R S₁) fun v s' ⟨Z', x, r⟩ => by cases r; exact ⟨Z', x, .int _ _⟩
  show wpAny _ _ (do
    let l ← valueOrNone (evalOpt l env)
    let u ← holding [l] (valueOrNone (evalOpt u env))
    let s ← holding [l, u] (valueOrNone (evalOpt none env))
    newFields "slice" [l, u, s]) _ _ _
  refine wpAny_bind (wp_seq (part l lo hl Z s S) fun vl s₁ ⟨Z₁, x₁, p₁⟩ => wpAny_bind (wpAny_holding (wp_seq (part u hi hu Z₁ s₁ (S.ext x₁)) fun vu s₂ ⟨Z₂, x₂, p₂⟩ => wpAny_bind (wpAny_holding (wpAny_pure ?_)))))
  refine wpAny_newObj_type ⟨_, x₁.trans (x₂.trans (Ext.alloc (t := s₂.toks) ((S.ext x₁).ext x₂).zin rfl (Nat.le_refl _))), .slc Zadd.self p₁ p₂⟩

end
end
section
open PySem PySem.W PyProof.Rows PySem.Builtin PySem.Builtin.Str
set_option linter.unusedVariables false
set_option maxRecDepth 100000
section
variable {G : Gnd} {env : Env} {Z Z' H H' : Zf} {ρ ρ' ρc : Loc} {s s' : Shared} {A : Around} {E : Value → Shared → Prop} {n : Nat} {pos apos : Pos}

-- rows of texts
abbrev txs (xs : List Str) : List D := xs.map .str
theorem strs_of_repAll : ∀ {vs : List Value} {xs : List Str}, RepAll G Z vs (txs xs) → ∃ l, strValues l = vs ∧ l.map (·.1) = xs
  | [], [], _ => ⟨[], rfl, rfl⟩
  | v :: vs, x :: xs, .cons r rs => by
    obtain ⟨l, e1, e2⟩ := strs_of_repAll rs
    cases r with
    | str _ t => exact ⟨(x, t) :: l, by rw [← e1]; rfl, by rw [← e2]; rfl⟩
-- methods of texts
theorem getm_str {name : Str} {id : String} {x : Str} (slot : Slot "str" name id) (hty : typeOf (.builtin id) = pure (.type "method_descriptor")) : GetM G name (.str x) id :=
  GetM.mk fun M A pl Z s v Q E hz r h => by cases r; exact getMethod_builtin (typeIs_str _ _ _) F.plainAttrs_str slot hty (fun a e => (by cases e)) h

theorem bf_join {x : Str} {xs : List Str} (hok : JoinOk x xs = true) : BF G "str.join" [.str x, .list (txs xs)] (.str (Txt.join x xs)) := BF.mk fun A Z s vs R b r => by
  cases r with
  | cons r rs =>
    cases rs with
    | cons r₂ rs =>
      cases rs; cases r
      cases r₂ with
      | list hz ra =>
        obtain ⟨l, e1, e2⟩ := strs_of_repAll ra
        subst e1
        exact wp_tok (SC.join (isList_of (b.zin _ _ hz)) e2 hok fun t' k tok => b.y tok (.str _ _))
-- rows compared
open PySem.SeqAt in
theorem op_eq_strs {xs ys : List Str} : Op2 G (compareOp .Eq) (.list (txs xs)) (.list (txs ys)) (.bool (xs == ys)) := Op2.mk fun A Z s v₁ v₂ R b r₁ r₂ => by
  cases r₁ with
  | list hz ra =>
    cases r₂ with
    | list hz' ra' =>
      obtain ⟨l, e1, e2⟩ := strs_of_repAll ra
      obtain ⟨l', e1', e2'⟩ := strs_of_repAll ra'
      subst e1 e1' e2 e2'
      have hl := isList_of (b.zin _ _ hz)
      have hl' := isList_of (b.zin _ _ hz')
      have sz : (strValues l).toArray.size = l.length := by simp [strValues]
      have sz' : (strValues l').toArray.size = l'.length := by simp [strValues]
      by_cases hlen : l.length = l'.length
      · refine eq_listAt (e := fun j => (l.map (·.1))[j]? == (l'.map (·.1))[j]?) hl hl' (by rw [sz, sz', hlen]) (by have := R.units; omega) (fun j h1 h2 => ?_) ⟨Z, b.same, ?_⟩
        · rw [sz] at h1; rw [sz'] at h2
          have ea : (strValues l).toArray[j] = .str l[j].1 l[j].2 := by simp [strValues]
          have eb : (strValues l').toArray[j] = .str l'[j].1 l'[j].2 := by simp [strValues]
          rw [ea, eb]
          have := EqAt.str_str (A := A.in1) (s := s) l[j].1 l[j].2 l'[j].1 l'[j].2
          simpa [h1, h2] using this
        · rw [sz]
          have : ((List.range l.length).all fun j => (l.map (·.1))[j]? == (l'.map (·.1))[j]?) = (l.map (·.1) == l'.map (·.1)) := by
            rw [Bool.eq_iff_iff]
            simp only [List.all_eq_true, List.mem_range, beq_iff_eq]
            constructor
            · intro h
              apply List.ext_getElem?
              intro i
              by_cases hi : i < l.length
              · exact h i hi
              · rw [List.getElem?_eq_none (by simpa using hi), List.getElem?_eq_none (by simp; omega)]
            · intro h i _; rw [h]
          rw [this]; exact .bool _
      · refine eq_list_lengthsAt hl hl' (by rw [sz, sz']; simpa using hlen) (by have := R.units; omega) ⟨Z, b.same, ?_⟩
        have : (l.map (·.1) == l'.map (·.1)) = false := by
          rw [beq_eq_false_iff_ne]; intro h; exact hlen (by simpa using congrArg List.length h)
        rw [this]; exact .bool _
end
end
section
open PySem PySem.W PyProof.Rows
set_option linter.unusedVariables false
set_option maxRecDepth 100000
def stOf (p : Program) (i : Nat) : Stmt := p.main.body.getD i (.Pass ⟨0, 0, 0, 0⟩)
def bodyOf : Stmt → List Stmt
  | .FunctionDef _ _ b _ _ _ _ _ _ _ => b
  | _ => []
def fdOf (st : Stmt) (doc pm cdv ct : Value) : FuncData := match st with
  | .FunctionDef name args body _ _ _ scope _ _ _ => fnX name name args body scope [] .none .none doc pm none cdv ct
  | _ => default

section
variable {G : Gnd} {env : Env} {Z Z' H H' : Zf} {ρ ρ' ρc : Loc} {s s' : Shared} {A : Around} {E : Value → Shared → Prop} {n : Nat} {pos apos : Pos}

theorem sub_nil : Sub [] ρ := fun x b h => by simp at h
theorem sub_cons {x : Str} {b : B} (h : ρ'.lookup x = some b) (hs : Sub ρ ρ') : Sub ((x, b) :: ρ) ρ' := fun y c e => by
  rw [List.lookup_cons] at e
  by_cases q : y = x
  · subst q; simp at e; subst e; exact h
  · rw [beq_eq_false_iff_ne.mpr q] at e; exact hs y c e
theorem exs_weaken {sts : List Stmt} {Φ : Fl → Loc → Prop} (hs : Sub ρ ρ') (h : Exs G env n ρ sts Φ) : Exs G env n ρ' sts Φ := Exs.mk fun A Z H s R S => h.run A Z H s R (S.weaken hs)
theorem asg_weaken {e : PySem.Expr} {d : D} {ρ'' : Loc} (hs : Sub ρ ρ') (h : Asg G env e d ρ ρ'') : Asg G env e d ρ' ρ'' := Asg.mk fun A Z H s v R S r => h.run A Z H s v R (S.weaken hs) r

/-- a for, by what is known of the names at each turn -/
theorem ex_forI {tgt iter : PySem.Expr} {body : List Stmt} {d : D} {ds : List D} {Φ : Fl → Loc → Prop} (I : Nat → Loc) (h : Ev G env n ρ iter d) (hi : Itr G d ds) (h0 : Sub (I 0) ρ)
    (turn : ∀ i d, ds[i]? = some d → ∃ ρ'', Asg G env tgt d (I i) ρ'' ∧ Exs G env n ρ'' body (LoopPost Φ (Sub (I (i + 1)))))
    (done : ∀ ρ', Sub (I ds.length) ρ' → Φ .next ρ') (hs : ∀ x, foldedSetIterable iter env x = pure x) : Ex G env n ρ (.For tgt iter body [] pos) Φ :=
  ex_for (fun i ρ' => Sub (I i) ρ') h hi h0 (fun i d ρ' hd hsub => by
    obtain ⟨ρ'', ha, hb⟩ := turn i d hd
    exact ⟨ρ'', asg_weaken hsub ha, hb⟩) done hs

/-- a while, by what is known of the names at each turn -/
theorem ex_whileI {t : PySem.Expr} {body : List Stmt} {Φ : Fl → Loc → Prop} {σ : Type} (I : σ → Loc) (m : σ → Nat) (P : σ → Prop) (c₀ : σ) (h0 : Sub (I c₀) ρ) (hp : P c₀)
    (turn : ∀ c, P c → ∃ b, Tst G env n (I c) t b ∧ (b = true → Exs G env n (I c) body (LoopPost Φ fun ρ' => ∃ c', m c' < m c ∧ P c' ∧ Sub (I c') ρ')) ∧ (b = false → ∀ ρ', Sub (I c) ρ' → Φ .next ρ')) : Ex G env n ρ (.While t body [] pos) Φ := by
  refine ex_while (fun k ρ' => ∃ c, k = m c ∧ P c ∧ Sub (I c) ρ') ⟨c₀, rfl, hp, h0⟩ ?_
  rintro k ρ' ⟨c, rfl, hpc, hsub⟩
  obtain ⟨b, ht, h1, h2⟩ := turn c hpc
  refine ⟨b, Tst.mk fun A Z H s R S => ht.run A Z H s R (S.weaken hsub), fun hb => ?_, fun hb => h2 hb ρ' hsub⟩
  refine exs_mono (exs_weaken hsub (h1 hb)) ?_
  rintro fl ρ'' h
  cases fl with
  | next => obtain ⟨c', hl, hp', hs'⟩ := h; exact ⟨m c', hl, c', rfl, hp', hs'⟩
  | cont => obtain ⟨c', hl, hp', hs'⟩ := h; exact ⟨m c', hl, c', rfl, hp', hs'⟩
  | brk => exact h
  | ret d => exact h

theorem then_next {Φ : Fl → Loc → Prop} {K : Loc → Prop} (h : K ρ) : Then Φ K .next ρ := h


-- cheap looks at the text
theorem star_cons {e : PySem.Expr} {es : List PySem.Expr} (h : isStarred e = false) : starEach (e :: es) env = (false, eval e env) :: starEach es env := by
  cases e <;> first | rfl | cases h
theorem star_all : ∀ {es : List PySem.Expr}, es.any isStarred = false → (starEach es env).any (·.1) = false
  | [], _ => rfl
  | e :: es, h => by
    rw [List.any_cons, Bool.or_eq_false_iff] at h
    rw [star_cons h.1, List.any_cons, star_all h.2]; rfl
theorem evs_more {e : PySem.Expr} {es : List PySem.Expr} {d : D} {ds : List D} (h : Ev G env n ρ e d) (h' : Evs G env n ρ es ds) (hs : isStarred e = false) : Evs G env n ρ (e :: es) (d :: ds) := evs_cons h h' (star_cons hs)
def isAttr : PySem.Expr → Bool
  | .Attribute .. => true
  | _ => false
theorem eval_call {f : PySem.Expr} {es : List PySem.Expr} (h : isAttr f = false) : eval (.Call f es [] pos) env = (do callWith pos (← eval f env) [] (backTo pos (starEach es env)) []) := by
  cases f <;> first | rfl | cases h
def isCall : PySem.Expr → Bool
  | .Call .. => true
  | _ => false
def isNameCall : PySem.Expr → Bool
  | .Call (.Name ..) [] [] _ => true
  | _ => false
theorem base_same {o : PySem.Expr} {name : Str} {t : Sem Value} (h : isNameCall o = false) : attributeBase o name env t = t := by
  unfold attributeBase
  split
  · rename_i h'; cases h
  · rfl
theorem form_all : ∀ {es : List PySem.Expr}, es.any isStarred = false → (backTo pos (starEach es env)).all (fun x => !x.1) = true
  | [], _ => rfl
  | e :: es, h => by
    rw [List.any_cons, Bool.or_eq_false_iff] at h
    rw [star_cons h.1]
    show (!false && (backTo pos (starEach es env)).all (fun x => !x.1)) = true
    rw [form_all h.2]; rfl
theorem eval_method {o : PySem.Expr} {name : Str} {es : List PySem.Expr} (hb : isNameCall o = false) (hst : es.any isStarred = false) (hlen : es.length < 30) (hline : (apos.endLine == pos.line) = true) :
    eval (.Call (.Attribute o name apos) es [] pos) env = (do
      let ov ← eval o env
      standAt apos.atName
      let (f, first) ← holding [ov] (getMethod ov name (do return (← importBound o env).getD true))
      callWith pos f first (backTo pos (starEach es env)) []) := by
  have hform : methodCallForm (es.length + ([] : List Keyword).length) (backTo pos (starEach es env)) (backToKw pos (keywordEach [] env)) = true := by
    unfold methodCallForm
    rw [form_all hst]
    have e : backToKw pos (keywordEach [] env) = [] := rfl
    rw [e]
    simpa using hlen
  show (do
    let ov ← attributeBase o name env (eval o env)
    standAt apos.atName
    methodCall o name apos pos env ov (es.length + ([] : List Keyword).length) (backTo pos (starEach es env)) (backToKw pos (keywordEach [] env))) = _
  rw [base_same hb]
  unfold methodCall calleeOf
  simp only [hform, if_true]
  have hp : methodCallPos true o env apos pos = pure pos := by unfold methodCallPos; simp [hline]
  simp only [hp, pure_bind]
  rfl

theorem ev_call {f : PySem.Expr} {es : List PySem.Expr} {a : Addr} {ds : List D} {d : D} (hf : Ev G env n ρ f (.fn a)) (h : Evs G env n ρ es ds) (hk : keepIn G.K (.ref a) = true) (hc : Fn G n a ds d) (hst : es.any isStarred = false) (ha : isAttr f = false) : Ev G env n ρ (.Call f es [] pos) d :=
  ev_callFn hf h hk hc (star_all hst) (eval_call ha)
theorem ev_bf {x : Str} {p : Pos} {id : String} {es : List PySem.Expr} {ds : List D} {d : D} (h : Evs G env n ρ es ds) (hc : BF G id ds d) (e : nsIn G.K mainGlobals x = some none) (hv : bootBuiltins x = some (.builtin id)) (hx : env.kindOf x = some .globalImplicit)
    (hd : ((x == ("__debug__" : Str)) || (x == ("__name__" : Str))) = false) (hst : es.any isStarred = false) : Ev G env n ρ (.Call (.Name x p) es [] pos) d :=
  ev_callBF h hc e hv (by rw [Bool.or_eq_false_iff] at hd; exact beq_eq_false_iff_ne.mp hd.2) hx (by rw [Bool.or_eq_false_iff] at hd; exact hd.1) (star_all hst) (eval_call rfl)
theorem ev_bt {x : Str} {p : Pos} {T : String} {es : List PySem.Expr} {ds : List D} {d : D} (h : Evs G env (n + 1) ρ es ds) (hc : BT G T ds d) (e : nsIn G.K mainGlobals x = some none) (hv : bootBuiltins x = some (.type T)) (hx : env.kindOf x = some .globalImplicit)
    (hd : ((x == ("__debug__" : Str)) || (x == ("__name__" : Str))) = false) (hst : es.any isStarred = false) : Ev G env (n + 1) ρ (.Call (.Name x p) es [] pos) d :=
  ev_callBT h hc e hv (by rw [Bool.or_eq_false_iff] at hd; exact beq_eq_false_iff_ne.mp hd.2) hx (by rw [Bool.or_eq_false_iff] at hd; exact hd.1) (star_all hst) (eval_call rfl)
theorem ev_meth {o : PySem.Expr} {name : Str} {id : String} {es : List PySem.Expr} {d₀ : D} {ds : List D} {d : D} (ho : Ev G env n ρ o d₀) (h : Evs G env n ρ es ds) (g : GetM G name d₀ id) (hc : BF G id (d₀ :: ds) d)
    (hb : isNameCall o = false) (hst : es.any isStarred = false) (hlen : es.length < 30) (hline : (apos.endLine == pos.line) = true) : Ev G env n ρ (.Call (.Attribute o name apos) es [] pos) d :=
  ev_method ho g h hc (star_all hst) (eval_method hb hst hlen hline)
end
end
section
open PySem PySem.W PyProof.Rows PySem.Builtin PySem.Builtin.Str
set_option linter.unusedVariables false
/-- a text of code points -/
def T (l : List Nat) : Str := ⟨l.toArray⟩
theorem T_list (l : List Nat) : (T l).cps.toList = l := rfl
theorem T_length (l : List Nat) : (T l).length = l.length := by show l.toArray.size = _; simp
theorem T_of (x : Str) : T x.cps.toList = x := by cases x; simp [T]
theorem T_append (a b : List Nat) : T a ++ T b = T (a ++ b) := by
  show (⟨a.toArray ++ b.toArray⟩ : Str) = _
  simp [T]
theorem T_inj {a b : List Nat} (h : T a = T b) : a = b := by simpa [T_list] using congrArg (fun x => x.cps.toList) h
theorem join_list (z : List Nat) : ∀ parts : List (List Nat), (Str.join (T z) (parts.map T)) = T ((parts.intersperse z).flatten)
  | [] => rfl
  | [a] => by simp [Str.join]
  | a :: b :: r => by
    have ih := join_list z (b :: r)
    simp only [List.map_cons] at ih ⊢
    show T a ++ T z ++ Str.join (T z) (T b :: r.map T) = _
    rw [ih, T_append, T_append]
    simp [List.intersperse]
end
section
open PySem PySem.W PyProof.Rows PySem.Builtin PySem.Builtin.Str
set_option linter.unusedVariables false
abbrev Tbl := List (Nat × List Nat)
section
variable {G : Gnd} {env : Env} {ρ : Loc} {n : Nat}
end
end
section
open PySem PySem.W PyProof.Rows
set_option linter.unusedVariables false
theorem ns_none_of {K : Frag} {h : Heap} {a : Addr} {mc : Str → Option Value} {n : Str} (X : K.In h) (G : h.Ns a mc) (e : nsIn K a n = some none) : mc n = none := by
  obtain ⟨o, es, ep, ho, hd, _, hf⟩ := G
  unfold nsIn at e
  split at e
  · rename_i c dd es' ep' sl hk
    have := X _ _ hk
    rw [ho] at this
    cases this
    cases hd
    split at e
    · cases e
    · rename_i hfind
      rw [← hf]
      unfold nsFind findBy
      rw [← Array.find?_toList, hfind]
      rfl
  · cases e

theorem repAll_ints {G : Gnd} {Z : Zf} : ∀ {vs : List Value} {ns : List Int}, IntsAre vs ns → RepAll G Z vs (ns.map .int)
  | _, _, .nil => .nil
  | _, _, .cons n t r => .cons (.int n t) (repAll_ints r)

end
section
open PySem PySem.W PyProof.Rows
set_option linter.unusedVariables false
set_option maxRecDepth 100000
section
variable {G : Gnd} {env : Env} {Z Z' H : Zf} {ρ ρ' : Loc} {s s' : Shared} {A : Around} {E : Value → Shared → Prop} {n : Nat} {pos apos : Pos}

/-- data that need no heap -/
def Atom : D → Bool
  | .none | .bool _ | .int _ | .str _ | .bytes _ => true
  | _ => false
theorem rep_atom {v : Value} {d : D} (h : Atom d = true) (r : Rep G Z v d) : Rep G Z' v d := by
  cases r <;> first | exact .none | exact .bool _ | exact .int _ _ | exact .str _ _ | exact .bytes _ _ | cases h

/-- an owned list is read, and stays owned -/
theorem ev_peek {x : Str} {ds : List D} {e : PySem.Expr} {d : D} (hx : ρ.lookup x = some (.own ds)) (h : Ev G env n (upd ρ x (.val (.list ds))) e d) (ha : Atom d = true) : Ev G env n ρ e d :=
  Ev.mk fun A Z H s R S => by
    obtain ⟨Z', le, S', _⟩ := S.freeze hx
    exact wp_seq (h.run A Z' H s R S') fun v s₁ ⟨Z₁, x₁, r₁⟩ => ⟨Z, x₁.back S.zin, rep_atom ha r₁⟩
theorem Has.uniq {h : Heap} {x : Str} {u v : Value} (a : Has env h x u) (b : Has env h x v) : u = v := by
  rcases a with ⟨k, m, hn, e⟩ | ⟨k, c, e, hn⟩ <;> rcases b with ⟨k', m', hn', e'⟩ | ⟨k', c', e', hn'⟩
  · rw [ns_uniq hn hn', e'] at e; exact (Option.some.inj e).symm
  · rcases k' with k' | k' <;> simp_all
  · rcases k with k | k <;> simp_all
  · rw [e] at e'; cases e'
    obtain ⟨o, ho1, ho2⟩ := hn
    obtain ⟨o', ho1', ho2'⟩ := hn'
    rw [ho1] at ho1'; cases ho1'
    rw [ho2] at ho2'
    simpa using ho2'

/-- x = [..], a list that the frame alone holds -/
theorem ex_assign_own {x : Str} {p q : Pos} {es : List PySem.Expr} {ds : List D} {Φ : Fl → Loc → Prop} (h : Evs G env n ρ es ds) (hsz : ds.length ≤ sizeLine) (hc : Can env x) (k : Φ .next (upd ρ x (.own ds))) :
    Ex G env n ρ (.Assign [.Name x p] (.List es q) pos) Φ := by
  constructor
  intro A Z H s R S
  refine wpAny_Assign_Name (List_ (wp_seq (h.run A Z H s q R S) fun vs s₁ ⟨Z₁, x₁, r₁⟩ => ?_)) rfl
  have S₁ := S.ext x₁
  refine wpAny_newObj_type ?_ (by show vs.toArray.size ≤ sizeLine; rw [List.size_toArray, r₁.length]; exact hsz)
  have S₂ := S₁.ext (Ext.push (o := { cls := .type "list", data := .seq vs.toArray }) (t := s₁.toks) S₁.zin (Nat.le_refl _))
  have hn : s₁.heap.get? s₁.heap.objs.size = none := get?_size_none _
  have new : ∀ {b : Addr} {o : Obj}, s₁.heap.get? b = some o → s₁.heap.objs.size ≠ b := fun e q => by rw [q, e] at hn; cases hn
  refine wp_seq (st_storeOwn (a := s₁.heap.objs.size) (vs := vs) (n := 0) (ds := ds) S₂ ?_ ?_ ?_ ?_ ?_ (Heap.get?_push_size _ rfl) r₁ hc) fun _ s₃ S₃ => ⟨Z₁, _, _, x₁.le, S₃, .next, k⟩
  · cases q : Z₁ s₁.heap.objs.size with
    | none => rfl
    | some o => exact absurd rfl (new (S₁.zin _ _ q))
  · cases q : H s₁.heap.objs.size with
    | none => rfl
    | some o => exact absurd rfl (new (S₁.hin _ _ q))
  · obtain ⟨m, o, _, _, e, _⟩ := S₁.ns
    exact new e
  · intro y c e
    obtain ⟨_, h1, h2⟩ := S₁.cells y c e
    cases hf : env.func.isSome with
    | true => obtain ⟨_, _, v, ob, e2, _⟩ := h1 hf; exact new e2
    | false => obtain ⟨ob, e2⟩ := h2 hf; exact new (S₁.hin _ _ e2)
  · intro y es v hy hv
    obtain ⟨oa, _, ho⟩ := S₁.owns
    obtain ⟨h1, _, _, _, _, vs', k', h6, _⟩ := ho y es hy
    have h1' := h1.keeps (h' := (s₁.heap.push { cls := .type "list", data := .seq vs.toArray })) fun b o e => Heap.get?_push_of_some _ e
    have : v = .ref (oa y) := hv.uniq h1'
    subst this
    intro q
    exact absurd (Value.ref.inj q).symm (new h6)

/-- what a method does to a list -/
structure Mut (G : Gnd) (id : String) (ds args : List D) (ds' : List D) : Prop where
  run : ∀ A Z s a vs k args', Room 0 A → Bs G Z s → Z a = none → s.heap.get? a = some (listOf vs.toArray k) → RepAll G Z vs ds → RepAll G Z args' args →
    wpAny (model G.prog G.w) A (call (.builtin id) (.ref a :: args')) (fun r s' => ∃ vs' k', s'.heap.get? a = some (listOf vs'.toArray k') ∧ RepAll G Z vs' ds' ∧ (∃ h' t, s' = { s with heap := h', toks := t } ∧ s.toks ≤ t ∧ Heap.SameBut a s.heap h')) (fun _ _ => False) s

theorem St.mutate {x : Str} {ds' : List D} {h' : Heap} {t : Nat} {vs' : List Value} {k' : Nat} (S : St G env Z H ρ s) (oa : Str → Addr) (hi : ∀ x y ds es, ρ.lookup x = some (.own ds) → ρ.lookup y = some (.own es) → oa x = oa y → x = y)
    (ho : ∀ x ds, ρ.lookup x = some (.own ds) → Has env s.heap x (.ref (oa x)) ∧ Z (oa x) = none ∧ H (oa x) = none ∧ oa x ≠ env.locals ∧ (∀ y c, env.cells.lookup y = some c → oa x ≠ c) ∧
      ∃ vs n, s.heap.get? (oa x) = some (listOf vs.toArray n) ∧ RepAll G Z vs ds) {ds : List D} (hx : ρ.lookup x = some (.own ds)) (hg : h'.get? (oa x) = some (listOf vs'.toArray k')) (hr : RepAll G Z vs' ds') (ht : s.toks ≤ t) (hs : Heap.SameBut (oa x) s.heap h') :
    St G env Z H (upd ρ x (.own ds')) { s with heap := h', toks := t } := by
  obtain ⟨h1, h2, h3, h4, h5, vs, k, h6, h7⟩ := ho x ds hx
  have has : ∀ y v, Has env s.heap y v → Has env h' y v := fun y v q => by
    rcases q with ⟨k, m, hn, e⟩ | ⟨k, c, e, hn⟩
    · exact .inl ⟨k, m, hn.sameBut hs (Ne.symm h4), e⟩
    · exact .inr ⟨k, c, e, hn.sameBut hs (Ne.symm (h5 y c e))⟩
  refine S.put ht hs h2 h3 (let ⟨m, hn⟩ := S.ns; ⟨m, hn.sameBut hs (Ne.symm h4)⟩) (fun y c e hf => ?_) (fun y d e => ?_) ⟨oa, ?_, ?_⟩
  · obtain ⟨_, g1, _⟩ := S.cells y c e
    obtain ⟨_, _, v, hv⟩ := g1 hf
    exact ⟨v, hv.sameBut hs (Ne.symm (h5 y c e))⟩
  · rw [lookup_upd] at e
    by_cases q : y = x
    · rw [if_pos q] at e; cases e
    · rw [if_neg q] at e
      obtain ⟨v, hv, r⟩ := S.vars y d e
      exact ⟨v, has y v hv, r⟩
  · intro y z es es' ey ez q
    rw [lookup_upd] at ey ez
    by_cases qy : y = x <;> by_cases qz : z = x
    · rw [qy, qz]
    · rw [if_neg qz] at ez; rw [qy] at q ⊢; exact hi x z _ _ hx ez q
    · rw [if_neg qy] at ey; rw [qz] at q ⊢; exact hi y x _ _ ey hx q
    · rw [if_neg qy] at ey; rw [if_neg qz] at ez; exact hi y z _ _ ey ez q
  · intro y es e
    rw [lookup_upd] at e
    by_cases q : y = x
    · subst q
      rw [if_pos rfl] at e; cases e
      exact ⟨has _ _ h1, h2, h3, h4, h5, vs', k', hg, hr⟩
    · rw [if_neg q] at e
      obtain ⟨g1, g2, g3, g4, g5, us, j, g6, g7⟩ := ho y es e
      exact ⟨has _ _ g1, g2, g3, g4, g5, us, j, (hs.2 _ fun z => q (hi y x _ _ e hx z)).trans g6, g7⟩

theorem wp_own {x : Str} {p : Pos} {a : Addr} {Q : Value → Shared → Prop} {M : Model} (S : St G env Z H ρ s) (hv : Has env s.heap x (.ref a)) (hd : (x == ("__debug__" : Str)) = false) (h : Q (.ref a) s) : wpAny M A (eval (.Name x p) env) Q E s := by
  refine wpAny_Name ?_ hd
  rcases hv with ⟨k, m, n, e⟩ | ⟨k, c, e, n⟩
  · exact wpAny_loadName_local S.fk k n e h
  · rcases k with k | k
    · exact wpAny_loadName_cell S.fk k e n h
    · exact wpAny_loadName_free S.fk k.1 e n h k.2

/-- x.method(..) of an owned list, as a statement -/
theorem ex_mut {x name : Str} {p pos' : Pos} {id : String} {es : List PySem.Expr} {ds args ds' : List D} {Φ : Fl → Loc → Prop} (hx : ρ.lookup x = some (.own ds)) (slot : Slot "list" name id) (hty : typeOf (.builtin id) = pure (.type "method_descriptor"))
    (h : Evs G env n ρ es args) (hm : Mut G id ds args ds') (hd : (x == ("__debug__" : Str)) = false) (hst : es.any isStarred = false) (hlen : es.length < 30) (hline : (apos.endLine == pos.line) = true) (hin : interactive env = false)
    (k : Φ .next (upd ρ x (.own ds'))) : Ex G env n ρ (.Expr (.Call (.Attribute (.Name x p) name apos) es [] pos) pos') Φ := by
  constructor
  intro A Z H s R S
  refine wpAny_Expr_any ?_ hin rfl
  rw [eval_method rfl hst hlen hline]
  obtain ⟨oa, hi, ho⟩ := S.owns
  obtain ⟨h1, h2, h3, h4, h5, vs, j, h6, h7⟩ := ho x ds hx
  refine wpAny_bind (wp_own S h1 hd (wpAny_bind (wpAny_standAt (wpAny_bind (wpAny_holding ?_)))))
  have hl := isList_of h6
  refine getMethod_builtin hl.typeIs F.plainAttrs_list slot hty (fun a e => by cases e; exact ⟨_, h6, rfl⟩) ?_
  refine Calls.callWith_builtin (starred_none (star_all hst) pos) (wp_evalArgs (starred_none (star_all hst) pos) (wp_seq (h.run A Z H s pos R S) fun us s₂ ⟨Z₂, x₂, r₂⟩ => ?_))
  have S₂ := S.ext x₂
  have n2 : ∀ y es, ρ.lookup y = some (.own es) → Has env s₂.heap y (.ref (oa y)) ∧ Z₂ (oa y) = none ∧ H (oa y) = none ∧ oa y ≠ env.locals ∧ (∀ z c, env.cells.lookup z = some c → oa y ≠ c) ∧
      ∃ vs n, s₂.heap.get? (oa y) = some (listOf vs.toArray n) ∧ RepAll G Z₂ vs es := fun y es e => by
    obtain ⟨g1, g2, g3, g4, g5, us, j, g6, g7⟩ := ho y es e
    exact ⟨g1.keeps x₂.keep, ext_none x₂ g2 ⟨_, g6⟩, g3, g4, g5, us, j, x₂.keep _ _ g6, g7.mono x₂.le⟩
  refine wp_seq (hm.run A Z₂ s₂ (oa x) vs j us (R.less (Nat.zero_le _)) S₂.bs (n2 x ds hx).2.1 (x₂.keep _ _ h6) (h7.mono x₂.le) r₂) fun r s₃ ⟨vs', k', e1, e2, h', t, e3, e4, e5⟩ => ?_
  subst e3
  exact ⟨Z₂, _, .next, x₂.le, S₂.mutate oa hi n2 hx e1 e2 e4 e5, .next, k⟩

theorem mut_append {ds : List D} {d : D} (hsz : ds.length ≤ sizeLine) : Mut G "list.append" ds [d] (ds ++ [d]) := Mut.mk fun A Z s a vs k args R b hz ho r ra => by
  cases ra with
  | @cons v _ _ _ rv rr =>
    cases rr
    refine call_meets F.slot_list_append (isList_of ho).typeIs F.entry_list_append (F.args_list_append_2 _ _) (PySem.AutoListH.list_append_list_val_0 a vs.toArray k v (by rw [List.size_toArray, r.length]; exact hsz)) ⟨ho, ?_⟩
    have hg := PySem.IsL.update (n := k) ho (·.push v)
    rw [show vs.toArray.push v = (vs ++ [v]).toArray by simp] at hg
    exact ⟨vs ++ [v], _, hg, r.append (.cons rv .nil), _, _, rfl, Nat.le_refl _, Heap.SameBut.update ..⟩
-- several targets
structure Asgs (G : Gnd) (env : Env) (ts : List PySem.Expr) (ds : List D) (ρ ρ' : Loc) : Prop where
  run : ∀ A Z H s vs, Room 0 A → St G env Z H ρ s → RepAll G Z vs ds → wpAny (model G.prog G.w) A (assignInOrder ((assignEach ts env).map (·.2)) vs) (fun _ s' => ∃ Z', Zle Z Z' ∧ St G env Z' H ρ' s') (fun _ _ => False) s
  len : (assignEach ts env).length = ds.length
  star : (assignEach ts env).findIdx? (·.1) = none
theorem asgs_nil : Asgs G env [] [] ρ ρ := ⟨fun A Z H s vs R S r => wpAny_pure ⟨Z, Zle.same, S⟩, rfl, rfl⟩
theorem asgs_cons {t : PySem.Expr} {ts : List PySem.Expr} {d : D} {ds : List D} {ρ'' : Loc} (h : Asg G env t d ρ ρ') (hs : Asgs G env ts ds ρ' ρ'') (hst : isStarred t = false) : Asgs G env (t :: ts) (d :: ds) ρ ρ'' := by
  have e : assignEach (t :: ts) env = (false, assign t env) :: assignEach ts env := by cases t <;> first | rfl | cases hst
  refine ⟨fun A Z H s vs R S r => ?_, ?_, ?_⟩
  · cases r with
    | cons r rs =>
      rw [e]
      refine assignInOrder_cons (wp_seq (h.run A Z H s _ R S r) fun _ s₁ ⟨Z₁, le₁, S₁⟩ => ?_)
      exact wp_seq (hs.run A Z₁ H s₁ _ R S₁ (rs.mono le₁)) fun _ s₂ ⟨Z₂, le₂, S₂⟩ => ⟨Z₂, le₁.trans le₂, S₂⟩
  · rw [e, List.length_cons, List.length_cons, hs.len]
  · rw [e, List.findIdx?_cons, hs.star]; rfl
theorem asg_tuple {ts : List PySem.Expr} {ds : List D} {k : Nat} (h : Asgs G env ts ds ρ ρ') : Asg G env (.Tuple ts k pos) (.tup ds) ρ ρ' := Asg.mk fun A Z H s v R S r => by
  cases r with
  | @tup a vs j _ hz ra =>
    have ht := isTuple_of (S.zin _ _ hz)
    refine wpAny_assign_Tuple R.handled ht (by rw [h.len, List.size_toArray, ra.length]) h.star fun h' he => ?_
    have x : Ext Z s Z { s with heap := h' } := ⟨Zle.same, fun b o e => he b o (fun q => by rw [q, get?_size_none] at e; cases e) e, fun b o e => he b o (fun q => by have := S.zin b o e; rw [q, get?_size_none] at this; cases this) (S.zin b o e), fun _ _ h => .inl h, rfl, rfl, Nat.le_refl _⟩
    exact h.run A Z H _ vs R (S.ext x) ra

end
end
section
open PySem PySem.W PyProof.Rows PySem.Builtin PySem.Builtin.Str PySem.StrLaws
set_option linter.unusedVariables false
/-- p cannot begin in u, whatever stands behind u -/
def apart (p u : List Nat) : Bool := (List.range u.length).all fun j => !(p.isPrefixOf (u.drop j)) && !((u.drop j).isPrefixOf p)
def cs (x : Str) : List Nat := x.cps.toList
end
section
open PySem PySem.W PyProof.Rows PySem.Builtin PySem.Builtin.Str
set_option linter.unusedVariables false
set_option maxRecDepth 100000
section
variable {G : Gnd} {env : Env} {Z Z' H : Zf} {ρ ρ' ρc : Loc} {s s' : Shared} {A : Around} {E : Value → Shared → Prop} {n : Nat} {pos apos : Pos}

theorem fmod_bounds {a m : Int} (hm : 0 < m) : 0 ≤ a.fmod m ∧ a.fmod m < m := ⟨Int.fmod_nonneg_of_pos a hm, Int.fmod_lt_of_pos a hm⟩
theorem ev_ifint {t b o : PySem.Expr} {c : Bool} {i j : Int} (h : Tst G env n ρ t c) (h₁ : c = true → Ev G env n ρ b (.int i)) (h₂ : c = false → Ev G env n ρ o (.int j)) : Ev G env n ρ (.IfExp t b o pos) (.int (if c then i else j)) := by
  have := ev_ifexp (pos := pos) h h₁ h₂
  cases c <;> exact this
theorem joinOk_of {sep : Str} {xs : List Str} {m : Nat} (h : ∀ x ∈ xs, x.length ≤ m) (hb : xs.length * (m + sep.length) ≤ sizeLine) : JoinOk sep xs = true := by
  have key : ∀ (xs : List Str) (k : Nat), (∀ x ∈ xs, x.length ≤ m) → xs.foldl (· + ·.length + sep.length) k ≤ k + xs.length * (m + sep.length) := by
    intro xs
    induction xs with
    | nil => intro k _; simp
    | cons x r ih =>
      intro k h
      rw [List.foldl_cons, List.length_cons, Nat.succ_mul]
      have h1 := ih (k + x.length + sep.length) fun y hy => h y (List.mem_cons_of_mem _ hy)
      have h2 := h x List.mem_cons_self
      omega
  unfold JoinOk
  have := key xs 0 h
  rw [List.foldl_toArray]
  unfold Builtin.Str.tooLong
  simp
  omega
theorem joinOk_sum {sep : Str} {xs : List Str} (hb : (xs.map (·.length)).sum + xs.length * sep.length ≤ sizeLine) : JoinOk sep xs = true := by
  have key : ∀ (xs : List Str) (k : Nat), xs.foldl (· + ·.length + sep.length) k = k + ((xs.map (·.length)).sum + xs.length * sep.length) := by
    intro xs
    induction xs with
    | nil => intro k; simp
    | cons x r ih =>
      intro k
      rw [List.foldl_cons, ih, List.map_cons, List.sum_cons, List.length_cons, Nat.succ_mul]
      omega
  unfold JoinOk
  rw [List.foldl_toArray, key]
  unfold Builtin.Str.tooLong
  simp
  omega
theorem ex_append {x : Str} {p pos' : Pos} {e : PySem.Expr} {ds : List D} {Φ : Fl → Loc → Prop} (d : D) (hx : ρ.lookup x = some (.own ds)) (h : Ev G env n ρ e d) (hsz : ds.length ≤ sizeLine)
    (hd : (x == ("__debug__" : Str)) = false) (hst : isStarred e = false) (hline : (apos.endLine == pos.line) = true) (hin : interactive env = false)
    (k : Φ .next (upd ρ x (.own (ds ++ [d])))) : Ex G env n ρ (.Expr (.Call (.Attribute (.Name x p) "append" apos) [e] [] pos) pos') Φ :=
  ex_mut hx F.slot_list_append F.type_list_append (evs_more h evs_nil hst) (mut_append hsz) hd (by simp [hst]) (by show 1 < 30; decide) hline hin k
theorem comp1 {elt tgt iter : PySem.Expr} {ifs : List PySem.Expr} {scope : Scope} {α : Type} {xs : List α} {mk : α → D} {F : α → List D}
    (item : ∀ a ∈ xs, ∃ ρ₁ ok, Asg G env tgt (mk a) ρ ρ₁ ∧ Sub ρ ρ₁ ∧ Tsts G env n ρ₁ ifs ok ∧ (ok = false → F a = []) ∧ (ok = true → ∃ x, Ev G env n ρ₁ elt x ∧ F a = [x])) :
    CRun G env n (.ListComp elt [⟨tgt, iter, ifs, 0⟩] scope pos) 0 ρ (xs.map mk) (xs.flatMap F) := comp_last (iter := iter) (fun _ _ => rfl) item
end
end
section
open PySem PySem.W PyProof.Rows
set_option linter.unusedVariables false
set_option maxRecDepth 100000
section
variable {G : Gnd} {env : Env} {Z Z' H : Zf} {ρ ρ' ρc : Loc} {s s' : Shared} {A : Around} {E : Value → Shared → Prop} {n : Nat} {pos apos : Pos} {prog : Program} {w : World}

theorem pairs_keys {kvs : List (Str × Value)} {k : Str} {v : Value} (hn : k ∉ kvs.map (·.1)) : stored kvs k v = kvs ++ [(k, v)] := by
  unfold stored
  rw [if_neg]
  intro h
  obtain ⟨p, hp, e⟩ := List.any_eq_true.mp h
  exact hn (List.mem_map.mpr ⟨p, hp, of_decide_eq_true e⟩)
end
end
section
open PySem PySem.W PyProof.Rows PySem.Builtin PySem.Builtin.Str PySem.StrLaws
set_option linter.unusedVariables false
set_option maxRecDepth 100000
section
variable {G : Gnd} {env : Env} {Z Z' H : Zf} {ρ ρ' ρc : Loc} {s s' : Shared} {A : Around} {E : Value → Shared → Prop} {n : Nat} {pos apos : Pos}

theorem ev_if_same {t b o : PySem.Expr} {c : Bool} {d : D} (h : Tst G env n ρ t c) (h₁ : c = true → Ev G env n ρ b d) (h₂ : c = false → Ev G env n ρ o d) : Ev G env n ρ (.IfExp t b o pos) d := by
  have := ev_ifexp (pos := pos) h h₁ h₂
  cases c <;> exact this
/-- a, b = .. -/
theorem ex_assign_tuple {ts : List PySem.Expr} {k : Nat} {tpos : Pos} {e : PySem.Expr} {d : D} {Φ : Fl → Loc → Prop} (h : Ev G env n ρ e d) (ha : Asg G env (.Tuple ts k tpos) d ρ ρ') (hs : swapsWithSole [.Tuple ts k tpos] e pos.line env = pure false)
    (hw : swappedStores [.Tuple ts k tpos] e env = pure none) (hk : Φ .next ρ') : Ex G env n ρ (.Assign [.Tuple ts k tpos] e pos) Φ :=
  Ex.mk fun A Z H s R S => Assign_Tuple (wp_seq (h.run A Z H s R S) fun v s₁ ⟨Z₁, x₁, r₁⟩ => wp_seq (ha.run A Z₁ H s₁ v (R.less (Nat.zero_le _)) (S.ext x₁) r₁) fun _ s₂ ⟨Z₂, le₂, S₂⟩ => ⟨Z₂, _, .next, x₁.le.trans le₂, S₂, .next, hk⟩) hs hw
end
end
section
open PySem PySem.W PyProof.Rows PySem.SeqAt
set_option linter.unusedVariables false
set_option maxRecDepth 100000
section
variable {G : Gnd} {env : Env} {Z Z' H : Zf} {ρ ρ' ρc : Loc} {s s' : Shared} {A : Around} {E : Value → Shared → Prop} {n : Nat} {pos apos : Pos}
theorem op_neg_int {a : Int} : Op1 G (unaryOp .USub) (.int a) (.int (-a)) := Op1.mk fun A Z s v R b r => by
  cases r
  exact PyProof.Rows.neg_int (b.y (Nat.le_succ _) (.int _ _))
end
end
section
open PySem PySem.W PyProof.Rows
set_option maxRecDepth 100000
section
variable {G : Gnd} {env : Env} {Z Z' H : Zf} {ρ ρ' ρc : Loc} {s s' : Shared} {A : Around} {E : Value → Shared → Prop} {n : Nat} {pos apos : Pos}
def CellsIn (env : Env) (cl : List (Str × Addr)) : Prop := ∀ x c, cl.lookup x = some c → env.cells.lookup x = some c
theorem cells_nil : CellsIn env [] := fun _ _ h => nomatch h
def CapIn (env : Env) (scope : Scope) (cl : List (Str × Addr)) (ρ ρc : Loc) : Prop :=
  ∀ x b, ρc.lookup x = some b → (∃ d, b = .val d) ∧ ρ.lookup x = some b ∧ env.kindOf x ≠ some .local ∧ (∃ c, cl.lookup x = some c) ∧ ((relabel scope env).names.lookup x = some .cell ∨ ((relabel scope env).names.lookup x = some .free ∧ (x == ("__classdict__" : Str)) = false))
theorem cap_nil {scope : Scope} {cl : List (Str × Addr)} : CapIn env scope cl ρ [] := fun _ _ h => nomatch h
theorem at_map {α : Type} {f : α → D} {l : List α} {i : Nat} {d : D} (h : (l.map f)[i]? = some d) : ∃ x, l[i]? = some x ∧ d = f x := by
  rw [List.getElem?_map] at h
  cases e : l[i]? with
  | none => rw [e] at h; cases h
  | some x => rw [e] at h; exact ⟨x, rfl, by simpa using h.symm⟩
end
end
section
open PySem PySem.W PyProof.Rows
set_option linter.unusedVariables false
set_option maxRecDepth 100000
section
theorem join_flatT (xs : List (List Nat)) : Txt.join Str.empty (xs.map T) = T xs.flatten := by
  unfold Txt.join
  rw [StrLaws.glued_eq_join]
  have h := join_list [] xs
  have e : ∀ xs : List (List Nat), (xs.intersperse []).flatten = xs.flatten := by
    intro xs
    induction xs with
    | nil => rfl
    | cons a r ih => cases r with
      | nil => rfl
      | cons b r => rw [List.intersperse_cons_cons]; simp only [List.flatten_cons, List.nil_append] at ih ⊢; rw [ih]
  rw [e] at h
  exact h
theorem join_ones (l : List Nat) : Txt.join Str.empty (l.map fun c => T [c]) = T l := by
  have h := join_flatT (l.map fun c => [c])
  rw [List.map_map] at h
  have e : (T ∘ fun c => [c]) = fun c : Nat => T [c] := rfl
  rw [e] at h
  rw [h]
  congr 1
  clear h e
  induction l with
  | nil => rfl
  | cons c r ih => rw [List.map_cons, List.flatten_cons, ih]; rfl
end
end
section
open PySem PySem.W PyProof.Rows PySem.Builtin PySem.Builtin.Str
set_option linter.unusedVariables false
set_option maxRecDepth 100000
section
variable {G : Gnd} {env : Env} {Z Z' H : Zf} {ρ ρ' ρc : Loc} {s s' : Shared} {A : Around} {E : Value → Shared → Prop} {n : Nat} {pos apos sp : Pos}
theorem big_line : 100000 ≤ sizeLine := by decide
theorem map_one {α β : Type} (f : α → β) (l : List α) : l.map f = l.flatMap fun x => [f x] := by
  induction l with
  | nil => rfl
  | cons a r ih => rw [List.map_cons, List.flatMap_cons, ih]; rfl
end
end
section
open PySem PySem.W PyProof.Rows PySem.Builtin PySem.Builtin.Str
set_option linter.unusedVariables false
set_option maxRecDepth 100000
section
variable {G : Gnd} {env : Env} {Z Z' H : Zf} {ρ ρ' ρc : Loc} {s s' : Shared} {A : Around} {E : Value → Shared → Prop} {n : Nat} {pos apos sp : Pos}
theorem ev_lenL {e : PySem.Expr} {p : Pos} {ds : List D} (h : Ev G env n ρ e (.list ds)) (hl : ds.length ≤ 100000) (hg : nsIn G.K mainGlobals "len" = some none) (hx : env.kindOf "len" = some .globalImplicit) (hst : isStarred e = false) : Ev G env n ρ (.Call (.Name "len" p) [e] [] pos) (.int (ds.length : Int)) :=
  ev_bf (evs_more h evs_nil hst) (bf_len_list (by have := big_line; omega)) hg rfl hx rfl (by simp [hst])
/-- row[i] of a row of texts -/
theorem ev_txt {v e : PySem.Expr} {xs : List (List Nat)} {i : Nat} {x : List Nat} (hv : Ev G env n ρ v (.list (txs (xs.map T)))) (he : Ev G env n ρ e (.int (i : Int))) (hx : xs[i]? = some x) (hl : xs.length ≤ 100000) : Ev G env n ρ (.Subscript v e pos) (.str (T x)) := by
  have hlt := (List.getElem?_eq_some_iff.mp hx).1
  exact ev_sub hv he (sb_list (by omega) (by omega) (by rw [txs, List.map_map, List.getElem?_map, Int.toNat_natCast, hx]; rfl))
theorem ev_m1 {k : Nat} : Ev G env n ρ (.UnaryOp .USub (.Constant (.int 1) k sp) pos) (.int (-1)) := ev_neg ev_int op_neg_int
end
end
section
open PySem PySem.W PyProof.Rows PySem.Builtin PySem.Builtin.Str
set_option linter.unusedVariables false
set_option maxRecDepth 100000
section
variable {G : Gnd} {env : Env} {Z Z' H : Zf} {ρ ρ' ρc : Loc} {s s' : Shared} {A : Around} {E : Value → Shared → Prop} {n : Nat} {pos apos sp : Pos}
theorem op_add_list {ds es : List D} (h : ds.length + es.length ≤ 100000) : Op2 G (binaryOp .Add) (.list ds) (.list es) (.list (ds ++ es)) := Op2.mk fun A Z s v₁ v₂ R b r₁ r₂ => by
  have big := big_line
  cases r₁ with
  | @list a vs k _ hz ra =>
    cases r₂ with
    | @list a' ws k' _ hz' ra' =>
      refine P.add_list (b.zin _ _ hz) (b.zin _ _ hz') ?_ (by rw [List.size_toArray, List.size_toArray, ra.length, ra'.length]; omega)
      have e : vs.toArray ++ ws.toArray = (vs ++ ws).toArray := by simp
      rw [e]
      exact ⟨_, Ext.alloc (t := s.toks) b.zin rfl (Nat.le_refl _), .list Zadd.self ((ra.append ra').mono (Ext.alloc (s := s) (t := s.toks) b.zin rfl (Nat.le_refl _)).le)⟩
-- and, or of truth values, as values
end
end
section
open PySem PySem.W PyProof.Rows
set_option linter.unusedVariables false
set_option maxRecDepth 100000
section
variable {G : Gnd} {env : Env} {Z Z' H : Zf} {ρ ρ' : Loc} {s s' : Shared} {A : Around} {E : Value → Shared → Prop} {n : Nat} {pos apos sp : Pos}
theorem intsAre_of : ∀ {vs : List Value} {ns : List Int}, RepAll G Z vs (ns.map .int) → IntsAre vs ns
  | [], [], _ => .nil
  | [], _ :: _, r => by cases r
  | _ :: _, [], r => by cases r
  | v :: vs, n :: ns, r => by
    cases r with
    | cons r1 r2 => cases r1; exact .cons _ _ (intsAre_of r2)
theorem op_in_ints {xs : List Int} {k : Int} : Op2 G (compareOp .In) (.int k) (.list (xs.map .int)) (.bool (xs.any (· == k))) := Op2.mk fun A Z s v₁ v₂ R b r₁ r₂ => by
  cases r₁
  cases r₂ with
  | list hz ra => exact in_list_ints (isList_of (b.zin _ _ hz)) (intsAre_of ra) ⟨Z, b.same, .bool _⟩
theorem op_notin_ints {xs : List Int} {k : Int} : Op2 G (compareOp .NotIn) (.int k) (.list (xs.map .int)) (.bool (!(xs.any (· == k)))) := Op2.mk fun A Z s v₁ v₂ R b r₁ r₂ => by
  cases r₁
  cases r₂ with
  | list hz ra => exact notin_list_ints (isList_of (b.zin _ _ hz)) (intsAre_of ra) ⟨Z, b.same, .bool _⟩
theorem bf_abs {a : Int} : BF G "abs" [.int a] (.int (if a < 0 then -a else a)) := BF.mk fun A Z s vs R b r => by
  cases r with
  | cons r rs =>
    cases rs
    cases r
    exact wp_tok (call_abs_int fun u tk tok => b.y tok (.int _ _))
theorem bf_ord {c : Nat} : BF G "ord" [.str ⟨#[c]⟩] (.int c) := BF.mk fun A Z s vs R b r => by
  cases r with
  | cons r rs =>
    cases rs
    cases r
    exact P.ord_of_char (b.y (Nat.le_succ _) (.int _ _))
theorem bt_tuple {ds : List D} (hl : ds.length ≤ 100000) : BT G "tuple" [.list ds] (.tup ds) := BT.mk fun A Z s vs R b r => by
  have big : 100000 ≤ sizeLine := by decide
  cases r with
  | cons r rs =>
    cases rs
    cases r with
    | @list x us k _ hz ra =>
      refine call_tuple_list (isList_of (b.zin _ _ hz)) (fun h' hk => ?_) (by rw [List.size_toArray, ra.length]; omega)
      have x₁ : Ext Z s Z { s with heap := h' } := ⟨Zle.same, hk, fun a o e => hk _ _ (b.zin a o e), fun _ _ h => .inl h, rfl, rfl, Nat.le_refl _⟩
      have x₂ : Ext Z { s with heap := h' } (Zadd Z h'.objs.size { cls := .type "tuple", data := .seq us.toArray }) { s with heap := h'.push { cls := .type "tuple", data := .seq us.toArray } } := Ext.alloc (s := { s with heap := h' }) (o := { cls := .type "tuple", data := .seq us.toArray }) (t := s.toks) x₁.zin rfl (Nat.le_refl _)
      exact ⟨_, x₁.trans x₂, .tup (n := 0) Zadd.self (ra.mono x₂.le)⟩
theorem bt_bytes {ns : List Int} (hr : ∀ k ∈ ns, 0 ≤ k ∧ k < 256) (hl : ns.length ≤ 100000) : BT G "bytes" [.list (ns.map .int)] (.bytes (byteArr ns)) := BT.mk fun A Z s vs R b r => by
  have big : 100000 ≤ sizeLine := by decide
  cases r with
  | cons r rs =>
    cases rs
    cases r with
    | @list x us k _ hz ra =>
      have hus : us.length = ns.length := by rw [ra.length, List.length_map]
      refine wp_tok (call_bytes_ints (isList_of (b.zin _ _ hz)) (intsAre_of ra) hr (by omega) R.handled fun h' t k hk tok => ?_)
      exact ⟨Z, ⟨Zle.same, hk, fun a o e => hk _ _ (b.zin a o e), fun _ _ h => .inl h, rfl, rfl, tok⟩, .bytes _ _⟩
/-- row[:k] of a row of numbers -/
theorem sb_ints_to {value slice : PySem.Expr} {ns : List Int} {b : Int} (h0 : 0 ≤ b) (hn : ns.length ≤ 1000) : Sb G value slice (.list (ns.map .int)) (.slc none (some b)) (.list ((ns.take b.toNat).map .int)) := Op2.mk fun A Z s v₁ v₂ R bs r₁ r₂ => by
  have big : 100000 ≤ sizeLine := by decide
  cases r₁ with
  | @list x vs k _ hz ra =>
    cases r₂ with
    | @slc y vl vu _ _ hz' pl pu =>
      have hl := isList_of (bs.zin _ _ hz)
      have hlen : vs.length = ns.length := by rw [ra.length, List.length_map]
      refine tail_all hl.typeIs F.slot_list_getitem.lookup ?_
      refine wpAny_getItem_list_slice hl ⟨_, bs.zin _ _ hz', rfl, rfl⟩ pl pu .none (by simp) ?_ (by rw [List.size_toArray, hlen]; omega)
      have hI := slice_ints_uptoW (intsAre_of ra) h0
      have hA : slicePick vs.toArray none (some b) none = (slicePick vs.toArray none (some b) none).toList.toArray := by simp
      rw [hA]
      generalize (slicePick vs.toArray none (some b) none).toList = us at hI
      exact ⟨_, Ext.alloc (o := { cls := .type "list", data := .seq us.toArray }) (t := s.toks) bs.zin rfl (Nat.le_refl _), .list (vs := us) (n := 0) Zadd.self (repAll_ints hI)⟩
/-- {9: 't', 10: 'n', 13: 'r'}[code] -/
theorem ev_menu3 {e : PySem.Expr} {c : Int} {x : Str} {k1 k2 k3 : Int} {x1 x2 x3 : Str} {i1 i2 i3 j1 j2 j3 : Nat} {p1 p2 p3 q1 q2 q3 dp : Pos} (he : Ev G env n ρ e (.int c)) (hn : [k1, k2, k3].Nodup) (hx : [(k1, x1), (k2, x2), (k3, x3)].lookup c = some x) :
    Ev G env n ρ (.Subscript (.Dict [some (.Constant (.int k1) i1 p1), some (.Constant (.int k2) i2 p2), some (.Constant (.int k3) i3 p3)] [.Constant (.str x1) j1 q1, .Constant (.str x2) j2 q2, .Constant (.str x3) j3 q3] dp) e pos) (.str x) := by
  constructor
  intro A Z H s R S
  refine wp_tok ?_
  refine Subscript_ ?_
  have hsh : (evalEachOpt [some (.Constant (.int k1) i1 p1), some (.Constant (.int k2) i2 p2), some (.Constant (.int k3) i3 p3)] env).zip ((evalEach [.Constant (.str x1) j1 q1, .Constant (.str x2) j2 q2, .Constant (.str x3) j3 q3] env).map fun v => do let x ← v; standAt dp; pure x) =
    [((eval (.Constant (.int k1) i1 p1) env : Sem Value), (do let x ← eval (.Constant (.str x1) j1 q1) env; standAt dp; pure x : Sem Value)), (eval (.Constant (.int k2) i2 p2) env, (do let x ← eval (.Constant (.str x2) j2 q2) env; standAt dp; pure x)), (eval (.Constant (.int k3) i3 p3) env, (do let x ← eval (.Constant (.str x3) j3 q3) env; standAt dp; pure x))].map fun p => (some p.1, p.2) := rfl
  refine wpAny_Dict_pairs (knd := intKind G.prog G.w) hsh (by simp) (by simp) ?_
  refine evalPairs_cons (wpAny_Constant_int (wpAny_bind (Calls.Constant_str (wpAny_bind (wpAny_standAt (wpAny_pure ?_))))))
  refine evalPairs_cons (wpAny_Constant_int (wpAny_bind (Calls.Constant_str (wpAny_bind (wpAny_standAt (wpAny_pure ?_))))))
  refine evalPairs_cons (wpAny_Constant_int (wpAny_bind (Calls.Constant_str (wpAny_bind (wpAny_standAt (wpAny_pure ?_))))))
  refine evalPairs_nil ?_
  refine ⟨[(k1, _), (k2, _), (k3, _)], ⟨intKind_is _ _ _ _, rfl, intKind_is _ _ _ _, rfl, intKind_is _ _ _ _, rfl, trivial⟩, ?_, fun h' hd hs => ?_⟩
  · exact Heap.dictOf_iff.mpr ⟨_, Heap.get?_push_size _ rfl, #[], 0, ⟨rfl, rfl, rfl⟩, rfl, fun e he => by simp at he, .nil, List.nodup_nil⟩
  have hm := merged_new [(k1, Value.str x1 (s.toks + 1)), (k2, .str x2 (s.toks + 1 + 1 + 1)), (k3, .str x3 (s.toks + 1 + 1 + 1 + 1 + 1))] [] (by simpa using hn)
  have hd' : h'.DictOf (intKind G.prog G.w) s.heap.objs.size [(k1, Value.str x1 (s.toks + 1)), (k2, .str x2 (s.toks + 1 + 1 + 1)), (k3, .str x3 (s.toks + 1 + 1 + 1 + 1 + 1))] := by
    rw [List.nil_append] at hm
    rw [← hm]; exact hd
  have keep : ∀ b ob, s.heap.get? b = some ob → h'.get? b = some ob := fun b ob e => hs.extBut b ob (Nat.ne_of_lt (Heap.lt_size e)) (Heap.get?_push_of_some _ e)
  have x₁ : ∀ t, s.toks ≤ t → Ext Z s Z { s with heap := h', toks := t } := fun t ht => ⟨Zle.same, keep, fun b ob e => keep _ _ (S.zin _ _ e), fun _ _ h => .inl h, rfl, rfl, ht⟩
  have X₁ := x₁ (s.toks + 1 + 1 + 1 + 1 + 1 + 1 + 3) (by omega)
  refine wp_seq (he.run A Z H _ R (S.ext X₁)) fun v s₂ ⟨Z₂, x₂, r₂⟩ => ?_
  cases r₂
  have hd₂ : s₂.heap.DictOf (intKind G.prog G.w) s.heap.objs.size [(k1, Value.str x1 (s.toks + 1)), (k2, .str x2 (s.toks + 1 + 1 + 1)), (k3, .str x3 (s.toks + 1 + 1 + 1 + 1 + 1))] := by
    obtain ⟨o, es, ep, ho, hrest⟩ := hd'
    exact ⟨o, es, ep, x₂.keep _ _ ho, hrest⟩
  have hv : ∃ t, valueAt [(k1, Value.str x1 (s.toks + 1)), (k2, .str x2 (s.toks + 1 + 1 + 1)), (k3, .str x3 (s.toks + 1 + 1 + 1 + 1 + 1))] c = some (.str x t) := by
    have va : ∀ (l : List (Int × Value)), valueAt l c = l.lookup c := fun l => by
      induction l with
      | nil => rfl
      | cons p r ih =>
        obtain ⟨a, b⟩ := p
        unfold valueAt at ih ⊢
        rw [List.lookup_cons]
        by_cases q : c = a
        · subst q; simp
        · have q' : ¬ a = c := fun z => q z.symm
          rw [beq_eq_false_iff_ne.mpr q]
          simp only [List.find?_cons, q', decide_false]
          exact ih
    rw [va]
    simp only [List.lookup_cons] at hx ⊢
    split at hx
    · cases hx; exact ⟨_, rfl⟩
    · split at hx
      · cases hx; exact ⟨_, rfl⟩
      · split at hx
        · cases hx; exact ⟨_, rfl⟩
        · cases hx
  obtain ⟨t, hv⟩ := hv
  exact tail_all hd₂.typeIs slot_dict_getitem.lookup (wpAny_getItem_of (intKind_is _ _ _ _) hd₂.mapOf hv fun tok => ⟨Z₂, (X₁.trans x₂).trans (Ext.tok x₂.zin (Nat.le_succ _)), .str _ _⟩)
end
end
section
open PySem PySem.W PyProof.Rows
set_option linter.unusedVariables false
section
variable {G : Gnd} {env : Env} {Z Z' H : Zf} {ρ ρ' : Loc} {s s' : Shared} {A : Around} {E : Value → Shared → Prop} {n : Nat} {pos apos : Pos}
/-- statements, at one place in the run -/
structure ExsAt (G : Gnd) (A : Around) (env : Env) (n : Nat) (ρ : Loc) (sts : List Stmt) (Φ : Fl → Loc → Prop) : Prop where
  run : ∀ Z H s, Room n A → St G env Z H ρ s → wpAny (model G.prog G.w) A (execs sts env) (ExPost G env Z H Φ) (fun _ _ => False) s
structure FnAt (G : Gnd) (A : Around) (n : Nat) (f : Addr) (ds : List D) (d : D) : Prop where
  run : ∀ Z s vs, Room n A → Bs G Z s → RepAll G Z vs ds → Yields G A (call (.ref f) vs) Z d s
theorem fn_ofAt {a : Addr} {fd : FuncData} {body : List Stmt} {xs : List Str} {ds : List D} {d : D} (D : DefAt G a fd body) (hb : ∀ vs : List Value, vs.length = xs.length → bindArgs fd ⟨vs, []⟩ = pure (xs.zip vs)) (hlen : xs.length = ds.length)
    (hx : ∀ x ∈ xs, fd.scope.names.lookup x = some .local ∨ (fd.scope.names.lookup x = some .cell ∧ ∀ k, ((cellsFrom k fd.scope.names []).lookup x).isSome = true)) (hnd : xs.Nodup)
    (h : ∀ L, ExsAt G (A.deeper (callEnvC fd L a)) (callEnvC fd L a) n (startLoc xs ds) body (RetPost d)) : FnAt G A (n + 1) a ds d := by
  constructor
  intro Z s vs R b r
  obtain ⟨o, ho, hd⟩ := D.obj
  have hvl : vs.length = xs.length := r.length.trans hlen.symm
  have hmap : (xs.zip vs).map (·.1) = xs := by rw [List.map_fst_zip]; omega
  have hnd' : ((xs.zip vs).map (·.1)).Nodup := by rw [hmap]; exact hnd
  refine wp_tok ?_
  refine wpAny_call ?_
  refine codeAny_call_function (by have := R.depth; omega) (b.X _ _ ho) hd D.co D.gen D.body (codeRec_of b.X D.code) ?_
  rw [hb vs hvl, D.closure]
  refine wpAny_pure (wpAny_with_toks (Nat.le_refl s.toks) (wpAny_newFunctionEnv_cells D.kind (fun x hm => ?_) fun env he s₁ x tok => ?_))
  · have : x.1 ∈ xs := by rw [← hmap]; exact List.mem_map_of_mem hm
    rcases hx _ this with q | ⟨q, q'⟩
    · exact .inl q
    · exact .inr ⟨q, q' _⟩
  subst he
  have hcall := x.toInCall
  obtain ⟨h₁, tk, rfl, hk₁⟩ := x.done
  refine ⟨b.nolimit.keeps hcall.keep, codeAny_func ?_⟩
  have HZ : ∀ a' o', (if Z a' = none then s.heap.get? a' else none) = some o' → Z a' = none ∧ s.heap.get? a' = some o' := fun a' o' e => by
    split at e
    · rename_i q; exact ⟨q, e⟩
    · cases e
  have hLnone : s.heap.get? s.heap.objs.size = none := get?_size_none _
  have nz : ∀ c, s.heap.objs.size ≤ c → s.heap.get? c = none := fun c hc => by
    cases q : s.heap.get? c with
    | none => rfl
    | some ob => exact absurd (Heap.lt_size q) (Nat.not_lt.mpr hc)
  have nzZ : ∀ c, s.heap.objs.size ≤ c → Z c = none := fun c hc => by
    cases q : Z c with
    | none => rfl
    | some ob => have := b.zin c ob q; rw [nz c hc] at this; cases this
  have S₁ : St G (callEnvC fd s.heap.objs.size a) Z (fun a => if Z a = none then s.heap.get? a else none) (startLoc xs ds) { s with heap := h₁, toks := tk } := by
    refine ⟨D.kind, D.gl, D.bl, b.gens, b.os, Nat.lt_of_lt_of_le b.tk tok, fun a' o' e => hk₁ _ _ (b.zin _ _ e), fun a' o' e => hk₁ _ _ (HZ _ _ e).2, fun a' o' e => by simp [e], fun a' o' e => ?_, ⟨_, hcall.ns⟩, nzZ _ (Nat.le_refl _), ?_, fun y c e => ⟨?_, fun _ => ?_, fun hf => by cases hf⟩, ?_, fun y d' e => ?_, ?_⟩
    · have e' := b.bas _ _ e
      cases q : Z a' with
      | none => right; simp [q, e']
      | some ob => left; have := b.zin _ _ q; rw [e'] at this; cases this; rfl
    · show (if Z s.heap.objs.size = none then s.heap.get? s.heap.objs.size else none) = none
      rw [nzZ _ (Nat.le_refl _), if_pos rfl]; exact hLnone
    · exact Nat.ne_of_gt (x.above y c (mem_of_lookup e))
    · have hc : s.heap.objs.size ≤ c := Nat.le_of_lt (x.above y c (mem_of_lookup e))
      refine ⟨nzZ c hc, ?_, _, x.cell y c e⟩
      show (if Z c = none then s.heap.get? c else none) = none
      rw [nzZ c hc, if_pos rfl]; exact nz c hc
    · exact fun y z c e e' => name_of_addr x.apart (mem_of_lookup e) (mem_of_lookup e')
    · obtain ⟨v, d'', e', hm, r'⟩ := startLoc_lookup r hlen e
      cases e'
      have hxm : y ∈ xs := by rw [← hmap]; exact List.mem_map_of_mem hm
      refine ⟨v, ?_, r'⟩
      rcases hx y hxm with q | ⟨q, q'⟩
      · exact .inl ⟨q, _, hcall.ns, bindL_get (k := (callEnvC fd s.heap.objs.size a).kindOf) q hnd' hm⟩
      · obtain ⟨c, hc⟩ := Option.isSome_iff_exists.mp (q' (s.heap.objs.size + 1))
        refine .inr ⟨.inl q, c, hc, ?_⟩
        have := x.cell y c hc
        exact (bindC_get (k := (callEnvC fd s.heap.objs.size a).kindOf) q hnd' hm) ▸ this
    · refine ⟨fun _ => 0, fun y z es es' e => ?_, fun y es e => ?_⟩
      · obtain ⟨_, _, e', _⟩ := startLoc_lookup r hlen e; cases e'
      · obtain ⟨_, _, e', _⟩ := startLoc_lookup r hlen e; cases e'
  refine wp_seq ((h s.heap.objs.size).run Z _ _ R.deeper S₁) fun f s₂ ⟨Z₂, ρ₂, fl, le₂, S₂, hf, hΦ⟩ tok₂ => ?_
  cases hf with
  | next => cases hΦ; exact ⟨Z₂, ext_of_frame b le₂ S₂ tok₂, .none⟩
  | brk => exact hΦ.elim
  | cont => exact hΦ.elim
  | ret r' => cases hΦ; exact ⟨Z₂, ext_of_frame b le₂ S₂ tok₂, r'⟩

theorem finishAt {prog : Program} {w : World} {K : Frag} {p : Program} {loose : List Str} {mg mb : Str → Option Value} {s₁ : Shared} {f a : Addr} {vs : List Value} {ns : List Int} {k n : Nat} {c : ClaimW} {cl : Str → Option Addr} {mean : ExcName → Option Value} {args : List WData}
    (KX : K.In s₁.heap) (T : TopRead p loose mg mb s₁.heap) (hst : nsIn K cStatics sharingNotToldKey = some none) (hg : s₁.gens = #[]) (htk : 0 < s₁.toks) (ho : s₁.heap.get? a = some (listOf vs.toArray k)) (hI : IntsAre vs ns)
    (hn : ∀ cls, c.raises args cls = false) (hp : c.post args (.bool true) args = true) (hr : n ≤ 100)
    (h : ∀ nb, FnAt ⟨prog, w, K, p, loose, mg, mb, s₁.heap, s₁.os, KX, T, nb, 0⟩ callerA n f [.list (ns.map .int)] (.bool true)) :
    wpAny (model prog w) callerA (call (.ref f) [.ref a]) (fun v s' => GoodWG c cl mean args s₁ (.ok (.ret v)) s') (fun e s' => GoodWG c cl mean args s₁ (.error e) s') s₁ := by
  have nb : NoneBooked s₁.heap := by
    obtain ⟨mc, hm, _⟩ := T.nolimit
    exact ⟨mc, hm, ns_none_of KX hm hst⟩
  have H := h nb
  refine wp_seq (H.run (fun b => if b = a then some (listOf vs.toArray k) else none) s₁ [.ref a] ⟨rfl, ?_, ?_, rfl⟩ ⟨hg, rfl, htk, fun b o e => ?_, fun b o e => e⟩ (.cons (.list (if_pos rfl) (repAll_ints hI)) .nil)) fun v s' ⟨Z', x, r⟩ => ?_
  · show 1 + claimMargin + n < recursionLimit
    have : claimMargin = 300 := rfl
    have : recursionLimit = 1000 := rfl
    omega
  · show 4 + 8 * n < cLine
    have : cLine = 9900 := rfl
    omega
  · by_cases q : b = a
    · subst q; rw [if_pos rfl] at e; cases e; exact ho
    · rw [if_neg q] at e; cases e
  · cases r
    refine GoodW.toG ⟨.inl ⟨_, _, [], rfl, hn, .bool true, hp, unshared_nil⟩, fun b o e => x.keep b o e, x.os, x.gens.trans hg⟩
end
end
section
open PySem PySem.W PyProof.Rows
set_option linter.unusedVariables false
set_option maxRecDepth 100000
section
variable {G : Gnd} {env : Env} {Z Z' H : Zf} {ρ ρ' : Loc} {s s' : Shared} {A : Around} {E : Value → Shared → Prop} {n : Nat} {pos apos : Pos}
/-- only the frame's own object changes, and in its slots alone -/
theorem St.slots (S : St G env Z H ρ s) (hk : ∀ a o, a ≠ env.locals → s.heap.get? a = some o → s'.heap.get? a = some o) (hn : ∀ m, s.heap.Ns env.locals m → s'.heap.Ns env.locals m) (hg : s'.gens = s.gens) (hos : s'.os = s.os) (ht : s.toks ≤ s'.toks) : St G env Z H ρ s' := by
  have zl : ∀ a o, Z a = some o → a ≠ env.locals := fun a o e q => by rw [q, S.lz] at e; cases e
  have hl : ∀ a o, H a = some o → a ≠ env.locals := fun a o e q => by rw [q, S.lh] at e; cases e
  have has : ∀ y v, Has env s.heap y v → Has env s'.heap y v := fun y v q => by
    rcases q with ⟨k, m, hm, e⟩ | ⟨k, c, e, ob, e1, e2⟩
    · exact .inl ⟨k, m, hn m hm, e⟩
    · exact .inr ⟨k, c, e, ob, hk _ _ (S.cells y c e).1 e1, e2⟩
  refine ⟨S.fk, S.gl, S.bl, hg.trans S.gens, hos.trans S.os, Nat.lt_of_lt_of_le S.tk ht, fun a o e => hk a o (zl a o e) (S.zin a o e), fun a o e => hk a o (hl a o e) (S.hin a o e), S.dj, S.bas, ?_, S.lz, S.lh, fun y c e => ?_, S.inj, fun y d e => ?_, ?_⟩
  · obtain ⟨m, hm⟩ := S.ns; exact ⟨m, hn m hm⟩
  · obtain ⟨h0, h1, h2⟩ := S.cells y c e
    refine ⟨h0, fun hf => ?_, h2⟩
    obtain ⟨a, b, v, ob, e1, e2⟩ := h1 hf
    exact ⟨a, b, v, ob, hk _ _ h0 e1, e2⟩
  · obtain ⟨v, h, r⟩ := S.vars y d e; exact ⟨v, has y v h, r⟩
  · obtain ⟨oa, hi, h⟩ := S.owns
    refine ⟨oa, hi, fun y ds e => ?_⟩
    obtain ⟨g1, g2, g3, g4, g5, vs, k, g6, g7⟩ := h y ds e
    exact ⟨has _ _ g1, g2, g3, g4, g5, vs, k, hk _ _ g4 g6, g7⟩
abbrev framesOf (l : List Env) : List Addr := l.filterMap (·.frame)
structure RoomX (n : Nat) (A : Around) : Prop where
  depth : A.depth + n < recursionLimit
  units : A.units + 8 * n < cLine
  guards : A.guards = some []
theorem Room.x (r : Room n A) : RoomX n A := ⟨r.depth, r.units, r.guards⟩
theorem RoomX.deeper {env : Env} (r : RoomX (n + 1) A) : RoomX n (A.deeper env) := ⟨by have := r.depth; show A.depth + 1 + n < _; omega, by have := r.units; show A.units + 3 + 8 * n < _; omega, r.guards⟩
theorem hide_one (h : Heap) (env : Env) (L : Addr) (hf : env.frame = some L) : framesOf [env] = [L] := by simp [framesOf, hf]
end
end
section
open PySem PySem.W PyProof.Rows
set_option linter.unusedVariables false
set_option maxRecDepth 100000
section
variable {G : Gnd} {env : Env} {Z Z' H : Zf} {ρ ρ' : Loc} {s s' : Shared} {A : Around} {E : Value → Shared → Prop} {n : Nat} {pos apos : Pos}
theorem St.less (S : St G env Z H ρ s) (F : List Addr) (hB : ∀ a ∈ F, G.base.get? a = none) (hfun : env.func.isSome = true) : St G env Z (fun a => if a ∈ F then none else H a) ρ s := by
  have sub : ∀ a o, (if a ∈ F then none else H a) = some o → H a = some o := fun a o e => by
    split at e
    · cases e
    · exact e
  have non : ∀ a, H a = none → (if a ∈ F then none else H a) = none := fun a e => by split <;> first | rfl | exact e
  refine ⟨S.fk, S.gl, S.bl, S.gens, S.os, S.tk, S.zin, fun a o e => S.hin a o (sub a o e), fun a o e => non a (S.dj a o e), fun a o e => ?_, S.ns, S.lz, non _ S.lh, fun y c e => ?_, S.inj, S.vars, ?_⟩
  · rcases S.bas a o e with q | q
    · exact .inl q
    · refine .inr ?_
      show (if a ∈ F then none else H a) = some o
      rw [if_neg fun m => by rw [hB a m] at e; cases e]
      exact q
  · obtain ⟨h0, h1, h2⟩ := S.cells y c e
    refine ⟨h0, fun hf => ?_, fun hf => by rw [hfun] at hf; cases hf⟩
    obtain ⟨a, b, v⟩ := h1 hf
    exact ⟨a, non _ b, v⟩
  · obtain ⟨oa, hi, h⟩ := S.owns
    refine ⟨oa, hi, fun y ds e => ?_⟩
    obtain ⟨g1, g2, g3, g⟩ := h y ds e
    exact ⟨g1, g2, non _ g3, g⟩
end
end
section
open PySem PySem.W PyProof.Rows
set_option linter.unusedVariables false
set_option maxRecDepth 100000
def words (t y : Str) : Str := (((Str.empty ++ ("cannot serialize " : Str)) ++ t ++ (" (type " : Str)) ++ y) ++ (")" : Str)
section
variable {G : Gnd} {env : Env} {Z Z' H : Zf} {ρ ρ' : Loc} {s s' : Shared} {A : Around} {E : Value → Shared → Prop} {n : Nat} {pos apos : Pos}
/-- how a datum is written, and its type -/
structure Shown (G : Gnd) (d : D) (x : Str) (T : String) : Prop where
  rep : ∀ A Z s v (Q E : Value → Shared → Prop), RoomX 2 A → Bs G Z s → Rep G Z v d → (∀ h' tk k, (∀ b o, s.heap.get? b = some o → h'.get? b = some o) → Q (.str x tk) { s with heap := h', toks := k }) → wpAny (model G.prog G.w) A (pyReprObj v) Q E s
  ty : ∀ Z s v, Bs G Z s → Rep G Z v d → s.TypeIs v T
  nb : (Value.type T == Value.type "builtin_function_or_method") = false
  mt : kitMeta T = true
  st : Manifest.isStub T = false
  len : x.length ≤ 1000000
/-- a type's name is to be had -/
structure Named (K : Frag) (T q : String) : Prop where
  find : findCls K (.type T) (.type "type") "__name__" = some (.get (.builtin "getset_descriptor.__get__") (.builtin "type.__name__") (.type T) (.type "type"))
  name : ktynFast T = q
  len : (Str.ofString q).length ≤ 1000
theorem name_run {x : Str} {d : D} {M : Model} (S : St G env Z H ρ s) (h : ρ.lookup x = some (.val d)) (hd : (x == ("__debug__" : Str)) = false) {Q : Value → Shared → Prop} (k : ∀ v, Rep G Z v d → Q v s) : wpAny M A (eval (.Name x pos) env) Q E s := by
  obtain ⟨v, hv, r⟩ := S.vars x d h
  refine wpAny_Name ?_ hd
  rcases hv with ⟨k', m, n, e⟩ | ⟨k', c, e, n⟩
  · exact wpAny_loadName_local S.fk k' n e (k v r)
  · rcases k' with k' | k'
    · exact wpAny_loadName_cell S.fk k' e n (k v r)
    · exact wpAny_loadName_free S.fk k'.1 e n (k v r) k'.2
theorem typeName_run {T q : String} {expr : Bool} {Q : Value → Shared → Prop} (X : G.K.In s.heap) (ht : kitMeta T = true) (hs : Manifest.isStub T = false) (N : Named G.K T q)
    (h : ∀ tk u, Q (.str (Str.ofString q) tk) { s with toks := u }) : wpAny (model G.prog G.w) A (getAttr (.type T) "__name__" expr) Q E s := by
  have hstub : opaqueClassAbove (.type T) = pure none := by unfold opaqueClassAbove; dsimp only; rw [hs]; rfl
  have L0 : Looks (model G.prog G.w) s.heap (typeOf (.type T)) (.type "type") := Looks.of_pure (kitMeta_of ht)
  have LO : Looks (model G.prog G.w) s.heap (opaqueClassAbove (.type T)) none := Looks.of_pure hstub
  have hg : findIn G.K (.type "type") "__getattribute__" = some (some (.builtin "type.__getattribute__")) := type_tga
  refine cls_open X LO L0 hg (looks_hook X (r := none) (by rfl)) (by show subIn G.K _ _ = _; rfl) N.find ?_
  show wpAny _ _ (do ret (← holding [Value.builtin "type.__name__"] (call (.builtin "getset_descriptor.__get__") [.builtin "type.__name__", .type T, .type "type"]))) _ _ _
  refine wpAny_bind (wpAny_holding (wpAny_call (ktyn_get (s := { s with toks := s.toks + 1 }) (kitMeta_of ht) N.name (Nat.le_trans N.len (by decide)) ?_)))
  exact wpAny_pure (handed_on rfl (h _ _))
theorem fv_str {value : PySem.Expr} {Q : Value → Shared → Prop} (h : wpAny (model G.prog G.w) A (eval value env) (fun v s₁ => ∃ y t, v = .str y t ∧ y.length ≤ sizeLine ∧ ∀ t' k, Q (.str y t') { s₁ with toks := k }) E s) :
    wpAny (model G.prog G.w) A (eval (.FormattedValue value 115 none pos) env) Q E s := by
  rw [arm_eval_FormattedValue]
  refine wpAny_bind (wpAny_mono h (fun v s₁ h₁ => ?_) fun _ _ x => x)
  obtain ⟨y, t, rfl, hy, hq⟩ := h₁
  refine wpAny_bind (wpAny_standAt ?_)
  show wpAny _ _ (do let v' ← holding [Value.str y t] (habitSame "fstring-hands-on-the-str" (Value.str y t)); formatField v' Str.empty) Q E s₁
  refine wpAny_bind (wpAny_holding (wpAny_habitSame_str (wpAny_formatField_str (hq _ _) (hq _ _) hy) (wpAny_formatField_str (hq _ _) (hq _ _) hy) hy))
/-- what the error says -/
theorem text_run {d : D} {x : Str} {T q : String} {p1 p2 p3 p4 p5 p6 p7 p8 p9 p10 p11 : Pos} {k1 k2 k3 : Nat} {Q : Value → Shared → Prop} (R : RoomX 3 A) (S : St G env Z H ρ s) (hx : ρ.lookup ("text" : Str) = some (B.val d)) (W : Shown G d x T) (N : Named G.K T q)
    (hT : nsIn G.K mainGlobals "type" = some none) (hkT : env.kindOf "type" = some .globalImplicit)
    (h : ∀ h' tk k, (∀ b o, s.heap.get? b = some o → h'.get? b = some o) → Q (.str (words x (Str.ofString q)) tk) { s with heap := h', toks := k }) :
    wpAny (model G.prog G.w) A (eval (.JoinedStr [.Constant (.str "cannot serialize ") k1 p1, .FormattedValue (.Name "text" p2) 114 none p3, .Constant (.str " (type ") k2 p4,
      .FormattedValue (.Attribute (.Call (.Name "type" p5) [.Name "text" p6] [] p7) "__name__" p8) 115 none p9, .Constant (.str ")") k3 p10] p11) env) Q E s := by
  have big : 3000000 ≤ sizeLine := by decide
  have hxl := W.len
  have hql := N.len
  have l1 : (("cannot serialize " : Str)).length = 17 := by decide +kernel
  have l2 : ((" (type " : Str)).length = 7 := by decide +kernel
  have l3 : ((")" : Str)).length = 1 := by decide +kernel
  have l0 : (Str.empty).length = 0 := rfl
  refine wpAny_JoinedStr ?_
  show wpAny _ _ _ _ _ _
  refine Calls.Constant_str ⟨_, _, rfl, by rw [Str.length_append]; omega, ?_⟩
  show wpAny _ _ _ _ _ _
  have x₁ : Ext Z s Z { s with toks := s.toks + 1 } := Ext.tok S.zin (Nat.le_succ _)
  have S₁ := S.ext x₁
  refine wpAny_FormattedValue_repr (name_run S₁ hx (by decide) fun v r => ?_)
  refine wpAny_with_toks (Nat.le_refl _) (W.rep A Z _ v _ _ ⟨by have := R.depth; omega, by have := R.units; omega, R.guards⟩ S₁.bs r fun h' tk k hk => ?_)
  have l4 : x.length ≤ sizeLine := by omega
  have go : ∀ (t' : Tok) (k' : Nat), s.toks ≤ k' → Joins (model G.prog G.w) A E (evalEach [.Constant (.str " (type ") k2 p4, .FormattedValue (.Attribute (.Call (.Name "type" p5) [.Name "text" p6] [] p7) "__name__" p8) 115 none p9, .Constant (.str ")") k3 p10] env) (Str.empty ++ "cannot serialize " ++ x)
      (fun out s₁ => out.length ≤ sizeLine ∧ Q (.str out s₁.toks) { s₁ with toks := s₁.toks + 1 }) { s with heap := h', toks := k' } := by
    intro t' k' hk'
    show wpAny _ _ _ _ _ _
    refine Calls.Constant_str ⟨_, _, rfl, by simp only [Str.length_append]; omega, ?_⟩
    show wpAny _ _ _ _ _ _
    have x₂ : Ext Z s Z { s with heap := h', toks := k' + 1 } := ⟨Zle.same, hk, fun a o e => hk _ _ (S.zin a o e), fun _ _ h => .inl h, rfl, rfl, by show s.toks ≤ k' + 1; omega⟩
    have S₂ := S.ext x₂
    refine fv_str ?_
    rw [arm_eval_Attribute]
    refine wpAny_bind ?_
    show wpAny _ _ (eval (.Call (.Name "type" p5) [.Name "text" p6] [] p7) env) _ _ _
    rw [eval_call rfl]
    refine wpAny_bind (wp_builtinName S₂ hT rfl (by decide) hkT (by decide) ?_)
    refine callWith_excType (starred_none rfl p7) (wp_evalArgs (starred_none rfl p7) (spliced_more (name_run S₂ hx (by decide) fun v' r' => spliced_none ?_) rfl))
    refine call_type_of (W.ty Z _ v' S₂.bs r') W.nb ?_
    refine wpAny_bind (wpAny_standAt (wpAny_bind (wpAny_holding (typeName_run S₂.X W.mt W.st N fun tk₃ u₃ => ?_))))
    refine wpAny_bind (wpAny_letTemporaryGo (wpAny_pure ⟨_, _, rfl, by omega, fun t₄ k₄ => ?_⟩))
    refine ⟨_, _, rfl, by simp only [Str.length_append]; omega, ?_⟩
    show wpAny _ _ _ _ _ _
    refine Calls.Constant_str ⟨_, _, rfl, by simp only [Str.length_append]; omega, ?_⟩
    refine ⟨by simp only [Str.length_append]; omega, ?_⟩
    exact h h' _ _ hk
  intro hk1
  refine wpAny_formatField_str ?_ ?_ l4
  · exact ⟨_, _, rfl, by simp only [Str.length_append]; omega, go tk k (by have : s.toks + 1 ≤ k := hk1; omega)⟩
  · exact ⟨_, _, rfl, by simp only [Str.length_append]; omega, go k (k + 1) (by have : s.toks + 1 ≤ k := hk1; omega)⟩
end
end
section
open PySem PySem.W PyProof.Rows PySem.Builtin PySem.Builtin.Str
set_option linter.unusedVariables false
set_option linter.unusedSimpArgs false
set_option maxRecDepth 100000
def hx01 (n : Nat) : Nat := if n < 10 then 48 + n else 87 + n
def ch01 (q c : Nat) : List Nat :=
  if c == 92 || c == q then [92, c]
  else if c == 9 then [92, 116]
  else if c == 10 then [92, 110]
  else if c == 13 then [92, 114]
  else if c < 32 || 126 < c then [92, 120, hx01 (c / 16), hx01 (c % 16)]
  else [c]
def qt01 (c : List Nat) : Nat := if c.contains 39 && !c.contains 34 then 34 else 39
def quoted01 (c : List Nat) : List Nat := qt01 c :: (c.flatMap (ch01 (qt01 c)) ++ [qt01 c])
theorem foldl_app {α : Type} (f : α → List Nat) : ∀ (l : List α) (acc : Array Nat), l.foldl (fun out c => out ++ (f c).toArray) acc = acc ++ (l.flatMap f).toArray
  | [], acc => by simp
  | c :: r, acc => by rw [List.foldl_cons, foldl_app f r, List.flatMap_cons]; simp
theorem rc_all : ∀ q ∈ [34, 39], ∀ c, c < 128 → reprChar q c = ch01 q c := by
  have h : ([34, 39].all fun q => (List.range 128).all fun c => reprChar q c == ch01 q c) = true := by decide +kernel
  intro q hq c hc
  have := List.all_eq_true.mp (List.all_eq_true.mp h q hq) c (List.mem_range.mpr hc)
  exact beq_iff_eq.mp this
theorem qt01_or (c : List Nat) : qt01 c ∈ [34, 39] := by unfold qt01; split <;> simp
theorem repr_T (c : List Nat) (h : ∀ x ∈ c, x < 128) : reprText (T c) = T (quoted01 c) := by
  have hq : reprQuote (T c) = qt01 c := by unfold reprQuote qt01 T; simp [List.contains_toArray]
  unfold reprText
  rw [hq, ← Array.foldl_toList]
  rw [T_list, foldl_app]
  have e : c.flatMap (reprChar (qt01 c)) = c.flatMap (ch01 (qt01 c)) := by
    have hh := rc_all _ (qt01_or c)
    clear hq
    generalize qt01 c = q at hh
    induction c with
    | nil => rfl
    | cons a r ih => rw [List.flatMap_cons, List.flatMap_cons, hh a (h a (.head _)), ih fun x hx => h x (.tail _ hx)]
  rw [e]
  unfold T quoted01
  simp
def byts (c : List Nat) : Array UInt8 := (c.map UInt8.ofNat).toArray
theorem lit_all : ∀ q ∈ [34, 39], ∀ c, c < 256 →
    (if c == q || c == 92 then #[92, c] else if c == 9 then #[92, 116] else if c == 10 then #[92, 110] else if c == 13 then #[92, 114] else if c < 32 || c ≥ 127 then #[92, 120, hx01 (c / 16), hx01 (c % 16)] else #[c] : Array Nat) = (ch01 q c).toArray := by
  have h : ([34, 39].all fun q => (List.range 256).all fun c => (if c == q || c == 92 then #[92, c] else if c == 9 then #[92, 116] else if c == 10 then #[92, 110] else if c == 13 then #[92, 114] else if c < 32 || c ≥ 127 then #[92, 120, hx01 (c / 16), hx01 (c % 16)] else #[c] : Array Nat) == (ch01 q c).toArray) = true := by decide +kernel
  intro q hq c hc
  have := List.all_eq_true.mp (List.all_eq_true.mp h q hq) c (List.mem_range.mpr hc)
  exact beq_iff_eq.mp this
theorem lit_T (c : List Nat) (h : ∀ x ∈ c, x < 256) : Bytes.literal (byts c) = T (98 :: quoted01 c) := by
  have hnat : ∀ x ∈ c, (UInt8.ofNat x).toNat = x := fun x hx => by
    have := h x hx
    simp
    omega
  have hcont : ∀ k, k < 256 → (byts c).contains (UInt8.ofNat k) = c.contains k := fun k hk => by
    unfold byts
    rw [List.contains_toArray, Bool.eq_iff_iff, List.contains_iff_mem, List.contains_iff_mem, List.mem_map]
    constructor
    · rintro ⟨x, hx, e⟩
      have e1 := congrArg UInt8.toNat e
      have hk' : (UInt8.ofNat k).toNat = k := by simp; omega
      rw [hnat x hx, hk'] at e1
      rw [← e1]; exact hx
    · intro hx; exact ⟨k, hx, rfl⟩
  unfold Bytes.literal
  have hq : (if (byts c).contains 39 && !(byts c).contains 34 then (34 : Nat) else 39) = qt01 c := by
    have h1 := hcont 39 (by decide)
    have h2 := hcont 34 (by decide)
    unfold qt01
    rw [show (39 : UInt8) = UInt8.ofNat 39 from rfl, show (34 : UInt8) = UInt8.ofNat 34 from rfl, h1, h2]
  simp only [Bool.false_eq_true, if_false]
  rw [hq, ← Array.foldl_toList]
  have key : ∀ (l : List Nat) (acc : Array Nat) (q : Nat), q ∈ [34, 39] → (∀ x ∈ l, x < 256) → (∀ x ∈ l, (UInt8.ofNat x).toNat = x) →
      (l.map UInt8.ofNat).foldl (fun acc c => acc ++ (if c.toNat == q || c.toNat == 92 then #[92, c.toNat] else if c.toNat == 9 then #[92, 116] else if c.toNat == 10 then #[92, 110] else if c.toNat == 13 then #[92, 114] else if c.toNat < 32 || c.toNat ≥ 127 then #[92, 120, if c.toNat / 16 < 10 then 48 + c.toNat / 16 else 87 + c.toNat / 16, if c.toNat % 16 < 10 then 48 + c.toNat % 16 else 87 + c.toNat % 16] else #[c.toNat] : Array Nat)) acc = acc ++ (l.flatMap (ch01 q)).toArray := by
    intro l
    induction l with
    | nil => intro acc q _ _ _; simp
    | cons a r ih =>
      intro acc q hq hl hn
      rw [List.map_cons, List.foldl_cons, ih _ q hq (fun x hx => hl x (.tail _ hx)) (fun x hx => hn x (.tail _ hx)), hn a (.head _), List.flatMap_cons]
      have := lit_all q hq a (hl a (.head _))
      unfold hx01 at this
      rw [this]
      simp
  have := key c #[98, qt01 c] (qt01 c) (qt01_or c) h hnat
  rw [show (byts c).toList = c.map UInt8.ofNat from rfl, this]
  unfold T quoted01
  simp
end
section
open PySem PySem.W PyProof.Rows PySem.Builtin PySem.Builtin.Str
set_option linter.unusedVariables false
set_option linter.unusedSimpArgs false
set_option maxRecDepth 100000
theorem slot_bytes_repr : Slot "bytes" "__repr__" "bytes.__repr__" :=
  .of (owner := "bytes") (n := "__repr__") (by rw [typeLookup_type, builtinLookup_eq_fast]; kernel_rfl) (by decide +kernel) (by decide +kernel) (by decide +kernel)
    (by first | exact .inl (by decide +kernel) | exact .inr (by decide +kernel)) (by rw [isSubtype_type]; kernel_rfl)
theorem entry_bytes_repr : entryFor table "bytes.__repr__" = some Builtin.«bytes.__repr__» := entryFor_of_tree (by kernel_rfl)
theorem args_bytes_repr (a : Value) : argsOk "bytes.__repr__" ⟨[a], []⟩ := by unfold argsOk; kernel_rfl
theorem gives_bytes_repr (b : Array UInt8) (t : Tok) (hb : b.size ≤ 1000) : Gives («bytes.__repr__» ⟨[.bytes b t], []⟩) (.str (Bytes.literal b)) := by
  refine .of_wp fun M A E s Q h => ?_
  unfold Builtin.«bytes.__repr__»
  have big : 100000 ≤ sizeLine := by decide
  have e1 : (slotArgs "__repr__" 0 ⟨[.bytes b t], []⟩ : Sem (Value × List Value)) = pure (.bytes b t, []) := by kernel_rfl
  rw [e1, pure_bind]
  have e2 : Bytes.payload (.bytes b t) = pure b := rfl
  dsimp only
  rw [e2, pure_bind]
  have e3 : Bytes.literalAsked b = pure (Bytes.literal b) := by
    unfold Bytes.literalAsked
    have : Bytes.tooLong (4 * b.size + 3 + 0) = false := by
      unfold Bytes.tooLong
      rw [decide_eq_false_iff_not]
      omega
    rw [this]
    rfl
  rw [e3, pure_bind]
  unfold retStr
  exact wpAny_bind (wpAny_mkStr (wpAny_pure ⟨_, rfl, h.2⟩) h.1)
section
variable {prog : Program} {w : World} {A : Around} {E : Value → Shared → Prop} {s : Shared}
theorem pyReprObj_bytes {b : Array UInt8} {t : Tok} {Q : Value → Shared → Prop} (hb : b.size ≤ 1000) (hl : (Bytes.literal b).length ≤ sizeLine) (h : Q (.str (Bytes.literal b) s.toks) { s with toks := s.toks + 1 }) : wpAny (model prog w) A (pyReprObj (.bytes b t)) Q E s :=
  wpAny_pyReprObj_gives (T := "bytes") rfl slot_bytes_repr entry_bytes_repr (args_bytes_repr _) (gives_bytes_repr b t hb) h (hx := hl)
theorem reprIs_bytes {b : Array UInt8} (t : Tok) (hb : b.size ≤ 1000) (hl : (Bytes.literal b).length ≤ sizeLine) : ReprIs prog w (.bytes b t) (Bytes.literal b) := fun n hn _ _ _ _ h => by
  have hn' : n ≤ sizeLine := by omega
  rw [pyReprUnder_leaf (v := .bytes b t) hn' (fun _ e => nomatch e)]
  unfold pyRepr
  exact wpAny_bind (pyReprObj_bytes hb hl (wpAny_pure (h _)))
end
end
section
open PySem PySem.W PyProof.Rows PySem.Builtin PySem.Builtin.Str
set_option linter.unusedVariables false
set_option linter.unusedSimpArgs false
set_option maxRecDepth 100000
/-- a thing in things -/
inductive Th where
  | none
  | bool (b : Bool)
  | int (i : Int)
  | str (c : List Nat)
  | byt (b : Array UInt8)
  | lst (l : List Th)
  | tup (l : List Th)
  | dct (l : List Th)
def fig01 (i : Int) : List Nat := (Str.ofString (toString i)).cps.toList
def signs01 : List Nat := [39, 34, 92, 10, 13, 9, 0, 127, 97, 32, 37, 123]
def key01 (k : Nat) : List Nat := signs01.getD (k % 12) 0 :: fig01 (k : Int)
def keys01 : Nat → Nat → List (List Nat)
  | _, 0 => []
  | k, n + 1 => key01 k :: keys01 (k + 1) n
mutual
def thD : Th → D
  | .none => .none
  | .bool b => .bool b
  | .int i => .int i
  | .str c => .str (T c)
  | .byt b => .bytes b
  | .lst l => .list (thDs l)
  | .tup l => .tup (thDs l)
  | .dct l => .dict ((keys01 0 l.length).map T) (thDs l)
def thDs : List Th → List D
  | [] => []
  | t :: r => thD t :: thDs r
end
theorem thDs_map : ∀ l : List Th, thDs l = l.map thD
  | [] => by rw [thDs]; rfl
  | t :: r => by rw [thDs, thDs_map r]; rfl
mutual
def sz : Th → Nat
  | .lst l => szs l + 1
  | .tup l => szs l + 1
  | .dct l => szs l + 1
  | _ => 1
def szs : List Th → Nat
  | [] => 0
  | t :: r => sz t + szs r
end
def jn01 (ps : List (List Nat)) : List Nat := (ps.intersperse [44, 32]).flatten
mutual
def txt : Th → List Nat
  | .none => [78, 111, 110, 101]
  | .bool b => if b then [84, 114, 117, 101] else [70, 97, 108, 115, 101]
  | .int i => fig01 i
  | .str c => quoted01 c
  | .byt b => (Bytes.literal b).cps.toList
  | .lst l => [91] ++ jn01 (txts l) ++ [93]
  | .tup l => [40] ++ jn01 (txts l) ++ (if l.length = 1 then [44, 41] else [41])
  | .dct l => [123] ++ jn01 (prs 0 l) ++ [125]
def txts : List Th → List (List Nat)
  | [] => []
  | t :: r => txt t :: txts r
def prs : Nat → List Th → List (List Nat)
  | _, [] => []
  | k, t :: r => (quoted01 (key01 k) ++ [58, 32] ++ txt t) :: prs (k + 1) r
end
mutual
def dth : Th → Nat
  | .lst l => dths l + 1
  | .tup l => dths l + 1
  | .dct l => dths l + 1
  | _ => 0
def dths : List Th → Nat
  | [] => 0
  | t :: r => max (dth t) (dths r)
end
mutual
def okT : Th → Prop
  | .none => True
  | .bool _ => True
  | .int i => i.natAbs < 1000000000000
  | .str c => (∀ x ∈ c, x < 128) ∧ c.length ≤ 3
  | .byt b => b.size ≤ 2
  | .lst l => okTs l
  | .tup l => okTs l
  | .dct l => okTs l ∧ l.length ≤ 100
def okTs : List Th → Prop
  | [] => True
  | t :: r => okT t ∧ okTs r
end
section
variable {G : Gnd} {Z : Zf}
theorem pairs_vals {es : List DictEntry} {kvs : List (Str × Value)} (p : Pairs (strKind G.prog G.w) es kvs) : kvs.map (·.2) = es.map (·.val) := by
  induction p with
  | nil => rfl
  | cons h1 h2 _ ih => rw [List.map_cons, List.map_cons, ih, h2]
def dtag : D → Nat
  | .none => 0
  | .bool _ => 1
  | .int _ => 2
  | .str _ => 3
  | .bytes _ => 4
  | .list _ => 5
  | .tup _ => 6
  | .dict _ _ => 7
  | _ => 8
def otag (o : Obj) : Nat := match o.data with
  | .dict _ _ => 7
  | _ => if o.cls == .type "list" then 5 else 6
def vtag (Z : Zf) : Value → Nat
  | .none => 0
  | .bool _ => 1
  | .int _ _ => 2
  | .str _ _ => 3
  | .bytes _ _ => 4
  | .ref a => match Z a with
    | some o => otag o
    | none => 9
  | _ => 9
/-- the value tells the kind of the datum -/
theorem rep_tag {v : Value} {d : D} (r : Rep G Z v d) (h : dtag d < 8) : dtag d = vtag Z v := by
  cases r with
  | none => rfl
  | bool => rfl
  | int => rfl
  | str => rfl
  | bytes => rfl
  | list hz ra => unfold vtag; dsimp only; rw [hz]; rfl
  | tup hz ra => unfold vtag; dsimp only; rw [hz]; rfl
  | dict hz hs hd ra =>
    obtain ⟨es, ep, _, h5, _⟩ := hd
    unfold vtag otag
    dsimp only
    rw [hz]
    dsimp only
    rw [h5]
    rfl
  | _ => exact absurd h (by simp [dtag])
def thtag : Th → Nat
  | .none => 0
  | .bool _ => 1
  | .int _ => 2
  | .str _ => 3
  | .byt _ => 4
  | .lst _ => 5
  | .tup _ => 6
  | .dct _ => 7
theorem thD_tag (t : Th) : dtag (thD t) = thtag t ∧ thtag t < 8 := by
  cases t <;> rw [thD] <;> exact ⟨rfl, Nat.lt_of_sub_pos (Nat.zero_lt_succ _)⟩
theorem th_tag {t t' : Th} {v : Value} (r : Rep G Z v (thD t)) (r' : Rep G Z v (thD t')) : thtag t = thtag t' := by
  obtain ⟨h1, h2⟩ := thD_tag t
  obtain ⟨h3, h4⟩ := thD_tag t'
  rw [← h1, ← h3, rep_tag r (by omega), rep_tag r' (by omega)]
theorem tag0 {t : Th} (h : 0 = thtag t) : t = .none := by cases t <;> first | rfl | cases h
theorem tag1 {t : Th} (h : 1 = thtag t) : ∃ b, t = .bool b := by cases t <;> first | exact ⟨_, rfl⟩ | cases h
theorem tag2 {t : Th} (h : 2 = thtag t) : ∃ b, t = .int b := by cases t <;> first | exact ⟨_, rfl⟩ | cases h
theorem tag3 {t : Th} (h : 3 = thtag t) : ∃ b, t = .str b := by cases t <;> first | exact ⟨_, rfl⟩ | cases h
theorem tag4 {t : Th} (h : 4 = thtag t) : ∃ b, t = .byt b := by cases t <;> first | exact ⟨_, rfl⟩ | cases h
theorem tag5 {t : Th} (h : 5 = thtag t) : ∃ b, t = .lst b := by cases t <;> first | exact ⟨_, rfl⟩ | cases h
theorem tag6 {t : Th} (h : 6 = thtag t) : ∃ b, t = .tup b := by cases t <;> first | exact ⟨_, rfl⟩ | cases h
theorem tag7 {t : Th} (h : 7 = thtag t) : ∃ b, t = .dct b := by cases t <;> first | exact ⟨_, rfl⟩ | cases h
theorem same_obj {h : Option Obj} {T T' : Value} {vs ws : List Value} {n m : Nat} (h1 : h = some { cls := T, data := .seq vs.toArray n }) (h2 : h = some { cls := T', data := .seq ws.toArray m }) : vs = ws := by
  rw [h1] at h2
  injection h2 with h2
  injection h2 with _ _ h2
  injection h2 with h2
  have := congrArg Array.toList h2
  simpa only [List.toList_toArray] using this
theorem same_int {v : Value} {i j : Int} (r : Rep G Z v (.int i)) (r' : Rep G Z v (.int j)) : i = j := by cases r; cases r'; rfl
theorem same_bool {v : Value} {i j : Bool} (r : Rep G Z v (.bool i)) (r' : Rep G Z v (.bool j)) : i = j := by cases r; cases r'; rfl
theorem same_str {v : Value} {i j : Str} (r : Rep G Z v (.str i)) (r' : Rep G Z v (.str j)) : i = j := by cases r; cases r'; rfl
theorem same_byt {v : Value} {i j : Array UInt8} (r : Rep G Z v (.bytes i)) (r' : Rep G Z v (.bytes j)) : i = j := by cases r; cases r'; rfl
theorem same_lst {v : Value} {ds es : List D} (r : Rep G Z v (.list ds)) (r' : Rep G Z v (.list es)) : ∃ vs, RepAll G Z vs ds ∧ RepAll G Z vs es := by
  cases r with
  | list h1 ra => cases r' with
    | list h2 rb => exact ⟨_, ra, same_obj h1 h2 ▸ rb⟩
theorem same_tpl {v : Value} {ds es : List D} (r : Rep G Z v (.tup ds)) (r' : Rep G Z v (.tup es)) : ∃ vs, RepAll G Z vs ds ∧ RepAll G Z vs es := by
  cases r with
  | tup h1 ra => cases r' with
    | tup h2 rb => exact ⟨_, ra, same_obj h1 h2 ▸ rb⟩
theorem same_dct {v : Value} {ks js : List Str} {ds es : List D} (r : Rep G Z v (.dict ks ds)) (r' : Rep G Z v (.dict js es)) : ∃ vs, RepAll G Z vs ds ∧ RepAll G Z vs es := by
  cases r with
  | dict h1 h3 h4 ra => cases r' with
    | dict g1 g3 g4 rb =>
      obtain ⟨es, ep, h6, h5, _, hp, _⟩ := h4
      obtain ⟨es', ep', _, g5, _, gp, _⟩ := g4
      rw [h1] at g1
      injection g1 with g1
      subst g1
      rw [h5] at g5
      injection g5 with g5 _
      subst g5
      rw [pairs_vals hp] at ra
      rw [pairs_vals gp] at rb
      exact ⟨_, ra, rb⟩
mutual
/-- a value stands for one thing alone -/
theorem th_uniq : ∀ (t t' : Th) {v : Value}, Rep G Z v (thD t) → Rep G Z v (thD t') → t = t'
  | .none, t', v, r, r' => (tag0 (th_tag r r')).symm
  | .bool b, t', v, r, r' => by
    obtain ⟨b', rfl⟩ := tag1 (th_tag r r')
    rw [thD] at r r'; rw [same_bool r r']
  | .int i, t', v, r, r' => by
    obtain ⟨b', rfl⟩ := tag2 (th_tag r r')
    rw [thD] at r r'; rw [same_int r r']
  | .str c, t', v, r, r' => by
    obtain ⟨b', rfl⟩ := tag3 (th_tag r r')
    rw [thD] at r r'; rw [T_inj (same_str r r')]
  | .byt b, t', v, r, r' => by
    obtain ⟨b', rfl⟩ := tag4 (th_tag r r')
    rw [thD] at r r'; rw [same_byt r r']
  | .lst l, t', v, r, r' => by
    obtain ⟨l', rfl⟩ := tag5 (th_tag r r')
    rw [thD] at r r'
    obtain ⟨vs, ra, rb⟩ := same_lst r r'
    rw [ths_uniq l l' ra rb]
  | .tup l, t', v, r, r' => by
    obtain ⟨l', rfl⟩ := tag6 (th_tag r r')
    rw [thD] at r r'
    obtain ⟨vs, ra, rb⟩ := same_tpl r r'
    rw [ths_uniq l l' ra rb]
  | .dct l, t', v, r, r' => by
    obtain ⟨l', rfl⟩ := tag7 (th_tag r r')
    rw [thD] at r r'
    obtain ⟨vs, ra, rb⟩ := same_dct r r'
    rw [ths_uniq l l' ra rb]
theorem ths_uniq : ∀ (l l' : List Th) {vs : List Value}, RepAll G Z vs (thDs l) → RepAll G Z vs (thDs l') → l = l'
  | [], l', vs, r, r' => by
    rw [thDs] at r
    cases r
    cases l' with
    | nil => rfl
    | cons t l' => rw [thDs] at r'; cases r'
  | t :: l, l', vs, r, r' => by
    rw [thDs] at r
    cases r with
    | cons r1 r2 =>
      cases l' with
      | nil => rw [thDs] at r'; cases r'
      | cons t' l' =>
        rw [thDs] at r'
        cases r' with
        | cons g1 g2 => rw [th_uniq t t' r1 g1, ths_uniq l l' r2 g2]
end
end
end
section
open PySem PySem.W PyProof.Rows PySem.Builtin PySem.Builtin.Str
set_option linter.unusedVariables false
set_option linter.unusedSimpArgs false
set_option maxRecDepth 100000
def dig (n : Nat) : List Nat := (Nat.toDigits 10 n).map Char.toNat
theorem dc_toNat : ∀ d, d < 10 → (Nat.digitChar d).toNat = 48 + d := by decide
theorem dig_lt {n : Nat} (h : n < 10) : dig n = [48 + n] := by unfold dig; rw [Nat.toDigits_of_lt_base h, List.map_singleton, dc_toNat n h]
theorem dig_ge {n : Nat} (h : 10 ≤ n) : dig n = dig (n / 10) ++ [48 + n % 10] := by
  unfold dig
  rw [Nat.toDigits_of_base_le (by decide) h, List.map_append, List.map_singleton, dc_toNat _ (Nat.mod_lt _ (by decide))]
theorem dig_len {n k : Nat} (hk : 0 < k) (h : n < 10 ^ k) : (dig n).length ≤ k := by
  unfold dig
  rw [List.length_map]
  exact (Nat.length_toDigits_le_iff (by decide) hk).mpr h
theorem dig_asc (n : Nat) : ∀ c ∈ dig n, 48 ≤ c ∧ c < 58 := by
  induction n using Nat.strongRecOn with
  | _ n ih =>
    by_cases h : n < 10
    · rw [dig_lt h]; intro c hc; rw [List.mem_singleton.mp hc]; omega
    · rw [dig_ge (by omega)]
      intro c hc
      rcases List.mem_append.mp hc with hc | hc
      · exact ih (n / 10) (by omega) c hc
      · rw [List.mem_singleton.mp hc]; omega
theorem fig_nat (n : Nat) : fig01 (n : Int) = dig n := by
  unfold fig01 dig
  rw [Str.ofString_eq_toList]
  show ((toString (Int.ofNat n)).toList.map Char.toNat) = _
  rw [show toString (Int.ofNat n) = n.repr from rfl, Nat.toList_repr]
theorem fig_neg (n : Nat) : fig01 (-(n + 1 : Nat) : Int) = 45 :: dig (n + 1) := by
  unfold fig01 dig
  rw [Str.ofString_eq_toList]
  show ((toString (Int.negSucc n)).toList.map Char.toNat) = _
  rw [show toString (Int.negSucc n) = "-" ++ (n + 1).repr from rfl, String.toList_append, List.map_append, Nat.toList_repr]
  rfl
theorem fig_eq (i : Int) : fig01 i = (if i < 0 then [45] else []) ++ dig i.natAbs := by
  by_cases h : i < 0
  · rw [if_pos h]
    obtain ⟨n, rfl⟩ : ∃ n : Nat, i = -(n + 1 : Nat) := ⟨i.natAbs - 1, by omega⟩
    rw [fig_neg]
    rw [show (-((n + 1 : Nat) : Int)).natAbs = n + 1 by omega]
    rfl
  · rw [if_neg h]
    obtain ⟨n, rfl⟩ : ∃ n : Nat, i = n := ⟨i.natAbs, by omega⟩
    rw [fig_nat]; rfl
theorem fig_len {i : Int} (h : i.natAbs < 1000000000000) : (fig01 i).length ≤ 13 := by
  rw [fig_eq, List.length_append]
  have := dig_len (n := i.natAbs) (k := 12) (by decide) h
  split <;> simp <;> omega
theorem key_len {k : Nat} (h : k < 1000) : (key01 k).length ≤ 4 := by
  unfold key01
  rw [List.length_cons, fig_nat]
  have := dig_len (n := k) (k := 3) (by decide) h
  omega
theorem signs_lt : ∀ k, signs01.getD (k % 12) 0 < 128 := by
  intro k
  have h : ∀ j, j < 12 → signs01.getD j 0 < 128 := by decide
  exact h _ (Nat.mod_lt _ (by decide))
theorem key_asc (k : Nat) : ∀ c ∈ key01 k, c < 128 := by
  unfold key01
  intro c hc
  rcases List.mem_cons.mp hc with rfl | hc
  · exact signs_lt k
  · rw [fig_nat] at hc
    have := dig_asc k c hc
    omega
theorem keys_range : ∀ (n k : Nat), keys01 k n = (List.range' k n).map key01
  | 0, k => by rw [keys01]; rfl
  | n + 1, k => by rw [keys01, keys_range n, List.range'_succ, List.map_cons]
theorem keys_len (k n : Nat) : (keys01 k n).length = n := by rw [keys_range]; simp
theorem keys_snoc (n : Nat) : keys01 0 (n + 1) = keys01 0 n ++ [key01 n] := by
  rw [keys_range, keys_range, List.range'_concat, List.map_append]
  simp
theorem dig_inj {a b : Nat} (h : dig a = dig b) : a = b := by
  unfold dig at h
  have h2 : Nat.toDigits 10 a = Nat.toDigits 10 b := by
    refine List.map_inj_right (f := Char.toNat) ?_ |>.mp h
    intro x y e
    exact Char.toNat_inj.mp e
  have h3 := Nat.ofDigitChars_toDigits (b := 10) (n := a) (by decide) (by decide)
  rw [h2, Nat.ofDigitChars_toDigits (b := 10) (n := b) (by decide) (by decide)] at h3
  exact h3.symm
theorem key_new (n : Nat) : T (key01 n) ∉ (keys01 0 n).map T := by
  rw [keys_range]
  intro h
  obtain ⟨x, hx, e⟩ := List.mem_map.mp h
  obtain ⟨k, hk, rfl⟩ := List.mem_map.mp hx
  have := T_inj e
  unfold key01 at this
  injection this with _ h2
  rw [fig_nat, fig_nat] at h2
  have h3 := dig_inj h2
  rw [List.mem_range'_1] at hk
  omega
theorem ch_len (q c : Nat) : (ch01 q c).length ≤ 4 := by
  unfold ch01
  split
  · exact (by decide : 2 ≤ 4)
  · split
    · exact (by decide : 2 ≤ 4)
    · split
      · exact (by decide : 2 ≤ 4)
      · split
        · exact (by decide : 2 ≤ 4)
        · split
          · exact (by decide : 4 ≤ 4)
          · exact (by decide : 1 ≤ 4)
theorem ch_lens (q : Nat) : ∀ c : List Nat, (c.flatMap (ch01 q)).length ≤ 4 * c.length
  | [] => Nat.le_refl _
  | a :: r => by have := ch_lens q r; have := ch_len q a; rw [List.flatMap_cons, List.length_append, List.length_cons]; omega
theorem quoted_len (c : List Nat) : (quoted01 c).length ≤ 4 * c.length + 2 := by
  unfold quoted01
  have := ch_lens (qt01 c) c
  rw [List.length_cons, List.length_append, List.length_singleton]; omega
theorem byts_of (b : Array UInt8) : byts (b.toList.map UInt8.toNat) = b := by
  unfold byts
  rw [List.map_map]
  have : (UInt8.ofNat ∘ UInt8.toNat) = _root_.id := by funext x; simp
  rw [this, List.map_id]
theorem lit_b (b : Array UInt8) : Bytes.literal b = T (98 :: quoted01 (b.toList.map UInt8.toNat)) := by
  have := lit_T (b.toList.map UInt8.toNat) (fun x hx => by
    obtain ⟨y, _, rfl⟩ := List.mem_map.mp hx
    exact y.toNat_lt)
  rwa [byts_of] at this
theorem jn_len : ∀ ps : List (List Nat), (jn01 ps).length ≤ (ps.map List.length).sum + 2 * ps.length
  | [] => Nat.zero_le _
  | [p] => by simp [jn01]
  | p :: q :: r => by
    have ih := jn_len (q :: r)
    have e : jn01 (p :: q :: r) = p ++ ([44, 32] ++ jn01 (q :: r)) := by simp [jn01, List.intersperse]
    rw [e, List.length_append, List.length_append, List.map_cons, List.sum_cons, List.length_cons]
    simp only [List.length_cons, List.length_nil] at ih ⊢
    omega
mutual
theorem txt_len : ∀ t : Th, okT t → (txt t).length + 40 ≤ 80 * sz t
  | .none, _ => by simp [txt, sz]
  | .bool b, _ => by cases b <;> simp [txt, sz]
  | .int i, h => by rw [okT] at h; rw [txt, show sz (.int i) = 1 by simp [sz]]; have := fig_len h; omega
  | .str c, h => by rw [okT] at h; rw [txt, show sz (.str c) = 1 by simp [sz]]; have := quoted_len c; omega
  | .byt b, h => by
    rw [okT] at h; rw [txt, show sz (.byt b) = 1 by simp [sz], lit_b, T_list, List.length_cons]
    have h2 := quoted_len (b.toList.map UInt8.toNat)
    have h3 : (b.toList.map UInt8.toNat).length = b.size := by simp
    rw [h3] at h2
    omega
  | .lst l, h => by
    rw [okT] at h
    have := txts_len l h
    have := jn_len (txts l)
    rw [txt, sz]; simp; omega
  | .tup l, h => by
    rw [okT] at h
    have := txts_len l h
    have := jn_len (txts l)
    rw [txt, sz]
    split <;> simp <;> omega
  | .dct l, h => by
    rw [okT] at h
    have := prs_len l 0 h.1 (by omega)
    have := jn_len (prs 0 l)
    rw [txt, sz]; simp; omega
theorem txts_len : ∀ l : List Th, okTs l → ((txts l).map List.length).sum + 2 * (txts l).length + 30 * l.length ≤ 80 * szs l
  | [], _ => by simp [txts, szs]
  | t :: r, h => by
    rw [okTs] at h
    have h1 := txt_len t h.1
    have h2 := txts_len r h.2
    rw [txts, szs]; simp; omega
theorem prs_len : ∀ (l : List Th) (k : Nat), okTs l → k + l.length ≤ 200 → ((prs k l).map List.length).sum + 2 * (prs k l).length ≤ 80 * szs l
  | [], _, _, _ => by simp [prs, szs]
  | t :: r, k, h, hk => by
    rw [okTs] at h
    rw [List.length_cons] at hk
    have h1 := txt_len t h.1
    have h2 := prs_len r (k + 1) h.2 (by omega)
    have h3 := quoted_len (key01 k)
    have h4 := key_len (k := k) (by omega)
    rw [prs, szs]; simp; omega
end
theorem sz_pos : ∀ t : Th, 1 ≤ sz t := by intro t; cases t <;> simp [sz]
theorem szs_len : ∀ l : List Th, l.length ≤ szs l
  | [] => Nat.zero_le _
  | t :: r => by have := szs_len r; have := sz_pos t; rw [szs, List.length_cons]; omega
theorem szs_app : ∀ a b : List Th, szs (a ++ b) = szs a + szs b
  | [], b => by rw [List.nil_append, szs, Nat.zero_add]
  | t :: r, b => by rw [List.cons_append, szs, szs, szs_app r b]; omega
theorem dths_app : ∀ a b : List Th, dths (a ++ b) = max (dths a) (dths b)
  | [], b => by rw [List.nil_append, dths]; omega
  | t :: r, b => by rw [List.cons_append, dths, dths, dths_app r b]; omega
theorem okTs_app : ∀ {a b : List Th}, okTs a → okTs b → okTs (a ++ b)
  | [], b, _, h => h
  | t :: r, b, h, h' => by rw [okTs] at h; rw [List.cons_append, okTs]; exact ⟨h.1, okTs_app h.2 h'⟩
theorem thDs_app (a b : List Th) : thDs (a ++ b) = thDs a ++ thDs b := by rw [thDs_map, thDs_map, thDs_map, List.map_append]
theorem txts_map : ∀ l : List Th, txts l = l.map txt
  | [] => by rw [txts]; rfl
  | t :: r => by rw [txts, txts_map r]; rfl
def tyN : Th → String
  | .none => "NoneType"
  | .bool _ => "bool"
  | .int _ => "int"
  | .str _ => "str"
  | .byt _ => "bytes"
  | .lst _ => "list"
  | .tup _ => "tuple"
  | .dct _ => "dict"
end
section
open PySem PySem.W PyProof.Rows PySem.Builtin PySem.Builtin.Str
set_option linter.unusedVariables false
set_option linter.unusedSimpArgs false
set_option maxRecDepth 100000
theorem comma_T : ((", " : String) : Str) = T [44, 32] := by decide +kernel
theorem listText_T (ps : List (List Nat)) : listText (ps.map T) = T ([91] ++ jn01 ps ++ [93]) := by
  rw [listText_eq_join]
  rw [comma_T, join_list, show (("[" : String) : Str) = T [91] from by decide +kernel, show (("]" : String) : Str) = T [93] from by decide +kernel, T_append, T_append]
  rfl
theorem tupleText_T (ps : List (List Nat)) : tupleText (ps.map T) = T ([40] ++ jn01 ps ++ (if ps.length = 1 then [44, 41] else [41])) := by
  unfold tupleText
  rw [comma_T, join_list, show (("(" : String) : Str) = T [40] from by decide +kernel, List.length_map]
  by_cases h : ps.length = 1
  · rw [if_pos (by rw [h]; rfl), if_pos h, show ((",)" : String) : Str) = T [44, 41] from by decide +kernel, T_append, T_append]; rfl
  · rw [if_neg (by simpa using h), if_neg h, show ((")" : String) : Str) = T [41] from by decide +kernel, T_append, T_append]; rfl
theorem dictText_T (ps : List (List Nat)) : dictText (ps.map T) = T ([123] ++ jn01 ps ++ [125]) := by
  unfold dictText
  rw [comma_T, join_list, show (("{" : String) : Str) = T [123] from by decide +kernel, show (("}" : String) : Str) = T [125] from by decide +kernel, T_append, T_append]
  rfl
theorem int_T (i : Int) : (toString i : Str) = T (fig01 i) := (T_of _).symm
section
variable {G : Gnd} {Z : Zf} {h₀ : Heap}
def AtMost (G : Gnd) (Z : Zf) (n : Nat) (bs : List Addr) : Prop := ∀ b ∈ bs, ∃ t, Rep G Z (.ref b) (thD t) ∧ dth t ≤ n
theorem atMost_nil {n : Nat} : AtMost G Z n [] := fun _ h => nomatch h
theorem AtMost.le {n m : Nat} {bs : List Addr} (h : AtMost G Z n bs) (hm : n ≤ m) : AtMost G Z m bs := fun b hb => let ⟨t, r, d⟩ := h b hb; ⟨t, r, Nat.le_trans d hm⟩
theorem AtMost.app {n : Nat} {bs cs : List Addr} (h : AtMost G Z n bs) (h' : AtMost G Z n cs) : AtMost G Z n (bs ++ cs) := fun b hb => (List.mem_append.mp hb).elim (h b) (h' b)
theorem AtMost.non {n : Nat} {bs : List Addr} {a : Addr} {t : Th} (h : AtMost G Z n bs) (r : Rep G Z (.ref a) (thD t)) (hd : n < dth t) : a ∉ bs := fun hm => by
  obtain ⟨t', r', hd'⟩ := h a hm
  rw [th_uniq t t' r r'] at hd
  omega
theorem AtMost.con {n : Nat} {bs : List Addr} {a : Addr} {t : Th} (h : AtMost G Z n bs) (r : Rep G Z (.ref a) (thD t)) (hd : n ≤ dth t) : AtMost G Z (dth t) (a :: bs) := fun b hb => by
  rcases List.mem_cons.mp hb with rfl | hb
  · exact ⟨t, r, Nat.le_refl _⟩
  · exact h.le hd b hb
theorem keysK {d : Nat} {bs : List Addr} : ∀ (es : List DictEntry) (kvs : List (Str × Value)) (k : Nat), Pairs (strKind G.prog G.w) es kvs → kvs.map (·.1) = (keys01 k kvs.length).map T → k + kvs.length ≤ 200 → ReprAllK G.prog G.w bs h₀ d (es.map (·.key)) ((keys01 k kvs.length).map fun c => T (quoted01 c))
  | _, _, k, .nil, _, _ => by simp only [List.length_nil, keys01, List.map_nil]; exact .nil
  | _, _, k, .cons (e := e) (kv := kv) (es := es) (kvs := kvs) h1 h2 hp, hk, hn => by
    simp only [List.length_cons, keys01, List.map_cons] at hk hn ⊢
    injection hk with hk1 hk2
    refine .cons ?_ (keysK es kvs (k + 1) hp hk2 (by omega))
    have hs : kv.1 = T (key01 k) := hk1
    obtain ⟨t, ht⟩ : ∃ t, e.key = .str (T (key01 k)) t := by
      rw [hs] at h1
      exact Value.isStrOf_shape h1
    rw [ht, ← repr_T _ (key_asc k)]
    have hq := quoted_len (key01 k)
    have hq2 := key_len (k := k) (by omega)
    have big : 100000 ≤ sizeLine := by decide
    exact .of_is (ReprIs.str _ t (by rw [repr_T _ (key_asc k), T_length]; omega)) _ _ _
theorem prs_zip : ∀ (l : List Th) (k : Nat), List.zipWith (fun k v : Str => k ++ ": " ++ v) ((keys01 k l.length).map fun c => T (quoted01 c)) ((txts l).map T) = (prs k l).map T
  | [], k => by simp [keys01, txts, prs]
  | t :: r, k => by
    rw [List.length_cons, keys01, txts, prs, List.map_cons, List.map_cons, List.map_cons, List.zipWith_cons_cons, prs_zip r (k + 1)]
    rw [show ((": " : String) : Str) = T [58, 32] from by decide +kernel, T_append, T_append]
theorem log2_small {i : Int} (h : i.natAbs < 1000000000000) : i.natAbs.log2 < 1920 := by
  by_cases h0 : i.natAbs = 0
  · rw [h0]; decide
  · rw [Nat.log2_lt h0]
    exact Nat.lt_of_lt_of_le h (by decide +kernel)
mutual
theorem rK (hz : ∀ a o, Z a = some o → h₀.get? a = some o) : ∀ (t : Th) {v : Value}, Rep G Z v (thD t) → okT t → ∃ bs, AtMost G Z (dth t) bs ∧ ReprK G.prog G.w bs h₀ (dth t) v (T (txt t))
  | .none, v, r, h => by
    rw [thD] at r; cases r
    exact ⟨[], atMost_nil, by rw [txt, show T [78, 111, 110, 101] = (("None" : String) : Str) from by decide +kernel]; exact .of_is ReprIs.none _ _ _⟩
  | .bool b, v, r, h => by
    rw [thD] at r; cases r
    refine ⟨[], atMost_nil, ?_⟩
    rw [txt, show T (if b = true then [84, 114, 117, 101] else [70, 97, 108, 115, 101]) = (if b = true then Str.ofString "True" else Str.ofString "False") from by cases b <;> decide +kernel]
    exact .of_is (ReprIs.bool b) _ _ _
  | .int i, v, r, h => by
    rw [thD] at r; cases r with
    | int _ t =>
      rw [okT] at h
      exact ⟨[], atMost_nil, by rw [txt, ← int_T]; exact .of_is (ReprIs.int t (log2_small h)) _ _ _⟩
  | .str c, v, r, h => by
    rw [thD] at r
    rw [okT] at h
    generalize hx : T c = x at r
    cases r with
    | str _ t =>
      subst hx
      have hq := quoted_len c
      have big : 100000 ≤ sizeLine := by decide
      exact ⟨[], atMost_nil, by rw [txt, ← repr_T _ h.1]; exact .of_is (ReprIs.str _ t (by rw [repr_T _ h.1, T_length]; omega)) _ _ _⟩
  | .byt b, v, r, h => by
    rw [thD] at r
    rw [okT] at h
    cases r with
    | bytes _ t =>
      have hb := txt_len (.byt b) h
      rw [show sz (.byt b) = 1 by simp [sz]] at hb
      have big : 100000 ≤ sizeLine := by decide
      rw [txt] at hb
      refine ⟨[], atMost_nil, ?_⟩
      rw [txt, T_of]
      have hl : (Bytes.literal b).length = (Bytes.literal b).cps.toList.length := by show (Bytes.literal b).cps.size = _; simp
      exact .of_is (reprIs_bytes t (by omega) (by rw [hl]; omega)) _ _ _
  | .lst l, v, r₀, h => by
    have r := r₀
    rw [thD] at r
    rw [okT] at h
    cases r with
    | @list a vs k _ hza ra =>
      obtain ⟨bs, hb, hk⟩ := rKs hz l ra h
      have hna : a ∉ bs := hb.non r₀ (by rw [dth]; omega)
      refine ⟨a :: bs, hb.con r₀ (by rw [dth]; omega), ?_⟩
      rw [txt, ← listText_T, dth]
      cases vs with
      | nil =>
        have : l = [] := by
          cases l with
          | nil => rfl
          | cons t l => rw [thDs] at ra; cases ra
        subst this
        rw [txts, List.map_nil, listText_nil]
        exact ReprK.listEmpty (hz _ _ hza) rfl rfl
      | cons x xs => exact ReprK.list (hz _ _ hza) rfl rfl hna (by simpa using hk.length_eq) (fun i y e => hk.item i y (by simpa using e))
  | .tup l, v, r₀, h => by
    have r := r₀
    rw [thD] at r
    rw [okT] at h
    cases r with
    | @tup a vs k _ hza ra =>
      obtain ⟨bs, hb, hk⟩ := rKs hz l ra h
      have hna : a ∉ bs := hb.non r₀ (by rw [dth]; omega)
      refine ⟨a :: bs, hb.con r₀ (by rw [dth]; omega), ?_⟩
      have ht := tupleText_T (txts l)
      rw [show (txts l).length = l.length by rw [txts_map, List.length_map]] at ht
      rw [txt, ← ht, dth]
      exact ReprK.tuple (hz _ _ hza) rfl rfl hna hk
  | .dct l, v, r₀, h => by
    have r := r₀
    rw [thD] at r
    rw [okT] at h
    generalize hks : (keys01 0 l.length).map T = ks at r
    cases r with
    | @dict a o kvs _ hza hsys hd ra =>
      obtain ⟨es, ep, hex, hdat, _, hp, _⟩ := hd
      have hlen : kvs.length = l.length := by have := congrArg List.length hks; simpa [keys_len] using this.symm
      obtain ⟨bs, hb, hk⟩ := rKs hz l ra h.1
      have hna : a ∉ bs := hb.non r₀ (by rw [dth]; omega)
      refine ⟨a :: bs, hb.con r₀ (by rw [dth]; omega), ?_⟩
      rw [txt, ← dictText_T, ← prs_zip, dth]
      rw [pairs_vals hp] at hk
      have hkk := keysK (bs := bs) (h₀ := h₀) (d := dths l) es.toList kvs 0 hp (by rw [hlen]; exact hks.symm) (by omega)
      rw [hlen] at hkk
      exact ReprK.dict (hz _ _ hza) hex.1 hdat hsys hna (ReprEntriesK.of_two es.toList _ _ hkk hk)
theorem rKs (hz : ∀ a o, Z a = some o → h₀.get? a = some o) : ∀ (l : List Th) {vs : List Value}, RepAll G Z vs (thDs l) → okTs l → ∃ bs, AtMost G Z (dths l) bs ∧ ReprAllK G.prog G.w bs h₀ (dths l) vs ((txts l).map T)
  | [], vs, r, _ => by
    rw [thDs] at r; cases r
    exact ⟨[], atMost_nil, by rw [txts]; exact .nil⟩
  | t :: l, vs, r, h => by
    rw [thDs] at r
    rw [okTs] at h
    cases r with
    | cons r1 r2 =>
      obtain ⟨b1, h1, k1⟩ := rK hz t r1 h.1
      obtain ⟨b2, h2, k2⟩ := rKs hz l r2 h.2
      refine ⟨b1 ++ b2, ?_, ?_⟩
      · rw [dths]; exact (h1.le (Nat.le_max_left _ _)).app (h2.le (Nat.le_max_right _ _))
      · rw [dths, txts, List.map_cons]
        exact .cons ((k1.more fun b hb => List.mem_append_left _ hb).level_le (Nat.le_max_left _ _)) (k2.more_le (fun b hb => List.mem_append_right _ hb) (Nat.le_max_right _ _))
end
end
end
section
open PySem PySem.W PyProof.Rows PySem.Builtin PySem.Builtin.Str
set_option linter.unusedVariables false
set_option linter.unusedSimpArgs false
set_option maxRecDepth 100000
section
variable {G : Gnd} {Z : Zf}
theorem top_run (t : Th) (ht : okT t) (hd : dth t ≤ 8) (hs : sz t ≤ 1000) {A : Around} {s : Shared} {v : Value} {Q E : Value → Shared → Prop} (R : RoomX 2 A) (b : Bs G Z s) (r : Rep G Z v (thD t))
    (h : ∀ h' tk k, (∀ b o, s.heap.get? b = some o → h'.get? b = some o) → Q (.str (T (txt t)) tk) { s with heap := h', toks := k }) : wpAny (model G.prog G.w) A (pyReprObj v) Q E s := by
  have big : 3000000 ≤ sizeLine := by decide
  have hlen := txt_len t ht
  have hsz : (T (txt t)).length ≤ sizeLine := by rw [T_length]; omega
  have hu := R.units
  cases t with
  | none =>
    rw [thD] at r; cases r
    rw [txt, show T [78, 111, 110, 101] = Str.ofString "None" from by decide +kernel] at h
    exact pyReprObj_none (h s.heap _ _ fun _ _ e => e)
  | bool b =>
    rw [thD] at r; cases r
    rw [txt, show T (if b = true then [84, 114, 117, 101] else [70, 97, 108, 115, 101]) = (if b = true then Str.ofString "True" else Str.ofString "False") from by cases b <;> decide +kernel] at h
    exact pyReprObj_bool (h s.heap _ _ fun _ _ e => e)
  | int i =>
    rw [thD] at r; cases r
    rw [okT] at ht
    rw [txt, ← int_T] at h
    exact pyReprObj_int (log2_small ht) (h s.heap _ _ fun _ _ e => e)
  | str c =>
    rw [thD] at r
    rw [okT] at ht
    generalize hx : T c = x at r
    cases r with
    | str _ t =>
      subst hx
      rw [txt, ← repr_T _ ht.1] at h hsz
      exact pyReprObj_str (h s.heap _ _ fun _ _ e => e) hsz
  | byt b =>
    rw [thD] at r
    rw [okT] at ht
    cases r with
    | bytes _ t =>
      rw [txt, T_of] at h hsz
      exact pyReprObj_bytes (by omega) hsz (h s.heap _ _ fun _ _ e => e)
  | lst l =>
    have r₀ := r
    rw [thD] at r
    rw [okT] at ht
    cases r with
    | @list a vs k _ hza ra =>
      obtain ⟨bs, hb, hk⟩ := rKs b.zin l ra ht
      have hna : a ∉ bs := hb.non r₀ (by rw [dth]; omega)
      rw [dth] at hd
      rw [txt, ← listText_T] at h hsz
      have ho := b.zin _ _ hza
      cases vs with
      | nil =>
        have : l = [] := by
          cases l with
          | nil => rfl
          | cons t l => rw [thDs] at ra; cases ra
        subst this
        rw [txts, List.map_nil, listText_nil] at h
        exact wpAny_pyReprObj_list_empty ⟨_, ho, rfl⟩ (by omega) ho rfl (h s.heap _ _ fun _ _ e => e)
      | cons x xs => exact wpAny_pyReprObj_listK ho rfl rfl hna (by simpa using hk.length_eq) (fun i y e => hk.item i y (by simpa using e)) R.guards (fun b _ => Clear.nil b) (by omega) (fun _ _ e => e) (fun h' u tk hk' => h h' u tk hk') hsz
  | tup l =>
    have r₀ := r
    rw [thD] at r
    rw [okT] at ht
    cases r with
    | @tup a vs k _ hza ra =>
      obtain ⟨bs, hb, hk⟩ := rKs b.zin l ra ht
      have hna : a ∉ bs := hb.non r₀ (by rw [dth]; omega)
      rw [dth] at hd
      have htt := tupleText_T (txts l)
      rw [show (txts l).length = l.length by rw [txts_map, List.length_map]] at htt
      rw [txt, ← htt] at h hsz
      exact wpAny_pyReprObj_tupleK (b.zin _ _ hza) rfl rfl hna hk R.guards (fun b _ => Clear.nil b) (by omega) (fun _ _ e => e) (fun h' u tk hk' => h h' u tk hk') hsz
  | dct l =>
    have r₀ := r
    rw [thD] at r
    rw [okT] at ht
    generalize hks : (keys01 0 l.length).map T = ks at r
    cases r with
    | @dict a o kvs _ hza hsys hdd ra =>
      obtain ⟨es, ep, hex, hdat, _, hp, _⟩ := hdd
      have hlk : kvs.length = l.length := by have := congrArg List.length hks; simpa [keys_len] using this.symm
      obtain ⟨bs, hb, hk⟩ := rKs b.zin l ra ht.1
      have hna : a ∉ bs := hb.non r₀ (by rw [dth]; omega)
      rw [dth] at hd
      rw [txt, ← dictText_T, ← prs_zip] at h hsz
      rw [pairs_vals hp] at hk
      have hkk := keysK (bs := bs) (h₀ := s.heap) (d := dths l) es.toList kvs 0 hp (by rw [hlk]; exact hks.symm) (by omega)
      rw [hlk] at hkk
      exact wpAny_pyReprObj_dictK (b.zin _ _ hza) hex.1 hdat hsys hna (ReprEntriesK.of_two es.toList _ _ hkk hk) R.guards (fun b _ => Clear.nil b) (by omega) (fun _ _ e => e) (fun h' u tk hk' => h h' u tk hk') hsz
theorem type_th (t : Th) {s : Shared} {v : Value} (b : Bs G Z s) (r : Rep G Z v (thD t)) : s.TypeIs v (tyN t) := by
  cases t with
  | none => rw [thD] at r; cases r; exact typeIs_none s
  | bool b => rw [thD] at r; cases r; exact PySem.typeIs_bool s _
  | int i => rw [thD] at r; cases r; exact typeIs_int s _ _
  | str c =>
    rw [thD] at r
    generalize hx : T c = x at r
    cases r with
    | str _ t => exact typeIs_str s _ _
  | byt b => rw [thD] at r; cases r; exact PySem.W.typeIs_bytes _ _ _
  | lst l => rw [thD] at r; cases r with
    | list hz ra => exact ⟨_, b.zin _ _ hz, rfl⟩
  | tup l => rw [thD] at r; cases r with
    | tup hz ra => exact ⟨_, b.zin _ _ hz, rfl⟩
  | dct l =>
    rw [thD] at r
    generalize hks : (keys01 0 l.length).map T = ks at r
    cases r with
    | dict hz hs hd ra =>
      obtain ⟨es, ep, hex, _⟩ := hd
      exact ⟨_, b.zin _ _ hz, hex.1⟩
theorem shown_th (t : Th) (ht : okT t) (hd : dth t ≤ 8) (hs : sz t ≤ 1000) : Shown G (thD t) (T (txt t)) (tyN t) := by
  refine ⟨fun A Z s v Q E R b r h => top_run t ht hd hs R b r h, fun Z s v b r => type_th t b r, ?_, ?_, ?_, ?_⟩
  · cases t <;> rfl
  · cases t <;> simp only [tyN] <;> decide +kernel
  · cases t <;> simp only [tyN] <;> decide +kernel
  · have := txt_len t ht; rw [T_length]; omega
end
end
local macro_rules | `(tactic| walk_at "ev1") => `(tactic| first
  | exact ev_int | exact ev_str | exact ev_bool | exact ev_none
  | exact ev_name rfl rfl
  | exact evs_nil
  | (apply evs_more; (case hs => exact rfl))
  | apply ev_binop | (apply ev_cmp; (case hm => exact rfl)) | apply ev_sub
  | apply ev_list | apply ev_tuple
  | (apply tst_cmp; (case hm => exact rfl)) | apply tst_not | exact tst_and_nil | exact tst_or_nil
  | exact op_add_int | exact op_sub_int | exact op_iadd_int | exact op_eq_int | exact op_ne_int | exact op_lt_int | exact op_gt_int | exact op_le_int | exact op_ge_int
  | exact op_eq_str | exact op_ne_str | exact op_in_str | exact op_notin_str | exact op_in_dict | exact op_notin_dict | exact op_ne_nil | exact op_eq_nil
  | exact op_fdiv_int (by decide) (PyProof.noPylong_of_log2 (by decide +kernel)) | exact op_mod_int (by decide)
  | apply op_add_str | apply op_iadd_str
  | exact tsts_nil | apply tsts_one)
local macro_rules | `(tactic| walk_at "ev") => `(tactic| repeat' walk_at "ev1")
local macro_rules | `(tactic| walk_at "can") => `(tactic| first | exact Or.inl rfl | exact Or.inr ⟨rfl, rfl, _, rfl⟩)
local macro_rules | `(tactic| walk_at "as") => `(tactic| (refine exs_cons ?_; apply ex_assign; (case hc => walk_at "can"); (case hs => exact rfl); (case' k => refine then_next ?_); (case' h => walk_at "ev")))
local macro_rules | `(tactic| walk_at "aug") => `(tactic| (refine exs_cons ?_; apply ex_aug; (case h₀ => exact rfl); (case hc => walk_at "can"); (case' k => refine then_next ?_); (case' ho => skip); (case' h => walk_at "ev"); (try walk_at "ev")))
local macro_rules | `(tactic| walk_at "if") => `(tactic| (refine exs_cons ?_; apply ex_if; (case' h => walk_at "ev")))
local macro_rules | `(tactic| walk_at "ret") => `(tactic| (refine exs_cons ?_; apply ex_return; (case' h => walk_at "ev")))
local macro_rules | `(tactic| walk_at "params") => `(tactic| (intro x hx; simp only [List.mem_cons, List.not_mem_nil, or_false] at hx; first
  | (subst hx; first | exact .inl rfl | exact .inr ⟨rfl, fun _ => rfl⟩)
  | (rcases hx with hx | hx <;> subst hx <;> first | exact .inl rfl | exact .inr ⟨rfl, fun _ => rfl⟩)
  | (rcases hx with hx | hx | hx <;> subst hx <;> first | exact .inl rfl | exact .inr ⟨rfl, fun _ => rfl⟩)))
local macro_rules | `(tactic| walk_at "esc") => `(tactic| (refine esc_step rfl (by decide +kernel : _ = (⟨#[_]⟩ : Str)) ?_ ?_ ?_ ?_ (by assumption) rfl (by walk_at "can") rfl ?_))
section
open PySem PySem.W PyProof.Rows
set_option linter.unusedVariables false
set_option maxRecDepth 100000
abbrev pw := PySem.Challenge.pw_dn0275_01
section
variable {G : Gnd} {n : Nat} {doc pm cdv ct : Value} {a : Addr}
set_option maxHeartbeats 4000000
/-- numbers of signs -/
abbrev ni (c : List Nat) : List Int := c.map Int.ofNat
theorem fdivN (a b : Nat) : ((a : Int)).fdiv (b : Int) = ((a / b : Nat) : Int) := by rw [Int.fdiv_eq_ediv_of_nonneg _ (Int.natCast_nonneg _)]; rfl
theorem fmodN (a b : Nat) : ((a : Int)).fmod (b : Int) = ((a % b : Nat) : Int) := by rw [Int.fmod_eq_emod_of_nonneg _ (Int.natCast_nonneg _)]; rfl
theorem any_ni (c : List Nat) (k : Nat) : ((ni c).any fun x => x == (k : Int)) = c.contains k := by
  rw [Bool.eq_iff_iff, List.any_eq_true, List.contains_iff_mem]
  constructor
  · rintro ⟨x, hx, e⟩
    obtain ⟨y, hy, rfl⟩ := List.mem_map.mp hx
    have : y = k := Int.ofNat.inj (beq_iff_eq.mp e)
    rw [← this]; exact hy
  · intro h; exact ⟨k, List.mem_map.mpr ⟨k, h, rfl⟩, by simp⟩
theorem hex_at : ∀ j, j < 16 → (("0123456789abcdef" : String) : Str).cps[j]? = some (hx01 j) := by decide +kernel
theorem ten_at : ∀ j, j < 10 → (("0123456789" : String) : Str).cps[j]? = some (48 + j) := by decide +kernel
theorem ch_1 {q k : Nat} (h : k = 92 ∨ k = q) : ch01 q k = [92, k] := by
  unfold ch01; rw [if_pos (by simpa using h)]
theorem ch_9 {q k : Nat} (h : ¬ (k = 92 ∨ k = q)) {x : Str} (hx : [((9 : Int), (("t" : String) : Str)), (10, (("n" : String) : Str)), (13, (("r" : String) : Str))].lookup (k : Int) = some x) : T (ch01 q k) = T [92] ++ x := by
  unfold ch01; rw [if_neg (by simpa using h)]
  simp only [List.lookup_cons] at hx
  split at hx
  · rename_i e
    have : k = 9 := by have := beq_iff_eq.mp e; omega
    subst this; cases hx; decide +kernel
  · split at hx
    · rename_i e
      have : k = 10 := by have := beq_iff_eq.mp e; omega
      subst this; cases hx; decide +kernel
    · split at hx
      · rename_i e
        have : k = 13 := by have := beq_iff_eq.mp e; omega
        subst this; cases hx; decide +kernel
      · cases hx
theorem ch_x {q k : Nat} (h : ¬ (k = 92 ∨ k = q)) (h2 : ¬ (k = 9 ∨ k = 10 ∨ k = 13)) (h3 : k < 32 ∨ 126 < k) : ch01 q k = [92, 120, hx01 (k / 16), hx01 (k % 16)] := by
  unfold ch01
  rw [if_neg (by simpa using h), if_neg (by simp; omega), if_neg (by simp; omega), if_neg (by simp; omega), if_pos (by simpa using h3)]
theorem ch_c {q k : Nat} (h : ¬ (k = 92 ∨ k = q)) (h2 : ¬ (k = 9 ∨ k = 10 ∨ k = 13)) (h3 : ¬ (k < 32 ∨ 126 < k)) : ch01 q k = [k] := by
  unfold ch01
  rw [if_neg (by simpa using h), if_neg (by simp; omega), if_neg (by simp; omega), if_neg (by simp; omega), if_neg (by simpa using h3)]
theorem quoted_join (c : List Nat) : Txt.join Str.empty ((([qt01 c] :: c.map (ch01 (qt01 c))) ++ [[qt01 c]]).map T) = T (quoted01 c) := by
  rw [join_flatT]
  unfold quoted01
  rw [List.flatten_append, List.flatten_cons, ← List.flatMap_def]
  simp
theorem ev_chr {env : Env} {ρ : Loc} {e : PySem.Expr} {k : Nat} {p pos : Pos} (he : Ev G env n ρ e (.int (k : Int))) (hk : k ≤ 1114111) (hc : nsIn G.K mainGlobals "chr" = some none) (hx : env.kindOf "chr" = some .globalImplicit) (hst : isStarred e = false) : Ev G env n ρ (.Call (.Name "chr" p) [e] [] pos) (.str (T [k])) := by
  have := ev_bf (pos := pos) (p := p) (x := "chr") (evs_more he evs_nil hst) (bf_chr (i := (k : Int)) (by omega) (by omega)) hc rfl hx rfl (by simp [hst])
  exact this
theorem fn_quoted (dA : DefAt G a (fdOf (stOf pw 3) doc pm cdv ct) (bodyOf (stOf pw 3))) (hc : nsIn G.K mainGlobals "chr" = some none) (c : List Nat) (h256 : ∀ k ∈ c, k < 256) (hl : c.length ≤ 1000) : Fn G (n + 2) a [.list ((ni c).map .int)] (.str (T (quoted01 c))) := by
  refine fn_of (xs := ["codes"]) dA (fun vs h => ?_) rfl ?_ (by decide) fun L => ?_
  · match vs, h with
    | [v], _ => rfl
  · walk_at "params"
  have big : 100000 ≤ sizeLine := by decide
  have hq := qt01_or c
  have hq' : qt01 c = 34 ∨ qt01 c = 39 := by simpa using hq
  have hb : (T [92] : Str) = (("\\" : String) : Str) := by decide +kernel
  -- mark
  refine exs_cons (ex_assign (d := .int ((qt01 c : Nat) : Int)) ?_ (.inl rfl) rfl (then_next ?_))
  · have e : (qt01 c : Int) = if (((ni c).any fun x => x == 39) && ((!((ni c).any fun x => x == 34)) && true)) then (34 : Int) else 39 := by
      have h1 := any_ni c 39
      have h2 := any_ni c 34
      unfold qt01
      rw [show ((39 : Nat) : Int) = 39 from rfl] at h1
      rw [show ((34 : Nat) : Int) = 34 from rfl] at h2
      rw [h1, h2, Bool.and_true]
      split <;> rfl
    rw [e]
    exact ev_ifint (tst_and (tst_cmp ev_int (ev_name rfl rfl) op_in_ints rfl) fun _ => tst_and (tst_cmp ev_int (ev_name rfl rfl) op_notin_ints rfl) fun _ => tst_and_nil) (fun _ => ev_int) fun _ => ev_int
  -- written
  refine exs_cons (ex_assign_own (ds := [.str (T [qt01 c])]) (evs_more (ev_chr (ev_name rfl rfl) (by omega) hc rfl rfl) evs_nil rfl) (by show 1 ≤ sizeLine; decide) (.inl rfl) (then_next ?_))
  generalize hqq : qt01 c = q at *
  refine exs_cons (ex_forI (fun i => [("codes", .val (.list ((ni c).map .int))), ("mark", .val (.int (q : Int))), ("written", .own (txs (([q] :: (c.take i).map (ch01 q)).map T)))]) (ev_name rfl rfl) itr_list (sub_cons rfl (sub_cons rfl (sub_cons rfl sub_nil))) (fun i d hd => ?_) (fun ρ' hsub => ?_) fun _ => rfl)
  · obtain ⟨k', hk', rfl⟩ := at_map hd
    obtain ⟨k, hk, rfl⟩ : ∃ k, c[i]? = some k ∧ k' = (k : Int) := by
      rw [List.getElem?_map] at hk'
      cases hci : c[i]? with
      | none => rw [hci] at hk'; cases hk'
      | some k => rw [hci] at hk'; cases hk'; exact ⟨k, rfl, rfl⟩
    have hkm := h256 k (List.mem_of_getElem? hk)
    refine ⟨_, asg_name (.inl rfl), ?_⟩
    have hsz : (txs (([q] :: (c.take i).map (ch01 q)).map T)).length ≤ sizeLine := by simp [List.length_take]; omega
    have step : ∀ {e : PySem.Expr} {p pos' apos pos : Pos} {Φ : Fl → Loc → Prop} {ρ : Loc}, ρ = upd [("codes", B.val (.list ((ni c).map .int))), ("mark", .val (.int (q : Int))), ("written", .own (txs (([q] :: (c.take i).map (ch01 q)).map T)))] "code" (.val (.int (k : Int))) → Ev G (callEnvC (fdOf (stOf pw 3) doc pm cdv ct) L a) (n + 1) ρ e (.str (T (ch01 q k))) → isStarred e = false → (apos.endLine == pos.line) = true → (∀ ρ', Sub [("codes", .val (.list ((ni c).map .int))), ("mark", .val (.int (q : Int))), ("written", .own (txs (([q] :: (c.take (i + 1)).map (ch01 q)).map T)))] ρ' → Φ .next ρ') → Exs G (callEnvC (fdOf (stOf pw 3) doc pm cdv ct) L a) (n + 1) ρ [.Expr (.Call (.Attribute (.Name "written" p) "append" apos) [e] [] pos) pos'] Φ := by
      intro e p pos' apos pos Φ ρ hρ he hst hline hΦ
      subst hρ
      refine exs_cons (ex_append (.str (T (ch01 q k))) rfl he hsz rfl hst hline rfl (then_next (exs_nil (hΦ _ (sub_cons rfl (sub_cons rfl (sub_cons ?_ sub_nil)))))))
      rw [lookup_upd, if_pos rfl, List.take_add_one, hk]
      simp
    refine exs_cons (ex_if (tst_or (tst_cmp (ev_name rfl rfl) ev_int op_eq_int rfl) fun _ => tst_or (tst_cmp (ev_name rfl rfl) (ev_name rfl rfl) op_eq_int rfl) fun _ => tst_or_nil) (fun h1 => ?_) fun h1 => ?_)
    · have h1' : k = 92 ∨ k = q := by simp at h1; omega
      refine step rfl ?_ rfl rfl fun ρ' h => exs_nil h
      rw [ch_1 h1', show T [92, k] = (("\\" : String) : Str) ++ T [k] by rw [← hb, T_append]; rfl]
      exact ev_binop ev_str (ev_chr (ev_name rfl rfl) (by omega) hc rfl rfl) (op_add_str (by rw [← hb, T_length, T_length]; simp; omega))
    have h1' : ¬ (k = 92 ∨ k = q) := by simp at h1; omega
    refine exs_cons (ex_if (tst_cmp (ev_name rfl rfl) (ev_list (ds := [9, 10, 13].map .int) (evs_more ev_int (evs_more ev_int (evs_more ev_int evs_nil rfl) rfl) rfl) (by show 3 ≤ sizeLine; decide)) op_in_ints rfl) (fun h2 => ?_) fun h2 => ?_)
    · have hk3 : k = 9 ∨ k = 10 ∨ k = 13 := by simp at h2; omega
      have hx : ∃ x, [((9 : Int), (("t" : String) : Str)), (10, (("n" : String) : Str)), (13, (("r" : String) : Str))].lookup (k : Int) = some x := by
        rcases hk3 with rfl | rfl | rfl
        · exact ⟨_, rfl⟩
        · exact ⟨_, rfl⟩
        · exact ⟨_, rfl⟩
      obtain ⟨x, hx⟩ := hx
      have hxl : x.length ≤ 10 := by
        rcases hk3 with rfl | rfl | rfl <;> cases hx <;> decide +kernel
      refine step rfl ?_ rfl rfl fun ρ' h => exs_nil (exs_nil h)
      rw [ch_9 h1' hx, hb]
      exact ev_binop ev_str (ev_menu3 (ev_name rfl rfl) (by decide) hx) (op_add_str (by rw [← hb, T_length]; simp; omega))
    have h2' : ¬ (k = 9 ∨ k = 10 ∨ k = 13) := by simp at h2; omega
    refine exs_cons (ex_if (tst_or (tst_cmp (ev_name rfl rfl) ev_int op_lt_int rfl) fun _ => tst_or (tst_cmp (ev_name rfl rfl) ev_int op_gt_int rfl) fun _ => tst_or_nil) (fun h3 => ?_) fun h3 => ?_)
    · have h3' : k < 32 ∨ 126 < k := by simp at h3; omega
      refine step rfl ?_ rfl rfl fun ρ' h => exs_nil (exs_nil (exs_nil h))
      have hx2 : (T [92, 120] : Str) = (("\\x" : String) : Str) := by decide +kernel
      rw [ch_x h1' h2' h3', show T [92, 120, hx01 (k / 16), hx01 (k % 16)] = ((("\\x" : String) : Str) ++ T [hx01 (k / 16)]) ++ T [hx01 (k % 16)] by rw [← hx2, T_append, T_append]; rfl]
      have e1 : ((k : Int)).fdiv 16 = ((k / 16 : Nat) : Int) := fdivN k 16
      have e2 : ((k : Int)).fmod 16 = ((k % 16 : Nat) : Int) := fmodN k 16
      refine ev_binop (ev_binop ev_str (ev_sub ev_str (ev_binop (ev_name rfl rfl) ev_int (op_fdiv_int (by decide) (PyProof.noPylong_of_log2 (by decide +kernel)))) (sb_str (c := hx01 (k / 16)) ?_ ?_ ?_)) (op_add_str ?_)) (ev_sub ev_str (ev_binop (ev_name rfl rfl) ev_int (op_mod_int (by decide))) (sb_str (c := hx01 (k % 16)) ?_ ?_ ?_)) (op_add_str ?_)
      · rw [e1]; omega
      · rw [e1]; omega
      · rw [e1, Int.toNat_natCast]; exact hex_at _ (by omega)
      · rw [← hx2, T_length]; show 2 + 1 ≤ sizeLine; decide
      · rw [e2]; omega
      · rw [e2]; omega
      · rw [e2, Int.toNat_natCast]; exact hex_at _ (by omega)
      · rw [Str.length_append, ← hx2, T_length]; show 2 + 1 + 1 ≤ sizeLine; decide
    · have h3' : ¬ (k < 32 ∨ 126 < k) := by simp at h3; omega
      refine step rfl ?_ rfl rfl fun ρ' h => exs_nil (exs_nil (exs_nil h))
      rw [ch_c h1' h2' h3']
      exact ev_chr (ev_name rfl rfl) (by omega) hc rfl rfl
  · refine exs_weaken hsub ?_
    have hlen : ((ni c).map D.int).length = c.length := by simp
    rw [hlen, List.take_length]
    refine exs_cons (ex_append (.str (T [q])) rfl (ev_chr (ev_name rfl rfl) (by omega) hc rfl rfl) (by simp; omega) rfl rfl rfl rfl (then_next ?_))
    refine exs_cons (ex_return (d := .str (T (quoted01 c))) ?_ rfl)
    refine ev_peek (x := "written") rfl ?_ rfl
    have hj := quoted_join c
    rw [hqq] at hj
    rw [← hj]
    have hE : txs (([q] :: c.map (ch01 q)).map T) ++ [.str (T [q])] = txs ((([q] :: c.map (ch01 q)) ++ [[q]]).map T) := by simp
    rw [hE]
    refine ev_meth ev_str (evs_more (ev_name rfl rfl) evs_nil rfl) (getm_str F.slot_str_join F.type_str_join) (bf_join (joinOk_of (m := 4) (fun x hx => ?_) ?_)) rfl rfl (by show 1 < 30; decide) rfl
    · obtain ⟨y, hy, rfl⟩ := List.mem_map.mp hx
      rw [T_length]
      rcases List.mem_append.mp hy with hy | hy
      · rcases List.mem_cons.mp hy with rfl | hy
        · simp
        · obtain ⟨z, _, rfl⟩ := List.mem_map.mp hy
          exact ch_len q z
      · rw [List.mem_singleton.mp hy]; simp
    · have : (("" : String) : Str).length = 0 := by decide +kernel
      rw [this]; simp; omega
end
end
section
open PySem PySem.W PyProof.Rows
set_option linter.unusedVariables false
set_option maxRecDepth 100000
section
variable {G : Gnd} {n : Nat} {doc pm cdv ct : Value} {a : Addr}
set_option maxHeartbeats 4000000
theorem abs_nat (i : Int) : (if i < 0 then -i else i) = (i.natAbs : Int) := by split <;> omega
theorem fn_figures (dA : DefAt G a (fdOf (stOf pw 4) doc pm cdv ct) (bodyOf (stOf pw 4))) (hab : nsIn G.K mainGlobals "abs" = some none) (i : Int) (hi : i.natAbs < 1000000000000) : Fn G (n + 1) a [.int i] (.str (T (fig01 i))) := by
  refine fn_of (xs := ["number"]) dA (fun vs h => ?_) rfl ?_ (by decide) fun L => ?_
  · match vs, h with
    | [v], _ => rfl
  · walk_at "params"
  have big : 100000 ≤ sizeLine := by decide
  have e0 : ("" : Str) = T [] := by decide +kernel
  have hd12 := dig_len (n := i.natAbs) (k := 12) (by decide) hi
  walk_at "as"
  refine exs_cons (ex_assign (d := .int (i.natAbs : Int)) (by rw [← abs_nat]; exact ev_bf (evs_more (ev_name rfl rfl) evs_nil rfl) bf_abs hab rfl rfl rfl rfl) (.inl rfl) rfl (then_next ?_))
  refine exs_cons (ex_whileI (σ := Nat × List Nat) (fun c => [("number", .val (.int i)), ("figures", .val (.str (T c.2))), ("rest", .val (.int (c.1 : Int)))]) (fun c => c.1) (fun c => dig i.natAbs = dig c.1 ++ c.2) (i.natAbs, []) (sub_cons rfl (sub_cons (by rw [← e0]; rfl) (sub_cons rfl sub_nil))) (by simp) (fun c hP => ?_))
  obtain ⟨m, fs⟩ := c
  dsimp only at hP ⊢
  have hfs : fs.length ≤ 12 := by have := congrArg List.length hP; rw [List.length_append] at this; omega
  refine ⟨decide ((9 : Int) < (m : Int)), tst_cmp (ev_name rfl rfl) ev_int op_gt_int rfl, fun h9 => ?_, fun h9 ρ' hsub => then_next ?_⟩
  · have h9' : 10 ≤ m := by simp at h9; omega
    have e1 : ((m : Int)).fmod 10 = ((m % 10 : Nat) : Int) := fmodN m 10
    have e2 : ((m : Int)).fdiv 10 = ((m / 10 : Nat) : Int) := fdivN m 10
    refine exs_cons (ex_assign (d := .str (T ((48 + m % 10) :: fs))) ?_ (.inl rfl) rfl (then_next ?_))
    · rw [show T ((48 + m % 10) :: fs) = T [48 + m % 10] ++ T fs by rw [T_append]; rfl]
      refine ev_binop (ev_sub ev_str (ev_binop (ev_name rfl rfl) ev_int (op_mod_int (by decide))) (sb_str (c := 48 + m % 10) ?_ ?_ ?_)) (ev_name rfl rfl) (op_add_str (by rw [T_length]; show 1 + _ ≤ _; omega))
      · rw [e1]; omega
      · rw [e1]; omega
      · rw [e1, Int.toNat_natCast]; exact ten_at _ (by omega)
    refine exs_cons (ex_assign (d := .int ((m / 10 : Nat) : Int)) (by rw [← e2]; exact ev_binop (ev_name rfl rfl) ev_int (op_fdiv_int (by decide) (PyProof.noPylong_of_log2 (by decide +kernel)))) (.inl rfl) rfl (then_next (exs_nil ?_)))
    refine ⟨(m / 10, (48 + m % 10) :: fs), by dsimp only; omega, ?_, sub_cons rfl (sub_cons rfl (sub_cons rfl sub_nil))⟩
    dsimp only
    rw [hP, dig_ge h9']; simp
  · have h9' : m < 10 := by simp at h9; omega
    refine exs_weaken hsub ?_
    refine exs_cons (ex_return (d := .str (T (fig01 i))) ?_ rfl)
    have e : T (fig01 i) = (T (if i < 0 then [45] else []) ++ T [48 + m]) ++ T fs := by
      rw [fig_eq, hP, dig_lt h9', T_append, T_append]; simp
    rw [e]
    refine ev_binop (ev_binop (ev_if_same (c := decide (i < 0)) (tst_cmp (ev_name rfl rfl) ev_int op_lt_int rfl) (fun h => ?_) fun h => ?_) (ev_sub ev_str (ev_name rfl rfl) (sb_str (c := 48 + m) ?_ ?_ ?_)) (op_add_str ?_)) (ev_name rfl rfl) (op_add_str ?_)
    · rw [if_pos (by simpa using h), show T [45] = (("-" : String) : Str) by decide +kernel]; exact ev_str
    · rw [if_neg (by simpa using h), ← e0]; exact ev_str
    · omega
    · omega
    · rw [Int.toNat_natCast]; exact ten_at _ (by omega)
    · rw [T_length]; show _ + 1 ≤ _; split <;> simp <;> omega
    · rw [Str.length_append, T_length, T_length]; show _ + 1 + _ ≤ _; split <;> simp <;> omega
theorem fn_signs (dA : DefAt G a (fdOf (stOf pw 5) doc pm cdv ct) (bodyOf (stOf pw 5))) : Fn G (n + 1) a [] (.list ((ni signs01).map .int)) := by
  refine fn_of (xs := []) dA (fun vs h => ?_) rfl (fun x hx => nomatch hx) (by decide) fun L => ?_
  · match vs, h with
    | [], _ => rfl
  refine exs_cons (ex_return (d := .list ((ni signs01).map .int)) ?_ rfl)
  refine ev_list (ds := [39, 34, 92, 10, 13, 9, 0, 127, 97, 32, 37, 123].map .int) ?_ (by show 12 ≤ sizeLine; decide)
  walk_at "ev"
def sg01 (z : Int) : Nat := signs01.getD (z.fmod 12).toNat 0
theorem sg_lt (z : Int) : sg01 z < 128 := by
  have h : ∀ j, j < 12 → signs01.getD j 0 < 128 := by decide
  have := fmod_bounds (a := z) (m := 12) (by decide)
  exact h _ (by omega)
theorem sb_sign {value slice : PySem.Expr} (z : Int) : Sb G value slice (.list ((ni signs01).map .int)) (.int (z.fmod 12)) (.int ((sg01 z : Nat) : Int)) := by
  have hb := fmod_bounds (a := z) (m := 12) (by decide)
  refine sb_list (by omega) (by omega) ?_
  have h : ∀ j, j < 12 → ((ni signs01).map D.int)[j]? = some (D.int ((signs01.getD j 0 : Nat) : Int)) := by
    intro j hj
    have : j = 0 ∨ j = 1 ∨ j = 2 ∨ j = 3 ∨ j = 4 ∨ j = 5 ∨ j = 6 ∨ j = 7 ∨ j = 8 ∨ j = 9 ∨ j = 10 ∨ j = 11 := by omega
    rcases this with rfl | rfl | rfl | rfl | rfl | rfl | rfl | rfl | rfl | rfl | rfl | rfl <;> rfl
  exact h _ (by omega)
/-- ''.join([chr(code) for code in codes]) -/
theorem ev_chars {env : Env} {ρ : Loc} {c : List Nat} {k0 : Nat} {p0 p1 p2 p3 p4 p5 p6 apos pos : Pos} {scope : Scope} (hx : ρ.lookup ("codes" : Str) = some (B.val (.list ((ni c).map .int)))) (hl : c.length ≤ 1000) (hb : ∀ k ∈ c, k ≤ 1114111) (hc : nsIn G.K mainGlobals "chr" = some none)
    (K : Scoped env scope [] ρ []) (hk1 : ∀ C, (compEnvC scope [] C env).kindOf "code" = some .local) (hk2 : ∀ C, (compEnvC scope [] C env).kindOf "chr" = some .globalImplicit) (hline : (apos.endLine == pos.line) = true) :
    Ev G env n ρ (.Call (.Attribute (.Constant (.str "") k0 p0) "join" apos) [.ListComp (.Call (.Name "chr" p1) [.Name "code" p2] [] p3) [⟨.Name "code" p4, .Name "codes" p5, [], 0⟩] scope p6] [] pos) (.str (T c)) := by
  have big : 100000 ≤ sizeLine := by decide
  rw [← join_ones]
  refine ev_meth (ds := [.list (txs (c.map fun k => T [k]))]) ev_str (evs_more (ev_listcomp K rfl (fun _ => rfl) (ev_name hx rfl) (itr_list (ds := (ni c).map .int)) (fun C => ?_) (by simp; omega)) evs_nil rfl) (getm_str F.slot_str_join F.type_str_join) (bf_join (joinOk_of (m := 1) (fun x hx => ?_) ?_)) rfl rfl (by show 1 < 30; decide) hline
  · have e : txs (c.map fun k => T [k]) = c.flatMap fun k => [D.str (T [k])] := by rw [txs, List.map_map, map_one]; rfl
    have e2 : (ni c).map D.int = c.map fun k => D.int ((k : Nat) : Int) := by rw [List.map_map]; rfl
    rw [e, e2]
    exact comp1 (xs := c) (mk := fun k => D.int ((k : Nat) : Int)) (F := fun k => [D.str (T [k])]) fun k hk => ⟨_, true, asg_name (.inl (hk1 C)), sub_nil, tsts_nil, (fun h => nomatch h), fun _ => ⟨_, ev_chr (ev_name rfl rfl) (hb k hk) hc (hk2 C) rfl, rfl⟩⟩
  · obtain ⟨k, _, rfl⟩ := List.mem_map.mp hx
    exact Nat.le_refl _
  · have : (("" : String) : Str).length = 0 := by decide +kernel
    rw [this]; simp; omega
end
end
section
open PySem PySem.W PyProof.Rows
set_option linter.unusedVariables false
set_option maxRecDepth 100000
section
variable {G : Gnd} {n : Nat} {doc pm cdv ct : Value} {a : Addr}
set_option maxHeartbeats 4000000
def cod4 (y : Int) : List Nat := [sg01 (y.fdiv 4), sg01 (y.fdiv 48), ((y.fdiv 576).fmod 128).toNat].take (y.fmod 4).toNat
def cod7 (y : Int) : List Nat := [sg01 (y.fdiv 3), ((y.fdiv 36).fmod 256).toNat].take (y.fmod 3).toNat
def num01 (y : Int) : Int := if decide (((y.natAbs : Nat) : Int) < 1000000000000) = true then y else y.fmod 1000000000000
def leaf01 (kind y : Int) : Th :=
  if kind = 4 then .str (cod4 y) else if kind = 7 then .byt (byts (cod7 y)) else if kind = 6 then [Th.none, .bool true, .bool false].getD (y.fmod 3).toNat .none else .int (num01 y)
theorem cod4_lt (y : Int) : ∀ x ∈ cod4 y, x < 128 := by
  intro x hx
  have := List.mem_of_mem_take hx
  have hb := fmod_bounds (a := y.fdiv 576) (m := 128) (by decide)
  simp only [List.mem_cons, List.not_mem_nil, or_false] at this
  rcases this with rfl | rfl | rfl
  · exact sg_lt _
  · exact sg_lt _
  · omega
theorem cod7_lt (y : Int) : ∀ x ∈ cod7 y, x < 256 := by
  intro x hx
  have := List.mem_of_mem_take hx
  have hb := fmod_bounds (a := y.fdiv 36) (m := 256) (by decide)
  simp only [List.mem_cons, List.not_mem_nil, or_false] at this
  rcases this with rfl | rfl
  · have := sg_lt (y.fdiv 3); omega
  · omega
theorem cod4_len (y : Int) : (cod4 y).length ≤ 3 := by
  unfold cod4; rw [List.length_take]; exact Nat.min_le_right _ _
theorem cod7_len (y : Int) : (cod7 y).length ≤ 2 := by
  unfold cod7; rw [List.length_take]; exact Nat.min_le_right _ _
theorem num_lt (y : Int) : (num01 y).natAbs < 1000000000000 := by
  unfold num01
  have hb := fmod_bounds (a := y) (m := 1000000000000) (by decide)
  split
  · rename_i h; rw [decide_eq_true_eq] at h; omega
  · omega
theorem leaf_kd (kind y : Int) : (∃ c, leaf01 kind y = .str c) ∨ (∃ b, leaf01 kind y = .byt b) ∨ (∃ i, leaf01 kind y = .int i) ∨ (∃ b, leaf01 kind y = .bool b) ∨ leaf01 kind y = .none := by
  unfold leaf01
  have hb := fmod_bounds (a := y) (m := 3) (by decide)
  split
  · exact .inl ⟨_, rfl⟩
  · split
    · exact .inr (.inl ⟨_, rfl⟩)
    · split
      · have : (y.fmod 3).toNat = 0 ∨ (y.fmod 3).toNat = 1 ∨ (y.fmod 3).toNat = 2 := by omega
        rcases this with q | q | q <;> rw [q]
        · exact .inr (.inr (.inr (.inr rfl)))
        · exact .inr (.inr (.inr (.inl ⟨_, rfl⟩)))
        · exact .inr (.inr (.inr (.inl ⟨_, rfl⟩)))
      · exact .inr (.inr (.inl ⟨_, rfl⟩))
theorem leaf_dth (kind y : Int) : dth (leaf01 kind y) = 0 := by
  rcases leaf_kd kind y with ⟨c, e⟩ | ⟨c, e⟩ | ⟨c, e⟩ | ⟨c, e⟩ | e <;> rw [e, dth] <;> simp
theorem leaf_sz (kind y : Int) : sz (leaf01 kind y) = 1 := by
  rcases leaf_kd kind y with ⟨c, e⟩ | ⟨c, e⟩ | ⟨c, e⟩ | ⟨c, e⟩ | e <;> rw [e, sz] <;> simp
theorem leaf_ok (kind y : Int) : okT (leaf01 kind y) := by
  unfold leaf01
  have hb := fmod_bounds (a := y) (m := 3) (by decide)
  split
  · rw [okT]; exact ⟨cod4_lt y, cod4_len y⟩
  · split
    · rw [okT]; have := cod7_len y; simpa [byts] using this
    · split
      · have : (y.fmod 3).toNat = 0 ∨ (y.fmod 3).toNat = 1 ∨ (y.fmod 3).toNat = 2 := by omega
        rcases this with q | q | q <;> rw [q]
        · show okT .none; rw [okT]; trivial
        · show okT (.bool true); rw [okT]; trivial
        · show okT (.bool false); rw [okT]; trivial
      · rw [okT]; exact num_lt y
theorem byteArr_ni (c : List Nat) : byteArr (ni c) = byts c := by
  unfold byteArr byts
  rw [List.map_map]
  rfl
/-- what stands for a thing: the thing, how it is written, its type -/
def tri (t : Th) : D := .tup [thD t, .str (T (txt t)), .str (Str.ofString (tyN t))]
theorem fn_leaf {aq af as : Addr} (dA : DefAt G a (fdOf (stOf pw 6) doc pm cdv ct) (bodyOf (stOf pw 6))) (hab : nsIn G.K mainGlobals "abs" = some none) (hc : nsIn G.K mainGlobals "chr" = some none) (hby : nsIn G.K mainGlobals "bytes" = some none)
    (gq : nsIn G.K mainGlobals "_law_quoted" = some (some (.ref aq))) (kq : keepIn G.K (.ref aq) = true) (fq : ∀ c : List Nat, (∀ k ∈ c, k < 256) → c.length ≤ 1000 → Fn G (n + 2) aq [.list ((ni c).map .int)] (.str (T (quoted01 c))))
    (gf : nsIn G.K mainGlobals "_law_figures" = some (some (.ref af))) (kf : keepIn G.K (.ref af) = true) (ff : ∀ i : Int, i.natAbs < 1000000000000 → Fn G (n + 2) af [.int i] (.str (T (fig01 i))))
    (gs : nsIn G.K mainGlobals "_law_signs" = some (some (.ref as))) (ks : keepIn G.K (.ref as) = true) (fs : Fn G (n + 2) as [] (.list ((ni signs01).map .int)))
    (kind y : Int) : Fn G (n + 3) a [.int kind, .int y] (tri (leaf01 kind y)) := by
  refine fn_of (xs := ["kind", "y"]) dA (fun vs h => ?_) rfl ?_ (by decide) fun L => ?_
  · match vs, h with
    | [v, u], _ => rfl
  · walk_at "params"
  have big : 100000 ≤ sizeLine := by decide
  refine exs_cons (ex_assign (d := .list ((ni signs01).map .int)) (ev_call (ev_glob gs rfl rfl) evs_nil ks fs rfl rfl) (.inl rfl) rfl (then_next ?_))
  refine exs_cons (ex_if (c := kind == 4) (tst_cmp (ev_name rfl rfl) ev_int op_eq_int rfl) (fun h4 => ?_) fun h4 => ?_)
  · have h4' : kind = 4 := by simpa using h4
    have hb := fmod_bounds (a := y) (m := 4) (by decide)
    have hb2 := fmod_bounds (a := y.fdiv 576) (m := 128) (by decide)
    refine exs_cons (ex_assign (d := .list ((ni (cod4 y)).map .int)) ?_ (.inl rfl) rfl (then_next ?_))
    · have e : (ni (cod4 y)) = ([((sg01 (y.fdiv 4) : Nat) : Int), ((sg01 (y.fdiv 48) : Nat) : Int), (y.fdiv 576).fmod 128].take (y.fmod 4).toNat) := by
        unfold cod4 ni
        rw [List.map_take]
        congr 1
        simp only [List.map_cons, List.map_nil]
        congr 3
        show (((((y.fdiv 576).fmod 128).toNat : Nat)) : Int) = _
        omega
      rw [e]
      refine ev_sub (ev_list (ds := [((sg01 (y.fdiv 4) : Nat) : Int), ((sg01 (y.fdiv 48) : Nat) : Int), (y.fdiv 576).fmod 128].map .int) (evs_more (ev_sub (ev_name rfl rfl) (ev_binop (ev_binop (ev_name rfl rfl) ev_int (op_fdiv_int (by decide) (PyProof.noPylong_of_log2 (by decide +kernel)))) ev_int (op_mod_int (by decide))) (sb_sign _)) (evs_more (ev_sub (ev_name rfl rfl) (ev_binop (ev_binop (ev_name rfl rfl) ev_int (op_fdiv_int (by decide) (PyProof.noPylong_of_log2 (by decide +kernel)))) ev_int (op_mod_int (by decide))) (sb_sign _)) (evs_more (ev_binop (ev_binop (ev_name rfl rfl) ev_int (op_fdiv_int (by decide) (PyProof.noPylong_of_log2 (by decide +kernel)))) ev_int (op_mod_int (by decide))) evs_nil rfl) rfl) rfl) (by show 3 ≤ sizeLine; decide)) (ev_slice (lo := none) (hi := some (y.fmod 4)) trivial (ev_binop (ev_name rfl rfl) ev_int (op_mod_int (by decide)))) (sb_ints_to hb.1 (by show _ ≤ 1000; simp))
    refine exs_cons (ex_return (d := tri (leaf01 kind y)) ?_ rfl)
    have e : leaf01 kind y = .str (cod4 y) := by unfold leaf01; rw [if_pos h4']
    rw [e]
    unfold tri
    rw [thD, txt, tyN]
    have hl := cod4_len y
    refine ev_tuple (evs_more (ev_chars rfl (by omega) (fun k hk => by have := cod4_lt y k hk; omega) hc ⟨rfl, by decide, by decide, rfl, cells_nil, cap_nil⟩ (fun _ => rfl) (fun _ => rfl) rfl) (evs_more (ev_call (ev_glob gq rfl rfl) (evs_more (ev_name rfl rfl) evs_nil rfl) kq (fq _ (fun k hk => by have := cod4_lt y k hk; omega) (by omega)) rfl rfl) (evs_more ev_str evs_nil rfl) rfl) rfl) (by show 3 ≤ sizeLine; decide)
  have h4' : ¬ kind = 4 := by simpa using h4
  refine exs_nil (then_next ?_)
  refine exs_cons (ex_if (c := kind == 7) (tst_cmp (ev_name rfl rfl) ev_int op_eq_int rfl) (fun h7 => ?_) fun h7 => ?_)
  · have h7' : kind = 7 := by simpa using h7
    have hb := fmod_bounds (a := y) (m := 3) (by decide)
    have hb2 := fmod_bounds (a := y.fdiv 36) (m := 256) (by decide)
    refine exs_cons (ex_assign (d := .list ((ni (cod7 y)).map .int)) ?_ (.inl rfl) rfl (then_next ?_))
    · have e : (ni (cod7 y)) = ([((sg01 (y.fdiv 3) : Nat) : Int), (y.fdiv 36).fmod 256].take (y.fmod 3).toNat) := by
        unfold cod7 ni
        rw [List.map_take]
        congr 1
        simp only [List.map_cons, List.map_nil]
        congr 2
        show (((((y.fdiv 36).fmod 256).toNat : Nat)) : Int) = _
        omega
      rw [e]
      refine ev_sub (ev_list (ds := [((sg01 (y.fdiv 3) : Nat) : Int), (y.fdiv 36).fmod 256].map .int) (evs_more (ev_sub (ev_name rfl rfl) (ev_binop (ev_binop (ev_name rfl rfl) ev_int (op_fdiv_int (by decide) (PyProof.noPylong_of_log2 (by decide +kernel)))) ev_int (op_mod_int (by decide))) (sb_sign _)) (evs_more (ev_binop (ev_binop (ev_name rfl rfl) ev_int (op_fdiv_int (by decide) (PyProof.noPylong_of_log2 (by decide +kernel)))) ev_int (op_mod_int (by decide))) evs_nil rfl) rfl) (by show 2 ≤ sizeLine; decide)) (ev_slice (lo := none) (hi := some (y.fmod 3)) trivial (ev_binop (ev_name rfl rfl) ev_int (op_mod_int (by decide)))) (sb_ints_to hb.1 (by show _ ≤ 1000; simp))
    refine exs_cons (ex_return (d := tri (leaf01 kind y)) ?_ rfl)
    have e : leaf01 kind y = .byt (byts (cod7 y)) := by unfold leaf01; rw [if_neg h4', if_pos h7']
    rw [e]
    unfold tri
    have hl := cod7_len y
    have hq := quoted_len (cod7 y)
    rw [thD, txt, tyN, T_of, lit_T _ (cod7_lt y), show T (98 :: quoted01 (cod7 y)) = (("b" : String) : Str) ++ T (quoted01 (cod7 y)) by rw [show (("b" : String) : Str) = T [98] by decide +kernel, T_append]; rfl, ← byteArr_ni]
    refine ev_tuple (evs_more (ev_bt (evs_more (ev_name rfl rfl) evs_nil rfl) (bt_bytes (fun k hk => ?_) (by rw [List.length_map]; omega)) hby rfl rfl rfl rfl) (evs_more (ev_binop ev_str (ev_call (ev_glob gq rfl rfl) (evs_more (ev_name rfl rfl) evs_nil rfl) kq (fq _ (cod7_lt y) (by omega)) rfl rfl) (op_add_str (by rw [show (("b" : String) : Str).length = 1 by decide +kernel, T_length]; omega))) (evs_more ev_str evs_nil rfl) rfl) rfl) (by show 3 ≤ sizeLine; decide)
    obtain ⟨x, hx, rfl⟩ := List.mem_map.mp hk
    have := cod7_lt y x hx
    show 0 ≤ ((x : Nat) : Int) ∧ ((x : Nat) : Int) < 256
    omega
  have h7' : ¬ kind = 7 := by simpa using h7
  refine exs_nil (then_next ?_)
  refine exs_cons (ex_if (c := kind == 6) (tst_cmp (ev_name rfl rfl) ev_int op_eq_int rfl) (fun h6 => ?_) fun h6 => ?_)
  · have h6' : kind = 6 := by simpa using h6
    have hb := fmod_bounds (a := y) (m := 3) (by decide)
    refine exs_cons (ex_return (d := tri (leaf01 kind y)) ?_ rfl)
    have e : leaf01 kind y = [Th.none, .bool true, .bool false].getD (y.fmod 3).toNat .none := by unfold leaf01; rw [if_neg h4', if_neg h7', if_pos h6']
    rw [e]
    refine ev_sub (ev_list (ds := [tri .none, tri (.bool true), tri (.bool false)]) ?_ (by show 3 ≤ sizeLine; decide)) (ev_binop (ev_name rfl rfl) ev_int (op_mod_int (by decide))) (sb_list hb.1 (by omega) ?_)
    · have s3 : 3 ≤ sizeLine := by decide
      have t0 : tri .none = .tup [.none, .str "None", .str "NoneType"] := by unfold tri; rw [thD, txt, tyN, show T [78, 111, 110, 101] = (("None" : String) : Str) from by decide +kernel]
      have t1 : tri (.bool true) = .tup [.bool true, .str "True", .str "bool"] := by unfold tri; rw [thD, txt, tyN, show T (if true = true then [84, 114, 117, 101] else [70, 97, 108, 115, 101]) = (("True" : String) : Str) from by decide +kernel]
      have t2 : tri (.bool false) = .tup [.bool false, .str "False", .str "bool"] := by unfold tri; rw [thD, txt, tyN, show T (if false = true then [84, 114, 117, 101] else [70, 97, 108, 115, 101]) = (("False" : String) : Str) from by decide +kernel]
      rw [t0, t1, t2]
      exact evs_more (ev_tuple (evs_more ev_none (evs_more ev_str (evs_more ev_str evs_nil rfl) rfl) rfl) s3) (evs_more (ev_tuple (evs_more ev_bool (evs_more ev_str (evs_more ev_str evs_nil rfl) rfl) rfl) s3) (evs_more (ev_tuple (evs_more ev_bool (evs_more ev_str (evs_more ev_str evs_nil rfl) rfl) rfl) s3) evs_nil rfl) rfl) rfl
    · have : (y.fmod 3).toNat = 0 ∨ (y.fmod 3).toNat = 1 ∨ (y.fmod 3).toNat = 2 := by omega
      rcases this with q | q | q <;> rw [q] <;> rfl
  have h6' : ¬ kind = 6 := by simpa using h6
  refine exs_nil (then_next ?_)
  have hb := fmod_bounds (a := y) (m := 1000000000000) (by decide)
  refine exs_cons (ex_assign (d := .int (num01 y)) (ev_ifint (tst_cmp (d₁ := .int ((y.natAbs : Nat) : Int)) (by rw [← abs_nat]; exact ev_bf (evs_more (ev_name rfl rfl) evs_nil rfl) bf_abs hab rfl rfl rfl rfl) ev_int op_lt_int rfl) (fun _ => ev_name rfl rfl) fun _ => ev_binop (ev_name rfl rfl) ev_int (op_mod_int (by decide))) (.inl rfl) rfl (then_next ?_))
  refine exs_cons (ex_return (d := tri (leaf01 kind y)) ?_ rfl)
  have e : leaf01 kind y = .int (num01 y) := by unfold leaf01; rw [if_neg h4', if_neg h7', if_neg h6']
  rw [e]
  unfold tri
  rw [thD, txt, tyN]
  exact ev_tuple (evs_more (ev_name rfl rfl) (evs_more (ev_call (ev_glob gf rfl rfl) (evs_more (ev_name rfl rfl) evs_nil rfl) kf (ff _ (num_lt y)) rfl rfl) (evs_more ev_str evs_nil rfl) rfl) rfl) (by show 3 ≤ sizeLine; decide)
end
end
section
open PySem PySem.W PyProof.Rows
set_option linter.unusedVariables false
set_option maxRecDepth 100000
def Hdel (H : Zf) (I : Addr) : Zf := fun a => if a = I then none else H a
theorem Hdel.ne {H : Zf} {I a : Addr} (h : a ≠ I) : Hdel H I a = H a := if_neg h
theorem Hdel.self {H : Zf} {I : Addr} : Hdel H I I = none := if_pos rfl
theorem Zadd.ne {Z : Zf} {I a : Addr} {o : Obj} (h : a ≠ I) : Zadd Z I o a = Z a := if_neg h
section
variable {G : Gnd} {env : Env} {Z Z' H : Zf} {ρ ρ' : Loc} {s s' : Shared} {A : Around} {E : Value → Shared → Prop} {n : Nat} {pos apos : Pos}
/-- a held object changes -/
theorem St.setH {I : Addr} {o o' : Obj} {h' : Heap} {t : Nat} (S : St G env Z H ρ s) (hI : H I = some o) (hB : G.base.get? I = none) (hc : env.cells = []) (hk : ∀ b ob, b ≠ I → s.heap.get? b = some ob → h'.get? b = some ob) (ho : h'.get? I = some o') (ht : s.toks ≤ t) :
    St G env Z (Zadd H I o') ρ { s with heap := h', toks := t } := by
  have hH : H = Zadd H I o := funext fun b => by
    by_cases q : b = I
    · rw [q, Zadd.self, hI]
    · rw [Zadd.ne q]
  have S₀ : St G env Z (Zadd H I o) ρ s := hH ▸ S
  exact S₀.turn hB (fun y c e => by rw [hc] at e; cases e) hk ho ht
/-- a held object is frozen -/
theorem St.toZ {I : Addr} {o : Obj} (S : St G env Z H ρ s) (hI : H I = some o) (hB : G.base.get? I = none) (hc : env.cells = []) : Zle Z (Zadd Z I o) ∧ St G env (Zadd Z I o) (Hdel H I) ρ s := by
  have hZ : Z I = none := by
    cases q : Z I with
    | none => rfl
    | some ob => rw [S.dj I ob q] at hI; cases hI
  have le : Zle Z (Zadd Z I o) := Zadd.le hZ
  have hl : env.locals ≠ I := fun q => by rw [← q, S.lh] at hI; cases hI
  have non : ∀ a, H a = none → Hdel H I a = none := fun a e => by
    by_cases q : a = I
    · rw [q, Hdel.self]
    · rw [Hdel.ne q]; exact e
  refine ⟨le, S.fk, S.gl, S.bl, S.gens, S.os, S.tk, fun a ob e => ?_, fun a ob e => ?_, fun a ob e => ?_, fun a ob e => ?_, S.ns, ?_, non _ S.lh, fun y c e => ?_, S.inj, fun y d e => ?_, ?_⟩
  · by_cases q : a = I
    · rw [q, Zadd.self] at e; cases e; rw [q]; exact S.hin _ _ hI
    · rw [Zadd.ne q] at e; exact S.zin _ _ e
  · by_cases q : a = I
    · rw [q, Hdel.self] at e; cases e
    · rw [Hdel.ne q] at e; exact S.hin _ _ e
  · by_cases q : a = I
    · rw [q, Hdel.self]
    · rw [Zadd.ne q] at e; exact non _ (S.dj _ _ e)
  · rcases S.bas a ob e with h | h
    · exact .inl (le _ _ h)
    · exact .inr (by rw [Hdel.ne (fun q => by rw [q, hB] at e; cases e)]; exact h)
  · rw [Zadd.ne hl]; exact S.lz
  · rw [hc] at e; cases e
  · obtain ⟨v, h, r⟩ := S.vars y d e; exact ⟨v, h, r.mono le⟩
  · obtain ⟨oa, hi, h⟩ := S.owns
    refine ⟨oa, hi, fun y ds e => ?_⟩
    obtain ⟨g1, g2, g3, g4, g5, vs, k, g6, g7⟩ := h y ds e
    exact ⟨g1, by rw [Zadd.ne fun q => by rw [q, hI] at g3; cases g3]; exact g2, non _ g3, g4, g5, vs, k, g6, g7.mono le⟩
/-- less is held -/
theorem St.subH {H₀ : Zf} (S : St G env Z H ρ s) (hs : ∀ a o, H₀ a = some o → H a = some o) (hb : ∀ a o, G.base.get? a = some o → Z a = some o ∨ H₀ a = some o) (hc : env.cells = []) : St G env Z H₀ ρ s := by
  have non : ∀ a, H a = none → H₀ a = none := fun a e => by
    cases q : H₀ a with
    | none => rfl
    | some o => rw [hs a o q] at e; cases e
  refine ⟨S.fk, S.gl, S.bl, S.gens, S.os, S.tk, S.zin, fun a o e => S.hin _ _ (hs a o e), fun a o e => non _ (S.dj a o e), hb, S.ns, S.lz, non _ S.lh, fun y c e => (by rw [hc] at e; cases e), S.inj, S.vars, ?_⟩
  obtain ⟨oa, hi, h⟩ := S.owns
  refine ⟨oa, hi, fun y ds e => ?_⟩
  obtain ⟨g1, g2, g3, g⟩ := h y ds e
  exact ⟨g1, g2, non _ g3, g⟩
/-- a new object is held -/
theorem St.newH {I : Addr} {o : Obj} (S : St G env Z H ρ s) (x : Ext Z s Z s') (hI : s.heap.get? I = none) (ho : s'.heap.get? I = some o) : St G env Z (Zadd H I o) ρ s' ∧ G.base.get? I = none ∧ H I = none ∧ Z I = none := by
  obtain ⟨S₂, hB, hH, hZ, _⟩ := S.hold x hI ho
  exact ⟨S₂, hB, hH, hZ⟩
theorem nameH {x : Str} {d : D} {M : Model} (S : St G env Z H ρ s) (h : ρ.lookup x = some (.val d)) (hd : (x == ("__debug__" : Str)) = false) {Q : Value → Shared → Prop} (k : ∀ v, Rep G Z v d → Q v s) : wpAny M A (eval (.Name x pos) env) Q E s := by
  obtain ⟨v, hv, r⟩ := S.vars x d h
  refine wpAny_Name ?_ hd
  rcases hv with ⟨k', m, n, e⟩ | ⟨k', c, e, n⟩
  · exact wpAny_loadName_local S.fk k' n e (k v r)
  · rcases k' with k' | k'
    · exact wpAny_loadName_cell S.fk k' e n (k v r)
    · exact wpAny_loadName_free S.fk k'.1 e n (k v r) k'.2
/-- x.append(e), x a held list -/
theorem appendH {x : Str} {p pos' : Pos} {e : PySem.Expr} {a : Addr} {vs : List Value} {k : Nat} {Q : Flow → Shared → Prop} (S : St G env Z H ρ s) (hx : ρ.lookup x = some (.val (.fn a))) (ha : H a = some (listOf vs.toArray k)) (hB : G.base.get? a = none) (hc : env.cells = [])
    (hd : (x == ("__debug__" : Str)) = false) (hst : isStarred e = false) (hline : (apos.endLine == pos.line) = true) (hin : interactive env = false) (hsz : vs.length ≤ sizeLine)
    (h : wpAny (model G.prog G.w) A (eval e env) (fun v s₁ => ∃ Z₁ H₁, H₁ a = some (listOf vs.toArray k) ∧ St G env Z₁ H₁ ρ s₁ ∧ ∀ s₂ k', St G env Z₁ (Zadd H₁ a (listOf (vs ++ [v]).toArray k')) ρ s₂ → Q .next s₂) (fun _ _ => False) s) :
    wpAny (model G.prog G.w) A (exec (.Expr (.Call (.Attribute (.Name x p) "append" apos) [e] [] pos) pos') env) Q (fun _ _ => False) s := by
  have hst' : [e].any isStarred = false := by simp [hst]
  refine wpAny_Expr_any ?_ hin rfl
  rw [eval_method rfl hst' (by show 1 < 30; decide) hline]
  refine wpAny_bind (nameH S hx hd fun v r => ?_)
  cases r
  have ho := S.hin _ _ ha
  have hl := isList_of ho
  refine wpAny_bind (wpAny_standAt (wpAny_bind (wpAny_holding ?_)))
  refine getMethod_builtin hl.typeIs F.plainAttrs_list F.slot_list_append F.type_list_append (fun b e => by cases e; exact ⟨_, ho, rfl⟩) ?_
  have he : starEach [e] env = (false, eval e env) :: starEach [] env := by cases e <;> first | rfl | cases hst
  refine Calls.callWith_builtin (starred_none (star_all hst') pos) (wp_evalArgs (starred_none (star_all hst') pos) (spliced_more (wpAny_mono h (fun v s₁ ⟨Z₁, H₁, g1, S₁, g2⟩ => spliced_none ?_) fun _ _ q => q) he))
  have ho₁ := S₁.hin _ _ g1
  refine call_meets F.slot_list_append (isList_of ho₁).typeIs F.entry_list_append (F.args_list_append_2 _ _) (PySem.AutoListH.list_append_list_val_0 a vs.toArray k v (by rw [List.size_toArray]; exact hsz)) ⟨ho₁, ?_⟩
  have hg := PySem.IsL.update (n := k) ho₁ (·.push v)
  rw [show vs.toArray.push v = (vs ++ [v]).toArray by simp] at hg
  exact g2 _ _ (S₁.setH (t := s₁.toks) g1 hB hc (fun b ob hb q => ((Heap.SameBut.update ..).2 b hb).trans q) hg (Nat.le_refl _))
end
end
section
open PySem PySem.W PyProof.Rows
set_option linter.unusedVariables false
set_option maxRecDepth 100000
section
variable {G : Gnd} {env : Env} {Z Z' H : Zf} {ρ ρ' : Loc} {s s' : Shared} {A : Around} {E : Value → Shared → Prop} {n : Nat} {pos apos : Pos}
/-- x[-1], x a held list -/
theorem lastH {x : Str} {p q2 : Pos} {a : Addr} {vs : List Value} {y : Value} {k : Nat} {Q : Value → Shared → Prop} {i : PySem.Expr} (S : St G env Z H ρ s) (hx : ρ.lookup x = some (.val (.fn a))) (ha : H a = some (listOf (vs ++ [y]).toArray k)) (hd : (x == ("__debug__" : Str)) = false)
    (hi : Ev G env n ρ i (.int (-1))) (R : Room n A)
    (h : ∀ s', St G env Z H ρ s' → Ext Z s Z s' → Q y s') : wpAny (model G.prog G.w) A (eval (.Subscript (.Name x p) i q2) env) Q (fun _ _ => False) s := by
  refine Subscript_ (nameH S hx hd fun v r => ?_)
  cases r
  refine wp_seq (hi.run A Z H s R S) fun iv s₁ ⟨Z₁, x₁, r₁⟩ => ?_
  cases r₁
  have x₁' := x₁.back S.zin
  have S₁ := S.ext x₁'
  have ho := S₁.hin _ _ ha
  refine tail_all (G := G) (T := "list") (isList_of ho).typeIs slot_list_getitem.lookup (wpAny_getItem_list_neg (isList_of ho) (by decide) (by simp; omega) (by decide) (x := y) (by rw [List.size_toArray, List.length_append, show ((-1 : Int) + ((vs.length + [y].length : Nat) : Int)).toNat = vs.length by simp; omega]; simp) (h _ S₁ x₁'))
end
end
section
open PySem PySem.W PyProof.Rows
set_option linter.unusedVariables false
set_option maxRecDepth 100000
section
variable {G : Gnd} {env : Env} {Z Z' H H' H₀ : Zf} {ρ ρ' : Loc} {s s' : Shared} {A : Around} {E : Value → Shared → Prop} {n : Nat} {pos apos : Pos}
/-- a name stands for something told more exactly -/
theorem St.reval {x : Str} {d d' : D} (S : St G env Z H ρ s) (hx : ρ.lookup x = some (.val d)) (h : ∀ v, Rep G Z v d → Rep G Z v d') : St G env Z H (upd ρ x (.val d')) s := by
  refine ⟨S.fk, S.gl, S.bl, S.gens, S.os, S.tk, S.zin, S.hin, S.dj, S.bas, S.ns, S.lz, S.lh, S.cells, S.inj, fun y e he => ?_, ?_⟩
  · rw [lookup_upd] at he
    by_cases q : y = x
    · rw [if_pos q] at he; cases he
      obtain ⟨v, h1, h2⟩ := S.vars x d hx
      exact ⟨v, q ▸ h1, h v h2⟩
    · rw [if_neg q] at he; exact S.vars y e he
  · have old : ∀ y ds, (upd ρ x (.val d')).lookup y = some (.own ds) → ρ.lookup y = some (.own ds) := fun y ds e => by
      rw [lookup_upd] at e
      by_cases q : y = x
      · rw [if_pos q] at e; cases e
      · rw [if_neg q] at e; exact e
    obtain ⟨oa, hi, ho⟩ := S.owns
    exact ⟨oa, fun y z ds es ey ez => hi y z ds es (old y ds ey) (old z es ez), fun y ds e => ho y ds (old y ds e)⟩
theorem tstH {Z₁ H₁ : Zf} {ρ₁ : Loc} {e : PySem.Expr} {c : Bool} {Q : Bool → Shared → Prop} (S : St G env Z H ρ s) (S₁ : St G env Z₁ H₁ ρ₁ s) (h : Tst G env n ρ₁ e c) (R : Room n A) (k : ∀ s', St G env Z H ρ s' → Q c s') :
    wpAny (model G.prog G.w) A (isTrue e env (eval e env)) Q (fun _ _ => False) s :=
  wp_seq (h.run A Z₁ H₁ s R S₁) fun c' s' ⟨e, x⟩ => by subst e; exact k s' (S.ext (x.back S.zin))
end
end
section
open PySem PySem.W PyProof.Rows
set_option linter.unusedVariables false
set_option maxRecDepth 100000
section
variable {G : Gnd} {env : Env} {Z Z' H : Zf} {ρ ρ' : Loc} {s s' : Shared} {A : Around} {E : Value → Shared → Prop} {n : Nat} {pos apos : Pos}
abbrev Gnd.at (G : Gnd) (b : Nat) : Gnd := { G with t0 := b }
-- replace with a count
end
end
section
open PySem PySem.W PyProof.Rows
set_option linter.unusedVariables false
set_option maxRecDepth 100000
section
variable {G : Gnd} {env : Env} {Z Z' H : Zf} {ρ ρ' : Loc} {s s' : Shared} {A : Around} {E : Value → Shared → Prop} {n : Nat} {pos apos : Pos}
def updAll (ρ : Loc) : List Str → List D → Loc
  | x :: xs, d :: ds => updAll (upd ρ x (.val d)) xs ds
  | _, _ => ρ
theorem stores_run (xs : List Str) : ∀ (ds : List D) (vs : List Value) (ρ : Loc) (s : Shared), xs.length = ds.length → (∀ x ∈ xs, Can env x) → St G env Z H ρ s → RepAll G Z vs ds →
    wpAny (model G.prog G.w) A (assignInOrder (xs.map fun n => bindName env n) vs) (fun _ s' => St G env Z H (updAll ρ xs ds) s') (fun _ _ => False) s := by
  induction xs with
  | nil =>
    intro ds vs ρ s hl hc S r
    cases ds with
    | nil => exact wpAny_pure S
    | cons d ds => cases hl
  | cons x xs ih =>
    intro ds vs ρ s hl hc S r
    cases r with
    | nil => cases hl
    | cons r rs =>
      refine assignInOrder_cons (bindName_ (wp_seq (st_store S r (hc x (List.mem_cons_self ..))) fun _ s₁ S₁ => ?_))
      exact ih _ _ _ s₁ (by simpa using hl) (fun y hy => hc y (List.mem_cons_of_mem _ hy)) S₁ rs
theorem RepAll.rev : ∀ {vs : List Value} {ds : List D}, RepAll G Z vs ds → RepAll G Z vs.reverse ds.reverse
  | _, _, .nil => .nil
  | _, _, .cons r rs => by rw [List.reverse_cons, List.reverse_cons]; exact rs.rev.append (.cons r .nil)
/-- a, b = x, y: stored from the right -/
theorem ex_assign_swap {ts : List PySem.Expr} {k : Nat} {tpos : Pos} {e : PySem.Expr} {ds : List D} {xs : List Str} {Φ : Fl → Loc → Prop} (h : Ev G env n ρ e (.tup ds)) (hl : xs.length = ds.length) (hc : ∀ x ∈ xs, Can env x) (hs : swapsWithSole [.Tuple ts k tpos] e pos.line env = pure false)
    (hw : swappedStores [.Tuple ts k tpos] e env = pure (some xs)) (hk : Φ .next (updAll ρ xs.reverse ds.reverse)) : Ex G env n ρ (.Assign [.Tuple ts k tpos] e pos) Φ :=
  Ex.mk fun A Z H s R S => Assign_Tuple_swapped (wp_seq (h.run A Z H s R S) fun v s₁ ⟨Z₁, x₁, r₁⟩ => by
    cases r₁ with
    | @tup a vs j _ hz ra =>
      have S₁ := S.ext x₁
      have ht := isTuple_of (S₁.zin _ _ hz)
      rw [show xs.length = vs.toArray.size by rw [List.size_toArray, hl, ra.length]]
      refine unpackItems_tuple R.handled ht fun h' he => ?_
      have x : Ext Z₁ s₁ Z₁ { s₁ with heap := h' } := ⟨Zle.same, fun b o e => he b o (fun q => by rw [q, get?_size_none] at e; cases e) e, fun b o e => he b o (fun q => by have := S₁.zin b o e; rw [q, get?_size_none] at this; cases this) (S₁.zin b o e), fun _ _ h => .inl h, rfl, rfl, Nat.le_refl _⟩
      refine wp_seq (stores_run xs.reverse ds.reverse vs.reverse ρ _ (by rw [List.length_reverse, List.length_reverse, hl]) (fun y hy => hc y (List.mem_reverse.mp hy)) (S₁.ext x) ra.rev) fun _ s₂ S₂ => ?_
      exact ⟨Z₁, _, .next, x₁.le, S₂, .next, hk⟩) hs hw
end
end
section
open PySem PySem.W PyProof.Rows
set_option linter.unusedVariables false
set_option maxRecDepth 100000
section
variable {G : Gnd} {env : Env} {Z Z' H H' H₀ : Zf} {ρ ρ' : Loc} {s s' : Shared} {A : Around} {E : Value → Shared → Prop} {n : Nat} {pos apos : Pos}
/-- a new object is held -/
theorem St.pushH {o : Obj} {t : Nat} (S : St G env Z H ρ s) (hf : o.isFreed = false) (ht : s.toks ≤ t) : St G env Z (Zadd H s.heap.objs.size o) ρ { s with heap := s.heap.push o, toks := t } ∧ G.base.get? s.heap.objs.size = none ∧ H s.heap.objs.size = none ∧ Z s.heap.objs.size = none := by
  have y : Ext Z s Z { s with heap := s.heap.push o, toks := t } := ⟨Zle.same, fun b o e => Heap.get?_push_of_some _ e, fun b o e => Heap.get?_push_of_some _ (S.zin b o e), fun _ _ h => .inl h, rfl, rfl, ht⟩
  exact S.newH y (get?_size_none _) (Heap.get?_push_size _ hf)
/-- [] as a held list -/
theorem emptyH {Q : Value → Shared → Prop} (S : St G env Z H ρ s) (k : ∀ q s', H q = none → G.base.get? q = none → St G env Z (Zadd H q (listOf [].toArray 0)) ρ s' → Q (.ref q) s') :
    wpAny (model G.prog G.w) A (eval (.List [] pos) env) Q E s := by
  refine List_ (spliced_none (wpAny_newObj_type ?_ (by show 0 ≤ sizeLine; decide)))
  obtain ⟨S₂, hB, hH, hZ⟩ := S.pushH (o := listOf [].toArray 0) (t := s.toks) rfl (Nat.le_refl _)
  exact k _ _ hH hB S₂
/-- {} as a held table -/
theorem tableH {Q : Value → Shared → Prop} (S : St G env Z H ρ s) (k : ∀ q s', H q = none → G.base.get? q = none → (q == sysModules) = false → St G env Z (Zadd H q { cls := .type "dict", data := .dict #[] }) ρ s' → Q (.ref q) s') :
    wpAny (model G.prog G.w) A (eval (.Dict [] [] pos) env) Q E s := by
  refine wpAny_Dict_empty ?_
  obtain ⟨S₂, hB, hH, hZ⟩ := S.pushH (o := { cls := .type "dict", data := .dict #[] }) (t := s.toks) rfl (Nat.le_refl _)
  have hlow : (s.heap.objs.size == sysModules) = false := by
    have := modules_low S.bs.nolimit
    rw [beq_eq_false_iff_ne]; exact Nat.ne_of_gt this
  exact k _ _ hH hB hlow S₂
/-- a tuple of what stands -/
theorem tupleW {vs : List Value} {ds : List D} {Q : Value → Shared → Prop} (S : St G env Z H ρ s) (r : RepAll G Z vs ds) (hsz : ds.length ≤ sizeLine)
    (k : ∀ v Z' s', Zle Z Z' → Rep G Z' v (.tup ds) → St G env Z' H ρ s' → Q v s') : wpAny (model G.prog G.w) A (newTuple vs) Q E s :=
  wp_seq (wp_newTuple S.bs r hsz) fun v s₁ ⟨Z₁, x₁, r₁⟩ => k v Z₁ s₁ x₁.le r₁ (S.ext x₁)
/-- (e, [], []) with two held lists -/
theorem tripleH {e : PySem.Expr} {x : Str} {j : Nat} {p1 p2 : Pos} {Q : Value → Shared → Prop} (S : St G env Z H ρ s) (R : Room n A) (h1 : Ev G env n ρ e (.str x)) (hst : isStarred e = false)
    (k : ∀ v q1 q2 Z' s', Zle Z Z' → Rep G Z' v (.tup [.str x, .fn q1, .fn q2]) → H q1 = none → H q2 = none → q1 ≠ q2 → G.base.get? q1 = none → G.base.get? q2 = none →
      St G env Z' (Zadd (Zadd H q1 (listOf [].toArray 0)) q2 (listOf [].toArray 0)) ρ s' → Q v s') :
    wpAny (model G.prog G.w) A (eval (.Tuple [e, .List [] p1, .List [] p2] j pos) env) Q E s := by
  refine Tuple_ (spliced_more (wp_seq (h1.run A Z H s R S) fun v1 s₁ ⟨Z₁, x₁, r₁⟩ => spliced_more (emptyH (S.ext x₁) fun q1 s₂ hq1 hb1 S₂ => spliced_more (emptyH S₂ fun q2 s₃ hq2 hb2 S₃ => spliced_none ?_) rfl) rfl) (star_cons hst))
  have hne : q1 ≠ q2 := fun z => by rw [z, Zadd.self] at hq2; cases hq2
  rw [Zadd.ne (Ne.symm hne)] at hq2
  exact tupleW S₃ (.cons r₁ (.cons (.fn q1) (.cons (.fn q2) .nil))) (by show 3 ≤ sizeLine; decide) fun v Z' s' le r S' => k v q1 q2 Z' s' (x₁.le.trans le) r hq1 hq2 hne hb1 hb2 S'
/-- a, b = e: stored from the right -/
theorem swapH {ts : List PySem.Expr} {k : Nat} {tpos : Pos} {e : PySem.Expr} {xs : List Str} {Q : Flow → Shared → Prop} (hA : A.handled = none) (hc : ∀ x ∈ xs, Can env x) (hs : swapsWithSole [.Tuple ts k tpos] e pos.line env = pure false)
    (hw : swappedStores [.Tuple ts k tpos] e env = pure (some xs))
    (h : wpAny (model G.prog G.w) A (eval e env) (fun v s₁ => ∃ Z₁ H₁ ds, St G env Z₁ H₁ ρ s₁ ∧ Rep G Z₁ v (.tup ds) ∧ xs.length = ds.length ∧ ∀ s₂, St G env Z₁ H₁ (updAll ρ xs.reverse ds.reverse) s₂ → Q .next s₂) (fun _ _ => False) s) :
    wpAny (model G.prog G.w) A (exec (.Assign [.Tuple ts k tpos] e pos) env) Q (fun _ _ => False) s :=
  Assign_Tuple_swapped (wp_seq h fun v s₁ ⟨Z₁, H₁, ds, S₁, r₁, hl, hk⟩ => by
    cases r₁ with
    | @tup a vs j _ hz ra =>
      have ht := isTuple_of (S₁.zin _ _ hz)
      rw [show xs.length = vs.toArray.size by rw [List.size_toArray, hl, ra.length]]
      refine unpackItems_tuple hA ht fun h' he => ?_
      have x : Ext Z₁ s₁ Z₁ { s₁ with heap := h' } := ⟨Zle.same, fun b o e => he b o (fun q => by rw [q, get?_size_none] at e; cases e) e, fun b o e => he b o (fun q => by have := S₁.zin b o e; rw [q, get?_size_none] at this; cases this) (S₁.zin b o e), fun _ _ h => .inl h, rfl, rfl, Nat.le_refl _⟩
      refine wp_seq (stores_run xs.reverse ds.reverse vs.reverse ρ _ (by rw [List.length_reverse, List.length_reverse, hl]) (fun y hy => hc y (List.mem_reverse.mp hy)) (S₁.ext x) ra.rev) fun _ s₂ S₂ => ?_
      exact hk s₂ S₂) hs hw
/-- a, b = e -/
theorem tupH {ts : List PySem.Expr} {k : Nat} {tpos : Pos} {e : PySem.Expr} {Q : Flow → Shared → Prop} (R : Room n A) (hs : swapsWithSole [.Tuple ts k tpos] e pos.line env = pure false) (hw : swappedStores [.Tuple ts k tpos] e env = pure none)
    (h : wpAny (model G.prog G.w) A (eval e env) (fun v s₁ => ∃ Z₁ H₁ ds ρ', St G env Z₁ H₁ ρ s₁ ∧ Rep G Z₁ v (.tup ds) ∧ Asg G env (.Tuple ts k tpos) (.tup ds) ρ ρ' ∧ ∀ Z₂ s₂, Zle Z₁ Z₂ → St G env Z₂ H₁ ρ' s₂ → Q .next s₂) (fun _ _ => False) s) :
    wpAny (model G.prog G.w) A (exec (.Assign [.Tuple ts k tpos] e pos) env) Q (fun _ _ => False) s :=
  Assign_Tuple (wp_seq h fun v s₁ ⟨Z₁, H₁, ds, ρ', S₁, r₁, ha, hk⟩ => wp_seq (ha.run A Z₁ H₁ s₁ v (R.less (Nat.zero_le _)) S₁ r₁) fun _ s₂ ⟨Z₂, le₂, S₂⟩ => hk Z₂ s₂ le₂ S₂) hs hw
/-- o.append(e), o a held list -/
theorem appendO {o : PySem.Expr} {pos' : Pos} {e : PySem.Expr} {a : Addr} {vs : List Value} {k : Nat} {Q : Flow → Shared → Prop} (ha : H a = some (listOf vs.toArray k)) (hB : G.base.get? a = none) (hc : env.cells = [])
    (hn : isNameCall o = false) (hst : isStarred e = false) (hline : (apos.endLine == pos.line) = true) (hin : interactive env = false) (hsz : vs.length ≤ sizeLine)
    (h : wpAny (model G.prog G.w) A (eval o env) (fun v s₁ => v = .ref a ∧ St G env Z H ρ s₁ ∧
      wpAny (model G.prog G.w) A (eval e env) (fun v s₁ => ∃ Z₁ H₁, H₁ a = some (listOf vs.toArray k) ∧ St G env Z₁ H₁ ρ s₁ ∧ ∀ s₂ k', St G env Z₁ (Zadd H₁ a (listOf (vs ++ [v]).toArray k')) ρ s₂ → Q .next s₂) (fun _ _ => False) s₁) (fun _ _ => False) s) :
    wpAny (model G.prog G.w) A (exec (.Expr (.Call (.Attribute o "append" apos) [e] [] pos) pos') env) Q (fun _ _ => False) s := by
  have hst' : [e].any isStarred = false := by simp [hst]
  refine wpAny_Expr_any ?_ hin rfl
  rw [eval_method hn hst' (by show 1 < 30; decide) hline]
  refine wpAny_bind (wpAny_mono h (fun v s₀ ⟨ev, S, h⟩ => ?_) fun _ _ q => q)
  subst ev
  have ho := S.hin _ _ ha
  have hl := isList_of ho
  refine wpAny_bind (wpAny_standAt (wpAny_bind (wpAny_holding ?_)))
  refine getMethod_builtin hl.typeIs F.plainAttrs_list F.slot_list_append F.type_list_append (fun b e => by cases e; exact ⟨_, ho, rfl⟩) ?_
  have he : starEach [e] env = (false, eval e env) :: starEach [] env := by cases e <;> first | rfl | cases hst
  refine Calls.callWith_builtin (starred_none (star_all hst') pos) (wp_evalArgs (starred_none (star_all hst') pos) (spliced_more (wpAny_mono h (fun v s₁ ⟨Z₁, H₁, g1, S₁, g2⟩ => spliced_none ?_) fun _ _ q => q) he))
  have ho₁ := S₁.hin _ _ g1
  refine call_meets F.slot_list_append (isList_of ho₁).typeIs F.entry_list_append (F.args_list_append_2 _ _) (PySem.AutoListH.list_append_list_val_0 a vs.toArray k v (by rw [List.size_toArray]; exact hsz)) ⟨ho₁, ?_⟩
  have hg := PySem.IsL.update (n := k) ho₁ (·.push v)
  rw [show vs.toArray.push v = (vs ++ [v]).toArray by simp] at hg
  exact g2 _ _ (S₁.setH (t := s₁.toks) g1 hB hc (fun b ob hb q => ((Heap.SameBut.update ..).2 b hb).trans q) hg (Nat.le_refl _))
/-- x.pop(), x a held list, with what it gives -/
theorem popE {x : Str} {p : Pos} {a : Addr} {vs : List Value} {y : Value} {k : Nat} {Q : Value → Shared → Prop} (S : St G env Z H ρ s) (hx : ρ.lookup x = some (.val (.fn a))) (ha : H a = some (listOf (vs ++ [y]).toArray k)) (hB : G.base.get? a = none) (hc : env.cells = [])
    (hd : (x == ("__debug__" : Str)) = false) (hline : (apos.endLine == pos.line) = true) (hsz : vs.length + 1 ≤ sizeLine)
    (h : ∀ s₂ k', St G env Z (Zadd H a (listOf vs.toArray k')) ρ s₂ → Q y s₂) :
    wpAny (model G.prog G.w) A (eval (.Call (.Attribute (.Name x p) "pop" apos) [] [] pos) env) Q E s := by
  rw [eval_method rfl rfl (by show 0 < 30; decide) hline]
  refine wpAny_bind (nameH S hx hd fun v r => ?_)
  cases r
  have ho := S.hin _ _ ha
  have hl := isList_of ho
  refine wpAny_bind (wpAny_standAt (wpAny_bind (wpAny_holding ?_)))
  refine getMethod_builtin hl.typeIs F.plainAttrs_list F.slot_list_pop F.type_list_pop (fun b e => by cases e; exact ⟨_, ho, rfl⟩) ?_
  refine Calls.callWith_builtin (starred_none rfl pos) (wp_evalArgs (starred_none rfl pos) (spliced_none ?_))
  have hz' : (vs ++ [y]).toArray.size ≤ sizeLine := by simpa using hsz
  have hk : (vs ++ [y]).toArray.size - 1 = vs.length := by simp
  have hy : (vs ++ [y]).toArray[(vs ++ [y]).toArray.size - 1]? = some y := by rw [hk]; simp
  refine call_meets F.slot_list_pop (isList_of ho).typeIs F.entry_list_pop (F.args_list_pop_1 _) (PySem.MeetsSeq.list_pop_last a _ k y hy hz') ⟨ho, ?_⟩
  have hg := PySem.IsL.update (n := k) ho (fun xs => xs.eraseIdxIfInBounds ((vs ++ [y]).toArray.size - 1))
  rw [show (vs ++ [y]).toArray.eraseIdxIfInBounds ((vs ++ [y]).toArray.size - 1) = vs.toArray by rw [hk, kl_erase, List.append_nil]] at hg
  exact h _ _ (S.setH (t := s.toks) ha hB hc (fun b ob hb q => ((Heap.SameBut.update ..).2 b hb).trans q) hg (Nat.le_refl _))
/-- x[i] = e, x a held table, a new key -/
theorem setTableH {x : Str} {p p' : Pos} {i e : PySem.Expr} {b : Addr} {o : Obj} {kvs : List (Str × Value)} {key : Str} {d : D} {Q : Flow → Shared → Prop} (S : St G env Z H ρ s) (R : Room n A) (hx : ρ.lookup x = some (.val (.fn b))) (hb : H b = some o) (hd : o.IsDictOf (strKind G.prog G.w) kvs) (hB : G.base.get? b = none) (hc : env.cells = [])
    (hdb : (x == ("__debug__" : Str)) = false) (he : Ev G env n ρ e d) (hi : Ev G env n ρ i (.str key)) (hn : key ∉ kvs.map (·.1)) (hsz : kvs.length ≤ 1000) (hs : swapsWith e (some (.Subscript (.Name x p) i p')) pos.line env = pure false)
    (k : ∀ v Z' o' s', Zle Z Z' → Rep G Z' v d → o'.IsDictOf (strKind G.prog G.w) (kvs ++ [(key, v)]) → St G env Z' (Zadd H b o') ρ s' → Q .next s') :
    wpAny (model G.prog G.w) A (exec (.Assign [.Subscript (.Name x p) i p'] e pos) env) Q (fun _ _ => False) s := by
  refine wpAny_Assign_Subscript (wp_seq (he.run A Z H s R S) fun v s₁ ⟨Z₁, x₁, r₁⟩ => nameH (S.ext x₁) hx hdb fun u ru => wp_seq (hi.run A Z₁ H s₁ R (S.ext x₁)) fun iv s₂ ⟨Z₂, x₂, r₂⟩ => ?_) hs
  cases ru
  have S₂ := (S.ext x₁).ext x₂
  cases r₂ with
  | str _ tk =>
    have hbig : kvs.length ≤ sizeLine := Nat.le_trans hsz (by decide)
    refine wpAny_setItem_pairs (knd := strKind G.prog G.w) (kvs := kvs) (strKind_is _ _ _ _) (Heap.dictOf_iff.mpr ⟨o, S₂.hin _ _ hb, hd⟩) (fun h' hd' hs' => ?_) hbig
    rw [pairs_keys hn] at hd'
    obtain ⟨o', ho', hod⟩ := Heap.dictOf_iff.mp hd'
    exact k v Z₂ o' _ (x₁.le.trans x₂.le) (r₁.mono x₂.le) hod (S₂.setH (t := s₂.toks + 1) hb hB hc (fun c ob hcb q => (hs'.2 c hcb).trans q) ho' (Nat.le_succ _))
/-- a for over what stands, with held things -/
theorem forH {x : Str} {px : Pos} {iter : PySem.Expr} {body : List Stmt} {d : D} {ds : List D} {ρ₀ : Loc} {own : List Addr} {Q : Flow → Shared → Prop} (P : Nat → Zf → Zf → List Addr → Prop)
    (hloc : ∀ i Z Z' H H' own, Zle Z Z' → (∀ J ∈ own, H' J = H J) → P i Z H own → P i Z' H' own) (hsome : ∀ i Z H own, P i Z H own → ∀ J ∈ own, ∃ o, H J = some o)
    (S : St G env Z H ρ s) (R : Room n A) (hc : env.cells = []) (hcan : Can env x) (hsub : Sub ρ₀ ρ) (hown : ∀ J ∈ own, H₀ J = none ∧ G.base.get? J = none) (hle : ∀ a o, H₀ a = some o → H a = some o) (h0 : P 0 Z H own)
    (h : Ev G env n ρ iter d) (hi : Itr G d ds) (hs : ∀ x, foldedSetIterable iter env x = pure x)
    (turn : ∀ (i : Nat) (d : D) (Zc Hc F : Zf) (own : List Addr) (s : Shared), ds[i]? = some d → Zle Z Zc → (∀ a o, H₀ a = some o → F a = some o) → (∀ a o, F a = some o → Hc a = some o) → (∀ J ∈ own, F J = none ∧ G.base.get? J = none) → P i Zc Hc own → St G env Zc Hc (upd ρ₀ x (.val d)) s →
      wpAny (model G.prog G.w) A (execs body env) (fun f s' => (f = .next ∨ f = .cont) ∧ ∃ Z' H' own' ρ', Zle Zc Z' ∧ (∀ a o, F a = some o → H' a = some o) ∧ (∀ J ∈ own', F J = none ∧ G.base.get? J = none) ∧ P (i + 1) Z' H' own' ∧ St G env Z' H' ρ' s' ∧ Sub ρ₀ ρ') (fun _ _ => False) s)
    (done : ∀ (Zc Hc : Zf) (own : List Addr) (s : Shared), Zle Z Zc → (∀ a o, H₀ a = some o → Hc a = some o) → (∀ J ∈ own, H₀ J = none ∧ G.base.get? J = none) → P ds.length Zc Hc own → St G env Zc Hc ρ₀ s → Q .next s) :
    wpAny (model G.prog G.w) A (exec (.For (.Name x px) iter body [] pos) env) Q (fun _ _ => False) s := by
  refine wpAny_For (wp_seq (h.run A Z H s R S) fun v s₁ ⟨Z₁, x₁, r₁⟩ => wp_seq (hi.run A Z₁ s₁ v (R.less (Nat.zero_le _)) (S.ext x₁).bs r₁) fun it s₂ ⟨I, fp, PI, W, e, x₂, hI, hW, hfp, hW0, hcls, hP⟩ => ?_) hs
  subst e
  have W₀ := hW A R.handled
  obtain ⟨o₂, _, ho₂, _⟩ := hcls 0 _ hW0
  have S₁ := S.ext x₁
  obtain ⟨S₂, hB₂, hH₂, hZ₂⟩ := S₁.newH x₂ hI ho₂
  have hH0I : H₀ I = none := by
    cases z : H₀ I with
    | none => rfl
    | some o => rw [hle I o z] at hH₂; cases hH₂
  have hownI : I ∉ own := fun hm => by obtain ⟨o, e⟩ := hsome _ _ _ _ h0 I hm; rw [hH₂] at e; cases e
  refine codeAny_forLoop_any (fun m s => ∃ i Zc Hf own o, m = ds.length - i ∧ i ≤ ds.length ∧ Zle Z₁ Zc ∧ Hf I = some o ∧ (∀ a ob, Zadd H₀ I o a = some ob → Hf a = some ob) ∧ (∀ J ∈ own, Zadd H₀ I o J = none ∧ G.base.get? J = none) ∧ P i Zc Hf own ∧ St G env Zc Hf ρ₀ s ∧ W i s.heap) (fun m s hm => ?_) ds.length
    ⟨0, Z₁, Zadd H I o₂, own, o₂, rfl, Nat.zero_le _, Zle.same, Zadd.self, fun a ob e => ?_, fun J hJ => ?_, hloc 0 Z Z₁ H (Zadd H I o₂) own x₁.le (fun J hJ => Zadd.ne fun z => hownI (z ▸ hJ)) h0, S₂.weaken hsub, hW0⟩
  · obtain ⟨i, Zc, Hf, own, o, rfl, hli, lec, hfI, hFle, hownF, hPi, Sc, hWi⟩ := hm
    have hownI' : ∀ J ∈ own, J ≠ I := fun J hJ z => by have := (hownF J hJ).1; rw [z, Zadd.self] at this; cases this
    by_cases hlt : i < ds.length
    · refine wpAny_with_toks (Nat.le_refl s.toks) (W₀.item i s _ _ hlt Sc.tk hWi fun v h' tk pv hW' hk tok => ?_)
      obtain ⟨d', hd', rv⟩ := hP i v pv
      obtain ⟨o', T, ho', hcT, hT⟩ := hcls _ _ hW'
      have St' := Sc.setH (t := tk) hfI hB₂ hc (fun b ob hb e => hk b ob (by simpa using hb) e) ho' tok
      refine wp_letOwned (s := { s with heap := h', toks := tk }) ho' hcT hT ?_
      refine wp_seq ((asg_name hcan).run A Zc _ _ v (R.less (Nat.zero_le _)) St' (rv.mono lec)) fun _ s₈ ⟨Z₈, le₈, S₈⟩ => ?_
      refine wp_seq (turn i d' Z₈ (Zadd Hf I o') (Zadd H₀ I o') own s₈ hd' (x₁.le.trans (lec.trans le₈)) (fun a ob e => ?_) (fun a ob e => ?_) (fun J hJ => ?_) (hloc i Zc Z₈ Hf (Zadd Hf I o') own le₈ (fun J hJ => Zadd.ne (hownI' J hJ)) hPi) S₈) fun f s₉ ⟨ef, Z₉, H₉, own₉, ρ₉, le₉, hF₉, hown₉, hP₉, S₉, hsub₉⟩ => ?_
      · rw [Zadd.ne fun z => by rw [z, hH0I] at e; cases e]; exact e
      · by_cases q : a = I
        · rw [q, Zadd.self] at e ⊢; exact e
        · rw [Zadd.ne q] at e ⊢
          exact hFle a ob (by rw [Zadd.ne q]; exact e)
      · have := hownF J hJ
        rw [Zadd.ne (hownI' J hJ)] at this ⊢
        exact this
      have hI9 : H₉ I = some o' := hF₉ I o' Zadd.self
      have nx : ∃ m, m < ds.length - i ∧ ∃ i Zc Hf own o, m = ds.length - i ∧ i ≤ ds.length ∧ Zle Z₁ Zc ∧ Hf I = some o ∧ (∀ a ob, Zadd H₀ I o a = some ob → Hf a = some ob) ∧ (∀ J ∈ own, Zadd H₀ I o J = none ∧ G.base.get? J = none) ∧ P i Zc Hf own ∧ St G env Zc Hf ρ₀ s₉ ∧ W i s₉.heap := by
        refine ⟨ds.length - (i + 1), by omega, i + 1, Z₉, H₉, own₉, o', rfl, by omega, lec.trans (le₈.trans le₉), hI9, hF₉, hown₉, hP₉, S₉.weaken hsub₉, W₀.frame _ _ _ hW' fun bb hbb ob e => ?_⟩
        rcases hfp bb hbb with rfl | ⟨oz, hz⟩
        · have e' : h'.get? bb = some ob := e
          rw [ho'] at e'; cases e'
          exact S₉.hin _ _ hI9
        · have e1 := St'.zin bb oz (lec bb oz hz)
          have e' : h'.get? bb = some ob := e
          have e2 : h'.get? bb = some oz := e1
          rw [e'] at e2; cases e2
          exact S₉.zin _ _ (le₉ _ _ (le₈ _ _ (lec _ _ hz)))
      rcases ef with rfl | rfl
      · exact nx
      · exact nx
    · have hlen' : i = ds.length := by omega
      subst hlen'
      refine wpAny_with_toks (Nat.le_refl s.toks) (W₀.done s _ _ hWi fun h' tk hk tok => ?_)
      refine wpAny_execs_nil ?_
      have hHf : Hf = Zadd (Hdel Hf I) I o := funext fun z => by
        by_cases q : z = I
        · rw [q, Zadd.self, hfI]
        · rw [Zadd.ne q, Hdel.ne q]
      have Sc' : St G env Zc (Zadd (Hdel Hf I) I o) ρ₀ s := hHf ▸ Sc
      have Sd := Sc'.drop (t := tk) hB₂ (fun y c e => by rw [hc] at e; cases e) Hdel.self (fun b ob hb e => hk b ob (by simpa using hb) e) tok
      refine done Zc (Hdel Hf I) own _ (x₁.le.trans lec) (fun a ob e => ?_) (fun J hJ => ?_) (hloc _ Zc Zc Hf (Hdel Hf I) own Zle.same (fun J hJ => Hdel.ne (hownI' J hJ)) hPi) Sd
      · have q : a ≠ I := fun q => by rw [q, hH0I] at e; cases e
        rw [Hdel.ne q]
        exact hFle a ob (by rw [Zadd.ne q]; exact e)
      · have := hownF J hJ
        rw [Zadd.ne (hownI' J hJ)] at this
        exact this
  · by_cases q : a = I
    · rw [q, Zadd.self] at e ⊢; exact e
    · rw [Zadd.ne q] at e ⊢; exact hle a ob e
  · have hne : J ≠ I := fun z => hownI (z ▸ hJ)
    rw [Zadd.ne hne]
    exact hown J hJ
end
end
section
open PySem PySem.W PyProof.Rows
set_option linter.unusedVariables false
set_option maxRecDepth 100000
section
variable {G : Gnd} {n : Nat} {doc pm cdv ct : Value} {a : Addr}
set_option maxHeartbeats 4000000
theorem join_comma (ps : List (List Nat)) : Txt.join ((", " : String) : Str) (ps.map T) = T (jn01 ps) := by
  unfold Txt.join
  rw [StrLaws.glued_eq_join, comma_T]
  exact join_list _ _
theorem ev_joined {env : Env} {ρ : Loc} {x : Str} {ps : List (List Nat)} {k0 : Nat} {p0 p1 apos pos : Pos} (hx : ρ.lookup x = some (B.val (.list (txs (ps.map T))))) (hd : (x == ("__debug__" : Str)) = false) (hl : (ps.map List.length).sum + 2 * ps.length ≤ 100000) (hline : (apos.endLine == pos.line) = true) :
    Ev G env n ρ (.Call (.Attribute (.Constant (.str ", ") k0 p0) "join" apos) [.Name x p1] [] pos) (.str (T (jn01 ps))) := by
  have big : 100000 ≤ sizeLine := by decide
  rw [← join_comma]
  refine ev_meth (ds := [.list (txs (ps.map T))]) ev_str (evs_more (ev_name hx hd) evs_nil rfl) (getm_str F.slot_str_join F.type_str_join) (bf_join (joinOk_sum ?_)) rfl rfl (by show 1 < 30; decide) hline
  have e : ((fun x : Str => x.length) ∘ T) = List.length := by funext z; exact T_length z
  rw [List.map_map, e, List.length_map, show ((", " : String) : Str).length = 2 by decide +kernel]
  omega
theorem prs_app : ∀ (x y : List Th) (k : Nat), prs k (x ++ y) = prs k x ++ prs (k + x.length) y
  | [], y, k => by rw [List.nil_append, prs, List.nil_append]; rfl
  | t :: r, y, k => by rw [List.cons_append, prs, prs, prs_app r y, List.cons_append, List.length_cons, show k + 1 + r.length = k + (r.length + 1) by omega]
theorem okTs_get : ∀ {l : List Th} {i : Nat} {t : Th}, okTs l → l[i]? = some t → okT t
  | [], i, t, _, h => by simp at h
  | u :: r, 0, t, h, e => by rw [okTs] at h; simp at e; exact e ▸ h.1
  | u :: r, i + 1, t, h, e => by rw [okTs] at h; simp at e; exact okTs_get h.2 e
theorem szs_get : ∀ {l : List Th} {i : Nat} {t : Th}, l[i]? = some t → sz t ≤ szs l
  | [], i, t, h => by simp at h
  | u :: r, 0, t, e => by simp at e; subst e; rw [szs]; omega
  | u :: r, i + 1, t, e => by simp at e; have := szs_get e; rw [szs]; omega
theorem key_codes (i : Nat) : (ni (key01 i)).map D.int = [D.int ((sg01 (i : Int) : Nat) : Int)] ++ (ni (fig01 (i : Int))).map D.int := by
  unfold key01 sg01
  have : (((i : Int)).fmod 12).toNat = i % 12 := by
    have := fmodN i 12
    rw [show ((12 : Nat) : Int) = 12 from rfl] at this
    rw [this, Int.toNat_natCast]
  rw [this]
  rfl
theorem fn_ended {aq af as : Addr} (dA : DefAt G a (fdOf (stOf pw 7) doc pm cdv ct) (bodyOf (stOf pw 7))) (hc : nsIn G.K mainGlobals "chr" = some none) (ho : nsIn G.K mainGlobals "ord" = some none) (htu : nsIn G.K mainGlobals "tuple" = some none) (hlen : nsIn G.K mainGlobals "len" = some none) (hr : nsIn G.K mainGlobals "range" = some none)
    (gq : nsIn G.K mainGlobals "_law_quoted" = some (some (.ref aq))) (kq : keepIn G.K (.ref aq) = true) (fq : ∀ c : List Nat, (∀ k ∈ c, k < 256) → c.length ≤ 1000 → Fn G (n + 2) aq [.list ((ni c).map .int)] (.str (T (quoted01 c))))
    (gf : nsIn G.K mainGlobals "_law_figures" = some (some (.ref af))) (kf : keepIn G.K (.ref af) = true) (ff : ∀ i : Int, i.natAbs < 1000000000000 → Fn G (n + 2) af [.int i] (.str (T (fig01 i))))
    (gs : nsIn G.K mainGlobals "_law_signs" = some (some (.ref as))) (ks : keepIn G.K (.ref as) = true) (fs : Fn G (n + 2) as [] (.list ((ni signs01).map .int)))
    (l : List Th) (hok : okTs l) (hsz : szs l ≤ 200) :
    Fn G (n + 3) a [.str "list", .list (thDs l), .list (txs ((txts l).map T))] (tri (.lst l)) ∧ Fn G (n + 3) a [.str "tuple", .list (thDs l), .list (txs ((txts l).map T))] (tri (.tup l)) ∧
      (l.length ≤ 100 → Fn G (n + 3) a [.str "dict", .list (thDs l), .list (txs ((txts l).map T))] (tri (.dct l))) := by
  have big : 100000 ≤ sizeLine := by decide
  have hpar : ∀ x ∈ (["kind", "items", "texts"] : List Str), (fdOf (stOf pw 7) doc pm cdv ct).scope.names.lookup x = some .local ∨ ((fdOf (stOf pw 7) doc pm cdv ct).scope.names.lookup x = some .cell ∧ ∀ k, ((cellsFrom k (fdOf (stOf pw 7) doc pm cdv ct).scope.names []).lookup x).isSome = true) := by
    walk_at "params"
  have htl := txts_len l hok
  have hjl := jn_len (txts l)
  have hll : l.length ≤ 200 := Nat.le_trans (szs_len l) hsz
  have htn : (txts l).length = l.length := by rw [txts_map, List.length_map]
  have s3 : 3 ≤ sizeLine := by decide
  have n1 : ¬ (("tuple" : Str) == ("list" : Str)) = true := by decide +kernel
  have n2 : ¬ (("dict" : Str) == ("list" : Str)) = true := by decide +kernel
  have n3 : ¬ (("dict" : Str) == ("tuple" : Str)) = true := by decide +kernel
  refine ⟨?_, ?_, fun hl100 => ?_⟩
  · refine fn_of (xs := ["kind", "items", "texts"]) dA (fun vs h => ?_) rfl hpar (by decide) fun L => ?_
    · match vs, h with
      | [v, u, w], _ => rfl
    refine exs_cons (ex_if (c := (("list" : Str) == ("list" : Str))) (tst_cmp (ev_name rfl rfl) ev_str op_eq_str rfl) (fun h4 => ?_) fun h4 => by simp at h4)
    refine exs_cons (ex_return (d := tri (.lst l)) ?_ rfl)
    unfold tri
    rw [thD, txt, tyN, ← T_append, ← T_append, show T [91] = (("[" : String) : Str) by decide +kernel, show T [93] = (("]" : String) : Str) by decide +kernel]
    refine ev_tuple (evs_more (ev_name rfl rfl) (evs_more (ev_binop (ev_binop ev_str (ev_joined rfl rfl (by omega) rfl) (op_add_str ?_)) ev_str (op_add_str ?_)) (evs_more (ev_name rfl rfl) evs_nil rfl) rfl) rfl) s3
    · rw [show (("[" : String) : Str).length = 1 by decide +kernel, T_length]; omega
    · rw [Str.length_append, show (("[" : String) : Str).length = 1 by decide +kernel, show (("]" : String) : Str).length = 1 by decide +kernel, T_length]; omega
  · refine fn_of (xs := ["kind", "items", "texts"]) dA (fun vs h => ?_) rfl hpar (by decide) fun L => ?_
    · match vs, h with
      | [v, u, w], _ => rfl
    refine exs_cons (ex_if (c := (("tuple" : Str) == ("list" : Str))) (tst_cmp (ev_name rfl rfl) ev_str op_eq_str rfl) (fun h4 => absurd h4 n1) fun h4 => exs_nil (then_next ?_))
    refine exs_cons (ex_if (c := (("tuple" : Str) == ("tuple" : Str))) (tst_cmp (ev_name rfl rfl) ev_str op_eq_str rfl) (fun h4 => ?_) fun h4 => by simp at h4)
    refine exs_cons (ex_return (d := tri (.tup l)) ?_ rfl)
    unfold tri
    rw [thD, txt, tyN, ← T_append, ← T_append, show T [40] = (("(" : String) : Str) by decide +kernel]
    refine ev_tuple (evs_more (ev_bt (evs_more (ev_name rfl rfl) evs_nil rfl) (bt_tuple (by rw [thDs_map, List.length_map]; omega)) htu rfl rfl rfl rfl) (evs_more (ev_binop (ev_binop ev_str (ev_joined rfl rfl (by omega) rfl) (op_add_str ?_)) (ev_if_same (c := (((txts l).length : Nat) : Int) == 1) (tst_cmp (d₁ := .int (((txts l).length : Nat) : Int)) ?_ ev_int op_eq_int rfl) (fun h => ?_) fun h => ?_) (op_add_str ?_)) (evs_more (ev_name rfl rfl) evs_nil rfl) rfl) rfl) s3
    · rw [show (("(" : String) : Str).length = 1 by decide +kernel, T_length]; omega
    · have := ev_lenL (G := G) (env := callEnvC (fdOf (stOf pw 7) doc pm cdv ct) L a) (n := n + 2) (ρ := startLoc ["kind", "items", "texts"] [.str "tuple", .list (thDs l), .list (txs ((txts l).map T))]) (p := ⟨44, 64, 44, 67⟩) (pos := ⟨44, 64, 44, 74⟩) (ds := txs ((txts l).map T)) (ev_name (x := "texts") (pos := ⟨44, 68, 44, 73⟩) rfl rfl) (by simp; omega) hlen rfl rfl
      rw [show (txs ((txts l).map T)).length = (txts l).length by simp] at this
      exact this
    · rw [if_pos (by have := beq_iff_eq.mp h; omega), show T [44, 41] = ((",)" : String) : Str) by decide +kernel]; exact ev_str
    · rw [if_neg (by have := beq_eq_false_iff_ne.mp h; omega), show T [41] = ((")" : String) : Str) by decide +kernel]; exact ev_str
    · rw [Str.length_append, show (("(" : String) : Str).length = 1 by decide +kernel, T_length, T_length]; split <;> simp <;> omega
  · refine fn_of (xs := ["kind", "items", "texts"]) dA (fun vs h => ?_) rfl hpar (by decide) fun L => ?_
    · match vs, h with
      | [v, u, w], _ => rfl
    refine exs_cons (ex_if (c := (("dict" : Str) == ("list" : Str))) (tst_cmp (ev_name rfl rfl) ev_str op_eq_str rfl) (fun h4 => absurd h4 n2) fun h4 => exs_nil (then_next ?_))
    refine exs_cons (ex_if (c := (("dict" : Str) == ("tuple" : Str))) (tst_cmp (ev_name rfl rfl) ev_str op_eq_str rfl) (fun h4 => absurd h4 n3) fun h4 => exs_nil (then_next ?_))
    constructor
    intro A Z H s R S
    refine wpAny_execs_cons (swapH (xs := ["table", "pairs"]) R.handled (fun x hx => ?_) rfl rfl (Tuple_ (spliced_more (tableH S fun b s₁ hb hbB hbm S₁ => spliced_more (emptyH S₁ fun c s₂ hcn hcB S₂ => spliced_none (tupleW (ds := [.fn b, .fn c]) S₂ (.cons (.fn b) (.cons (.fn c) .nil)) (by show 2 ≤ sizeLine; decide) fun v Z' s' le r S' => ⟨Z', _, [.fn b, .fn c], S', r, rfl, fun s₃ S₃ => ?_⟩)) rfl) rfl)))
    · simp only [List.mem_cons, List.not_mem_nil, or_false] at hx
      rcases hx with rfl | rfl <;> exact .inl rfl
    have hbc : b ≠ c := fun z => by rw [z, Zadd.self] at hcn; cases hcn
    rw [Zadd.ne (Ne.symm hbc)] at hcn
    refine wpAny_execs_cons (forH (H₀ := H) (own := [b, c]) (d := .rng 0 (((thDs l).length : Nat) : Int)) (ds := (List.range l.length).map fun (i : Nat) => D.int (0 + (i : Int)))
      (ρ₀ := [("kind", .val (.str "dict")), ("items", .val (.list (thDs l))), ("texts", .val (.list (txs ((txts l).map T)))), ("table", .val (.fn b)), ("pairs", .val (.fn c))])
      (fun i Z H own => own = [b, c] ∧ (∃ o kvs, H b = some o ∧ o.IsDictOf (strKind G.prog G.w) kvs ∧ kvs.map (·.1) = (keys01 0 i).map T ∧ RepAll G Z (kvs.map (·.2)) (thDs (l.take i))) ∧ ∃ us k, H c = some (listOf us.toArray k) ∧ RepAll G Z us (txs ((prs 0 (l.take i)).map T)))
      (fun i Z Z' H H' own le hH hP => ?_) (fun i Z H own hP => ?_) S₃ R rfl (.inl rfl) (sub_cons rfl (sub_cons rfl (sub_cons rfl (sub_cons rfl (sub_cons rfl sub_nil))))) (fun J hJ => ?_) (fun x o e => ?_) ⟨rfl, ⟨{ cls := .type "dict", data := .dict #[] }, [], ?_, ?_, rfl, ?_⟩, [], 0, ?_, ?_⟩ ?_ ?_ (fun _ => rfl) (fun i d Zc Hc F own s hd leZ hF0 hFH hown hP Sc => ?_) fun Zc Hc own s leZ hle hown hP Sc => ?_)
    · obtain ⟨rfl, ⟨o, kvs, h1, h2, h3, h4⟩, us, k, h5, h6⟩ := hP
      exact ⟨rfl, ⟨o, kvs, (hH b (by simp)).trans h1, h2, h3, h4.mono le⟩, us, k, (hH c (by simp)).trans h5, h6.mono le⟩
    · obtain ⟨rfl, ⟨o, kvs, h1, h2, h3, h4⟩, us, k, h5, h6⟩ := hP
      intro J hJ
      simp only [List.mem_cons, List.not_mem_nil, or_false] at hJ
      rcases hJ with rfl | rfl
      · exact ⟨_, h1⟩
      · exact ⟨_, h5⟩
    · simp only [List.mem_cons, List.not_mem_nil, or_false] at hJ
      rcases hJ with rfl | rfl
      · exact ⟨hb, hbB⟩
      · exact ⟨hcn, hcB⟩
    · have hx : x ≠ b := fun z => by rw [z, hb] at e; cases e
      have hx2 : x ≠ c := fun z => by rw [z, hcn] at e; cases e
      rw [Zadd.ne hx2, Zadd.ne hx]; exact e
    · rw [Zadd.ne hbc]; exact Zadd.self
    · exact ⟨#[], 0, ⟨rfl, rfl, rfl⟩, rfl, fun e he => by simp at he, .nil, List.nodup_nil⟩
    · rw [List.take_zero, thDs]; exact .nil
    · exact Zadd.self
    · rw [List.take_zero, prs]; exact .nil
    · exact ev_bt (evs_more (ev_lenL (ev_name rfl rfl) (by rw [thDs_map, List.length_map]; omega) hlen rfl rfl) evs_nil rfl) bt_range1 hr rfl rfl rfl rfl
    · have hh : (thDs l).length = l.length := by rw [thDs_map, List.length_map]
      have := itr_rng (G := G) (a := 0) (b := (((thDs l).length : Nat) : Int)) (by decide) (by decide) (by omega) (by omega)
      rwa [show (((((thDs l).length : Nat) : Int)) - 0).toNat = l.length by omega] at this
    · obtain ⟨rfl, ⟨o, kvs, h1, h2, h3, h4⟩, us, k, h5, h6⟩ := hP
      have hi : i < l.length := by
        have := (List.getElem?_eq_some_iff.mp hd).1
        rw [List.length_map, List.length_range] at this; omega
      have hdi : d = .int (i : Int) := by
        rw [List.getElem?_map, List.getElem?_range (by omega)] at hd
        have := Option.some.inj hd
        rw [← this]; simp
      subst hdi
      obtain ⟨t, ht⟩ : ∃ t, l[i]? = some t := ⟨l[i], List.getElem?_eq_getElem hi⟩
      have htk : l.take (i + 1) = l.take i ++ [t] := by rw [List.take_add_one, ht]; rfl
      have hkl := key_len (k := i) (by omega)
      have hka := key_asc i
      have hkq := quoted_len (key01 i)
      have htxt := txt_len t (okTs_get hok ht)
      have hst := szs_get ht
      have hfl := fig_len (i := (i : Int)) (by omega)
      -- codes
      refine wpAny_execs_cons (wp_seq ((ex_assign (n := n + 2) (Φ := fun fl ρ' => fl = .next ∧ ρ' = upd (upd [("kind", B.val (.str "dict")), ("items", .val (.list (thDs l))), ("texts", .val (.list (txs ((txts l).map T)))), ("table", .val (.fn b)), ("pairs", .val (.fn c))] "k" (.val (.int (i : Int)))) "codes" (.val (.list ((ni (key01 i)).map .int)))) (d := .list ((ni (key01 i)).map .int)) ?_ (.inl rfl) rfl ⟨rfl, rfl⟩).run A Zc Hc s R Sc) fun f s₅ ⟨Z₅, ρ₅, fl, le₅, S₅, hf, hfl', hρ⟩ => ?_)
      · rw [key_codes]
        refine ev_binop (ev_list (evs_more (ev_sub (ev_call (ev_glob gs rfl rfl) evs_nil ks fs rfl rfl) (ev_binop (ev_name rfl rfl) ev_int (op_mod_int (by decide))) (sb_sign _)) evs_nil rfl) (by show 1 ≤ sizeLine; decide)) (ev_listcomp (ρc := []) (cl := []) (d := .str (T (fig01 (i : Int)))) (ds := (fig01 (i : Int)).map fun c => .str ⟨#[c]⟩) ⟨rfl, by decide, by decide, rfl, cells_nil, cap_nil⟩ rfl (fun _ => rfl) (ev_call (ev_glob gf rfl rfl) (evs_more (ev_name rfl rfl) evs_nil rfl) kf (ff _ (by omega)) rfl rfl) itr_str (fun C => ?_) (by simp; omega)) (op_add_list (by simp; omega))
        have e2 : (ni (fig01 (i : Int))).map D.int = (fig01 (i : Int)).flatMap fun k => [D.int ((k : Nat) : Int)] := by rw [List.map_map, ← map_one]; rfl
        rw [e2]
        exact comp1 (xs := fig01 (i : Int)) (mk := fun c => D.str ⟨#[c]⟩) (F := fun k => [D.int ((k : Nat) : Int)]) fun k hk => ⟨_, true, asg_name (.inl rfl), sub_nil, tsts_nil, (fun h => nomatch h), fun _ => ⟨_, ev_bf (evs_more (ev_name rfl rfl) evs_nil rfl) bf_ord ho rfl rfl rfl rfl, rfl⟩⟩
      subst hfl' hρ
      cases hf
      -- table[..] = items[k]
      have hk1 : kvs.length = i := by have := congrArg List.length h3; simpa [keys_len] using this
      refine wpAny_execs_cons (setTableH (kvs := kvs) (key := T (key01 i)) (d := thD t) S₅ R rfl h1 h2 hbB rfl rfl (ev_sub (ev_name rfl rfl) (ev_name rfl rfl) (sb_list (by omega) (by omega) ?_)) (ev_chars rfl (by omega) (fun k hk => by have := hka k hk; omega) hc ⟨rfl, by decide, by decide, rfl, cells_nil, cap_nil⟩ (fun _ => rfl) (fun _ => rfl) rfl) (by rw [h3]; exact key_new i) (by omega) rfl fun v Z₆ o' s₆ le₆ r₆ ho' S₆ => ?_)
      · rw [Int.toNat_natCast, thDs_map, List.getElem?_map, ht]; rfl
      -- pairs.append(..)
      have h5' : Zadd Hc b o' c = some (listOf us.toArray k) := by rw [Zadd.ne (Ne.symm hbc)]; exact h5
      have hul : us.length = i := by
        have := h6.length
        have hp : ∀ (m : List Th) (k : Nat), (prs k m).length = m.length := fun m => by
          induction m with
          | nil => intro k; rw [prs]; rfl
          | cons x r ih => intro k; rw [prs, List.length_cons, ih, List.length_cons]
        rw [txs, List.length_map, List.length_map, hp, List.length_take] at this
        omega
      refine wpAny_execs_cons (appendH S₆ rfl h5' hcB rfl rfl rfl rfl rfl (by omega) (wp_seq ((?_ : Ev G _ (n + 2) _ _ (.str (T (quoted01 (key01 i) ++ [58, 32] ++ txt t)))).run A Z₆ _ s₆ R S₆) fun v s₇ ⟨Z₇, x₇, r₇⟩ => ⟨Z₇, _, h5', S₆.ext x₇, fun s₈ k' S₈ => wpAny_execs_nil ⟨.inl rfl, Z₇, _, [b, c], _, le₅.trans (le₆.trans x₇.le), ?_, hown, ⟨rfl, ⟨o', kvs ++ [(T (key01 i), _)], ?_, ho', ?_, ?_⟩, us ++ [v], k', Zadd.self, ?_⟩, S₈, sub_cons rfl (sub_cons rfl (sub_cons rfl (sub_cons rfl (sub_cons rfl sub_nil))))⟩⟩))
      · rw [← T_append, ← T_append, show T [58, 32] = ((": " : String) : Str) by decide +kernel]
        refine ev_binop (ev_binop (ev_call (ev_glob gq rfl rfl) (evs_more (ev_name rfl rfl) evs_nil rfl) kq (fq _ (fun k hk => by have := hka k hk; omega) (by omega)) rfl rfl) ev_str (op_add_str ?_)) (ev_txt (xs := txts l) (i := i) (ev_name rfl rfl) (ev_name rfl rfl) (by rw [txts_map, List.getElem?_map, ht]; rfl) (by omega)) (op_add_str ?_)
        · rw [T_length, show ((": " : String) : Str).length = 2 by decide +kernel]; omega
        · rw [Str.length_append, T_length, T_length, show ((": " : String) : Str).length = 2 by decide +kernel]; omega
      · intro x ob e
        have hx : x ≠ b := fun z => by rw [z, (hown b (by simp)).1] at e; cases e
        have hx2 : x ≠ c := fun z => by rw [z, (hown c (by simp)).1] at e; cases e
        rw [Zadd.ne hx2, Zadd.ne hx]; exact hFH x ob e
      · rw [Zadd.ne hbc]; exact Zadd.self
      · rw [List.map_append, h3, keys_snoc, List.map_append]; rfl
      · rw [htk, thDs_app, List.map_append]
        refine RepAll.append (h4.mono (le₅.trans (le₆.trans x₇.le))) ?_
        rw [thDs, thDs]
        exact .cons (r₆.mono x₇.le) .nil
      · rw [htk, prs_app, List.map_append, txs, List.map_append]
        refine RepAll.append (h6.mono (le₅.trans (le₆.trans x₇.le))) ?_
        rw [prs, prs, List.length_take, show 0 + min i l.length = i by omega]
        exact .cons r₇ .nil
    · obtain ⟨rfl, ⟨o, kvs, h1, h2, h3, h4⟩, us, k, h5, h6⟩ := hP
      rw [List.length_map, List.length_range] at h3 h4 h6
      rw [List.take_length] at h4 h6
      obtain ⟨le1, S1⟩ := Sc.toZ h1 hbB rfl
      obtain ⟨le2, S2⟩ := S1.toZ (I := c) (by rw [Hdel.ne (Ne.symm hbc)]; exact h5) hcB rfl
      have S4 := (S2.reval (x := "table") (d' := .dict ((keys01 0 l.length).map T) (thDs l)) rfl fun v r => by
        cases r
        rw [← h3]
        exact .dict (by rw [Zadd.ne hbc]; exact Zadd.self) hbm h2 (h4.mono (le1.trans le2))).reval (x := "pairs") (d' := .list (txs ((prs 0 l).map T))) rfl fun v r => by
        cases r
        exact .list Zadd.self (h6.mono (le1.trans le2))
      have hpl := prs_len l 0 hok (by omega)
      have hjp := jn_len (prs 0 l)
      refine wpAny_mono ((exs_cons (ex_return (d := tri (.dct l)) ?_ rfl) : Exs G _ (n + 2) _ _ (RetPost (tri (.dct l)))).run A _ _ s R S4) (fun f s' ⟨Z', ρ', fl, le', S', hf, hΦ⟩ => ⟨Z', ρ', fl, ?_, S'.subH (fun x ob e => ?_) (fun x ob e => ?_) rfl, hf, hΦ⟩) fun _ _ q => q
      · unfold tri
        rw [thD, txt, tyN, ← T_append, ← T_append, show T [123] = (("{" : String) : Str) by decide +kernel, show T [125] = (("}" : String) : Str) by decide +kernel]
        refine ev_tuple (evs_more (ev_name rfl rfl) (evs_more (ev_binop (ev_binop ev_str (ev_joined rfl rfl (by omega) rfl) (op_add_str ?_)) ev_str (op_add_str ?_)) (evs_more (ev_name rfl rfl) evs_nil rfl) rfl) rfl) s3
        · rw [show (("{" : String) : Str).length = 1 by decide +kernel, T_length]; omega
        · rw [Str.length_append, show (("{" : String) : Str).length = 1 by decide +kernel, show (("}" : String) : Str).length = 1 by decide +kernel, T_length]; omega
      · exact le.trans (leZ.trans (le1.trans (le2.trans le')))
      · have hx : x ≠ b := fun z => by rw [z, hb] at e; cases e
        have hx2 : x ≠ c := fun z => by rw [z, hcn] at e; cases e
        rw [Hdel.ne hx2, Hdel.ne hx]; exact hle x ob e
      · rcases S.bas x ob e with z | z
        · exact .inl (le' _ _ (le2 _ _ (le1 _ _ (leZ _ _ (le _ _ z)))))
        · exact .inr z
end
end
section
open PySem PySem.W PyProof.Rows
set_option linter.unusedVariables false
set_option maxRecDepth 100000
section
variable {G : Gnd} {env : Env} {Z Z' H : Zf} {ρ ρ' : Loc} {s s' : Shared} {A : Around} {E : Value → Shared → Prop} {n : Nat} {pos apos : Pos}
/-- a def that refuses with words -/
structure FnEm (G : Gnd) (n : Nat) (f : Addr) (ds : List D) (X : String) (msg : Str) : Prop where
  run : ∀ A Z s vs l, RoomX n A → A.handled = none → Bs G Z s → RepAll G Z vs ds → A.frames = some l → s.heap.FunFrames (hideAll s.heap (framesOf l)) l → (∀ L ∈ framesOf l, Z L = none ∧ G.base.get? L = none) →
    wpAny (model G.prog G.w) A (call (.ref f) vs) (fun _ _ => False) (fun e s' => ∃ ea t tk, e = .ref ea ∧ Heap.FlyingW (hideAll s.heap (framesOf l)) l ea (.type X) (.ref t) s'.heap ∧ s'.heap.TupAt t [.str msg tk] ∧ s.heap.UpToSlots s'.heap ∧ s'.gens = s.gens ∧ s'.os = s.os ∧ s.toks ≤ s'.toks) s
theorem fn_ofEm {a : Addr} {fd : FuncData} {body : List Stmt} {xs : List Str} {ds : List D} {X : String} {msg : Str} (D : DefAt G a fd body) (hb : ∀ vs : List Value, vs.length = xs.length → bindArgs fd ⟨vs, []⟩ = pure (xs.zip vs)) (hlen : xs.length = ds.length)
    (hx : ∀ x ∈ xs, fd.scope.names.lookup x = some .local ∨ (fd.scope.names.lookup x = some .cell ∧ ∀ k, ((cellsFrom k fd.scope.names []).lookup x).isSome = true)) (hnd : xs.Nodup)
    (h : ∀ L A Z H s₁, RoomX n A → A.handled = none → St G (callEnvC fd L a) Z H (startLoc xs ds) s₁ →
      wpAny (model G.prog G.w) A (execs body (callEnvC fd L a)) (fun _ _ => False) (fun e s' => ∃ ea h₂ tk, e = .ref ea ∧ (∀ b o, s₁.heap.get? b = some o → h₂.get? b = some o) ∧ Heap.MadeExcOf h₂ s'.heap ea (.type X) [.str msg tk] ∧ s'.gens = s₁.gens ∧ s'.os = s₁.os ∧ s₁.toks ≤ s'.toks) s₁) : FnEm G (n + 1) a ds X msg := by
  constructor
  intro A Z s vs l R hPA b r hfr hff hzl
  obtain ⟨o, ho, hd⟩ := D.obj
  have hvl : vs.length = xs.length := r.length.trans hlen.symm
  have hmap : (xs.zip vs).map (·.1) = xs := by rw [List.map_fst_zip]; omega
  have hnd' : ((xs.zip vs).map (·.1)).Nodup := by rw [hmap]; exact hnd
  refine wpAny_with_toks (Nat.le_refl s.toks) ?_
  refine wpAny_call ?_
  refine codeAny_call_function (by have := R.depth; omega) (b.X _ _ ho) hd D.co D.gen D.body (codeRec_of b.X D.code) ?_
  rw [hb vs hvl, D.closure]
  refine wpAny_pure (wpAny_with_toks (Nat.le_refl s.toks) (wpAny_newFunctionEnv_cells D.kind (fun x hm => ?_) fun env he s₁ x tok => ?_))
  · have : x.1 ∈ xs := by rw [← hmap]; exact List.mem_map_of_mem hm
    rcases hx _ this with q | ⟨q, q'⟩
    · exact .inl q
    · exact .inr ⟨q, q' _⟩
  subst he
  have hcall := x.toInCall
  obtain ⟨h₁, tk, rfl, hk₁⟩ := x.done
  refine ⟨b.nolimit.keeps hcall.keep, codeAny_func ?_⟩
  have HZ : ∀ a' o', (if Z a' = none then s.heap.get? a' else none) = some o' → Z a' = none ∧ s.heap.get? a' = some o' := fun a' o' e => by
    split at e
    · rename_i q; exact ⟨q, e⟩
    · cases e
  have hLnone : s.heap.get? s.heap.objs.size = none := get?_size_none _
  have nz : ∀ c, s.heap.objs.size ≤ c → s.heap.get? c = none := fun c hc => by
    cases q : s.heap.get? c with
    | none => rfl
    | some ob => exact absurd (Heap.lt_size q) (Nat.not_lt.mpr hc)
  have nzZ : ∀ c, s.heap.objs.size ≤ c → Z c = none := fun c hc => by
    cases q : Z c with
    | none => rfl
    | some ob => have := b.zin c ob q; rw [nz c hc] at this; cases this
  have S₁ : St G (callEnvC fd s.heap.objs.size a) Z (fun a => if Z a = none then s.heap.get? a else none) (startLoc xs ds) { s with heap := h₁, toks := tk } := by
    refine ⟨D.kind, D.gl, D.bl, b.gens, b.os, Nat.lt_of_lt_of_le b.tk tok, fun a' o' e => hk₁ _ _ (b.zin _ _ e), fun a' o' e => hk₁ _ _ (HZ _ _ e).2, fun a' o' e => by simp [e], fun a' o' e => ?_, ⟨_, hcall.ns⟩, nzZ _ (Nat.le_refl _), ?_, fun y c e => ⟨?_, fun _ => ?_, fun hf => by cases hf⟩, ?_, fun y d' e => ?_, ?_⟩
    · have e' := b.bas _ _ e
      cases q : Z a' with
      | none => right; simp [q, e']
      | some ob => left; have := b.zin _ _ q; rw [e'] at this; cases this; rfl
    · show (if Z s.heap.objs.size = none then s.heap.get? s.heap.objs.size else none) = none
      rw [nzZ _ (Nat.le_refl _), if_pos rfl]; exact hLnone
    · exact Nat.ne_of_gt (x.above y c (mem_of_lookup e))
    · have hc : s.heap.objs.size ≤ c := Nat.le_of_lt (x.above y c (mem_of_lookup e))
      refine ⟨nzZ c hc, ?_, _, x.cell y c e⟩
      show (if Z c = none then s.heap.get? c else none) = none
      rw [nzZ c hc, if_pos rfl]; exact nz c hc
    · exact fun y z c e e' => name_of_addr x.apart (mem_of_lookup e) (mem_of_lookup e')
    · obtain ⟨v, d'', e', hm, r'⟩ := startLoc_lookup r hlen e
      cases e'
      have hxm : y ∈ xs := by rw [← hmap]; exact List.mem_map_of_mem hm
      refine ⟨v, ?_, r'⟩
      rcases hx y hxm with q | ⟨q, q'⟩
      · exact .inl ⟨q, _, hcall.ns, bindL_get (k := (callEnvC fd s.heap.objs.size a).kindOf) q hnd' hm⟩
      · obtain ⟨c, hc⟩ := Option.isSome_iff_exists.mp (q' (s.heap.objs.size + 1))
        refine .inr ⟨.inl q, c, hc, ?_⟩
        have := x.cell y c hc
        exact (bindC_get (k := (callEnvC fd s.heap.objs.size a).kindOf) q hnd' hm) ▸ this
    · refine ⟨fun _ => 0, fun y z es es' e => ?_, fun y es e => ?_⟩
      · obtain ⟨_, _, e', _⟩ := startLoc_lookup r hlen e; cases e'
      · obtain ⟨_, _, e', _⟩ := startLoc_lookup r hlen e; cases e'
  have old : ∀ L' ∈ framesOf l, ∃ o, s.heap.get? L' = some o := fun L' hL' => by
    have key : ∀ (l : List Env) (base : Heap), s.heap.FunFrames base l → L' ∈ framesOf l → ∃ o, s.heap.get? L' = some o := by
      intro l
      induction l with
      | nil => intro base _ hm; simp [framesOf] at hm
      | cons e0 r ih =>
        rintro base ⟨_, ⟨L0, o0, hf0, _, ho0, _⟩, hr⟩ hm
        rw [framesOf, List.filterMap_cons, hf0] at hm
        rcases List.mem_cons.mp hm with rfl | hm
        · exact ⟨o0, ho0⟩
        · exact ih base hr hm
    exact key l _ hff hL'
  have neL : ∀ L' ∈ framesOf l, L' ≠ s.heap.objs.size := fun L' hL' q => by
    obtain ⟨o, ho⟩ := old L' hL'
    rw [q, hLnone] at ho; cases ho
  have S₂ := S₁.less (framesOf l) (fun L' hL' => (hzl L' hL').2) rfl
  have hfr' : (A.deeper (callEnvC fd s.heap.objs.size a)).frames = some (callEnvC fd s.heap.objs.size a :: l) := Around.frames_deeper hfr
  have hBB : (hideAll s.heap (framesOf l)).StaysIn (hideAll h₁ (framesOf (callEnvC fd s.heap.objs.size a :: l))) := fun c o e => by
    have e1 := of_hideAll _ e
    refine hideAll_get _ (hk₁ _ _ e1) fun hm => ?_
    have hm' : c = s.heap.objs.size ∨ c ∈ framesOf l := by
      have : framesOf (callEnvC fd s.heap.objs.size a :: l) = s.heap.objs.size :: framesOf l := rfl
      rw [this] at hm; exact List.mem_cons.mp hm
    rcases hm' with q | q
    · rw [q, hLnone] at e1; cases e1
    · rw [hideAll_none _ q] at e; cases e
  have hff' : h₁.FunFrames (hideAll h₁ (framesOf (callEnvC fd s.heap.objs.size a :: l))) (callEnvC fd s.heap.objs.size a :: l) := by
    obtain ⟨oL, esL, epL, hoL, hdL, _⟩ := hcall.ns
    have f1 : h₁.FunFrames (hideAll s.heap (framesOf l)) (callEnvC fd s.heap.objs.size a :: l) := by
      refine ⟨?_, ⟨s.heap.objs.size, oL, rfl, ?_, hoL, fun vs q => by rw [hdL] at q; cases q⟩, hff.of_keeps fun c o e _ => ⟨o, hk₁ c o e, rfl⟩⟩
      · show fd.scope.kind ≠ .module
        rw [D.kind]; intro q; cases q
      · cases q : (hideAll s.heap (framesOf l)).get? s.heap.objs.size with
        | none => rfl
        | some o => have := of_hideAll _ q; rw [hLnone] at this; cases this
    exact funFrames_hide f1 fun env he c hc => List.mem_filterMap.mpr ⟨env, he, hc⟩
  refine wpAny_mono (h s.heap.objs.size _ Z _ _ R.deeper hPA S₂) (fun _ _ q => q.elim) fun e s₂ ⟨ea, h₂, tkm, ee, hk₂, hmade, hg, hos, htk⟩ => ?_
  subst ee
  refine wpAny_leaves_madeW hfr' rfl (fun c o e => hk₂ c o (of_hideAll _ e)) (hff'.of_keeps fun c o e _ => ⟨o, hk₂ c o e, rfl⟩) hmade fun h₃ t q1 q2 q3 q4 _ => ?_
  exact ⟨ea, t, tkm, rfl, flyingW_base hBB q1, q2, ((Heap.UpToSlots.of_keeps hk₁).trans ((Heap.UpToSlots.of_keeps hk₂).trans (Heap.UpToSlots.of_keeps hmade.keeps))).trans q4, hg, hos, Nat.le_trans tok htk⟩
/-- the body of _raise_serialization_error, with nothing handled -/
theorem rseM_body {d : D} {x : Str} {T q : String} {p1 p2 p3 p4 p5 p6 p7 p8 p9 p10 p11 q1 q2 q3 : Pos} {k1 k2 k3 : Nat} (R : RoomX 3 A) (hP : A.handled = none) (S : St G env Z H ρ s) (hx : ρ.lookup ("text" : Str) = some (B.val d)) (W : Shown G d x T) (N : Named G.K T q)
    (hT : nsIn G.K mainGlobals "type" = some none) (hkT : env.kindOf "type" = some .globalImplicit) (hTE : nsIn G.K mainGlobals "TypeError" = some none) (hkTE : env.kindOf "TypeError" = some .globalImplicit) :
    wpAny (model G.prog G.w) A (execs [.Raise (some (.Call (.Name "TypeError" q1) [.JoinedStr [.Constant (.str "cannot serialize ") k1 p1, .FormattedValue (.Name "text" p2) 114 none p3, .Constant (.str " (type ") k2 p4,
      .FormattedValue (.Attribute (.Call (.Name "type" p5) [.Name "text" p6] [] p7) "__name__" p8) 115 none p9, .Constant (.str ")") k3 p10] p11] [] q2)) none q3] env) (fun _ _ => False)
      (fun e s' => ∃ ea h₂ tk, e = .ref ea ∧ (∀ b o, s.heap.get? b = some o → h₂.get? b = some o) ∧ Heap.MadeExcOf h₂ s'.heap ea (.type "TypeError") [.str (words x (Str.ofString q)) tk] ∧ s'.gens = s.gens ∧ s'.os = s.os ∧ s.toks ≤ s'.toks) s := by
  refine wpAny_with_toks (Nat.le_refl s.toks) ?_
  refine wpAny_execs_cons ?_
  refine wpAny_Raise_call F.excCall_TypeError F.excRaise_TypeError hP rfl (wp_builtinName S hTE rfl (by decide) hkTE (by decide) ⟨rfl, ?_⟩)
  refine wp_evalArgs (starred_none rfl q2) (spliced_more (text_run R S hx W N hT hkT fun h₂ tk k hk => spliced_none ?_) rfl)
  refine ⟨rfl, by show 1 ≤ sizeLine; decide, fun h' e hm htk => ?_⟩
  exact ⟨e, h₂, tk, rfl, hk, ⟨hm.keeps, hm.new, hm.there⟩, rfl, rfl, htk⟩
end
end
section
open PySem PySem.W PyProof.Rows
set_option linter.unusedVariables false
set_option linter.unusedSimpArgs false
set_option maxRecDepth 100000
section
variable {G : Gnd} {env : Env} {Z Z' H : Zf} {ρ ρ' : Loc} {s s' : Shared} {A : Around} {E : Value → Shared → Prop} {n : Nat} {pos apos : Pos}
/-- all stands but the frames l, and these but for their slots; F: what else is left out -/
structure Back (F l : List Addr) (s s' : Shared) : Prop where
  stay : ∀ b o, b ∉ F → s.heap.get? b = some o → s'.heap.get? b = some o
  slots : ∀ L ∈ l, ∀ o, s.heap.get? L = some o → (∀ vs, o.data ≠ .fields vs) → ∃ sl, s'.heap.get? L = some { o with slots := sl }
  gens : s'.gens = s.gens
  os : s'.os = s.os
  tk : s.toks ≤ s'.toks
/-- a def that catches within, and gives a text -/
structure FnWd (G : Gnd) (n : Nat) (f : Addr) (ds : List D) (msg : Str) : Prop where
  run : ∀ A Z s vs l, Room n A → Bs G Z s → RepAll G Z vs ds → A.frames = some l → s.heap.FunFrames (hideAll s.heap (framesOf l)) l → (∀ L ∈ framesOf l, Z L = none ∧ G.base.get? L = none) →
    wpAny (model G.prog G.w) A (call (.ref f) vs) (fun r s' => ∃ tk, r = .str msg tk ∧ Back (framesOf l) (framesOf l) s s') (fun _ _ => False) s
theorem fn_ofW {a : Addr} {fd : FuncData} {body : List Stmt} {xs : List Str} {ds : List D} {msg : Str} (D : DefAt G a fd body) (hb : ∀ vs : List Value, vs.length = xs.length → bindArgs fd ⟨vs, []⟩ = pure (xs.zip vs)) (hlen : xs.length = ds.length)
    (hx : ∀ x ∈ xs, fd.scope.names.lookup x = some .local ∨ (fd.scope.names.lookup x = some .cell ∧ ∀ k, ((cellsFrom k fd.scope.names []).lookup x).isSome = true)) (hnd : xs.Nodup)
    (h : ∀ L A Z H s₁ l, Room n A → St G (callEnvC fd L a) Z H (startLoc xs ds) s₁ → A.frames = some (callEnvC fd L a :: l) → s₁.heap.FunFrames (hideAll s₁.heap (framesOf (callEnvC fd L a :: l))) (callEnvC fd L a :: l) → (∀ L' ∈ framesOf l, Z L' = none ∧ H L' = none ∧ G.base.get? L' = none ∧ L' ≠ L) →
      wpAny (model G.prog G.w) A (execs body (callEnvC fd L a)) (fun f s' => ∃ tk, f = .ret (.str msg tk) ∧ Back (L :: framesOf l) (framesOf l) s₁ s') (fun _ _ => False) s₁) : FnWd G (n + 1) a ds msg := by
  constructor
  intro A Z s vs l R b r hfr hff hzl
  obtain ⟨o, ho, hd⟩ := D.obj
  have hvl : vs.length = xs.length := r.length.trans hlen.symm
  have hmap : (xs.zip vs).map (·.1) = xs := by rw [List.map_fst_zip]; omega
  have hnd' : ((xs.zip vs).map (·.1)).Nodup := by rw [hmap]; exact hnd
  refine wpAny_with_toks (Nat.le_refl s.toks) ?_
  refine wpAny_call ?_
  refine codeAny_call_function (by have := R.depth; omega) (b.X _ _ ho) hd D.co D.gen D.body (codeRec_of b.X D.code) ?_
  rw [hb vs hvl, D.closure]
  refine wpAny_pure (wpAny_with_toks (Nat.le_refl s.toks) (wpAny_newFunctionEnv_cells D.kind (fun x hm => ?_) fun env he s₁ x tok => ?_))
  · have : x.1 ∈ xs := by rw [← hmap]; exact List.mem_map_of_mem hm
    rcases hx _ this with q | ⟨q, q'⟩
    · exact .inl q
    · exact .inr ⟨q, q' _⟩
  subst he
  have hcall := x.toInCall
  obtain ⟨h₁, tk, rfl, hk₁⟩ := x.done
  refine ⟨b.nolimit.keeps hcall.keep, codeAny_func ?_⟩
  have HZ : ∀ a' o', (if Z a' = none then s.heap.get? a' else none) = some o' → Z a' = none ∧ s.heap.get? a' = some o' := fun a' o' e => by
    split at e
    · rename_i q; exact ⟨q, e⟩
    · cases e
  have hLnone : s.heap.get? s.heap.objs.size = none := get?_size_none _
  have nz : ∀ c, s.heap.objs.size ≤ c → s.heap.get? c = none := fun c hc => by
    cases q : s.heap.get? c with
    | none => rfl
    | some ob => exact absurd (Heap.lt_size q) (Nat.not_lt.mpr hc)
  have nzZ : ∀ c, s.heap.objs.size ≤ c → Z c = none := fun c hc => by
    cases q : Z c with
    | none => rfl
    | some ob => have := b.zin c ob q; rw [nz c hc] at this; cases this
  have S₁ : St G (callEnvC fd s.heap.objs.size a) Z (fun a => if Z a = none then s.heap.get? a else none) (startLoc xs ds) { s with heap := h₁, toks := tk } := by
    refine ⟨D.kind, D.gl, D.bl, b.gens, b.os, Nat.lt_of_lt_of_le b.tk tok, fun a' o' e => hk₁ _ _ (b.zin _ _ e), fun a' o' e => hk₁ _ _ (HZ _ _ e).2, fun a' o' e => by simp [e], fun a' o' e => ?_, ⟨_, hcall.ns⟩, nzZ _ (Nat.le_refl _), ?_, fun y c e => ⟨?_, fun _ => ?_, fun hf => by cases hf⟩, ?_, fun y d' e => ?_, ?_⟩
    · have e' := b.bas _ _ e
      cases q : Z a' with
      | none => right; simp [q, e']
      | some ob => left; have := b.zin _ _ q; rw [e'] at this; cases this; rfl
    · show (if Z s.heap.objs.size = none then s.heap.get? s.heap.objs.size else none) = none
      rw [nzZ _ (Nat.le_refl _), if_pos rfl]; exact hLnone
    · exact Nat.ne_of_gt (x.above y c (mem_of_lookup e))
    · have hc : s.heap.objs.size ≤ c := Nat.le_of_lt (x.above y c (mem_of_lookup e))
      refine ⟨nzZ c hc, ?_, _, x.cell y c e⟩
      show (if Z c = none then s.heap.get? c else none) = none
      rw [nzZ c hc, if_pos rfl]; exact nz c hc
    · exact fun y z c e e' => name_of_addr x.apart (mem_of_lookup e) (mem_of_lookup e')
    · obtain ⟨v, d'', e', hm, r'⟩ := startLoc_lookup r hlen e
      cases e'
      have hxm : y ∈ xs := by rw [← hmap]; exact List.mem_map_of_mem hm
      refine ⟨v, ?_, r'⟩
      rcases hx y hxm with q | ⟨q, q'⟩
      · exact .inl ⟨q, _, hcall.ns, bindL_get (k := (callEnvC fd s.heap.objs.size a).kindOf) q hnd' hm⟩
      · obtain ⟨c, hc⟩ := Option.isSome_iff_exists.mp (q' (s.heap.objs.size + 1))
        refine .inr ⟨.inl q, c, hc, ?_⟩
        have := x.cell y c hc
        exact (bindC_get (k := (callEnvC fd s.heap.objs.size a).kindOf) q hnd' hm) ▸ this
    · refine ⟨fun _ => 0, fun y z es es' e => ?_, fun y es e => ?_⟩
      · obtain ⟨_, _, e', _⟩ := startLoc_lookup r hlen e; cases e'
      · obtain ⟨_, _, e', _⟩ := startLoc_lookup r hlen e; cases e'
  have old : ∀ L' ∈ framesOf l, ∃ o, s.heap.get? L' = some o := fun L' hL' => by
    have key : ∀ (l : List Env) (base : Heap), s.heap.FunFrames base l → L' ∈ framesOf l → ∃ o, s.heap.get? L' = some o := by
      intro l
      induction l with
      | nil => intro base _ hm; simp [framesOf] at hm
      | cons e0 r ih =>
        rintro base ⟨_, ⟨L0, o0, hf0, _, ho0, _⟩, hr⟩ hm
        rw [framesOf, List.filterMap_cons, hf0] at hm
        rcases List.mem_cons.mp hm with rfl | hm
        · exact ⟨o0, ho0⟩
        · exact ih base hr hm
    exact key l _ hff hL'
  have neL : ∀ L' ∈ framesOf l, L' ≠ s.heap.objs.size := fun L' hL' q => by
    obtain ⟨o, ho⟩ := old L' hL'
    rw [q, hLnone] at ho; cases ho
  have S₂ := S₁.less (framesOf l) (fun L' hL' => (hzl L' hL').2) rfl
  have hfr' : (A.deeper (callEnvC fd s.heap.objs.size a)).frames = some (callEnvC fd s.heap.objs.size a :: l) := Around.frames_deeper hfr
  have hBB : (hideAll s.heap (framesOf l)).StaysIn (hideAll h₁ (framesOf (callEnvC fd s.heap.objs.size a :: l))) := fun c o e => by
    have e1 := of_hideAll _ e
    refine hideAll_get _ (hk₁ _ _ e1) fun hm => ?_
    have hm' : c = s.heap.objs.size ∨ c ∈ framesOf l := by
      have : framesOf (callEnvC fd s.heap.objs.size a :: l) = s.heap.objs.size :: framesOf l := rfl
      rw [this] at hm; exact List.mem_cons.mp hm
    rcases hm' with q | q
    · rw [q, hLnone] at e1; cases e1
    · rw [hideAll_none _ q] at e; cases e
  have hff' : h₁.FunFrames (hideAll h₁ (framesOf (callEnvC fd s.heap.objs.size a :: l))) (callEnvC fd s.heap.objs.size a :: l) := by
    obtain ⟨oL, esL, epL, hoL, hdL, _⟩ := hcall.ns
    have f1 : h₁.FunFrames (hideAll s.heap (framesOf l)) (callEnvC fd s.heap.objs.size a :: l) := by
      refine ⟨?_, ⟨s.heap.objs.size, oL, rfl, ?_, hoL, fun vs q => by rw [hdL] at q; cases q⟩, hff.of_keeps fun c o e _ => ⟨o, hk₁ c o e, rfl⟩⟩
      · show fd.scope.kind ≠ .module
        rw [D.kind]; intro q; cases q
      · cases q : (hideAll s.heap (framesOf l)).get? s.heap.objs.size with
        | none => rfl
        | some o => have := of_hideAll _ q; rw [hLnone] at this; cases this
    exact funFrames_hide f1 fun env he c hc => List.mem_filterMap.mpr ⟨env, he, hc⟩
  refine wp_seq (h s.heap.objs.size _ Z _ _ l R.deeper S₂ hfr' hff' fun L' hL' => ⟨(hzl L' hL').1, if_pos hL', (hzl L' hL').2, neL L' hL'⟩) fun f s₂ ⟨tkm, ef, B⟩ _ => ?_
  subst ef
  refine ⟨tkm, rfl, ⟨fun c o hc e => B.stay c o (fun z => ?_) (hk₁ c o e), fun L' hL' o e hd => B.slots L' hL' o (hk₁ _ _ e) hd, B.gens, B.os, Nat.le_trans tok B.tk⟩⟩
  rcases List.mem_cons.mp z with z | z
  · rw [z, hLnone] at e; cases e
  · exact hc z
/-- try: _raise_serialization_error(thing) / except TypeError as error: return str(error) -/
theorem words_body {fa : Addr} {d : D} {msg : Str} {l : List Env} {fp ap cp ep np hp rp sp xp scp tpos : Pos} {rest : List Stmt} (R : Room n A) (hn : 1 ≤ n) (hfr : A.frames = some (env :: l)) (hloc : env.frame = some env.locals) (hi : interactive env = false) (S : St G env Z H ρ s) (hc : env.cells = []) (hx : ρ.lookup ("thing" : Str) = some (B.val d))
    (hff : s.heap.FunFrames (hideAll s.heap (framesOf (env :: l))) (env :: l)) (hzl : ∀ L' ∈ framesOf l, Z L' = none ∧ H L' = none ∧ G.base.get? L' = none ∧ L' ≠ env.locals)
    (hfn : FnEm G n fa [d] "TypeError" msg) (hkeep : keepIn G.K (.ref fa) = true) (hg : nsIn G.K mainGlobals "_raise_serialization_error" = some (some (.ref fa))) (hkg : env.kindOf "_raise_serialization_error" = some .globalImplicit)
    (hTE : nsIn G.K mainGlobals "TypeError" = some none) (hkTE : env.kindOf "TypeError" = some .globalImplicit) (hS : nsIn G.K mainGlobals "str" = some none) (hkS : env.kindOf "str" = some .globalImplicit) (hke : env.kindOf "error" = some .local) :
    wpAny (model G.prog G.w) A (execs (.Try [.Expr (.Call (.Name "_raise_serialization_error" fp) [.Name "thing" ap] [] cp) ep] [.ExceptHandler (some (.Name "TypeError" np)) (some "error") [.Return (some (.Call (.Name "str" sp) [.Name "error" xp] [] scp)) rp] hp] [] [] tpos :: rest) env)
      (fun f s' => ∃ tk, f = .ret (.str msg tk) ∧ Back (env.locals :: framesOf l) (framesOf l) s s') (fun _ _ => False) s := by
  have hfl : framesOf (env :: l) = env.locals :: framesOf l := by simp [framesOf, hloc]
  have lbase : G.base.get? env.locals = none := by
    cases q : G.base.get? env.locals with
    | none => rfl
    | some o =>
      rcases S.bas _ _ q with h | h
      · rw [S.lz] at h; cases h
      · rw [S.lh] at h; cases h
  refine wpAny_execs_cons (wpAny_Try_except (wpAny_execs_cons (wpAny_Expr ?_ (hi := hi))))
  rw [eval_call rfl]
  refine wpAny_bind (Calls.Name_function_global S.fk hkg (Calls.loadGlobal_global (by rw [S.gl]; exact S.T.g) (mg_of G.X G.T.g hg) ?_) (by decide))
  refine callWith_of (P := fun h => G.K.In h) (by rw [starred_none (env := env) rfl]; rfl) (keeps_K hkeep) (wp_evalArgs (starred_none rfl cp) (spliced_more (name_run S hx (by decide) fun v r => spliced_none ⟨S.X, ?_⟩) rfl))
  refine wpAny_mono (hfn.run A Z s [v] (env :: l) R.x R.handled S.bs (.cons r .nil) hfr hff (fun L' hL' => ?_)) (fun _ _ q => q.elim) fun e s₃ ⟨ea, t, tk, ee, hfly, htup, hup, hgn, hos, htk⟩ => ?_
  · rw [hfl] at hL'
    rcases List.mem_cons.mp hL' with rfl | hL'
    · exact ⟨S.lz, lbase⟩
    · exact ⟨(hzl L' hL').1, (hzl L' hL').2.2.1⟩
  subst ee
  refine wpAny_looks_onW hfr hloc hfly fun h₄ hheld₄ hsm₄ => ?_
  refine wpAny_landsW hheld₄ fun h₅ hfly₅ hsm₅ => ?_
  have up5 : s₃.heap.UpToSlots h₅ := hsm₄.trans hsm₅
  have T₅ : TopRead G.p G.loose G.mg G.mb h₅ := G.T.keeps fun b o e => hfly₅.1 b o (hideAll_get _ (S.keepBase b o e) (by
    rw [hfl]
    intro z
    rcases List.mem_cons.mp z with z | z
    · rw [z, lbase] at e; cases e
    · rw [(hzl b z).2.2.1] at e; cases e))
  have nameB : ∀ {x : Str} {w : Value} {h' : Heap} {k' : Nat} {p : Pos} {A' : Around} {Q : Value → Shared → Prop} {E' : Value → Shared → Prop}, TopRead G.p G.loose G.mg G.mb h' → nsIn G.K mainGlobals x = some none → bootBuiltins x = some w → x ≠ "__name__" → env.kindOf x = some .globalImplicit → (x == ("__debug__" : Str)) = false → Q w { s₃ with heap := h', toks := k' } →
      wpAny (model G.prog G.w) A' (eval (.Name x p) env) Q E' { s₃ with heap := h', toks := k' } := by
    intro x w h' k' p A' Q E' T' h1 h2 h3 h4 h5 h6
    exact Calls.Name_function_global S.fk h4 (Calls.loadGlobal_builtin (by rw [S.gl]; exact T'.g) (mg_none_of G.X G.T.g h1) (by rw [S.bl]; exact T'.b) ((G.T.builtins x h3).trans h2) h6) h5
  obtain ⟨ob, hob, hobc⟩ := hfly₅.there
  refine wpAny_handleBy_builtin_as (X := "TypeError") (T := "TypeError") (b := true) (by rw [isSubtype_type]; kernel_rfl) (by rw [isSubtype_type]; kernel_rfl) (by rw [isSubtype_type]; kernel_rfl) (nameB (k' := s₃.toks) T₅ hTE rfl (by decide) hkTE (by decide) ⟨rfl, ⟨ob, hob, hobc⟩, ?_⟩)
  rw [if_pos rfl]
  refine lands_againW hfly₅ fun h₆ hfly₆ hsm₆ => ?_
  obtain ⟨m₀, hns₀⟩ := S.ns
  have hns₆ : h₆.Ns env.locals m₀ := ((hup.trans up5).trans hsm₆).ns hns₀
  have htup₆ : h₆.TupAt t [.str msg tk] := (htup.of_slots up5).of_slots hsm₆
  have hp : (env.scope.kind == .class || (env.scope.kind == .module && env.locals != env.globals)) = false := by rw [S.fk]; rfl
  refine wpAny_storeName_local (s := { s₃ with heap := h₆ }) hke hns₆ (fun h₇ hn₇ hs₇ => ?_) hp
  have notL : ∀ b o, h₆.get? b = some o → (∀ es n, o.data ≠ .dict es n) → b ≠ env.locals := fun b o e hd z => by
    obtain ⟨oL, es, ep, e1, e2, _⟩ := hns₆
    rw [z, e1] at e; cases e
    exact hd _ _ e2
  have T₇ : TopRead G.p G.loose G.mg G.mb h₇ := G.T.keeps fun b o e => by
    have hb : b ≠ env.locals := fun z => by rw [z, lbase] at e; cases e
    refine (hs₇.2 b hb).trans (hfly₆.1 b o (hideAll_get _ (S.keepBase b o e) ?_))
    rw [hfl]
    intro z
    rcases List.mem_cons.mp z with z | z
    · exact hb z
    · rw [(hzl b z).2.2.1] at e; cases e
  obtain ⟨oe, evs, he6, hec6, hed6, he06⟩ := hfly₆.first
  have hne : ea ≠ env.locals := notL ea oe he6 fun es n q => by rw [hed6] at q; cases q
  obtain ⟨ot, nt, ht6, htc6, htd6⟩ := id htup₆
  have hnt : t ≠ env.locals := notL t ot ht6 fun es n q => by rw [htd6] at q; cases q
  refine wpAny_execs_cons (wpAny_Return_some ?_)
  rw [eval_call rfl]
  refine wpAny_bind (nameB T₇ hS (by rfl : bootBuiltins "str" = some (.type "str")) (by decide) hkS (by decide) ?_)
  refine callWith_excType (starred_none rfl scp) (wp_evalArgs (starred_none rfl scp) (spliced_more (wpAny_Name (wpAny_loadName_local S.fk hke hn₇ (if_pos rfl) (spliced_none ?_)) (by decide)) rfl))
  refine P.str_of_exc_one F.excStr_TypeError (by have := R.units; show A.units + 2 < _; omega) ⟨oe, evs, (hs₇.2 ea hne).trans he6, hec6, hed6, he06⟩ ⟨ot, nt, (hs₇.2 t hnt).trans ht6, htc6, htd6⟩ ?_
  refine wpAny_nameGoes hke hn₇ hp fun h₈ m₈ hn₈ hs₈ => ?_
  refine ⟨tk, rfl, ⟨fun b o hb e => ?_, fun L' hL' o e hd => ?_, hgn, hos, ?_⟩⟩
  · have hbl : b ≠ env.locals := fun z => hb (by rw [z]; exact .head _)
    refine (hs₈.2 b hbl).trans ((hs₇.2 b hbl).trans (hfly₆.1 b o (hideAll_get _ e (by rw [hfl]; exact hb))))
  · obtain ⟨sl, h1⟩ := ((hup.trans up5).trans hsm₆) L' o e hd
    have hLl := (hzl L' hL').2.2.2
    exact ⟨sl, (hs₈.2 L' hLl).trans ((hs₇.2 L' hLl).trans h1)⟩
  · show s.toks ≤ s₃.toks + 1 + 1
    omega
end
end
section
open PySem PySem.W PyProof.Rows
set_option linter.unusedVariables false
set_option maxRecDepth 100000
section
variable {G : Gnd} {env : Env} {Z Z' H H' H₀ : Zf} {ρ ρ' : Loc} {s s' : Shared} {A : Around} {E : Value → Shared → Prop} {n : Nat} {pos apos : Pos}
/-- a call of a def that catches within, at a frame that stands alone -/
theorem wordsCall {f x : Str} {fa : Addr} {d : D} {msg : Str} {fp ap : Pos} {Q : Value → Shared → Prop} (hfr : A.frames = some [env]) (hloc : env.frame = some env.locals) (hm : env.scope.kind ≠ .module) (R : Room n A) (S : St G env Z H ρ s) (hx : ρ.lookup x = some (B.val d)) (hdx : (x == ("__debug__" : Str)) = false) (hdf : (f == ("__debug__" : Str)) = false)
    (hfn : FnWd G n fa [d] msg) (hkeep : keepIn G.K (.ref fa) = true) (hg : nsIn G.K mainGlobals f = some (some (.ref fa))) (hkg : env.kindOf f = some .globalImplicit)
    (h : ∀ tk s', St G env Z H ρ s' → Q (.str msg tk) s') :
    wpAny (model G.prog G.w) A (eval (.Call (.Name f fp) [.Name x ap] [] pos) env) Q (fun _ _ => False) s := by
  rw [eval_call rfl]
  refine wpAny_bind (Calls.Name_function_global S.fk hkg (Calls.loadGlobal_global (by rw [S.gl]; exact S.T.g) (mg_of G.X G.T.g hg) ?_) hdf)
  refine callWith_of (P := fun h => G.K.In h) (by rw [starred_none (env := env) rfl]; rfl) (keeps_K hkeep) (wp_evalArgs (starred_none rfl pos) (spliced_more (nameH S hx hdx fun v r => spliced_none ⟨S.X, ?_⟩) rfl))
  have hfl : framesOf [env] = [env.locals] := hide_one s.heap env _ hloc
  have lbase : G.base.get? env.locals = none := by
    cases q : G.base.get? env.locals with
    | none => rfl
    | some o =>
      rcases S.bas _ _ q with h | h
      · rw [S.lz] at h; cases h
      · rw [S.lh] at h; cases h
  obtain ⟨m₀, oL, esL, epL, hoL, hdL, hrestL⟩ := S.ns
  refine wp_seq (hfn.run A Z s [v] [env] R S.bs (.cons r .nil) hfr ⟨hm, ⟨env.locals, oL, hloc, hideAll_none _ (by rw [hfl]; simp), hoL, fun vs q => by rw [hdL] at q; cases q⟩, trivial⟩ (fun L hL => by rw [hfl, List.mem_singleton] at hL; subst hL; exact ⟨S.lz, lbase⟩)) fun v s₁ ⟨tk, ev, B⟩ => ?_
  subst ev
  rw [hfl] at B
  refine h tk s₁ (S.slots (fun a o ha e => B.stay a o (by simpa using ha) e) (fun m hns => ?_) B.gens B.os B.tk)
  obtain ⟨o, es, ep, e1, e2, e3⟩ := hns
  obtain ⟨sl, e4⟩ := B.slots env.locals (.head _) o e1 fun vs q => by rw [e2] at q; cases q
  exact ⟨_, es, ep, e4, e2, e3⟩
/-- a test that looks at a held list -/
theorem tstL {x : Str} {e : PySem.Expr} {a : Addr} {vs : List Value} {ds : List D} {k : Nat} {c : Bool} {Q : Bool → Shared → Prop} (S : St G env Z H ρ s) (R : Room n A) (hx : ρ.lookup x = some (.val (.fn a))) (ha : H a = some (listOf vs.toArray k)) (hB : G.base.get? a = none) (hc : env.cells = []) (r : RepAll G Z vs ds)
    (h : Tst G env n (upd ρ x (.val (.list ds))) e c) (q : ∀ s', St G env Z H ρ s' → Q c s') : wpAny (model G.prog G.w) A (isTrue e env (eval e env)) Q (fun _ _ => False) s := by
  obtain ⟨le, S₁⟩ := S.toZ ha hB hc
  exact tstH S (S₁.reval hx fun v rv => by cases rv; exact .list Zadd.self (r.mono le)) h R q
/-- x[0], x a held list -/
theorem firstH {x : Str} {p q2 : Pos} {a : Addr} {vs : List Value} {y : Value} {k : Nat} {Q : Value → Shared → Prop} {i : PySem.Expr} (S : St G env Z H ρ s) (hx : ρ.lookup x = some (.val (.fn a))) (ha : H a = some (listOf (y :: vs).toArray k)) (hd : (x == ("__debug__" : Str)) = false)
    (hi : Ev G env n ρ i (.int 0)) (R : Room n A)
    (h : ∀ s', St G env Z H ρ s' → Q y s') : wpAny (model G.prog G.w) A (eval (.Subscript (.Name x p) i q2) env) Q (fun _ _ => False) s := by
  refine Subscript_ (nameH S hx hd fun v r => ?_)
  cases r
  refine wp_seq (hi.run A Z H s R S) fun iv s₁ ⟨Z₁, x₁, r₁⟩ => ?_
  cases r₁
  have S₁ := S.ext (x₁.back S.zin)
  have ho := S₁.hin _ _ ha
  exact tail_all (G := G) (T := "list") (isList_of ho).typeIs slot_list_getitem.lookup (wpAny_getItem_list (isList_of ho) (by decide) (by decide) (x := y) (by simp) (h _ S₁))
/-- x[-1][j], where x[-1] is a tuple that stands -/
theorem lastTupH {x : Str} {p q2 q3 : Pos} {a : Addr} {vs : List Value} {y : Value} {ds : List D} {d : D} {jj : Nat} {k : Nat} {Q : Value → Shared → Prop} {i j : PySem.Expr} (S : St G env Z H ρ s) (hx : ρ.lookup x = some (.val (.fn a))) (ha : H a = some (listOf (vs ++ [y]).toArray k)) (hy : Rep G Z y (.tup ds)) (hd : (x == ("__debug__" : Str)) = false)
    (hi : Ev G env n ρ i (.int (-1))) (hj : Ev G env n ρ j (.int (jj : Int))) (hjj : jj < 100) (hdj : ds[jj]? = some d) (R : Room n A)
    (h : ∀ v s', Rep G Z v d → St G env Z H ρ s' → Q v s') : wpAny (model G.prog G.w) A (eval (.Subscript (.Subscript (.Name x p) i q2) j q3) env) Q (fun _ _ => False) s := by
  refine Subscript_ (lastH S hx ha hd hi R fun s₁ S₁ x₁ => ?_)
  refine wp_seq (hj.run A Z H s₁ R S₁) fun iv s₂ ⟨Z₂, x₂, r₂⟩ => ?_
  have x₂' := x₂.back S₁.zin
  have S₂ := S₁.ext x₂'
  cases r₂ with
  | int _ t =>
    cases hy with
    | @tup b us m _ hz ra =>
      obtain ⟨v, hv, rv⟩ := ra.get hdj
      have hl : IsTup s₂.heap _ _ := isTuple_of (S₂.zin _ _ hz)
      have hlt : jj < us.length := (List.getElem?_eq_some_iff.mp hv).1
      exact tail_all (G := G) (T := "tuple") hl.typeIs slot_tuple_getitem.lookup (getItem_tuple (j := jj) hl (by omega) (by omega) (by unfold seqIndex?; simp; omega) (by simpa using hv) (h v _ rv S₂))
end
end
section
open PySem PySem.W PyProof.Rows
set_option linter.unusedVariables false
set_option maxRecDepth 100000
def kn : Nat → Str
  | 0 => "list"
  | 1 => "tuple"
  | _ => "dict"
def wrap : Nat → List Th → Th
  | 0, l => .lst l
  | 1, l => .tup l
  | _, l => .dct l
theorem wrap_dth (kd : Nat) (l : List Th) : dth (wrap kd l) = dths l + 1 := by
  unfold wrap; split <;> rw [dth]
theorem wrap_sz (kd : Nat) (l : List Th) : sz (wrap kd l) = szs l + 1 := by
  unfold wrap; split <;> rw [sz]
theorem wrap_ok (kd : Nat) {l : List Th} (h : okTs l) (hl : l.length ≤ 100) : okT (wrap kd l) := by
  unfold wrap; split <;> rw [okT]
  · exact h
  · exact h
  · exact ⟨h, hl⟩
def okSt : List (Nat × List Th) → Prop
  | [] => True
  | (_, l) :: r => okTs l ∧ dths l + r.length ≤ 4 ∧ okSt r
def szSt : List (Nat × List Th) → Nat
  | [] => 0
  | (_, l) :: r => szs l + 1 + szSt r
section
variable {G : Gnd} {Z Z' H H' : Zf}
/-- what is begun and not ended, the last first -/
inductive Stk (G : Gnd) (Z H : Zf) : List Value → List (Nat × List Th) → List Addr → Prop
  | nil : Stk G Z H [] [] []
  | cons {vs us ws : List Value} {st : List (Nat × List Th)} {own : List Addr} {v : Value} {kd : Nat} {l : List Th} {p q : Addr} {k m : Nat} : Stk G Z H vs st own → Rep G Z v (.tup [.str (kn kd), .fn p, .fn q]) →
      H p = some (listOf us.toArray k) → RepAll G Z us (thDs l) → H q = some (listOf ws.toArray m) → RepAll G Z ws (txs ((txts l).map T)) → Stk G Z H (v :: vs) ((kd, l) :: st) (p :: q :: own)
theorem Stk.mono {vs : List Value} {st : List (Nat × List Th)} {own : List Addr} (x : Stk G Z H vs st own) (le : Zle Z Z') (hH : ∀ J ∈ own, H' J = H J) : Stk G Z' H' vs st own := by
  induction x with
  | nil => exact .nil
  | cons x h1 h2 h3 h4 h5 ih => exact .cons (ih fun J hJ => hH J (.tail _ (.tail _ hJ))) (h1.mono le) ((hH _ (.head _)).trans h2) (h3.mono le) ((hH _ (.tail _ (.head _))).trans h4) (h5.mono le)
theorem Stk.some {vs : List Value} {st : List (Nat × List Th)} {own : List Addr} (x : Stk G Z H vs st own) : ∀ J ∈ own, ∃ o, H J = some o := by
  induction x with
  | nil => intro J hJ; cases hJ
  | cons x h1 h2 h3 h4 h5 ih =>
    intro J hJ
    rcases List.mem_cons.mp hJ with rfl | hJ
    · exact ⟨_, h2⟩
    · rcases List.mem_cons.mp hJ with rfl | hJ
      · exact ⟨_, h4⟩
      · exact ih J hJ
theorem Stk.len {vs : List Value} {st : List (Nat × List Th)} {own : List Addr} (x : Stk G Z H vs st own) : vs.length = st.length := by
  induction x with
  | nil => rfl
  | cons x h1 h2 h3 h4 h5 ih => rw [List.length_cons, List.length_cons, ih]
theorem Stk.reps {vs : List Value} {st : List (Nat × List Th)} {own : List Addr} (x : Stk G Z H vs st own) : ∃ ds, ds.length = st.length ∧ RepAll G Z vs ds := by
  induction x with
  | nil => exact ⟨[], rfl, .nil⟩
  | cons x h1 h2 h3 h4 h5 ih => obtain ⟨ds, e, r⟩ := ih; exact ⟨_ :: ds, by rw [List.length_cons, List.length_cons, e], .cons h1 r⟩
theorem Stk.bottom {vs : List Value} {st : List (Nat × List Th)} {own : List Addr} (x : Stk G Z H vs st own) (hne : st ≠ []) : ∃ y ys kd l p q us ws k m, vs.reverse = y :: ys ∧ (kd, l) ∈ st ∧ p ∈ own ∧ q ∈ own ∧ (own.Nodup → p ≠ q) ∧ Rep G Z y (.tup [.str (kn kd), .fn p, .fn q]) ∧
    H p = Option.some (listOf us.toArray k) ∧ RepAll G Z us (thDs l) ∧ H q = Option.some (listOf ws.toArray m) ∧ RepAll G Z ws (txs ((txts l).map T)) := by
  induction x with
  | nil => exact absurd rfl hne
  | @cons vs us ws st own v kd l p q k m x h1 h2 h3 h4 h5 ih =>
    cases st with
    | nil =>
      cases x
      exact ⟨v, [], kd, l, p, q, us, ws, k, m, rfl, .head _, .head _, .tail _ (.head _), fun h => by rw [List.nodup_cons] at h; exact fun z => h.1 (z ▸ .head _), h1, h2, h3, h4, h5⟩
    | cons a r =>
      obtain ⟨y, ys, kd', l', p', q', us', ws', k', m', e, g1, g2, g3, g4, g5⟩ := ih (by simp)
      refine ⟨y, ys ++ [v], kd', l', p', q', us', ws', k', m', by rw [List.reverse_cons, e]; rfl, .tail _ g1, .tail _ (.tail _ g2), .tail _ (.tail _ g3), fun h => ?_, g5⟩
      rw [List.nodup_cons, List.nodup_cons] at h
      exact g4 h.2.2
theorem okSt_mem : ∀ {st : List (Nat × List Th)} {kd : Nat} {l : List Th}, okSt st → (kd, l) ∈ st → okTs l ∧ dths l ≤ 4 ∧ szs l ≤ szSt st
  | (_, l') :: r, kd, l, h, hm => by
    rw [okSt] at h
    rw [szSt]
    rcases List.mem_cons.mp hm with e | hm
    · cases e; exact ⟨h.1, by omega, by omega⟩
    · obtain ⟨a, b, c⟩ := okSt_mem h.2.2 hm
      exact ⟨a, b, by omega⟩
def PInv (G : Gnd) (b t u : Addr) (i : Nat) (Z H : Zf) (own : List Addr) : Prop :=
  ∃ st msgs vs sown mv mw kb kt ku, own = b :: t :: u :: sown ∧ own.Nodup ∧ Stk G Z H vs st sown ∧ H b = some (listOf vs.reverse.toArray kb) ∧ H t = some (listOf mv.toArray kt) ∧ RepAll G Z mv (txs msgs) ∧ H u = some (listOf mw.toArray ku) ∧ RepAll G Z mw (txs msgs) ∧
    st ≠ [] ∧ st.length ≤ 5 ∧ okSt st ∧ szSt st ≤ i + 1 ∧ msgs.length ≤ i
theorem PInv.loc {b t u : Addr} {i : Nat} {own : List Addr} (le : Zle Z Z') (hH : ∀ J ∈ own, H' J = H J) (h : PInv G b t u i Z H own) : PInv G b t u i Z' H' own := by
  obtain ⟨st, msgs, vs, sown, mv, mw, kb, kt, ku, rfl, hnd, hS, hb, ht, rt, hu, ru, h1⟩ := h
  exact ⟨st, msgs, vs, sown, mv, mw, kb, kt, ku, rfl, hnd, hS.mono le fun J hJ => hH J (.tail _ (.tail _ (.tail _ hJ))), (hH _ (.head _)).trans hb, (hH _ (.tail _ (.head _))).trans ht, rt.mono le, (hH _ (.tail _ (.tail _ (.head _)))).trans hu, ru.mono le, h1⟩
theorem PInv.some {b t u : Addr} {i : Nat} {own : List Addr} (h : PInv G b t u i Z H own) : ∀ J ∈ own, ∃ o, H J = some o := by
  obtain ⟨st, msgs, vs, sown, mv, mw, kb, kt, ku, rfl, hnd, hS, hb, ht, rt, hu, ru, h1⟩ := h
  intro J hJ
  rcases List.mem_cons.mp hJ with rfl | hJ
  · exact ⟨_, hb⟩
  rcases List.mem_cons.mp hJ with rfl | hJ
  · exact ⟨_, ht⟩
  rcases List.mem_cons.mp hJ with rfl | hJ
  · exact ⟨_, hu⟩
  exact hS.some J hJ
end
section
variable {G : Gnd} {n : Nat} {doc pm cdv ct : Value} {a : Addr}
set_option maxHeartbeats 4000000
abbrev env9 (doc pm cdv ct : Value) (L a : Addr) : Env := callEnvC (fdOf (stOf pw 9) doc pm cdv ct) L a
def msg01 (t : Th) : Str := words (T (txt t)) (Str.ofString (tyN t))
theorem msg_eq (t : Th) : msg01 t = ((((("cannot serialize " : String) : Str) ++ T (txt t)) ++ ((" (type " : String) : Str)) ++ Str.ofString (tyN t)) ++ ((")" : String) : Str) := by
  unfold msg01 words
  have e : (Str.empty ++ (("cannot serialize " : String) : Str)) = (("cannot serialize " : String) : Str) := by decide +kernel
  rw [e]
theorem tyN_len (t : Th) : (Str.ofString (tyN t)).length ≤ 8 := by cases t <;> simp only [tyN] <;> decide +kernel
/-- told.append(_law_words(thing)) / due.append('cannot serialize ' + text + ' (type ' + name + ')') -/
theorem say01 {aw L t u : Addr} {Z H : Zf} {ρ : Loc} {s : Shared} {A : Around} {th : Th} {msgs : List Str} {mv mw : List Value} {kt ku : Nat} {rest : List Stmt} {Q : Flow → Shared → Prop} {p1 p2 p3 p4 p5 p6 q1 q2 q3 q4 q5 q6 q7 q8 q9 q10 q11 q12 q13 : Pos} {k1 k2 k3 : Nat}
    (hfr : A.frames = some [env9 doc pm cdv ct L a]) (R : Room n A) (gw : nsIn G.K mainGlobals "_law_words" = some (some (.ref aw))) (kw : keepIn G.K (.ref aw) = true) (fw : FnWd G n aw [thD th] (msg01 th))
    (S : St G (env9 doc pm cdv ct L a) Z H ρ s) (l1 : ρ.lookup ("told" : Str) = some (.val (.fn t))) (l2 : ρ.lookup ("due" : Str) = some (.val (.fn u))) (l3 : ρ.lookup ("thing" : Str) = some (.val (thD th))) (l4 : ρ.lookup ("text" : Str) = some (.val (.str (T (txt th))))) (l5 : ρ.lookup ("name" : Str) = some (.val (.str (Str.ofString (tyN th)))))
    (ht : H t = some (listOf mv.toArray kt)) (hu : H u = some (listOf mw.toArray ku)) (hne : t ≠ u) (hbt : G.base.get? t = none) (hbu : G.base.get? u = none) (rt : RepAll G Z mv (txs msgs)) (ru : RepAll G Z mw (txs msgs)) (hml : msgs.length ≤ 1000) (hok : okT th) (hsz : sz th ≤ 1000)
    (h1 : (p2.endLine == p5.line) = true) (h2 : (q2.endLine == q11.line) = true)
    (k : ∀ Z' s' mv' mw' kt' ku', Zle Z Z' → RepAll G Z' mv' (txs (msgs ++ [msg01 th])) → RepAll G Z' mw' (txs (msgs ++ [msg01 th])) → St G (env9 doc pm cdv ct L a) Z' (Zadd (Zadd H t (listOf mv'.toArray kt')) u (listOf mw'.toArray ku')) ρ s' → wpAny (model G.prog G.w) A (execs rest (env9 doc pm cdv ct L a)) Q (fun _ _ => False) s') :
    wpAny (model G.prog G.w) A (execs (.Expr (.Call (.Attribute (.Name "told" p1) "append" p2) [.Call (.Name "_law_words" p3) [.Name "thing" p4] [] p6] [] p5) q12 ::
      .Expr (.Call (.Attribute (.Name "due" q1) "append" q2) [.BinOp (.BinOp (.BinOp (.BinOp (.Constant (.str "cannot serialize ") k1 q3) .Add (.Name "text" q4) q5) .Add (.Constant (.str " (type ") k2 q6) q7) .Add (.Name "name" q8) q9) .Add (.Constant (.str ")") k3 q10) q13] [] q11) q11 :: rest) (env9 doc pm cdv ct L a)) Q (fun _ _ => False) s := by
  have big : 3000000 ≤ sizeLine := by decide
  have htl := txt_len th hok
  have hty := tyN_len th
  have c1 : (("cannot serialize " : String) : Str).length = 17 := by decide +kernel
  have c2 : ((" (type " : String) : Str).length = 7 := by decide +kernel
  have c3 : ((")" : String) : Str).length = 1 := by decide +kernel
  have hmt := rt.length
  have hmu := ru.length
  rw [txs, List.length_map] at hmt hmu
  refine wpAny_execs_cons (appendH S l1 ht hbt rfl rfl rfl h1 rfl (by omega) (wordsCall hfr rfl (by intro q; cases q) R S l3 rfl rfl fw kw gw rfl fun tk s₁ S₁ => ⟨Z, H, ht, S₁, fun s₂ k' S₂ => ?_⟩))
  refine wpAny_execs_cons (appendH (vs := mw) (k := ku) S₂ l2 (by rw [Zadd.ne (Ne.symm hne)]; exact hu) hbu rfl rfl rfl h2 rfl (by omega) (wp_seq ((?_ : Ev G _ n _ _ (.str (msg01 th))).run A Z _ s₂ R S₂) fun v s₃ ⟨Z₃, x₃, r₃⟩ => ⟨Z₃, _, by rw [Zadd.ne (Ne.symm hne)]; exact hu, S₂.ext x₃, fun s₄ k'' S₄ => k Z₃ s₄ _ _ k' k'' x₃.le ?_ ?_ S₄⟩))
  · rw [msg_eq]
    refine ev_binop (ev_binop (ev_binop (ev_binop ev_str (ev_name l4 rfl) (op_add_str ?_)) ev_str (op_add_str ?_)) (ev_name l5 rfl) (op_add_str ?_)) ev_str (op_add_str ?_)
    · rw [c1, T_length]; omega
    · rw [Str.length_append, c1, c2, T_length]; omega
    · rw [Str.length_append, Str.length_append, c1, c2, T_length]; omega
    · rw [Str.length_append, Str.length_append, Str.length_append, c1, c2, c3, T_length]; omega
  · rw [txs, List.map_append]
    exact (rt.mono x₃.le).append (.cons (.str _ _) .nil)
  · rw [txs, List.map_append]
    exact (ru.mono x₃.le).append (.cons r₃ .nil)
end
end
section
open PySem PySem.W PyProof.Rows
set_option linter.unusedVariables false
set_option maxRecDepth 100000
section
variable {G : Gnd} {n : Nat} {doc pm cdv ct : Value} {a : Addr}
set_option maxHeartbeats 4000000
abbrev body01 : List Stmt := match bodyOf (stOf pw 9) with | _ :: _ :: .For _ _ b _ _ :: _ => b | _ => []
def ρS (b t u : Addr) : Loc := [("standing", .val (.fn b)), ("told", .val (.fn t)), ("due", .val (.fn u))]
def Post1 (G : Gnd) (env : Env) (F : Zf) (b t u : Addr) (i : Nat) (Zc : Zf) (f : Flow) (s' : Shared) : Prop :=
  (f = .next ∨ f = .cont) ∧ ∃ Z' H' own' ρ', Zle Zc Z' ∧ (∀ a o, F a = some o → H' a = some o) ∧ (∀ J ∈ own', F J = none ∧ G.base.get? J = none) ∧ PInv G b t u (i + 1) Z' H' own' ∧ St G env Z' H' ρ' s' ∧ Sub (ρS b t u) ρ'
theorem dths_snoc (l : List Th) (t : Th) : dths (l ++ [t]) = max (dths l) (dth t) := by
  rw [dths_app, dths, dths]; omega
theorem szs_snoc (l : List Th) (t : Th) : szs (l ++ [t]) = szs l + sz t := by
  rw [szs_app, szs, szs]; omega
theorem okTs_snoc {l : List Th} {t : Th} (h : okTs l) (h' : okT t) : okTs (l ++ [t]) := okTs_app h (by rw [okTs, okTs]; exact ⟨h', trivial⟩)
theorem txts_app (x y : List Th) : txts (x ++ y) = txts x ++ txts y := by rw [txts_map, txts_map, txts_map, List.map_append]
/-- the rest of a turn, once a thing is had -/
theorem tail01 {aw L b t u : Addr} {i : Nat} {Zc Z H F₀ : Zf} {ρ : Loc} {s : Shared} {A : Around} {th : Th} {msgs : List Str} {st : List (Nat × List Th)} {vs mv mw : List Value} {sown : List Addr} {kb kt ku : Nat}
    (hfr : A.frames = some [env9 doc pm cdv ct L a]) (R : Room n A) (gw : nsIn G.K mainGlobals "_law_words" = some (some (.ref aw))) (kw : keepIn G.K (.ref aw) = true) (fw : ∀ th : Th, okT th → dth th ≤ 8 → sz th ≤ 1000 → FnWd G n aw [thD th] (msg01 th))
    (leZ : Zle Zc Z) (S : St G (env9 doc pm cdv ct L a) Z H ρ s) (hsub : Sub (ρS b t u) ρ) (l3 : ρ.lookup ("thing" : Str) = some (.val (thD th))) (l4 : ρ.lookup ("text" : Str) = some (.val (.str (T (txt th))))) (l5 : ρ.lookup ("name" : Str) = some (.val (.str (Str.ofString (tyN th)))))
    (hnd : (b :: t :: u :: sown).Nodup) (hS : Stk G Z H vs st sown) (hb : H b = some (listOf vs.reverse.toArray kb)) (ht : H t = some (listOf mv.toArray kt)) (rt : RepAll G Z mv (txs msgs)) (hu : H u = some (listOf mw.toArray ku)) (ru : RepAll G Z mw (txs msgs))
    (hF : ∀ a o, F₀ a = some o → H a = some o) (hown : ∀ J ∈ b :: t :: u :: sown, F₀ J = none ∧ G.base.get? J = none)
    (hne : st ≠ []) (hl5 : st.length ≤ 5) (hokS : okSt st) (hsz : szSt st + sz th ≤ i + 2) (hml : msgs.length ≤ i) (hi : i ≤ 100) (hok : okT th) (hd : dth th + st.length ≤ 5) :
    wpAny (model G.prog G.w) A (execs (body01.drop 3) (env9 doc pm cdv ct L a)) (Post1 G (env9 doc pm cdv ct L a) F₀ b t u i Zc) (fun _ _ => False) s := by
  have big : 100000 ≤ sizeLine := by decide
  have l0 : ρ.lookup ("standing" : Str) = some (.val (.fn b)) := hsub _ _ rfl
  have l1 : ρ.lookup ("told" : Str) = some (.val (.fn t)) := hsub _ _ rfl
  have l2 : ρ.lookup ("due" : Str) = some (.val (.fn u)) := hsub _ _ rfl
  cases hS with
  | nil => exact absurd rfl hne
  | @cons vs us ws st own v kd l p q k m hS hv hp rp hq rq =>
    rw [szSt] at hsz
    rw [okSt] at hokS
    rw [List.length_cons] at hd hl5
    have hbB := (hown b (by simp)).2
    have htB := (hown t (by simp)).2
    have huB := (hown u (by simp)).2
    have hpB := (hown p (by simp)).2
    have hqB := (hown q (by simp)).2
    have hnd' := hnd
    simp only [List.nodup_cons, List.mem_cons, not_or] at hnd'
    obtain ⟨⟨bt, bu, bp, bq, bo⟩, ⟨tu, tp, tq, to⟩, ⟨up, uq, uo⟩, ⟨pq, po⟩, qo, hndo⟩ := hnd'
    have hm1 : ∀ {ρ : Loc} {p q : Pos} {k : Nat}, Ev G (env9 doc pm cdv ct L a) n ρ (.UnaryOp .USub (.Constant (.int 1) k p) q) (.int (-1)) := ev_m1
    refine say01 hfr R gw kw (fw th hok (by omega) (by omega)) S l1 l2 l3 l4 l5 ht hu tu htB huB rt ru (by omega) hok (by omega) rfl rfl fun Z₃ s₃ mv' mw' kt' ku' le₃ rt' ru' S₃ => ?_
    have e3 : ∀ x, x ≠ t → x ≠ u → Zadd (Zadd H t (listOf mv'.toArray kt')) u (listOf mw'.toArray ku') x = H x := fun x h1 h2 => by rw [Zadd.ne h2, Zadd.ne h1]
    have et : Zadd (Zadd H t (listOf mv'.toArray kt')) u (listOf mw'.toArray ku') t = some (listOf mv'.toArray kt') := by rw [Zadd.ne tu]; exact Zadd.self
    have eu : Zadd (Zadd H t (listOf mv'.toArray kt')) u (listOf mw'.toArray ku') u = some (listOf mw'.toArray ku') := Zadd.self
    generalize Zadd (Zadd H t (listOf mv'.toArray kt')) u (listOf mw'.toArray ku') = H₃ at S₃ e3 et eu
    have hul : us.length ≤ 1000 := by
      have := rp.length
      rw [thDs_map, List.length_map] at this
      have := szs_len l
      omega
    have hwl : ws.length ≤ 1000 := by
      have := rq.length
      rw [txs, List.length_map, List.length_map, txts_map, List.length_map] at this
      have := szs_len l
      omega
    have hp₃ : H₃ p = some (listOf us.toArray k) := (e3 p (Ne.symm tp) (Ne.symm up)).trans hp
    have hb₃ : H₃ b = some (listOf (vs.reverse ++ [v]).toArray kb) := by rw [e3 b bt bu, hb, List.reverse_cons]
    refine wpAny_execs_cons (appendO (a := p) (vs := us) (k := k) hp₃ hpB rfl rfl rfl rfl rfl (by omega) (lastTupH (ds := [.str (kn kd), .fn p, .fn q]) (jj := 1) S₃ l0 hb₃ (hv.mono le₃) rfl hm1 ev_int (by decide) rfl R fun v' s₄ rv S₄ => ⟨by cases rv; rfl, S₄, nameH S₄ l3 rfl fun w rw₁ => ⟨Z₃, H₃, hp₃, S₄, fun s₅ k₅ S₅ => ?_⟩⟩))
    have hq₅ : Zadd H₃ p (listOf (us ++ [w]).toArray k₅) q = some (listOf ws.toArray m) := by rw [Zadd.ne (Ne.symm pq)]; exact (e3 q (Ne.symm tq) (Ne.symm uq)).trans hq
    have hb₅ : Zadd H₃ p (listOf (us ++ [w]).toArray k₅) b = some (listOf (vs.reverse ++ [v]).toArray kb) := by rw [Zadd.ne bp]; exact hb₃
    refine wpAny_execs_cons (appendO (a := q) (vs := ws) (k := m) hq₅ hqB rfl rfl rfl rfl rfl (by omega) (lastTupH (ds := [.str (kn kd), .fn p, .fn q]) (jj := 2) S₅ l0 hb₅ (hv.mono le₃) rfl hm1 ev_int (by decide) rfl R fun v' s₆ rv S₆ => ⟨by cases rv; rfl, S₆, nameH S₆ l4 rfl fun w₂ rw₂ => ⟨Z₃, _, hq₅, S₆, fun s₇ k₇ S₇ => ?_⟩⟩))
    refine wpAny_execs_nil ⟨.inl rfl, Z₃, _, b :: t :: u :: p :: q :: own, ρ, leZ.trans le₃, fun x o e => ?_, hown, ?_, S₇, hsub⟩
    · have hx : ∀ J ∈ b :: t :: u :: p :: q :: own, x ≠ J := fun J hJ z => by have := (hown J hJ).1; rw [← z, e] at this; cases this
      rw [Zadd.ne (hx q (by simp)), Zadd.ne (hx p (by simp)), e3 x (hx t (by simp)) (hx u (by simp))]
      exact hF x o e
    · refine ⟨(kd, l ++ [th]) :: st, msgs ++ [msg01 th], v :: vs, p :: q :: own, mv', mw', kb, kt', ku', rfl, hnd, .cons (us := us ++ [w]) (ws := ws ++ [w₂]) (k := k₅) (m := k₇) (hS.mono le₃ fun J hJ => ?_) (hv.mono le₃) ?_ ?_ Zadd.self ?_, ?_, ?_, rt', ?_, ru', by simp, by rw [List.length_cons]; exact hl5, ?_, ?_, ?_⟩
      · have jp : J ≠ p := fun z => po (z ▸ hJ)
        have jq : J ≠ q := fun z => qo (z ▸ hJ)
        have jt : J ≠ t := fun z => to (z ▸ hJ)
        have ju : J ≠ u := fun z => uo (z ▸ hJ)
        rw [Zadd.ne jq, Zadd.ne jp, e3 J jt ju]
      · rw [Zadd.ne pq]; exact Zadd.self
      · rw [thDs_app, thDs, thDs]
        exact (rp.mono le₃).append (.cons rw₁ .nil)
      · rw [txts_app, txts, txts, List.map_append, txs, List.map_append]
        exact (rq.mono le₃).append (.cons rw₂ .nil)
      · rw [Zadd.ne bq, hb₅, List.reverse_cons]
      · rw [Zadd.ne tq, Zadd.ne tp]; exact et
      · rw [Zadd.ne uq, Zadd.ne up]; exact eu
      · rw [okSt, dths_snoc]
        exact ⟨okTs_snoc hokS.1 hok, by omega, hokS.2.2⟩
      · rw [szSt, szs_snoc]; omega
      · rw [List.length_append, List.length_singleton]; omega
end
end
section
open PySem PySem.W PyProof.Rows
set_option linter.unusedVariables false
set_option maxRecDepth 100000
section
variable {G : Gnd} {n : Nat} {doc pm cdv ct : Value} {a : Addr}
set_option maxHeartbeats 4000000
theorem fresh_of {H : Zf} {q : Addr} {own : List Addr} (hq : H q = none) (hs : ∀ J ∈ own, ∃ o, H J = some o) : q ∉ own := fun h => by
  obtain ⟨o, e⟩ := hs q h
  rw [hq] at e; cases e
theorem turn01 {aw ae al L b t u : Addr} {i : Nat} {Zc Hc F₀ : Zf} {s : Shared} {A : Around} {x : Int} {own : List Addr}
    (hfr : A.frames = some [env9 doc pm cdv ct L a]) (R : Room n A) (hlen : nsIn G.K mainGlobals "len" = some none)
    (gw : nsIn G.K mainGlobals "_law_words" = some (some (.ref aw))) (kw : keepIn G.K (.ref aw) = true) (fw : ∀ th : Th, okT th → dth th ≤ 8 → sz th ≤ 1000 → FnWd G n aw [thD th] (msg01 th))
    (ge : nsIn G.K mainGlobals "_law_ended" = some (some (.ref ae))) (ke : keepIn G.K (.ref ae) = true) (fe : ∀ (kd : Nat) (l : List Th), okTs l → szs l ≤ 100 → Fn G n ae [.str (kn kd), .list (thDs l), .list (txs ((txts l).map T))] (tri (wrap kd l)))
    (gl : nsIn G.K mainGlobals "_law_leaf" = some (some (.ref al))) (kl : keepIn G.K (.ref al) = true) (fl : ∀ kind y : Int, Fn G n al [.int kind, .int y] (tri (leaf01 kind y)))
    (hF : ∀ a o, F₀ a = some o → Hc a = some o) (hown : ∀ J ∈ own, F₀ J = none ∧ G.base.get? J = none) (hP : PInv G b t u i Zc Hc own) (hi : i ≤ 90) (Sc : St G (env9 doc pm cdv ct L a) Zc Hc (upd (ρS b t u) "x" (.val (.int x))) s) :
    wpAny (model G.prog G.w) A (execs body01 (env9 doc pm cdv ct L a)) (Post1 G (env9 doc pm cdv ct L a) F₀ b t u i Zc) (fun _ _ => False) s := by
  have big : 100000 ≤ sizeLine := by decide
  have hsome := hP.some
  obtain ⟨st, msgs, vs, sown, mv, mw, kb, kt, ku, rfl, hnd, hS, hb, ht, rt, hu, ru, hne, hl5, hokS, hszS, hml⟩ := hP
  have hbB := (hown b (by simp)).2
  have hmb := fmod_bounds (a := x) (m := 8) (by decide)
  -- kind, y
  refine wpAny_execs_cons (wp_seq ((ex_assign_swap (n := n) (xs := ["kind", "y"]) (ds := [.int (x.fmod 8), .int (x.fdiv 8)]) (Φ := fun fl ρ' => fl = .next ∧ ρ' = updAll (upd (ρS b t u) "x" (.val (.int x))) ["y", "kind"] [.int (x.fdiv 8), .int (x.fmod 8)])
    (ev_tuple (evs_more (ev_binop (ev_name rfl rfl) ev_int (op_mod_int (by decide))) (evs_more (ev_binop (ev_name rfl rfl) ev_int (op_fdiv_int (by decide) (PyProof.noPylong_of_log2 (by decide +kernel)))) evs_nil rfl) rfl) (by show 2 ≤ sizeLine; decide)) rfl (fun z hz => ?_) rfl rfl ⟨rfl, rfl⟩).run A Zc Hc s R Sc) fun f s₁ ⟨Z₁, ρ₁, fll, le₁, S₁, hf, hfl, hρ⟩ => ?_)
  · simp only [List.mem_cons, List.not_mem_nil, or_false] at hz
    rcases hz with rfl | rfl <;> exact .inl rfl
  subst hfl hρ
  cases hf
  have hS₁ := hS.mono (H' := Hc) le₁ fun _ _ => rfl
  obtain ⟨ds, hdl, hds⟩ := hS₁.reps
  have hdr := hds.rev
  have hdl' : ds.reverse.length = st.length := by rw [List.length_reverse, hdl]
  have hvl := hS.len
  have rt₁ := rt.mono le₁
  have ru₁ := ru.mono le₁
  -- a new one begins
  refine wpAny_execs_cons (wpAny_If (tstL (n := n) (x := "standing") S₁ R rfl hb hbB rfl hdr (c := decide (x.fmod 8 < 3) && (decide (((ds.reverse.length : Nat) : Int) < 5) && true)) (tst_and (tst_cmp (ev_name rfl rfl) ev_int op_lt_int rfl) fun _ => tst_and (tst_cmp (ev_lenL (ev_name rfl rfl) (by omega) hlen rfl rfl) ev_int op_lt_int rfl) fun _ => tst_and_nil) fun s₂ S₂ => ?_))
  rw [hdl']
  by_cases h1 : (decide (x.fmod 8 < 3) && (decide (((st.length : Nat) : Int) < 5) && true)) = true
  · rw [if_pos h1]
    simp only [Bool.and_true, Bool.and_eq_true, decide_eq_true_eq] at h1
    refine wpAny_execs_cons (appendH S₂ rfl hb hbB rfl rfl rfl rfl rfl (by rw [List.length_reverse]; omega) (tripleH (x := kn (x.fmod 8).toNat) S₂ R (ev_sub (ev_list (ds := [.str "list", .str "tuple", .str "dict"]) (evs_more ev_str (evs_more ev_str (evs_more ev_str evs_nil rfl) rfl) rfl) (by show 3 ≤ sizeLine; decide)) (ev_name rfl rfl) (sb_list hmb.1 (by omega) ?_)) rfl fun v q1 q2 Z₃ s₃ le₃ rv hq1 hq2 hqq hB1 hB2 S₃ => ⟨Z₃, _, ?_, S₃, fun s₄ k' S₄ => ?_⟩))
    · have : (x.fmod 8).toNat = 0 ∨ (x.fmod 8).toNat = 1 ∨ (x.fmod 8).toNat = 2 := by omega
      rcases this with q | q | q <;> rw [q] <;> rfl
    · have h2 : b ≠ q1 := fun z => by rw [← z, hb] at hq1; cases hq1
      have h3 : b ≠ q2 := fun z => by rw [← z, hb] at hq2; cases hq2
      rw [Zadd.ne h3, Zadd.ne h2]; exact hb
    have f1 := fresh_of hq1 hsome
    have f2 := fresh_of hq2 hsome
    have n1 : ∀ J ∈ b :: t :: u :: sown, J ≠ q1 := fun J hJ z => f1 (z ▸ hJ)
    have n2 : ∀ J ∈ b :: t :: u :: sown, J ≠ q2 := fun J hJ z => f2 (z ▸ hJ)
    have hnd' := hnd
    simp only [List.nodup_cons, List.mem_cons, not_or] at hnd'
    obtain ⟨⟨bt, bu, bo⟩, ⟨tu, to⟩, uo, hndo⟩ := hnd'
    refine wpAny_execs_cons (wpAny_Continue ⟨.inr rfl, Z₃, _, b :: t :: u :: q1 :: q2 :: sown, _, le₁.trans le₃, fun x o e => ?_, fun J hJ => ?_, ⟨(_, []) :: st, msgs, v :: vs, q1 :: q2 :: sown, mv, mw, k', kt, ku, rfl, ?_, .cons (us := []) (ws := []) (k := 0) (m := 0) (hS₁.mono le₃ fun J hJ => ?_) rv ?_ (by rw [thDs]; exact .nil) ?_ (by rw [txts]; exact .nil), ?_, ?_, rt₁.mono le₃, ?_, ru₁.mono le₃, by simp, by rw [List.length_cons]; omega, ?_, ?_, by omega⟩, S₄, sub_cons rfl (sub_cons rfl (sub_cons rfl sub_nil))⟩)
    · have xb : x ≠ b := fun z => by have := (hown b (by simp)).1; rw [← z, e] at this; cases this
      have x1 : x ≠ q1 := fun z => by have := hF x o e; rw [z, hq1] at this; cases this
      have x2 : x ≠ q2 := fun z => by have := hF x o e; rw [z, hq2] at this; cases this
      rw [Zadd.ne xb, Zadd.ne x2, Zadd.ne x1]; exact hF x o e
    · have hFn : ∀ q, Hc q = none → F₀ q = none := fun q h => by
        cases z : F₀ q with
        | none => rfl
        | some o => rw [hF q o z] at h; cases h
      simp only [List.mem_cons] at hJ
      rcases hJ with rfl | rfl | rfl | rfl | rfl | hJ
      · exact hown _ (by simp)
      · exact hown _ (by simp)
      · exact hown _ (by simp)
      · exact ⟨hFn _ hq1, hB1⟩
      · exact ⟨hFn _ hq2, hB2⟩
      · exact hown _ (by simp [hJ])
    · simp only [List.nodup_cons, List.mem_cons, not_or]
      have a1 := n1 b (by simp)
      have a2 := n1 t (by simp)
      have a3 := n1 u (by simp)
      have b1 := n2 b (by simp)
      have b2 := n2 t (by simp)
      have b3 := n2 u (by simp)
      exact ⟨⟨bt, bu, a1, b1, bo⟩, ⟨tu, a2, b2, to⟩, ⟨a3, b3, uo⟩, ⟨hqq, fun h => f1 (by simp [h])⟩, fun h => f2 (by simp [h]), hndo⟩
    · have hJ' : J ∈ b :: t :: u :: sown := by simp [hJ]
      have jb : J ≠ b := fun z => bo (z ▸ hJ)
      rw [Zadd.ne jb, Zadd.ne (n2 J hJ'), Zadd.ne (n1 J hJ')]
    · rw [Zadd.ne (Ne.symm (n1 b (by simp))), Zadd.ne hqq]; exact Zadd.self
    · rw [Zadd.ne (Ne.symm (n2 b (by simp)))]; exact Zadd.self
    · rw [List.reverse_cons]; exact Zadd.self
    · rw [Zadd.ne (Ne.symm bt), Zadd.ne (n2 t (by simp)), Zadd.ne (n1 t (by simp))]; exact ht
    · rw [Zadd.ne (Ne.symm bu), Zadd.ne (n2 u (by simp)), Zadd.ne (n1 u (by simp))]; exact hu
    · rw [okSt, okTs, dths]
      exact ⟨trivial, by omega, hokS⟩
    · rw [szSt, szs]; omega
  rw [if_neg h1]
  have h1' : x.fmod 8 < 3 → ¬ (((st.length : Nat) : Int) < 5) := fun h h' => h1 (by simp only [Bool.and_true, Bool.and_eq_true, decide_eq_true_eq]; exact ⟨h, h'⟩)
  refine wpAny_execs_nil ?_
  -- leaves
  have leafs : ∀ (kind y : Int) {ρ₂ : Loc} {s₂ : Shared} {e1 e2 : PySem.Expr} {p1 p2 p3 p4 p5 p6 p7 : Pos}, St G (env9 doc pm cdv ct L a) Z₁ Hc ρ₂ s₂ → Sub (ρS b t u) ρ₂ → Ev G (env9 doc pm cdv ct L a) n ρ₂ e1 (.int kind) → Ev G (env9 doc pm cdv ct L a) n ρ₂ e2 (.int y) → isStarred e1 = false → isStarred e2 = false →
      swapsWithSole [.Tuple [.Name "thing" p1, .Name "text" p2, .Name "name" p3] 0 p4] (.Call (.Name "_law_leaf" p5) [e1, e2] [] p6) p7.line (env9 doc pm cdv ct L a) = pure false → swappedStores [.Tuple [.Name "thing" p1, .Name "text" p2, .Name "name" p3] 0 p4] (.Call (.Name "_law_leaf" p5) [e1, e2] [] p6) (env9 doc pm cdv ct L a) = pure none →
      wpAny (model G.prog G.w) A (exec (.Assign [.Tuple [.Name "thing" p1, .Name "text" p2, .Name "name" p3] 0 p4] (.Call (.Name "_law_leaf" p5) [e1, e2] [] p6) p7) (env9 doc pm cdv ct L a)) (fun f s' => f = .next ∧ wpAny (model G.prog G.w) A (execs (body01.drop 3) (env9 doc pm cdv ct L a)) (Post1 G (env9 doc pm cdv ct L a) F₀ b t u i Zc) (fun _ _ => False) s') (fun _ _ => False) s₂ := by
    intro kind y ρ₂ s₂ e1 e2 p1 p2 p3 p4 p5 p6 p7 S₂ hsub h1 h2 hs1 hs2 hsw hsw2
    refine wp_seq ((ex_assign_tuple (n := n) (Φ := fun fl ρ' => fl = .next ∧ ρ' = upd (upd (upd ρ₂ "thing" (.val (thD (leaf01 kind y)))) "text" (.val (.str (T (txt (leaf01 kind y)))))) "name" (.val (.str (Str.ofString (tyN (leaf01 kind y))))))
      (ev_call (ev_glob gl rfl rfl) (evs_more h1 (evs_more h2 evs_nil hs2) hs1) kl (fl kind y) (by simp [hs1, hs2]) rfl) (asg_tuple (asgs_cons (asg_name (.inl rfl)) (asgs_cons (asg_name (.inl rfl)) (asgs_cons (asg_name (.inl rfl)) asgs_nil rfl) rfl) rfl)) hsw hsw2 ⟨rfl, rfl⟩).run A Z₁ Hc s₂ R S₂) fun f s₃ ⟨Z₃, ρ₃, fll, le₃, S₃, hf, hfl, hρ⟩ => ?_
    subst hfl hρ
    cases hf
    have hsz1 := leaf_sz kind y
    have hd0 := leaf_dth kind y
    refine ⟨rfl, tail01 (st := st) hfr R gw kw fw (le₁.trans le₃) S₃ (sub_cons (hsub _ _ rfl) (sub_cons (hsub _ _ rfl) (sub_cons (hsub _ _ rfl) sub_nil))) rfl rfl rfl hnd (hS₁.mono le₃ fun _ _ => rfl) hb ht (rt₁.mono le₃) hu (ru₁.mono le₃) hF hown hne hl5 hokS (by omega) hml (by omega) (leaf_ok kind y) (by omega)⟩
  -- what was begun last is ended
  refine wpAny_execs_cons (wpAny_If (tstL (n := n) (x := "standing") S₂ R rfl hb hbB rfl hdr (c := (x.fmod 8 == 3) && (decide ((1 : Int) < ((ds.reverse.length : Nat) : Int)) && true)) (tst_and (tst_cmp (ev_name rfl rfl) ev_int op_eq_int rfl) fun _ => tst_and (tst_cmp (ev_lenL (ev_name rfl rfl) (by omega) hlen rfl rfl) ev_int op_gt_int rfl) fun _ => tst_and_nil) fun s₃ S₃ => ?_))
  rw [hdl']
  by_cases h2 : ((x.fmod 8 == 3) && (decide ((1 : Int) < ((st.length : Nat) : Int)) && true)) = true
  · rw [if_pos h2]
    simp only [Bool.and_true, Bool.and_eq_true, decide_eq_true_eq] at h2
    cases hS₁ with
    | nil => exact absurd rfl hne
    | @cons vs us ws st own v kd l p q k m hS' hv hp rp hq rq =>
      have hst1 : st ≠ [] := fun z => by rw [z] at h2; simp at h2
      rw [okSt] at hokS
      rw [szSt] at hszS
      rw [List.length_cons] at hl5
      have hpB := (hown p (by simp)).2
      have hqB := (hown q (by simp)).2
      have hnd' := hnd
      simp only [List.nodup_cons, List.mem_cons, not_or] at hnd'
      obtain ⟨⟨bt, bu, bp, bq, bo⟩, ⟨tu, tp, tq, to⟩, ⟨up, uq, uo⟩, ⟨pq, po⟩, qo, hndo⟩ := hnd'
      have hb' : Hc b = some (listOf (vs.reverse ++ [v]).toArray kb) := by rw [hb, List.reverse_cons]
      have hvl' := hS'.len
      refine wpAny_execs_cons (tupH R rfl rfl (popE S₃ rfl hb' hbB rfl rfl rfl (by rw [List.length_reverse]; omega) fun s₄ k' S₄ => ⟨Z₁, _, [.str (kn kd), .fn p, .fn q], _, S₄, hv, asg_tuple (asgs_cons (asg_name (.inl rfl)) (asgs_cons (asg_name (.inl rfl)) (asgs_cons (asg_name (.inl rfl)) asgs_nil rfl) rfl) rfl), fun Z₅ s₅ le₅ S₅ => ?_⟩))
      have hp₅ : Zadd Hc b (listOf vs.reverse.toArray k') p = some (listOf us.toArray k) := by rw [Zadd.ne (Ne.symm bp)]; exact hp
      have hq₅ : Hdel (Zadd Hc b (listOf vs.reverse.toArray k')) p q = some (listOf ws.toArray m) := by rw [Hdel.ne (Ne.symm pq), Zadd.ne (Ne.symm bq)]; exact hq
      obtain ⟨le₆, S₆⟩ := S₅.toZ hp₅ hpB rfl
      obtain ⟨le₇, S₇⟩ := S₆.toZ hq₅ hqB rfl
      have le57 := le₅.trans (le₆.trans le₇)
      have S₈ := (S₇.reval (x := "items") (d' := .list (thDs l)) rfl fun v r => by
        cases r
        exact .list (by rw [Zadd.ne pq]; exact Zadd.self) (rp.mono le57)).reval (x := "texts") (d' := .list (txs ((txts l).map T))) rfl fun v r => by
        cases r
        exact .list Zadd.self (rq.mono le57)
      have hll := szs_len l
      refine wpAny_execs_cons (wp_seq ((ex_assign_tuple (n := n) (Φ := fun fl ρ' => fl = .next ∧ ∃ ρ₈, Sub (ρS b t u) ρ₈ ∧ ρ' = upd (upd (upd ρ₈ "thing" (.val (thD (wrap kd l)))) "text" (.val (.str (T (txt (wrap kd l)))))) "name" (.val (.str (Str.ofString (tyN (wrap kd l))))))
        (ev_call (ev_glob ge rfl rfl) (evs_more (ev_name rfl rfl) (evs_more (ev_name rfl rfl) (evs_more (ev_name rfl rfl) evs_nil rfl) rfl) rfl) ke (fe kd l hokS.1 (by omega)) rfl rfl) (asg_tuple (asgs_cons (asg_name (.inl rfl)) (asgs_cons (asg_name (.inl rfl)) (asgs_cons (asg_name (.inl rfl)) asgs_nil rfl) rfl) rfl)) rfl rfl ⟨rfl, _, sub_cons rfl (sub_cons rfl (sub_cons rfl sub_nil)), rfl⟩).run A _ _ s₅ R S₈) fun f s₉ ⟨Z₉, ρ₉, fll, le₉, S₉, hf, hfl, ρ₈, hsub₈, hρ⟩ => ?_)
      subst hfl hρ
      cases hf
      have le19 := le57.trans le₉
      have same : ∀ J, J ≠ b → J ≠ p → J ≠ q → Hdel (Hdel (Zadd Hc b (listOf vs.reverse.toArray k')) p) q J = Hc J := fun J h1 h2 h3 => by rw [Hdel.ne h3, Hdel.ne h2, Zadd.ne h1]
      refine wpAny_execs_nil ?_
      refine tail01 (th := wrap kd l) (st := st) (vs := vs) (sown := own) (kb := k') hfr R gw kw fw (le₁.trans le19) S₉ (sub_cons (hsub₈ _ _ rfl) (sub_cons (hsub₈ _ _ rfl) (sub_cons (hsub₈ _ _ rfl) sub_nil))) rfl rfl rfl ?_ (hS'.mono le19 fun J hJ => ?_) ?_ (by rw [same t (Ne.symm bt) tp tq]; exact ht) (rt₁.mono le19) (by rw [same u (Ne.symm bu) up uq]; exact hu) (ru₁.mono le19) (fun x o e => ?_) (fun J hJ => ?_) hst1 (by omega) hokS.2.2 ?_ hml (by omega) (wrap_ok kd hokS.1 (by omega)) ?_
      · simp only [List.nodup_cons, List.mem_cons, not_or]
        exact ⟨⟨bt, bu, bo⟩, ⟨tu, to⟩, uo, hndo⟩
      · exact same J (fun z => bo (z ▸ hJ)) (fun z => po (z ▸ hJ)) (fun z => qo (z ▸ hJ))
      · rw [Hdel.ne bq, Hdel.ne bp]; exact Zadd.self
      · have hx : ∀ J ∈ b :: t :: u :: p :: q :: own, x ≠ J := fun J hJ z => by have := (hown J hJ).1; rw [← z, e] at this; cases this
        rw [same x (hx b (by simp)) (hx p (by simp)) (hx q (by simp))]; exact hF x o e
      · refine hown J ?_
        simp only [List.mem_cons] at hJ ⊢
        rcases hJ with h | h | h | h
        · exact .inl h
        · exact .inr (.inl h)
        · exact .inr (.inr (.inl h))
        · exact .inr (.inr (.inr (.inr (.inr h))))
      · rw [wrap_sz]; omega
      · rw [wrap_dth]; omega
  rw [if_neg h2]
  -- a leaf
  refine wpAny_execs_cons (wpAny_If (wp_seq ((tst_cmp (ev_name rfl rfl) ev_int op_eq_int rfl : Tst G (env9 doc pm cdv ct L a) n _ _ (x.fmod 8 == 3)).run A Z₁ Hc s₃ R S₃) fun c' s₄ ⟨ec, x₄⟩ => ?_))
  subst ec
  have S₄ := S₃.ext x₄
  by_cases h3 : (x.fmod 8 == 3) = true
  · rw [if_pos h3]
    exact wpAny_execs_cons (wpAny_mono (leafs 6 0 S₄ (sub_cons rfl (sub_cons rfl (sub_cons rfl sub_nil))) ev_int ev_int rfl rfl rfl rfl) (fun f s' ⟨ef, h⟩ => by subst ef; exact wpAny_execs_nil (wpAny_execs_nil h)) fun _ _ q => q)
  · rw [if_neg h3]
    exact wpAny_execs_cons (wpAny_mono (leafs (if decide (x.fmod 8 < 3) = true then 5 else x.fmod 8) (x.fdiv 8) S₄ (sub_cons rfl (sub_cons rfl (sub_cons rfl sub_nil))) (ev_ifint (tst_cmp (ev_name rfl rfl) ev_int op_lt_int rfl) (fun _ => ev_int) fun _ => ev_name rfl rfl) (ev_name rfl rfl) rfl rfl rfl rfl) (fun f s' ⟨ef, h⟩ => by subst ef; exact wpAny_execs_nil (wpAny_execs_nil h)) fun _ _ q => q)
end
end
section
open PySem PySem.W PyProof.Rows
set_option linter.unusedVariables false
set_option maxRecDepth 100000
section
variable {G : Gnd} {n : Nat} {doc pm cdv ct : Value} {a : Addr}
set_option maxHeartbeats 4000000
theorem fn_rse01 {d : D} {x : Str} {T q : String} (D : DefAt G a (fdOf (stOf pw 1) doc pm cdv ct) (bodyOf (stOf pw 1))) (W : Shown G d x T) (N : Named G.K T q) (hT : nsIn G.K mainGlobals "type" = some none) (hTE : nsIn G.K mainGlobals "TypeError" = some none) : FnEm G 4 a [d] "TypeError" (words x (Str.ofString q)) := by
  refine fn_ofEm (xs := ["text"]) D (fun vs h => ?_) rfl ?_ (by decide) fun L A Z H s₁ R hP S => ?_
  · match vs, h with
    | [v], _ => rfl
  · walk_at "params"
  · exact rseM_body R hP S rfl W N hT rfl hTE rfl
theorem fn_words01 {fa : Addr} {d : D} {msg : Str} (D : DefAt G a (fdOf (stOf pw 8) doc pm cdv ct) (bodyOf (stOf pw 8))) (hfn : FnEm G 4 fa [d] "TypeError" msg) (hkeep : keepIn G.K (.ref fa) = true) (hg : nsIn G.K mainGlobals "_raise_serialization_error" = some (some (.ref fa)))
    (hTE : nsIn G.K mainGlobals "TypeError" = some none) (hS : nsIn G.K mainGlobals "str" = some none) : FnWd G 5 a [d] msg := by
  refine fn_ofW (xs := ["thing"]) D (fun vs h => ?_) rfl ?_ (by decide) fun L A Z H s₁ l R S hfr hff hzl => ?_
  · match vs, h with
    | [v], _ => rfl
  · walk_at "params"
  · exact words_body R (by decide) hfr rfl rfl S rfl rfl hff hzl hfn hkeep hg rfl hTE rfl hS rfl rfl
theorem fn_endedK {aq af as : Addr} (dA : DefAt G a (fdOf (stOf pw 7) doc pm cdv ct) (bodyOf (stOf pw 7))) (hc : nsIn G.K mainGlobals "chr" = some none) (ho : nsIn G.K mainGlobals "ord" = some none) (htu : nsIn G.K mainGlobals "tuple" = some none) (hlen : nsIn G.K mainGlobals "len" = some none) (hr : nsIn G.K mainGlobals "range" = some none)
    (gq : nsIn G.K mainGlobals "_law_quoted" = some (some (.ref aq))) (kq : keepIn G.K (.ref aq) = true) (fq : ∀ c : List Nat, (∀ k ∈ c, k < 256) → c.length ≤ 1000 → Fn G (n + 2) aq [.list ((ni c).map .int)] (.str (T (quoted01 c))))
    (gf : nsIn G.K mainGlobals "_law_figures" = some (some (.ref af))) (kf : keepIn G.K (.ref af) = true) (ff : ∀ i : Int, i.natAbs < 1000000000000 → Fn G (n + 2) af [.int i] (.str (T (fig01 i))))
    (gs : nsIn G.K mainGlobals "_law_signs" = some (some (.ref as))) (ks : keepIn G.K (.ref as) = true) (fs : Fn G (n + 2) as [] (.list ((ni signs01).map .int)))
    (kd : Nat) (l : List Th) (hok : okTs l) (hsz : szs l ≤ 100) : Fn G (n + 3) a [.str (kn kd), .list (thDs l), .list (txs ((txts l).map T))] (tri (wrap kd l)) := by
  obtain ⟨e1, e2, e3⟩ := fn_ended dA hc ho htu hlen hr gq kq fq gf kf ff gs ks fs l hok (by omega)
  have hl := szs_len l
  match kd with
  | 0 => exact e1
  | 1 => exact e2
  | k + 2 => exact e3 (by omega)
theorem fn_law01 {aw ae al : Addr} (dA : DefAt G a (fdOf (stOf pw 9) doc pm cdv ct) (bodyOf (stOf pw 9))) (hlen : nsIn G.K mainGlobals "len" = some none)
    (gw : nsIn G.K mainGlobals "_law_words" = some (some (.ref aw))) (kw : keepIn G.K (.ref aw) = true) (fw : ∀ th : Th, okT th → dth th ≤ 8 → sz th ≤ 1000 → FnWd G n aw [thD th] (msg01 th))
    (ge : nsIn G.K mainGlobals "_law_ended" = some (some (.ref ae))) (ke : keepIn G.K (.ref ae) = true) (fe : ∀ (kd : Nat) (l : List Th), okTs l → szs l ≤ 100 → Fn G n ae [.str (kn kd), .list (thDs l), .list (txs ((txts l).map T))] (tri (wrap kd l)))
    (gl : nsIn G.K mainGlobals "_law_leaf" = some (some (.ref al))) (kl : keepIn G.K (.ref al) = true) (fl : ∀ kind y : Int, Fn G n al [.int kind, .int y] (tri (leaf01 kind y)))
    (ns : List Int) (hn : ns.length ≤ 63) : FnAt G callerA (n + 1) a [.list (ns.map .int)] (.bool true) := by
  refine fn_ofAt (xs := ["script"]) dA (fun vs h => ?_) rfl ?_ (by decide) fun L => ?_
  · match vs, h with
    | [v], _ => rfl
  · walk_at "params"
  have big : 100000 ≤ sizeLine := by decide
  constructor
  intro Z H s R S
  have hfr : (callerA.deeper (env9 doc pm cdv ct L a)).frames = some [env9 doc pm cdv ct L a] := rfl
  change Room n (callerA.deeper (env9 doc pm cdv ct L a)) at R
  change St G (env9 doc pm cdv ct L a) Z H _ s at S
  generalize callerA.deeper (env9 doc pm cdv ct L a) = A at hfr R
  -- standing
  refine wpAny_execs_cons (wpAny_Assign_Name (List_ (spliced_more (tripleH (x := "list") S R ev_str rfl fun v p q Z₁ s₁ le₁ rv hp hq hpq hpB hqB S₁ => spliced_none (wpAny_newObj_type ?_ (by show 1 ≤ sizeLine; decide))) rfl)) rfl)
  obtain ⟨S₂, hbB, hbH, hbZ⟩ := S₁.pushH (o := listOf [v].toArray 0) (t := s₁.toks) rfl (Nat.le_refl _)
  generalize hbb : s₁.heap.objs.size = b at *
  refine wp_seq (st_store (x := "standing") (d := .fn b) S₂ (.fn b) (.inl rfl)) fun _ s₃ S₃ => ?_
  -- told, due
  refine wpAny_execs_cons (swapH (xs := ["told", "due"]) R.handled (fun x hx => ?_) rfl rfl (Tuple_ (spliced_more (emptyH S₃ fun t s₄ htn htB S₄ => spliced_more (emptyH S₄ fun u s₅ hun huB S₅ => spliced_none (tupleW (ds := [.fn t, .fn u]) S₅ (.cons (.fn t) (.cons (.fn u) .nil)) (by show 2 ≤ sizeLine; decide) fun w Z₆ s₆ le₆ rw₆ S₆ => ⟨Z₆, _, [.fn t, .fn u], S₆, rw₆, rfl, fun s₇ S₇ => ?_⟩)) rfl) rfl)))
  · simp only [List.mem_cons, List.not_mem_nil, or_false] at hx
    rcases hx with rfl | rfl <;> exact .inl rfl
  have tb : t ≠ b := fun z => by rw [z, Zadd.self] at htn; cases htn
  rw [Zadd.ne tb] at htn
  have tq : t ≠ q := fun z => by rw [z, Zadd.self] at htn; cases htn
  rw [Zadd.ne tq] at htn
  have tp : t ≠ p := fun z => by rw [z, Zadd.self] at htn; cases htn
  rw [Zadd.ne tp] at htn
  have ut : u ≠ t := fun z => by rw [z, Zadd.self] at hun; cases hun
  rw [Zadd.ne ut] at hun
  have ub : u ≠ b := fun z => by rw [z, Zadd.self] at hun; cases hun
  rw [Zadd.ne ub] at hun
  have uq : u ≠ q := fun z => by rw [z, Zadd.self] at hun; cases hun
  rw [Zadd.ne uq] at hun
  have up : u ≠ p := fun z => by rw [z, Zadd.self] at hun; cases hun
  rw [Zadd.ne up] at hun
  have bq : b ≠ q := fun z => by rw [z, Zadd.self] at hbH; cases hbH
  rw [Zadd.ne bq] at hbH
  have bp : b ≠ p := fun z => by rw [z, Zadd.self] at hbH; cases hbH
  rw [Zadd.ne bp] at hbH
  have hown : ∀ J ∈ [b, t, u, p, q], H J = none ∧ G.base.get? J = none := by
    intro J hJ
    simp only [List.mem_cons, List.not_mem_nil, or_false] at hJ
    rcases hJ with rfl | rfl | rfl | rfl | rfl
    · exact ⟨hbH, hbB⟩
    · exact ⟨htn, htB⟩
    · exact ⟨hun, huB⟩
    · exact ⟨hp, hpB⟩
    · exact ⟨hq, hqB⟩
  -- the loop
  refine wpAny_execs_cons (forH (H₀ := H) (own := [b, t, u, p, q]) (d := .list ((([12] ++ ns) ++ [3, 3, 3, 3, 3]).map .int)) (ds := (([12] ++ ns) ++ [3, 3, 3, 3, 3]).map .int) (ρ₀ := ρS b t u) (PInv G b t u)
    (fun i Z Z' H H' own le hH hP => hP.loc le hH) (fun i Z H own hP => hP.some) S₇ R rfl (.inl rfl) (sub_cons rfl (sub_cons rfl (sub_cons rfl sub_nil))) hown (fun x o e => ?_) ?_ ?_ itr_list (fun _ => rfl) (fun i d Zc Hc F₀ own s hd leZ hF0 hFH hown hP Sc => ?_) fun Zc Hc own s leZ hle hown hP Sc => ?_)
  · have hx : ∀ J ∈ [b, t, u, p, q], x ≠ J := fun J hJ z => by have := (hown J hJ).1; rw [← z, e] at this; cases this
    rw [Zadd.ne (hx u (by simp)), Zadd.ne (hx t (by simp)), Zadd.ne (hx b (by simp)), Zadd.ne (hx q (by simp)), Zadd.ne (hx p (by simp))]
    exact e
  · refine ⟨[(0, [])], [], [v], [p, q], [], [], 0, 0, 0, rfl, ?_, .cons (us := []) (ws := []) (k := 0) (m := 0) .nil (rv.mono le₆) ?_ (by rw [thDs]; exact .nil) ?_ (by rw [txts]; exact .nil), ?_, ?_, .nil, Zadd.self, .nil, by simp, by simp, ?_, ?_, by simp⟩
    · simp only [List.nodup_cons, List.mem_cons, List.not_mem_nil, or_false, not_or]
      exact ⟨⟨Ne.symm tb, Ne.symm ub, bp, bq⟩, ⟨Ne.symm ut, tp, tq⟩, ⟨up, uq⟩, hpq, not_false, List.nodup_nil⟩
    · rw [Zadd.ne (Ne.symm up), Zadd.ne (Ne.symm tp), Zadd.ne (Ne.symm bp), Zadd.ne hpq]; exact Zadd.self
    · rw [Zadd.ne (Ne.symm uq), Zadd.ne (Ne.symm tq), Zadd.ne (Ne.symm bq)]; exact Zadd.self
    · rw [Zadd.ne (Ne.symm ub), Zadd.ne (Ne.symm tb)]; exact Zadd.self
    · rw [Zadd.ne (Ne.symm ut)]; exact Zadd.self
    · rw [okSt, okTs, dths, okSt]; exact ⟨trivial, by simp, trivial⟩
    · rw [szSt, szs, szSt]; omega
  · rw [List.map_append, List.map_append]
    refine ev_binop (ev_binop (ev_list (ds := [12].map .int) (evs_more ev_int evs_nil rfl) (by show 1 ≤ sizeLine; decide)) (ev_name rfl rfl) (op_add_list (by simp; omega))) (ev_list (ds := [3, 3, 3, 3, 3].map .int) (evs_more ev_int (evs_more ev_int (evs_more ev_int (evs_more ev_int (evs_more ev_int evs_nil rfl) rfl) rfl) rfl) rfl) (by show 5 ≤ sizeLine; decide)) (op_add_list (by simp; omega))
  · obtain ⟨x, hx, rfl⟩ := at_map hd
    have hi : i < (([12] ++ ns) ++ [3, 3, 3, 3, 3]).length := (List.getElem?_eq_some_iff.mp hx).1
    rw [List.length_append, List.length_append] at hi
    exact turn01 hfr R hlen gw kw fw ge ke fe gl kl fl hFH hown hP (by simp at hi; omega) Sc
  -- the row itself
  have hlen5 : ((([12] ++ ns) ++ [3, 3, 3, 3, 3]).map D.int).length = ns.length + 6 := by simp
  rw [hlen5] at hP
  obtain ⟨st, msgs, vs, sown, mv, mw, kb, kt, ku, rfl, hnd, hS, hb, ht, rt, hu, ru, hne, hl5, hokS, hszS, hml⟩ := hP
  obtain ⟨y, ys, kd, l, p', q', us, ws, k, m, hrev, hmem, hp', hq', hpq', hy, hpo, rp, hqo, rq⟩ := hS.bottom hne
  obtain ⟨okl, dl, sl⟩ := okSt_mem hokS hmem
  have hll := szs_len l
  have hnd' := hnd
  simp only [List.nodup_cons, List.mem_cons, not_or] at hnd'
  obtain ⟨⟨bt', bu', bo⟩, ⟨tu', to⟩, uo, hndo⟩ := hnd'
  have pq' := hpq' hndo
  have tp' : t ≠ p' := fun z => to (z ▸ hp')
  have tq' : t ≠ q' := fun z => to (z ▸ hq')
  have up' : u ≠ p' := fun z => uo (z ▸ hp')
  have uq' : u ≠ q' := fun z => uo (z ▸ hq')
  have hbB' := (hown b (by simp)).2
  have htB' := (hown t (by simp)).2
  have huB' := (hown u (by simp)).2
  have hpB' := (hown p' (by simp [hp'])).2
  have hqB' := (hown q' (by simp [hq'])).2
  rw [hrev] at hb
  refine wpAny_execs_cons (tupH R rfl rfl (firstH Sc rfl hb rfl ev_int R fun s₄ S₄ => ⟨Zc, Hc, [.str (kn kd), .fn p', .fn q'], _, S₄, hy, asg_tuple (asgs_cons (asg_name (.inl rfl)) (asgs_cons (asg_name (.inl rfl)) (asgs_cons (asg_name (.inl rfl)) asgs_nil rfl) rfl) rfl), fun Z₅ s₅ le₅ S₅ => ?_⟩))
  obtain ⟨leA, SA⟩ := S₅.toZ hpo hpB' rfl
  obtain ⟨leB, SB⟩ := SA.toZ (I := q') (by rw [Hdel.ne (Ne.symm pq')]; exact hqo) hqB' rfl
  have le5B := le₅.trans (leA.trans leB)
  have S₈ := (SB.reval (x := "items") (d' := .list (thDs l)) rfl fun v r => by
    cases r
    exact .list (by rw [Zadd.ne pq']; exact Zadd.self) (rp.mono le5B)).reval (x := "texts") (d' := .list (txs ((txts l).map T))) rfl fun v r => by
    cases r
    exact .list Zadd.self (rq.mono le5B)
  refine wpAny_execs_cons (wp_seq ((ex_assign_tuple (n := n) (Φ := fun fl ρ' => fl = .next ∧ ∃ ρ₈, Sub (ρS b t u) ρ₈ ∧ ρ' = upd (upd (upd ρ₈ "thing" (.val (thD (wrap kd l)))) "text" (.val (.str (T (txt (wrap kd l)))))) "name" (.val (.str (Str.ofString (tyN (wrap kd l))))))
    (ev_call (ev_glob ge rfl rfl) (evs_more (ev_name rfl rfl) (evs_more (ev_name rfl rfl) (evs_more (ev_name rfl rfl) evs_nil rfl) rfl) rfl) ke (fe kd l okl (by omega)) rfl rfl) (asg_tuple (asgs_cons (asg_name (.inl rfl)) (asgs_cons (asg_name (.inl rfl)) (asgs_cons (asg_name (.inl rfl)) asgs_nil rfl) rfl) rfl)) rfl rfl ⟨rfl, _, sub_cons rfl (sub_cons rfl (sub_cons rfl sub_nil)), rfl⟩).run A _ _ s₅ R S₈) fun f s₉ ⟨Z₉, ρ₉, fll, le₉, S₉, hf, hfl, ρ₈, hsub₈, hρ⟩ => ?_)
  subst hfl hρ
  cases hf
  have le59 := le5B.trans le₉
  have wok := wrap_ok kd okl (by omega : l.length ≤ 100)
  have wsz := wrap_sz kd l
  have wd := wrap_dth kd l
  refine say01 (kt := kt) (ku := ku) hfr R gw kw (fw (wrap kd l) wok (by omega) (by omega)) S₉ (hsub₈ _ _ rfl) (hsub₈ _ _ rfl) rfl rfl rfl (by rw [Hdel.ne tq', Hdel.ne tp']; exact ht) (by rw [Hdel.ne uq', Hdel.ne up']; exact hu) tu' htB' huB' (rt.mono le59) (ru.mono le59) (by omega) wok (by omega) rfl rfl fun Z' s' mv' mw' kt' ku' le' rt' ru' S' => ?_
  -- told == due
  have htv : Zadd (Zadd (Hdel (Hdel Hc p') q') t (listOf mv'.toArray kt')) u (listOf mw'.toArray ku') t = some (listOf mv'.toArray kt') := by rw [Zadd.ne tu']; exact Zadd.self
  obtain ⟨leC, SC⟩ := S'.toZ htv htB' rfl
  obtain ⟨leD, SD⟩ := SC.toZ (I := u) (by rw [Hdel.ne (Ne.symm tu')]; exact Zadd.self) huB' rfl
  have hz1 := hsub₈ _ _ (rfl : (ρS b t u).lookup ("told" : Str) = some (.val (.fn t)))
  have hz2 := hsub₈ _ _ (rfl : (ρS b t u).lookup ("due" : Str) = some (.val (.fn u)))
  have S10 := (SD.reval (x := "told") (d' := .list (txs (msgs ++ [msg01 (wrap kd l)]))) hz1 fun v r => by
    cases r
    exact .list (by rw [Zadd.ne tu']; exact Zadd.self) (rt'.mono (leC.trans leD))).reval (x := "due") (d' := .list (txs (msgs ++ [msg01 (wrap kd l)]))) hz2 fun v r => by
    cases r
    exact .list Zadd.self (ru'.mono (leC.trans leD))
  refine wpAny_mono ((exs_cons (ex_return (d := .bool ((msgs ++ [msg01 (wrap kd l)]) == (msgs ++ [msg01 (wrap kd l)]))) (ev_cmp (ev_name rfl rfl) (ev_name rfl rfl) op_eq_strs rfl) ?_) : Exs G _ n _ _ (RetPost (.bool true))).run A _ _ s' R S10) (fun f s' ⟨Z', ρ', fl, le'', S'', hf, hΦ⟩ => ⟨Z', ρ', fl, ?_, S''.subH (fun x ob e => ?_) (fun x ob e => ?_) rfl, hf, hΦ⟩) fun _ _ q => q
  · show D.bool _ = D.bool true
    simp
  · exact le₁.trans (le₆.trans (leZ.trans (le59.trans (le'.trans (leC.trans (leD.trans le''))))))
  · have hx : ∀ J ∈ b :: t :: u :: sown, x ≠ J := fun J hJ z => by have := (hown J hJ).1; rw [← z, e] at this; cases this
    have xt := hx t (by simp)
    have xu := hx u (by simp)
    rw [Hdel.ne xu, Hdel.ne xt, Zadd.ne xu, Zadd.ne xt, Hdel.ne (hx q' (by simp [hq'])), Hdel.ne (hx p' (by simp [hp']))]
    exact hle x ob e
  · rcases S.bas x ob e with z | z
    · exact .inl ((le₁.trans (le₆.trans (leZ.trans (le59.trans (le'.trans (leC.trans (leD.trans le''))))))) _ _ z)
    · exact .inr z
end
end
end Mine
open PySem PySem.W PySem.W.X PySem.W.ZRun PyProof.Rows
set_option maxRecDepth 100000
set_option maxHeartbeats 0
theorem PySem.Challenge.cw_dn0275_01_holds : PySem.Challenge.rw_dn0275_01.Holds := by
  w_on; o_law; z_head
  (case hw => w_witness2)
  k_fill
  intro w s₀ s₁ mg mb G y fa o pm cd doc dV kV ho hd hcd hD hmg hg args vals as L hpre hlay hrd hwl hlo
  z_open y L KX ZH ZN ZT
  refine Ground.open G ?_
  intro T B D TE TW
  wrow_args hpre hlay hrd hwl hlo
  obtain ⟨hat, hsz⟩ := script_at L
  have htk := script_toks L ZT
  rw [ZN] at hat hsz
  subst hat
  x_fa T KX hmg
  all_lens
  clear hcd hd hD ho
  refine Mine.finishAt (n := 6) (p := _) KX (topRead_of T) rfl hg (Nat.lt_of_lt_of_le (by decide) htk) (script_obj L (by assumption)) (by assumption) (fun _ => rfl) ?_ (by decide) fun nb => ?_
  · wrow_post
  refine Mine.fn_law01 (n := 5) (doc := _) (pm := _) (cdv := _) (ct := _) ⟨⟨_, rfl, rfl⟩, rfl, rfl, rfl, rfl, rfl, rfl, rfl, rfl⟩ rfl
    rfl rfl (fun th hok hdp hs => Mine.fn_words01 (doc := _) (pm := _) (cdv := _) (ct := _) ⟨⟨_, rfl, rfl⟩, rfl, rfl, rfl, rfl, rfl, rfl, rfl, rfl⟩ (Mine.fn_rse01 (doc := _) (pm := _) (cdv := _) (ct := _) ⟨⟨_, rfl, rfl⟩, rfl, rfl, rfl, rfl, rfl, rfl, rfl, rfl⟩ (Mine.shown_th th hok hdp hs) ?_ rfl rfl) rfl rfl rfl rfl)
    rfl rfl (fun kd l hok hs => Mine.fn_endedK (n := 2) (doc := _) (pm := _) (cdv := _) (ct := _) ⟨⟨_, rfl, rfl⟩, rfl, rfl, rfl, rfl, rfl, rfl, rfl, rfl⟩ rfl rfl rfl rfl rfl
      rfl rfl (fun c h1 h2 => Mine.fn_quoted (n := 2) (doc := _) (pm := _) (cdv := _) (ct := _) ⟨⟨_, rfl, rfl⟩, rfl, rfl, rfl, rfl, rfl, rfl, rfl, rfl⟩ rfl c h1 h2)
      rfl rfl (fun i hi => Mine.fn_figures (n := 3) (doc := _) (pm := _) (cdv := _) (ct := _) ⟨⟨_, rfl, rfl⟩, rfl, rfl, rfl, rfl, rfl, rfl, rfl, rfl⟩ rfl i hi)
      rfl rfl (Mine.fn_signs (n := 3) (doc := _) (pm := _) (cdv := _) (ct := _) ⟨⟨_, rfl, rfl⟩, rfl, rfl, rfl, rfl, rfl, rfl, rfl, rfl⟩) kd l hok hs)
    rfl rfl (fun kind y => Mine.fn_leaf (n := 2) (doc := _) (pm := _) (cdv := _) (ct := _) ⟨⟨_, rfl, rfl⟩, rfl, rfl, rfl, rfl, rfl, rfl, rfl, rfl⟩ rfl rfl rfl
      rfl rfl (fun c h1 h2 => Mine.fn_quoted (n := 2) (doc := _) (pm := _) (cdv := _) (ct := _) ⟨⟨_, rfl, rfl⟩, rfl, rfl, rfl, rfl, rfl, rfl, rfl, rfl⟩ rfl c h1 h2)
      rfl rfl (fun i hi => Mine.fn_figures (n := 3) (doc := _) (pm := _) (cdv := _) (ct := _) ⟨⟨_, rfl, rfl⟩, rfl, rfl, rfl, rfl, rfl, rfl, rfl, rfl⟩ rfl i hi)
      rfl rfl (Mine.fn_signs (n := 3) (doc := _) (pm := _) (cdv := _) (ct := _) ⟨⟨_, rfl, rfl⟩, rfl, rfl, rfl, rfl, rfl, rfl, rfl, rfl⟩) kind y)
    _ (by omega)
  cases th <;> simp only [Mine.tyN] <;> exact ⟨rfl, by ktyn_q, by decide +kernel⟩
