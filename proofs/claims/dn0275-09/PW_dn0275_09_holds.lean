import PyProof.Rows.All
import Wide.All
import OpenK.AllK
import Wide.FinOn
import PySem.Challenge.RW_dn0275_09
set_option Elab.async false
section
open PySem PySem.W PyProof.Rows
namespace Mine

/-- plain Python data -/
inductive D where
  | none
  | bool (b : Bool)
  | int (i : Int)
  | str (x : Str)
  | list (ds : List D)
  | tup (ds : List D)
  | dict (ks : List Str) (ds : List D)
  | fn (a : Addr)
  | rng (a b : Int)
  | slc (lo hi : Option Int)
  | bytes (b : Array UInt8)

abbrev Zf := Addr → Option Obj

/-- what is fixed while the law runs -/
structure Gnd where
  prog : Program
  w : World
  K : Frag
  p : Program
  loose : List Str
  mg : Str → Option Value
  mb : Str → Option Value
  base : Heap
  os : OsState
  X : K.In base
  T : TopRead p loose mg mb base
  nb : NoneBooked base

mutual
/-- the value v is the datum d, as the frozen objects Z tell it -/
inductive Rep (G : Gnd) (Z : Zf) : Value → D → Prop
  | none : Rep G Z .none .none
  | bool (b : Bool) : Rep G Z (.bool b) (.bool b)
  | int (i : Int) (t : Tok) : Rep G Z (.int i t) (.int i)
  | str (x : Str) (t : Tok) : Rep G Z (.str x t) (.str x)
  | list {a : Addr} {vs : List Value} {n : Nat} {ds : List D} : Z a = some (listOf vs.toArray n) → RepAll G Z vs ds → Rep G Z (.ref a) (.list ds)
  | tup {a : Addr} {vs : List Value} {n : Nat} {ds : List D} : Z a = some { cls := .type "tuple", data := .seq vs.toArray n } → RepAll G Z vs ds → Rep G Z (.ref a) (.tup ds)
  | dict {a : Addr} {o : Obj} {kvs : List (Str × Value)} {ds : List D} : Z a = some o → (a == sysModules) = false → o.IsDictOf (strKind G.prog G.w) kvs →
      RepAll G Z (kvs.map (·.2)) ds → Rep G Z (.ref a) (.dict (kvs.map (·.1)) ds)
  | fn (a : Addr) : Rep G Z (.ref a) (.fn a)
  | rng {x : Addr} {a b : Int} {t u v : Tok} : Z x = some { cls := .type "range", data := .fields #[.int a t, .int b u, .int 1 v] } → Rep G Z (.ref x) (.rng a b)
  | slc {x : Addr} {vl vu : Value} {lo hi : Option Int} : Z x = some { cls := .type "slice", data := .fields #[vl, vu, .none] } → IsPart vl lo → IsPart vu hi → Rep G Z (.ref x) (.slc lo hi)
  | bytes (b : Array UInt8) (t : Tok) : Rep G Z (.bytes b t) (.bytes b)
inductive RepAll (G : Gnd) (Z : Zf) : List Value → List D → Prop
  | nil : RepAll G Z [] []
  | cons {v : Value} {vs : List Value} {d : D} {ds : List D} : Rep G Z v d → RepAll G Z vs ds → RepAll G Z (v :: vs) (d :: ds)
end

def Zle (Z Z' : Zf) : Prop := ∀ a o, Z a = some o → Z' a = some o
theorem Zle.same {Z : Zf} : Zle Z Z := fun _ _ h => h
theorem Zle.trans {Z Z' Z'' : Zf} (a : Zle Z Z') (b : Zle Z' Z'') : Zle Z Z'' := fun x o h => b x o (a x o h)

mutual
theorem Rep.mono {G : Gnd} {Z Z' : Zf} (hz : Zle Z Z') : ∀ {v : Value} {d : D}, Rep G Z v d → Rep G Z' v d
  | _, _, .none => .none
  | _, _, .bool b => .bool b
  | _, _, .int i t => .int i t
  | _, _, .str x t => .str x t
  | _, _, .list h r => .list (hz _ _ h) (RepAll.mono hz r)
  | _, _, .tup h r => .tup (hz _ _ h) (RepAll.mono hz r)
  | _, _, .dict h hs hd r => .dict (hz _ _ h) hs hd (RepAll.mono hz r)
  | _, _, .fn a => .fn a
  | _, _, .rng h => .rng (hz _ _ h)
  | _, _, .slc h p q => .slc (hz _ _ h) p q
  | _, _, .bytes b t => .bytes b t
theorem RepAll.mono {G : Gnd} {Z Z' : Zf} (hz : Zle Z Z') : ∀ {vs : List Value} {ds : List D}, RepAll G Z vs ds → RepAll G Z' vs ds
  | _, _, .nil => .nil
  | _, _, .cons h r => .cons (Rep.mono hz h) (RepAll.mono hz r)
end

section
variable {G : Gnd} {Z : Zf}
theorem RepAll.length : ∀ {vs : List Value} {ds : List D}, RepAll G Z vs ds → vs.length = ds.length
  | _, _, .nil => rfl
  | _, _, .cons _ r => by rw [List.length_cons, List.length_cons, RepAll.length r]
theorem RepAll.append : ∀ {vs ws : List Value} {ds es : List D}, RepAll G Z vs ds → RepAll G Z ws es → RepAll G Z (vs ++ ws) (ds ++ es)
  | _, _, _, _, .nil, k => k
  | _, _, _, _, .cons h r, k => .cons h (RepAll.append r k)
theorem RepAll.get : ∀ {vs : List Value} {ds : List D}, RepAll G Z vs ds → ∀ {i : Nat} {d : D}, ds[i]? = some d → ∃ v, vs[i]? = some v ∧ Rep G Z v d
  | _, _, .nil, _, _, h => by simp at h
  | _, _, .cons h r, 0, _, e => by simp at e; subst e; exact ⟨_, rfl, h⟩
  | _, _, .cons _ r, i + 1, _, e => by simp at e; simpa using RepAll.get r e
theorem RepAll.drop : ∀ {vs : List Value} {ds : List D}, RepAll G Z vs ds → ∀ n, RepAll G Z (vs.drop n) (ds.drop n)
  | _, _, r, 0 => by simpa using r
  | _, _, .nil, _ + 1 => .nil
  | _, _, .cons _ r, n + 1 => by simpa using RepAll.drop r n
theorem RepAll.take : ∀ {vs : List Value} {ds : List D}, RepAll G Z vs ds → ∀ n, RepAll G Z (vs.take n) (ds.take n)
  | _, _, _, 0 => by simpa using RepAll.nil
  | _, _, .nil, _ + 1 => .nil
  | _, _, .cons h r, n + 1 => by simpa using RepAll.cons h (RepAll.take r n)
end

/-- from Z, s to Z', s': nothing that stood is changed, what is newly frozen is new -/
structure Ext (Z : Zf) (s : Shared) (Z' : Zf) (s' : Shared) : Prop where
  le : Zle Z Z'
  keep : ∀ a o, s.heap.get? a = some o → s'.heap.get? a = some o
  zin : ∀ a o, Z' a = some o → s'.heap.get? a = some o
  new : ∀ a o, Z' a = some o → Z a = some o ∨ s.heap.get? a = none
  gens : s'.gens = s.gens
  os : s'.os = s.os
  tk : s.toks ≤ s'.toks

theorem Ext.same {Z : Zf} {s : Shared} (hz : ∀ a o, Z a = some o → s.heap.get? a = some o) : Ext Z s Z s := ⟨Zle.same, fun _ _ h => h, hz, fun _ _ h => .inl h, Eq.refl _, Eq.refl _, Nat.le_refl _⟩
theorem Ext.tok {Z : Zf} {s : Shared} (hz : ∀ a o, Z a = some o → s.heap.get? a = some o) {t : Nat} (ht : s.toks ≤ t) : Ext Z s Z { s with toks := t } := ⟨Zle.same, fun _ _ h => h, hz, fun _ _ h => .inl h, Eq.refl _, Eq.refl _, ht⟩
theorem Ext.trans {Z Z' Z'' : Zf} {s s' s'' : Shared} (x : Ext Z s Z' s') (y : Ext Z' s' Z'' s'') : Ext Z s Z'' s'' where
  le := x.le.trans y.le
  keep := fun a o h => y.keep a o (x.keep a o h)
  zin := y.zin
  new := fun a o h => by
    rcases y.new a o h with h | h
    · exact x.new a o h
    · cases q : s.heap.get? a with
      | none => exact .inr (Eq.refl _)
      | some ob => rw [x.keep a ob q] at h; cases h
  gens := y.gens.trans x.gens
  os := y.os.trans x.os
  tk := Nat.le_trans x.tk y.tk
/-- only the heap's keeping counts: Z stays -/
theorem Ext.back {Z Z₁ Z' : Zf} {s s' : Shared} (x : Ext Z₁ s Z' s') (hz : ∀ a o, Z a = some o → s.heap.get? a = some o) : Ext Z s Z s' :=
  ⟨Zle.same, x.keep, fun a o h => x.keep a o (hz a o h), fun _ _ h => .inl h, x.gens, x.os, x.tk⟩

def Zadd (Z : Zf) (a : Addr) (o : Obj) : Zf := fun b => if b = a then some o else Z b
theorem Zadd.self {Z : Zf} {a : Addr} {o : Obj} : Zadd Z a o a = some o := if_pos rfl
theorem Zadd.le {Z : Zf} {a : Addr} {o : Obj} (h : Z a = none) : Zle Z (Zadd Z a o) := fun b ob e => by
  unfold Zadd
  by_cases q : b = a
  · subst q; rw [h] at e; cases e
  · rw [if_neg q]; exact e

theorem get?_size_none (h : Heap) : h.get? h.objs.size = none := by
  cases q : h.get? h.objs.size with
  | none => rfl
  | some o => exact absurd (Heap.lt_size q) (Nat.lt_irrefl _)

/-- a new object, frozen at once -/
theorem Ext.alloc {Z : Zf} {s : Shared} {o : Obj} {t : Nat} (hz : ∀ a o, Z a = some o → s.heap.get? a = some o) (hf : o.isFreed = false) (ht : s.toks ≤ t) :
    Ext Z s (Zadd Z s.heap.objs.size o) { s with heap := s.heap.push o, toks := t } where
  le := Zadd.le (by
    cases q : Z s.heap.objs.size with
    | none => rfl
    | some ob => exact absurd (hz _ _ q) (by rw [get?_size_none]; intro h; cases h))
  keep := fun a ob h => Heap.get?_push_of_some _ h
  zin := fun a ob h => by
    unfold Zadd at h
    by_cases q : a = s.heap.objs.size
    · subst q; rw [if_pos rfl] at h; cases h; exact Heap.get?_push_size _ hf
    · rw [if_neg q] at h; exact Heap.get?_push_of_some _ (hz _ _ h)
  new := fun a ob h => by
    unfold Zadd at h
    by_cases q : a = s.heap.objs.size
    · subst q; exact .inr (get?_size_none _)
    · rw [if_neg q] at h; exact .inl h
  gens := rfl
  os := rfl
  tk := ht

end Mine
end
section
open PySem PySem.W PyProof.Rows
namespace Mine

/-- what a name stands for: a datum, or a list that the frame alone holds -/
inductive B where
  | val (d : D)
  | own (ds : List D)

abbrev Loc := List (Str × B)

abbrev upd (ρ : Loc) (x : Str) (b : B) : Loc := (x, b) :: ρ

theorem lookup_upd (ρ : Loc) (x z : Str) (b : B) : (upd ρ x b).lookup z = if z = x then some b else ρ.lookup z := by
  show List.lookup z ((x, b) :: ρ) = _
  rw [List.lookup_cons]
  by_cases h : z = x
  · rw [beq_iff_eq.mpr h, if_pos h]
  · rw [beq_eq_false_iff_ne.mpr h, if_neg h]

def Has (env : Env) (h : Heap) (x : Str) (v : Value) : Prop :=
  (env.kindOf x = some .local ∧ ∃ m, h.Ns env.locals m ∧ m x = some v) ∨
  ((env.kindOf x = some .cell ∨ (env.kindOf x = some .free ∧ (x == ("__classdict__" : Str)) = false)) ∧ ∃ c, env.cells.lookup x = some c ∧ h.IsCell c (some v))

theorem Has.keeps {env : Env} {h h' : Heap} {x : Str} {v : Value} (H : Has env h x v) (hk : ∀ b o, h.get? b = some o → h'.get? b = some o) : Has env h' x v := by
  rcases H with ⟨k, m, n, e⟩ | ⟨k, c, e, n⟩
  · exact .inl ⟨k, m, n.keeps hk, e⟩
  · exact .inr ⟨k, c, e, n.keeps hk⟩

theorem ns_uniq {h : Heap} {a : Addr} {m m' : Str → Option Value} (x : h.Ns a m) (y : h.Ns a m') : m = m' := by
  obtain ⟨o, es, ep, ho, hd, hk, hf⟩ := x
  obtain ⟨o', es', ep', ho', hd', hk', hf'⟩ := y
  rw [ho] at ho'; cases ho'
  rw [hd] at hd'; cases hd'
  funext n
  rw [← hf, ← hf']

/-- the state, as the frame sees it -/
structure St (G : Gnd) (env : Env) (Z H : Zf) (ρ : Loc) (s : Shared) : Prop where
  fk : env.scope.kind = .function
  gl : env.globals = mainGlobals
  bl : env.builtins = builtinsNs
  gens : s.gens = #[]
  os : s.os = G.os
  tk : 0 < s.toks
  zin : ∀ a o, Z a = some o → s.heap.get? a = some o
  hin : ∀ a o, H a = some o → s.heap.get? a = some o
  dj : ∀ a o, Z a = some o → H a = none
  bas : ∀ a o, G.base.get? a = some o → Z a = some o ∨ H a = some o
  ns : ∃ m, s.heap.Ns env.locals m
  lz : Z env.locals = none
  lh : H env.locals = none
  cells : ∀ x c, env.cells.lookup x = some c → c ≠ env.locals ∧ (env.func.isSome = true → Z c = none ∧ H c = none ∧ ∃ v, s.heap.IsCell c v) ∧ (env.func.isSome = false → ∃ o, H c = some o)
  inj : ∀ x y c, env.cells.lookup x = some c → env.cells.lookup y = some c → x = y
  vars : ∀ x d, ρ.lookup x = some (.val d) → ∃ v, Has env s.heap x v ∧ Rep G Z v d
  owns : ∃ oa : Str → Addr, (∀ x y ds es, ρ.lookup x = some (.own ds) → ρ.lookup y = some (.own es) → oa x = oa y → x = y) ∧
    ∀ x ds, ρ.lookup x = some (.own ds) → Has env s.heap x (.ref (oa x)) ∧ Z (oa x) = none ∧ H (oa x) = none ∧ oa x ≠ env.locals ∧ (∀ y c, env.cells.lookup y = some c → oa x ≠ c) ∧
      ∃ vs n, s.heap.get? (oa x) = some (listOf vs.toArray n) ∧ RepAll G Z vs ds

section
variable {G : Gnd} {env : Env} {Z Z' H : Zf} {ρ : Loc} {s s' : Shared}

theorem St.keepBase (S : St G env Z H ρ s) : ∀ a o, G.base.get? a = some o → s.heap.get? a = some o := fun a o h =>
  (S.bas a o h).elim (S.zin a o) (S.hin a o)
theorem St.X (S : St G env Z H ρ s) : G.K.In s.heap := fun a o h => S.keepBase a o (G.X a o h)
theorem St.T (S : St G env Z H ρ s) : TopRead G.p G.loose G.mg G.mb s.heap := G.T.keeps S.keepBase

theorem ext_none {a : Addr} (x : Ext Z s Z' s') (hz : Z a = none) (ho : ∃ o, s.heap.get? a = some o) : Z' a = none := by
  cases q : Z' a with
  | none => rfl
  | some o =>
    rcases x.new a o q with h | h
    · rw [hz] at h; cases h
    · obtain ⟨ob, e⟩ := ho; rw [h] at e; cases e

theorem St.ext (S : St G env Z H ρ s) (x : Ext Z s Z' s') : St G env Z' H ρ s' where
  fk := S.fk
  gl := S.gl
  bl := S.bl
  gens := x.gens.trans S.gens
  os := x.os.trans S.os
  tk := Nat.lt_of_lt_of_le S.tk x.tk
  zin := x.zin
  hin := fun a o h => x.keep a o (S.hin a o h)
  dj := fun a o h => by
    rcases x.new a o h with h | h
    · exact S.dj a o h
    · cases q : H a with
      | none => rfl
      | some ob => rw [S.hin a ob q] at h; cases h
  bas := fun a o h => (S.bas a o h).elim (fun h => .inl (x.le a o h)) .inr
  ns := let ⟨m, n⟩ := S.ns; ⟨m, n.keeps x.keep⟩
  lz := ext_none x S.lz (let ⟨_, o, _, _, h, _⟩ := S.ns; ⟨o, h⟩)
  lh := S.lh
  cells := fun y c e => by
    obtain ⟨hl, h⟩ := S.cells y c e
    refine ⟨hl, fun hf => ?_, h.2⟩
    obtain ⟨h1, h2, v, h3⟩ := h.1 hf
    exact ⟨ext_none x h1 (let ⟨o, ho, _⟩ := h3; ⟨o, ho⟩), h2, v, h3.keeps x.keep⟩
  inj := S.inj
  vars := fun y d e => by
    obtain ⟨v, h, r⟩ := S.vars y d e
    exact ⟨v, h.keeps x.keep, r.mono x.le⟩
  owns := by
    obtain ⟨oa, hi, h⟩ := S.owns
    refine ⟨oa, hi, fun y ds e => ?_⟩
    obtain ⟨h1, h2, h3, h4, h5, vs, n, h6, h7⟩ := h y ds e
    exact ⟨h1.keeps x.keep, ext_none x h2 ⟨_, h6⟩, h3, h4, h5, vs, n, x.keep _ _ h6, h7.mono x.le⟩

theorem St.same (S : St G env Z H ρ s) : Ext Z s Z s := Ext.same S.zin

/-- the tree t ends in the datum d, and changes nothing that stood -/
def Yields (G : Gnd) (A : Around) (t : Sem Value) (Z : Zf) (d : D) (s : Shared) : Prop :=
  wpAny (model G.prog G.w) A t (fun v s' => ∃ Z', Ext Z s Z' s' ∧ Rep G Z' v d) (fun _ _ => False) s

/-- room for n more frames -/
structure Room (n : Nat) (A : Around) : Prop where
  handled : A.handled = none
  depth : A.depth + n < recursionLimit
  units : A.units + 8 * n < cLine
  guards : A.guards = some []
theorem Room.deeper {n : Nat} {A : Around} {env : Env} (r : Room (n + 1) A) : Room n (A.deeper env) := ⟨r.handled, by have := r.depth; show A.depth + 1 + n < _; omega, by have := r.units; show A.units + 3 + 8 * n < _; omega, r.guards⟩
theorem Room.less {n m : Nat} {A : Around} (r : Room n A) (h : m ≤ n) : Room m A := ⟨r.handled, by have := r.depth; omega, by have := r.units; omega, r.guards⟩

/-- the expression e is the datum d where the names are ρ -/
structure Ev (G : Gnd) (env : Env) (n : Nat) (ρ : Loc) (e : PySem.Expr) (d : D) : Prop where
  run : ∀ A Z H s, Room n A → St G env Z H ρ s → Yields G A (eval e env) Z d s

/-- a test -/
structure Tst (G : Gnd) (env : Env) (n : Nat) (ρ : Loc) (e : PySem.Expr) (b : Bool) : Prop where
  run : ∀ A Z H s, Room n A → St G env Z H ρ s → wpAny (model G.prog G.w) A (isTrue e env (eval e env)) (fun b' s' => b' = b ∧ Ext Z s Z s') (fun _ _ => False) s

variable {A : Around} {E : Value → Shared → Prop} {n : Nat}

theorem wp_seq {α : Type} {M : Model} {t : Sem α} {P Q : α → Shared → Prop} (h : wpAny M A t P (fun _ _ => False) s) (hq : ∀ v s', P v s' → Q v s') : wpAny M A t Q E s :=
  wpAny_mono h hq fun _ _ x => x.elim

/-- tokens only grow -/
theorem wp_tok {α : Type} {M : Model} {t : Sem α} {Q : α → Shared → Prop} (h : wpAny M A t (fun a s' => s.toks ≤ s'.toks → Q a s') (fun _ _ => False) s) : wpAny M A t Q (fun _ _ => False) s :=
  wpAny_with_toks (Nat.le_refl _) (wpAny_mono h (fun _ _ x => x) fun _ _ x => x.elim)

/-- a name -/
theorem ev_name {x : Str} {pos : Pos} {d : D} (h : ρ.lookup x = some (.val d)) (hd : (x == ("__debug__" : Str)) = false) : Ev G env n ρ (.Name x pos) d := by
  constructor
  intro A Z H s _ S
  obtain ⟨v, hv, r⟩ := S.vars x d h
  refine wpAny_Name ?_ hd
  rcases hv with ⟨k, m, n, e⟩ | ⟨k, c, e, n⟩
  · exact wpAny_loadName_local S.fk k n e ⟨Z, S.same, r⟩
  · rcases k with k | k
    · exact wpAny_loadName_cell S.fk k e n ⟨Z, S.same, r⟩
    · exact wpAny_loadName_free S.fk k.1 e n ⟨Z, S.same, r⟩ k.2

end
end Mine
end
section
open PySem PySem.W PyProof.Rows
namespace Mine

section
variable {G : Gnd} {env : Env} {Z Z' H : Zf} {ρ ρ' : Loc} {s s' : Shared} {A : Around} {E : Value → Shared → Prop}

theorem Has.store_local {h h' : Heap} {x y : Str} {v u : Value} {m : Str → Option Value} (hn : h.Ns env.locals m) (hn' : h'.Ns env.locals (fun y => if y = x then some v else m y))
    (hs : Heap.SameBut env.locals h h') (hcl : ∀ y c, env.cells.lookup y = some c → c ≠ env.locals) (hy : y ≠ x) (q : Has env h y u) : Has env h' y u := by
  rcases q with ⟨k, m₂, n, e⟩ | ⟨k, c, e, n⟩
  · rw [ns_uniq n hn] at e
    exact .inl ⟨k, _, hn', by simpa [hy] using e⟩
  · exact .inr ⟨k, c, e, n.sameBut hs (hcl y c e)⟩

theorem Has.store_cell {h h' : Heap} {x y : Str} {u : Value} {c : Addr} (hs : Heap.SameBut c h h') (hc : env.cells.lookup x = some c)
    (inj : ∀ x y c, env.cells.lookup x = some c → env.cells.lookup y = some c → x = y) (hcl : c ≠ env.locals) (hy : y ≠ x) (q : Has env h y u) : Has env h' y u := by
  rcases q with ⟨k, m₂, n, e⟩ | ⟨k, c', e, n⟩
  · exact .inl ⟨k, m₂, n.sameBut hs (Ne.symm hcl), e⟩
  · exact .inr ⟨k, c', e, n.sameBut hs fun q => hy (inj y x c (q ▸ e) hc)⟩

/-- a change at an address that is neither frozen nor held -/
theorem St.put (S : St G env Z H ρ s) {a : Addr} {h' : Heap} {t : Nat} (ht : s.toks ≤ t) (hs : Heap.SameBut a s.heap h') (hz : Z a = none) (hh : H a = none) (hns : ∃ m, h'.Ns env.locals m)
    (hce : ∀ y c, env.cells.lookup y = some c → env.func.isSome = true → ∃ v, h'.IsCell c v)
    (hvars : ∀ y d, ρ'.lookup y = some (.val d) → ∃ v, Has env h' y v ∧ Rep G Z v d)
    (howns : ∃ oa : Str → Addr, (∀ x y ds es, ρ'.lookup x = some (.own ds) → ρ'.lookup y = some (.own es) → oa x = oa y → x = y) ∧
      ∀ x ds, ρ'.lookup x = some (.own ds) → Has env h' x (.ref (oa x)) ∧ Z (oa x) = none ∧ H (oa x) = none ∧ oa x ≠ env.locals ∧ (∀ y c, env.cells.lookup y = some c → oa x ≠ c) ∧
        ∃ vs n, h'.get? (oa x) = some (listOf vs.toArray n) ∧ RepAll G Z vs ds) :
    St G env Z H ρ' { s with heap := h', toks := t } where
  fk := S.fk
  gl := S.gl
  bl := S.bl
  gens := S.gens
  os := S.os
  tk := Nat.lt_of_lt_of_le S.tk ht
  zin := fun b o h => (hs.2 b fun q => by rw [q, hz] at h; cases h).trans (S.zin b o h)
  hin := fun b o h => (hs.2 b fun q => by rw [q, hh] at h; cases h).trans (S.hin b o h)
  dj := S.dj
  bas := S.bas
  ns := hns
  lz := S.lz
  lh := S.lh
  cells := fun y c e => by
    obtain ⟨hl, h⟩ := S.cells y c e
    refine ⟨hl, fun hf => ?_, h.2⟩
    obtain ⟨h1, h2, _⟩ := h.1 hf
    exact ⟨h1, h2, hce y c e hf⟩
  inj := S.inj
  vars := hvars
  owns := howns

/-- where a name may be stored -/
def Can (env : Env) (x : Str) : Prop := env.kindOf x = some .local ∨ (env.kindOf x = some .cell ∧ env.func.isSome = true ∧ ∃ c, env.cells.lookup x = some c)

/-- the heaps behind a store of x: all other names stand -/
theorem wp_storeName {x : Str} {v : Value} {Q : Unit → Shared → Prop} (S : St G env Z H ρ s) (hc : Can env x)
    (h : ∀ a h' t, s.toks ≤ t → Z a = none → H a = none → Heap.SameBut a s.heap h' → (∃ m, h'.Ns env.locals m) → (∀ y c, env.cells.lookup y = some c → env.func.isSome = true → ∃ v, h'.IsCell c v) →
      Has env h' x v → (∀ y u, y ≠ x → Has env s.heap y u → Has env h' y u) → (∀ b, s.heap.get? b ≠ none → b ≠ env.locals → (∀ y c, env.cells.lookup y = some c → b ≠ c) → b ≠ a) → Q () { s with heap := h', toks := t }) :
    wpAny (model G.prog G.w) A (storeName env x v) Q E s := by
  rcases hc with k | ⟨k, hf, c, e⟩
  · obtain ⟨m, hn⟩ := S.ns
    refine wpAny_storeName_local k hn (fun h' hn' hs => ?_) (by rw [S.fk]; rfl)
    refine h env.locals h' _ (Nat.le_succ _) S.lz S.lh hs ⟨_, hn'⟩ (fun y c e hf => ?_) (.inl ⟨k, _, hn', by simp⟩) (fun y u hy q => q.store_local hn hn' hs (fun y c e => (S.cells y c e).1) hy) fun b _ hb _ => hb
    obtain ⟨hl, h1, _⟩ := S.cells y c e
    obtain ⟨_, _, v', hv⟩ := h1 hf
    exact ⟨v', hv.sameBut hs hl⟩
  · obtain ⟨hl, h1, _⟩ := S.cells x c e
    obtain ⟨hz, hh, v₀, hv⟩ := h1 hf
    refine wpAny_storeName_cell S.fk k e hv fun h' hv' hs => ?_
    refine h c h' s.toks (Nat.le_refl _) hz hh hs (let ⟨m, hn⟩ := S.ns; ⟨m, hn.sameBut hs (Ne.symm hl)⟩) (fun y c' e' hf' => ?_) (.inr ⟨.inl k, c, e, hv'⟩) (fun y u hy q => q.store_cell hs e S.inj hl hy) fun b _ _ hb => hb x c e
    by_cases q : c' = c
    · subst q; exact ⟨_, hv'⟩
    · obtain ⟨_, h2, _⟩ := S.cells y c' e'
      obtain ⟨_, _, v', hv''⟩ := h2 hf'
      exact ⟨v', hv''.sameBut hs q⟩

theorem st_store {x : Str} {v : Value} {d : D} (S : St G env Z H ρ s) (r : Rep G Z v d) (hc : Can env x) :
    wpAny (model G.prog G.w) A (storeName env x v) (fun _ s' => St G env Z H (upd ρ x (.val d)) s') E s := by
  refine wp_storeName S hc fun a h' t ht hz hh hs hns hce hx hy hb => S.put ht hs hz hh hns hce ?_ ?_
  · intro y d' e
    rw [lookup_upd] at e
    by_cases q : y = x
    · subst q; rw [if_pos rfl] at e; cases e; exact ⟨v, hx, r⟩
    · rw [if_neg q] at e
      obtain ⟨u, hu, ru⟩ := S.vars y d' e
      exact ⟨u, hy y u q hu, ru⟩
  · obtain ⟨oa, hi, ho⟩ := S.owns
    have old : ∀ y ds, (upd ρ x (.val d)).lookup y = some (.own ds) → y ≠ x ∧ ρ.lookup y = some (.own ds) := fun y ds e => by
      rw [lookup_upd] at e
      by_cases q : y = x
      · rw [if_pos q] at e; cases e
      · rw [if_neg q] at e; exact ⟨q, e⟩
    refine ⟨oa, fun y z ds es ey ez => hi y z ds es (old y ds ey).2 (old z es ez).2, fun y ds e => ?_⟩
    obtain ⟨q, e⟩ := old y ds e
    obtain ⟨h1, h2, h3, h4, h5, vs, n, h6, h7⟩ := ho y ds e
    exact ⟨hy y _ q h1, h2, h3, h4, h5, vs, n, (hs.2 _ (hb _ (by rw [h6]; intro z; cases z) h4 h5)).trans h6, h7⟩

/-- a list that none but the frame holds is stored -/
theorem st_storeOwn {x : Str} {a : Addr} {vs : List Value} {n : Nat} {ds : List D} (S : St G env Z H ρ s) (hz : Z a = none) (hh : H a = none) (hl : a ≠ env.locals)
    (hcs : ∀ y c, env.cells.lookup y = some c → a ≠ c) (hoa : ∀ y es v, ρ.lookup y = some (.own es) → Has env s.heap y v → v ≠ .ref a) (ho : s.heap.get? a = some (listOf vs.toArray n)) (r : RepAll G Z vs ds)
    (hc : Can env x) :
    wpAny (model G.prog G.w) A (storeName env x (.ref a)) (fun _ s' => St G env Z H (upd ρ x (.own ds)) s') E s := by
  refine wp_storeName S hc fun b h' t ht hz' hh' hs hns hce hx hy hb => S.put ht hs hz' hh' hns hce ?_ ?_
  · intro y d' e
    rw [lookup_upd] at e
    by_cases q : y = x
    · subst q; rw [if_pos rfl] at e; cases e
    · rw [if_neg q] at e
      obtain ⟨u, hu, ru⟩ := S.vars y d' e
      exact ⟨u, hy y u q hu, ru⟩
  · obtain ⟨oa, hi, ho'⟩ := S.owns
    have old : ∀ y es, y ≠ x → (upd ρ x (.own ds)).lookup y = some (.own es) → ρ.lookup y = some (.own es) := fun y es q e => by
      rw [lookup_upd, if_neg q] at e; exact e
    refine ⟨fun y => if y = x then a else oa y, fun y z es es' ey ez q => ?_, fun y es e => ?_⟩
    · by_cases hy : y = x <;> by_cases hz : z = x
      · rw [hy, hz]
      · simp only [hy, hz, if_true, if_false] at q
        exact absurd rfl (q ▸ hoa z _ _ (old z _ hz ez) (ho' z _ (old z _ hz ez)).1)
      · simp only [hy, hz, if_true, if_false] at q
        exact absurd (by rw [q]) (hoa y _ _ (old y _ hy ey) (ho' y _ (old y _ hy ey)).1)
      · simp only [hy, hz, if_false] at q
        exact hi y z _ _ (old y _ hy ey) (old z _ hz ez) q
    · by_cases q : y = x
      · subst q
        rw [lookup_upd, if_pos rfl] at e; cases e
        simp only [if_true]
        exact ⟨hx, hz, hh, hl, hcs, vs, n, (hs.2 _ (hb _ (by rw [ho]; intro z; cases z) hl hcs)).trans ho, r⟩
      · simp only [q, if_false]
        obtain ⟨h1, h2, h3, h4, h5, vs, n, h6, h7⟩ := ho' y es (old y es q e)
        exact ⟨hy y _ q h1, h2, h3, h4, h5, vs, n, (hs.2 _ (hb _ (by rw [h6]; intro z; cases z) h4 h5)).trans h6, h7⟩

/-- an owned list is frozen -/
theorem St.freeze {x : Str} {ds : List D} (S : St G env Z H ρ s) (hx : ρ.lookup x = some (.own ds)) : ∃ Z', Zle Z Z' ∧ St G env Z' H (upd ρ x (.val (.list ds))) s ∧
    (∀ a o, Z' a = some o → Z a = some o ∨ ∃ v, Has env s.heap x v ∧ v = .ref a) := by
  obtain ⟨oa, hi, ho⟩ := S.owns
  obtain ⟨h1, h2, h3, h4, h5, vs, n, h6, h7⟩ := ho x ds hx
  have le : Zle Z (Zadd Z (oa x) (listOf vs.toArray n)) := Zadd.le h2
  have ne : ∀ b, b ≠ oa x → Zadd Z (oa x) (listOf vs.toArray n) b = Z b := fun b hb => if_neg hb
  refine ⟨Zadd Z (oa x) (listOf vs.toArray n), le, ?_, ?_⟩
  · refine ⟨S.fk, S.gl, S.bl, S.gens, S.os, S.tk, fun b o e => ?_, S.hin, fun b o e => ?_, fun b o e => (S.bas b o e).elim (fun h => .inl (le _ _ h)) .inr, S.ns, ?_, S.lh, fun y c e => ?_, S.inj, fun y d e => ?_, ?_⟩
    · by_cases q : b = oa x
      · subst q; rw [Zadd.self] at e; cases e; exact h6
      · rw [ne b q] at e; exact S.zin b o e
    · by_cases q : b = oa x
      · subst q; exact h3
      · rw [ne b q] at e; exact S.dj b o e
    · rw [ne _ (Ne.symm h4)]; exact S.lz
    · obtain ⟨hl, h, h'⟩ := S.cells y c e
      refine ⟨hl, fun hf => ?_, h'⟩
      obtain ⟨g1, g2⟩ := h hf
      exact ⟨by rw [ne _ (Ne.symm (h5 y c e))]; exact g1, g2⟩
    · rw [lookup_upd] at e
      by_cases q : y = x
      · subst q; rw [if_pos rfl] at e; cases e
        exact ⟨_, h1, .list Zadd.self (h7.mono le)⟩
      · rw [if_neg q] at e
        obtain ⟨u, hu, ru⟩ := S.vars y d e
        exact ⟨u, hu, ru.mono le⟩
    · have old : ∀ y es, (upd ρ x (.val (.list ds))).lookup y = some (.own es) → y ≠ x ∧ ρ.lookup y = some (.own es) := fun y es e => by
        rw [lookup_upd] at e
        by_cases q : y = x
        · rw [if_pos q] at e; cases e
        · rw [if_neg q] at e; exact ⟨q, e⟩
      refine ⟨oa, fun y z es es' ey ez => hi y z es es' (old y es ey).2 (old z es' ez).2, fun y es e => ?_⟩
      obtain ⟨q, e⟩ := old y es e
      obtain ⟨g1, g2, g3, g4, g5, vs', n', g6, g7⟩ := ho y es e
      exact ⟨g1, by rw [ne _ fun z => q (hi y x _ _ e hx z)]; exact g2, g3, g4, g5, vs', n', g6, g7.mono le⟩
  · intro b o e
    by_cases q : b = oa x
    · subst q; exact .inr ⟨_, h1, rfl⟩
    · rw [ne b q] at e; exact .inl e

end
end Mine
end
section
open PySem PySem.W PyProof.Rows
set_option linter.unusedVariables false
namespace Mine

/-- the state, as a callee sees it -/
structure Bs (G : Gnd) (Z : Zf) (s : Shared) : Prop where
  gens : s.gens = #[]
  os : s.os = G.os
  tk : 0 < s.toks
  zin : ∀ a o, Z a = some o → s.heap.get? a = some o
  bas : ∀ a o, G.base.get? a = some o → s.heap.get? a = some o

section
variable {G : Gnd} {env : Env} {Z Z' H : Zf} {ρ ρ' : Loc} {s s' : Shared} {A : Around} {E : Value → Shared → Prop} {n : Nat} {pos apos : Pos}

theorem St.bs (S : St G env Z H ρ s) : Bs G Z s := ⟨S.gens, S.os, S.tk, S.zin, S.keepBase⟩
theorem Bs.ext (b : Bs G Z s) (x : Ext Z s Z' s') : Bs G Z' s' := ⟨x.gens.trans b.gens, x.os.trans b.os, Nat.lt_of_lt_of_le b.tk x.tk, x.zin, fun a o h => x.keep a o (b.bas a o h)⟩
theorem Bs.X (b : Bs G Z s) : G.K.In s.heap := fun a o h => b.bas a o (G.X a o h)
theorem Bs.T (b : Bs G Z s) : TopRead G.p G.loose G.mg G.mb s.heap := G.T.keeps b.bas
theorem Bs.nb (b : Bs G Z s) : NoneBooked s.heap := let ⟨mc, h, e⟩ := G.nb; ⟨mc, h.keeps b.bas, e⟩
theorem Bs.same (b : Bs G Z s) : Ext Z s Z s := Ext.same b.zin
theorem Bs.nolimit (b : Bs G Z s) : s.heap.NoLimit := b.T.nolimit

structure Op1 (G : Gnd) (f : Value → Sem Value) (d₁ d : D) : Prop where
  run : ∀ A Z s v₁, Room 0 A → Bs G Z s → Rep G Z v₁ d₁ → Yields G A (f v₁) Z d s
structure Op2 (G : Gnd) (f : Value → Value → Sem Value) (d₁ d₂ d : D) : Prop where
  run : ∀ A Z s v₁ v₂, Room 0 A → Bs G Z s → Rep G Z v₁ d₁ → Rep G Z v₂ d₂ → Yields G A (f v₁ v₂) Z d s
/-- what truth a value has -/
structure Tr (G : Gnd) (d : D) (b : Bool) : Prop where
  run : ∀ A Z s v, Room 0 A → Bs G Z s → Rep G Z v d → wpAny (model G.prog G.w) A (truthy v) (fun b' s' => b' = b ∧ Ext Z s Z s') (fun _ _ => False) s
/-- a built-in function, or a method with its object ahead -/
structure BF (G : Gnd) (id : String) (ds : List D) (d : D) : Prop where
  run : ∀ A Z s vs, Room 0 A → Bs G Z s → RepAll G Z vs ds → Yields G A (call (.builtin id) vs) Z d s
/-- a def of the text's -/
structure Fn (G : Gnd) (n : Nat) (f : Addr) (ds : List D) (d : D) : Prop where
  run : ∀ A Z s vs, Room n A → Bs G Z s → RepAll G Z vs ds → Yields G A (call (.ref f) vs) Z d s
structure GetM (G : Gnd) (name : Str) (d : D) (id : String) : Prop where
  run : ∀ M A pl Z s v Q E, (∀ a o, Z a = some o → s.heap.get? a = some o) → Rep G Z v d → Q (Value.builtin id, [v]) s → wpAny M A (getMethod v name pl) Q E s

theorem ev_int {i : Int} {k : Nat} : Ev G env n ρ (.Constant (.int i) k pos) (.int i) := Ev.mk fun _ Z _ _ _ S => wpAny_Constant_int ⟨Z, Ext.tok S.zin (Nat.le_succ _), .int _ _⟩
theorem ev_str {x : Str} {k : Nat} : Ev G env n ρ (.Constant (.str x) k pos) (.str x) := Ev.mk fun _ Z _ _ _ S => Calls.Constant_str ⟨Z, Ext.tok S.zin (Nat.le_succ _), .str _ _⟩
theorem ev_bool {b : Bool} {k : Nat} : Ev G env n ρ (.Constant (.bool b) k pos) (.bool b) := Ev.mk fun _ Z _ _ _ S => wpAny_pure ⟨Z, S.same, .bool _⟩
theorem ev_none {k : Nat} : Ev G env n ρ (.Constant .none k pos) .none := Ev.mk fun _ Z _ _ _ S => wpAny_pure ⟨Z, S.same, .none⟩

theorem ev_glob {x : Str} {a : Addr} (e : nsIn G.K mainGlobals x = some (some (.ref a))) (hx : env.kindOf x = some .globalImplicit) (hd : (x == ("__debug__" : Str)) = false) : Ev G env n ρ (.Name x pos) (.fn a) :=
  Ev.mk fun _ Z _ _ _ S => Calls.Name_function_global S.fk hx (Calls.loadGlobal_global (by rw [S.gl]; exact S.T.g) (mg_of G.X G.T.g e) ⟨Z, S.same, .fn _⟩) hd

theorem wp_builtinName {x : Str} {v : Value} {M : Model} {Q : Value → Shared → Prop} (S : St G env Z H ρ s) (e : nsIn G.K mainGlobals x = some none) (hv : bootBuiltins x = some v) (hn : x ≠ "__name__") (hx : env.kindOf x = some .globalImplicit)
    (hd : (x == ("__debug__" : Str)) = false) (h : Q v s) : wpAny M A (eval (.Name x pos) env) Q E s :=
  Calls.Name_function_global S.fk hx (Calls.loadGlobal_builtin (by rw [S.gl]; exact S.T.g) (mg_none_of G.X G.T.g e) (by rw [S.bl]; exact S.T.b) ((G.T.builtins x hn).trans hv) h) hd

theorem ev_binop {l r : PySem.Expr} {op : Operator} {d₁ d₂ d : D} (h₁ : Ev G env n ρ l d₁) (h₂ : Ev G env n ρ r d₂) (h₃ : Op2 G (binaryOp op) d₁ d₂ d) : Ev G env n ρ (.BinOp l op r pos) d :=
  Ev.mk fun A Z H s R S => wpAny_BinOp (wp_seq (h₁.run A Z H s R S) fun v₁ s₁ ⟨Z₁, x₁, r₁⟩ => wp_seq (h₂.run A Z₁ H s₁ R (S.ext x₁)) fun v₂ s₂ ⟨Z₂, x₂, r₂⟩ =>
    wp_seq (h₃.run A Z₂ s₂ v₁ v₂ (R.less (Nat.zero_le _)) ((S.ext x₁).ext x₂).bs (r₁.mono x₂.le) r₂) fun _ _ ⟨Z₃, x₃, r₃⟩ => ⟨Z₃, x₁.trans (x₂.trans x₃), r₃⟩)

theorem ev_cmp {l r : PySem.Expr} {op : CmpOp} {d₁ d₂ d : D} (h₁ : Ev G env n ρ l d₁) (h₂ : Ev G env n ρ r d₂) (h₃ : Op2 G (compareOp op) d₁ d₂ d) (hm : behindInMarks op r = false) : Ev G env n ρ (.Compare l [op] [r] pos) d :=
  Ev.mk fun A Z H s R S => wpAny_Compare1 (wp_seq (h₁.run A Z H s R S) fun v₁ s₁ ⟨Z₁, x₁, r₁⟩ => wp_seq (h₂.run A Z₁ H s₁ R (S.ext x₁)) fun v₂ s₂ ⟨Z₂, x₂, r₂⟩ =>
    wp_seq (h₃.run A Z₂ s₂ v₁ v₂ (R.less (Nat.zero_le _)) ((S.ext x₁).ext x₂).bs (r₁.mono x₂.le) r₂) fun _ _ ⟨Z₃, x₃, r₃⟩ => ⟨Z₃, x₁.trans (x₂.trans x₃), r₃⟩) hm

theorem tst_cmp {l r : PySem.Expr} {op : CmpOp} {d₁ d₂ : D} {b : Bool} (h₁ : Ev G env n ρ l d₁) (h₂ : Ev G env n ρ r d₂) (h₃ : Op2 G (compareOp op) d₁ d₂ (.bool b)) (hm : behindInMarks op r = false) : Tst G env n ρ (.Compare l [op] [r] pos) b :=
  Tst.mk fun A Z H s R S => wpAny_isTrue_Compare1 (wp_seq (h₁.run A Z H s R S) fun v₁ s₁ ⟨Z₁, x₁, r₁⟩ => wp_seq (h₂.run A Z₁ H s₁ R (S.ext x₁)) fun v₂ s₂ ⟨Z₂, x₂, r₂⟩ =>
    wp_seq (h₃.run A Z₂ s₂ v₁ v₂ (R.less (Nat.zero_le _)) ((S.ext x₁).ext x₂).bs (r₁.mono x₂.le) r₂) fun _ _ ⟨Z₃, x₃, r₃⟩ => by cases r₃; exact wpAny_truthy_bool ⟨rfl, (x₁.trans (x₂.trans x₃)).back S.zin⟩) hm

theorem tst_not {x : PySem.Expr} {b : Bool} (h : Tst G env n ρ x b) : Tst G env n ρ (.UnaryOp .Not x pos) (!b) :=
  Tst.mk fun A Z H s R S => isTrue_not (wp_seq (h.run A Z H s R S) fun _ _ ⟨e, x⟩ => ⟨by rw [e], x⟩)
theorem tst_and_nil : Tst G env n ρ (.BoolOp .And [] pos) true := Tst.mk fun _ _ _ _ _ S => isTrue_and_nil ⟨rfl, S.same⟩
theorem tst_or_nil : Tst G env n ρ (.BoolOp .Or [] pos) false := Tst.mk fun _ _ _ _ _ S => isTrue_or_nil ⟨rfl, S.same⟩
theorem tst_and {x : PySem.Expr} {rest : List PySem.Expr} {c b : Bool} (h : Tst G env n ρ x c) (h' : c = true → Tst G env n ρ (.BoolOp .And rest pos) b) : Tst G env n ρ (.BoolOp .And (x :: rest) pos) (c && b) :=
  Tst.mk fun A Z H s R S => isTrue_and (wp_seq (h.run A Z H s R S) fun c' s' ⟨e, x⟩ => by
    subst e
    cases c' with
    | false => exact ⟨rfl, x⟩
    | true => exact wp_seq ((h' rfl).run A Z H s' R (S.ext x)) fun _ _ ⟨e, y⟩ => ⟨e, x.trans y⟩)
theorem tst_or {x : PySem.Expr} {rest : List PySem.Expr} {c b : Bool} (h : Tst G env n ρ x c) (h' : c = false → Tst G env n ρ (.BoolOp .Or rest pos) b) : Tst G env n ρ (.BoolOp .Or (x :: rest) pos) (c || b) :=
  Tst.mk fun A Z H s R S => isTrue_or (wp_seq (h.run A Z H s R S) fun c' s' ⟨e, x⟩ => by
    subst e
    cases c' with
    | true => exact ⟨rfl, x⟩
    | false => exact wp_seq ((h' rfl).run A Z H s' R (S.ext x)) fun _ _ ⟨e, y⟩ => ⟨e, x.trans y⟩)
/-- a test by a value's truth -/
theorem tst_plain {e : PySem.Expr} {d : D} {b : Bool} (h : Ev G env n ρ e d) (t : Tr G d b) (he : ∀ whole, isTrue e env whole = (do let v ← whole; standAt e.pos; holding [v] (truthy v))) : Tst G env n ρ e b :=
  Tst.mk fun A Z H s R S => isTrue_plain (wp_seq (h.run A Z H s R S) fun v s₁ ⟨Z₁, x₁, r₁⟩ => wp_seq (t.run A Z₁ s₁ v (R.less (Nat.zero_le _)) (S.ext x₁).bs r₁) fun _ _ ⟨e, y⟩ => ⟨e, (x₁.trans y).back S.zin⟩) (he _)
theorem tst_ifexp {t b o : PySem.Expr} {c c₁ c₂ : Bool} (h : Tst G env n ρ t c) (h₁ : c = true → Tst G env n ρ b c₁) (h₂ : c = false → Tst G env n ρ o c₂) : Tst G env n ρ (.IfExp t b o pos) (if c then c₁ else c₂) :=
  Tst.mk fun A Z H s R S => isTrue_IfExp (wp_seq (h.run A Z H s R S) fun c' s' ⟨e, x⟩ => by
    subst e
    cases c' with
    | true => exact wp_seq ((h₁ rfl).run A Z H s' R (S.ext x)) fun _ _ ⟨e, y⟩ => ⟨e, x.trans y⟩
    | false => exact wp_seq ((h₂ rfl).run A Z H s' R (S.ext x)) fun _ _ ⟨e, y⟩ => ⟨e, x.trans y⟩)

theorem ev_ifexp {t b o : PySem.Expr} {c : Bool} {d₁ d₂ : D} (h : Tst G env n ρ t c) (h₁ : c = true → Ev G env n ρ b d₁) (h₂ : c = false → Ev G env n ρ o d₂) : Ev G env n ρ (.IfExp t b o pos) (if c then d₁ else d₂) :=
  Ev.mk fun A Z H s R S => IfExp_ (wp_seq (h.run A Z H s R S) fun c' s' ⟨e, x⟩ => by
    subst e
    cases c' with
    | true => exact wp_seq ((h₁ rfl).run A Z H s' R (S.ext x)) fun _ _ ⟨Z₁, y, r⟩ => ⟨Z₁, x.trans y, r⟩
    | false => exact wp_seq ((h₂ rfl).run A Z H s' R (S.ext x)) fun _ _ ⟨Z₁, y, r⟩ => ⟨Z₁, x.trans y, r⟩)

/-- several expressions in a row -/
structure Evs (G : Gnd) (env : Env) (n : Nat) (ρ : Loc) (es : List PySem.Expr) (ds : List D) : Prop where
  run : ∀ A Z H s pos, Room n A → St G env Z H ρ s → wpAny (model G.prog G.w) A (spliced (backTo pos (starEach es env))) (fun vs s' => ∃ Z', Ext Z s Z' s' ∧ RepAll G Z' vs ds) (fun _ _ => False) s
theorem evs_nil : Evs G env n ρ [] [] := Evs.mk fun _ Z _ _ _ _ S => spliced_none ⟨Z, S.same, .nil⟩
theorem evs_cons {e : PySem.Expr} {es : List PySem.Expr} {d : D} {ds : List D} (h : Ev G env n ρ e d) (h' : Evs G env n ρ es ds) (he : starEach (e :: es) env = (false, eval e env) :: starEach es env) : Evs G env n ρ (e :: es) (d :: ds) :=
  Evs.mk fun A Z H s pos R S => spliced_more (wp_seq (h.run A Z H s R S) fun v s₁ ⟨Z₁, x₁, r₁⟩ => wp_seq (h'.run A Z₁ H s₁ pos R (S.ext x₁)) fun vs s₂ ⟨Z₂, x₂, r₂⟩ => ⟨Z₂, x₁.trans x₂, .cons (r₁.mono x₂.le) r₂⟩) he

theorem wp_newTuple {vs : List Value} {ds : List D} (b : Bs G Z s) (r : RepAll G Z vs ds) (hsz : ds.length ≤ sizeLine) : Yields G A (newTuple vs) Z (.tup ds) s :=
  wpAny_newObj_type ⟨_, Ext.alloc b.zin rfl (Nat.le_refl _), .tup Zadd.self (r.mono (Ext.alloc (s := s) (t := s.toks) b.zin rfl (Nat.le_refl _)).le)⟩ (by show vs.toArray.size ≤ sizeLine; rw [List.size_toArray, r.length]; exact hsz)
theorem wp_newList {vs : List Value} {ds : List D} (b : Bs G Z s) (r : RepAll G Z vs ds) (hsz : ds.length ≤ sizeLine) : Yields G A (newList vs) Z (.list ds) s :=
  wpAny_newObj_type ⟨_, Ext.alloc b.zin rfl (Nat.le_refl _), .list Zadd.self (r.mono (Ext.alloc (s := s) (t := s.toks) b.zin rfl (Nat.le_refl _)).le)⟩ (by show vs.toArray.size ≤ sizeLine; rw [List.size_toArray, r.length]; exact hsz)

theorem ev_tuple {es : List PySem.Expr} {ds : List D} {k : Nat} (h : Evs G env n ρ es ds) (hsz : ds.length ≤ sizeLine) : Ev G env n ρ (.Tuple es k pos) (.tup ds) :=
  Ev.mk fun A Z H s R S => Tuple_ (wp_seq (h.run A Z H s pos R S) fun vs s₁ ⟨Z₁, x₁, r₁⟩ => wp_seq (wp_newTuple (S.ext x₁).bs r₁ hsz) fun _ _ ⟨Z₂, x₂, r₂⟩ => ⟨Z₂, x₁.trans x₂, r₂⟩)
theorem ev_list {es : List PySem.Expr} {ds : List D} (h : Evs G env n ρ es ds) (hsz : ds.length ≤ sizeLine) : Ev G env n ρ (.List es pos) (.list ds) :=
  Ev.mk fun A Z H s R S => List_ (wp_seq (h.run A Z H s pos R S) fun vs s₁ ⟨Z₁, x₁, r₁⟩ => wp_seq (wp_newList (S.ext x₁).bs r₁ hsz) fun _ _ ⟨Z₂, x₂, r₂⟩ => ⟨Z₂, x₁.trans x₂, r₂⟩)

theorem starred_none {es : List PySem.Expr} (h : (starEach es env).any (·.1) = false) (pos : Pos) : (backTo pos (starEach es env)).any (·.1) = false := by
  unfold backTo
  rw [List.any_map]
  exact h

theorem wp_evalArgs {M : Model} {f : Value} {args : List (Bool × Sem Value)} {Q : Args → Shared → Prop} (hp : args.any (·.1) = false)
    (h : wpAny M A (spliced args) (fun vs s₁ => Q ⟨vs, []⟩ s₁) E s) : wpAny M A (evalArgs f true args []) Q E s := by
  match args, hp, h with
  | [], _, h =>
    unfold evalArgs
    show wpAny M A (spliced [] >>= _) Q E s
    refine wpAny_bind (wpAny_mono h (fun vs s' h' => ?_) fun _ _ x => x)
    refine wpAny_bind (wpAny_pure (wpAny_holding ?_))
    exact wpAny_bind (wpAny_pure (wpAny_bind (wpAny_pure (wpAny_pure h'))))
  | (false, t) :: r, _, h => exact Calls.evalArgs_plain h
  | (true, t) :: r, hp, _ => simp at hp

/-- a call of one of the text's defs, by whatever expression it is reached -/
theorem ev_callFn {f : PySem.Expr} {es : List PySem.Expr} {a : Addr} {ds : List D} {d : D} (hf : Ev G env n ρ f (.fn a)) (h : Evs G env n ρ es ds) (hk : keepIn G.K (.ref a) = true) (hc : Fn G n a ds d)
    (hp : (starEach es env).any (·.1) = false)
    (he : eval (.Call f es [] pos) env = (do callWith pos (← eval f env) [] (backTo pos (starEach es env)) [])) : Ev G env n ρ (.Call f es [] pos) d := by
  constructor
  intro A Z H s R S
  unfold Yields
  rw [he]
  refine wpAny_bind (wp_seq (hf.run A Z H s R S) fun v s₁ ⟨Z₁, x₁, r₁⟩ => ?_)
  cases r₁
  have S₁ := S.ext x₁
  refine callWith_of (P := fun h => G.K.In h) (by rw [starred_none hp]; rfl) (keeps_K hk) (wp_evalArgs (starred_none hp pos) (wp_seq (h.run A Z₁ H s₁ pos R S₁) fun vs s₂ ⟨Z₂, x₂, r₂⟩ => ⟨(S₁.ext x₂).X, ?_⟩))
  exact wp_seq (hc.run A Z₂ s₂ vs R (S₁.ext x₂).bs r₂) fun _ _ ⟨Z₃, x₃, r₃⟩ => ⟨Z₃, x₁.trans (x₂.trans x₃), r₃⟩

/-- a call of a built-in function by its name -/
theorem ev_callBF {x : Str} {p : Pos} {id : String} {es : List PySem.Expr} {ds : List D} {d : D} (h : Evs G env n ρ es ds) (hc : BF G id ds d)
    (e : nsIn G.K mainGlobals x = some none) (hv : bootBuiltins x = some (.builtin id)) (hn : x ≠ "__name__") (hx : env.kindOf x = some .globalImplicit) (hd : (x == ("__debug__" : Str)) = false)
    (hp : (starEach es env).any (·.1) = false)
    (he : eval (.Call (.Name x p) es [] pos) env = (do callWith pos (← eval (.Name x p) env) [] (backTo pos (starEach es env)) [])) : Ev G env n ρ (.Call (.Name x p) es [] pos) d := by
  constructor
  intro A Z H s R S
  unfold Yields
  rw [he]
  refine wpAny_bind (wp_builtinName S e hv hn hx hd ?_)
  refine Calls.callWith_builtin (starred_none hp pos) (wp_evalArgs (starred_none hp pos) (wp_seq (h.run A Z H s pos R S) fun vs s₂ ⟨Z₂, x₂, r₂⟩ => ?_))
  exact wp_seq (hc.run A Z₂ s₂ vs (R.less (Nat.zero_le _)) (S.ext x₂).bs r₂) fun _ _ ⟨Z₃, x₃, r₃⟩ => ⟨Z₃, x₂.trans x₃, r₃⟩

/-- a call of a built-in class by its name -/
structure BT (G : Gnd) (T : String) (ds : List D) (d : D) : Prop where
  run : ∀ A Z s vs, Room 1 A → Bs G Z s → RepAll G Z vs ds → Yields G A (call (.type T) vs) Z d s
theorem ev_callBT {x : Str} {p : Pos} {T : String} {es : List PySem.Expr} {ds : List D} {d : D} (h : Evs G env (n + 1) ρ es ds) (hc : BT G T ds d)
    (e : nsIn G.K mainGlobals x = some none) (hv : bootBuiltins x = some (.type T)) (hn : x ≠ "__name__") (hx : env.kindOf x = some .globalImplicit) (hd : (x == ("__debug__" : Str)) = false)
    (hp : (starEach es env).any (·.1) = false)
    (he : eval (.Call (.Name x p) es [] pos) env = (do callWith pos (← eval (.Name x p) env) [] (backTo pos (starEach es env)) [])) : Ev G env (n + 1) ρ (.Call (.Name x p) es [] pos) d := by
  constructor
  intro A Z H s R S
  unfold Yields
  rw [he]
  refine wpAny_bind (wp_builtinName S e hv hn hx hd ?_)
  refine PyProof.Rows.callWith_type (starred_none hp pos) (wp_evalArgs (starred_none hp pos) (wp_seq (h.run A Z H s pos R S) fun vs s₂ ⟨Z₂, x₂, r₂⟩ => ?_))
  exact wp_seq (hc.run A Z₂ s₂ vs (R.less (by omega)) (S.ext x₂).bs r₂) fun _ _ ⟨Z₃, x₃, r₃⟩ => ⟨Z₃, x₂.trans x₃, r₃⟩

/-- a call of a method of a built-in class -/
theorem ev_method {o : PySem.Expr} {name : Str} {id : String} {es : List PySem.Expr} {d₀ : D} {ds : List D} {d : D} {pl : Sem Bool} (ho : Ev G env n ρ o d₀) (g : GetM G name d₀ id) (h : Evs G env n ρ es ds) (hc : BF G id (d₀ :: ds) d)
    (hp : (starEach es env).any (·.1) = false)
    (he : eval (.Call (.Attribute o name apos) es [] pos) env = (do
      let ov ← eval o env
      standAt apos.atName
      let (f, first) ← holding [ov] (getMethod ov name pl)
      callWith pos f first (backTo pos (starEach es env)) [])) : Ev G env n ρ (.Call (.Attribute o name apos) es [] pos) d := by
  constructor
  intro A Z H s R S
  refine MethodCall_ (wp_seq (ho.run A Z H s R S) fun v s₁ ⟨Z₁, x₁, r₁⟩ => ?_) he
  have S₁ := S.ext x₁
  refine g.run _ A pl Z₁ s₁ v _ _ S₁.zin r₁ ?_
  refine Calls.callWith_builtin (starred_none hp pos) (wp_evalArgs (starred_none hp pos) (wp_seq (h.run A Z₁ H s₁ pos R S₁) fun vs s₂ ⟨Z₂, x₂, r₂⟩ => ?_))
  exact wp_seq (hc.run A Z₂ s₂ (v :: vs) (R.less (Nat.zero_le _)) (S₁.ext x₂).bs (.cons (r₁.mono x₂.le) r₂)) fun _ _ ⟨Z₃, x₃, r₃⟩ => ⟨Z₃, x₁.trans (x₂.trans x₃), r₃⟩

/-- an item -/
def Sb (G : Gnd) (value slice : PySem.Expr) (d₁ d₂ d : D) : Prop := Op2 G (subscriptTail value slice) d₁ d₂ d
theorem ev_sub {value slice : PySem.Expr} {d₁ d₂ d : D} (h₁ : Ev G env n ρ value d₁) (h₂ : Ev G env n ρ slice d₂) (h₃ : Sb G value slice d₁ d₂ d) : Ev G env n ρ (.Subscript value slice pos) d :=
  Ev.mk fun A Z H s R S => Subscript_ (wp_seq (h₁.run A Z H s R S) fun v₁ s₁ ⟨Z₁, x₁, r₁⟩ => wp_seq (h₂.run A Z₁ H s₁ R (S.ext x₁)) fun v₂ s₂ ⟨Z₂, x₂, r₂⟩ =>
    wp_seq (h₃.run A Z₂ s₂ v₁ v₂ (R.less (Nat.zero_le _)) ((S.ext x₁).ext x₂).bs (r₁.mono x₂.le) r₂) fun _ _ ⟨Z₃, x₃, r₃⟩ => ⟨Z₃, x₁.trans (x₂.trans x₃), r₃⟩)

theorem ev_neg {e : PySem.Expr} {d₁ d : D} {op : UnaryOp} (h : Ev G env n ρ e d₁) (h' : Op1 G (unaryOp op) d₁ d) : Ev G env n ρ (.UnaryOp op e pos) d := by
  constructor
  intro A Z H s R S
  show wpAny _ _ (do let v ← eval e env; standAt pos; holding [v] (unaryOp op v)) _ _ _
  exact wpAny_bind (wp_seq (h.run A Z H s R S) fun v s₁ ⟨Z₁, x₁, r₁⟩ => wpAny_bind (wpAny_standAt (wpAny_holding (wp_seq (h'.run A Z₁ s₁ v (R.less (Nat.zero_le _)) (S.ext x₁).bs r₁) fun _ _ ⟨Z₂, x₂, r₂⟩ => ⟨Z₂, x₁.trans x₂, r₂⟩))))

end
end Mine
end
section
open PySem PySem.W PyProof.Rows
set_option linter.unusedVariables false
namespace Mine

section
variable {G : Gnd} {env : Env} {Z Z' H : Zf} {ρ ρ' : Loc} {s s' : Shared} {A : Around} {E : Value → Shared → Prop} {n : Nat} {pos apos : Pos}

/-- how a block ends -/
inductive Fl where
  | next | brk | cont
  | ret (d : D)

inductive FlRep (G : Gnd) (Z : Zf) : Flow → Fl → Prop
  | next : FlRep G Z .next .next
  | brk : FlRep G Z .brk .brk
  | cont : FlRep G Z .cont .cont
  | ret {v : Value} {d : D} : Rep G Z v d → FlRep G Z (.ret v) (.ret d)
theorem FlRep.mono {f : Flow} {fl : Fl} (hz : Zle Z Z') (h : FlRep G Z f fl) : FlRep G Z' f fl := by
  cases h with
  | next => exact .next
  | brk => exact .brk
  | cont => exact .cont
  | ret r => exact .ret (r.mono hz)

def ExPost (G : Gnd) (env : Env) (Z H : Zf) (Φ : Fl → Loc → Prop) (f : Flow) (s' : Shared) : Prop := ∃ Z' ρ' fl, Zle Z Z' ∧ St G env Z' H ρ' s' ∧ FlRep G Z' f fl ∧ Φ fl ρ'
/-- a statement -/
structure Ex (G : Gnd) (env : Env) (n : Nat) (ρ : Loc) (st : Stmt) (Φ : Fl → Loc → Prop) : Prop where
  run : ∀ A Z H s, Room n A → St G env Z H ρ s → wpAny (model G.prog G.w) A (exec st env) (ExPost G env Z H Φ) (fun _ _ => False) s
/-- statements in a row -/
structure Exs (G : Gnd) (env : Env) (n : Nat) (ρ : Loc) (sts : List Stmt) (Φ : Fl → Loc → Prop) : Prop where
  run : ∀ A Z H s, Room n A → St G env Z H ρ s → wpAny (model G.prog G.w) A (execs sts env) (ExPost G env Z H Φ) (fun _ _ => False) s

def Then (Φ : Fl → Loc → Prop) (K : Loc → Prop) : Fl → Loc → Prop
  | .next, ρ => K ρ
  | fl, ρ => Φ fl ρ

theorem exs_nil {Φ : Fl → Loc → Prop} (h : Φ .next ρ) : Exs G env n ρ [] Φ := Exs.mk fun A Z H s _ S => wpAny_execs_nil ⟨Z, ρ, .next, Zle.same, S, .next, h⟩
theorem exs_cons {st : Stmt} {rest : List Stmt} {Φ : Fl → Loc → Prop} (h : Ex G env n ρ st (Then Φ fun ρ' => Exs G env n ρ' rest Φ)) : Exs G env n ρ (st :: rest) Φ := by
  constructor
  intro A Z H s R S
  refine wpAny_execs_cons (wp_seq (h.run A Z H s R S) fun f s' ⟨Z', ρ', fl, le, S', hf, hΦ⟩ => ?_)
  cases hf with
  | next => exact wp_seq (hΦ.run A Z' H s' R S') fun f s'' ⟨Z'', ρ'', fl, le', S'', hf, h⟩ => ⟨Z'', ρ'', fl, le.trans le', S'', hf, h⟩
  | brk => exact ⟨Z', ρ', _, le, S', .brk, hΦ⟩
  | cont => exact ⟨Z', ρ', _, le, S', .cont, hΦ⟩
  | ret r => exact ⟨Z', ρ', _, le, S', .ret r, hΦ⟩
theorem exs_mono {sts : List Stmt} {Φ Ψ : Fl → Loc → Prop} (h : Exs G env n ρ sts Φ) (hΦ : ∀ fl ρ', Φ fl ρ' → Ψ fl ρ') : Exs G env n ρ sts Ψ :=
  Exs.mk fun A Z H s R S => wp_seq (h.run A Z H s R S) fun _ _ ⟨Z', ρ', fl, le, S', hf, h⟩ => ⟨Z', ρ', fl, le, S', hf, hΦ _ _ h⟩
theorem ex_assign {x : Str} {p : Pos} {e : PySem.Expr} {d : D} {Φ : Fl → Loc → Prop} (h : Ev G env n ρ e d) (hc : Can env x) (hs : swapsWith e (some (.Name x p)) pos.line env = pure false) (k : Φ .next (upd ρ x (.val d))) :
    Ex G env n ρ (.Assign [.Name x p] e pos) Φ :=
  Ex.mk fun A Z H s R S => wpAny_Assign_Name (wp_seq (h.run A Z H s R S) fun v s₁ ⟨Z₁, x₁, r₁⟩ => wp_seq (st_store (S.ext x₁) r₁ hc) fun _ s₂ S₂ => ⟨Z₁, _, _, x₁.le, S₂, .next, k⟩) hs

theorem ex_return {e : PySem.Expr} {d : D} {Φ : Fl → Loc → Prop} (h : Ev G env n ρ e d) (k : Φ (.ret d) ρ) : Ex G env n ρ (.Return (some e) pos) Φ :=
  Ex.mk fun A Z H s R S => wpAny_Return_some (wp_seq (h.run A Z H s R S) fun v s₁ ⟨Z₁, x₁, r₁⟩ => ⟨Z₁, _, _, x₁.le, S.ext x₁, .ret r₁, k⟩)
theorem ex_continue {Φ : Fl → Loc → Prop} (k : Φ .cont ρ) : Ex G env n ρ (.Continue pos) Φ := Ex.mk fun A Z H s R S => wpAny_Continue ⟨Z, _, _, Zle.same, S, .cont, k⟩
theorem ex_if {t : PySem.Expr} {body orelse : List Stmt} {c : Bool} {Φ : Fl → Loc → Prop} (h : Tst G env n ρ t c) (h₁ : c = true → Exs G env n ρ body Φ) (h₂ : c = false → Exs G env n ρ orelse Φ) : Ex G env n ρ (.If t body orelse pos) Φ :=
  Ex.mk fun A Z H s R S => wpAny_If (wp_seq (h.run A Z H s R S) fun c' s' ⟨e, x⟩ => by
    subst e
    cases c' with
    | true => exact (h₁ rfl).run A Z H s' R (S.ext x)
    | false => exact (h₂ rfl).run A Z H s' R (S.ext x))

/-- x op= e -/
theorem ex_aug {x : Str} {p : Pos} {op : Operator} {e : PySem.Expr} {d₀ d₁ d : D} {Φ : Fl → Loc → Prop} (h₀ : ρ.lookup x = some (.val d₀)) (h : Ev G env n ρ e d₁) (ho : Op2 G (inplaceOp op) d₀ d₁ d) (hc : Can env x) (k : Φ .next (upd ρ x (.val d))) :
    Ex G env n ρ (.AugAssign (.Name x p) op e pos) Φ := by
  constructor
  intro A Z H s R S
  refine wpAny_AugAssign_Name ?_
  obtain ⟨v, hv, r⟩ := S.vars x d₀ h₀
  have go : wpAny (model G.prog G.w) A (eval e env) (fun v₁ s₂ => wpAny (model G.prog G.w) A (inplaceOp op v v₁) (fun r s₃ => wpAny (model G.prog G.w) A (storeName env x r) (fun _ => ExPost G env Z H Φ .next) (fun _ _ => False) s₃) (fun _ _ => False) s₂) (fun _ _ => False) s :=
    wp_seq (h.run A Z H s R S) fun v₁ s₂ ⟨Z₁, x₁, r₁⟩ => wp_seq (ho.run A Z₁ s₂ v v₁ (R.less (Nat.zero_le _)) (S.ext x₁).bs (r.mono x₁.le) r₁) fun v₂ s₃ ⟨Z₂, x₂, r₂⟩ =>
      wp_seq (st_store ((S.ext x₁).ext x₂) r₂ hc) fun _ s₄ S₄ => ⟨Z₂, _, _, x₁.le.trans x₂.le, S₄, .next, k⟩
  rcases hv with ⟨k, m, n, e⟩ | ⟨k, c, e, n⟩
  · exact wpAny_loadName_local S.fk k n e go
  · rcases k with k | k
    · exact wpAny_loadName_cell S.fk k e n go
    · exact wpAny_loadName_free S.fk k.1 e n go k.2

/-- an object more is held -/
theorem St.hold {I : Addr} {o : Obj} (S : St G env Z H ρ s) (x : Ext Z s Z s') (hI : s.heap.get? I = none) (ho : s'.heap.get? I = some o) :
    St G env Z (Zadd H I o) ρ s' ∧ G.base.get? I = none ∧ H I = none ∧ Z I = none ∧ ∀ y c, env.cells.lookup y = some c → c ≠ I := by
  have S' := S.ext x
  have old : ∀ a ob, s.heap.get? a = some ob → a ≠ I := fun a ob h q => by rw [q, hI] at h; cases h
  have hH : H I = none := by
    cases q : H I with
    | none => rfl
    | some ob => exact absurd rfl (old I ob (S.hin I ob q))
  have hZ : Z I = none := by
    cases q : Z I with
    | none => rfl
    | some ob => exact absurd rfl (old I ob (S.zin I ob q))
  have hB : G.base.get? I = none := by
    cases q : G.base.get? I with
    | none => rfl
    | some ob => exact absurd rfl (old I ob (S.keepBase I ob q))
  have hC : ∀ y c, env.cells.lookup y = some c → c ≠ I := fun y c e => by
    obtain ⟨_, h1, h2⟩ := S.cells y c e
    cases hf : env.func.isSome with
    | true => obtain ⟨_, _, v, ob, hob, _⟩ := h1 hf; exact old c ob hob
    | false => obtain ⟨ob, hob⟩ := h2 hf; exact old c ob (S.hin c ob hob)
  have le := Zadd.le (o := o) hH
  have ne : ∀ b, b ≠ I → Zadd H I o b = H b := fun b hb => if_neg hb
  obtain ⟨oL, _, _, hoL, _⟩ := S.ns.choose_spec
  refine ⟨⟨S'.fk, S'.gl, S'.bl, S'.gens, S'.os, S'.tk, S'.zin, fun a ob h => ?_, fun a ob h => ?_, fun a ob h => (S'.bas a ob h).elim .inl (fun h => .inr (le _ _ h)), S'.ns, S'.lz, ?_, fun y c e => ?_, S'.inj, S'.vars, ?_⟩, hB, hH, hZ, hC⟩
  · by_cases q : a = I
    · subst q; rw [Zadd.self] at h; cases h; exact ho
    · rw [ne a q] at h; exact S'.hin a ob h
  · rw [ne a fun q => by rw [q, hZ] at h; cases h]; exact S'.dj a ob h
  · rw [ne _ (old _ _ hoL)]; exact S'.lh
  · obtain ⟨h0, h1, h2⟩ := S'.cells y c e
    refine ⟨h0, fun hf => ?_, fun hf => ?_⟩
    · obtain ⟨a, b, c'⟩ := h1 hf
      exact ⟨a, by rw [ne _ (hC y c e)]; exact b, c'⟩
    · obtain ⟨ob, h⟩ := h2 hf
      exact ⟨ob, le _ _ h⟩
  · obtain ⟨oa, hi, h⟩ := S.owns
    obtain ⟨oa', hi', h'⟩ := S'.owns
    refine ⟨oa, hi, fun y ds e => ?_⟩
    obtain ⟨g1, g2, g3, g4, g5, vs, k, g6, g7⟩ := h y ds e
    exact ⟨g1.keeps x.keep, g2, by rw [ne _ (old _ _ g6)]; exact g3, g4, g5, vs, k, x.keep _ _ g6, g7⟩

/-- a held object is changed -/
theorem St.turn {I : Addr} {o o' : Obj} {h' : Heap} {t : Nat} (S : St G env Z (Zadd H I o) ρ s) (hB : G.base.get? I = none) (hC : ∀ y c, env.cells.lookup y = some c → c ≠ I)
    (hk : ∀ b ob, b ≠ I → s.heap.get? b = some ob → h'.get? b = some ob) (ho : h'.get? I = some o') (ht : s.toks ≤ t) : St G env Z (Zadd H I o') ρ { s with heap := h', toks := t } := by
  have self : Zadd H I o I = some o := Zadd.self
  have ne : ∀ b, b ≠ I → Zadd H I o' b = Zadd H I o b := fun b hb => by unfold Zadd; rw [if_neg hb, if_neg hb]
  have zI : ∀ a ob, Z a = some ob → a ≠ I := fun a ob h q => by have := S.dj a ob h; rw [q, self] at this; cases this
  have nI : ∀ a, Zadd H I o a = none → a ≠ I := fun a h q => by rw [q, self] at h; cases h
  have lI := nI _ S.lh
  have has : ∀ y v, Has env s.heap y v → Has env h' y v := fun y v q => by
    rcases q with ⟨k, m, ⟨ob, es, ep, e1, e2⟩, e⟩ | ⟨k, c, e, ob, e1, e2⟩
    · exact .inl ⟨k, m, ⟨ob, es, ep, hk _ _ lI e1, e2⟩, e⟩
    · exact .inr ⟨k, c, e, ob, hk _ _ (hC y c e) e1, e2⟩
  refine ⟨S.fk, S.gl, S.bl, S.gens, S.os, Nat.lt_of_lt_of_le S.tk ht, fun a ob h => hk _ _ (zI a ob h) (S.zin a ob h), fun a ob h => ?_, fun a ob h => ?_, fun a ob h => ?_, ?_, S.lz, ?_, fun y c e => ?_, S.inj, fun y d e => ?_, ?_⟩
  · by_cases q : a = I
    · subst q; rw [Zadd.self] at h; cases h; exact ho
    · rw [ne a q] at h; exact hk _ _ q (S.hin a ob h)
  · rw [ne a (zI a ob h)]; exact S.dj a ob h
  · refine (S.bas a ob h).elim .inl fun q => .inr ?_
    rw [ne a fun z => by rw [z, hB] at h; cases h]; exact q
  · obtain ⟨m, ob, es, ep, e1, e2⟩ := S.ns; exact ⟨m, ob, es, ep, hk _ _ lI e1, e2⟩
  · rw [ne _ lI]; exact S.lh
  · obtain ⟨h0, h1, h2⟩ := S.cells y c e
    refine ⟨h0, fun hf => ?_, fun hf => ?_⟩
    · obtain ⟨a, b, v, ob, e1, e2⟩ := h1 hf
      exact ⟨a, by rw [ne _ (hC y c e)]; exact b, v, ob, hk _ _ (hC y c e) e1, e2⟩
    · obtain ⟨ob, h⟩ := h2 hf
      exact ⟨ob, by rw [ne _ (hC y c e)]; exact h⟩
  · obtain ⟨v, h, r⟩ := S.vars y d e; exact ⟨v, has y v h, r⟩
  · obtain ⟨oa, hi, h⟩ := S.owns
    refine ⟨oa, hi, fun y ds e => ?_⟩
    obtain ⟨g1, g2, g3, g4, g5, vs, k, g6, g7⟩ := h y ds e
    exact ⟨has _ _ g1, g2, by rw [ne _ (nI _ g3)]; exact g3, g4, g5, vs, k, hk _ _ (nI _ g3) g6, g7⟩

/-- it is held no more -/
theorem St.unhold {I : Addr} {o : Obj} (S : St G env Z (Zadd H I o) ρ s) (hB : G.base.get? I = none) (hC : ∀ y c, env.cells.lookup y = some c → c ≠ I) (hH : H I = none) : St G env Z H ρ s := by
  have self : Zadd H I o I = some o := Zadd.self
  have le := Zadd.le (o := o) hH
  have ne : ∀ b, b ≠ I → Zadd H I o b = H b := fun b hb => if_neg hb
  have none_of : ∀ a, Zadd H I o a = none → H a = none := fun a h => by
    cases q : H a with
    | none => rfl
    | some ob => rw [le _ _ q] at h; cases h
  refine ⟨S.fk, S.gl, S.bl, S.gens, S.os, S.tk, S.zin, fun a ob h => S.hin a ob (le _ _ h), fun a ob h => none_of a (S.dj a ob h), fun a ob h => ?_, S.ns, S.lz, none_of _ S.lh, fun y c e => ?_, S.inj, S.vars, ?_⟩
  · refine (S.bas a ob h).elim .inl fun q => .inr ?_
    rwa [ne a fun z => by rw [z, hB] at h; cases h] at q
  · obtain ⟨h0, h1, h2⟩ := S.cells y c e
    refine ⟨h0, fun hf => ?_, fun hf => ?_⟩
    · obtain ⟨a, b, v⟩ := h1 hf
      exact ⟨a, none_of _ b, v⟩
    · obtain ⟨ob, h⟩ := h2 hf
      rw [ne _ (hC y c e)] at h
      exact ⟨ob, h⟩
  · obtain ⟨oa, hi, h⟩ := S.owns
    refine ⟨oa, hi, fun y ds e => ?_⟩
    obtain ⟨g1, g2, g3, g4⟩ := h y ds e
    exact ⟨g1, g2, none_of _ g3, g4⟩

/-- a held object is let go, whatever becomes of it -/
theorem St.drop {I : Addr} {o : Obj} {h' : Heap} {t : Nat} (S : St G env Z (Zadd H I o) ρ s) (hB : G.base.get? I = none) (hC : ∀ y c, env.cells.lookup y = some c → c ≠ I) (hH : H I = none)
    (hk : ∀ b ob, b ≠ I → s.heap.get? b = some ob → h'.get? b = some ob) (ht : s.toks ≤ t) : St G env Z H ρ { s with heap := h', toks := t } := by
  have self : Zadd H I o I = some o := Zadd.self
  have le := Zadd.le (o := o) hH
  have ne : ∀ b, b ≠ I → Zadd H I o b = H b := fun b hb => if_neg hb
  have none_of : ∀ a, Zadd H I o a = none → H a = none := fun a h => by
    cases q : H a with
    | none => rfl
    | some ob => rw [le _ _ q] at h; cases h
  have zI : ∀ a ob, Z a = some ob → a ≠ I := fun a ob h q => by have := S.dj a ob h; rw [q, self] at this; cases this
  have nI : ∀ a, Zadd H I o a = none → a ≠ I := fun a h q => by rw [q, self] at h; cases h
  have hI : ∀ a ob, H a = some ob → a ≠ I := fun a ob h q => by rw [q, hH] at h; cases h
  have lI := nI _ S.lh
  have has : ∀ y v, Has env s.heap y v → Has env h' y v := fun y v q => by
    rcases q with ⟨k, m, ⟨ob, es, ep, e1, e2⟩, e⟩ | ⟨k, c, e, ob, e1, e2⟩
    · exact .inl ⟨k, m, ⟨ob, es, ep, hk _ _ lI e1, e2⟩, e⟩
    · exact .inr ⟨k, c, e, ob, hk _ _ (hC y c e) e1, e2⟩
  refine ⟨S.fk, S.gl, S.bl, S.gens, S.os, Nat.lt_of_lt_of_le S.tk ht, fun a ob h => hk _ _ (zI a ob h) (S.zin a ob h), fun a ob h => hk _ _ (hI a ob h) (S.hin a ob (le _ _ h)), fun a ob h => none_of a (S.dj a ob h), fun a ob h => ?_, ?_, S.lz, none_of _ S.lh, fun y c e => ?_, S.inj, fun y d e => ?_, ?_⟩
  · refine (S.bas a ob h).elim .inl fun q => .inr ?_
    rwa [ne a fun z => by rw [z, hB] at h; cases h] at q
  · obtain ⟨m, ob, es, ep, e1, e2⟩ := S.ns; exact ⟨m, ob, es, ep, hk _ _ lI e1, e2⟩
  · obtain ⟨h0, h1, h2⟩ := S.cells y c e
    refine ⟨h0, fun hf => ?_, fun hf => ?_⟩
    · obtain ⟨a, b, v, ob, e1, e2⟩ := h1 hf
      exact ⟨a, none_of _ b, v, ob, hk _ _ (hC y c e) e1, e2⟩
    · obtain ⟨ob, h⟩ := h2 hf
      rw [ne _ (hC y c e)] at h
      exact ⟨ob, h⟩
  · obtain ⟨v, h, r⟩ := S.vars y d e; exact ⟨v, has y v h, r⟩
  · obtain ⟨oa, hi, h⟩ := S.owns
    refine ⟨oa, hi, fun y ds e => ?_⟩
    obtain ⟨g1, g2, g3, g4, g5, vs, k, g6, g7⟩ := h y ds e
    exact ⟨has _ _ g1, g2, none_of _ g3, g4, g5, vs, k, hk _ _ (nI _ g3) g6, g7⟩

end
end Mine
end
section
open PySem PySem.W PyProof.Rows
set_option linter.unusedVariables false
namespace Mine

section
variable {G : Gnd} {env : Env} {Z Z' H : Zf} {ρ ρ' : Loc} {s s' : Shared} {A : Around} {E : Value → Shared → Prop} {n : Nat} {pos apos : Pos}

def ownsTuples (T : String) : Bool := ["enumerate", "zip", "dict_itemiterator", "dict_reverseitemiterator", "odict_iterator", "itertools.zip_longest", "itertools.pairwise"].contains T

/-- an iterator that is new, and the data that it will give -/
def ItrAt (G : Gnd) (Z : Zf) (ds : List D) (s s' : Shared) (it : Value) : Prop :=
  ∃ (I : Addr) (fp : List Addr) (P : Nat → Value → Prop) (W : Nat → Heap → Prop), it = .ref I ∧ Ext Z s Z s' ∧ s.heap.get? I = none ∧ (∀ A' : Around, A'.handled = none → Walks G.prog G.w A' I fp [I] ds.length P W) ∧
    (∀ b ∈ fp, b = I ∨ ∃ o, Z b = some o) ∧ W 0 s'.heap ∧ (∀ i h, W i h → ∃ o T, h.get? I = some o ∧ o.cls = .type T ∧ ownsTuples T = false) ∧ (∀ i v, P i v → ∃ d, ds[i]? = some d ∧ Rep G Z v d)
structure Itr (G : Gnd) (d : D) (ds : List D) : Prop where
  run : ∀ A Z s v, Room 0 A → Bs G Z s → Rep G Z v d → wpAny (model G.prog G.w) A (pyIter v) (fun it s' => ItrAt G Z ds s s' it) (fun _ _ => False) s

/-- a target takes a datum -/
structure Asg (G : Gnd) (env : Env) (tgt : PySem.Expr) (d : D) (ρ ρ' : Loc) : Prop where
  run : ∀ A Z H s v, Room 0 A → St G env Z H ρ s → Rep G Z v d → wpAny (model G.prog G.w) A (assign tgt env v) (fun _ s' => ∃ Z', Zle Z Z' ∧ St G env Z' H ρ' s') (fun _ _ => False) s
theorem asg_name {x : Str} {p : Pos} {d : D} (hc : Can env x) : Asg G env (.Name x p) d ρ (upd ρ x (.val d)) :=
  Asg.mk fun A Z H s v R S r => wpAny_assign_Name (wp_seq (st_store S r hc) fun _ _ S' => ⟨Z, Zle.same, S'⟩)

theorem wp_letOwned {tgt : PySem.Expr} {I : Addr} {v : Value} {o : Obj} {T : String} {M : Model} {Q : Unit → Shared → Prop} (ho : s.heap.get? I = some o) (hc : o.cls = .type T) (hT : ownsTuples T = false) (h : Q () s) :
    wpAny M A (letOwnedTupleGo tgt (.ref I) v) Q E s := by
  have go : wpAny M A (match (Value.ref I, v) with
    | (.ref r, .ref a) => do
      let o ← load r
      match o.cls, o.data with
      | .type n, .fields vs =>
        if ["enumerate", "zip", "dict_itemiterator", "dict_reverseitemiterator", "odict_iterator", "itertools.zip_longest", "itertools.pairwise"].contains n && vs[0]? == some (rawInt a) then
          rule "for.unpacks-the-owned-tuple"
          updateField r 0 .none
      | _, _ => pure ()
    | _ => pure ()) Q E s := by
    cases v with
    | ref a =>
      refine wpAny_bind (wpAny_load ho ?_)
      rw [hc]
      cases o.data <;> first | exact wpAny_pure h | skip
      rename_i vs
      unfold ownsTuples at hT
      dsimp only
      rw [hT]
      exact wpAny_pure h
    | _ => exact wpAny_pure h
  unfold letOwnedTupleGo
  cases tgt <;> first | exact wpAny_pure h | exact go

def LoopPost (Φ : Fl → Loc → Prop) (K : Loc → Prop) : Fl → Loc → Prop
  | .next, ρ => K ρ
  | .cont, ρ => K ρ
  | .brk, ρ => Φ .next ρ
  | .ret d, ρ => Φ (.ret d) ρ

theorem ex_for {tgt iter : PySem.Expr} {body : List Stmt} {d : D} {ds : List D} {Φ : Fl → Loc → Prop} (P : Nat → Loc → Prop) (h : Ev G env n ρ iter d) (hi : Itr G d ds) (h0 : P 0 ρ)
    (turn : ∀ i d ρ', ds[i]? = some d → P i ρ' → ∃ ρ'', Asg G env tgt d ρ' ρ'' ∧ Exs G env n ρ'' body (LoopPost Φ (P (i + 1))))
    (done : ∀ ρ', P ds.length ρ' → Φ .next ρ') (hs : ∀ x, foldedSetIterable iter env x = pure x) : Ex G env n ρ (.For tgt iter body [] pos) Φ := by
  constructor
  intro A Z H s R S
  refine wpAny_For (wp_seq (h.run A Z H s R S) fun v s₁ ⟨Z₁, x₁, r₁⟩ => wp_seq (hi.run A Z₁ s₁ v (R.less (Nat.zero_le _)) (S.ext x₁).bs r₁) fun it s₂ ⟨I, fp, P', W, e, x₂, hI, hW, hfp, hW0, hcls, hP⟩ => ?_) hs
  subst e
  have W₀ := hW A R.handled
  obtain ⟨o₂, _, ho₂, _⟩ := hcls 0 _ hW0
  obtain ⟨S₂, hB, hH, hZ, hC⟩ := (S.ext x₁).hold x₂ hI ho₂
  refine codeAny_forLoop_any (fun m s => ∃ i Zc ρc o, m = ds.length - i ∧ i ≤ ds.length ∧ Zle Z₁ Zc ∧ St G env Zc (Zadd H I o) ρc s ∧ W i s.heap ∧ P i ρc) (fun m s hm => ?_) ds.length ⟨0, Z₁, ρ, o₂, rfl, Nat.zero_le _, Zle.same, S₂, hW0, h0⟩
  obtain ⟨i, Zc, ρc, o, rfl, hle, lec, Sc, hWi, hPi⟩ := hm
  by_cases hlt : i < ds.length
  · refine wpAny_with_toks (Nat.le_refl s.toks) (W₀.item i s _ _ hlt hWi fun v h' tk pv hW' hk tok => ?_)
    obtain ⟨d', hd', rv⟩ := hP i v pv
    obtain ⟨o', T, ho', hcT, hT⟩ := hcls _ _ hW'
    have St' := Sc.turn (t := tk) hB hC (fun b ob hb e => hk b ob (by simpa using hb) e) ho' tok
    refine wp_letOwned (s := { s with heap := h', toks := tk }) ho' hcT hT ?_
    obtain ⟨ρ'', ha, hb⟩ := turn i d' ρc hd' hPi
    refine wp_seq (ha.run A Zc _ _ v (R.less (Nat.zero_le _)) St' (rv.mono lec)) fun _ s₄ ⟨Z₄, le₄, S₄⟩ => ?_
    refine wp_seq (hb.run A Z₄ _ s₄ R S₄) fun f s₅ ⟨Z₅, ρ₅, fl, le₅, S₅, hf, hΦ⟩ => ?_
    have les : Zle Z Z₅ := x₁.le.trans (lec.trans (le₄.trans le₅))
    have nx : P (i + 1) ρ₅ → ∃ m, m < ds.length - i ∧ ∃ i Zc ρc o, m = ds.length - i ∧ i ≤ ds.length ∧ Zle Z₁ Zc ∧ St G env Zc (Zadd H I o) ρc s₅ ∧ W i s₅.heap ∧ P i ρc := fun hp => by
      refine ⟨ds.length - (i + 1), by omega, i + 1, Z₅, ρ₅, o', rfl, by omega, lec.trans (le₄.trans le₅), S₅, W₀.frame _ _ _ hW' fun b hb ob e => ?_, hp⟩
      rcases hfp b hb with rfl | ⟨oz, hz⟩
      · have e' : h'.get? b = some ob := e
        rw [ho'] at e'; cases e'
        exact S₅.hin _ _ Zadd.self
      · have e1 := St'.zin b oz (lec b oz hz)
        have e' : h'.get? b = some ob := e
        have e2 : h'.get? b = some oz := e1
        rw [e'] at e2; cases e2
        exact S₅.zin _ _ (le₅ _ _ (le₄ _ _ (lec _ _ hz)))
    cases hf with
    | next => exact nx hΦ
    | cont => exact nx hΦ
    | brk => exact ⟨Z₅, ρ₅, .next, les, S₅.unhold hB hC hH, .next, hΦ⟩
    | ret r => exact ⟨Z₅, ρ₅, .ret _, les, S₅.unhold hB hC hH, .ret r, hΦ⟩
  · have hlen : i = ds.length := by omega
    subst hlen
    refine wpAny_with_toks (Nat.le_refl s.toks) (W₀.done s _ _ hWi fun h' tk hk tok => ?_)
    refine wpAny_execs_nil ?_
    exact ⟨Zc, ρc, .next, x₁.le.trans lec, Sc.drop (t := tk) hB hC hH (fun b ob hb e => hk b ob (by simpa using hb) e) tok, .next, done _ hPi⟩

/-- a while, by a measure -/
theorem ex_while {t : PySem.Expr} {body : List Stmt} {Φ : Fl → Loc → Prop} (P : Nat → Loc → Prop) {m : Nat} (h0 : P m ρ)
    (turn : ∀ m ρ', P m ρ' → ∃ c, Tst G env n ρ' t c ∧ (c = true → Exs G env n ρ' body (LoopPost Φ fun ρ'' => ∃ k, k < m ∧ P k ρ'')) ∧ (c = false → Φ .next ρ')) : Ex G env n ρ (.While t body [] pos) Φ := by
  constructor
  intro A Z H s R S
  refine wpAny_While ?_
  refine codeAny_whileLoop (fun m s => ∃ Zc ρc, Zle Z Zc ∧ St G env Zc H ρc s ∧ P m ρc) (fun m s hm => ?_) m ⟨Z, ρ, Zle.same, S, h0⟩
  obtain ⟨Zc, ρc, lec, Sc, hp⟩ := hm
  obtain ⟨c, ht, h1, h2⟩ := turn m ρc hp
  refine wp_seq (ht.run A Zc H s R Sc) fun c' s₁ ⟨e, x⟩ => ?_
  subst e
  cases c' with
  | false => exact wpAny_execs_nil ⟨Zc, ρc, .next, lec, Sc.ext x, .next, h2 rfl⟩
  | true =>
    refine wp_seq ((h1 rfl).run A Zc H s₁ R (Sc.ext x)) fun f s₂ ⟨Z₂, ρ₂, fl, le₂, S₂, hf, hΦ⟩ => ?_
    cases hf with
    | next => obtain ⟨k, hk, hp⟩ := hΦ; exact ⟨k, hk, Z₂, ρ₂, lec.trans le₂, S₂, hp⟩
    | cont => obtain ⟨k, hk, hp⟩ := hΦ; exact ⟨k, hk, Z₂, ρ₂, lec.trans le₂, S₂, hp⟩
    | brk => exact ⟨Z₂, ρ₂, .next, lec.trans le₂, S₂, .next, hΦ⟩
    | ret r => exact ⟨Z₂, ρ₂, .ret _, lec.trans le₂, S₂, .ret r, hΦ⟩

/-- the text's def at an address -/
structure DefAt (G : Gnd) (a : Addr) (fd : FuncData) (body : List Stmt) : Prop where
  obj : ∃ o, G.K.lookup a = some o ∧ o.data = .func fd
  code : codeIn G.K fd.code fd.qualname = true
  body : fd.body = .stmts body
  closure : fd.closure = []
  gl : fd.globals = mainGlobals
  bl : fd.builtins = builtinsNs
  co : fd.scope.isCoroutine = false
  gen : fd.scope.isGenerator = false
  kind : fd.scope.kind = .function

theorem DefAt.keep {a : Addr} {fd : FuncData} {body : List Stmt} (D : DefAt G a fd body) : keepIn G.K (.ref a) = true := by
  obtain ⟨⟨oc, od, odt, osl⟩, h, e⟩ := D.obj
  unfold keepIn
  cases e
  simp only [h]

/-- the names that the parameters are, at the start -/
def startLoc : List Str → List D → Loc
  | x :: xs, d :: ds => (x, .val d) :: startLoc xs ds
  | _, _ => []

end
end Mine
end
section
open PySem PySem.W PyProof.Rows
set_option linter.unusedVariables false
namespace Mine

section
variable {G : Gnd} {env : Env} {Z Z' H : Zf} {ρ ρ' : Loc} {s s' : Shared} {A : Around} {E : Value → Shared → Prop} {n : Nat} {pos apos : Pos}

theorem bindL_skip {k : Str → Option NameKind} {x : Str} : ∀ {bs : List (Str × Value)} {m : Str → Option Value}, x ∉ bs.map (·.1) → bindL k bs m x = m x
  | [], _, _ => rfl
  | (y, v) :: r, m, h => by
    simp only [List.map_cons, List.mem_cons, not_or] at h
    unfold bindL
    rw [bindL_skip h.2]
    split
    · exact if_neg h.1
    · rfl
theorem bindL_get {k : Str → Option NameKind} {x : Str} {v : Value} (hk : k x = some .local) : ∀ {bs : List (Str × Value)} {m : Str → Option Value}, (bs.map (·.1)).Nodup → (x, v) ∈ bs → bindL k bs m x = some v
  | (y, w) :: r, m, hn, h => by
    simp only [List.map_cons, List.nodup_cons] at hn
    unfold bindL
    rcases List.mem_cons.mp h with e | h
    · cases e
      rw [bindL_skip hn.1, if_pos hk, if_pos rfl]
    · exact bindL_get hk hn.2 h
theorem bindC_skip {k : Str → Option NameKind} {x : Str} : ∀ {bs : List (Str × Value)} {m : Str → Option Value}, x ∉ bs.map (·.1) → bindC k bs m x = m x
  | [], _, _ => rfl
  | (y, v) :: r, m, h => by
    simp only [List.map_cons, List.mem_cons, not_or] at h
    unfold bindC
    rw [bindC_skip h.2]
    split
    · rfl
    · exact if_neg h.1
theorem bindC_get {k : Str → Option NameKind} {x : Str} {v : Value} (hk : k x = some .cell) : ∀ {bs : List (Str × Value)} {m : Str → Option Value}, (bs.map (·.1)).Nodup → (x, v) ∈ bs → bindC k bs m x = some v
  | (y, w) :: r, m, hn, h => by
    simp only [List.map_cons, List.nodup_cons] at hn
    unfold bindC
    rcases List.mem_cons.mp h with e | h
    · cases e
      rw [bindC_skip hn.1, if_neg (by rw [hk]; decide), if_pos rfl]
    · exact bindC_get hk hn.2 h

theorem startLoc_lookup {b : B} : ∀ {xs : List Str} {ds : List D} {vs : List Value} {x : Str}, RepAll G Z vs ds → xs.length = ds.length → (startLoc xs ds).lookup x = some b → ∃ v d, b = .val d ∧ (x, v) ∈ xs.zip vs ∧ Rep G Z v d
  | [], _, _, _, _, _, h => by simp [startLoc] at h
  | y :: xs, [], _, _, _, hl, _ => by simp at hl
  | y :: xs, d :: ds, v :: vs, x, .cons r rs, hl, h => by
    unfold startLoc at h
    rw [List.lookup_cons] at h
    by_cases q : x = y
    · subst q
      simp at h
      subst h
      exact ⟨v, d, rfl, by simp, r⟩
    · rw [beq_eq_false_iff_ne.mpr q] at h
      obtain ⟨v', d', e, hm, r'⟩ := startLoc_lookup rs (by simpa using hl) h
      exact ⟨v', d', e, by simp [hm], r'⟩

/-- what a call leaves, once its frame is gone -/
theorem ext_of_frame (b : Bs G Z s) (hZ' : Zle Z Z') (S : St G env Z' (fun a => if Z a = none then s.heap.get? a else none) ρ s') (ht : s.toks ≤ s'.toks) : Ext Z s Z' s' where
  le := hZ'
  keep := fun a o h => by
    cases q : Z a with
    | some o' =>
      have := b.zin a o' q
      rw [h] at this; cases this
      exact S.zin _ _ (hZ' _ _ q)
    | none => exact S.hin a o (by simp [q, h])
  zin := S.zin
  new := fun a o h => by
    cases q : Z a with
    | some o' => left; have := hZ' _ _ q; rw [h] at this; cases this; rfl
    | none =>
      right
      have := S.dj a o h
      simpa [q] using this
  gens := S.gens.trans b.gens.symm
  os := S.os.trans b.os.symm
  tk := ht

def RetPost (d : D) : Fl → Loc → Prop
  | .ret d', _ => d' = d
  | .next, _ => d = .none
  | _, _ => False

theorem fn_of {a : Addr} {fd : FuncData} {body : List Stmt} {xs : List Str} {ds : List D} {d : D} (D : DefAt G a fd body) (hb : ∀ vs : List Value, vs.length = xs.length → bindArgs fd ⟨vs, []⟩ = pure (xs.zip vs)) (hlen : xs.length = ds.length)
    (hx : ∀ x ∈ xs, fd.scope.names.lookup x = some .local ∨ (fd.scope.names.lookup x = some .cell ∧ ∀ k, ((cellsFrom k fd.scope.names []).lookup x).isSome = true)) (hnd : xs.Nodup)
    (h : ∀ L, Exs G (callEnvC fd L a) n (startLoc xs ds) body (RetPost d)) : Fn G (n + 1) a ds d := by
  constructor
  intro A Z s vs R b r
  obtain ⟨o, ho, hd⟩ := D.obj
  have hvl : vs.length = xs.length := r.length.trans hlen.symm
  have hmap : (xs.zip vs).map (·.1) = xs := by rw [List.map_fst_zip]; omega
  have hnd' : ((xs.zip vs).map (·.1)).Nodup := by rw [hmap]; exact hnd
  refine wp_tok ?_
  refine wpAny_call ?_
  refine codeAny_call_function (by have := R.depth; omega) (b.X _ _ ho) hd D.co D.gen D.body (codeRec_of b.X D.code) ?_
  rw [hb vs hvl, D.closure]
  refine wpAny_pure (wpAny_with_toks (Nat.le_refl s.toks) (wpAny_newFunctionEnv_cells D.kind (fun x hm => ?_) fun env he s₁ x tok => ?_))
  · have : x.1 ∈ xs := by rw [← hmap]; exact List.mem_map_of_mem hm
    rcases hx _ this with q | ⟨q, q'⟩
    · exact .inl q
    · exact .inr ⟨q, q' _⟩
  subst he
  have hcall := x.toInCall
  obtain ⟨h₁, tk, rfl, hk₁⟩ := x.done
  refine ⟨b.nolimit.keeps hcall.keep, codeAny_func ?_⟩
  have HZ : ∀ a' o', (if Z a' = none then s.heap.get? a' else none) = some o' → Z a' = none ∧ s.heap.get? a' = some o' := fun a' o' e => by
    split at e
    · rename_i q; exact ⟨q, e⟩
    · cases e
  have hLnone : s.heap.get? s.heap.objs.size = none := get?_size_none _
  have nz : ∀ c, s.heap.objs.size ≤ c → s.heap.get? c = none := fun c hc => by
    cases q : s.heap.get? c with
    | none => rfl
    | some ob => exact absurd (Heap.lt_size q) (Nat.not_lt.mpr hc)
  have nzZ : ∀ c, s.heap.objs.size ≤ c → Z c = none := fun c hc => by
    cases q : Z c with
    | none => rfl
    | some ob => have := b.zin c ob q; rw [nz c hc] at this; cases this
  have S₁ : St G (callEnvC fd s.heap.objs.size a) Z (fun a => if Z a = none then s.heap.get? a else none) (startLoc xs ds) { s with heap := h₁, toks := tk } := by
    refine ⟨D.kind, D.gl, D.bl, b.gens, b.os, Nat.lt_of_lt_of_le b.tk tok, fun a' o' e => hk₁ _ _ (b.zin _ _ e), fun a' o' e => hk₁ _ _ (HZ _ _ e).2, fun a' o' e => by simp [e], fun a' o' e => ?_, ⟨_, hcall.ns⟩, nzZ _ (Nat.le_refl _), ?_, fun y c e => ⟨?_, fun _ => ?_, fun hf => by cases hf⟩, ?_, fun y d' e => ?_, ?_⟩
    · have e' := b.bas _ _ e
      cases q : Z a' with
      | none => right; simp [q, e']
      | some ob => left; have := b.zin _ _ q; rw [e'] at this; cases this; rfl
    · show (if Z s.heap.objs.size = none then s.heap.get? s.heap.objs.size else none) = none
      rw [nzZ _ (Nat.le_refl _), if_pos rfl]; exact hLnone
    · exact Nat.ne_of_gt (x.above y c (mem_of_lookup e))
    · have hc : s.heap.objs.size ≤ c := Nat.le_of_lt (x.above y c (mem_of_lookup e))
      refine ⟨nzZ c hc, ?_, _, x.cell y c e⟩
      show (if Z c = none then s.heap.get? c else none) = none
      rw [nzZ c hc, if_pos rfl]; exact nz c hc
    · exact fun y z c e e' => name_of_addr x.apart (mem_of_lookup e) (mem_of_lookup e')
    · obtain ⟨v, d'', e', hm, r'⟩ := startLoc_lookup r hlen e
      cases e'
      have hxm : y ∈ xs := by rw [← hmap]; exact List.mem_map_of_mem hm
      refine ⟨v, ?_, r'⟩
      rcases hx y hxm with q | ⟨q, q'⟩
      · exact .inl ⟨q, _, hcall.ns, bindL_get (k := (callEnvC fd s.heap.objs.size a).kindOf) q hnd' hm⟩
      · obtain ⟨c, hc⟩ := Option.isSome_iff_exists.mp (q' (s.heap.objs.size + 1))
        refine .inr ⟨.inl q, c, hc, ?_⟩
        have := x.cell y c hc
        exact (bindC_get (k := (callEnvC fd s.heap.objs.size a).kindOf) q hnd' hm) ▸ this
    · refine ⟨fun _ => 0, fun y z es es' e => ?_, fun y es e => ?_⟩
      · obtain ⟨_, _, e', _⟩ := startLoc_lookup r hlen e; cases e'
      · obtain ⟨_, _, e', _⟩ := startLoc_lookup r hlen e; cases e'
  refine wp_seq ((h s.heap.objs.size).run _ Z _ _ R.deeper S₁) fun f s₂ ⟨Z₂, ρ₂, fl, le₂, S₂, hf, hΦ⟩ tok₂ => ?_
  cases hf with
  | next => cases hΦ; exact ⟨Z₂, ext_of_frame b le₂ S₂ tok₂, .none⟩
  | brk => exact hΦ.elim
  | cont => exact hΦ.elim
  | ret r' => cases hΦ; exact ⟨Z₂, ext_of_frame b le₂ S₂ tok₂, r'⟩

end
end Mine
end
section
open PySem PySem.W PyProof.Rows
set_option linter.unusedVariables false
namespace Mine

section
variable {G : Gnd} {env : Env} {Z Z' H H' : Zf} {ρ ρ' : Loc} {s s' : Shared} {A : Around} {E : Value → Shared → Prop} {n : Nat} {pos apos : Pos}

/-- what is known is forgotten -/
def Sub (ρ ρ' : Loc) : Prop := ∀ x b, ρ.lookup x = some b → ρ'.lookup x = some b
theorem St.weaken (S : St G env Z H ρ' s) (h : Sub ρ ρ') : St G env Z H ρ s :=
  { S with
    vars := fun x d e => S.vars x d (h x _ e)
    owns := let ⟨oa, hi, ho⟩ := S.owns; ⟨oa, fun x y ds es ex ey => hi x y ds es (h x _ ex) (h y _ ey), fun x ds e => ho x ds (h x _ e)⟩ }
theorem Sub.same : Sub ρ ρ := fun _ _ h => h
theorem Sub.trans {ρ'' : Loc} (a : Sub ρ ρ') (b : Sub ρ' ρ'') : Sub ρ ρ'' := fun x b' h => b x b' (a x b' h)
theorem sub_upd {x : Str} {b : B} (h : ρ.lookup x = none) : Sub ρ (upd ρ x b) := fun y c e => by
  rw [lookup_upd]
  rw [if_neg fun q => by rw [q, h] at e; cases e]
  exact e

/-- held objects are changed, or held anew, or no more -/
theorem St.shift (S : St G env Z H ρ s) {h' : Heap} {t : Nat} (T : Addr → Prop) (hT : ∀ a, T a → G.base.get? a = none ∧ (∀ y c, env.cells.lookup y = some c → c ≠ a) ∧ ((∃ o, H a = some o) ∨ s.heap.get? a = none))
    (hk : ∀ b ob, ¬ T b → s.heap.get? b = some ob → h'.get? b = some ob) (hH : ∀ b, ¬ T b → H' b = H b) (hH' : ∀ a o, T a → H' a = some o → h'.get? a = some o) (ht : s.toks ≤ t) : St G env Z H' ρ { s with heap := h', toks := t } := by
  have zT : ∀ a ob, Z a = some ob → ¬ T a := fun a ob h q => by
    rcases (hT a q).2.2 with ⟨o, e⟩ | e
    · have := S.dj a ob h; rw [e] at this; cases this
    · have := S.zin a ob h; rw [e] at this; cases this
  have nT : ∀ a ob, s.heap.get? a = some ob → H a = none → ¬ T a := fun a ob h hn q => by
    rcases (hT a q).2.2 with ⟨o, e⟩ | e
    · rw [hn] at e; cases e
    · rw [h] at e; cases e
  obtain ⟨m, oL, es, ep, eL, eL'⟩ := S.ns
  have lT := nT _ _ eL S.lh
  have cT : ∀ y c, env.cells.lookup y = some c → ¬ T c := fun y c e q => (hT c q).2.1 y c e rfl
  have has : ∀ y v, Has env s.heap y v → Has env h' y v := fun y v q => by
    rcases q with ⟨k, m, ⟨ob, es, ep, e1, e2⟩, e⟩ | ⟨k, c, e, ob, e1, e2⟩
    · exact .inl ⟨k, m, ⟨ob, es, ep, hk _ _ lT e1, e2⟩, e⟩
    · exact .inr ⟨k, c, e, ob, hk _ _ (cT y c e) e1, e2⟩
  refine ⟨S.fk, S.gl, S.bl, S.gens, S.os, Nat.lt_of_lt_of_le S.tk ht, fun a ob h => hk _ _ (zT a ob h) (S.zin a ob h), fun a ob h => ?_, fun a ob h => ?_, fun a ob h => ?_, ⟨m, oL, es, ep, hk _ _ lT eL, eL'⟩, S.lz, ?_, fun y c e => ?_, S.inj, fun y d e => ?_, ?_⟩
  · by_cases q : T a
    · exact hH' a ob q h
    · rw [hH a q] at h; exact hk _ _ q (S.hin a ob h)
  · rw [hH a (zT a ob h)]; exact S.dj a ob h
  · refine (S.bas a ob h).elim .inl fun q => .inr ?_
    rw [hH a fun z => by rw [(hT a z).1] at h; cases h]; exact q
  · rw [hH _ lT]; exact S.lh
  · obtain ⟨h0, h1, h2⟩ := S.cells y c e
    refine ⟨h0, fun hf => ?_, fun hf => ?_⟩
    · obtain ⟨a, b, v, ob, e1, e2⟩ := h1 hf
      exact ⟨a, by rw [hH _ (cT y c e)]; exact b, v, ob, hk _ _ (cT y c e) e1, e2⟩
    · obtain ⟨ob, h⟩ := h2 hf
      exact ⟨ob, by rw [hH _ (cT y c e)]; exact h⟩
  · obtain ⟨v, h, r⟩ := S.vars y d e; exact ⟨v, has y v h, r⟩
  · obtain ⟨oa, hi, h⟩ := S.owns
    refine ⟨oa, hi, fun y ds e => ?_⟩
    obtain ⟨g1, g2, g3, g4, g5, vs, k, g6, g7⟩ := h y ds e
    exact ⟨has _ _ g1, g2, by rw [hH _ (nT _ _ g6 g3)]; exact g3, g4, g5, vs, k, hk _ _ (nT _ _ g6 g3) g6, g7⟩

structure Tsts (G : Gnd) (env : Env) (n : Nat) (ρ : Loc) (ifs : List PySem.Expr) (ok : Bool) : Prop where
  run : ∀ A Z H s, Room n A → St G env Z H ρ s → wpAny (model G.prog G.w) A (forIn ifs true fun c r => if r = true then do let ok ← isTrue c env (eval c env); pure (ForInStep.yield ok) else pure (ForInStep.yield r)) (fun b s' => b = ok ∧ Ext Z s Z s') (fun _ _ => False) s
theorem tsts_nil : Tsts G env n ρ [] true := Tsts.mk fun A Z H s R S => wpAny_tests_nil ⟨rfl, S.same⟩
theorem tsts_one {c : PySem.Expr} {ok : Bool} (h : Tst G env n ρ c ok) : Tsts G env n ρ [c] ok := Tsts.mk fun A Z H s R S => wpAny_tests_one (h.run A Z H s R S)

/-- what stands while a comprehension's loop runs: its iterator and its list are held -/
structure CRun (G : Gnd) (env : Env) (n : Nat) (e : PySem.Expr) (k : Nat) (ρ : Loc) (ds : List D) (out : List D) : Prop where
  run : ∀ A Z H s I D fp P W vs m outs o, Room n A → St G env Z H ρ s → H I = some o → H D = some (listOf vs.toArray m) → I ≠ D → RepAll G Z vs outs → outs.length + out.length ≤ sizeLine →
    G.base.get? I = none → G.base.get? D = none → (∀ y c, env.cells.lookup y = some c → c ≠ I ∧ c ≠ D) →
    (∀ A' : Around, A'.handled = none → Walks G.prog G.w A' I fp [I] ds.length P W) → (∀ b ∈ fp, b = I ∨ ∃ o, Z b = some o) → W 0 s.heap → (∀ i h, W i h → ∃ o T, h.get? I = some o ∧ o.cls = .type T ∧ ownsTuples T = false) →
    (∀ i v, P i v → ∃ d, ds[i]? = some d ∧ Rep G Z v d) →
    codeAny (model G.prog G.w) A (.compLoop e k (.ref I) (.ref D) env) (fun r s' => r = .ok .next ∧ ∃ Z' H' vs' m', Zle Z Z' ∧ (∀ b, b ≠ I → b ≠ D → H' b = H b) ∧ H' I = none ∧ H' D = some (listOf vs'.toArray m') ∧
      St G env Z' H' ρ s' ∧ RepAll G Z' vs' (outs ++ out)) s

theorem comp_start {elt : PySem.Expr} {gens : List Comprehension} {g : Comprehension} {scope : Scope} {k : Nat} {it acc : Value} {R : Result → Shared → Prop} {prog : Program} {w : World} (hg : gens[k]? = some g) (ha : g.is_async = 0)
    (h0 : codeAny (model prog w) A (.compLoop (.ListComp elt gens scope pos) k it acc env) R s)
    (h : wpAny (model prog w) A (pyIter it) (fun it' s' => codeAny (model prog w) A (.compLoop (.ListComp elt gens scope pos) k it' acc env) R s') (notedBy (model prog w) A env fun x s' => R (.error x) s') s) :
    codeAny (model prog w) A (.compStart (.ListComp elt gens scope pos) k it acc env) R s := by
  refine codeAny_of_tree ?_
  show wpAny _ _ ((compStart (.ListComp elt gens scope pos) k it acc env).onRaise (fun x => do noteFrame x env; standAt theWindowsPlace)) _ _ s
  refine wpAny_notedAt ?_
  unfold compStart
  simp only [clausesOf, hg, Option.elim_some, ha]
  show wpAny _ _ (ask >>= _) _ _ s
  refine wpAny_bind (wpAny_askSetting (wpAny_ite ?_))
  split
  · exact wpAny_pure (And.intro rfl h0)
  · exact wpAny_bind (wpAny_rule (wpAny_bind (wpAny_standAt (wpAny_bind (wpAny_mono h (fun it' s' h' => wpAny_pure (And.intro rfl h')) fun _ _ x => x)))))

def CInv (G : Gnd) (env : Env) (ρ : Loc) (Z H : Zf) (I D : Addr) {α : Type} (xs : List α) (F : α → List Mine.D) (outs : List Mine.D) (W : Nat → Heap → Prop) (j : Nat) (s : Shared) : Prop :=
  ∃ (i : Nat) (Zc Hc : Zf) (vs : List Value) (m : Nat) (o : Obj), j = xs.length - i ∧ i ≤ xs.length ∧ Zle Z Zc ∧ (∀ b, b ≠ I → b ≠ D → Hc b = H b) ∧ Hc I = some o ∧ Hc D = some (listOf vs.toArray m) ∧ St G env Zc Hc ρ s ∧ W i s.heap ∧
    RepAll G Zc vs (outs ++ (xs.take i).flatMap F)
def OkThen (P : Shared → Prop) : Result → Shared → Prop
  | .ok _, s => P s
  | .error _, _ => False

/-- the last clause of a comprehension -/
theorem comp_last {elt tgt iter : PySem.Expr} {ifs : List PySem.Expr} {gens : List Comprehension} {scope : Scope} {k : Nat} {α : Type} {xs : List α} {mk : α → D} {F : α → List D}
    (he : ∀ it acc, compTurn (.ListComp elt gens scope pos) k it acc env = (do
      standAt iter.pos
      match ← pyNext it with
      | none => pure (.done .next)
      | some v =>
        letOwnedTupleGo tgt it v
        assign tgt env v
        let mut ok := true
        for c in ifs do
          if ok then ok ← isTrue c env (eval c env)
        if ok then
          (do let _ ← call (.builtin "list.append") [acc, ← eval elt env])
        again (.compLoop (.ListComp elt gens scope pos) k it acc env)))
    (item : ∀ a ∈ xs, ∃ ρ₁ ok, Asg G env tgt (mk a) ρ ρ₁ ∧ Sub ρ ρ₁ ∧ Tsts G env n ρ₁ ifs ok ∧ (ok = false → F a = []) ∧ (ok = true → ∃ x, Ev G env n ρ₁ elt x ∧ F a = [x])) :
    CRun G env n (.ListComp elt gens scope pos) k ρ (xs.map mk) (xs.flatMap F) := by
  constructor
  intro A Z H s I D fp P W vs m outs o R S hI hD hID hv hsz hBI hBD hC hW hfp hW0 hcls hP
  have W₀ := hW A R.handled
  refine codeAny_loop rfl (CInv G env ρ Z H I D xs F outs W) (fun j s hj => ?_) xs.length ⟨0, Z, H, vs, m, o, rfl, Nat.zero_le _, Zle.same, fun _ _ _ => rfl, hI, hD, S, hW0, by simpa using hv⟩
  obtain ⟨i, Zc, Hc, vs, m, o, rfl, hle, lec, hHc, hI, hD, Sc, hWi, hv⟩ := hj
  show wpAny _ A ((compTurn (.ListComp elt gens scope pos) k (.ref I) (.ref D) env).onRaise (fun x => do noteFrame x env; theTreesLotGoes x)) _ _ s
  refine wpAny_noted ?_
  rw [he]
  have len : (xs.map mk).length = xs.length := List.length_map ..
  by_cases hlt : i < xs.length
  · refine wpAny_bind (wpAny_standAt (wpAny_bind (wpAny_with_toks (Nat.le_refl s.toks) (W₀.item i s _ _ (by omega) hWi fun v h' tk pv hW' hk tok => ?_))))
    obtain ⟨d', hd', rv⟩ := hP i v pv
    obtain ⟨o', T, ho', hcT, hTT⟩ := hcls _ _ hW'
    obtain ⟨a, ha⟩ : ∃ a, xs[i]? = some a := ⟨xs[i], by simp [hlt]⟩
    have hd'' : d' = mk a := by rw [List.getElem?_map, ha] at hd'; simpa using hd'.symm
    subst hd''
    have S₁ : St G env Zc (Zadd Hc I o') ρ { s with heap := h', toks := tk } := Sc.shift (fun b => b = I) (fun b q => by subst q; exact ⟨hBI, fun y c e => (hC y c e).1, .inl ⟨_, hI⟩⟩) (fun b ob hb e => hk b ob (by simpa using hb) e)
      (fun b hb => if_neg hb) (fun b ob q e => by subst q; rw [Zadd.self] at e; cases e; exact ho') tok
    have hD₁ : Zadd Hc I o' D = some (listOf vs.toArray m) := by rw [show Zadd Hc I o' D = Hc D from if_neg (Ne.symm hID)]; exact hD
    refine wpAny_bind (wp_letOwned (s := { s with heap := h', toks := tk }) ho' hcT hTT ?_)
    obtain ⟨ρ₁, ok, hasg, hsub, htst, hno, hyes⟩ := item a (List.mem_of_getElem? ha)
    refine wpAny_bind (wp_seq (hasg.run A Zc _ _ v (R.less (Nat.zero_le _)) S₁ (rv.mono lec)) fun _ s₂ ⟨Z₂, le₂, S₂⟩ => ?_)
    refine wpAny_bind (wp_seq (htst.run A Z₂ _ s₂ R S₂) fun ok' s₃ ⟨eo, x₃⟩ => ?_)
    subst eo
    have S₃ := S₂.ext x₃
    have take_succ : (xs.take (i + 1)).flatMap F = (xs.take i).flatMap F ++ F a := by rw [List.take_add_one, ha]; simp
    have nextW : ∀ (Z₄ H₄ : Zf) (s₄ : Shared) (ρ₄ : Loc), Zle Zc Z₄ → H₄ I = some o' → St G env Z₄ H₄ ρ₄ s₄ → W (i + 1) s₄.heap := fun Z₄ H₄ s₄ ρ₄ le₄ hI₄ S₄ => W₀.frame _ _ _ hW' fun b hb ob e => by
      rcases hfp b hb with rfl | ⟨oz, hz⟩
      · rw [ho'] at e; cases e; exact S₄.hin _ _ hI₄
      · have e2 : h'.get? b = some oz := S₁.zin b oz (lec b oz hz)
        rw [e] at e2; cases e2
        exact S₄.zin _ _ (le₄ _ _ (lec _ _ hz))
    cases ok' with
    | false =>
      refine wpAny_pure ⟨rfl, xs.length - (i + 1), by omega, i + 1, Z₂, Zadd Hc I o', vs, m, o', rfl, by omega, lec.trans le₂, fun b h1 h2 => ?_, Zadd.self, hD₁, S₃.weaken hsub, nextW Z₂ _ s₃ ρ₁ le₂ Zadd.self S₃, ?_⟩
      · rw [show Zadd Hc I o' b = Hc b from if_neg h1]; exact hHc b h1 h2
      · rw [take_succ, hno rfl, List.append_nil]; exact hv.mono le₂
    | true =>
      obtain ⟨x, hx, hFx⟩ := hyes rfl
      refine wpAny_bind (wpAny_bind (wp_seq (hx.run A Z₂ _ s₃ R S₃) fun y s₄ ⟨Z₄, x₄, r₄⟩ => wpAny_bind ?_))
      have S₄ := S₃.ext x₄
      have oD := S₄.hin _ _ hD₁
      have hlenv : vs.length ≤ sizeLine := by
        have h1 := hv.length
        rw [List.length_append] at h1
        have h2 : ((xs.take i).flatMap F).length ≤ (xs.flatMap F).length := by
          conv => rhs; rw [← List.take_append_drop i xs, List.flatMap_append, List.length_append]
          omega
        omega
      refine append_at oD (fun h₅ hs₅ ho₅ => ?_) (by simpa using hlenv)
      have S₅ : St G env Z₄ (Zadd (Zadd Hc I o') D (listOf (vs ++ [y]).toArray (m + 1))) ρ₁ { s₄ with heap := h₅ } := S₄.shift (fun b => b = D) (fun b q => by subst q; exact ⟨hBD, fun y c e => (hC y c e).2, .inl ⟨_, hD₁⟩⟩)
        (fun b ob hb e => (hs₅.2 b hb).trans e) (fun b hb => if_neg hb) (fun b ob q e => by subst q; rw [Zadd.self] at e; cases e; rw [ho₅]; simp) (Nat.le_refl _)
      have hI₅ : Zadd (Zadd Hc I o') D (listOf (vs ++ [y]).toArray (m + 1)) I = some o' := by rw [show Zadd (Zadd Hc I o') D (listOf (vs ++ [y]).toArray (m + 1)) I = Zadd Hc I o' I from if_neg hID]; exact Zadd.self
      refine wpAny_pure (wpAny_pure ⟨rfl, xs.length - (i + 1), by omega, i + 1, Z₄, _, vs ++ [y], m + 1, o', rfl, by omega, lec.trans (le₂.trans x₄.le), fun b h1 h2 => ?_, hI₅, Zadd.self, S₅.weaken hsub, nextW Z₄ _ _ ρ₁ (le₂.trans x₄.le) hI₅ S₅, ?_⟩)
      · rw [show Zadd (Zadd Hc I o') D (listOf (vs ++ [y]).toArray (m + 1)) b = Zadd Hc I o' b from if_neg h2, show Zadd Hc I o' b = Hc b from if_neg h1]; exact hHc b h1 h2
      · rw [take_succ, hFx, ← List.append_assoc]; exact (hv.mono (le₂.trans x₄.le)).append (.cons r₄ .nil)
  · have hlen : i = xs.length := by omega
    subst hlen
    refine wpAny_bind (wpAny_standAt (wpAny_bind (wpAny_with_toks (Nat.le_refl s.toks) (W₀.done s _ _ (by rw [len]; exact hWi) fun h' tk hk tok => ?_))))
    refine wpAny_pure ⟨rfl, Zc, fun b => if b = I then none else Hc b, vs, m, lec, fun b h1 h2 => ?_, if_pos rfl, ?_, ?_, ?_⟩
    · exact (if_neg h1).trans (hHc b h1 h2)
    · exact (if_neg (Ne.symm hID)).trans hD
    · exact Sc.shift (fun b => b = I) (fun b q => by subst q; exact ⟨hBI, fun y c e => (hC y c e).1, .inl ⟨_, hI⟩⟩) (fun b ob hb e => hk b ob (by simpa using hb) e) (fun b hb => if_neg hb) (fun b ob q e => by have e' : (if b = I then none else Hc b) = some ob := e; rw [if_pos q] at e'; cases e') tok
    · rwa [List.take_length] at hv

/-- a clause with another one behind it -/
theorem comp_more {elt tgt iter iter' : PySem.Expr} {ifs : List PySem.Expr} {gens : List Comprehension} {g' : Comprehension} {scope : Scope} {k : Nat} {α : Type} {xs : List α} {mk : α → D} {F : α → List D} (hg : gens[k + 1]? = some g') (ha : g'.is_async = 0) (hi' : g'.iter = iter')
    (hf : ∀ x, foldedSetIterable iter' env x = pure x)
    (he : ∀ it acc, compTurn (.ListComp elt gens scope pos) k it acc env = (do
      standAt iter.pos
      match ← pyNext it with
      | none => pure (.done .next)
      | some v =>
        letOwnedTupleGo tgt it v
        assign tgt env v
        let mut ok := true
        for c in ifs do
          if ok then ok ← isTrue c env (eval c env)
        if ok then
          let x ← eval iter' env
          standAt iter'.pos
          let x ← foldedSetIterable iter' env x
          let _ ← runOwn (.compStart (.ListComp elt gens scope pos) (k + 1) (← holding [x] (pyIter x)) acc env) env
        again (.compLoop (.ListComp elt gens scope pos) k it acc env)))
    (item : ∀ a ∈ xs, ∃ ρ₁ ok, Asg G env tgt (mk a) ρ ρ₁ ∧ Sub ρ ρ₁ ∧ Tsts G env n ρ₁ ifs ok ∧ (ok = false → F a = []) ∧ (ok = true → ∃ d' ds', Ev G env n ρ₁ iter' d' ∧ Itr G d' ds' ∧ CRun G env n (.ListComp elt gens scope pos) (k + 1) ρ₁ ds' (F a))) :
    CRun G env n (.ListComp elt gens scope pos) k ρ (xs.map mk) (xs.flatMap F) := by
  constructor
  intro A Z H s I D fp P W vs m outs o R S hI hD hID hv hsz hBI hBD hC hW hfp hW0 hcls hP
  have W₀ := hW A R.handled
  refine codeAny_loop rfl (CInv G env ρ Z H I D xs F outs W) (fun j s hj => ?_) xs.length ⟨0, Z, H, vs, m, o, rfl, Nat.zero_le _, Zle.same, fun _ _ _ => rfl, hI, hD, S, hW0, by simpa using hv⟩
  obtain ⟨i, Zc, Hc, vs, m, o, rfl, hle, lec, hHc, hI, hD, Sc, hWi, hv⟩ := hj
  show wpAny _ A ((compTurn (.ListComp elt gens scope pos) k (.ref I) (.ref D) env).onRaise (fun x => do noteFrame x env; theTreesLotGoes x)) _ _ s
  refine wpAny_noted ?_
  rw [he]
  have len : (xs.map mk).length = xs.length := List.length_map ..
  by_cases hlt : i < xs.length
  · refine wpAny_bind (wpAny_standAt (wpAny_bind (wpAny_with_toks (Nat.le_refl s.toks) (W₀.item i s _ _ (by omega) hWi fun v h' tk pv hW' hk tok => ?_))))
    obtain ⟨d', hd', rv⟩ := hP i v pv
    obtain ⟨o', T, ho', hcT, hTT⟩ := hcls _ _ hW'
    obtain ⟨a, ha'⟩ : ∃ a, xs[i]? = some a := ⟨xs[i], by simp [hlt]⟩
    have hd'' : d' = mk a := by rw [List.getElem?_map, ha'] at hd'; simpa using hd'.symm
    subst hd''
    have S₁ : St G env Zc (Zadd Hc I o') ρ { s with heap := h', toks := tk } := Sc.shift (fun b => b = I) (fun b q => by subst q; exact ⟨hBI, fun y c e => (hC y c e).1, .inl ⟨_, hI⟩⟩) (fun b ob hb e => hk b ob (by simpa using hb) e)
      (fun b hb => if_neg hb) (fun b ob q e => by subst q; rw [Zadd.self] at e; cases e; exact ho') tok
    have hD₁ : Zadd Hc I o' D = some (listOf vs.toArray m) := by rw [show Zadd Hc I o' D = Hc D from if_neg (Ne.symm hID)]; exact hD
    refine wpAny_bind (wp_letOwned (s := { s with heap := h', toks := tk }) ho' hcT hTT ?_)
    obtain ⟨ρ₁, ok, hasg, hsub, htst, hno, hyes⟩ := item a (List.mem_of_getElem? ha')
    refine wpAny_bind (wp_seq (hasg.run A Zc _ _ v (R.less (Nat.zero_le _)) S₁ (rv.mono lec)) fun _ s₂ ⟨Z₂, le₂, S₂⟩ => ?_)
    refine wpAny_bind (wp_seq (htst.run A Z₂ _ s₂ R S₂) fun ok' s₃ ⟨eo, x₃⟩ => ?_)
    subst eo
    have S₃ := S₂.ext x₃
    have take_succ : (xs.take (i + 1)).flatMap F = (xs.take i).flatMap F ++ F a := by rw [List.take_add_one, ha']; simp
    have nextW : ∀ (Z₄ H₄ : Zf) (s₄ : Shared) (ρ₄ : Loc), Zle Zc Z₄ → H₄ I = some o' → St G env Z₄ H₄ ρ₄ s₄ → W (i + 1) s₄.heap := fun Z₄ H₄ s₄ ρ₄ le₄ hI₄ S₄ => W₀.frame _ _ _ hW' fun b hb ob e => by
      rcases hfp b hb with rfl | ⟨oz, hz⟩
      · rw [ho'] at e; cases e; exact S₄.hin _ _ hI₄
      · have e2 : h'.get? b = some oz := S₁.zin b oz (lec b oz hz)
        rw [e] at e2; cases e2
        exact S₄.zin _ _ (le₄ _ _ (lec _ _ hz))
    cases ok' with
    | false =>
      refine wpAny_pure ⟨rfl, xs.length - (i + 1), by omega, i + 1, Z₂, Zadd Hc I o', vs, m, o', rfl, by omega, lec.trans le₂, fun b h1 h2 => ?_, Zadd.self, hD₁, S₃.weaken hsub, nextW Z₂ _ s₃ ρ₁ le₂ Zadd.self S₃, ?_⟩
      · rw [show Zadd Hc I o' b = Hc b from if_neg h1]; exact hHc b h1 h2
      · rw [take_succ, hno rfl, List.append_nil]; exact hv.mono le₂
    | true =>
      obtain ⟨d', ds', hev, hitr, hrun⟩ := hyes rfl
      refine wpAny_bind (wp_seq (hev.run A Z₂ _ s₃ R S₃) fun y s₄ ⟨Z₄, x₄, r₄⟩ => wpAny_bind (wpAny_standAt (wpAny_bind (wpAny_of_eq (hf y) ?_))))
      have S₄ := S₃.ext x₄
      refine wpAny_bind (wpAny_holding (wp_seq (hitr.run A Z₄ s₄ y (R.less (Nat.zero_le _)) S₄.bs r₄) fun it s₅ ⟨I', fp', P', W', e, x₅, hI', hW₅, hfp', hW0', hcls', hP'⟩ => ?_))
      subst e
      obtain ⟨o₅, _, ho₅, _⟩ := hcls' 0 _ hW0'
      obtain ⟨S₅, hB', hH', hZ', hC'⟩ := S₄.hold x₅ hI' ho₅
      have oD := S₄.hin _ _ hD₁
      have oI := S₄.hin I o' Zadd.self
      have nID : I' ≠ D := fun q => by rw [← q, hI'] at oD; cases oD
      have nII : I' ≠ I := fun q => by rw [← q, hI'] at oI; cases oI
      have hD₅ : Zadd (Zadd Hc I o') I' o₅ D = some (listOf vs.toArray m) := by rw [show Zadd (Zadd Hc I o') I' o₅ D = Zadd Hc I o' D from if_neg (Ne.symm nID)]; exact hD₁
      have hI₅ : Zadd (Zadd Hc I o') I' o₅ I = some o' := by rw [show Zadd (Zadd Hc I o') I' o₅ I = Zadd Hc I o' I from if_neg (Ne.symm nII)]; exact Zadd.self
      have hlen : (outs ++ (xs.take i).flatMap F).length + (F a).length ≤ sizeLine := by
        rw [List.length_append]
        have h2 : ((xs.take (i + 1)).flatMap F).length ≤ (xs.flatMap F).length := by
          conv => rhs; rw [← List.take_append_drop (i + 1) xs, List.flatMap_append, List.length_append]
          omega
        rw [take_succ, List.length_append] at h2
        omega
      have loop := hrun.run A Z₄ _ s₅ I' D fp' P' W' vs m _ o₅ R S₅ Zadd.self hD₅ nID (hv.mono (le₂.trans x₄.le)) hlen hB' hBD (fun y c e => ⟨hC' y c e, (hC y c e).2⟩) hW₅ hfp' hW0' hcls' hP'
      have fin : ∀ (r : Result) (s' : Shared), (r = .ok .next ∧ ∃ Z' H' vs' m', Zle Z₄ Z' ∧ (∀ b, b ≠ I' → b ≠ D → H' b = Zadd (Zadd Hc I o') I' o₅ b) ∧ H' I' = none ∧ H' D = some (listOf vs'.toArray m') ∧ St G env Z' H' ρ₁ s' ∧ RepAll G Z' vs' ((outs ++ (xs.take i).flatMap F) ++ F a)) →
          OkThen (fun s' => ∃ m, m < xs.length - i ∧ CInv G env ρ Z H I D xs F outs W m s') r s' := by
        rintro r s' ⟨rfl, Z₆, H₆, vs₆, m₆, le₆, hH₆, hI₆', hD₆, S₆, hv₆⟩
        have hI₆ : H₆ I = some o' := by rw [hH₆ I (Ne.symm nII) hID]; exact hI₅
        refine ⟨xs.length - (i + 1), by omega, i + 1, Z₆, H₆, vs₆, m₆, o', rfl, by omega, lec.trans (le₂.trans (x₄.le.trans le₆)), fun b h1 h2 => ?_, hI₆, hD₆, S₆.weaken hsub, nextW Z₆ _ _ ρ₁ (le₂.trans (x₄.le.trans le₆)) hI₆ S₆, ?_⟩
        · by_cases q : b = I'
          · subst q
            rw [hI₆', ← hHc b h1 h2]
            cases q' : Hc b with
            | none => rfl
            | some ob =>
              have : Zadd Hc I o' b = some ob := by rw [show Zadd Hc I o' b = Hc b from if_neg h1]; exact q'
              rw [hH'] at this; cases this
          · rw [hH₆ b q h2, show Zadd (Zadd Hc I o') I' o₅ b = Zadd Hc I o' b from if_neg q, show Zadd Hc I o' b = Hc b from if_neg h1]; exact hHc b h1 h2
        · rw [take_succ, ← List.append_assoc]; exact hv₆
      refine wpAny_bind (wpAny_runOwn (h := none) (codeAny_mono (R := OkThen (fun s' => ∃ m, m < xs.length - i ∧ CInv G env ρ Z H I D xs F outs W m s')) (comp_start hg ha (codeAny_mono loop fin) ?_) fun r s' hr => ?_))
      · exact (hW₅ A R.handled).self 0 _ _ _ hW0' (codeAny_mono loop fin)
      · cases r with
        | ok f => exact wpAny_pure ⟨rfl, hr⟩
        | error e => exact hr.elim
  · have hlen : i = xs.length := by omega
    subst hlen
    refine wpAny_bind (wpAny_standAt (wpAny_bind (wpAny_with_toks (Nat.le_refl s.toks) (W₀.done s _ _ (by rw [len]; exact hWi) fun h' tk hk tok => ?_))))
    refine wpAny_pure ⟨rfl, Zc, fun b => if b = I then none else Hc b, vs, m, lec, fun b h1 h2 => ?_, if_pos rfl, ?_, ?_, ?_⟩
    · exact (if_neg h1).trans (hHc b h1 h2)
    · exact (if_neg (Ne.symm hID)).trans hD
    · exact Sc.shift (fun b => b = I) (fun b q => by subst q; exact ⟨hBI, fun y c e => (hC y c e).1, .inl ⟨_, hI⟩⟩) (fun b ob hb e => hk b ob (by simpa using hb) e) (fun b hb => if_neg hb) (fun b ob q e => by have e' : (if b = I then none else Hc b) = some ob := e; rw [if_pos q] at e'; cases e') tok
    · rwa [List.take_length] at hv

end
end Mine
end
section
open PySem PySem.W PyProof.Rows
set_option linter.unusedVariables false
namespace Mine

section
variable {G : Gnd} {env : Env} {Z Z' H H' : Zf} {ρ ρ' ρc : Loc} {s s' : Shared} {A : Around} {E : Value → Shared → Prop} {n : Nat} {pos apos : Pos}

/-- what must be so of a comprehension's scope, seen from the frame around -/
structure Scoped (env : Env) (scope : Scope) (cl : List (Str × Addr)) (ρ ρc : Loc) : Prop where
  kind : scope.kind = .function
  names : ∀ x ∈ scope.names, x.2 = .local → scope.names.lookup x.1 = some .local
  nocell : ∀ y ∈ scope.names, y.2 ≠ .cell
  clos : closureFor scope env = pure cl
  cells : ∀ x c, cl.lookup x = some c → env.cells.lookup x = some c
  cap : ∀ x b, ρc.lookup x = some b → (∃ d, b = .val d) ∧ ρ.lookup x = some b ∧ env.kindOf x ≠ some .local ∧ (∃ c, cl.lookup x = some c) ∧ ((relabel scope env).names.lookup x = some .cell ∨ ((relabel scope env).names.lookup x = some .free ∧ (x == ("__classdict__" : Str)) = false))

def CompPost (G : Gnd) (Z : Zf) (s : Shared) (out : List D) (acc : Value) (C : Addr) (r : Result) (s' : Shared) : Prop :=
  r = .ok .next ∧ ∃ Z', Ext Z s Z' s' ∧ Rep G Z' acc (.list out) ∧ s.heap.get? C = none ∧ Z' C = none ∧ ∃ m, s'.heap.Ns C m

theorem comp_core {elt : PySem.Expr} {g : Comprehension} {gs : List Comprehension} {scope : Scope} {cl : List (Str × Addr)} {d : D} {ds out : List D} (R : Room n A) (S : St G env Z H ρ s) (K : Scoped env scope cl ρ ρc) (ha : g.is_async = 0)
    (h : Ev G env n ρ g.iter d) (hi : Itr G d ds) (run : ∀ C, CRun G (compEnvC scope cl C env) n (.ListComp elt (g :: gs) scope pos) 0 ρc ds out) (hsz : out.length ≤ sizeLine) :
    wpAny (model G.prog G.w) A (eval g.iter env) (fun x s₁ => wpAny (model G.prog G.w) A (pyIter x) (fun it s₂ => wpAny (model G.prog G.w) A (newList []) (fun acc s₃ =>
      wpAny (model G.prog G.w) A (newFunctionEnv scope env.globals cl [] env.qual none .none (some env)) (fun cenv s₄ =>
        codeAny (model G.prog G.w) A (.compStart (.ListComp elt (g :: gs) scope pos) 0 it acc { cenv with scope := relabel scope env }) (CompPost G Z s out acc cenv.locals) s₄) E s₃) E s₂) E s₁) E s := by
  refine wp_seq (h.run A Z H s R S) fun v s₁ ⟨Z₁, x₁, r₁⟩ => ?_
  have S₁ := S.ext x₁
  refine wp_seq (hi.run A Z₁ s₁ v (R.less (Nat.zero_le _)) S₁.bs r₁) fun it s₂ ⟨I, fp, P, W, e, x₂, hI, hW, hfp, hW0, hcls, hP⟩ => ?_
  subst e
  have S₂ := S₁.ext x₂
  refine wpAny_newObj_type (wpAny_newFunctionEnv K.nocell (by intro y hy; simp at hy) (fun h₁ hns₁ hsb₁ => ?_) K.kind)
  dsimp only at hns₁ hsb₁ ⊢
  generalize hH2 : s₂.heap.push { cls := .type "list", dict := none, data := .seq ([] : List Value).toArray } = H2 at hns₁ hsb₁ ⊢
  have hC : H2.objs.size = s₂.heap.objs.size + 1 := by rw [← hH2, Heap.size_push]
  have oldC : ∀ b ob, s₂.heap.get? b = some ob → b ≠ H2.objs.size ∧ b ≠ s₂.heap.objs.size := fun b ob e => by
    have := Heap.lt_size e
    rw [hC]
    exact ⟨Nat.ne_of_lt (Nat.lt_succ_of_lt this), Nat.ne_of_lt this⟩
  have old : ∀ b o, s₂.heap.get? b = some o → h₁.get? b = some o := fun b o e => hsb₁.extBut b o (oldC b o e).1 (Heap.get?_push_of_some _ (hH2 ▸ Heap.get?_push_of_some _ e))
  have hDC : s₂.heap.objs.size ≠ H2.objs.size := by rw [hC]; exact Nat.ne_of_lt (Nat.lt_succ_self _)
  have hDo : h₁.get? s₂.heap.objs.size = some (listOf ([] : List Value).toArray 0) := hsb₁.extBut _ _ hDC (Heap.get?_push_of_some _ (hH2 ▸ Heap.get?_push_size _ rfl))
  have hCn : s₂.heap.get? H2.objs.size = none := by
    cases q : s₂.heap.get? H2.objs.size with
    | none => rfl
    | some ob => exact absurd rfl (oldC _ ob q).1
  have hDn : s₂.heap.get? s₂.heap.objs.size = none := get?_size_none _
  obtain ⟨oI, _, hoI, _⟩ := hcls 0 _ hW0
  have zn : ∀ b, s₂.heap.get? b = none → Z₁ b = none := fun b e => by
    cases q : Z₁ b with
    | none => rfl
    | some ob => have := S₂.zin b ob q; rw [e] at this; cases this
  have hIn : Z₁ I = none := by
    cases q : Z₁ I with
    | none => rfl
    | some ob => have := S₁.zin I ob q; rw [hI] at this; cases this
  let HH : Zf := fun b => if Z₁ b = none then (if b = H2.objs.size then none else h₁.get? b) else none
  have HHof : ∀ b ob, HH b = some ob → Z₁ b = none ∧ b ≠ H2.objs.size ∧ h₁.get? b = some ob := fun b ob e => by
    have e' : (if Z₁ b = none then (if b = H2.objs.size then none else h₁.get? b) else none) = some ob := e
    split at e'
    · rename_i q
      split at e'
      · cases e'
      · rename_i q'; exact ⟨q, q', e'⟩
    · cases e'
  have HHto : ∀ b ob, Z₁ b = none → b ≠ H2.objs.size → h₁.get? b = some ob → HH b = some ob := fun b ob q q' e => by
    show (if Z₁ b = none then (if b = H2.objs.size then none else h₁.get? b) else none) = some ob
    rw [if_pos q, if_neg q']; exact e
  have cellNew : ∀ x c, cl.lookup x = some c → Z₁ c = none ∧ ∃ ob, s₂.heap.get? c = some ob := fun x c e => by
    obtain ⟨_, h1, h2⟩ := S₂.cells x c (K.cells x c e)
    cases hf : env.func.isSome with
    | true => obtain ⟨a, _, v, ob, e1, _⟩ := h1 hf; exact ⟨a, ob, e1⟩
    | false =>
      obtain ⟨ob, e1⟩ := h2 hf
      refine ⟨?_, ob, S₂.hin c ob e1⟩
      cases q : Z₁ c with
      | none => rfl
      | some oz => have := S₂.dj c oz q; rw [e1] at this; cases this
  have SC : St G (compEnvC scope cl H2.objs.size env) Z₁ HH ρc { s₂ with heap := h₁, toks := s₂.toks + ([] : List (Str × Value)).length } := by
    refine ⟨K.kind, S₂.gl, S₂.bl, S₂.gens, S₂.os, S₂.tk, fun b ob e => old b ob (S₂.zin b ob e), fun b ob e => (HHof b ob e).2.2, fun b ob e => ?_, fun b ob e => ?_, ⟨_, hns₁⟩, zn _ hCn, ?_, fun x c e => ⟨?_, fun hf => (by cases hf), fun _ => ?_⟩, fun x y c e e' => S₂.inj x y c (K.cells x c e) (K.cells y c e'), fun x d' e => ?_, ?_⟩
    · show (if Z₁ b = none then (if b = H2.objs.size then none else h₁.get? b) else none) = none
      rw [if_neg (by rw [e]; intro q; cases q)]
    · have e2 := S₂.keepBase b ob e
      cases q : Z₁ b with
      | none => exact .inr (HHto b ob q (oldC b ob e2).1 (old b ob e2))
      | some oz => left; have := S₂.zin b oz q; rw [e2] at this; cases this; rfl
    · show (if Z₁ H2.objs.size = none then (if H2.objs.size = H2.objs.size then none else h₁.get? H2.objs.size) else none) = none
      rw [if_pos (zn _ hCn), if_pos rfl]
    · obtain ⟨_, ob, e1⟩ := cellNew x c e
      exact (oldC c ob e1).1
    · obtain ⟨hz, ob, e1⟩ := cellNew x c e
      exact ⟨ob, HHto c ob hz (oldC c ob e1).1 (old c ob e1)⟩
    · obtain ⟨_, e1, hk, ⟨c, hc⟩, hkd⟩ := K.cap x _ e
      obtain ⟨u, hu, ru⟩ := S₂.vars x d' e1
      refine ⟨u, ?_, ru⟩
      rcases hu with ⟨k, _⟩ | ⟨_, c', e2, n2⟩
      · exact absurd k hk
      · rw [K.cells x c hc] at e2; cases e2
        refine .inr ⟨hkd, c, hc, n2.keeps old⟩
    · refine ⟨fun _ => 0, fun x y es es' e => ?_, fun x es e => ?_⟩
      · obtain ⟨⟨_, e'⟩, _⟩ := K.cap x _ e; cases e'
      · obtain ⟨⟨_, e'⟩, _⟩ := K.cap x _ e; cases e'
  have nIC := (oldC I oI hoI).1
  have nID := (oldC I oI hoI).2
  have bn : ∀ b, s₁.heap.get? b = none → G.base.get? b = none := fun b e => by
    cases q : G.base.get? b with
    | none => rfl
    | some ob => have := S₁.keepBase b ob q; rw [e] at this; cases this
  have hDn₁ : s₁.heap.get? s₂.heap.objs.size = none := by
    cases q : s₁.heap.get? s₂.heap.objs.size with
    | none => rfl
    | some ob => rw [x₂.keep _ _ q] at hDn; cases hDn
  have loop := (run H2.objs.size).run A Z₁ HH _ I s₂.heap.objs.size fp P W [] 0 [] oI R SC (HHto I oI hIn nIC (old I oI hoI)) (HHto _ _ (zn _ hDn) hDC hDo) nID .nil (by simpa using hsz) (bn _ hI) (bn _ hDn₁)
    (fun x c e => by
      obtain ⟨hz, ob, e1⟩ := cellNew x c e
      refine ⟨fun q => ?_, (oldC c ob e1).2⟩
      obtain ⟨_, h1, h2⟩ := S₁.cells x c (K.cells x c e)
      cases hf : env.func.isSome with
      | true => obtain ⟨_, _, v, ob', e2, _⟩ := h1 hf; rw [q, hI] at e2; cases e2
      | false => obtain ⟨ob', e2⟩ := h2 hf; have := S₁.hin _ _ e2; rw [q, hI] at this; cases this)
    hW hfp ((hW A R.handled).frame _ _ _ hW0 fun b _ ob e => old b ob e) hcls hP
  have fin : ∀ (r : Result) (s' : Shared), (s₂.toks ≤ s'.toks ∧ r = .ok .next ∧ ∃ Z' H' vs' m', Zle Z₁ Z' ∧ (∀ b, b ≠ I → b ≠ s₂.heap.objs.size → H' b = HH b) ∧ H' I = none ∧ H' s₂.heap.objs.size = some (listOf vs'.toArray m') ∧
      St G (compEnvC scope cl H2.objs.size env) Z' H' ρc s' ∧ RepAll G Z' vs' ([] ++ out)) → CompPost G Z s out (.ref s₂.heap.objs.size) H2.objs.size r s' := by
    rintro r s' ⟨tok, rfl, Z', H', vs', m', le', hH', hI', hD', S', hv'⟩
    have hDz : Z' s₂.heap.objs.size = none := by
      cases q : Z' s₂.heap.objs.size with
      | none => rfl
      | some ob => have := S'.dj _ ob q; rw [hD'] at this; cases this
    have le := Zadd.le (o := listOf vs'.toArray m') hDz
    have keep : ∀ b ob, s₁.heap.get? b = some ob → b ≠ I ∧ b ≠ s₂.heap.objs.size ∧ b ≠ H2.objs.size := fun b ob e => by
      have e2 := x₂.keep b ob e
      exact ⟨fun q => (by rw [q, hI] at e; cases e), (oldC b ob e2).2, (oldC b ob e2).1⟩
    refine ⟨rfl, Zadd Z' s₂.heap.objs.size (listOf vs'.toArray m'), x₁.trans ⟨le'.trans le, fun b ob e => ?_, fun b ob e => ?_, fun b ob e => ?_, S'.gens.trans S₁.gens.symm, S'.os.trans S₁.os.symm, Nat.le_trans x₂.tk tok⟩, .list Zadd.self (hv'.mono le), ?_, ?_, S'.ns⟩
    · obtain ⟨q1, q2, q3⟩ := keep b ob e
      cases q : Z₁ b with
      | none => exact S'.hin b ob (by rw [hH' b q1 q2]; exact HHto b ob q q3 (old b ob (x₂.keep b ob e)))
      | some oz => have := S₁.zin b oz q; rw [e] at this; cases this; exact S'.zin b ob (le' b ob q)
    · by_cases q : b = s₂.heap.objs.size
      · subst q; rw [Zadd.self] at e; cases e; exact S'.hin _ _ hD'
      · rw [show Zadd Z' s₂.heap.objs.size (listOf vs'.toArray m') b = Z' b from if_neg q] at e
        exact S'.zin b ob e
    · by_cases q : b = s₂.heap.objs.size
      · subst q; exact .inr hDn₁
      · rw [show Zadd Z' s₂.heap.objs.size (listOf vs'.toArray m') b = Z' b from if_neg q] at e
        cases q1 : s₁.heap.get? b with
        | none => exact .inr rfl
        | some o1 =>
          left
          obtain ⟨p1, p2, p3⟩ := keep b o1 q1
          cases q2 : Z₁ b with
          | some oz => have := le' b oz q2; rw [e] at this; cases this; rfl
          | none =>
            have h1 := HHto b o1 q2 p3 (old b o1 (x₂.keep b o1 q1))
            have := S'.dj b ob e
            rw [hH' b p1 p2, h1] at this; cases this
    · cases q : s.heap.get? H2.objs.size with
      | none => rfl
      | some ob => have := x₂.keep _ _ (x₁.keep _ _ q); rw [hCn] at this; cases this
    · rw [show Zadd Z' s₂.heap.objs.size (listOf vs'.toArray m') H2.objs.size = Z' H2.objs.size from if_neg (Ne.symm hDC)]
      exact S'.lz
  have loop' := codeAny_mono (codeAny_toks_of (n := s₂.toks) (by exact Nat.le_add_right _ _) loop) fin
  exact comp_start rfl ha loop' ((hW A R.handled).self 0 _ _ _ ((hW A R.handled).frame _ _ _ hW0 fun b _ ob e => old b ob e) loop')

theorem eval_ListComp' (elt : PySem.Expr) (g : Comprehension) (gs : List Comprehension) (scope : Scope) (pos : Pos) (ha : g.is_async = 0) (use : Option (Value → Sem Unit)) :
    comprehension (.ListComp elt (g :: gs) scope pos) scope env (firstIterPos (g :: gs) pos) (newList []) (firstAsync (g :: gs)) (firstIter (g :: gs) env) use =
      comprehension (.ListComp elt (g :: gs) scope pos) scope env (firstIterPos (g :: gs) pos) (newList []) false (eval g.iter env) use := by
  obtain ⟨t, i, f, a⟩ := g
  subst ha
  rfl

theorem ev_listcomp {elt : PySem.Expr} {g : Comprehension} {gs : List Comprehension} {scope : Scope} {cl : List (Str × Addr)} {d : D} {ds out : List D} (K : Scoped env scope cl ρ ρc) (ha : g.is_async = 0) (hs : ∀ x, foldedSetIterable g.iter env x = pure x)
    (h : Ev G env n ρ g.iter d) (hi : Itr G d ds) (run : ∀ C, CRun G (compEnvC scope cl C env) n (.ListComp elt (g :: gs) scope pos) 0 ρc ds out) (hsz : out.length ≤ sizeLine) :
    Ev G env n ρ (.ListComp elt (g :: gs) scope pos) (.list out) := by
  constructor
  intro A Z H s R S
  unfold Yields
  rw [show eval (.ListComp elt (g :: gs) scope pos) env = _ from eval_ListComp' elt g gs scope pos ha none]
  refine wpAny_comprehension_free (use := none) rfl hs K.clos K.kind K.names (wpAny_mono (comp_core R S K ha h hi run hsz) (fun x s₁ h₁ => wpAny_mono h₁ (fun it s₂ h₂ => wpAny_mono h₂ (fun acc s₃ h₃ => wpAny_mono h₃ (fun cenv s₄ h₄ => codeAny_mono h₄ fun r s' hr => ?_) fun _ _ e => e) fun _ _ e => e) fun _ _ e => e) fun _ _ e => e)
  obtain ⟨rfl, Z', x, r, hC, hZC, m, hm⟩ := hr
  refine ⟨m, hm, fun h' hs' => ⟨Z', ⟨x.le, fun a o e => ?_, fun a o e => ?_, x.new, x.gens, x.os, x.tk⟩, r⟩⟩
  · exact hs'.extBut a o (fun q => by rw [q, hC] at e; cases e) (x.keep a o e)
  · exact hs'.extBut a o (fun q => by rw [q, hZC] at e; cases e) (x.zin a o e)

/-- y = [.. for .. in ..] on one line -/
theorem ex_assign_comp {y : Str} {py spos : Pos} {elt : PySem.Expr} {g : Comprehension} {gs : List Comprehension} {scope : Scope} {cl : List (Str × Addr)} {d : D} {ds out : List D} {Φ : Fl → Loc → Prop} (K : Scoped env scope cl ρ ρc) (ha : g.is_async = 0) (hs : ∀ x, foldedSetIterable g.iter env x = pure x)
    (hsw : swapsWith (.ListComp elt (g :: gs) scope pos) (some (.Name y py)) spos.line env = pure true)
    (h : Ev G env n ρ g.iter d) (hi : Itr G d ds) (run : ∀ C, CRun G (compEnvC scope cl C env) n (.ListComp elt (g :: gs) scope pos) 0 ρc ds out) (hsz : out.length ≤ sizeLine)
    (hc : Can env y) (k : Φ .next (upd ρ y (.val (.list out)))) : Ex G env n ρ (.Assign [.Name y py] (.ListComp elt (g :: gs) scope pos) spos) Φ := by
  constructor
  intro A Z H s R S
  rw [exec_Assign_Name_used _ _ _ _ hsw]
  refine wpAny_bind (wpAny_standAt (wpAny_bind ?_))
  show wpAny _ A (do let _ ← comprehension (.ListComp elt (g :: gs) scope pos) scope env (firstIterPos (g :: gs) pos) (newList []) (firstAsync (g :: gs)) (firstIter (g :: gs) env) (some (assign (.Name y py) env))) _ _ s
  rw [eval_ListComp' elt g gs scope pos ha (some (assign (.Name y py) env))]
  refine wpAny_bind (wpAny_mono (wpAny_comprehension_free (use := some (assign (.Name y py) env)) (Q := fun _ s' => ExPost G env Z H Φ .next s') rfl hs K.clos K.kind K.names
    (wpAny_mono (comp_core R S K ha h hi run hsz) (fun x s₁ h₁ => wpAny_mono h₁ (fun it s₂ h₂ => wpAny_mono h₂ (fun acc s₃ h₃ => wpAny_mono h₃ (fun cenv s₄ h₄ => codeAny_mono h₄ fun r s' hr => ?_) fun _ _ e => e) fun _ _ e => e) fun _ _ e => e) fun _ _ e => e)) (fun _ s' hq => wpAny_pure (wpAny_pure hq)) fun _ _ e => e)
  obtain ⟨rfl, Z', x, r, hC, hZC, m, hm⟩ := hr
  show wpAny _ A (assign (.Name y py) env acc) _ _ s'
  obtain ⟨oC, es, ep, hoC, hm'⟩ := id hm
  have S' := S.ext x
  have hB : G.base.get? cenv.locals = none := by
    cases q : G.base.get? cenv.locals with
    | none => rfl
    | some ob => have := S.keepBase _ ob q; rw [hC] at this; cases this
  have hH : H cenv.locals = none := by
    cases q : H cenv.locals with
    | none => rfl
    | some ob => have := S.hin _ ob q; rw [hC] at this; cases this
  have hCc : ∀ z c, env.cells.lookup z = some c → c ≠ cenv.locals := fun z c e q => by
    obtain ⟨_, h1, h2⟩ := S.cells z c e
    cases hf : env.func.isSome with
    | true => obtain ⟨_, _, v, ob', e2, _⟩ := h1 hf; rw [q, hC] at e2; cases e2
    | false => obtain ⟨ob', e2⟩ := h2 hf; have := S.hin _ _ e2; rw [q, hC] at this; cases this
  have hL : env.locals ≠ cenv.locals := fun q => by
    obtain ⟨m₀, o₀, _, _, e0, _⟩ := S.ns
    rw [q, hC] at e0; cases e0
  have SH : St G env Z' (Zadd H cenv.locals oC) ρ s' := by
    have ne : ∀ b, b ≠ cenv.locals → Zadd H cenv.locals oC b = H b := fun b hb => if_neg hb
    refine ⟨S'.fk, S'.gl, S'.bl, S'.gens, S'.os, S'.tk, S'.zin, fun a ob e => ?_, fun a ob e => ?_, fun a ob e => (S'.bas a ob e).elim .inl (fun q => .inr (Zadd.le hH _ _ q)), S'.ns, S'.lz, ?_, fun z c e => ?_, S'.inj, S'.vars, ?_⟩
    · by_cases q : a = cenv.locals
      · subst q; rw [Zadd.self] at e; cases e; exact hoC
      · rw [ne a q] at e; exact S'.hin a ob e
    · rw [ne a fun q => by rw [q, hZC] at e; cases e]; exact S'.dj a ob e
    · rw [ne _ hL]; exact S'.lh
    · obtain ⟨h0, h1, h2⟩ := S'.cells z c e
      refine ⟨h0, fun hf => ?_, fun hf => ?_⟩
      · obtain ⟨a, b, c'⟩ := h1 hf
        exact ⟨a, by rw [ne _ (hCc z c e)]; exact b, c'⟩
      · obtain ⟨ob, h⟩ := h2 hf
        exact ⟨ob, Zadd.le hH _ _ h⟩
    · obtain ⟨oa, hi, ho⟩ := S.owns
      refine ⟨oa, hi, fun z es e => ?_⟩
      obtain ⟨g1, g2, g3, g4, g5, vs, k, g6, g7⟩ := ho z es e
      exact ⟨g1.keeps x.keep, ext_none x g2 ⟨_, g6⟩, by rw [ne _ fun q => by rw [q, hC] at g6; cases g6]; exact g3, g4, g5, vs, k, x.keep _ _ g6, g7.mono x.le⟩
  refine wpAny_assign_Name (wp_seq (st_store SH r hc) fun _ s₅ S₅ => ?_)
  refine ⟨m, ⟨oC, es, ep, S₅.hin _ _ Zadd.self, hm'⟩, fun h₆ hs₆ => ?_⟩
  exact ⟨Z', _, .next, x.le, S₅.drop (t := s₅.toks) hB hCc hH (fun b ob hb e => (hs₆.2 b hb).trans e) (Nat.le_refl _), .next, k⟩

end
end Mine
end
section
open PySem PySem.W PyProof.Rows
set_option linter.unusedVariables false
namespace Mine

section
variable {G : Gnd} {env : Env} {Z Z' H H' : Zf} {ρ ρ' ρc : Loc} {s s' : Shared} {A : Around} {E : Value → Shared → Prop} {n : Nat} {pos apos : Pos}

theorem Bs.y {v : Value} {d : D} {t : Nat} (b : Bs G Z s) (ht : s.toks ≤ t) (r : Rep G Z v d) : ∃ Z', Ext Z s Z' { s with toks := t } ∧ Rep G Z' v d := ⟨Z, Ext.tok b.zin ht, r⟩

-- whole numbers
theorem op_add_int {a b : Int} : Op2 G (binaryOp .Add) (.int a) (.int b) (.int (a + b)) := Op2.mk fun A Z s v₁ v₂ R b r₁ r₂ => by cases r₁; cases r₂; exact add_int (b.y (Nat.le_succ _) (.int _ _))
theorem op_sub_int {a b : Int} : Op2 G (binaryOp .Sub) (.int a) (.int b) (.int (a - b)) := Op2.mk fun A Z s v₁ v₂ R b r₁ r₂ => by cases r₁; cases r₂; exact sub_int (b.y (Nat.le_succ _) (.int _ _))
theorem op_mul_int {a b : Int} (h : IntMulOk a b) : Op2 G (binaryOp .Mult) (.int a) (.int b) (.int (a * b)) := Op2.mk fun A Z s v₁ v₂ R b r₁ r₂ => by cases r₁; cases r₂; exact mul_int (b.y (Nat.le_succ _) (.int _ _)) h
theorem op_fdiv_int {a b : Int} (hb : b ≠ 0) (hp : Builtin.divisionGoesByPylong a b = false) : Op2 G (binaryOp .FloorDiv) (.int a) (.int b) (.int (a.fdiv b)) := Op2.mk fun A Z s v₁ v₂ R b r₁ r₂ => by cases r₁; cases r₂; exact floordiv_int hb (b.y (Nat.le_succ _) (.int _ _)) (.inl hp)
theorem op_mod_int {a b : Int} (hb : b ≠ 0) : Op2 G (binaryOp .Mod) (.int a) (.int b) (.int (a.fmod b)) := Op2.mk fun A Z s v₁ v₂ R b r₁ r₂ => by cases r₁; cases r₂; exact mod_int' hb (b.y (Nat.le_succ _) (.int _ _))
theorem op_iadd_int {a b : Int} : Op2 G (inplaceOp .Add) (.int a) (.int b) (.int (a + b)) := Op2.mk fun A Z s v₁ v₂ R b r₁ r₂ => by cases r₁; cases r₂; exact iadd_int (b.y (Nat.le_succ _) (.int _ _))
theorem op_eq_int {a b : Int} : Op2 G (compareOp .Eq) (.int a) (.int b) (.bool (a == b)) := Op2.mk fun A Z s v₁ v₂ R b r₁ r₂ => by cases r₁; cases r₂; exact eq_int ⟨Z, b.same, .bool _⟩
theorem op_ne_int {a b : Int} : Op2 G (compareOp .NotEq) (.int a) (.int b) (.bool (a != b)) := Op2.mk fun A Z s v₁ v₂ R b r₁ r₂ => by cases r₁; cases r₂; exact ne_int ⟨Z, b.same, .bool _⟩
theorem op_lt_int {a b : Int} : Op2 G (compareOp .Lt) (.int a) (.int b) (.bool (decide (a < b))) := Op2.mk fun A Z s v₁ v₂ R b r₁ r₂ => by cases r₁; cases r₂; exact lt_int ⟨Z, b.same, .bool _⟩
theorem op_gt_int {a b : Int} : Op2 G (compareOp .Gt) (.int a) (.int b) (.bool (decide (b < a))) := Op2.mk fun A Z s v₁ v₂ R b r₁ r₂ => by cases r₁; cases r₂; exact gt_int ⟨Z, b.same, .bool _⟩
theorem op_le_int {a b : Int} : Op2 G (compareOp .LtE) (.int a) (.int b) (.bool (decide (a ≤ b))) := Op2.mk fun A Z s v₁ v₂ R b r₁ r₂ => by cases r₁; cases r₂; exact le_int ⟨Z, b.same, .bool _⟩
theorem op_ge_int {a b : Int} : Op2 G (compareOp .GtE) (.int a) (.int b) (.bool (decide (b ≤ a))) := Op2.mk fun A Z s v₁ v₂ R b r₁ r₂ => by cases r₁; cases r₂; exact ge_int ⟨Z, b.same, .bool _⟩

-- texts
theorem op_add_str {x y : Str} (h : x.length + y.length ≤ sizeLine) : Op2 G (binaryOp .Add) (.str x) (.str y) (.str (x ++ y)) := Op2.mk fun A Z s v₁ v₂ R b r₁ r₂ => by cases r₁; cases r₂; exact wp_tok (add_str (fun t k tok => b.y tok (.str _ _)) h)
theorem op_iadd_str {x y : Str} (h : x.length + y.length ≤ sizeLine) : Op2 G (inplaceOp .Add) (.str x) (.str y) (.str (x ++ y)) := Op2.mk fun A Z s v₁ v₂ R b r₁ r₂ => by cases r₁; cases r₂; exact wp_tok (iadd_str (fun t k tok => b.y tok (.str _ _)) h)
theorem op_eq_str {x y : Str} : Op2 G (compareOp .Eq) (.str x) (.str y) (.bool (x == y)) := Op2.mk fun A Z s v₁ v₂ R b r₁ r₂ => by cases r₁; cases r₂; exact eq_str ⟨Z, b.same, .bool _⟩
theorem op_ne_str {x y : Str} : Op2 G (compareOp .NotEq) (.str x) (.str y) (.bool (x != y)) := Op2.mk fun A Z s v₁ v₂ R b r₁ r₂ => by cases r₁; cases r₂; exact ne_str ⟨Z, b.same, .bool _⟩
/-- is the one text in the other -/
def tin (y x : Str) : Bool := !(Builtin.Str.occurrences x y 0 x.length 1).isEmpty
theorem op_in_str {x y : Str} : Op2 G (compareOp .In) (.str y) (.str x) (.bool (tin y x)) := Op2.mk fun A Z s v₁ v₂ R b r₁ r₂ => by cases r₁; cases r₂; exact PyProof.Rows.in_str ⟨Z, b.same, .bool _⟩
theorem op_notin_str {x y : Str} : Op2 G (compareOp .NotIn) (.str y) (.str x) (.bool (!tin y x)) := Op2.mk fun A Z s v₁ v₂ R b r₁ r₂ => by cases r₁; cases r₂; exact notIn_str ⟨Z, b.same, .bool _⟩

theorem bf_len_str {x : Str} (h : x.length ≤ sizeLine) : BF G "len" [.str x] (.int x.length) := BF.mk fun A Z s vs R b r => by
  cases r with | cons r rs => cases rs; cases r; exact SBL.len (by rw [sizeLine_eq] at h; omega) (b.y (by omega) (.int _ _))
theorem isList_of {a : Addr} {vs : List Value} {k : Nat} {h : Heap} (e : h.get? a = some (listOf vs.toArray k)) : h.IsList a vs.toArray := ⟨_, e, rfl, _, rfl⟩
theorem isTuple_of {a : Addr} {vs : List Value} {k : Nat} {h : Heap} (e : h.get? a = some { cls := .type "tuple", data := .seq vs.toArray k }) : h.IsTuple a vs.toArray := ⟨_, e, rfl, _, rfl⟩
theorem bf_chr {i : Int} (h0 : 0 ≤ i) (h1 : i ≤ 1114111) : BF G "chr" [.int i] (.str ⟨#[i.toNat]⟩) := BF.mk fun A Z s vs R b r => by
  cases r with | cons r rs => cases rs; cases r; exact chr_of_range h0 h1 (b.y (Nat.le_succ _) (.str _ _))

-- truth
theorem tr_bool {b : Bool} : Tr G (.bool b) b := Tr.mk fun A Z s v R b r => by cases r; exact wpAny_truthy_bool ⟨rfl, b.same⟩

-- items
theorem slOk (slice : PySem.Expr) (o i : Value) : ∃ ops, subscripted slice false o i = operate ops (getItem o i) := by
  unfold subscripted
  split
  · exact ⟨_, rfl⟩
  · rename_i h; cases h
  · exact ⟨_, rfl⟩
theorem tail_all {value slice : PySem.Expr} {o i : Value} {T id : String} {Q : Value → Shared → Prop} (hT : s.TypeIs o T) (hl : typeLookup (.type T) "__getitem__" = pure (some (.builtin id))) (hg : wpAny (model G.prog G.w) A (getItem o i) Q E s) :
    wpAny (model G.prog G.w) A (subscriptTail value slice o i) Q E s := let ⟨_, e⟩ := slOk slice o i; tail_any hT hl hg e

theorem sb_str {value slice : PySem.Expr} {x : Str} {i : Int} {c : Nat} (h0 : 0 ≤ i) (hb : i < 2 ^ 63) (hc : x.cps[i.toNat]? = some c) : Sb G value slice (.str x) (.int i) (.str ⟨#[c]⟩) := Op2.mk fun A Z s v₁ v₂ R b r₁ r₂ => by
  cases r₁; cases r₂
  have hlt : i.toNat < x.cps.size := (Array.getElem?_eq_some_iff.mp hc).1
  have hl : x.length = x.cps.size := rfl
  refine tail_all (typeIs_str _ _ _) F.slot_str_getitem.lookup (PyProof.Rows.getItem_str (by simp; omega) ?_ (b.y (Nat.le_succ _) (.str _ _)))
  have e : seqIndex? i x.length = some i.toNat := by
    unfold seqIndex?
    have h1 : ¬ i < 0 := by omega
    have h2 : i < (x.length : Int) := by rw [hl]; omega
    simp [h1, h0, h2]
  rw [e]; exact hc
theorem sb_list {value slice : PySem.Expr} {ds : List D} {i : Int} {d : D} (h0 : 0 ≤ i) (h1 : i < 2 ^ 63) (hd : ds[i.toNat]? = some d) : Sb G value slice (.list ds) (.int i) d := Op2.mk fun A Z s v₁ v₂ R b r₁ r₂ => by
  cases r₂
  cases r₁ with
  | list hz ra =>
    obtain ⟨v, hv, rv⟩ := ra.get hd
    have hl := isList_of (b.zin _ _ hz)
    exact tail_all hl.typeIs slot_list_getitem.lookup (wpAny_getItem_list hl h0 h1 (by simpa using hv) ⟨Z, b.same, rv⟩)
theorem sb_tup {value slice : PySem.Expr} {ds : List D} {i : Int} {j : Nat} {d : D} (hlo : -(2 ^ 63) ≤ i) (hhi : i < 2 ^ 63) (hj : seqIndex? i ds.length = some j) (hd : ds[j]? = some d) : Sb G value slice (.tup ds) (.int i) d := Op2.mk fun A Z s v₁ v₂ R b r₁ r₂ => by
  cases r₂
  cases r₁ with
  | tup hz ra =>
    obtain ⟨v, hv, rv⟩ := ra.get hd
    have hl : IsTup s.heap _ _ := isTuple_of (b.zin _ _ hz)
    exact tail_all hl.typeIs slot_tuple_getitem.lookup (getItem_tuple hl hlo hhi (by rw [List.size_toArray, ra.length]; exact hj) (by simpa using hv) ⟨Z, b.same, rv⟩)

-- tables
def dget (ks : List Str) (ds : List D) (x : Str) : Option D := (ks.zip ds).lookup x
theorem dget_some : ∀ {kvs : List (Str × Value)} {ds : List D} {x : Str} {d : D}, RepAll G Z (kvs.map (·.2)) ds → dget (kvs.map (·.1)) ds x = some d → ∃ v, valueAt kvs x = some v ∧ Rep G Z v d
  | [], _, _, _, _, h => by simp [dget] at h
  | (k, v) :: kvs, _, x, d, .cons r rs, h => by
    unfold dget at h
    simp only [List.map_cons, List.zip_cons_cons, List.lookup_cons] at h
    by_cases q : x = k
    · subst q; simp at h; subst h; exact ⟨v, by simp [valueAt], r⟩
    · rw [beq_eq_false_iff_ne.mpr q] at h
      obtain ⟨w, e, rw'⟩ := dget_some rs h
      exact ⟨w, by simpa [valueAt, Ne.symm q] using e, rw'⟩
theorem dget_none : ∀ {kvs : List (Str × Value)} {ds : List D} {x : Str}, RepAll G Z (kvs.map (·.2)) ds → dget (kvs.map (·.1)) ds x = none → valueAt kvs x = none
  | [], _, _, _, _ => rfl
  | (k, v) :: kvs, _, x, .cons r rs, h => by
    unfold dget at h
    simp only [List.map_cons, List.zip_cons_cons, List.lookup_cons] at h
    by_cases q : x = k
    · subst q; simp at h
    · rw [beq_eq_false_iff_ne.mpr q] at h
      simpa [valueAt, Ne.symm q] using dget_none rs h
theorem dget_isSome {kvs : List (Str × Value)} {ds : List D} {x : Str} (r : RepAll G Z (kvs.map (·.2)) ds) : (valueAt kvs x).isSome = (dget (kvs.map (·.1)) ds x).isSome := by
  cases h : dget (kvs.map (·.1)) ds x with
  | none => rw [dget_none r h]; rfl
  | some d => obtain ⟨v, e, _⟩ := dget_some r h; rw [e]; rfl
theorem dictOf_of {a : Addr} {o : Obj} {h : Heap} {kvs : List (Str × Value)} (e : h.get? a = some o) (hd : o.IsDictOf (strKind G.prog G.w) kvs) : h.DictOf (strKind G.prog G.w) a kvs := Heap.dictOf_iff.mpr ⟨o, e, hd⟩
theorem op_in_dict {ks : List Str} {ds : List D} {x : Str} : Op2 G (compareOp .In) (.str x) (.dict ks ds) (.bool (dget ks ds x).isSome) := Op2.mk fun A Z s v₁ v₂ R b r₁ r₂ => by
  cases r₁
  cases r₂ with
  | dict hz hs hd ra => exact wpAny_in_of (strKind_is _ _ _ _) hs (dictOf_of (b.zin _ _ hz) hd).mapOf (b.y (Nat.le_succ _) (by rw [dget_isSome ra]; exact .bool _))
theorem op_notin_dict {ks : List Str} {ds : List D} {x : Str} : Op2 G (compareOp .NotIn) (.str x) (.dict ks ds) (.bool (!(dget ks ds x).isSome)) := Op2.mk fun A Z s v₁ v₂ R b r₁ r₂ => by
  cases r₁
  cases r₂ with
  | dict hz hs hd ra => exact wpAny_notIn_of (strKind_is _ _ _ _) hs (dictOf_of (b.zin _ _ hz) hd).mapOf (b.y (Nat.le_succ _) (by rw [dget_isSome ra]; exact .bool _))
theorem sb_dict {value slice : PySem.Expr} {ks : List Str} {ds : List D} {x : Str} {d : D} (h : dget ks ds x = some d) : Sb G value slice (.dict ks ds) (.str x) d := Op2.mk fun A Z s v₁ v₂ R b r₁ r₂ => by
  cases r₂
  cases r₁ with
  | dict hz hs hd ra =>
    obtain ⟨v, e, rv⟩ := dget_some ra h
    have hm := dictOf_of (b.zin _ _ hz) hd
    exact tail_all hm.typeIs slot_dict_getitem.lookup (wpAny_getItem_of (strKind_is _ _ _ _) hm.mapOf e (b.y (Nat.le_succ _) rv))
/-- a written table of texts -/
inductive ConstPairs : List (Option PySem.Expr) → List PySem.Expr → List (Str × Str) → Prop
  | nil : ConstPairs [] [] []
  | cons {k v : Str} {c c' : Nat} {p p' : Pos} {ks : List (Option PySem.Expr)} {vs : List PySem.Expr} {r : List (Str × Str)} : ConstPairs ks vs r → ConstPairs (some (.Constant (.str k) c p) :: ks) (.Constant (.str v) c' p' :: vs) ((k, v) :: r)
theorem const_shape {ks : List (Option PySem.Expr)} {vs : List PySem.Expr} {r : List (Str × Str)} (h : ConstPairs ks vs r) : ∃ pairs : List (Sem Value × Sem Value), pairs.length = r.length ∧ (pairs = [] → r = []) ∧
    (evalEachOpt ks env).zip ((evalEach vs env).map fun v => do let x ← v; standAt pos; pure x) = pairs.map (fun p => (some p.1, p.2)) ∧
    ∀ (M : Model) (prog : Program) (w : World) (A : Around) (E : Value → Shared → Prop) (s : Shared) (Q : List (Value × Value) → Shared → Prop),
      (∀ (us : List (Value × Value)) (kvs : List (Str × Value)) (t : Nat), s.toks ≤ t → Carries (strKind prog w) us kvs → kvs.map (·.1) = r.map (·.1) → (∀ Z, RepAll G Z (kvs.map (·.2)) (r.map fun p => .str p.2)) → us.length = r.length → Q us { s with toks := t }) →
      wpAny (model prog w) A (evalPairs pairs) Q E s := by
  induction h with
  | nil => exact ⟨[], rfl, fun _ => rfl, rfl, fun M prog w A E s Q h => evalPairs_nil (h [] [] s.toks (Nat.le_refl _) trivial rfl (fun _ => .nil) rfl)⟩
  | @cons k v c c' p p' ks vs r _ ih =>
    obtain ⟨pairs, hl, _, he, hw⟩ := ih
    refine ⟨(eval (.Constant (.str k) c p) env, (do let x ← eval (.Constant (.str v) c' p') env; standAt pos; pure x)) :: pairs, by simp [hl], fun h => (by cases h), ?_, fun M prog w A E s Q h => ?_⟩
    · show ((some (eval (.Constant (.str k) c p) env), _) :: _) = _
      rw [List.map_cons, ← he]
      rfl
    · refine evalPairs_cons (Calls.Constant_str (wpAny_bind (Calls.Constant_str (wpAny_bind (wpAny_standAt (wpAny_pure ?_))))))
      refine hw M prog w A E _ _ fun us kvs t ht hc hk hr hus => ?_
      refine h _ ((k, .str v (s.toks + 1)) :: kvs) t (by have : s.toks + 1 + 1 ≤ t := ht; omega) ⟨strKind_is _ _ _ _, rfl, hc⟩ (by simp [hk]) (fun Z => .cons (.str _ _) (hr Z)) (by simp [hus])

theorem merged_new {K : Type} [DecidableEq K] : ∀ (more acc : List (K × Value)), ((acc ++ more).map (·.1)).Nodup → merged acc more = acc ++ more
  | [], acc, _ => by simp [merged]
  | (k, v) :: more, acc, h => by
    have hk : acc.any (fun kv => kv.1 = k) = false := by
      rw [List.any_eq_false]
      intro kv hkv
      simp only [decide_eq_true_eq]
      intro q
      rw [List.map_append, List.nodup_append] at h
      exact h.2.2 kv.1 (List.mem_map_of_mem hkv) k (by simp) q
    have e : merged acc ((k, v) :: more) = merged (acc ++ [(k, v)]) more := by
      show merged (stored acc k v) more = _
      unfold stored
      rw [hk]; rfl
    rw [e, merged_new more (acc ++ [(k, v)]) (by simpa using h)]
    simp

theorem ev_dict {ks : List (Option PySem.Expr)} {vs : List PySem.Expr} {r : List (Str × Str)} (h : ConstPairs ks vs r) (h0 : r ≠ []) (hl : r.length ≤ 15) (hn : (r.map (·.1)).Nodup) : Ev G env n ρ (.Dict ks vs pos) (.dict (r.map (·.1)) (r.map fun p => .str p.2)) := by
  constructor
  intro A Z H s R S
  obtain ⟨pairs, hp, hp0, he, hw⟩ := const_shape (G := G) (env := env) (pos := pos) h
  refine wp_tok (wpAny_Dict_pairs (knd := strKind G.prog G.w) he (fun q => h0 (hp0 q)) (by omega) (hw ⟨denote table, G.prog, G.w⟩ G.prog G.w A _ _ _ fun us kvs t ht hc hk hr hus => ⟨kvs, hc, ?_, fun h' hd hs tok => ?_⟩))
  · exact Heap.dictOf_iff.mpr ⟨_, Heap.get?_push_size _ rfl, #[], 0, ⟨rfl, rfl, rfl⟩, rfl, fun e he => by simp at he, .nil, List.nodup_nil⟩
  · have hm : merged [] kvs = kvs := by rw [merged_new kvs [] (by simpa [hk] using hn)]; rfl
    rw [hm] at hd
    obtain ⟨o, ho, hod⟩ := Heap.dictOf_iff.mp hd
    have hlow : (s.heap.objs.size == sysModules) = false := by
      have := modules_low S.bs.nolimit
      rw [beq_eq_false_iff_ne]; exact Nat.ne_of_gt this
    have hZn : Z s.heap.objs.size = none := by
      cases q : Z s.heap.objs.size with
      | none => rfl
      | some ob => have := S.zin _ _ q; rw [get?_size_none] at this; cases this
    have le := Zadd.le (o := o) hZn
    have keep : ∀ b ob, s.heap.get? b = some ob → h'.get? b = some ob := fun b ob e => hs.extBut b ob (Nat.ne_of_lt (Heap.lt_size e)) (Heap.get?_push_of_some _ e)
    refine ⟨Zadd Z s.heap.objs.size o, ⟨le, keep, fun b ob e => ?_, fun b ob e => ?_, rfl, rfl, tok⟩, ?_⟩
    · by_cases q : b = s.heap.objs.size
      · subst q; rw [Zadd.self] at e; cases e; exact ho
      · rw [show Zadd Z s.heap.objs.size o b = Z b from if_neg q] at e; exact keep _ _ (S.zin _ _ e)
    · by_cases q : b = s.heap.objs.size
      · subst q; exact .inr (get?_size_none _)
      · rw [show Zadd Z s.heap.objs.size o b = Z b from if_neg q] at e; exact .inl e
    · rw [← hk]; exact .dict Zadd.self hlow hod (hr _)

end
end Mine
end
section
open PySem PySem.W PyProof.Rows
set_option linter.unusedVariables false
namespace Mine

section
variable {G : Gnd} {env : Env} {Z Z' H H' : Zf} {ρ ρ' ρc : Loc} {s s' : Shared} {A : Around} {E : Value → Shared → Prop} {n : Nat} {pos apos : Pos}

/-- an object is made that is not frozen -/
theorem Ext.push {o : Obj} {t : Nat} (hz : ∀ a o, Z a = some o → s.heap.get? a = some o) (ht : s.toks ≤ t) : Ext Z s Z { s with heap := s.heap.push o, toks := t } :=
  ⟨Zle.same, fun a ob h => Heap.get?_push_of_some _ h, fun a ob h => Heap.get?_push_of_some _ (hz a ob h), fun _ _ h => .inl h, rfl, rfl, ht⟩

-- what is gone through
theorem itr_list {ds : List D} : Itr G (.list ds) ds := Itr.mk fun A Z s v R b r => by
  cases r with
  | @list a vs k _ hz ra =>
    have hl := isList_of (b.zin _ _ hz)
    refine wpAny_pyIter_list hl ⟨s.heap.objs.size, [s.heap.objs.size, a], fun i v => vs.toArray[i]? = some v, fun i h => h.IsListIter s.heap.objs.size a i ∧ h.IsList a vs.toArray, rfl, Ext.push (t := s.toks) b.zin (Nat.le_refl _), get?_size_none _, fun A' hA => ?_, ?_, ?_, ?_, ?_⟩
    · have := Walks.list (prog := G.prog) (w := G.w) hA s.heap.objs.size a (fun q => by have := b.zin _ _ hz; rw [q, get?_size_none] at this; cases this) vs.toArray
      have e : vs.toArray.size = ds.length := by rw [List.size_toArray, ra.length]
      rwa [e] at this
    · intro c hc
      rcases List.mem_cons.mp hc with rfl | hc
      · exact .inl rfl
      · rw [List.mem_singleton] at hc; subst hc; exact .inr ⟨_, hz⟩
    · exact ⟨⟨_, Heap.get?_push_size _ rfl, rfl, rfl⟩, hl.push _⟩
    · rintro i h ⟨⟨o, ho, hc, _⟩, _⟩
      exact ⟨o, _, ho, hc, by decide⟩
    · intro i v hv
      have hv' : vs[i]? = some v := by simpa using hv
      have hlt : i < ds.length := by rw [← ra.length]; exact (List.getElem?_eq_some_iff.mp hv').1
      obtain ⟨w, hw, rw'⟩ := ra.get (i := i) (d := ds[i]) (by simp [hlt])
      rw [hv'] at hw; cases hw
      exact ⟨ds[i], by simp [hlt], rw'⟩

def charsOf (x : Str) : List D := x.cps.toList.map fun c => .str ⟨#[c]⟩
theorem itr_str {x : Str} : Itr G (.str x) (charsOf x) := Itr.mk fun A Z s v R b r => by
  cases r with
  | str x t =>
    have hlen : (charsOf x).length = x.cps.size := by simp [charsOf]
    have hP : ∀ i v, SignAt x i v → ∃ d, (charsOf x)[i]? = some d ∧ Rep G Z v d := by
      rintro i v ⟨c, u, hc, rfl⟩
      exact ⟨.str ⟨#[c]⟩, by simp [charsOf, hc], .str _ _⟩
    cases ha : x.cps.all (· < 128)
    · refine wpAny_pyIter_wide ha ⟨s.heap.objs.size, [s.heap.objs.size], SignAt x, fun i h => h.IsStrIter s.heap.objs.size "str_iterator" x t i, rfl, Ext.push (t := s.toks) b.zin (Nat.le_refl _), get?_size_none _, fun A' hA => ?_, fun c hc => .inl (by simpa using hc), ⟨_, Heap.get?_push_size _ rfl, rfl, rfl⟩, ?_, hP⟩
      · rw [hlen]; exact Walks.strWide hA _ x t
      · rintro i h ⟨o, ho, hc, _⟩; exact ⟨o, _, ho, hc, by decide⟩
    · refine wpAny_pyIter_ascii ha ⟨s.heap.objs.size, [s.heap.objs.size], SignAt x, fun i h => h.IsStrIter s.heap.objs.size "str_ascii_iterator" x t i, rfl, Ext.push (t := s.toks) b.zin (Nat.le_refl _), get?_size_none _, fun A' hA => ?_, fun c hc => .inl (by simpa using hc), ⟨_, Heap.get?_push_size _ rfl, rfl, rfl⟩, ?_, hP⟩
      · rw [hlen]; exact Walks.strAscii hA _ x t
      · rintro i h ⟨o, ho, hc, _⟩; exact ⟨o, _, ho, hc, by decide⟩

theorem itr_rng {a b : Int} (ha : -(2 ^ 62) ≤ a) (ha' : a < 2 ^ 62) (hb : -(2 ^ 62) ≤ b) (hb' : b < 2 ^ 62) : Itr G (.rng a b) ((List.range (b - a).toNat).map fun (i : Nat) => .int (a + i)) := Itr.mk fun A Z s v R b' r => by
  cases r with
  | @rng x _ _ t u v hz =>
    have hr : IsRange s.heap x a b 1 t u v := b'.zin _ _ hz
    have hsz : Builtin.Range.rangeSize a b 1 = ((b - a).toNat : Int) := by rw [rangeSize_one]; split <;> omega
    refine wpAny_pyIter_range hr (small_one ha ha' hb hb') ⟨s.heap.objs.size, [s.heap.objs.size], fun i v => i < (b - a).toNat ∧ ∃ t, v = .int (a + i * 1) t, fun i h => IsRangeIter h s.heap.objs.size (a + (i : Nat) * 1) (((b - a).toNat : Int) - (i : Nat)) 1, rfl, Ext.push (t := s.toks) b'.zin (Nat.le_refl _), get?_size_none _, fun A' hA => ?_, fun c hc => .inl (by simpa using hc), ?_, ?_, ?_⟩
    · rw [List.length_map, List.length_range]
      exact walks_lt (Walks.range hA s.heap.objs.size a 1 (b - a).toNat)
    · have := Heap.get?_push_size s.heap (o := { cls := .type "range_iterator", data := .fields #[rawInt a, rawInt (Builtin.Range.rangeSize a b 1), rawInt 1] }) rfl
      rw [hsz] at this
      rw [hsz]
      simpa using this
    · intro i h hi; exact ⟨_, _, hi, rfl, by decide⟩
    · rintro i v ⟨hi, t, rfl⟩
      exact ⟨.int (a + i), by simp [hi], by rw [Int.mul_one]; exact .int _ _⟩
where walks_lt {prog : Program} {w : World} {A : Around} {I : Addr} {fp wr : List Addr} {n : Nat} {P : Nat → Value → Prop} {St : Nat → Heap → Prop} (W : Walks prog w A I fp wr n P St) : Walks prog w A I fp wr n (fun i v => i < n ∧ P i v) St :=
    ⟨W.sub, W.frame, fun i s Q E hi st hQ => W.item i s Q E hi st fun v h' tk p st' k => hQ v h' tk ⟨hi, p⟩ st' k, W.done, W.self⟩

theorem bt_range1 {b : Int} : BT G "range" [.int b] (.rng 0 b) := BT.mk fun A Z s vs R bs r => by
  cases r with | cons r rs => cases rs; cases r; exact call_range_1 ⟨_, Ext.alloc bs.zin rfl (by omega), .rng Zadd.self⟩
-- cuts
theorem ev_slice {l u : Option PySem.Expr} {lo hi : Option Int} (hl : match l, lo with | none, none => True | some e, some i => Ev G env n ρ e (.int i) | _, _ => False)
    (hu : match u, hi with | none, none => True | some e, some i => Ev G env n ρ e (.int i) | _, _ => False) : Ev G env n ρ (.Slice l u none pos) (.slc lo hi) := by
  constructor
  intro A Z H s R S
  have part : ∀ (e : Option PySem.Expr) (i : Option Int), (match e, i with | none, none => True | some e, some i => Ev G env n ρ e (.int i) | _, _ => False) → ∀ Z₁ s₁, St G env Z₁ H ρ s₁ →
      wpAny (model G.prog G.w) A (valueOrNone (evalOpt e env)) (fun v s' => ∃ Z', Ext Z₁ s₁ Z' s' ∧ IsPart v i) (fun _ _ => False) s₁ := by
    intro e i h Z₁ s₁ S₁
    cases e <;> cases i <;> first | exact h.elim | skip
    · exact wpAny_pure ⟨Z₁, S₁.same, .none⟩
    · exact wp_seq (h.run A Z₁ H s₁ R S₁) fun v s' ⟨Z', x, r⟩ => by cases r; exact ⟨Z', x, .int _ _⟩
  show wpAny _ _ (do
    let l ← valueOrNone (evalOpt l env)
    let u ← holding [l] (valueOrNone (evalOpt u env))
    let s ← holding [l, u] (valueOrNone (evalOpt none env))
    newFields "slice" [l, u, s]) _ _ _
  refine wpAny_bind (wp_seq (part l lo hl Z s S) fun vl s₁ ⟨Z₁, x₁, p₁⟩ => wpAny_bind (wpAny_holding (wp_seq (part u hi hu Z₁ s₁ (S.ext x₁)) fun vu s₂ ⟨Z₂, x₂, p₂⟩ => wpAny_bind (wpAny_holding (wpAny_pure ?_)))))
  refine wpAny_newObj_type ⟨_, x₁.trans (x₂.trans (Ext.alloc (t := s₂.toks) ((S.ext x₁).ext x₂).zin rfl (Nat.le_refl _))), .slc Zadd.self p₁ p₂⟩

theorem sb_slice_str {value slice : PySem.Expr} {x : Str} {lo hi : Option Int} (hn : x.length ≤ sizeLine) : Sb G value slice (.str x) (.slc lo hi) (.str (Txt.slice x lo hi)) := Op2.mk fun A Z s v₁ v₂ R b r₁ r₂ => by
  cases r₁ with
  | str x t =>
    cases r₂ with
    | @slc a vl vu _ _ hz pl pu =>
      have go : ∀ (l u : Option (Int × Tok)), vl = partValue l → vu = partValue u → lo = l.map (·.1) → hi = u.map (·.1) → wpAny (model G.prog G.w) A (getItem (.str x t) (.ref a)) (fun v s' => ∃ Z', Ext Z s Z' s' ∧ Rep G Z' v (.str (Txt.slice x lo hi))) (fun _ _ => False) s := by
        rintro l u rfl rfl rfl rfl
        exact wp_tok (wpAny_getItem_str_slice (st := none) ⟨_, b.zin _ _ hz, rfl, rfl⟩ rfl (post_val_or_str ⟨Nat.le_trans (Txt.slice_le x _ _) hn, fun t' k tok => b.y tok (.str _ _)⟩))
      refine tail_all (typeIs_str _ _ _) F.slot_str_getitem.lookup ?_
      cases pl with
      | none => cases pu with
        | none => exact go none none rfl rfl rfl rfl
        | int j u => exact go none (some (j, u)) rfl rfl rfl rfl
      | int i t' => cases pu with
        | none => exact go (some (i, t')) none rfl rfl rfl rfl
        | int j u => exact go (some (i, t')) (some (j, u)) rfl rfl rfl rfl

end
end Mine
end
section
open PySem PySem.W PyProof.Rows PySem.Builtin PySem.Builtin.Str
set_option linter.unusedVariables false
set_option maxRecDepth 100000
namespace Mine

section
variable {G : Gnd} {env : Env} {Z Z' H H' : Zf} {ρ ρ' ρc : Loc} {s s' : Shared} {A : Around} {E : Value → Shared → Prop} {n : Nat} {pos apos : Pos}

-- rows of texts
abbrev txs (xs : List Str) : List D := xs.map .str
theorem repAll_strs : ∀ (l : List (Str × Tok)), RepAll G Z (strValues l) (txs (l.map (·.1)))
  | [] => .nil
  | _ :: r => .cons (.str _ _) (repAll_strs r)
theorem strs_of_repAll : ∀ {vs : List Value} {xs : List Str}, RepAll G Z vs (txs xs) → ∃ l, strValues l = vs ∧ l.map (·.1) = xs
  | [], [], _ => ⟨[], rfl, rfl⟩
  | v :: vs, x :: xs, .cons r rs => by
    obtain ⟨l, e1, e2⟩ := strs_of_repAll rs
    cases r with
    | str _ t => exact ⟨(x, t) :: l, by rw [← e1]; rfl, by rw [← e2]; rfl⟩
theorem strs_made {l : List (Str × Tok)} {xs : List Str} {k t : Nat} (b : Bs G Z s) (hl : l.map (·.1) = xs) (ht : s.toks ≤ t) :
    ∃ Z', Ext Z s Z' { s with heap := s.heap.push { cls := .type "list", data := .seq (strValues l).toArray k }, toks := t } ∧ Rep G Z' (.ref s.heap.objs.size) (.list (txs xs)) :=
  ⟨_, Ext.alloc b.zin rfl ht, by subst hl; exact .list Zadd.self (repAll_strs l)⟩

-- methods of texts
theorem getm_str {name : Str} {id : String} {x : Str} (slot : Slot "str" name id) (hty : typeOf (.builtin id) = pure (.type "method_descriptor")) : GetM G name (.str x) id :=
  GetM.mk fun M A pl Z s v Q E hz r h => by cases r; exact getMethod_builtin (typeIs_str _ _ _) F.plainAttrs_str slot hty (fun a e => (by cases e)) h

theorem bf_find3 {x y : Str} {i : Int} : BF G "str.find" [.str x, .str y, .int i] (.int (Txt.find3 x y i)) := BF.mk fun A Z s vs R b r => by
  cases r with | cons r rs => cases rs with | cons r₂ rs => cases rs with | cons r₃ rs => cases rs; cases r; cases r₂; cases r₃; exact SC.find3 (b.y (Nat.le_succ _) (.int _ _))
theorem bf_join {x : Str} {xs : List Str} (hok : JoinOk x xs = true) : BF G "str.join" [.str x, .list (txs xs)] (.str (Txt.join x xs)) := BF.mk fun A Z s vs R b r => by
  cases r with
  | cons r rs =>
    cases rs with
    | cons r₂ rs =>
      cases rs; cases r
      cases r₂ with
      | list hz ra =>
        obtain ⟨l, e1, e2⟩ := strs_of_repAll ra
        subst e1
        exact wp_tok (SC.join (isList_of (b.zin _ _ hz)) e2 hok fun t' k tok => b.y tok (.str _ _))
theorem bf_split {x y : Str} (hy : (y.length == 0) = false) (hsz : x.length + 2 ≤ sizeLine) : BF G "str.split" [.str x, .str y] (.list (txs (Txt.split x y))) := BF.mk fun A Z s vs R b r => by
  cases r with
  | cons r rs =>
    cases rs with
    | cons r₂ rs =>
      cases rs
      cases r with
      | str x t =>
        cases r₂ with
        | str y u =>
          have hsz2 : (partsBetween x (occurrences x y 0 x.length (x.length + 1)) y.length).length ≤ sizeLine := by
            rw [length_partsBetween]
            have e := StrLaws.occ_length_le x y 0 x.length (x.length + 1)
            omega
          refine wp_tok ?_
          cases h1 : (decide (x.length < y.length) || decide (strKind x < strKind y))
          · cases hf : (occurrences x y 0 x.length (x.length + 1)).isEmpty
            · refine call_meets F.slot_str_split (typeIs_str _ _ _) F.entry_str_split (F.args_str_split_2 _ _) (meets_str_split_sep x y t u h1 hy hf (by omega) hsz2) ?_
              show wants _ _ _ { s with toks := _, heap := s.heap.push { cls := .type "list", data := .seq (strsFrom s.toks (partsBetween x (occurrences x y 0 x.length (x.length + 1)) y.length)).toArray } }
              rw [strsFrom_eq]
              exact fun tok => strs_made b ((numbered_texts _ _).trans ((if_neg (ne_true_of_eq_false h1)).trans (if_neg (ne_true_of_eq_false hf))).symm) tok
            · exact call_meets F.slot_str_split (typeIs_str _ _ _) F.entry_str_split (F.args_str_split_2 _ _) (meets_str_split_not_found x y t u h1 hy hf)
                (fun tok => strs_made (l := [(x, t)]) b ((if_neg (ne_true_of_eq_false h1)).trans (if_pos hf)).symm tok)
          · exact call_meets F.slot_str_split (typeIs_str _ _ _) F.entry_str_split (F.args_str_split_2 _ _) (meets_str_split_cannot_occur x y t u h1)
              (fun tok => strs_made (l := [(x, t)]) b (if_pos h1).symm tok)

/-- x.replace('..', '..') with two written texts -/
theorem ev_replace {o : PySem.Expr} {x y z : Str} {c c' : Nat} {p p' : Pos} {pl : Sem Bool} (ho : Ev G env n ρ o (.str x)) (hb : x.length + (x.length + 1) * z.length ≤ 16777216)
    (he : eval (.Call (.Attribute o "replace" apos) [.Constant (.str y) c p, .Constant (.str z) c' p'] [] pos) env = (do
      let ov ← eval o env
      standAt apos.atName
      let (f, first) ← holding [ov] (getMethod ov "replace" pl)
      callWith pos f first (backTo pos (starEach [.Constant (.str y) c p, .Constant (.str z) c' p'] env)) [])) :
    Ev G env n ρ (.Call (.Attribute o "replace" apos) [.Constant (.str y) c p, .Constant (.str z) c' p'] [] pos) (.str (Txt.replace x y z)) := by
  constructor
  intro A Z H s R S
  refine MethodCall_ (wp_seq (ho.run A Z H s R S) fun v s₁ ⟨Z₁, x₁, r₁⟩ => ?_) he
  have S₁ := S.ext x₁
  cases r₁ with
  | str x t =>
    refine getMethod_builtin (typeIs_str _ _ _) F.plainAttrs_str F.slot_str_replace F.type_str_replace (fun a e => (by cases e)) ?_
    refine Calls.callWith_builtin rfl (wp_evalArgs rfl (spliced_more (Calls.Constant_str (spliced_more (Calls.Constant_str (spliced_none ?_))))))
    have tk := S₁.tk
    refine wpAny_with_toks (n := s₁.toks) (by show s₁.toks ≤ s₁.toks + 1 + 1; omega) (SC.replaceA (s := { s₁ with toks := s₁.toks + 1 + 1 }) (by show s₁.toks ≠ 0; omega) (by show s₁.toks + 1 ≠ 0; omega) (by show s₁.toks ≠ s₁.toks + 1; omega) hb (fun t' k tok => ⟨Z₁, x₁.trans (Ext.tok S₁.zin tok), .str _ _⟩) S₁.bs.nb)

/-- try, where nothing is raised -/
theorem ex_try {body : List Stmt} {h₀ : ExceptHandler} {hs : List ExceptHandler} {Φ : Fl → Loc → Prop} (h : Exs G env n ρ body Φ) : Ex G env n ρ (.Try body (h₀ :: hs) [] [] pos) Φ :=
  Ex.mk fun A Z H s R S => wpAny_Try_except (wpAny_mono (h.run A Z H s R S) (fun f s₁ h₁ => by
    cases f with
    | next => exact wpAny_execs_nil h₁
    | _ => exact h₁) fun _ _ x => x.elim)

-- rows compared
open PySem.SeqAt in
theorem op_eq_nil {ds : List D} : Op2 G (compareOp .Eq) (.list ds) (.list []) (.bool ds.isEmpty) := Op2.mk fun A Z s v₁ v₂ R b r₁ r₂ => by
  cases r₁ with
  | list hz ra =>
    cases r₂ with
    | list hz' ra' =>
      cases ra'
      have hl := isList_of (b.zin _ _ hz)
      have hl' := isList_of (b.zin _ _ hz')
      cases ra with
      | nil => exact eq_listAt (e := fun _ => true) hl hl' rfl (by have := R.units; omega) (fun j h1 _ => absurd h1 (by simp)) ⟨Z, b.same, .bool _⟩
      | cons r rs => exact eq_list_lengthsAt hl hl' (by simp) (by have := R.units; omega) ⟨Z, b.same, .bool _⟩
open PySem.SeqAt in
theorem op_ne_nil {ds : List D} : Op2 G (compareOp .NotEq) (.list ds) (.list []) (.bool (!ds.isEmpty)) := Op2.mk fun A Z s v₁ v₂ R b r₁ r₂ => by
  cases r₁ with
  | list hz ra =>
    cases r₂ with
    | list hz' ra' =>
      cases ra'
      have hl := isList_of (b.zin _ _ hz)
      have hl' := isList_of (b.zin _ _ hz')
      cases ra with
      | nil => exact RcNeAt.lists (e := fun _ => true) hl hl' rfl (by have := R.units; omega) (fun j h1 _ => absurd h1 (by simp)) G.prog G.w _ _ ⟨Z, b.same, .bool _⟩
      | cons r rs => exact RcNeAt.lists_lengths hl hl' (by simp) (by have := R.units; omega) G.prog G.w _ _ ⟨Z, b.same, .bool _⟩

end
end Mine
end
section
open PySem PySem.W PyProof.Rows
set_option linter.unusedVariables false
set_option maxRecDepth 100000
namespace Mine
def stOf (p : Program) (i : Nat) : Stmt := p.main.body.getD i (.Pass ⟨0, 0, 0, 0⟩)
def bodyOf : Stmt → List Stmt
  | .FunctionDef _ _ b _ _ _ _ _ _ _ => b
  | _ => []
def fdOf (st : Stmt) (doc pm cdv ct : Value) : FuncData := match st with
  | .FunctionDef name args body _ _ _ scope _ _ _ => fnX name name args body scope [] .none .none doc pm none cdv ct
  | _ => default

section
variable {G : Gnd} {env : Env} {Z Z' H H' : Zf} {ρ ρ' ρc : Loc} {s s' : Shared} {A : Around} {E : Value → Shared → Prop} {n : Nat} {pos apos : Pos}

theorem sub_nil : Sub [] ρ := fun x b h => by simp at h
theorem sub_cons {x : Str} {b : B} (h : ρ'.lookup x = some b) (hs : Sub ρ ρ') : Sub ((x, b) :: ρ) ρ' := fun y c e => by
  rw [List.lookup_cons] at e
  by_cases q : y = x
  · subst q; simp at e; subst e; exact h
  · rw [beq_eq_false_iff_ne.mpr q] at e; exact hs y c e
theorem exs_weaken {sts : List Stmt} {Φ : Fl → Loc → Prop} (hs : Sub ρ ρ') (h : Exs G env n ρ sts Φ) : Exs G env n ρ' sts Φ := Exs.mk fun A Z H s R S => h.run A Z H s R (S.weaken hs)
theorem asg_weaken {e : PySem.Expr} {d : D} {ρ'' : Loc} (hs : Sub ρ ρ') (h : Asg G env e d ρ ρ'') : Asg G env e d ρ' ρ'' := Asg.mk fun A Z H s v R S r => h.run A Z H s v R (S.weaken hs) r

/-- a for, by what is known of the names at each turn -/
theorem ex_forI {tgt iter : PySem.Expr} {body : List Stmt} {d : D} {ds : List D} {Φ : Fl → Loc → Prop} (I : Nat → Loc) (h : Ev G env n ρ iter d) (hi : Itr G d ds) (h0 : Sub (I 0) ρ)
    (turn : ∀ i d, ds[i]? = some d → ∃ ρ'', Asg G env tgt d (I i) ρ'' ∧ Exs G env n ρ'' body (LoopPost Φ (Sub (I (i + 1)))))
    (done : ∀ ρ', Sub (I ds.length) ρ' → Φ .next ρ') (hs : ∀ x, foldedSetIterable iter env x = pure x) : Ex G env n ρ (.For tgt iter body [] pos) Φ :=
  ex_for (fun i ρ' => Sub (I i) ρ') h hi h0 (fun i d ρ' hd hsub => by
    obtain ⟨ρ'', ha, hb⟩ := turn i d hd
    exact ⟨ρ'', asg_weaken hsub ha, hb⟩) done hs

/-- a while, by what is known of the names at each turn -/
theorem ex_whileI {t : PySem.Expr} {body : List Stmt} {Φ : Fl → Loc → Prop} {σ : Type} (I : σ → Loc) (m : σ → Nat) (P : σ → Prop) (c₀ : σ) (h0 : Sub (I c₀) ρ) (hp : P c₀)
    (turn : ∀ c, P c → ∃ b, Tst G env n (I c) t b ∧ (b = true → Exs G env n (I c) body (LoopPost Φ fun ρ' => ∃ c', m c' < m c ∧ P c' ∧ Sub (I c') ρ')) ∧ (b = false → ∀ ρ', Sub (I c) ρ' → Φ .next ρ')) : Ex G env n ρ (.While t body [] pos) Φ := by
  refine ex_while (fun k ρ' => ∃ c, k = m c ∧ P c ∧ Sub (I c) ρ') ⟨c₀, rfl, hp, h0⟩ ?_
  rintro k ρ' ⟨c, rfl, hpc, hsub⟩
  obtain ⟨b, ht, h1, h2⟩ := turn c hpc
  refine ⟨b, Tst.mk fun A Z H s R S => ht.run A Z H s R (S.weaken hsub), fun hb => ?_, fun hb => h2 hb ρ' hsub⟩
  refine exs_mono (exs_weaken hsub (h1 hb)) ?_
  rintro fl ρ'' h
  cases fl with
  | next => obtain ⟨c', hl, hp', hs'⟩ := h; exact ⟨m c', hl, c', rfl, hp', hs'⟩
  | cont => obtain ⟨c', hl, hp', hs'⟩ := h; exact ⟨m c', hl, c', rfl, hp', hs'⟩
  | brk => exact h
  | ret d => exact h

theorem then_next {Φ : Fl → Loc → Prop} {K : Loc → Prop} (h : K ρ) : Then Φ K .next ρ := h


-- cheap looks at the text
theorem star_cons {e : PySem.Expr} {es : List PySem.Expr} (h : isStarred e = false) : starEach (e :: es) env = (false, eval e env) :: starEach es env := by
  cases e <;> first | rfl | cases h
theorem star_all : ∀ {es : List PySem.Expr}, es.any isStarred = false → (starEach es env).any (·.1) = false
  | [], _ => rfl
  | e :: es, h => by
    rw [List.any_cons, Bool.or_eq_false_iff] at h
    rw [star_cons h.1, List.any_cons, star_all h.2]; rfl
theorem evs_more {e : PySem.Expr} {es : List PySem.Expr} {d : D} {ds : List D} (h : Ev G env n ρ e d) (h' : Evs G env n ρ es ds) (hs : isStarred e = false) : Evs G env n ρ (e :: es) (d :: ds) := evs_cons h h' (star_cons hs)
def isAttr : PySem.Expr → Bool
  | .Attribute .. => true
  | _ => false
theorem eval_call {f : PySem.Expr} {es : List PySem.Expr} (h : isAttr f = false) : eval (.Call f es [] pos) env = (do callWith pos (← eval f env) [] (backTo pos (starEach es env)) []) := by
  cases f <;> first | rfl | cases h
def isNameCall : PySem.Expr → Bool
  | .Call (.Name ..) [] [] _ => true
  | _ => false
theorem base_same {o : PySem.Expr} {name : Str} {t : Sem Value} (h : isNameCall o = false) : attributeBase o name env t = t := by
  unfold attributeBase
  split
  · rename_i h'; cases h
  · rfl
theorem form_all : ∀ {es : List PySem.Expr}, es.any isStarred = false → (backTo pos (starEach es env)).all (fun x => !x.1) = true
  | [], _ => rfl
  | e :: es, h => by
    rw [List.any_cons, Bool.or_eq_false_iff] at h
    rw [star_cons h.1]
    show (!false && (backTo pos (starEach es env)).all (fun x => !x.1)) = true
    rw [form_all h.2]; rfl
theorem eval_method {o : PySem.Expr} {name : Str} {es : List PySem.Expr} (hb : isNameCall o = false) (hst : es.any isStarred = false) (hlen : es.length < 30) (hline : (apos.endLine == pos.line) = true) :
    eval (.Call (.Attribute o name apos) es [] pos) env = (do
      let ov ← eval o env
      standAt apos.atName
      let (f, first) ← holding [ov] (getMethod ov name (do return (← importBound o env).getD true))
      callWith pos f first (backTo pos (starEach es env)) []) := by
  have hform : methodCallForm (es.length + ([] : List Keyword).length) (backTo pos (starEach es env)) (backToKw pos (keywordEach [] env)) = true := by
    unfold methodCallForm
    rw [form_all hst]
    have e : backToKw pos (keywordEach [] env) = [] := rfl
    rw [e]
    simpa using hlen
  show (do
    let ov ← attributeBase o name env (eval o env)
    standAt apos.atName
    methodCall o name apos pos env ov (es.length + ([] : List Keyword).length) (backTo pos (starEach es env)) (backToKw pos (keywordEach [] env))) = _
  rw [base_same hb]
  unfold methodCall calleeOf
  simp only [hform, if_true]
  have hp : methodCallPos true o env apos pos = pure pos := by unfold methodCallPos; simp [hline]
  simp only [hp, pure_bind]
  rfl

theorem ev_call {f : PySem.Expr} {es : List PySem.Expr} {a : Addr} {ds : List D} {d : D} (hf : Ev G env n ρ f (.fn a)) (h : Evs G env n ρ es ds) (hk : keepIn G.K (.ref a) = true) (hc : Fn G n a ds d) (hst : es.any isStarred = false) (ha : isAttr f = false) : Ev G env n ρ (.Call f es [] pos) d :=
  ev_callFn hf h hk hc (star_all hst) (eval_call ha)
theorem ev_bf {x : Str} {p : Pos} {id : String} {es : List PySem.Expr} {ds : List D} {d : D} (h : Evs G env n ρ es ds) (hc : BF G id ds d) (e : nsIn G.K mainGlobals x = some none) (hv : bootBuiltins x = some (.builtin id)) (hx : env.kindOf x = some .globalImplicit)
    (hd : ((x == ("__debug__" : Str)) || (x == ("__name__" : Str))) = false) (hst : es.any isStarred = false) : Ev G env n ρ (.Call (.Name x p) es [] pos) d :=
  ev_callBF h hc e hv (by rw [Bool.or_eq_false_iff] at hd; exact beq_eq_false_iff_ne.mp hd.2) hx (by rw [Bool.or_eq_false_iff] at hd; exact hd.1) (star_all hst) (eval_call rfl)
theorem ev_bt {x : Str} {p : Pos} {T : String} {es : List PySem.Expr} {ds : List D} {d : D} (h : Evs G env (n + 1) ρ es ds) (hc : BT G T ds d) (e : nsIn G.K mainGlobals x = some none) (hv : bootBuiltins x = some (.type T)) (hx : env.kindOf x = some .globalImplicit)
    (hd : ((x == ("__debug__" : Str)) || (x == ("__name__" : Str))) = false) (hst : es.any isStarred = false) : Ev G env (n + 1) ρ (.Call (.Name x p) es [] pos) d :=
  ev_callBT h hc e hv (by rw [Bool.or_eq_false_iff] at hd; exact beq_eq_false_iff_ne.mp hd.2) hx (by rw [Bool.or_eq_false_iff] at hd; exact hd.1) (star_all hst) (eval_call rfl)
theorem ev_meth {o : PySem.Expr} {name : Str} {id : String} {es : List PySem.Expr} {d₀ : D} {ds : List D} {d : D} (ho : Ev G env n ρ o d₀) (h : Evs G env n ρ es ds) (g : GetM G name d₀ id) (hc : BF G id (d₀ :: ds) d)
    (hb : isNameCall o = false) (hst : es.any isStarred = false) (hlen : es.length < 30) (hline : (apos.endLine == pos.line) = true) : Ev G env n ρ (.Call (.Attribute o name apos) es [] pos) d :=
  ev_method ho g h hc (star_all hst) (eval_method hb hst hlen hline)
theorem ev_repl {o : PySem.Expr} {x y z : Str} {c c' : Nat} {p p' : Pos} (ho : Ev G env n ρ o (.str x)) (hb : x.length + (x.length + 1) * z.length ≤ 16777216) (hn : isNameCall o = false) (hline : (apos.endLine == pos.line) = true) :
    Ev G env n ρ (.Call (.Attribute o "replace" apos) [.Constant (.str y) c p, .Constant (.str z) c' p'] [] pos) (.str (Txt.replace x y z)) :=
  ev_replace ho hb (eval_method hn rfl (by show 2 < 30; decide) hline)

end
end Mine
end
section
open PySem PySem.W PyProof.Rows PySem.Builtin PySem.Builtin.Str
set_option linter.unusedVariables false
namespace Mine

/-- a text of code points -/
def T (l : List Nat) : Str := ⟨l.toArray⟩
theorem T_list (l : List Nat) : (T l).cps.toList = l := rfl
theorem T_length (l : List Nat) : (T l).length = l.length := by show l.toArray.size = _; simp
theorem T_of (x : Str) : T x.cps.toList = x := by cases x; simp [T]
theorem T_append (a b : List Nat) : T a ++ T b = T (a ++ b) := by
  show (⟨a.toArray ++ b.toArray⟩ : Str) = _
  simp [T]
theorem T_inj {a b : List Nat} (h : T a = T b) : a = b := by simpa [T_list] using congrArg (fun x => x.cps.toList) h
theorem T_one (c : Nat) : T [c] = ⟨#[c]⟩ := rfl
theorem T_beq (a b : List Nat) : (T a == T b) = decide (a = b) := by
  rw [Bool.eq_iff_iff]
  simp only [beq_iff_eq, decide_eq_true_eq]
  exact ⟨T_inj, fun h => by rw [h]⟩

/-- each sign c becomes z -/
def sub1 (c : Nat) (z l : List Nat) : List Nat := l.flatMap fun k => if k = c then z else [k]
theorem sub1_append (c : Nat) (z a b : List Nat) : sub1 c z (a ++ b) = sub1 c z a ++ sub1 c z b := by simp [sub1]
theorem sub1_free (c : Nat) (z : List Nat) : ∀ {l : List Nat}, c ∉ l → sub1 c z l = l
  | [], _ => rfl
  | k :: r, h => by
    simp only [List.mem_cons, not_or] at h
    have ih := sub1_free c z h.2
    unfold sub1 at ih ⊢
    rw [List.flatMap_cons, ih, if_neg (Ne.symm h.1)]
    rfl
theorem join_list (z : List Nat) : ∀ parts : List (List Nat), (Str.join (T z) (parts.map T)) = T ((parts.intersperse z).flatten)
  | [] => rfl
  | [a] => by simp [Str.join]
  | a :: b :: r => by
    have ih := join_list z (b :: r)
    simp only [List.map_cons] at ih ⊢
    show T a ++ T z ++ Str.join (T z) (T b :: r.map T) = _
    rw [ih, T_append, T_append]
    simp [List.intersperse]
theorem sub1_join (c : Nat) (z : List Nat) : ∀ parts : List (List Nat), (∀ p ∈ parts, c ∉ p) → sub1 c z ((parts.intersperse [c]).flatten) = (parts.intersperse z).flatten
  | [], _ => rfl
  | [a], h => by simpa using sub1_free c z (h a (by simp))
  | a :: b :: r, h => by
    have ih := sub1_join c z (b :: r) fun p hp => h p (List.mem_cons_of_mem _ hp)
    have e1 : ((a :: b :: r).intersperse [c]).flatten = a ++ ([c] ++ ((b :: r).intersperse [c]).flatten) := by simp [List.intersperse]
    have e2 : ((a :: b :: r).intersperse z).flatten = a ++ (z ++ ((b :: r).intersperse z).flatten) := by simp [List.intersperse]
    rw [e1, e2, sub1_append, sub1_append, ih, sub1_free c z (h a (by simp))]
    simp [sub1]

theorem split_lists (l : List Nat) (c : Nat) : ∃ parts : List (List Nat), Txt.split (T l) ⟨#[c]⟩ = parts.map T ∧ (∀ p ∈ parts, c ∉ p) ∧ l = (parts.intersperse [c]).flatten := by
  refine ⟨(Txt.split (T l) ⟨#[c]⟩).map (fun x => x.cps.toList), ?_, ?_, ?_⟩
  · rw [List.map_map]
    conv => lhs; rw [← List.map_id (Txt.split (T l) ⟨#[c]⟩)]
    exact List.map_congr_left fun x _ => (T_of x).symm
  · intro p hp
    obtain ⟨x, hx, rfl⟩ := List.mem_map.mp hp
    exact StrLaws.split_free (T l) c x hx
  · have h := StrLaws.join_split (T l) ⟨#[c]⟩
    have e : Txt.split (T l) ⟨#[c]⟩ = ((Txt.split (T l) ⟨#[c]⟩).map (fun x => x.cps.toList)).map T := by
      rw [List.map_map]
      conv => lhs; rw [← List.map_id (Txt.split (T l) ⟨#[c]⟩)]
      exact List.map_congr_left fun x _ => (T_of x).symm
    rw [e, ← T_one, join_list] at h
    exact (T_inj h).symm

theorem repl_T (l z : List Nat) (c : Nat) : Txt.replace (T l) ⟨#[c]⟩ (T z) = T (sub1 c z l) := by
  obtain ⟨parts, h1, h2, h3⟩ := split_lists l c
  rw [StrLaws.replace_one, h1, join_list]
  conv => rhs; rw [h3]
  rw [sub1_join c z parts h2]

theorem tin_T (l : List Nat) (c : Nat) : tin ⟨#[c]⟩ (T l) = decide (c ∈ l) := StrLaws.found_one (T l) c

end Mine
end
section
open PySem PySem.W PyProof.Rows PySem.Builtin PySem.Builtin.Str
set_option linter.unusedVariables false
namespace Mine

abbrev Tbl := List (Nat × List Nat)
def spell (t : Tbl) (k : Nat) : List Nat := (t.lookup k).getD [k]
def escBy (t : Tbl) (l : List Nat) : List Nat := l.flatMap (spell t)
theorem escBy_nil (l : List Nat) : escBy [] l = l := by
  induction l with
  | nil => rfl
  | cons k r ih =>
    show [k] ++ escBy [] r = _
    rw [ih]; rfl
theorem escBy_append (t : Tbl) (a b : List Nat) : escBy t (a ++ b) = escBy t a ++ escBy t b := by simp [escBy]
theorem escBy_cons (t : Tbl) (k : Nat) (r : List Nat) : escBy t (k :: r) = spell t k ++ escBy t r := by simp [escBy]
def okFor (t : Tbl) (c : Nat) : Bool := t.all fun p => !(p.2.contains c) && !(p.1 == c)
theorem lookup_snoc (t : Tbl) (c k : Nat) (z : List Nat) : (t ++ [(c, z)]).lookup k = (t.lookup k).or (if k = c then some z else none) := by
  rw [List.lookup_append]
  congr 1
  by_cases h : k = c
  · subst h; simp
  · rw [List.lookup_cons, beq_eq_false_iff_ne.mpr h, if_neg h]; rfl
theorem sub1_spell {t : Tbl} {c : Nat} {z : List Nat} (h : okFor t c = true) (k : Nat) : sub1 c z (spell t k) = spell (t ++ [(c, z)]) k := by
  unfold spell
  rw [lookup_snoc]
  cases hk : t.lookup k with
  | none =>
    by_cases q : k = c
    · subst q; simp [sub1]
    · simp [sub1, q]
  | some y =>
    have hm : (k, y) ∈ t := by
      clear h
      induction t with
      | nil => simp at hk
      | cons p r ih =>
        obtain ⟨a, b⟩ := p
        rw [List.lookup_cons] at hk
        by_cases q : k = a
        · subst q; simp at hk; subst hk; exact List.mem_cons_self
        · rw [beq_eq_false_iff_ne.mpr q] at hk; exact List.mem_cons_of_mem _ (ih hk)
    have := (List.all_eq_true.mp h) (k, y) hm
    simp only [Bool.and_eq_true, Bool.not_eq_true', List.contains_eq_mem, decide_eq_false_iff_not] at this
    simpa using sub1_free c z this.1
theorem sub1_esc {t : Tbl} {c : Nat} {z : List Nat} (h : okFor t c = true) (l : List Nat) : sub1 c z (escBy t l) = escBy (t ++ [(c, z)]) l := by
  induction l with
  | nil => rfl
  | cons k r ih => rw [escBy_cons, escBy_cons, sub1_append, ih, sub1_spell h]
theorem spell_le {t : Tbl} {m : Nat} (hm : 1 ≤ m) (h : t.all (fun p => decide (p.2.length ≤ m)) = true) (k : Nat) : (spell t k).length ≤ m := by
  unfold spell
  induction t with
  | nil => simpa using hm
  | cons p r ih =>
    obtain ⟨a, b⟩ := p
    simp only [List.all_cons, Bool.and_eq_true, decide_eq_true_eq] at h
    rw [List.lookup_cons]
    cases q : k == a with
    | true => exact h.1
    | false => exact ih h.2
theorem esc_le {t : Tbl} {m : Nat} (hm : 1 ≤ m) (h : t.all (fun p => decide (p.2.length ≤ m)) = true) (l : List Nat) : (escBy t l).length ≤ m * l.length := by
  induction l with
  | nil => simp [escBy]
  | cons k r ih =>
    rw [escBy_cons, List.length_append, List.length_cons, Nat.mul_succ]
    have := spell_le hm h k
    omega

section
variable {G : Gnd} {env : Env} {ρ : Loc} {n : Nat}
/-- one row of an escape -/
theorem esc_step {l : List Nat} {t : Tbl} {c : Nat} {z : List Nat} {x cs zs : Str} {i1 i2 i3 : Nat} {p1 p2 p3 p4 p5 apos pos spos pos' : Pos} {rest : List Stmt} {Φ : Fl → Loc → Prop}
    (hl : ρ.lookup x = some (.val (.str (T (escBy t l))))) (hcs : cs = ⟨#[c]⟩) (hzs : zs = T z) (hok : okFor t c = true) (hm : t.all (fun p => decide (p.2.length ≤ 8)) = true) (hz : z.length ≤ 8) (hsz : l.length ≤ 100000)
    (hd : (x == ("__debug__" : Str)) = false) (hc : Can env x) (hline : (apos.endLine == pos.line) = true)
    (k : Exs G env n (upd ρ x (.val (.str (T (escBy (t ++ [(c, z)]) l))))) rest Φ) :
    Exs G env n ρ (.If (.Compare (.Constant (.str cs) i1 p1) [.In] [.Name x p2] p3) [.Assign [.Name x p4] (.Call (.Attribute (.Name x p5) "replace" apos) [.Constant (.str cs) i2 p1', .Constant (.str zs) i3 p2'] [] pos) spos] [] pos' :: rest) Φ := by
  have hb : (T (escBy t l)).length + ((T (escBy t l)).length + 1) * zs.length ≤ 16777216 := by
    have h1 := esc_le (m := 8) (by decide) hm l
    rw [hzs, T_length, T_length]
    have h2 : ((escBy t l).length + 1) * z.length ≤ (8 * l.length + 1) * 8 := Nat.mul_le_mul (by omega) hz
    omega
  have hr : Txt.replace (T (escBy t l)) cs zs = T (escBy (t ++ [(c, z)]) l) := by rw [hcs, hzs, repl_T, sub1_esc hok]
  refine exs_cons (ex_if (tst_cmp ev_str (ev_name hl hd) op_in_str rfl) (fun _ => ?_) fun hf => ?_)
  · refine exs_cons (ex_assign (ev_repl (ev_name hl hd) hb rfl hline) hc rfl ?_)
    refine exs_nil ?_
    rw [hr]
    exact k
  · refine exs_nil ?_
    refine exs_weaken ?_ k
    have : T (escBy (t ++ [(c, z)]) l) = T (escBy t l) := by
      rw [hcs, tin_T, decide_eq_false_iff_not] at hf
      rw [← sub1_esc hok, sub1_free c z hf]
    rw [this]
    intro y b e
    rw [lookup_upd] at e
    by_cases q : y = x
    · subst q; rw [if_pos rfl] at e; cases e; exact hl
    · rw [if_neg q] at e; exact e
end
end Mine
end
section
open PySem PySem.W PyProof.Rows
set_option linter.unusedVariables false
namespace Mine

theorem ns_none_of {K : Frag} {h : Heap} {a : Addr} {mc : Str → Option Value} {n : Str} (X : K.In h) (G : h.Ns a mc) (e : nsIn K a n = some none) : mc n = none := by
  obtain ⟨o, es, ep, ho, hd, _, hf⟩ := G
  unfold nsIn at e
  split at e
  · rename_i c dd es' ep' sl hk
    have := X _ _ hk
    rw [ho] at this
    cases this
    cases hd
    split at e
    · cases e
    · rename_i hfind
      rw [← hf]
      unfold nsFind findBy
      rw [← Array.find?_toList, hfind]
      rfl
  · cases e

theorem repAll_ints {G : Gnd} {Z : Zf} : ∀ {vs : List Value} {ns : List Int}, IntsAre vs ns → RepAll G Z vs (ns.map .int)
  | _, _, .nil => .nil
  | _, _, .cons n t r => .cons (.int n t) (repAll_ints r)

theorem finish {prog : Program} {w : World} {K : Frag} {p : Program} {loose : List Str} {mg mb : Str → Option Value} {s₁ : Shared} {f a : Addr} {vs : List Value} {ns : List Int} {k n : Nat} {c : ClaimW} {cl : Str → Option Addr} {mean : ExcName → Option Value} {args : List WData}
    (KX : K.In s₁.heap) (T : TopRead p loose mg mb s₁.heap) (hst : nsIn K cStatics sharingNotToldKey = some none) (hg : s₁.gens = #[]) (htk : 0 < s₁.toks) (ho : s₁.heap.get? a = some (listOf vs.toArray k)) (hI : IntsAre vs ns)
    (hn : ∀ cls, c.raises args cls = false) (hp : c.post args (.bool true) args = true) (hr : n ≤ 100)
    (h : ∀ nb, Fn ⟨prog, w, K, p, loose, mg, mb, s₁.heap, s₁.os, KX, T, nb⟩ n f [.list (ns.map .int)] (.bool true)) :
    wpAny (model prog w) callerA (call (.ref f) [.ref a]) (fun v s' => GoodWG c cl mean args s₁ (.ok (.ret v)) s') (fun e s' => GoodWG c cl mean args s₁ (.error e) s') s₁ := by
  have nb : NoneBooked s₁.heap := by
    obtain ⟨mc, hm, _⟩ := T.nolimit
    exact ⟨mc, hm, ns_none_of KX hm hst⟩
  have H := h nb
  refine wp_seq (H.run callerA (fun b => if b = a then some (listOf vs.toArray k) else none) s₁ [.ref a] ⟨rfl, ?_, ?_, rfl⟩ ⟨hg, rfl, htk, fun b o e => ?_, fun b o e => e⟩ (.cons (.list (if_pos rfl) (repAll_ints hI)) .nil)) fun v s' ⟨Z', x, r⟩ => ?_
  · show 1 + claimMargin + n < recursionLimit
    have : claimMargin = 300 := rfl
    have : recursionLimit = 1000 := rfl
    omega
  · show 4 + 8 * n < cLine
    have : cLine = 9900 := rfl
    omega
  · by_cases q : b = a
    · subst q; rw [if_pos rfl] at e; cases e; exact ho
    · rw [if_neg q] at e; cases e
  · cases r
    refine GoodW.toG ⟨.inl ⟨_, _, [], rfl, hn, .bool true, hp, unshared_nil⟩, fun b o e => x.keep b o e, x.os, x.gens.trans hg⟩
end Mine
end
section
open PySem PySem.W PyProof.Rows
set_option linter.unusedVariables false
set_option maxRecDepth 100000
namespace Mine
section
variable {G : Gnd} {env : Env} {Z Z' H : Zf} {ρ ρ' : Loc} {s s' : Shared} {A : Around} {E : Value → Shared → Prop} {n : Nat} {pos apos : Pos}

/-- data that need no heap -/
def Atom : D → Bool
  | .none | .bool _ | .int _ | .str _ | .bytes _ => true
  | _ => false
theorem rep_atom {v : Value} {d : D} (h : Atom d = true) (r : Rep G Z v d) : Rep G Z' v d := by
  cases r <;> first | exact .none | exact .bool _ | exact .int _ _ | exact .str _ _ | exact .bytes _ _ | cases h

/-- an owned list is read, and stays owned -/
theorem ev_peek {x : Str} {ds : List D} {e : PySem.Expr} {d : D} (hx : ρ.lookup x = some (.own ds)) (h : Ev G env n (upd ρ x (.val (.list ds))) e d) (ha : Atom d = true) : Ev G env n ρ e d :=
  Ev.mk fun A Z H s R S => by
    obtain ⟨Z', le, S', _⟩ := S.freeze hx
    exact wp_seq (h.run A Z' H s R S') fun v s₁ ⟨Z₁, x₁, r₁⟩ => ⟨Z, x₁.back S.zin, rep_atom ha r₁⟩
/-- an owned list is frozen for good -/
theorem exs_freeze {x : Str} {ds : List D} {sts : List Stmt} {Φ : Fl → Loc → Prop} (hx : ρ.lookup x = some (.own ds)) (h : Exs G env n (upd ρ x (.val (.list ds))) sts Φ) : Exs G env n ρ sts Φ :=
  Exs.mk fun A Z H s R S => by
    obtain ⟨Z', le, S', _⟩ := S.freeze hx
    exact wp_seq (h.run A Z' H s R S') fun f s₁ ⟨Z₁, ρ₁, fl, le₁, S₁, hf, hΦ⟩ => ⟨Z₁, ρ₁, fl, le.trans le₁, S₁, hf, hΦ⟩

theorem Has.uniq {h : Heap} {x : Str} {u v : Value} (a : Has env h x u) (b : Has env h x v) : u = v := by
  rcases a with ⟨k, m, hn, e⟩ | ⟨k, c, e, hn⟩ <;> rcases b with ⟨k', m', hn', e'⟩ | ⟨k', c', e', hn'⟩
  · rw [ns_uniq hn hn', e'] at e; exact (Option.some.inj e).symm
  · rcases k' with k' | k' <;> simp_all
  · rcases k with k | k <;> simp_all
  · rw [e] at e'; cases e'
    obtain ⟨o, ho1, ho2⟩ := hn
    obtain ⟨o', ho1', ho2'⟩ := hn'
    rw [ho1] at ho1'; cases ho1'
    rw [ho2] at ho2'
    simpa using ho2'

/-- x = [..], a list that the frame alone holds -/
theorem ex_assign_own {x : Str} {p q : Pos} {es : List PySem.Expr} {ds : List D} {Φ : Fl → Loc → Prop} (h : Evs G env n ρ es ds) (hsz : ds.length ≤ sizeLine) (hc : Can env x) (k : Φ .next (upd ρ x (.own ds))) :
    Ex G env n ρ (.Assign [.Name x p] (.List es q) pos) Φ := by
  constructor
  intro A Z H s R S
  refine wpAny_Assign_Name (List_ (wp_seq (h.run A Z H s q R S) fun vs s₁ ⟨Z₁, x₁, r₁⟩ => ?_)) rfl
  have S₁ := S.ext x₁
  refine wpAny_newObj_type ?_ (by show vs.toArray.size ≤ sizeLine; rw [List.size_toArray, r₁.length]; exact hsz)
  have S₂ := S₁.ext (Ext.push (o := { cls := .type "list", data := .seq vs.toArray }) (t := s₁.toks) S₁.zin (Nat.le_refl _))
  have hn : s₁.heap.get? s₁.heap.objs.size = none := get?_size_none _
  have new : ∀ {b : Addr} {o : Obj}, s₁.heap.get? b = some o → s₁.heap.objs.size ≠ b := fun e q => by rw [q, e] at hn; cases hn
  refine wp_seq (st_storeOwn (a := s₁.heap.objs.size) (vs := vs) (n := 0) (ds := ds) S₂ ?_ ?_ ?_ ?_ ?_ (Heap.get?_push_size _ rfl) r₁ hc) fun _ s₃ S₃ => ⟨Z₁, _, _, x₁.le, S₃, .next, k⟩
  · cases q : Z₁ s₁.heap.objs.size with
    | none => rfl
    | some o => exact absurd rfl (new (S₁.zin _ _ q))
  · cases q : H s₁.heap.objs.size with
    | none => rfl
    | some o => exact absurd rfl (new (S₁.hin _ _ q))
  · obtain ⟨m, o, _, _, e, _⟩ := S₁.ns
    exact new e
  · intro y c e
    obtain ⟨_, h1, h2⟩ := S₁.cells y c e
    cases hf : env.func.isSome with
    | true => obtain ⟨_, _, v, ob, e2, _⟩ := h1 hf; exact new e2
    | false => obtain ⟨ob, e2⟩ := h2 hf; exact new (S₁.hin _ _ e2)
  · intro y es v hy hv
    obtain ⟨oa, _, ho⟩ := S₁.owns
    obtain ⟨h1, _, _, _, _, vs', k', h6, _⟩ := ho y es hy
    have h1' := h1.keeps (h' := (s₁.heap.push { cls := .type "list", data := .seq vs.toArray })) fun b o e => Heap.get?_push_of_some _ e
    have : v = .ref (oa y) := hv.uniq h1'
    subst this
    intro q
    exact absurd (Value.ref.inj q).symm (new h6)

/-- what a method does to a list -/
structure Mut (G : Gnd) (id : String) (ds args : List D) (ds' : List D) : Prop where
  run : ∀ A Z s a vs k args', Room 0 A → Bs G Z s → Z a = none → s.heap.get? a = some (listOf vs.toArray k) → RepAll G Z vs ds → RepAll G Z args' args →
    wpAny (model G.prog G.w) A (call (.builtin id) (.ref a :: args')) (fun r s' => ∃ vs' k', s'.heap.get? a = some (listOf vs'.toArray k') ∧ RepAll G Z vs' ds' ∧ (∃ h' t, s' = { s with heap := h', toks := t } ∧ s.toks ≤ t ∧ Heap.SameBut a s.heap h')) (fun _ _ => False) s

theorem St.mutate {x : Str} {ds' : List D} {h' : Heap} {t : Nat} {vs' : List Value} {k' : Nat} (S : St G env Z H ρ s) (oa : Str → Addr) (hi : ∀ x y ds es, ρ.lookup x = some (.own ds) → ρ.lookup y = some (.own es) → oa x = oa y → x = y)
    (ho : ∀ x ds, ρ.lookup x = some (.own ds) → Has env s.heap x (.ref (oa x)) ∧ Z (oa x) = none ∧ H (oa x) = none ∧ oa x ≠ env.locals ∧ (∀ y c, env.cells.lookup y = some c → oa x ≠ c) ∧
      ∃ vs n, s.heap.get? (oa x) = some (listOf vs.toArray n) ∧ RepAll G Z vs ds) {ds : List D} (hx : ρ.lookup x = some (.own ds)) (hg : h'.get? (oa x) = some (listOf vs'.toArray k')) (hr : RepAll G Z vs' ds') (ht : s.toks ≤ t) (hs : Heap.SameBut (oa x) s.heap h') :
    St G env Z H (upd ρ x (.own ds')) { s with heap := h', toks := t } := by
  obtain ⟨h1, h2, h3, h4, h5, vs, k, h6, h7⟩ := ho x ds hx
  have has : ∀ y v, Has env s.heap y v → Has env h' y v := fun y v q => by
    rcases q with ⟨k, m, hn, e⟩ | ⟨k, c, e, hn⟩
    · exact .inl ⟨k, m, hn.sameBut hs (Ne.symm h4), e⟩
    · exact .inr ⟨k, c, e, hn.sameBut hs (Ne.symm (h5 y c e))⟩
  refine S.put ht hs h2 h3 (let ⟨m, hn⟩ := S.ns; ⟨m, hn.sameBut hs (Ne.symm h4)⟩) (fun y c e hf => ?_) (fun y d e => ?_) ⟨oa, ?_, ?_⟩
  · obtain ⟨_, g1, _⟩ := S.cells y c e
    obtain ⟨_, _, v, hv⟩ := g1 hf
    exact ⟨v, hv.sameBut hs (Ne.symm (h5 y c e))⟩
  · rw [lookup_upd] at e
    by_cases q : y = x
    · rw [if_pos q] at e; cases e
    · rw [if_neg q] at e
      obtain ⟨v, hv, r⟩ := S.vars y d e
      exact ⟨v, has y v hv, r⟩
  · intro y z es es' ey ez q
    rw [lookup_upd] at ey ez
    by_cases qy : y = x <;> by_cases qz : z = x
    · rw [qy, qz]
    · rw [if_neg qz] at ez; rw [qy] at q ⊢; exact hi x z _ _ hx ez q
    · rw [if_neg qy] at ey; rw [qz] at q ⊢; exact hi y x _ _ ey hx q
    · rw [if_neg qy] at ey; rw [if_neg qz] at ez; exact hi y z _ _ ey ez q
  · intro y es e
    rw [lookup_upd] at e
    by_cases q : y = x
    · subst q
      rw [if_pos rfl] at e; cases e
      exact ⟨has _ _ h1, h2, h3, h4, h5, vs', k', hg, hr⟩
    · rw [if_neg q] at e
      obtain ⟨g1, g2, g3, g4, g5, us, j, g6, g7⟩ := ho y es e
      exact ⟨has _ _ g1, g2, g3, g4, g5, us, j, (hs.2 _ fun z => q (hi y x _ _ e hx z)).trans g6, g7⟩

theorem wp_own {x : Str} {p : Pos} {a : Addr} {Q : Value → Shared → Prop} {M : Model} (S : St G env Z H ρ s) (hv : Has env s.heap x (.ref a)) (hd : (x == ("__debug__" : Str)) = false) (h : Q (.ref a) s) : wpAny M A (eval (.Name x p) env) Q E s := by
  refine wpAny_Name ?_ hd
  rcases hv with ⟨k, m, n, e⟩ | ⟨k, c, e, n⟩
  · exact wpAny_loadName_local S.fk k n e h
  · rcases k with k | k
    · exact wpAny_loadName_cell S.fk k e n h
    · exact wpAny_loadName_free S.fk k.1 e n h k.2

/-- x.method(..) of an owned list, as a statement -/
theorem ex_mut {x name : Str} {p pos' : Pos} {id : String} {es : List PySem.Expr} {ds args ds' : List D} {Φ : Fl → Loc → Prop} (hx : ρ.lookup x = some (.own ds)) (slot : Slot "list" name id) (hty : typeOf (.builtin id) = pure (.type "method_descriptor"))
    (h : Evs G env n ρ es args) (hm : Mut G id ds args ds') (hd : (x == ("__debug__" : Str)) = false) (hst : es.any isStarred = false) (hlen : es.length < 30) (hline : (apos.endLine == pos.line) = true) (hin : interactive env = false)
    (k : Φ .next (upd ρ x (.own ds'))) : Ex G env n ρ (.Expr (.Call (.Attribute (.Name x p) name apos) es [] pos) pos') Φ := by
  constructor
  intro A Z H s R S
  refine wpAny_Expr_any ?_ hin rfl
  rw [eval_method rfl hst hlen hline]
  obtain ⟨oa, hi, ho⟩ := S.owns
  obtain ⟨h1, h2, h3, h4, h5, vs, j, h6, h7⟩ := ho x ds hx
  refine wpAny_bind (wp_own S h1 hd (wpAny_bind (wpAny_standAt (wpAny_bind (wpAny_holding ?_)))))
  have hl := isList_of h6
  refine getMethod_builtin hl.typeIs F.plainAttrs_list slot hty (fun a e => by cases e; exact ⟨_, h6, rfl⟩) ?_
  refine Calls.callWith_builtin (starred_none (star_all hst) pos) (wp_evalArgs (starred_none (star_all hst) pos) (wp_seq (h.run A Z H s pos R S) fun us s₂ ⟨Z₂, x₂, r₂⟩ => ?_))
  have S₂ := S.ext x₂
  have n2 : ∀ y es, ρ.lookup y = some (.own es) → Has env s₂.heap y (.ref (oa y)) ∧ Z₂ (oa y) = none ∧ H (oa y) = none ∧ oa y ≠ env.locals ∧ (∀ z c, env.cells.lookup z = some c → oa y ≠ c) ∧
      ∃ vs n, s₂.heap.get? (oa y) = some (listOf vs.toArray n) ∧ RepAll G Z₂ vs es := fun y es e => by
    obtain ⟨g1, g2, g3, g4, g5, us, j, g6, g7⟩ := ho y es e
    exact ⟨g1.keeps x₂.keep, ext_none x₂ g2 ⟨_, g6⟩, g3, g4, g5, us, j, x₂.keep _ _ g6, g7.mono x₂.le⟩
  refine wp_seq (hm.run A Z₂ s₂ (oa x) vs j us (R.less (Nat.zero_le _)) S₂.bs (n2 x ds hx).2.1 (x₂.keep _ _ h6) (h7.mono x₂.le) r₂) fun r s₃ ⟨vs', k', e1, e2, h', t, e3, e4, e5⟩ => ?_
  subst e3
  exact ⟨Z₂, _, .next, x₂.le, S₂.mutate oa hi n2 hx e1 e2 e4 e5, .next, k⟩

theorem upd_list {h : Heap} {l : Addr} {its its' : Array Value} {k : Nat} (x : h.get? l = some (listOf its k)) (f : Array Value → Array Value) (e : f its = its') : ∃ k', (h.update l (Obj.mapSeq f)).get? l = some (listOf its' k') := by
  subst e
  exact ⟨_, PySem.IsL.update (n := k) x f⟩
theorem mut_append {ds : List D} {d : D} (hsz : ds.length ≤ sizeLine) : Mut G "list.append" ds [d] (ds ++ [d]) := Mut.mk fun A Z s a vs k args R b hz ho r ra => by
  cases ra with
  | @cons v _ _ _ rv rr =>
    cases rr
    refine call_meets F.slot_list_append (isList_of ho).typeIs F.entry_list_append (F.args_list_append_2 _ _) (PySem.AutoListH.list_append_list_val_0 a vs.toArray k v (by rw [List.size_toArray, r.length]; exact hsz)) ⟨ho, ?_⟩
    have hg := PySem.IsL.update (n := k) ho (·.push v)
    rw [show vs.toArray.push v = (vs ++ [v]).toArray by simp] at hg
    exact ⟨vs ++ [v], _, hg, r.append (.cons rv .nil), _, _, rfl, Nat.le_refl _, Heap.SameBut.update ..⟩
-- several targets
structure Asgs (G : Gnd) (env : Env) (ts : List PySem.Expr) (ds : List D) (ρ ρ' : Loc) : Prop where
  run : ∀ A Z H s vs, Room 0 A → St G env Z H ρ s → RepAll G Z vs ds → wpAny (model G.prog G.w) A (assignInOrder ((assignEach ts env).map (·.2)) vs) (fun _ s' => ∃ Z', Zle Z Z' ∧ St G env Z' H ρ' s') (fun _ _ => False) s
  len : (assignEach ts env).length = ds.length
  star : (assignEach ts env).findIdx? (·.1) = none
theorem asgs_nil : Asgs G env [] [] ρ ρ := ⟨fun A Z H s vs R S r => wpAny_pure ⟨Z, Zle.same, S⟩, rfl, rfl⟩
theorem asgs_cons {t : PySem.Expr} {ts : List PySem.Expr} {d : D} {ds : List D} {ρ'' : Loc} (h : Asg G env t d ρ ρ') (hs : Asgs G env ts ds ρ' ρ'') (hst : isStarred t = false) : Asgs G env (t :: ts) (d :: ds) ρ ρ'' := by
  have e : assignEach (t :: ts) env = (false, assign t env) :: assignEach ts env := by cases t <;> first | rfl | cases hst
  refine ⟨fun A Z H s vs R S r => ?_, ?_, ?_⟩
  · cases r with
    | cons r rs =>
      rw [e]
      refine assignInOrder_cons (wp_seq (h.run A Z H s _ R S r) fun _ s₁ ⟨Z₁, le₁, S₁⟩ => ?_)
      exact wp_seq (hs.run A Z₁ H s₁ _ R S₁ (rs.mono le₁)) fun _ s₂ ⟨Z₂, le₂, S₂⟩ => ⟨Z₂, le₁.trans le₂, S₂⟩
  · rw [e, List.length_cons, List.length_cons, hs.len]
  · rw [e, List.findIdx?_cons, hs.star]; rfl
theorem asg_tuple {ts : List PySem.Expr} {ds : List D} {k : Nat} (h : Asgs G env ts ds ρ ρ') : Asg G env (.Tuple ts k pos) (.tup ds) ρ ρ' := Asg.mk fun A Z H s v R S r => by
  cases r with
  | @tup a vs j _ hz ra =>
    have ht := isTuple_of (S.zin _ _ hz)
    refine wpAny_assign_Tuple R.handled ht (by rw [h.len, List.size_toArray, ra.length]) h.star fun h' he => ?_
    have x : Ext Z s Z { s with heap := h' } := ⟨Zle.same, fun b o e => he b o (fun q => by rw [q, get?_size_none] at e; cases e) e, fun b o e => he b o (fun q => by have := S.zin b o e; rw [q, get?_size_none] at this; cases this) (S.zin b o e), fun _ _ h => .inl h, rfl, rfl, Nat.le_refl _⟩
    exact h.run A Z H _ vs R (S.ext x) ra

end
end Mine
end
section
open PySem PySem.W PyProof.Rows PySem.Builtin PySem.Builtin.Str PySem.StrLaws
set_option linter.unusedVariables false
namespace Mine

def prep (u : List Nat) : List (List Nat) → List (List Nat)
  | [] => [u]
  | h :: t => (u ++ h) :: t
theorem prep_prep (u v : List Nat) (x : List (List Nat)) : prep u (prep v x) = prep (u ++ v) x := by
  cases x <;> simp [prep]

/-- the parts between the places of p, from the left -/
def splitG (p l : List Nat) : List (List Nat) :=
  if h : p ≠ [] ∧ p.isPrefixOf l = true then [] :: splitG p (l.drop p.length)
  else match l with
    | [] => [[]]
    | c :: r => prep [c] (splitG p r)
termination_by l.length
decreasing_by
  · obtain ⟨h1, h2⟩ := h
    have := (List.isPrefixOf_iff_prefix.mp h2).length_le
    cases p with
    | nil => exact absurd rfl h1
    | cons a q => simp at this ⊢; omega
  · simp

theorem splitG_hit {p l : List Nat} (h1 : p ≠ []) (h2 : p <+: l) : splitG p l = [] :: splitG p (l.drop p.length) := by
  rw [splitG, dif_pos ⟨h1, List.isPrefixOf_iff_prefix.mpr h2⟩]
theorem splitG_nil {p : List Nat} (h1 : p ≠ []) : splitG p [] = [[]] := by
  rw [splitG, dif_neg]
  rintro ⟨_, h⟩
  exact h1 (List.prefix_nil.mp (List.isPrefixOf_iff_prefix.mp h))
theorem splitG_miss {p r : List Nat} {c : Nat} (h : ¬ p <+: c :: r) : splitG p (c :: r) = prep [c] (splitG p r) := by
  rw [splitG, dif_neg]
  rintro ⟨_, h'⟩
  exact h (List.isPrefixOf_iff_prefix.mp h')
theorem splitG_ne (p l : List Nat) (h1 : p ≠ []) : ∃ a r, splitG p l = a :: r := by
  by_cases h : p <+: l
  · exact ⟨_, _, splitG_hit h1 h⟩
  · cases l with
    | nil => exact ⟨_, _, splitG_nil h1⟩
    | cons c r =>
      rw [splitG_miss h]
      cases splitG p r with
      | nil => exact ⟨_, _, rfl⟩
      | cons a q => exact ⟨_, _, rfl⟩
/-- nothing begins in u -/
theorem splitG_skip {p : List Nat} (h1 : p ≠ []) : ∀ (u l : List Nat), (∀ k, k < u.length → ¬ p <+: (u ++ l).drop k) → splitG p (u ++ l) = prep u (splitG p l)
  | [], l, _ => by
    obtain ⟨a, r, e⟩ := splitG_ne p l h1
    rw [List.nil_append, e]; rfl
  | c :: u, l, h => by
    have h0 := h 0 (by simp)
    rw [List.cons_append, splitG_miss (by simpa using h0), splitG_skip h1 u l fun k hk => by simpa using h (k + 1) (by simpa using hk), prep_prep]
    rfl

theorem at_iff (l p : List Nat) (k : Nat) (h1 : p ≠ []) : At (T l) (T p) (T l).length k ↔ p <+: l.drop k := by
  unfold At
  rw [subAt_eq, T_length, T_length, T_list, T_list]
  constructor
  · rintro ⟨_, h⟩
    exact ⟨_, by rw [← beq_iff_eq.mp h]; exact List.take_append_drop _ _⟩
  · rintro ⟨t, h⟩
    have hl : (l.drop k).length = p.length + t.length := by rw [← h]; simp
    rw [List.length_drop] at hl
    have : 0 < p.length := List.length_pos_iff.mpr h1
    refine ⟨by omega, ?_⟩
    rw [← h, List.take_left]
    simp

theorem parts_split (l p : List Nat) (h1 : p ≠ []) : ∀ (cuts : List Nat) (a f : Nat), a ≤ l.length → ChainG (T l) (T p) (T l).length a cuts f → (∀ k, f ≤ k → ¬ At (T l) (T p) (T l).length k) →
    (partsFrom (T l) (T p).length a cuts) = (splitG p (l.drop a)).map T
  | [], a, f, ha, h, hn => by
    have e : f = a := h
    subst e
    have : splitG p (l.drop f) = [l.drop f] := by
      have := splitG_skip h1 (l.drop f) [] fun k hk => by
        rw [List.append_nil, List.drop_drop]
        exact fun q => hn (f + k) (by omega) ((at_iff l p _ h1).mpr q)
      rw [List.append_nil, splitG_nil h1] at this
      rw [this]; simp [prep]
    rw [this]
    show [strSub (T l) f (T l).length] = [T (l.drop f)]
    congr 1
    rw [← T_of (strSub (T l) f (T l).length), strSub_toList, T_list, T_length]
    congr 1
    exact List.take_of_length_le (by simp)
  | c :: r, a, f, ha, h, hn => by
    obtain ⟨h2, h3, h4, h5⟩ := h
    have hp := (at_iff l p c h1).mp h3
    have hc : c + p.length ≤ l.length := by
      have := h3.1
      rwa [T_length, T_length] at this
    have ih := parts_split l p h1 r (c + (T p).length) f (by rw [T_length]; exact hc) h5 hn
    show strSub (T l) a c :: partsFrom (T l) (T p).length (c + (T p).length) r = _
    rw [ih, T_length]
    have e : l.drop a = (l.drop a).take (c - a) ++ l.drop c := by
      conv => lhs; rw [← List.take_append_drop (c - a) (l.drop a)]
      rw [List.drop_drop, show a + (c - a) = c by omega]
    have hl : ((l.drop a).take (c - a)).length = c - a := by rw [List.length_take, List.length_drop]; omega
    have hs := splitG_skip h1 ((l.drop a).take (c - a)) (l.drop c) fun k hk => by
      rw [← e, List.drop_drop]
      rw [hl] at hk
      exact fun q => h4 (a + k) (by omega) (by omega) ((at_iff l p _ h1).mpr q)
    rw [← e] at hs
    rw [hs, splitG_hit h1 hp, List.drop_drop]
    show _ = T ((l.drop a).take (c - a) ++ []) :: _
    rw [List.append_nil, ← T_of (strSub (T l) a c), strSub_toList, T_list]

theorem kind_le (x y : List Nat) (h : ∀ c ∈ y, c ∈ x) : Str.strKind (T y) ≤ Str.strKind (T x) := by
  have key : ∀ B : Nat, (T x).cps.all (· < B) = true → (T y).cps.all (· < B) = true := fun B hB => by
    rw [← Array.all_toList] at hB ⊢
    rw [List.all_eq_true] at hB ⊢
    exact fun c hc => hB c (h c hc)
  unfold Str.strKind
  split
  · split <;> (try split) <;> omega
  · rename_i n1
    rw [if_neg fun q => n1 (key _ q)]
    split
    · split <;> omega
    · rename_i n2
      rw [if_neg fun q => n2 (key _ q)]
      exact Nat.le_refl _

theorem split_T (l p : List Nat) (h1 : p ≠ []) : Txt.split (T l) (T p) = (splitG p l).map T := by
  have hw : 1 ≤ (T p).length := by rw [T_length]; exact List.length_pos_iff.mpr h1
  obtain ⟨f, hc, hn⟩ := occ_tight (T l) (T p) hw
  have main := parts_split l p h1 _ 0 f (Nat.zero_le _) hc hn
  rw [List.drop_zero] at main
  rw [← main]
  have whole : ∀ o, o = [] → [T l] = partsFrom (T l) (T p).length 0 o := fun o e => by
    subst e
    show _ = [strSub (T l) 0 (T l).length]
    rw [sub_whole]
  unfold Txt.split
  split
  · rename_i hx
    refine whole _ ?_
    cases ho : occurrences (T l) (T p) 0 (T l).length ((T l).length + 1) with
    | nil => rfl
    | cons c r =>
      exfalso
      rw [ho] at hc
      have hp := (at_iff l p c h1).mp hc.2.1
      rw [Bool.or_eq_true, decide_eq_true_eq, decide_eq_true_eq] at hx
      rcases hx with hx | hx
      · have := hc.2.1.1
        omega
      · have : Str.strKind (T p) ≤ Str.strKind (T l) := kind_le l p fun c' hc' => List.mem_of_mem_drop (hp.subset hc')
        omega
  · split
    · rename_i he
      exact whole _ (List.isEmpty_iff.mp he)
    · rw [partsBetween_eq]

end Mine
end
section
open PySem PySem.W PyProof.Rows PySem.Builtin PySem.Builtin.Str PySem.StrLaws
set_option linter.unusedVariables false
namespace Mine

/-- p cannot begin in u, whatever stands behind u -/
def apart (p u : List Nat) : Bool := (List.range u.length).all fun j => !(p.isPrefixOf (u.drop j)) && !((u.drop j).isPrefixOf p)
def cs (x : Str) : List Nat := x.cps.toList
end Mine
end
section
open PySem PySem.W PyProof.Rows PySem.Builtin PySem.Builtin.Str
set_option linter.unusedVariables false
set_option maxRecDepth 100000
namespace Mine
section
variable {G : Gnd} {env : Env} {Z Z' H : Zf} {ρ ρ' ρc : Loc} {s s' : Shared} {A : Around} {E : Value → Shared → Prop} {n : Nat} {pos apos : Pos}

theorem fmod_bounds {a m : Int} (hm : 0 < m) : 0 ≤ a.fmod m ∧ a.fmod m < m := ⟨Int.fmod_nonneg_of_pos a hm, Int.fmod_lt_of_pos a hm⟩
/-- one of a row of texts, by a remainder -/
theorem sb_menu {value slice : PySem.Expr} {xs : List Str} {a m : Int} (hm : m = (xs.length : Int)) (h0 : 0 < xs.length) (hb : xs.length < 1000000) : Sb G value slice (.list (txs xs)) (.int (a.fmod m)) (.str (xs.getD (a.fmod m).toNat Str.empty)) := by
  have := fmod_bounds (a := a) (m := m) (by omega)
  refine sb_list this.1 (by omega) ?_
  rw [List.getElem?_map]
  have hlt : (a.fmod m).toNat < xs.length := by omega
  rw [List.getElem?_eq_getElem hlt, List.getD_eq_getElem?_getD, List.getElem?_eq_getElem hlt]
  rfl
theorem ev_ifint {t b o : PySem.Expr} {c : Bool} {i j : Int} (h : Tst G env n ρ t c) (h₁ : c = true → Ev G env n ρ b (.int i)) (h₂ : c = false → Ev G env n ρ o (.int j)) : Ev G env n ρ (.IfExp t b o pos) (.int (if c then i else j)) := by
  have := ev_ifexp (pos := pos) h h₁ h₂
  cases c <;> exact this
def codeOf (i : Int) : Int := if decide (i < 55296) = true then i else i + 2048
theorem codeOf_bounds (a : Int) : 0 ≤ codeOf (a.fmod 1112064) ∧ codeOf (a.fmod 1112064) ≤ 1114111 := by
  have := fmod_bounds (a := a) (m := 1112064) (by decide)
  unfold codeOf
  split <;> omega
theorem joinOk_of {sep : Str} {xs : List Str} {m : Nat} (h : ∀ x ∈ xs, x.length ≤ m) (hb : xs.length * (m + sep.length) ≤ sizeLine) : JoinOk sep xs = true := by
  have key : ∀ (xs : List Str) (k : Nat), (∀ x ∈ xs, x.length ≤ m) → xs.foldl (· + ·.length + sep.length) k ≤ k + xs.length * (m + sep.length) := by
    intro xs
    induction xs with
    | nil => intro k _; simp
    | cons x r ih =>
      intro k h
      rw [List.foldl_cons, List.length_cons, Nat.succ_mul]
      have h1 := ih (k + x.length + sep.length) fun y hy => h y (List.mem_cons_of_mem _ hy)
      have h2 := h x List.mem_cons_self
      omega
  unfold JoinOk
  have := key xs 0 h
  rw [List.foldl_toArray]
  unfold Builtin.Str.tooLong
  simp
  omega
theorem joinOk_sum {sep : Str} {xs : List Str} (hb : (xs.map (·.length)).sum + xs.length * sep.length ≤ sizeLine) : JoinOk sep xs = true := by
  have key : ∀ (xs : List Str) (k : Nat), xs.foldl (· + ·.length + sep.length) k = k + ((xs.map (·.length)).sum + xs.length * sep.length) := by
    intro xs
    induction xs with
    | nil => intro k; simp
    | cons x r ih =>
      intro k
      rw [List.foldl_cons, ih, List.map_cons, List.sum_cons, List.length_cons, Nat.succ_mul]
      omega
  unfold JoinOk
  rw [List.foldl_toArray, key]
  unfold Builtin.Str.tooLong
  simp
  omega
theorem prep_sum (c : Nat) : ∀ x : List (List Nat), x ≠ [] → ((prep [c] x).map List.length).sum = (x.map List.length).sum + 1 ∧ (prep [c] x).length = x.length
  | [], h => absurd rfl h
  | a :: r, _ => by simp [prep]; omega
theorem splitG_sum {p : List Nat} (h1 : p ≠ []) : ∀ (k : Nat) (l : List Nat), l.length ≤ k → ((splitG p l).map List.length).sum ≤ l.length ∧ (splitG p l).length ≤ l.length + 1
  | 0, l, hk => by
    have : l = [] := List.length_eq_zero_iff.mp (by omega)
    subst this
    rw [splitG_nil h1]; simp
  | k + 1, l, hk => by
    by_cases hp : p <+: l
    · rw [splitG_hit h1 hp]
      have hle := hp.length_le
      have hpos : 0 < p.length := List.length_pos_iff.mpr h1
      have ih := splitG_sum h1 k (l.drop p.length) (by rw [List.length_drop]; omega)
      rw [List.length_drop] at ih
      rw [List.map_cons, List.sum_cons, List.length_cons]
      simp only [List.length_nil]
      omega
    · cases l with
      | nil => rw [splitG_nil h1]; simp
      | cons c r =>
        rw [splitG_miss hp]
        have ih := splitG_sum h1 k r (by simpa using hk)
        obtain ⟨a, q, e⟩ := splitG_ne p r h1
        have := prep_sum c (splitG p r) (by rw [e]; simp)
        rw [List.length_cons]
        omega
theorem ex_append {x : Str} {p pos' : Pos} {e : PySem.Expr} {ds : List D} {Φ : Fl → Loc → Prop} (d : D) (hx : ρ.lookup x = some (.own ds)) (h : Ev G env n ρ e d) (hsz : ds.length ≤ sizeLine)
    (hd : (x == ("__debug__" : Str)) = false) (hst : isStarred e = false) (hline : (apos.endLine == pos.line) = true) (hin : interactive env = false)
    (k : Φ .next (upd ρ x (.own (ds ++ [d])))) : Ex G env n ρ (.Expr (.Call (.Attribute (.Name x p) "append" apos) [e] [] pos) pos') Φ :=
  ex_mut hx F.slot_list_append F.type_list_append (evs_more h evs_nil hst) (mut_append hsz) hd (by simp [hst]) (by show 1 < 30; decide) hline hin k
theorem comp1 {elt tgt iter : PySem.Expr} {ifs : List PySem.Expr} {scope : Scope} {α : Type} {xs : List α} {mk : α → D} {F : α → List D}
    (item : ∀ a ∈ xs, ∃ ρ₁ ok, Asg G env tgt (mk a) ρ ρ₁ ∧ Sub ρ ρ₁ ∧ Tsts G env n ρ₁ ifs ok ∧ (ok = false → F a = []) ∧ (ok = true → ∃ x, Ev G env n ρ₁ elt x ∧ F a = [x])) :
    CRun G env n (.ListComp elt [⟨tgt, iter, ifs, 0⟩] scope pos) 0 ρ (xs.map mk) (xs.flatMap F) := comp_last (iter := iter) (fun _ _ => rfl) item
theorem comp2b {elt tgt iter : PySem.Expr} {ifs : List PySem.Expr} {g : Comprehension} {scope : Scope} {α : Type} {xs : List α} {mk : α → D} {F : α → List D}
    (item : ∀ a ∈ xs, ∃ ρ₁ ok, Asg G env tgt (mk a) ρ ρ₁ ∧ Sub ρ ρ₁ ∧ Tsts G env n ρ₁ ifs ok ∧ (ok = false → F a = []) ∧ (ok = true → ∃ x, Ev G env n ρ₁ elt x ∧ F a = [x])) :
    CRun G env n (.ListComp elt [g, ⟨tgt, iter, ifs, 0⟩] scope pos) 1 ρ (xs.map mk) (xs.flatMap F) := comp_last (iter := iter) (fun _ _ => rfl) item
theorem comp2a {elt tgt iter tgt' iter' : PySem.Expr} {ifs ifs' : List PySem.Expr} {scope : Scope} {α : Type} {xs : List α} {mk : α → D} {F : α → List D} (hf : ∀ x, foldedSetIterable iter' env x = pure x)
    (item : ∀ a ∈ xs, ∃ ρ₁ ok, Asg G env tgt (mk a) ρ ρ₁ ∧ Sub ρ ρ₁ ∧ Tsts G env n ρ₁ ifs ok ∧ (ok = false → F a = []) ∧ (ok = true → ∃ d' ds', Ev G env n ρ₁ iter' d' ∧ Itr G d' ds' ∧ CRun G env n (.ListComp elt [⟨tgt, iter, ifs, 0⟩, ⟨tgt', iter', ifs', 0⟩] scope pos) 1 ρ₁ ds' (F a))) :
    CRun G env n (.ListComp elt [⟨tgt, iter, ifs, 0⟩, ⟨tgt', iter', ifs', 0⟩] scope pos) 0 ρ (xs.map mk) (xs.flatMap F) := comp_more (iter := iter) rfl rfl rfl hf (fun _ _ => rfl) item
/-- both ways of a test meet again -/
theorem exs_if_join {t : PySem.Expr} {body orelse rest : List Stmt} {c : Bool} {Φ : Fl → Loc → Prop} (ρ₁ : Loc) (h : Tst G env n ρ t c) (k : Exs G env n ρ₁ rest Φ)
    (h₁ : c = true → Exs G env n ρ body (Then Φ fun ρ' => Sub ρ₁ ρ')) (h₂ : c = false → Exs G env n ρ orelse (Then Φ fun ρ' => Sub ρ₁ ρ')) : Exs G env n ρ (.If t body orelse pos :: rest) Φ := by
  have go : ∀ {sts : List Stmt}, Exs G env n ρ sts (Then Φ fun ρ' => Sub ρ₁ ρ') → Exs G env n ρ sts (Then Φ fun ρ' => Exs G env n ρ' rest Φ) := fun h => exs_mono h fun fl ρ' q => by
    cases fl with
    | next => exact exs_weaken q k
    | brk => exact q
    | cont => exact q
    | ret d => exact q
  exact exs_cons (ex_if h (fun e => go (h₁ e)) fun e => go (h₂ e))
end
end Mine
end
section
open PySem PySem.W PyProof.Rows PySem.Builtin PySem.Builtin.Str PySem.StrLaws
set_option linter.unusedVariables false
set_option maxRecDepth 100000
namespace Mine
section
variable {G : Gnd} {env : Env} {Z Z' H : Zf} {ρ ρ' ρc : Loc} {s s' : Shared} {A : Around} {E : Value → Shared → Prop} {n : Nat} {pos apos : Pos}

theorem ind_clip {a b len : Nat} : strSliceIndices (some (a : Int)) (some (b : Int)) 1 len = strSliceIndices (some ((min a len : Nat) : Int)) (some ((max (min a len) (min b len) : Nat) : Int)) 1 len := by
  have h1 : ¬ ((a : Int) < 0) := by omega
  have h2 : ¬ ((b : Int) < 0) := by omega
  have h3 : ¬ (((min a len : Nat) : Int) < 0) := by omega
  have h4 : ¬ (((max (min a len) (min b len) : Nat) : Int) < 0) := by omega
  have e1 : max (0 : Int) (min (a : Int) (len : Int)) = ((min a len : Nat) : Int) := by omega
  have e2 : max (0 : Int) (min (b : Int) (len : Int)) = ((min b len : Nat) : Int) := by omega
  have e3 : max (0 : Int) (min (((min a len : Nat) : Int)) (len : Int)) = ((min a len : Nat) : Int) := by omega
  have e4 : max (0 : Int) (min (((max (min a len) (min b len) : Nat) : Int)) (len : Int)) = ((max (min a len) (min b len) : Nat) : Int) := by omega
  simp only [strSliceIndices, sliceRange, h1, h2, h3, h4, if_false, e1, e2, e3, e4, show ((1 : Int) > 0) = True from by simp, if_true]
  by_cases hlt : ((min a len : Nat) : Int) < ((min b len : Nat) : Int)
  · have : max (min a len) (min b len) = min b len := by omega
    rw [this]
  · have h5 : ¬ (((min a len : Nat) : Int) < ((max (min a len) (min b len) : Nat) : Int)) := by omega
    rw [if_neg hlt, if_neg h5]
theorem slice_ab (l : List Nat) (a b : Nat) : Txt.slice (T l) (some (a : Int)) (some (b : Int)) = T ((l.take b).drop a) := by
  unfold Txt.slice
  rw [ind_clip, T_length]
  have hp := strSliceIndices_plain (a := min a l.length) (b := max (min a l.length) (min b l.length)) (len := l.length) (by omega) (by omega)
  have hs := sliced_plain (T l) (a := min a l.length) (b := max (min a l.length) (min b l.length)) (by omega) (by rw [T_length]; omega)
  rw [T_length, T_list] at hs
  have hres : (l.drop (min a l.length)).take (max (min a l.length) (min b l.length) - min a l.length) = (l.take b).drop a := by
    rw [List.drop_take]
    by_cases h : a ≤ l.length
    · rw [Nat.min_eq_left h]
      by_cases hb : b ≤ l.length
      · rw [Nat.min_eq_left hb]; congr 1; omega
      · rw [Nat.min_eq_right (by omega), List.take_of_length_le (by rw [List.length_drop]; omega), List.take_of_length_le (by rw [List.length_drop]; omega)]
    · rw [Nat.min_eq_right (by omega), List.drop_of_length_le (Nat.le_refl _), List.drop_of_length_le (by omega)]; simp
  split
  · rename_i hw
    simp only [BEq.rfl, Bool.true_and, beq_iff_eq] at hw
    rw [hp, List.length_map, List.length_range] at hw
    congr 1
    have h1 : min a l.length = 0 ∨ l.length = 0 := by omega
    have : (l.drop (min a l.length)).take (max (min a l.length) (min b l.length) - min a l.length) = l := by
      rcases h1 with h1 | h1
      · rw [hw, h1]; simp
      · have : l = [] := List.length_eq_zero_iff.mp h1
        subst this; simp
    rw [← hres, this]
  · rw [hs, hres]; rfl
theorem slice_from (l : List Nat) (a : Nat) : Txt.slice (T l) (some (a : Int)) none = T (l.drop a) := by
  have := slice_ab l a l.length
  rw [List.take_length] at this
  rw [← this]
  have e : max (0 : Int) (min (l.length : Int) (l.length : Int)) = l.length := by omega
  have h2 : ¬ ((l.length : Int) < 0) := by omega
  unfold Txt.slice
  rw [T_length]
  simp only [strSliceIndices, h2, if_false, e, show ((1 : Int) > 0) = True from by simp, if_true]
theorem slice_to (l : List Nat) (b : Nat) : Txt.slice (T l) none (some (b : Int)) = T (l.take b) := by
  have := slice_ab l 0 b
  rw [List.drop_zero] at this
  rw [← this]
  have e : max (0 : Int) (min ((0 : Nat) : Int) (l.length : Int)) = 0 := by omega
  have h2 : ¬ (((0 : Nat) : Int) < 0) := by omega
  unfold Txt.slice
  rw [T_length]
  simp only [strSliceIndices, h2, if_false, e, show ((1 : Int) > 0) = True from by simp, if_true]
/-- a row from a place on -/
theorem sb_from {value slice : PySem.Expr} {ds : List D} {a : Nat} (ha : a ≤ ds.length) (hn : ds.length ≤ sizeLine) : Sb G value slice (.list ds) (.slc (some (a : Int)) none) (.list (ds.drop a)) := Op2.mk fun A Z s v₁ v₂ R b r₁ r₂ => by
  cases r₁ with
  | @list x vs k _ hz ra =>
    cases r₂ with
    | @slc y vl vu _ _ hz' pl pu =>
      have hl := isList_of (b.zin _ _ hz)
      have hlen : vs.length = ds.length := ra.length
      refine tail_all hl.typeIs F.slot_list_getitem.lookup ?_
      refine wpAny_getItem_list_slice hl ⟨_, b.zin _ _ hz', rfl, rfl⟩ pl pu .none (by simp) ?_ (by rw [List.size_toArray, hlen]; exact hn)
      rw [slicePick_from _ _ (by rw [List.size_toArray, hlen]; exact ha)]
      exact ⟨_, Ext.alloc (o := { cls := .type "list", data := .seq (vs.drop a).toArray }) (t := s.toks) b.zin rfl (Nat.le_refl _), .list (vs := vs.drop a) (n := 0) Zadd.self ((ra.drop a).mono (Ext.alloc (o := { cls := .type "list", data := .seq (vs.drop a).toArray }) (s := s) (t := s.toks) b.zin rfl (Nat.le_refl _)).le)⟩
theorem ev_if_same {t b o : PySem.Expr} {c : Bool} {d : D} (h : Tst G env n ρ t c) (h₁ : c = true → Ev G env n ρ b d) (h₂ : c = false → Ev G env n ρ o d) : Ev G env n ρ (.IfExp t b o pos) d := by
  have := ev_ifexp (pos := pos) h h₁ h₂
  cases c <;> exact this
end
end Mine
end
section
open PySem PySem.W PyProof.Rows PySem.SeqAt
set_option linter.unusedVariables false
set_option maxRecDepth 100000
namespace Mine
section
variable {G : Gnd} {env : Env} {Z Z' H : Zf} {ρ ρ' ρc : Loc} {s s' : Shared} {A : Around} {E : Value → Shared → Prop} {n : Nat} {pos apos : Pos}
theorem op_neg_int {a : Int} : Op1 G (unaryOp .USub) (.int a) (.int (-a)) := Op1.mk fun A Z s v R b r => by
  cases r
  exact PyProof.Rows.neg_int (b.y (Nat.le_succ _) (.int _ _))
end
end Mine
end
section
open PySem PySem.W PyProof.Rows
set_option maxRecDepth 100000
namespace Mine
section
variable {G : Gnd} {env : Env} {Z Z' H : Zf} {ρ ρ' ρc : Loc} {s s' : Shared} {A : Around} {E : Value → Shared → Prop} {n : Nat} {pos apos : Pos}
def CellsIn (env : Env) (cl : List (Str × Addr)) : Prop := ∀ x c, cl.lookup x = some c → env.cells.lookup x = some c
theorem cells_nil : CellsIn env [] := fun _ _ h => nomatch h
theorem cells_cons {x : Str} {c : Addr} {cl : List (Str × Addr)} (h : env.cells.lookup x = some c) (r : CellsIn env cl) : CellsIn env ((x, c) :: cl) := fun y d e => by
  rw [List.lookup_cons] at e
  split at e
  · cases e; rename_i q; rw [beq_iff_eq] at q; subst q; exact h
  · exact r y d e
def CapIn (env : Env) (scope : Scope) (cl : List (Str × Addr)) (ρ ρc : Loc) : Prop :=
  ∀ x b, ρc.lookup x = some b → (∃ d, b = .val d) ∧ ρ.lookup x = some b ∧ env.kindOf x ≠ some .local ∧ (∃ c, cl.lookup x = some c) ∧ ((relabel scope env).names.lookup x = some .cell ∨ ((relabel scope env).names.lookup x = some .free ∧ (x == ("__classdict__" : Str)) = false))
theorem cap_nil {scope : Scope} {cl : List (Str × Addr)} : CapIn env scope cl ρ [] := fun _ _ h => nomatch h
theorem cap_cons {scope : Scope} {cl : List (Str × Addr)} {x : Str} {d : D} {c : Addr} (h1 : ρ.lookup x = some (.val d)) (h2 : env.kindOf x = some .cell) (h3 : cl.lookup x = some c) (h4 : (relabel scope env).names.lookup x = some .cell) (r : CapIn env scope cl ρ ρc) :
    CapIn env scope cl ρ ((x, .val d) :: ρc) := fun y b e => by
  rw [List.lookup_cons] at e
  split at e
  · cases e; rename_i q; rw [beq_iff_eq] at q; subst q
    exact ⟨⟨_, rfl⟩, h1, by rw [h2]; decide, ⟨_, h3⟩, .inl h4⟩
  · exact r y b e
theorem itr_range {b : Int} {m : Nat} (hm : b.toNat = m) (h1 : -(2 ^ 62) ≤ b) (h2 : b < 2 ^ 62) : Itr G (.rng 0 b) ((List.range m).map fun (i : Nat) => D.int (i : Int)) := by
  have := itr_rng (G := G) (a := 0) (b := b) (by decide) (by decide) h1 h2
  rw [Int.sub_zero, hm] at this
  have e : (fun (i : Nat) => D.int (0 + (i : Int))) = fun (i : Nat) => D.int (i : Int) := by funext i; rw [Int.zero_add]
  rwa [e] at this
theorem at_map {α : Type} {f : α → D} {l : List α} {i : Nat} {d : D} (h : (l.map f)[i]? = some d) : ∃ x, l[i]? = some x ∧ d = f x := by
  rw [List.getElem?_map] at h
  cases e : l[i]? with
  | none => rw [e] at h; cases h
  | some x => rw [e] at h; exact ⟨x, rfl, by simpa using h.symm⟩
end
end Mine
end
section
open PySem PySem.W PyProof.Rows PySem.Builtin PySem.Builtin.Str PySem.StrLaws
set_option linter.unusedVariables false
namespace Mine

/-- no spelling begins another one -/
def pcode (t : Tbl) : Bool := t.all (fun p => p.2.head? == some 38 && (t.lookup p.1 == some p.2) && t.all (fun q => q.1 == p.1 || (!(p.2.isPrefixOf q.2) && !(q.2.isPrefixOf p.2))) && p.2.tail.all (fun c => !(t.any fun q => q.1 == c)) && decide (p.2.length ≤ 8)) && (t.any fun q => q.1 == 38)
theorem mem_look {t : Tbl} {k : Nat} {z : List Nat} (h : t.lookup k = some z) : (k, z) ∈ t := by
  induction t with
  | nil => cases h
  | cons p r ih =>
    obtain ⟨a, b⟩ := p
    rw [List.lookup_cons] at h
    split at h
    · rename_i q; rw [beq_iff_eq] at q; subst q; cases h; exact List.mem_cons_self
    · exact List.mem_cons_of_mem _ (ih h)
theorem look_none {t : Tbl} {k : Nat} : t.lookup k = none ↔ (t.any fun q => q.1 == k) = false := by
  induction t with
  | nil => simp
  | cons p r ih =>
    obtain ⟨a, b⟩ := p
    rw [List.lookup_cons, List.any_cons, Bool.or_eq_false_iff, ← ih]
    by_cases h : k = a
    · subst h; simp
    · have h1 : (k == a) = false := beq_eq_false_iff_ne.mpr h
      have h2 : (a == k) = false := beq_eq_false_iff_ne.mpr (Ne.symm h)
      rw [h1]
      simp [h2]
structure PC (t : Tbl) : Prop where
  ok : pcode t = true
section
variable {t : Tbl}
theorem PC.at (h : PC t) {k : Nat} {z : List Nat} (hk : t.lookup k = some z) : ∃ y, z = 38 :: y ∧ (∀ q ∈ t, q.1 = k ∨ (¬ z <+: q.2 ∧ ¬ q.2 <+: z)) ∧ (∀ c ∈ y, t.lookup c = none) ∧ y.length ≤ 7 := by
  have h0 := h.ok
  unfold pcode at h0
  rw [Bool.and_eq_true] at h0
  have h1 := List.all_eq_true.mp h0.1 _ (mem_look hk)
  simp only [Bool.and_eq_true, beq_iff_eq, decide_eq_true_eq] at h1
  obtain ⟨⟨⟨⟨a1, a2⟩, a3⟩, a4⟩, a5⟩ := h1
  cases z with
  | nil => cases a1
  | cons c y =>
    have : c = 38 := by simpa using a1
    subst this
    refine ⟨y, rfl, fun q hq => ?_, fun c hc => ?_, by simpa using a5⟩
    · have := List.all_eq_true.mp a3 q hq
      rw [Bool.or_eq_true, beq_iff_eq, Bool.and_eq_true, Bool.not_eq_true', Bool.not_eq_true'] at this
      rcases this with e | ⟨e1, e2⟩
      · exact .inl e
      · refine .inr ⟨fun q => ?_, fun q => ?_⟩
        · rw [List.isPrefixOf_iff_prefix.mpr q] at e1; cases e1
        · rw [List.isPrefixOf_iff_prefix.mpr q] at e2; cases e2
    · have := List.all_eq_true.mp a4 c hc
      exact look_none.mpr (by simpa using this)
theorem PC.amp (h : PC t) {k : Nat} (hk : t.lookup k = none) : k ≠ 38 := by
  have h0 := h.ok
  unfold pcode at h0
  rw [Bool.and_eq_true] at h0
  intro e
  subst e
  rw [look_none.mp hk] at h0
  cases h0.2
theorem spell_some {k : Nat} {z : List Nat} (h : t.lookup k = some z) : spell t k = z := by unfold spell; rw [h]; rfl
theorem spell_none {k : Nat} (h : t.lookup k = none) : spell t k = [k] := by unfold spell; rw [h]; rfl
theorem spell_ne (h : PC t) (k : Nat) : spell t k ≠ [] := by
  cases hk : t.lookup k with
  | none => rw [spell_none hk]; simp
  | some z => obtain ⟨y, e, _⟩ := h.at hk; rw [spell_some hk, e]; simp
theorem spell_free (h : PC t) {a b : Nat} (hab : a ≠ b) : ¬ spell t a <+: spell t b := by
  intro hp
  cases ha : t.lookup a with
  | none =>
    rw [spell_none ha] at hp
    cases hb : t.lookup b with
    | none => rw [spell_none hb] at hp; obtain ⟨r, e⟩ := hp; simp at e; exact hab e.1
    | some z =>
      obtain ⟨y, e, _⟩ := h.at hb
      rw [spell_some hb, e] at hp
      obtain ⟨r, e'⟩ := hp
      simp at e'
      exact h.amp ha e'.1
  | some z =>
    obtain ⟨y, e, hq, _⟩ := h.at ha
    rw [spell_some ha] at hp
    cases hb : t.lookup b with
    | none =>
      rw [spell_none hb, e] at hp
      obtain ⟨r, e'⟩ := hp
      simp at e'
      exact h.amp hb e'.1.symm
    | some z' =>
      rw [spell_some hb] at hp
      rcases hq _ (mem_look hb) with q | q
      · exact hab q.symm
      · exact q.1 hp
theorem esc_prefix (h : PC t) : ∀ (p l : List Nat), escBy t p <+: escBy t l ↔ p <+: l
  | [], l => by simp [escBy]
  | a :: p, [] => by
    rw [escBy_cons]
    constructor
    · intro hp
      have : spell t a ++ escBy t p = [] := List.prefix_nil.mp hp
      exact absurd (List.append_eq_nil_iff.mp this).1 (spell_ne h a)
    · intro hp; cases List.prefix_nil.mp hp
  | a :: p, b :: l => by
    rw [escBy_cons, escBy_cons]
    by_cases hab : a = b
    · subst hab
      rw [List.prefix_append_right_inj, List.cons_prefix_cons, esc_prefix h p l]
      simp
    · constructor
      · intro hp
        exfalso
        have h1 : spell t a <+: spell t b ++ escBy t l := (List.prefix_append _ _).trans hp
        rcases List.prefix_or_prefix_of_prefix h1 (List.prefix_append (spell t b) (escBy t l)) with q | q
        · exact spell_free h hab q
        · exact spell_free h (Ne.symm hab) q
      · intro hp
        exact absurd (List.cons_prefix_cons.mp hp).1 hab
end

def bare08 (t : Tbl) (l : List Nat) : List Nat := l.filter fun c => (t.lookup c).isNone
theorem bare_le (t : Tbl) (l : List Nat) : (bare08 t l).length ≤ l.length := List.length_filter_le _ _
end Mine
end
section
open PySem PySem.W PyProof.Rows
set_option linter.unusedVariables false
set_option maxRecDepth 100000
namespace Mine
section
abbrev strDict (t : List (Str × Str)) : D := .dict (t.map (·.1)) (t.map fun p => .str p.2)
theorem join_flatT (xs : List (List Nat)) : Txt.join Str.empty (xs.map T) = T xs.flatten := by
  unfold Txt.join
  rw [StrLaws.glued_eq_join]
  have h := join_list [] xs
  have e : ∀ xs : List (List Nat), (xs.intersperse []).flatten = xs.flatten := by
    intro xs
    induction xs with
    | nil => rfl
    | cons a r ih => cases r with
      | nil => rfl
      | cons b r => rw [List.intersperse_cons_cons]; simp only [List.flatten_cons, List.nil_append] at ih ⊢; rw [ih]
  rw [e] at h
  exact h
theorem join_ones (l : List Nat) : Txt.join Str.empty (l.map fun c => T [c]) = T l := by
  have h := join_flatT (l.map fun c => [c])
  rw [List.map_map] at h
  have e : (T ∘ fun c => [c]) = fun c : Nat => T [c] := rfl
  rw [e] at h
  rw [h]
  congr 1
  clear h e
  induction l with
  | nil => rfl
  | cons c r ih => rw [List.map_cons, List.flatten_cons, ih]; rfl
end
end Mine
end
section
open PySem PySem.W PyProof.Rows PySem.Builtin PySem.Builtin.Str
set_option linter.unusedVariables false
set_option maxRecDepth 100000
namespace Mine
section
variable {G : Gnd} {env : Env} {Z Z' H : Zf} {ρ ρ' ρc : Loc} {s s' : Shared} {A : Around} {E : Value → Shared → Prop} {n : Nat} {pos apos sp : Pos}
theorem big_line : 100000 ≤ sizeLine := by decide
/-- l[:b] -/
theorem ev_to {v e : PySem.Expr} {l : List Nat} {b : Nat} (hv : Ev G env n ρ v (.str (T l))) (he : Ev G env n ρ e (.int (b : Int))) (hl : l.length ≤ 100000) : Ev G env n ρ (.Subscript v (.Slice none (some e) none sp) pos) (.str (T (l.take b))) := by
  rw [← slice_to]
  exact ev_sub hv (ev_slice (lo := none) (hi := some (b : Int)) trivial he) (sb_slice_str (by rw [T_length]; have := big_line; omega))
/-- l[a:] -/
theorem ev_from {v e : PySem.Expr} {l : List Nat} {a : Nat} (hv : Ev G env n ρ v (.str (T l))) (he : Ev G env n ρ e (.int (a : Int))) (hl : l.length ≤ 100000) : Ev G env n ρ (.Subscript v (.Slice (some e) none none sp) pos) (.str (T (l.drop a))) := by
  rw [← slice_from]
  exact ev_sub hv (ev_slice (lo := some (a : Int)) (hi := none) he trivial) (sb_slice_str (by rw [T_length]; have := big_line; omega))
/-- l[a:b] -/
theorem ev_cut {v e e' : PySem.Expr} {l : List Nat} {a b : Nat} (hv : Ev G env n ρ v (.str (T l))) (he : Ev G env n ρ e (.int (a : Int))) (he' : Ev G env n ρ e' (.int (b : Int))) (hl : l.length ≤ 100000) : Ev G env n ρ (.Subscript v (.Slice (some e) (some e') none sp) pos) (.str (T ((l.take b).drop a))) := by
  rw [← slice_ab]
  exact ev_sub hv (ev_slice (lo := some (a : Int)) (hi := some (b : Int)) he he') (sb_slice_str (by rw [T_length]; have := big_line; omega))
/-- l[i] -/
theorem ev_at {v e : PySem.Expr} {l : List Nat} {i c : Nat} (hv : Ev G env n ρ v (.str (T l))) (he : Ev G env n ρ e (.int (i : Int))) (hc : l[i]? = some c) (hl : l.length ≤ 100000) : Ev G env n ρ (.Subscript v e pos) (.str ⟨#[c]⟩) := by
  have hlt := (List.getElem?_eq_some_iff.mp hc).1
  exact ev_sub hv he (sb_str (by omega) (by omega) (by show (l.toArray)[(i : Int).toNat]? = _; simpa using hc))
theorem ev_plus1 {e : PySem.Expr} {a m : Nat} {k : Nat} (he : Ev G env n ρ e (.int (a : Int))) : Ev G env n ρ (.BinOp e .Add (.Constant (.int (m : Int)) k sp) pos) (.int ((a + m : Nat) : Int)) := by
  rw [Int.natCast_add]
  exact ev_binop he ev_int op_add_int
theorem ev_cat {e e' : PySem.Expr} {x y : List Nat} (h : Ev G env n ρ e (.str (T x))) (h' : Ev G env n ρ e' (.str (T y))) (hl : x.length + y.length ≤ 100000) : Ev G env n ρ (.BinOp e .Add e' pos) (.str (T (x ++ y))) := by
  rw [← T_append]
  exact ev_binop h h' (op_add_str (by rw [T_length, T_length]; have := big_line; omega))
theorem lenT' (l : List Nat) (h : l.length ≤ 100000) : BF G "len" [.str (T l)] (.int (l.length : Int)) := by
  rw [← T_length]
  exact bf_len_str (by rw [T_length]; have := big_line; omega)
theorem mulOk_small_int {a b : Int} (h : decide (Builtin.Int.intBits a > shortFactorBits) = false) : IntMulOk a b := by
  unfold IntMulOk
  rw [h]
  simp
theorem map_one {α β : Type} (f : α → β) (l : List α) : l.map f = l.flatMap fun x => [f x] := by
  induction l with
  | nil => rfl
  | cons a r ih => rw [List.map_cons, List.flatMap_cons, ih]; rfl
end
end Mine
end
section
open PySem PySem.W PyProof.Rows PySem.Builtin PySem.Builtin.Str
set_option linter.unusedVariables false
set_option maxRecDepth 100000
namespace Mine
section
variable {G : Gnd} {env : Env} {Z Z' H : Zf} {ρ ρ' ρc : Loc} {s s' : Shared} {A : Around} {E : Value → Shared → Prop} {n : Nat} {pos apos sp : Pos}
theorem ev_len {e : PySem.Expr} {p : Pos} {l : List Nat} (h : Ev G env n ρ e (.str (T l))) (hl : l.length ≤ 100000) (hg : nsIn G.K mainGlobals "len" = some none) (hx : env.kindOf "len" = some .globalImplicit) (hst : isStarred e = false) : Ev G env n ρ (.Call (.Name "len" p) [e] [] pos) (.int (l.length : Int)) :=
  ev_bf (evs_more h evs_nil hst) (lenT' l hl) hg rfl hx rfl (by simp [hst])
theorem ev_m1 {k : Nat} : Ev G env n ρ (.UnaryOp .USub (.Constant (.int 1) k sp) pos) (.int (-1)) := ev_neg ev_int op_neg_int
end
end Mine
end
section
open PySem PySem.W PyProof.Rows PySem.Builtin PySem.Builtin.Str
set_option linter.unusedVariables false
set_option maxRecDepth 100000
namespace Mine
section
variable {G : Gnd} {env : Env} {Z Z' H : Zf} {ρ ρ' ρc : Loc} {s s' : Shared} {A : Around} {E : Value → Shared → Prop} {n : Nat} {pos apos sp : Pos}
theorem op_add_list {ds es : List D} (h : ds.length + es.length ≤ 100000) : Op2 G (binaryOp .Add) (.list ds) (.list es) (.list (ds ++ es)) := Op2.mk fun A Z s v₁ v₂ R b r₁ r₂ => by
  have big := big_line
  cases r₁ with
  | @list a vs k _ hz ra =>
    cases r₂ with
    | @list a' ws k' _ hz' ra' =>
      refine P.add_list (b.zin _ _ hz) (b.zin _ _ hz') ?_ (by rw [List.size_toArray, List.size_toArray, ra.length, ra'.length]; omega)
      have e : vs.toArray ++ ws.toArray = (vs ++ ws).toArray := by simp
      rw [e]
      exact ⟨_, Ext.alloc (t := s.toks) b.zin rfl (Nat.le_refl _), .list Zadd.self ((ra.append ra').mono (Ext.alloc (s := s) (t := s.toks) b.zin rfl (Nat.le_refl _)).le)⟩
theorem op_in_strs {xs : List Str} {x : Str} : Op2 G (compareOp .In) (.str x) (.list (txs xs)) (.bool (xs.any (· == x))) := Op2.mk fun A Z s v₁ v₂ R b r₁ r₂ => by
  cases r₁
  cases r₂ with
  | list hz ra =>
    obtain ⟨l, e1, e2⟩ := strs_of_repAll ra
    subst e1 e2
    exact in_list_strs (isList_of (b.zin _ _ hz)) (strsAre_of_values l) ⟨Z, b.same, .bool _⟩
theorem op_notin_strs {xs : List Str} {x : Str} : Op2 G (compareOp .NotIn) (.str x) (.list (txs xs)) (.bool (!(xs.any (· == x)))) := Op2.mk fun A Z s v₁ v₂ R b r₁ r₂ => by
  cases r₁
  cases r₂ with
  | list hz ra =>
    obtain ⟨l, e1, e2⟩ := strs_of_repAll ra
    subst e1 e2
    exact notin_list_strs (isList_of (b.zin _ _ hz)) (strsAre_of_values l) ⟨Z, b.same, .bool _⟩
theorem op_pow_int {a b : Int} (hn : 0 ≤ b) (hsz : (Builtin.Int.intBits a : Int) * b ≤ 2 ^ 27) : Op2 G (binaryOp .Pow) (.int a) (.int b) (.int (a ^ b.toNat)) := Op2.mk fun A Z s v₁ v₂ R bs r₁ r₂ => by
  cases r₁; cases r₂
  exact pow_int hn hsz (bs.y (Nat.le_succ _) (.int _ _))
theorem repAll_signs {x : Str} {acc : Array Value} (h : ItemsOf (SignAt x) acc x.cps.size) : RepAll G Z acc.toList (charsOf x) := by
  obtain ⟨h1, h2⟩ := h
  have key : ∀ (vs : List Value) (cs : List Nat), vs.length = cs.length → (∀ (j : Nat) (v : Value), vs[j]? = some v → ∃ c u, cs[j]? = some c ∧ v = Value.str ⟨#[c]⟩ u) → RepAll G Z vs (cs.map fun c => .str ⟨#[c]⟩) := by
    intro vs
    induction vs with
    | nil => intro cs hl _; cases cs with
      | nil => exact .nil
      | cons c r => simp at hl
    | cons v vs ih => intro cs hl hp; cases cs with
      | nil => simp at hl
      | cons c r =>
        obtain ⟨c', u, e1, e2⟩ := hp 0 v rfl
        simp at e1
        subst e1 e2
        exact .cons (.str _ _) (ih r (by simpa using hl) fun j v hj => by simpa using hp (j + 1) v (by simpa using hj))
  refine key _ _ (by simpa using h1) fun j v hj => ?_
  obtain ⟨c, u, e1, e2⟩ := h2 j v (by simpa using hj)
  exact ⟨c, u, by simpa using e1, e2⟩
theorem bt_list_str {x : Str} (hx : x.length ≤ 100000) : BT G "list" [.str x] (.list (charsOf x)) := BT.mk fun A Z s vs R b r => by
  have big := big_line
  cases r with
  | cons r rs =>
    cases rs
    cases r with
    | str _ t =>
      refine wp_tok (call_list_str R.handled x t (fun h' tk acc c hk hg hi tok => ?_) (by show x.length ≤ _; omega))
      have hnew : s.heap.get? s.heap.objs.size = none := get?_size_none _
      have hz : Z s.heap.objs.size = none := by
        cases q : Z s.heap.objs.size with
        | none => rfl
        | some o => have := b.zin _ _ q; rw [hnew] at this; cases this
      have hg' : h'.get? s.heap.objs.size = some (listOf acc.toList.toArray c) := hg
      refine ⟨Zadd Z s.heap.objs.size (listOf acc.toList.toArray c), ⟨Zadd.le hz, hk, fun a o e => ?_, fun a o e => ?_, rfl, rfl, tok⟩, .list Zadd.self (repAll_signs hi)⟩
      · by_cases q : a = s.heap.objs.size
        · subst q; rw [Zadd.self] at e; cases e; exact hg'
        · rw [show Zadd Z s.heap.objs.size _ a = Z a from if_neg q] at e; exact hk _ _ (b.zin _ _ e)
      · by_cases q : a = s.heap.objs.size
        · subst q; exact .inr hnew
        · rw [show Zadd Z s.heap.objs.size _ a = Z a from if_neg q] at e; exact .inl e
theorem mut_extend {ds es : List D} (hsz : ds.length + es.length ≤ 100000) : Mut G "list.extend" ds [.list es] (ds ++ es) := Mut.mk fun A Z s a vs k args R b hz ho r ra => by
  have big := big_line
  cases ra with
  | cons rv rr =>
    cases rr
    cases rv with
    | @list a' ws k' _ hz' ra' =>
      have h1 := r.length
      have h2 := ra'.length
      refine call_meets F.slot_list_extend (isList_of ho).typeIs F.entry_list_extend (F.args_list_extend_2 _ _) (AutoSeq1.list_extend_list_list_0 a vs.toArray k a' ws.toArray k' ?_ (by rw [List.size_toArray]; omega) (by rw [List.size_toArray, List.size_toArray]; omega)) ⟨ho, b.zin _ _ hz', ?_⟩
      · have : ¬ vs.toArray.size + ws.toArray.size > sizeLine := by rw [List.size_toArray, List.size_toArray]; omega
        unfold Builtin.List.listTooLong
        rw [decide_eq_false this]
        simp
      · obtain ⟨k₂, hg⟩ := upd_list ho (fun x => x ++ ws.toArray) (its' := (vs ++ ws).toArray) (by simp)
        exact ⟨vs ++ ws, _, hg, r.append ra', _, _, rfl, Nat.le_refl _, Heap.SameBut.update ..⟩
/-- x.extend(e) -/
theorem ex_extend {x : Str} {p pos' : Pos} {e : PySem.Expr} {ds es : List D} {Φ : Fl → Loc → Prop} (hx : ρ.lookup x = some (.own ds)) (h : Ev G env n ρ e (.list es)) (hsz : ds.length + es.length ≤ 100000)
    (hd : (x == ("__debug__" : Str)) = false) (hst : isStarred e = false) (hline : (apos.endLine == pos.line) = true) (hin : interactive env = false)
    (k : Φ .next (upd ρ x (.own (ds ++ es)))) : Ex G env n ρ (.Expr (.Call (.Attribute (.Name x p) "extend" apos) [e] [] pos) pos') Φ :=
  ex_mut hx F.slot_list_extend F.type_list_extend (evs_more h evs_nil hst) (mut_extend hsz) hd (by simp [hst]) (by show 1 < 30; decide) hline hin k

-- and, or of truth values, as values
/-- a test by a truth value -/
theorem tst_bool {e : PySem.Expr} {b : Bool} (h : Ev G env n ρ e (.bool b)) (he : ∀ whole, isTrue e env whole = (do let v ← whole; standAt e.pos; holding [v] (truthy v))) : Tst G env n ρ e b := tst_plain h tr_bool he
theorem pow2_pos (k : Nat) : (0 : Int) < 2 ^ k := Int.pow_pos (by decide)
end
end Mine
end
section
open PySem PySem.W PyProof.Rows PySem.Builtin PySem.Builtin.Str PySem.StrLaws
set_option linter.unusedVariables false
set_option maxRecDepth 100000
namespace Mine
/-- what stands ahead of the first p, and behind it -/
def cutG (p : List Nat) : List Nat → List Nat
  | [] => []
  | c :: r => if p.isPrefixOf (c :: r) then [] else c :: cutG p r
def behG (p : List Nat) : List Nat → List Nat
  | [] => []
  | c :: r => if p.isPrefixOf (c :: r) then (c :: r).drop p.length else behG p r
theorem cutG_none {p : List Nat} : ∀ {l : List Nat}, (∀ k, ¬ p <+: l.drop k) → cutG p l = l ∧ behG p l = []
  | [], _ => ⟨rfl, rfl⟩
  | c :: r, h => by
    have h0 : p.isPrefixOf (c :: r) = false := by
      cases q : p.isPrefixOf (c :: r) with
      | false => rfl
      | true => exact absurd (List.isPrefixOf_iff_prefix.mp q) (by simpa using h 0)
    have ih := cutG_none (p := p) (l := r) fun k => by simpa using h (k + 1)
    unfold cutG behG
    simp [h0, ih.1, ih.2]
theorem cutG_at {p : List Nat} : ∀ {l : List Nat} {i : Nat}, p ≠ [] → p <+: l.drop i → (∀ k, k < i → ¬ p <+: l.drop k) → cutG p l = l.take i ∧ behG p l = l.drop (i + p.length)
  | [], i, hp, h, _ => by
    rw [List.drop_nil] at h
    exact absurd (List.prefix_nil.mp h) hp
  | c :: r, 0, hp, h, _ => by
    have h0 : p.isPrefixOf (c :: r) = true := List.isPrefixOf_iff_prefix.mpr (by simpa using h)
    unfold cutG behG
    simp [h0]
  | c :: r, i + 1, hp, h, hn => by
    have h0 : p.isPrefixOf (c :: r) = false := by
      cases q : p.isPrefixOf (c :: r) with
      | false => rfl
      | true => exact absurd (List.isPrefixOf_iff_prefix.mp q) (by simpa using hn 0 (by omega))
    have ih := cutG_at (p := p) (l := r) (i := i) hp (by simpa using h) fun k hk => by simpa using hn (k + 1) (by omega)
    unfold cutG behG
    simp [h0, ih.1, ih.2, show i + 1 + p.length = i + p.length + 1 by omega]
theorem cutG_le (p l : List Nat) : (cutG p l).length ≤ l.length := by
  induction l with
  | nil => exact Nat.le_refl _
  | cons c r ih => unfold cutG; split <;> simp; exact ih
theorem behG_le (p l : List Nat) : (behG p l).length ≤ l.length := by
  induction l with
  | nil => exact Nat.le_refl _
  | cons c r ih => unfold behG; split <;> simp <;> omega
section
variable {G : Gnd} {env : Env} {Z Z' H : Zf} {ρ ρ' ρc : Loc} {s s' : Shared} {A : Around} {E : Value → Shared → Prop} {n : Nat} {pos apos sp : Pos}
def midG (p l : List Nat) : Str := match occurrences (T l) (T p) 0 (T l).length 1 with
  | [] => Str.empty
  | _ :: _ => T p
theorem sub_T (l : List Nat) (i j : Nat) : strSub (T l) i j = T ((l.drop i).take (j - i)) := by
  rw [← T_of (strSub (T l) i j), strSub_toList, T_list]
theorem bf_partition {l p : List Nat} (hp : p ≠ []) (hl : l.length ≤ 100000) : BF G "str.partition" [.str (T l), .str (T p)] (.tup [.str (T (cutG p l)), .str (midG p l), .str (T (behG p l))]) := BF.mk fun A Z s vs R b r => by
  have big := big_line
  have hpl : 0 < p.length := List.length_pos_iff.mpr hp
  cases r with
  | cons r rs => cases rs with
    | cons r₂ rs =>
      cases rs
      cases r with
      | str _ t =>
        cases r₂ with
        | str _ u =>
          refine call_meets F.slot_str_partition (typeIs_str _ _ _) F.entry_str_partition (F.args_str_partition_2 _ _) (S := fun _ R s => ∀ h' tk (v1 v2 v3 : Tok), h' = s.heap.push { cls := .type "tuple", data := .seq #[.str (T (cutG p l)) v1, .str (midG p l) v2, .str (T (behG p l)) v3] } → s.toks ≤ tk → R (.ok (.ret (.ref s.heap.objs.size))) { s with heap := h', toks := tk }) ?_ ?_
          · refine .of_wp fun prog w A R s h => ?_
            obtain ⟨raising, htree⟩ := partition_tree (T l) (T p) t u
            rw [htree]
            have h0 : ((T p).length == 0) = false := by rw [T_length, beq_eq_false_iff_ne]; omega
            rw [h0]
            simp only [Bool.false_eq_true, if_false]
            rcases occ_head (T l) (T p) 1 (Nat.le_refl _) with ⟨e, hn⟩ | ⟨i, r, e, ha, hn⟩
            · have hm : midG p l = Str.empty := by unfold midG; rw [e]
              obtain ⟨c1, c2⟩ := cutG_none (p := p) (l := l) fun k q => hn k ((at_iff l p k hp).mpr q)
              rw [e]
              show wpAny _ _ (do rule "str.partition.not-found"; let empty ← mkStr Str.empty; ret (← newTuple [.str (T l) t, empty, empty])) _ _ s
              refine wpAny_bind (wpAny_rule (wpAny_bind (wpAny_mkStr (wpAny_bind (wpAny_newTuple (wpAny_pure ?_) (by show 3 ≤ sizeLine; decide))) (by show 0 ≤ _; omega))))
              refine ⟨_, rfl, ?_⟩
              refine h _ (s.toks + 1) t s.toks s.toks ?_ (Nat.le_succ _)
              rw [c1, c2, hm]
              rfl
            · have hm : midG p l = T p := by unfold midG; rw [e]
              obtain ⟨c1, c2⟩ := cutG_at (p := p) (l := l) (i := i) hp ((at_iff l p i hp).mp ha) fun k hk q => hn k hk ((at_iff l p k hp).mpr q)
              have hil : i + p.length ≤ l.length := by have := ha.1; rwa [T_length, T_length] at this
              rw [e]
              show wpAny _ _ (do ret (← newTuple [← mkStr (strSub (T l) 0 i), .str (T p) u, ← mkStr (strSub (T l) (i + (T p).length) (T l).length)])) _ _ s
              have e1 : strSub (T l) 0 i = T (cutG p l) := by rw [sub_T, c1]; simp
              have e2 : strSub (T l) (i + (T p).length) (T l).length = T (behG p l) := by
                rw [sub_T, c2, T_length, T_length]
                congr 1
                exact List.take_of_length_le (by rw [List.length_drop]; omega)
              have l1 := cutG_le p l
              have l2 := behG_le p l
              rw [e1, e2]
              refine wpAny_bind (wpAny_mkStr (wpAny_bind (wpAny_mkStr (wpAny_bind (wpAny_newTuple (wpAny_pure ?_) (by show 3 ≤ sizeLine; decide))) (by rw [T_length]; omega))) (by rw [T_length]; omega))
              refine ⟨_, rfl, ?_⟩
              refine h _ (s.toks + 1 + 1) s.toks u (s.toks + 1) ?_ (by omega)
              rw [hm]
          · intro h' tk v1 v2 v3 e tok
            subst e
            exact ⟨_, Ext.alloc (o := { cls := .type "tuple", data := .seq [Value.str (T (cutG p l)) v1, Value.str (midG p l) v2, Value.str (T (behG p l)) v3].toArray }) b.zin rfl tok, .tup (vs := [.str (T (cutG p l)) v1, .str (midG p l) v2, .str (T (behG p l)) v3]) Zadd.self (.cons (.str _ _) (.cons (.str _ _) (.cons (.str _ _) .nil)))⟩
theorem ev_cutG {o e : PySem.Expr} {l p : List Nat} {i : PySem.Expr} (ho : Ev G env n ρ o (.str (T l))) (he : Ev G env n ρ e (.str (T p))) (hi : Ev G env n ρ i (.int 0)) (hp : p ≠ []) (hl : l.length ≤ 100000) (h1 : isNameCall o = false) (h2 : isStarred e = false) (hline : (apos.endLine == pos.line) = true) :
    Ev G env n ρ (.Subscript (.Call (.Attribute o "partition" apos) [e] [] pos) i sp) (.str (T (cutG p l))) :=
  ev_sub (ev_meth (ds := [.str (T p)]) ho (evs_more he evs_nil h2) (getm_str F.slot_str_partition F.type_str_partition) (bf_partition hp hl) h1 (by simp [h2]) (by show 1 < 30; decide) hline) hi (sb_tup (by decide) (by decide) (j := 0) rfl rfl)
theorem ev_behG {o e : PySem.Expr} {l p : List Nat} {i : PySem.Expr} (ho : Ev G env n ρ o (.str (T l))) (he : Ev G env n ρ e (.str (T p))) (hi : Ev G env n ρ i (.int 2)) (hp : p ≠ []) (hl : l.length ≤ 100000) (h1 : isNameCall o = false) (h2 : isStarred e = false) (hline : (apos.endLine == pos.line) = true) :
    Ev G env n ρ (.Subscript (.Call (.Attribute o "partition" apos) [e] [] pos) i sp) (.str (T (behG p l))) :=
  ev_sub (ev_meth (ds := [.str (T p)]) ho (evs_more he evs_nil h2) (getm_str F.slot_str_partition F.type_str_partition) (bf_partition hp hl) h1 (by simp [h2]) (by show 1 < 30; decide) hline) hi (sb_tup (by decide) (by decide) (j := 2) rfl rfl)
theorem range'_take {lo m : Nat} {pre post : List Nat} {a : Nat} (h : List.range' lo m = pre ++ a :: post) : ∀ k, lo ≤ k → k < a → k ∈ pre := by
  intro k h1 h2
  have hL : m = pre.length + (post.length + 1) := by
    have := congrArg List.length h
    simpa using this
  have hlen : lo + pre.length = a := by
    have q : (List.range' lo m)[pre.length]? = some a := by rw [h]; simp
    rw [List.getElem?_range' (by omega)] at q
    simpa using q
  have q2 : (List.range' lo m)[k - lo]? = pre[k - lo]? := by rw [h, List.getElem?_append_left (by omega)]
  rw [List.getElem?_range' (by omega)] at q2
  have q3 : pre[k - lo]? = some k := by rw [← q2]; simp; omega
  exact List.mem_of_getElem? q3
/-- where the first p stands from a place on -/
theorem find_T {l p : List Nat} {i k : Nat} (hp : p ≠ []) (hk : p <+: l.drop (i + k)) (hn : ∀ j, j < k → ¬ p <+: l.drop (i + j)) : Txt.find3 (T l) (T p) (i : Int) = ((i + k : Nat) : Int) := by
  have hpl : 0 < p.length := List.length_pos_iff.mpr hp
  have hlen : i + k + p.length ≤ l.length := by
    have := hk.length_le
    rw [List.length_drop] at this
    omega
  have hf : fromIndex (T l).length (i : Int) = i := by
    unfold fromIndex
    have : ¬ (i : Int) < 0 := by omega
    simp [this]
  unfold Txt.find3
  rw [hf, occ_eq]
  rcases occ_first (T l) (T p) (T l).length 1 (Nat.le_refl _) (List.range' i ((T l).length + 1 - i)) i (fun j hj => by simp [List.mem_range'] at hj; omega) with ⟨h0, hn'⟩ | ⟨pre, a, post, e, h0, ha, hn'⟩
  · exfalso
    refine hn' (i + k) ?_ ((at_iff l p (i + k) hp).mpr hk)
    rw [T_length, List.mem_range']
    exact ⟨k, by omega, by omega⟩
  · have hai : i ≤ a := by
      have : a ∈ List.range' i ((T l).length + 1 - i) := by rw [e]; simp
      simp [List.mem_range'] at this
      omega
    have haeq : a = i + k := by
      rcases Nat.lt_trichotomy a (i + k) with q | q | q
      · exact absurd ((at_iff l p a hp).mp ha) (by have := hn (a - i) (by omega); rwa [show i + (a - i) = a by omega] at this)
      · exact q
      · exact absurd ((at_iff l p (i + k) hp).mpr hk) (hn' (i + k) (range'_take e _ (by omega) q))
    subst haeq
    generalize (forIn (List.range' i ((T l).length + 1 - i)) ((#[] : Array Nat), i) (occBody (T l) (T p) (T l).length 1)).run.fst = arr at h0
    have h1 : arr.toList[0]? = some (i + k) := by simpa using h0
    cases hL : arr.toList with
    | nil => rw [hL] at h1; cases h1
    | cons b t => rw [hL] at h1; simp at h1; rw [h1]
/-- the last sign of a text -/
theorem ev_lastc {v e : PySem.Expr} {l : List Nat} {c : Nat} (hv : Ev G env n ρ v (.str (T (l ++ [c])))) (he : Ev G env n ρ e (.int (-1))) (hl : l.length ≤ 100000) : Ev G env n ρ (.Subscript v e pos) (.str ⟨#[c]⟩) := by
  refine ev_sub hv he (Op2.mk fun A Z s v₁ v₂ R b r₁ r₂ => ?_)
  cases r₁; cases r₂
  refine tail_all (typeIs_str _ _ _) F.slot_str_getitem.lookup (PyProof.Rows.getItem_str (by decide) ?_ (b.y (Nat.le_succ _) (.str _ _)))
  have hlen : (T (l ++ [c])).length = l.length + 1 := by rw [T_length]; simp
  have e : seqIndex? (-1) (T (l ++ [c])).length = some l.length := by
    rw [hlen, PySem.seqIndex_neg (by decide) (by omega)]
    congr 1
    omega
  rw [e]
  show ((l ++ [c]).toArray)[l.length]? = some c
  simp
-- int(text, base)
theorem typeCall_int_2 (a b : Value) : checkTypeCall "int" ⟨[a, b], []⟩ = pure () := by kernel_rfl
theorem newCall_int_2 (a b : Value) : checkBuiltinCall "int.__new__" ⟨[.type "int", a, b], []⟩ = pure () := by kernel_rfl
theorem args_object_init_3 (a b c : Value) : argsOk "object.__init__" ⟨[a, b, c], []⟩ := by
  unfold argsOk; kernel_rfl
set_option maxHeartbeats 1000000
theorem wp_textB {M : Model} {Q : Value → Shared → Prop} {v : Value} {text : List Nat} {m : Int} {base : Nat}
    (hs : (text.takeWhile (· != 0)).length ≤ 640) (hr : (int_private% "readNumeral") 0 base (text.takeWhile (· != 0)) = (int_private% "Numeral.value") m)
    (ha : ((text.takeWhile (· != 0)).length == text.length) = true) (h : Q (.int m s.toks) { s with toks := s.toks + 1 }) :
    wpAny M A ((int_private% "intFromText") v text base) Q E s := by
  obtain ⟨hp, g, d, tk, os⟩ := s
  repeat (any_goals (first
    | assumption
    | (with_reducible refine wpAny_ite_true (decide_eq_true hs) ?_)
    | (with_reducible refine wpAny_ite_true (decide_eq_true ha) ?_)
    | wp_step))
  all_goals (try rw [hr])
  all_goals (try dsimp only)
  repeat (any_goals (first
    | assumption
    | (with_reducible refine wpAny_ite_true (decide_eq_true hs) ?_)
    | (with_reducible refine wpAny_ite_true (decide_eq_true ha) ?_)
    | wp_step))
structure Num (fig : List Nat) (base : Int) (m : Int) : Prop where
  asc : (T fig).cps.all (· < 128) = true
  hs : (fig.takeWhile (· != 0)).length ≤ 640
  hr : (int_private% "readNumeral") 0 base.toNat (fig.takeWhile (· != 0)) = (int_private% "Numeral.value") m
  ha : ((fig.takeWhile (· != 0)).length == fig.length) = true
  hb : ((base != 0 && decide (base < 2)) || decide (base > 36)) = false
theorem gives_base {fig : List Nat} {base m : Int} {u v : Tok} (N : Num fig base m) : Gives (Builtin.«int.__new__» ⟨[.type "int", .str (T fig) u, .int base v], []⟩) (.int m) :=
  .of_wp fun M A E s Q h => by
    obtain ⟨hp, g, d, tk, os⟩ := s
    have f1 := F.conv_sub_int
    have f2 := F.madeHere_int
    have f6 : typeOf (.str (T fig) u) = pure (.type "str") := rfl
    have hk := KIN.Hid.mk N
    have hb := KIN.Hid.mk N.hb
    clear N
    repeat (any_goals (first
      | assumption
      | ((with_reducible show wpAny _ _ ((int_private% "intFromText") _ _ _) _ _ _); rw [if_pos hk.out.asc]; refine wp_textB hk.out.hs hk.out.hr hk.out.ha ?_)
      | (with_reducible refine wpAny_ite_false (decide_eq_false (fun q => absurd (hb.out.symm.trans q) Bool.false_ne_true)) ?_)
      | wp_step))
    all_goals first | exact ⟨_, rfl, h⟩ | skip
theorem bt_int_base {fig : List Nat} {base m : Int} (N : Num fig base m) : BT G "int" [.str (T fig), .int base] (.int m) := BT.mk fun A Z s vs R b r => by
  cases r with
  | cons r rs => cases rs with
    | cons r₂ rs =>
      cases rs
      cases r with
      | str _ t =>
        cases r₂ with
        | int _ u =>
          refine callType_new F.called_int F.newNe_int (typeCall_int_2 _ _) (newCall_int_2 _ _) (fun obj => args_object_init_3 obj _ _) F.entry_int_new (gives_base N).meets ?_
          exact ⟨rfl, b.y (Nat.le_succ _) (.int _ _)⟩
end
end Mine
end
section
open PySem PySem.W PyProof.Rows
set_option linter.unusedVariables false
set_option maxRecDepth 100000
namespace Mine
def S7 : List Nat := [38, 60, 62, 34, 13, 10, 9]
/-- a writer's table, and the signs that it leaves bare -/
structure WB (t : Tbl) (b : List Nat) : Prop where
  pc : PC t
  keys : ∀ c, (t.lookup c).isSome = true → c ∈ S7
  bare : ∀ c, c ∈ b ↔ (c ∈ S7 ∧ t.lookup c = none)
  crlf : 13 ∈ b → 10 ∈ b
theorem wb_of {t : Tbl} {b : List Nat} (h1 : pcode t = true) (h2 : (t.all fun p => S7.contains p.1) = true) (h3 : (b.all fun c => S7.contains c && (t.lookup c).isNone) = true) (h4 : (S7.all fun c => (t.lookup c).isSome || b.contains c) = true) (h5 : (!b.contains 13 || b.contains 10) = true) : WB t b := by
  refine ⟨⟨h1⟩, fun c hc => ?_, fun c => ⟨fun hc => ?_, fun ⟨hs, hn⟩ => ?_⟩, fun h => ?_⟩
  · obtain ⟨z, hz⟩ := Option.isSome_iff_exists.mp hc
    have := List.all_eq_true.mp h2 _ (mem_look hz)
    simpa using this
  · have := List.all_eq_true.mp h3 c hc
    rw [Bool.and_eq_true] at this
    exact ⟨by simpa using this.1, by simpa using this.2⟩
  · have := List.all_eq_true.mp h4 c hs
    rw [hn] at this
    simpa using this
  · rw [Bool.or_eq_true] at h5
    rcases h5 with h5 | h5
    · simp [h] at h5
    · simpa using h5
section
variable {t : Tbl} {b : List Nat}
def stop09 (b : List Nat) (q : Bool) (l : List Nat) : Bool := match l with
  | [] => false
  | c :: r => if q then (c == 34 && b.contains 34) else ((c == 60 && b.contains 60) || ([93, 93, 62].isPrefixOf (c :: r) && b.contains 62))
/-- what the reader reads of the text -/
def rd09 (t : Tbl) (b : List Nat) (q : Bool) : Bool → List Nat → List Nat
  | _, [] => []
  | sk, c :: r => if (sk && c == 10 && b.contains 10) = true then rd09 t b q false r
    else if (t.lookup c).isSome = true then c :: rd09 t b q false r
    else if stop09 b q (c :: r) = true then []
    else if c = 13 then (if q then 32 else 10) :: rd09 t b q true r
    else (if (q && (c == 10 || c == 9)) = true then 32 else c) :: rd09 t b q false r
def cut09 (b : List Nat) (q : Bool) : List Nat → List Nat
  | [] => []
  | c :: r => if stop09 b q (c :: r) = true then [] else c :: cut09 b q r
def norm09 (b : List Nat) : Bool → List Nat → List Nat
  | _, [] => []
  | sk, c :: r => if (sk && c == 10 && b.contains 10) = true then norm09 b false r
    else if (c == 13 && b.contains 13) = true then 10 :: norm09 b true r
    else c :: norm09 b false r
def sp09 (b : List Nat) (q : Bool) (l : List Nat) : List Nat := if q then l.map fun c => if ((c == 10 || c == 9) && b.contains c) = true then 32 else c else l
theorem sp_cons (q : Bool) (c : Nat) (l : List Nat) : sp09 b q (c :: l) = (if (q && ((c == 10 || c == 9) && b.contains c)) = true then 32 else c) :: sp09 b q l := by
  unfold sp09
  cases q <;> simp
theorem sp_nil (q : Bool) : sp09 b q [] = [] := by unfold sp09; split <;> rfl
theorem rd_due (h : WB t b) (q : Bool) : ∀ (l : List Nat) (sk : Bool), rd09 t b q sk l = sp09 b q (norm09 b sk (cut09 b q l))
  | [], sk => by simp [rd09, cut09, norm09, sp_nil]
  | c :: r, sk => by
    have ih := rd_due h q r
    unfold rd09 cut09
    by_cases h1 : (sk && c == 10 && b.contains 10) = true
    · rw [if_pos h1]
      have hc : c = 10 := by simp at h1; exact h1.1.2
      have hs : stop09 b q (c :: r) = false := by subst hc; unfold stop09; cases q <;> simp
      rw [hs, if_neg (by decide)]
      unfold norm09
      rw [if_pos h1]
      exact ih false
    · rw [if_neg h1]
      by_cases h2 : (t.lookup c).isSome = true
      · rw [if_pos h2]
        have hnb : c ∉ b := fun hm => by rw [((h.bare c).mp hm).2] at h2; cases h2
        have hs : stop09 b q (c :: r) = false := by
          unfold stop09
          cases q
          · have e1 : (c == 60 && b.contains 60) = false := by
              by_cases q1 : c = 60
              · subst q1; simp [hnb]
              · simp [q1]
            have e2 : ([93, 93, 62].isPrefixOf (c :: r) && b.contains 62) = false := by
              by_cases q1 : c = 93
              · subst q1
                exact absurd (h.keys 93 h2) (by decide)
              · have : [93, 93, 62].isPrefixOf (c :: r) = false := by simp [List.isPrefixOf, Ne.symm q1]
                rw [this]; rfl
            simp only [Bool.false_eq_true, if_false, e1, e2, Bool.or_self]
          · by_cases q1 : c = 34
            · subst q1; simp [hnb]
            · simp [q1]
        rw [hs, if_neg (by decide)]
        unfold norm09
        have e3 : (c == 13 && b.contains 13) = false := by
          by_cases q1 : c = 13
          · subst q1; simp [hnb]
          · simp [q1]
        rw [if_neg h1, e3, if_neg (by decide), sp_cons, ih false]
        have e4 : (q && ((c == 10 || c == 9) && b.contains c)) = false := by simp [hnb]
        rw [e4, if_neg (by decide)]
      · rw [if_neg h2]
        have hno : t.lookup c = none := Option.not_isSome_iff_eq_none.mp h2
        by_cases h3 : stop09 b q (c :: r) = true
        · rw [if_pos h3, if_pos h3]
          simp [norm09, sp_nil]
        · rw [if_neg h3, if_neg h3]
          have inb : c ∈ S7 → c ∈ b := fun hs => (h.bare c).mpr ⟨hs, hno⟩
          by_cases h4 : c = 13
          · subst h4
            have hb := inb (by decide)
            rw [if_pos rfl]
            unfold norm09
            have e3 : (13 == 13 && b.contains 13) = true := by simp [hb]
            rw [if_neg h1, if_pos e3, sp_cons, ih true]
            congr 1
            have h10 := h.crlf hb
            cases q <;> simp [h10]
          · rw [if_neg h4]
            unfold norm09
            have e3 : (c == 13 && b.contains 13) = false := by simp [h4]
            rw [if_neg h1, e3, if_neg Bool.false_ne_true, sp_cons, ih false]
            congr 1
            by_cases q1 : c = 10
            · subst q1; simp [inb (by decide)]
            · by_cases q2 : c = 9
              · subst q2; simp [inb (by decide)]
              · simp [q1, q2]
/-- where the next sign is no bare line feed -/
theorem rd_skip (q : Bool) (l : List Nat) (h : ∀ r, l = 10 :: r → b.contains 10 = false) : rd09 t b q true l = rd09 t b q false l := by
  cases l with
  | nil => rfl
  | cons c r =>
    have e : (true && c == 10 && b.contains 10) = false := by
      by_cases q1 : c = 10
      · subst q1; rw [h r rfl]; rfl
      · simp [q1]
    have e' : (false && c == 10 && b.contains 10) = false := rfl
    unfold rd09
    rw [e, e']
-- the law's own ways
def dueCut (b : List Nat) (q : Bool) (l : List Nat) : List Nat :=
  if q then (if b.contains 34 then cutG [34] l else l) else
    let l1 := if b.contains 60 then cutG [60] l else l
    if b.contains 62 then cutG [93, 93, 62] l1 else l1
theorem due_cut (q : Bool) (hx : b.contains 60 = true → b.contains 62 = true → False) (l : List Nat) : dueCut b q l = cut09 b q l := by
  induction l with
  | nil => unfold dueCut; cases q <;> simp [cutG, cut09]
  | cons c r ih =>
    unfold dueCut at ih ⊢
    unfold cut09
    cases q
    · simp only [Bool.false_eq_true, if_false] at ih ⊢
      cases h6 : b.contains 60 <;> cases h2 : b.contains 62
      · simp only [h6, h2, Bool.false_eq_true, if_false] at ih ⊢
        have hs : stop09 b false (c :: r) = false := by simp only [stop09, h6, h2, Bool.and_false, Bool.and_true, Bool.or_false, Bool.false_or, Bool.false_eq_true, if_false]
        rw [hs, if_neg (by decide), ← ih]
      · simp only [h6, h2, Bool.false_eq_true, if_false, if_true] at ih ⊢
        have hs : stop09 b false (c :: r) = [93, 93, 62].isPrefixOf (c :: r) := by simp only [stop09, h6, h2, Bool.and_false, Bool.and_true, Bool.or_false, Bool.false_or, Bool.false_eq_true, if_false]
        rw [hs]
        conv => lhs; unfold cutG
        rw [ih]
      · simp only [h6, h2, Bool.false_eq_true, if_false, if_true] at ih ⊢
        have hs : stop09 b false (c :: r) = (c == 60) := by simp only [stop09, h6, h2, Bool.and_false, Bool.and_true, Bool.or_false, Bool.false_or, Bool.false_eq_true, if_false]
        rw [hs]
        conv => lhs; unfold cutG
        rw [ih]
        by_cases q1 : c = 60
        · subst q1; simp [List.isPrefixOf]
        · simp [List.isPrefixOf, q1, Ne.symm q1]
      · exact (hx h6 h2).elim
    · simp only [if_true] at ih ⊢
      cases h3 : b.contains 34
      · simp only [h3, Bool.false_eq_true, if_false] at ih ⊢
        have hs : stop09 b true (c :: r) = false := by simp only [stop09, h3, Bool.and_false, Bool.and_true, if_true]
        rw [hs, if_neg (by decide), ← ih]
      · simp only [h3, if_true] at ih ⊢
        have hs : stop09 b true (c :: r) = (c == 34) := by simp only [stop09, h3, Bool.and_false, Bool.and_true, if_true]
        rw [hs]
        conv => lhs; unfold cutG
        rw [ih]
        by_cases q1 : c = 34
        · subst q1; simp [List.isPrefixOf]
        · simp [List.isPrefixOf, q1, Ne.symm q1]
def dueNorm (b : List Nat) (l : List Nat) : List Nat := if b.contains 13 then (((splitG [13, 10] l).flatMap (splitG [13])).intersperse [10]).flatten else l
theorem norm_id (h : b.contains 13 = false) : ∀ l, norm09 b false l = l
  | [] => rfl
  | c :: r => by
    unfold norm09
    have e : (c == 13 && b.contains 13) = false := by rw [h]; simp
    rw [if_neg (by simp), e, if_neg (by decide), norm_id h r]
theorem flat_cons (x : List Nat) (l : List (List Nat)) (h : l ≠ []) : ((x :: l).intersperse [10]).flatten = x ++ (10 :: (l.intersperse [10]).flatten) := by
  cases l with
  | nil => exact absurd rfl h
  | cons a r => simp [List.intersperse]
theorem split_crlf (l : List Nat) : splitG [13, 10] (13 :: 10 :: l) = [] :: splitG [13, 10] l := splitG_hit (p := [13, 10]) (by simp) ⟨l, rfl⟩
theorem split_c (x : Nat) (l : List Nat) : splitG [x] (x :: l) = [] :: splitG [x] l := splitG_hit (p := [x]) (by simp) ⟨l, rfl⟩
theorem fm_ne (l : List Nat) : (splitG [13, 10] l).flatMap (splitG [13]) ≠ [] := by
  obtain ⟨a, r, e⟩ := splitG_ne [13, 10] l (by simp)
  obtain ⟨a', r', e'⟩ := splitG_ne [13] a (by simp)
  rw [e, List.flatMap_cons, e']
  simp
theorem norm_split (h10 : b.contains 10 = true) (h13 : b.contains 13 = true) : ∀ (k : Nat) (l : List Nat), l.length ≤ k → (((splitG [13, 10] l).flatMap (splitG [13])).intersperse [10]).flatten = norm09 b false l
  | 0, l, hk => by
    have : l = [] := List.length_eq_zero_iff.mp (by omega)
    subst this
    rw [splitG_nil (by simp), List.flatMap_cons, splitG_nil (by simp)]; rfl
  | k + 1, l, hk => by
    cases l with
    | nil => rw [splitG_nil (by simp), List.flatMap_cons, splitG_nil (by simp)]; rfl
    | cons c r =>
      by_cases hp : [13, 10] <+: c :: r
      · obtain ⟨r', e⟩ := hp
        have hc : c = 13 := by simp at e; exact e.1.symm
        have hr : r = 10 :: r' := by simp at e; exact e.2.symm
        subst hc hr
        rw [split_crlf, List.flatMap_cons, splitG_nil (by simp)]
        show ((([] : List Nat) :: ((splitG [13, 10] r').flatMap (splitG [13]))).intersperse [10]).flatten = _
        rw [flat_cons _ _ (fm_ne r'), norm_split h10 h13 k r' (by simp at hk; omega)]
        have e1 : norm09 b false (13 :: 10 :: r') = 10 :: norm09 b true (10 :: r') := by
          rw [norm09, if_neg (by simp), if_pos (by rw [h13]; rfl)]
        have e2 : norm09 b true (10 :: r') = norm09 b false r' := by
          rw [norm09, if_pos (by rw [h10]; rfl)]
        rw [e1, e2]
        rfl
      · have ih := norm_split h10 h13 k r (by simpa using hk)
        rw [splitG_miss hp]
        obtain ⟨a, q, e⟩ := splitG_ne [13, 10] r (by simp)
        rw [e] at ih ⊢
        show ((splitG [13] (c :: a) ++ q.flatMap (splitG [13])).intersperse [10]).flatten = _
        rw [List.flatMap_cons] at ih
        by_cases hc : c = 13
        · subst hc
          rw [split_c]
          show ((([] : List Nat) :: (splitG [13] a ++ q.flatMap (splitG [13]))).intersperse [10]).flatten = _
          obtain ⟨a', r', e'⟩ := splitG_ne [13] a (by simp)
          rw [flat_cons _ _ (by rw [e']; simp), ih]
          conv => rhs; unfold norm09
          rw [if_neg (by simp), if_pos (by rw [h13]; rfl)]
          have hno : norm09 b true r = norm09 b false r := by
            cases r with
            | nil => rfl
            | cons d r'' =>
              have hd : d ≠ 10 := fun q => hp ⟨r'', by rw [q]; rfl⟩
              unfold norm09
              simp [hd]
          rw [hno]; rfl
        · rw [splitG_miss (fun ⟨x, hx⟩ => hc (by simp at hx; exact hx.1.symm))]
          obtain ⟨a', r', e'⟩ := splitG_ne [13] a (by simp)
          rw [e'] at ih ⊢
          show ((((c :: a') :: r') ++ q.flatMap (splitG [13])).intersperse [10]).flatten = _
          conv => rhs; unfold norm09
          rw [if_neg (by simp), if_neg (by simp [hc]), ← ih]
          generalize r' ++ q.flatMap (splitG [13]) = z
          show (((c :: a') :: (r' ++ q.flatMap (splitG [13]))).intersperse [10]).flatten = c :: ((a' :: (r' ++ q.flatMap (splitG [13]))).intersperse [10]).flatten
          cases r' ++ q.flatMap (splitG [13]) with
          | nil => simp
          | cons x y => simp [List.intersperse]
theorem due_norm (h : WB t b) (l : List Nat) : dueNorm b l = norm09 b false l := by
  unfold dueNorm
  cases h13 : b.contains 13 with
  | false => rw [if_neg (by decide), norm_id h13]
  | true =>
    rw [if_pos rfl]
    exact norm_split (by have := h.crlf (by simpa using h13); simpa using this) h13 l.length l (Nat.le_refl _)
def due09 (b : List Nat) (q : Bool) (l : List Nat) : List Nat := sp09 b q (dueNorm b (dueCut b q l))
theorem due_rd (h : WB t b) (hx : b.contains 60 = true → b.contains 62 = true → False) (q : Bool) (l : List Nat) : due09 b q l = rd09 t b q false l := by
  unfold due09
  rw [due_norm h, due_cut q hx, rd_due h]
-- the rest without references
def dropRef (parts : List (List Nat)) : List Nat := match parts with
  | [] => []
  | p :: r => p ++ (r.map (behG [59])).flatten
def semis (t : Tbl) : Bool := t.all fun p => p.2.tail == p.2.tail.dropLast ++ [59] && !(p.2.tail.dropLast.contains 59)
theorem beh_name {y h : List Nat} (hy : 59 ∉ y) : behG [59] (y ++ [59] ++ h) = h := by
  induction y with
  | nil => simp [behG, List.isPrefixOf]
  | cons c r ih =>
    have hc : 59 ≠ c := fun q => hy (by simp [q])
    rw [List.cons_append, List.cons_append]
    unfold behG
    simp only [List.isPrefixOf, beq_eq_false_iff_ne.mpr hc, Bool.false_and, Bool.false_eq_true, if_false]
    exact ih fun q => hy (List.mem_cons_of_mem _ q)
theorem plain09 (h : PC t) (hs : semis t = true) (l : List Nat) : dropRef (splitG [38] (escBy t l)) = bare08 t l := by
  induction l with
  | nil => show dropRef (splitG [38] []) = _; rw [splitG_nil (by simp)]; rfl
  | cons c r ih =>
    rw [escBy_cons]
    unfold bare08 at ih ⊢
    rw [List.filter_cons]
    obtain ⟨a, q, e⟩ := splitG_ne [38] (escBy t r) (by simp)
    rw [e] at ih
    cases hk : t.lookup c with
    | none =>
      have hc := h.amp hk
      rw [spell_none hk, List.cons_append, List.nil_append, splitG_miss (fun ⟨x, hx⟩ => hc (by simp at hx; exact hx.1.symm)), e, if_pos (by rfl), ← ih]
      rfl
    | some z =>
      obtain ⟨y, ez, _, hy, _⟩ := h.at hk
      have h1 := List.all_eq_true.mp hs _ (mem_look hk)
      rw [Bool.and_eq_true, beq_iff_eq] at h1
      rw [ez] at h1
      simp only [List.tail_cons] at h1
      have hn : 59 ∉ y.dropLast := by simpa using h1.2
      have h38 : 38 ∉ y := fun hm => h.amp (hy 38 hm) rfl
      rw [spell_some hk, ez, List.cons_append, split_c]
      show dropRef ([] :: splitG [38] (y ++ escBy t r)) = _
      rw [splitG_skip (by simp) y (escBy t r) (fun k hk' hp => by
        rw [List.drop_append_of_le_length (Nat.le_of_lt hk'), List.drop_eq_getElem_cons hk'] at hp
        obtain ⟨x, hx⟩ := hp
        rw [List.cons_append, List.cons_append] at hx
        exact h38 ((List.cons.inj hx).1 ▸ List.getElem_mem hk')), e, if_neg (by simp), ← ih]
      show [] ++ (([y ++ a] ++ q).map (behG [59])).flatten = a ++ (q.map (behG [59])).flatten
      rw [List.nil_append, List.map_append, List.flatten_append]
      congr 1
      show behG [59] (y ++ a) ++ [] = a
      rw [List.append_nil]
      conv => lhs; rw [h1.1]
      exact beh_name hn
end
end Mine
end
section
open PySem PySem.W PyProof.Rows
set_option linter.unusedVariables false
set_option maxRecDepth 100000
namespace Mine
local macro_rules | `(tactic| walk_at "ev1") => `(tactic| first
  | exact ev_int | exact ev_str | exact ev_bool | exact ev_none
  | exact ev_name rfl rfl
  | exact evs_nil
  | (apply evs_more; (case hs => exact rfl))
  | apply ev_binop | (apply ev_cmp; (case hm => exact rfl)) | apply ev_sub
  | apply ev_list | apply ev_tuple
  | (apply tst_cmp; (case hm => exact rfl)) | apply tst_not | exact tst_and_nil | exact tst_or_nil
  | exact op_add_int | exact op_sub_int | exact op_iadd_int | exact op_eq_int | exact op_ne_int | exact op_lt_int | exact op_gt_int | exact op_le_int | exact op_ge_int
  | exact op_eq_str | exact op_ne_str | exact op_in_str | exact op_notin_str | exact op_in_dict | exact op_notin_dict | exact op_ne_nil | exact op_eq_nil
  | exact op_fdiv_int (by decide) (PyProof.noPylong_of_log2 (by decide +kernel)) | exact op_mod_int (by decide)
  | apply op_add_str | apply op_iadd_str
  | exact tsts_nil | apply tsts_one)
local macro_rules | `(tactic| walk_at "ev") => `(tactic| repeat' walk_at "ev1")
local macro_rules | `(tactic| walk_at "can") => `(tactic| first | exact Or.inl rfl | exact Or.inr ⟨rfl, rfl, _, rfl⟩)
local macro_rules | `(tactic| walk_at "as") => `(tactic| (refine exs_cons ?_; apply ex_assign; (case hc => walk_at "can"); (case hs => exact rfl); (case' k => refine then_next ?_); (case' h => walk_at "ev")))
local macro_rules | `(tactic| walk_at "aug") => `(tactic| (refine exs_cons ?_; apply ex_aug; (case h₀ => exact rfl); (case hc => walk_at "can"); (case' k => refine then_next ?_); (case' ho => skip); (case' h => walk_at "ev"); (try walk_at "ev")))
local macro_rules | `(tactic| walk_at "if") => `(tactic| (refine exs_cons ?_; apply ex_if; (case' h => walk_at "ev")))
local macro_rules | `(tactic| walk_at "ret") => `(tactic| (refine exs_cons ?_; apply ex_return; (case' h => walk_at "ev")))
local macro_rules | `(tactic| walk_at "params") => `(tactic| (intro x hx; simp only [List.mem_cons, List.not_mem_nil, or_false] at hx; first
  | (subst hx; first | exact .inl rfl | exact .inr ⟨rfl, fun _ => rfl⟩)
  | (rcases hx with hx | hx <;> subst hx <;> first | exact .inl rfl | exact .inr ⟨rfl, fun _ => rfl⟩)
  | (rcases hx with hx | hx | hx <;> subst hx <;> first | exact .inl rfl | exact .inr ⟨rfl, fun _ => rfl⟩)))
local macro_rules | `(tactic| walk_at "esc") => `(tactic| (refine esc_step rfl (by decide +kernel : _ = (⟨#[_]⟩ : Str)) ?_ ?_ ?_ ?_ (by assumption) rfl (by walk_at "can") rfl ?_))
abbrev pw := PySem.Challenge.pw_dn0275_09
section
variable {G : Gnd} {n : Nat} {doc pm cdv ct : Value} {a : Addr}
def rAmp : List Nat := [38, 97, 109, 112, 59]
def rLt : List Nat := [38, 108, 116, 59]
def rGt : List Nat := [38, 103, 116, 59]
def rQuot : List Nat := [38, 113, 117, 111, 116, 59]
def rCr : List Nat := [38, 35, 49, 51, 59]
def rLf : List Nat := [38, 35, 49, 48, 59]
def rTab : List Nat := [38, 35, 48, 57, 59]
def rxD : List Nat := [38, 35, 120, 68, 59]
def rxA : List Nat := [38, 35, 120, 65, 59]
def rx9 : List Nat := [38, 35, 120, 57, 59]
def cdataT : Tbl := [(38, rAmp), (60, rLt), (62, rGt)]
theorem fn_cdata (D : DefAt G a (fdOf (stOf pw 2) doc pm cdv ct) (bodyOf (stOf pw 2))) (l : List Nat) (hl : l.length ≤ 100000) : Fn G (n + 1) a [.str (T l)] (.str (T (escBy cdataT l))) := by
  refine fn_of (xs := ["text"]) D (fun vs h => ?_) rfl ?_ (by decide) fun L => ?_
  · match vs, h with
    | [v], _ => rfl
  · walk_at "params"
  rw [show T l = T (escBy [] l) from by rw [escBy_nil]]
  refine exs_cons (ex_try ?_)
  refine esc_step (c := 38) (z := rAmp) rfl (by decide +kernel) (by decide +kernel) (by decide) (by decide) (by decide) hl rfl (.inl rfl) rfl ?_
  refine esc_step (c := 60) (z := rLt) rfl (by decide +kernel) (by decide +kernel) (by decide) (by decide) (by decide) hl rfl (.inl rfl) rfl ?_
  refine esc_step (c := 62) (z := rGt) rfl (by decide +kernel) (by decide +kernel) (by decide) (by decide) (by decide) hl rfl (.inl rfl) rfl ?_
  walk_at "ret"
  rfl
def attribT : Tbl := [(38, rAmp), (60, rLt), (62, rGt), (34, rQuot), (13, rCr), (10, rLf), (9, rTab)]
theorem fn_attrib (D : DefAt G a (fdOf (stOf pw 3) doc pm cdv ct) (bodyOf (stOf pw 3))) (l : List Nat) (hl : l.length ≤ 100000) : Fn G (n + 1) a [.str (T l)] (.str (T (escBy attribT l))) := by
  refine fn_of (xs := ["text"]) D (fun vs h => ?_) rfl ?_ (by decide) fun L => ?_
  · match vs, h with
    | [v], _ => rfl
  · walk_at "params"
  rw [show T l = T (escBy [] l) from by rw [escBy_nil]]
  refine exs_cons (ex_try ?_)
  refine esc_step (c := 38) (z := rAmp) rfl (by decide +kernel) (by decide +kernel) (by decide) (by decide) (by decide) hl rfl (.inl rfl) rfl ?_
  refine esc_step (c := 60) (z := rLt) rfl (by decide +kernel) (by decide +kernel) (by decide) (by decide) (by decide) hl rfl (.inl rfl) rfl ?_
  refine esc_step (c := 62) (z := rGt) rfl (by decide +kernel) (by decide +kernel) (by decide) (by decide) (by decide) hl rfl (.inl rfl) rfl ?_
  refine esc_step (c := 34) (z := rQuot) rfl (by decide +kernel) (by decide +kernel) (by decide) (by decide) (by decide) hl rfl (.inl rfl) rfl ?_
  refine esc_step (c := 13) (z := rCr) rfl (by decide +kernel) (by decide +kernel) (by decide) (by decide) (by decide) hl rfl (.inl rfl) rfl ?_
  refine esc_step (c := 10) (z := rLf) rfl (by decide +kernel) (by decide +kernel) (by decide) (by decide) (by decide) hl rfl (.inl rfl) rfl ?_
  refine esc_step (c := 9) (z := rTab) rfl (by decide +kernel) (by decide +kernel) (by decide) (by decide) (by decide) hl rfl (.inl rfl) rfl ?_
  walk_at "ret"
  rfl
def htmlT : Tbl := [(38, rAmp), (62, rGt), (34, rQuot)]
theorem fn_html (D : DefAt G a (fdOf (stOf pw 4) doc pm cdv ct) (bodyOf (stOf pw 4))) (l : List Nat) (hl : l.length ≤ 100000) : Fn G (n + 1) a [.str (T l)] (.str (T (escBy htmlT l))) := by
  refine fn_of (xs := ["text"]) D (fun vs h => ?_) rfl ?_ (by decide) fun L => ?_
  · match vs, h with
    | [v], _ => rfl
  · walk_at "params"
  rw [show T l = T (escBy [] l) from by rw [escBy_nil]]
  refine exs_cons (ex_try ?_)
  refine esc_step (c := 38) (z := rAmp) rfl (by decide +kernel) (by decide +kernel) (by decide) (by decide) (by decide) hl rfl (.inl rfl) rfl ?_
  refine esc_step (c := 62) (z := rGt) rfl (by decide +kernel) (by decide +kernel) (by decide) (by decide) (by decide) hl rfl (.inl rfl) rfl ?_
  refine esc_step (c := 34) (z := rQuot) rfl (by decide +kernel) (by decide +kernel) (by decide) (by decide) (by decide) hl rfl (.inl rfl) rfl ?_
  walk_at "ret"
  rfl
def cdataCT : Tbl := [(38, rAmp), (60, rLt), (62, rGt), (13, rxD)]
theorem fn_cdataC (D : DefAt G a (fdOf (stOf pw 5) doc pm cdv ct) (bodyOf (stOf pw 5))) (l : List Nat) (hl : l.length ≤ 100000) : Fn G (n + 1) a [.str (T l)] (.str (T (escBy cdataCT l))) := by
  refine fn_of (xs := ["text"]) D (fun vs h => ?_) rfl ?_ (by decide) fun L => ?_
  · match vs, h with
    | [v], _ => rfl
  · walk_at "params"
  rw [show T l = T (escBy [] l) from by rw [escBy_nil]]
  refine exs_cons (ex_try ?_)
  refine esc_step (c := 38) (z := rAmp) rfl (by decide +kernel) (by decide +kernel) (by decide) (by decide) (by decide) hl rfl (.inl rfl) rfl ?_
  refine esc_step (c := 60) (z := rLt) rfl (by decide +kernel) (by decide +kernel) (by decide) (by decide) (by decide) hl rfl (.inl rfl) rfl ?_
  refine esc_step (c := 62) (z := rGt) rfl (by decide +kernel) (by decide +kernel) (by decide) (by decide) (by decide) hl rfl (.inl rfl) rfl ?_
  refine esc_step (c := 13) (z := rxD) rfl (by decide +kernel) (by decide +kernel) (by decide) (by decide) (by decide) hl rfl (.inl rfl) rfl ?_
  walk_at "ret"
  rfl
def attribCT : Tbl := [(38, rAmp), (60, rLt), (34, rQuot), (9, rx9), (10, rxA), (13, rxD)]
theorem fn_attribC (D : DefAt G a (fdOf (stOf pw 6) doc pm cdv ct) (bodyOf (stOf pw 6))) (l : List Nat) (hl : l.length ≤ 100000) : Fn G (n + 1) a [.str (T l)] (.str (T (escBy attribCT l))) := by
  refine fn_of (xs := ["text"]) D (fun vs h => ?_) rfl ?_ (by decide) fun L => ?_
  · match vs, h with
    | [v], _ => rfl
  · walk_at "params"
  rw [show T l = T (escBy [] l) from by rw [escBy_nil]]
  refine exs_cons (ex_try ?_)
  refine esc_step (c := 38) (z := rAmp) rfl (by decide +kernel) (by decide +kernel) (by decide) (by decide) (by decide) hl rfl (.inl rfl) rfl ?_
  refine esc_step (c := 60) (z := rLt) rfl (by decide +kernel) (by decide +kernel) (by decide) (by decide) (by decide) hl rfl (.inl rfl) rfl ?_
  refine esc_step (c := 34) (z := rQuot) rfl (by decide +kernel) (by decide +kernel) (by decide) (by decide) (by decide) hl rfl (.inl rfl) rfl ?_
  refine esc_step (c := 9) (z := rx9) rfl (by decide +kernel) (by decide +kernel) (by decide) (by decide) (by decide) hl rfl (.inl rfl) rfl ?_
  refine esc_step (c := 10) (z := rxA) rfl (by decide +kernel) (by decide +kernel) (by decide) (by decide) (by decide) hl rfl (.inl rfl) rfl ?_
  refine esc_step (c := 13) (z := rxD) rfl (by decide +kernel) (by decide +kernel) (by decide) (by decide) (by decide) hl rfl (.inl rfl) rfl ?_
  walk_at "ret"
  rfl
end
end Mine
end
section
open PySem PySem.W PyProof.Rows
set_option linter.unusedVariables false
set_option maxRecDepth 100000
namespace Mine
local macro_rules | `(tactic| walk_at "ev1") => `(tactic| first
  | exact ev_int | exact ev_str | exact ev_bool | exact ev_none
  | exact ev_name rfl rfl
  | exact evs_nil
  | (apply evs_more; (case hs => exact rfl))
  | apply ev_binop | (apply ev_cmp; (case hm => exact rfl)) | apply ev_sub
  | apply ev_list | apply ev_tuple
  | (apply tst_cmp; (case hm => exact rfl)) | apply tst_not | exact tst_and_nil | exact tst_or_nil
  | exact op_add_int | exact op_sub_int | exact op_iadd_int | exact op_eq_int | exact op_ne_int | exact op_lt_int | exact op_gt_int | exact op_le_int | exact op_ge_int
  | exact op_eq_str | exact op_ne_str | exact op_in_str | exact op_notin_str | exact op_in_dict | exact op_notin_dict | exact op_ne_nil | exact op_eq_nil
  | exact op_fdiv_int (by decide) (PyProof.noPylong_of_log2 (by decide +kernel)) | exact op_mod_int (by decide)
  | apply op_add_str | apply op_iadd_str
  | exact tsts_nil | apply tsts_one)
local macro_rules | `(tactic| walk_at "ev") => `(tactic| repeat' walk_at "ev1")
local macro_rules | `(tactic| walk_at "can") => `(tactic| first | exact Or.inl rfl | exact Or.inr ⟨rfl, rfl, _, rfl⟩)
local macro_rules | `(tactic| walk_at "as") => `(tactic| (refine exs_cons ?_; apply ex_assign; (case hc => walk_at "can"); (case hs => exact rfl); (case' k => refine then_next ?_); (case' h => walk_at "ev")))
local macro_rules | `(tactic| walk_at "aug") => `(tactic| (refine exs_cons ?_; apply ex_aug; (case h₀ => exact rfl); (case hc => walk_at "can"); (case' k => refine then_next ?_); (case' ho => skip); (case' h => walk_at "ev"); (try walk_at "ev")))
local macro_rules | `(tactic| walk_at "if") => `(tactic| (refine exs_cons ?_; apply ex_if; (case' h => walk_at "ev")))
local macro_rules | `(tactic| walk_at "ret") => `(tactic| (refine exs_cons ?_; apply ex_return; (case' h => walk_at "ev")))
local macro_rules | `(tactic| walk_at "params") => `(tactic| (intro x hx; simp only [List.mem_cons, List.not_mem_nil, or_false] at hx; first
  | (subst hx; first | exact .inl rfl | exact .inr ⟨rfl, fun _ => rfl⟩)
  | (rcases hx with hx | hx <;> subst hx <;> first | exact .inl rfl | exact .inr ⟨rfl, fun _ => rfl⟩)
  | (rcases hx with hx | hx | hx <;> subst hx <;> first | exact .inl rfl | exact .inr ⟨rfl, fun _ => rfl⟩)))
local macro_rules | `(tactic| walk_at "esc") => `(tactic| (refine esc_step rfl (by decide +kernel : _ = (⟨#[_]⟩ : Str)) ?_ ?_ ?_ ?_ (by assumption) rfl (by walk_at "can") rfl ?_))

section
variable {G : Gnd} {n : Nat} {doc pm cdv ct : Value} {a : Addr}
set_option maxHeartbeats 4000000
def chD (l : List Nat) : List D := l.map fun c => .str ⟨#[c]⟩
theorem chD_txs (l : List Nat) : chD l = txs (l.map fun c => T [c]) := by simp [chD, txs, T_one]
theorem chD_cs (x : Str) : charsOf x = chD (cs x) := rfl
theorem chD_app (a b : List Nat) : chD (a ++ b) = chD a ++ chD b := by simp [chD]
theorem chD_len (l : List Nat) : (chD l).length = l.length := by simp [chD]
def signs09 : List Str := ["&", "<", ">", "\"", "\r", "\n", "\t"]
def more09 : List Str := ["]]>", "]]", "\r\n", "&amp;", "&lt;", "&#13;", "&#xD;", "&quot;", "amp;", " ", "a", ";", "\r\r\n"]
def pieces09 : List Str := signs09 ++ more09
def step09 (x : Int) : List Nat := if (x.fmod 2 == 0) = true then cs (pieces09.getD ((x.fdiv 2).fmod 20).toNat Str.empty) else [(codeOf ((x.fdiv 2).fmod 1112064)).toNat]
def laid09 (ns : List Int) : List Nat := ns.flatMap step09
theorem step09_le (x : Int) : (step09 x).length ≤ 6 := by
  unfold step09
  split
  · have h := fmod_bounds (a := x.fdiv 2) (m := 20) (by decide)
    have hlt : ((x.fdiv 2).fmod 20).toNat < pieces09.length := by show _ < 20; omega
    have all : pieces09.all (fun y => decide ((cs y).length ≤ 6)) = true := by decide +kernel
    rw [List.getD_eq_getElem?_getD, List.getElem?_eq_getElem hlt]
    exact of_decide_eq_true (List.all_eq_true.mp all _ (List.getElem_mem hlt))
  · simp
theorem laid09_le (ns : List Int) : (laid09 ns).length ≤ 6 * ns.length := by
  induction ns with
  | nil => simp [laid09]
  | cons x r ih =>
    unfold laid09 at ih ⊢
    rw [List.flatMap_cons, List.length_append, List.length_cons]
    have := step09_le x
    omega
def goneAt (a : Int) (k : Nat) : Bool := (a.fdiv (2 ^ k)).fmod 2 == 1
def gone09 (a : Int) : List Str := (List.range 7).flatMap fun k => if goneAt a k = true then [signs09.getD k Str.empty] else []
def text09 (ns : List Int) : List Nat := (laid09 ns).filter fun c => !((gone09 (ns.headD 0)).any (· == T [c]))
theorem text09_le (ns : List Int) : (text09 ns).length ≤ 6 * ns.length := Nat.le_trans (List.length_filter_le _ _) (laid09_le ns)
theorem noPy {a : Int} {k : Nat} (hk : k < 7) : Builtin.divisionGoesByPylong a (2 ^ k) = false := by
  rcases k with _ | _ | _ | _ | _ | _ | _ | k <;> first | exact PyProof.noPylong_of_log2 (by decide +kernel) | omega
theorem fn_text (dA : DefAt G a (fdOf (stOf pw 8) doc pm cdv ct) (bodyOf (stOf pw 8))) (hc : nsIn G.K mainGlobals "chr" = some none) (hli : nsIn G.K mainGlobals "list" = some none) (hr : nsIn G.K mainGlobals "range" = some none) (ns : List Int) (hn : ns.length ≤ 63) (hne : ns ≠ []) : Fn G (n + 2) a [.list (ns.map .int)] (.str (T (text09 ns))) := by
  refine fn_of (xs := ["script"]) dA (fun vs h => ?_) rfl ?_ (by decide) fun L => ?_
  · match vs, h with
    | [v], _ => rfl
  · walk_at "params"
  have big : 100000 ≤ sizeLine := by decide
  walk_at "as"
  · decide
  refine exs_cons (ex_assign (d := .list (txs pieces09)) ?_ (.inl rfl) rfl (then_next ?_))
  · have e : txs pieces09 = txs signs09 ++ txs more09 := by simp [pieces09, txs]
    rw [e]
    refine ev_binop (ev_name rfl rfl) ?_ (op_add_list (by decide))
    walk_at "ev"
    decide
  refine exs_cons (ex_assign_own evs_nil (by decide) (.inl rfl) (then_next ?_))
  refine exs_cons ?_
  apply ex_forI (fun i => [("script", .val (.list (ns.map .int))), ("signs", .val (.list (txs signs09))), ("pieces", .val (.list (txs pieces09))), ("laid", .own (chD (laid09 (ns.take i))))])
  · walk_at "ev"
  · exact itr_list
  · exact sub_cons rfl (sub_cons rfl (sub_cons rfl (sub_cons rfl sub_nil)))
  · intro i d hd
    obtain ⟨x, hx, rfl⟩ := at_map hd
    refine ⟨_, asg_name (.inl rfl), ?_⟩
    have htk : laid09 (ns.take (i + 1)) = laid09 (ns.take i) ++ step09 x := by
      unfold laid09
      rw [List.take_add_one, hx, List.flatMap_append]
      simp
    have hll := laid09_le (ns.take i)
    rw [List.length_take] at hll
    have hst := step09_le x
    have fin : ∀ ρ' : Loc, Sub [("script", .val (.list (ns.map .int))), ("signs", .val (.list (txs signs09))), ("pieces", .val (.list (txs pieces09))), ("laid", .own (chD (laid09 (ns.take i)) ++ chD (step09 x)))] ρ' → Sub [("script", .val (.list (ns.map .int))), ("signs", .val (.list (txs signs09))), ("pieces", .val (.list (txs pieces09))), ("laid", .own (chD (laid09 (ns.take (i + 1)))))] ρ' := fun ρ' h => by rw [htk, chD_app]; exact h
    walk_at "if"
    · intro h2
      refine exs_cons (ex_extend (ds := chD (laid09 (ns.take i))) (es := chD (step09 x)) rfl ?_ (by rw [chD_len, chD_len]; omega) rfl rfl rfl rfl (then_next (exs_nil (then_next (exs_nil (fin _ (sub_cons rfl (sub_cons rfl (sub_cons rfl (sub_cons rfl sub_nil))))))))))
      rw [show step09 x = _ from if_pos h2, ← chD_cs]
      refine ev_bt (evs_more (ev_sub (ev_name rfl rfl) (by walk_at "ev") (sb_menu (xs := pieces09) (m := 20) (by decide) (by decide) (by decide))) evs_nil rfl) (bt_list_str ?_) hli rfl rfl rfl rfl
      have e : (pieces09.getD ((x.fdiv 2).fmod 20).toNat Str.empty).length = (step09 x).length := by rw [show step09 x = _ from if_pos h2]; simp [cs, Str.length]
      rw [e]; omega
    · intro h2
      walk_at "as"
      refine exs_cons (ex_append (.str ⟨#[(codeOf ((x.fdiv 2).fmod 1112064)).toNat]⟩) rfl ?_ (by rw [chD_len]; omega) rfl rfl rfl rfl (then_next (exs_nil (then_next (exs_nil (fin _ ?_))))))
      · refine ev_bf (evs_more (ev_ifint (c := decide ((x.fdiv 2).fmod 1112064 < 55296)) ?_ (fun _ => ev_name rfl rfl) fun _ => ?_) evs_nil rfl) (bf_chr (i := codeOf ((x.fdiv 2).fmod 1112064)) (codeOf_bounds _).1 (codeOf_bounds _).2) hc rfl rfl rfl rfl
        · walk_at "ev"
        · walk_at "ev"
      · rw [show step09 x = _ from if_neg (by rw [h2]; decide)]
        exact sub_cons rfl (sub_cons rfl (sub_cons rfl (sub_cons rfl sub_nil)))
  · intro ρ' hsub
    refine then_next (exs_weaken hsub ?_)
    rw [List.length_map, List.take_length]
    obtain ⟨a0, ns', rfl⟩ := List.exists_cons_of_ne_nil hne
    refine exs_cons (ex_assign (d := .list (txs (gone09 a0))) (ev_listcomp (ρc := [("script", .val (.list ((a0 :: ns').map .int))), ("signs", .val (.list (txs signs09)))]) (cl := [("signs", _), ("script", _)]) (d := .rng 0 7) (ds := (List.range 7).map fun (k : Nat) => D.int (k : Int)) (out := txs (gone09 a0)) ⟨rfl, by decide, by decide, rfl, cells_cons rfl (cells_cons rfl cells_nil), cap_cons rfl rfl rfl rfl (cap_cons rfl rfl rfl rfl cap_nil)⟩ rfl (fun _ => rfl) (ev_bt (evs_more ev_int evs_nil rfl) bt_range1 hr rfl rfl rfl rfl) (itr_range rfl (by decide) (by decide)) ?_ ?_) (by walk_at "can") rfl (then_next ?_))
    · intro C
      have e : txs (gone09 a0) = (List.range 7).flatMap fun k => if goneAt a0 k = true then [D.str (signs09.getD k Str.empty)] else [] := by
        unfold gone09 txs
        rw [List.map_flatMap]
        congr 1
        funext k
        split <;> rfl
      rw [e]
      refine comp1 (xs := List.range 7) (mk := fun (k : Nat) => D.int (k : Int)) (F := fun k => if goneAt a0 k = true then [D.str (signs09.getD k Str.empty)] else []) fun k hk => ⟨_, goneAt a0 k, asg_name (.inl rfl), ?_, tsts_one ?_, (fun h => if_neg (by rw [h]; decide)), fun h => ⟨.str (signs09.getD k Str.empty), ?_, if_pos h⟩⟩
      · exact sub_cons rfl (sub_cons rfl sub_nil)
      · have hk' := List.mem_range.mp hk
        have h2k := pow2_pos k
        refine tst_cmp (ev_binop (ev_binop (ev_sub (ev_name rfl rfl) ev_int (sb_list (d := .int a0) (by decide) (by decide) rfl)) (ev_binop ev_int (ev_name rfl rfl) (op_pow_int (by omega) (by rw [show (Builtin.Int.intBits 2 : Int) = 2 by decide +kernel]; omega))) (op_fdiv_int (a := a0) ?_ ?_)) ev_int (op_mod_int (by decide))) ev_int op_eq_int rfl
        · rw [Int.toNat_natCast]; omega
        · rw [Int.toNat_natCast]; exact noPy hk'
      · have hk' := List.mem_range.mp hk
        refine ev_sub (ev_name rfl rfl) (ev_name rfl rfl) (sb_list (by omega) (by omega) ?_)
        rw [List.getElem?_map, Int.toNat_natCast, List.getElem?_eq_getElem (show k < signs09.length from hk'), List.getD_eq_getElem?_getD, List.getElem?_eq_getElem (show k < signs09.length from hk')]
        rfl
    · have : (txs (gone09 a0)).length ≤ 7 := by
        unfold gone09 txs
        rw [List.length_map]
        have key : ∀ (l : List Nat), (l.flatMap fun k => if goneAt a0 k = true then [signs09.getD k Str.empty] else []).length ≤ l.length := by
          intro l
          induction l with
          | nil => simp
          | cons k r ih =>
            rw [List.flatMap_cons, List.length_append, List.length_cons]
            have : (if goneAt a0 k = true then [signs09.getD k Str.empty] else []).length ≤ 1 := by split <;> simp
            omega
        have := key (List.range 7)
        rw [List.length_range] at this
        exact this
      omega
    refine exs_freeze (x := "laid") rfl ?_
    have hll := laid09_le (a0 :: ns')
    have htl := text09_le (a0 :: ns')
    refine exs_cons (ex_return (d := .str (T (text09 (a0 :: ns')))) ?_ rfl)
    rw [← join_ones]
    refine ev_meth (ds := [.list (txs ((text09 (a0 :: ns')).map fun c => T [c]))]) ev_str (evs_more ?_ evs_nil rfl) (getm_str F.slot_str_join F.type_str_join) (bf_join (joinOk_of (m := 1) (fun x hx => ?_) ?_)) rfl rfl (by decide) rfl
    · refine ev_listcomp (ρc := [("gone", .val (.list (txs (gone09 a0))))]) (cl := [("gone", _)]) (d := .list (chD (laid09 (a0 :: ns')))) (ds := (laid09 (a0 :: ns')).map fun c => .str ⟨#[c]⟩) ⟨rfl, by decide, by decide, rfl, cells_cons rfl cells_nil, cap_cons rfl rfl rfl rfl cap_nil⟩ rfl (fun _ => rfl) (ev_name rfl rfl) itr_list ?_ ?_
      · intro C
        have e : txs ((text09 (a0 :: ns')).map fun c => T [c]) = (laid09 (a0 :: ns')).flatMap fun c => if (!((gone09 a0).any (· == T [c]))) = true then [D.str ⟨#[c]⟩] else [] := by
          rw [← chD_txs]
          unfold text09 chD
          show List.map _ ((laid09 (a0 :: ns')).filter fun c => !((gone09 a0).any (· == T [c]))) = _
          generalize laid09 (a0 :: ns') = l
          induction l with
          | nil => rfl
          | cons c r ih =>
            rw [List.filter_cons, List.flatMap_cons]
            split
            · rename_i h; rw [List.map_cons, ih]; rfl
            · rename_i h; rw [ih]; rfl
        rw [e]
        exact comp1 (xs := laid09 (a0 :: ns')) (mk := fun c => D.str ⟨#[c]⟩) (F := fun c => if (!((gone09 a0).any (· == T [c]))) = true then [D.str ⟨#[c]⟩] else []) fun c _ => ⟨_, !((gone09 a0).any (· == T [c])), asg_name (.inl rfl), sub_upd rfl, tsts_one (tst_cmp (ev_name rfl rfl) (ev_name rfl rfl) op_notin_strs rfl), (fun h => if_neg (by rw [h]; decide)), fun h => ⟨_, ev_name rfl rfl, if_pos h⟩⟩
      · rw [List.length_map, List.length_map]; simp at htl hn; omega
    · obtain ⟨c, _, rfl⟩ := List.mem_map.mp hx
      exact Nat.le_refl _
    · rw [List.length_map]
      show _ * (1 + 0) ≤ _
      simp at htl hn
      omega
  · intro x; rfl
end
end Mine
end
section
open PySem PySem.W PyProof.Rows
set_option linter.unusedVariables false
set_option maxRecDepth 100000
namespace Mine
local macro_rules | `(tactic| walk_at "ev1") => `(tactic| first
  | exact ev_int | exact ev_str | exact ev_bool | exact ev_none
  | exact ev_name rfl rfl
  | exact evs_nil
  | (apply evs_more; (case hs => exact rfl))
  | apply ev_binop | (apply ev_cmp; (case hm => exact rfl)) | apply ev_sub
  | apply ev_list | apply ev_tuple
  | (apply tst_cmp; (case hm => exact rfl)) | apply tst_not | exact tst_and_nil | exact tst_or_nil
  | exact op_add_int | exact op_sub_int | exact op_iadd_int | exact op_eq_int | exact op_ne_int | exact op_lt_int | exact op_gt_int | exact op_le_int | exact op_ge_int
  | exact op_eq_str | exact op_ne_str | exact op_in_str | exact op_notin_str | exact op_in_dict | exact op_notin_dict | exact op_ne_nil | exact op_eq_nil
  | exact op_fdiv_int (by decide) (PyProof.noPylong_of_log2 (by decide +kernel)) | exact op_mod_int (by decide)
  | apply op_add_str | apply op_iadd_str
  | exact tsts_nil | apply tsts_one)
local macro_rules | `(tactic| walk_at "ev") => `(tactic| repeat' walk_at "ev1")
local macro_rules | `(tactic| walk_at "can") => `(tactic| first | exact Or.inl rfl | exact Or.inr ⟨rfl, rfl, _, rfl⟩)
local macro_rules | `(tactic| walk_at "as") => `(tactic| (refine exs_cons ?_; apply ex_assign; (case hc => walk_at "can"); (case hs => exact rfl); (case' k => refine then_next ?_); (case' h => walk_at "ev")))
local macro_rules | `(tactic| walk_at "aug") => `(tactic| (refine exs_cons ?_; apply ex_aug; (case h₀ => exact rfl); (case hc => walk_at "can"); (case' k => refine then_next ?_); (case' ho => skip); (case' h => walk_at "ev"); (try walk_at "ev")))
local macro_rules | `(tactic| walk_at "if") => `(tactic| (refine exs_cons ?_; apply ex_if; (case' h => walk_at "ev")))
local macro_rules | `(tactic| walk_at "ret") => `(tactic| (refine exs_cons ?_; apply ex_return; (case' h => walk_at "ev")))
local macro_rules | `(tactic| walk_at "params") => `(tactic| (intro x hx; simp only [List.mem_cons, List.not_mem_nil, or_false] at hx; first
  | (subst hx; first | exact .inl rfl | exact .inr ⟨rfl, fun _ => rfl⟩)
  | (rcases hx with hx | hx <;> subst hx <;> first | exact .inl rfl | exact .inr ⟨rfl, fun _ => rfl⟩)
  | (rcases hx with hx | hx | hx <;> subst hx <;> first | exact .inl rfl | exact .inr ⟨rfl, fun _ => rfl⟩)))
local macro_rules | `(tactic| walk_at "esc") => `(tactic| (refine esc_step rfl (by decide +kernel : _ = (⟨#[_]⟩ : Str)) ?_ ?_ ?_ ?_ (by assumption) rfl (by walk_at "can") rfl ?_))

section
variable {G : Gnd} {n : Nat} {doc pm cdv ct : Value} {a : Addr}
set_option maxHeartbeats 4000000
def names09 : List (Str × Str) := [("amp", "&"), ("lt", "<"), ("gt", ">"), ("quot", "\""), ("apos", "'")]
def dg09 : List Nat := [48, 49, 50, 51, 52, 53, 54, 55, 56, 57, 65, 66, 67, 68, 69, 70, 97, 98, 99, 100, 101, 102]
abbrev nget (nm : List Nat) : Option D := dget (names09.map (·.1)) (names09.map fun p => D.str p.2) (T nm)
structure NumTok (c : Nat) (nm : List Nat) (base : Nat) (fig : List Nat) : Prop where
  no : nget nm = none
  ba : base = if nm.take 2 = [35, 120] then 16 else 10
  fi : fig = if base = 16 then nm.drop 2 else nm.drop 1
  h1 : nm.take 1 = [35]
  fe : fig ≠ []
  dg : ∀ x ∈ fig, x ∈ dg09.take (if base = 10 then 10 else 22)
  num : Num fig (base : Int) (c : Int)
  cr : c ≤ 1114111
def IsTok (c : Nat) (nm : List Nat) : Prop := nget nm = some (.str ⟨#[c]⟩) ∨ ∃ base fig, NumTok c nm base fig
def refs09 : List (Nat × List Nat) := [(38, [97, 109, 112]), (60, [108, 116]), (62, [103, 116]), (34, [113, 117, 111, 116]), (13, [35, 49, 51]), (10, [35, 49, 48]), (9, [35, 48, 57]), (13, [35, 120, 68]), (10, [35, 120, 65]), (9, [35, 120, 57])]
theorem ref_ok : ∀ p ∈ refs09, IsTok p.1 p.2 := by
  intro p hp
  simp only [refs09, List.mem_cons, List.not_mem_nil, or_false] at hp
  rcases hp with rfl | rfl | rfl | rfl | rfl | rfl | rfl | rfl | rfl | rfl
  · exact .inl (by rfl)
  · exact .inl (by rfl)
  · exact .inl (by rfl)
  · exact .inl (by rfl)
  · exact .inr ⟨10, [49, 51], by rfl, by decide, by decide, by decide, by decide, by decide, ⟨by decide +kernel, by decide, by kernel_rfl, by decide, by decide⟩, by decide⟩
  · exact .inr ⟨10, [49, 48], by rfl, by decide, by decide, by decide, by decide, by decide, ⟨by decide +kernel, by decide, by kernel_rfl, by decide, by decide⟩, by decide⟩
  · exact .inr ⟨10, [48, 57], by rfl, by decide, by decide, by decide, by decide, by decide, ⟨by decide +kernel, by decide, by kernel_rfl, by decide, by decide⟩, by decide⟩
  · exact .inr ⟨16, [68], by rfl, by decide, by decide, by decide, by decide, by decide, ⟨by decide +kernel, by decide, by kernel_rfl, by decide, by decide⟩, by decide⟩
  · exact .inr ⟨16, [65], by rfl, by decide, by decide, by decide, by decide, by decide, ⟨by decide +kernel, by decide, by kernel_rfl, by decide, by decide⟩, by decide⟩
  · exact .inr ⟨16, [57], by rfl, by decide, by decide, by decide, by decide, by decide, ⟨by decide +kernel, by decide, by kernel_rfl, by decide, by decide⟩, by decide⟩
/-- a table whose spellings the reader knows -/
def knownT (t : Tbl) : Bool := t.all fun p => refs09.any fun r => r.1 == p.1 && p.2 == 38 :: (r.2 ++ [59]) && !(r.2.contains 59)
theorem tok_of {t : Tbl} (h : knownT t = true) {c : Nat} {z : List Nat} (hz : t.lookup c = some z) : ∃ nm, z = 38 :: (nm ++ [59]) ∧ 59 ∉ nm ∧ IsTok c nm ∧ nm.length ≤ 4 := by
  have h1 := List.all_eq_true.mp h _ (mem_look hz)
  obtain ⟨r, hr, h2⟩ := List.any_eq_true.mp h1
  simp only [Bool.and_eq_true, beq_iff_eq, Bool.not_eq_true'] at h2
  obtain ⟨⟨e1, e2⟩, e3⟩ := h2
  have all : refs09.all (fun r => decide (r.2.length ≤ 4)) = true := by decide
  refine ⟨r.2, e2, by simpa using e3, ?_, of_decide_eq_true (List.all_eq_true.mp all _ hr)⟩
  have := ref_ok r hr
  rwa [e1] at this
theorem esc_nokey {t : Tbl} (h : PC t) {k : Nat} (hk : (t.lookup k).isSome = true) (h38 : k ≠ 38) (l : List Nat) : k ∉ escBy t l := by
  induction l with
  | nil => simp [escBy]
  | cons c r ih =>
    rw [escBy_cons, List.mem_append, not_or]
    refine ⟨?_, ih⟩
    cases hc : t.lookup c with
    | none =>
      rw [spell_none hc]
      intro q
      simp at q
      subst q
      rw [hc] at hk; cases hk
    | some z =>
      obtain ⟨y, e, _, hy, _⟩ := h.at hc
      rw [spell_some hc, e]
      intro q
      rcases List.mem_cons.mp q with q | q
      · exact h38 q
      · rw [hy k q] at hk; cases hk
theorem brackets {t : Tbl} {b : List Nat} (h : WB t b) {c : Nat} (hc : t.lookup c = none) (r : List Nat) : (T ((c :: escBy t r).take 3) == T [93, 93, 62]) = ([93, 93, 62].isPrefixOf (c :: r) && b.contains 62) := by
  have e : c :: escBy t r = escBy t (c :: r) := by rw [escBy_cons, spell_none hc]; rfl
  rw [T_beq, e]
  have h93 : t.lookup 93 = none := by
    cases q : t.lookup 93 with
    | none => rfl
    | some z => exact absurd (h.keys 93 (by rw [q]; rfl)) (by decide)
  have pre : ((escBy t (c :: r)).take 3 = [93, 93, 62]) ↔ [93, 93, 62] <+: escBy t (c :: r) := by
    constructor
    · intro q; rw [← q]; exact List.take_prefix _ _
    · rintro ⟨x, q⟩; rw [← q]; rfl
  rw [Bool.eq_iff_iff, decide_eq_true_eq, pre, Bool.and_eq_true, List.isPrefixOf_iff_prefix]
  cases h62 : t.lookup 62 with
  | none =>
    have e2 : escBy t [93, 93, 62] = [93, 93, 62] := by simp [escBy, spell_none h93, spell_none h62]
    have hb : b.contains 62 = true := by
      have := (h.bare 62).mpr ⟨by decide, h62⟩
      simpa using this
    rw [hb]
    conv => lhs; lhs; rw [← e2]
    rw [esc_prefix h.pc]
    simp
  | some z =>
    have hb : b.contains 62 = false := by
      cases q : b.contains 62 with
      | false => rfl
      | true => have := ((h.bare 62).mp (by simpa using q)).2; rw [h62] at this; cases this
    rw [hb]
    simp only [Bool.false_eq_true, and_false, iff_false]
    intro q
    exact esc_nokey h.pc (k := 62) (by rw [h62]; rfl) (by decide) (c :: r) (q.subset (by simp))
theorem cut_here (P Q : List Nat) (k : Nat) : ((P ++ Q).take (P.length + k)).drop P.length = Q.take k := by
  rw [List.take_append, List.take_of_length_le (by omega), Nat.add_sub_cancel_left, List.drop_append, List.drop_of_length_le (Nat.le_refl _), Nat.sub_self]
  rfl
theorem cut_next (P : List Nat) (x : Nat) (Q : List Nat) (k : Nat) : ((P ++ x :: Q).take (P.length + (1 + k))).drop (P.length + 1) = Q.take k := by
  have := cut_here (P ++ [x]) Q k
  rw [List.length_append, List.length_singleton, List.append_assoc] at this
  rw [show P.length + (1 + k) = P.length + 1 + k by omega]
  exact this
theorem find_semi (P nm Q : List Nat) (h : 59 ∉ nm) : Txt.find3 (T (P ++ 38 :: (nm ++ 59 :: Q))) (T [59]) (P.length : Int) = ((P.length + (1 + nm.length) : Nat) : Int) := by
  have dr : ∀ j, (P ++ 38 :: (nm ++ 59 :: Q)).drop (P.length + j) = (38 :: (nm ++ 59 :: Q)).drop j := fun j => by
    rw [List.drop_append, List.drop_of_length_le (by omega), Nat.add_sub_cancel_left]; rfl
  refine find_T (by simp) ?_ fun j hj => ?_
  · rw [dr, Nat.add_comm 1, List.drop_succ_cons, List.drop_left]
    exact ⟨Q, rfl⟩
  · rw [dr]
    intro hp
    cases j with
    | zero => simp at hp
    | succ j =>
      rw [List.drop_succ_cons, List.drop_append_of_le_length (by omega), List.drop_eq_getElem_cons (by omega)] at hp
      obtain ⟨x, hx⟩ := hp
      rw [List.cons_append, List.cons_append] at hx
      exact h ((List.cons.inj hx).1 ▸ List.getElem_mem (by omega))
end
end Mine
end
section
open PySem PySem.W PyProof.Rows
set_option linter.unusedVariables false
set_option maxRecDepth 100000
namespace Mine
local macro_rules | `(tactic| walk_at "ev1") => `(tactic| first
  | exact ev_int | exact ev_str | exact ev_bool | exact ev_none
  | exact ev_name rfl rfl
  | exact evs_nil
  | (apply evs_more; (case hs => exact rfl))
  | apply ev_binop | (apply ev_cmp; (case hm => exact rfl)) | apply ev_sub
  | apply ev_list | apply ev_tuple
  | (apply tst_cmp; (case hm => exact rfl)) | apply tst_not | exact tst_and_nil | exact tst_or_nil
  | exact op_add_int | exact op_sub_int | exact op_iadd_int | exact op_eq_int | exact op_ne_int | exact op_lt_int | exact op_gt_int | exact op_le_int | exact op_ge_int
  | exact op_eq_str | exact op_ne_str | exact op_in_str | exact op_notin_str | exact op_in_dict | exact op_notin_dict | exact op_ne_nil | exact op_eq_nil
  | exact op_fdiv_int (by decide) (PyProof.noPylong_of_log2 (by decide +kernel)) | exact op_mod_int (by decide)
  | apply op_add_str | apply op_iadd_str
  | exact tsts_nil | apply tsts_one)
local macro_rules | `(tactic| walk_at "ev") => `(tactic| repeat' walk_at "ev1")
local macro_rules | `(tactic| walk_at "can") => `(tactic| first | exact Or.inl rfl | exact Or.inr ⟨rfl, rfl, _, rfl⟩)
local macro_rules | `(tactic| walk_at "as") => `(tactic| (refine exs_cons ?_; apply ex_assign; (case hc => walk_at "can"); (case hs => exact rfl); (case' k => refine then_next ?_); (case' h => walk_at "ev")))
local macro_rules | `(tactic| walk_at "aug") => `(tactic| (refine exs_cons ?_; apply ex_aug; (case h₀ => exact rfl); (case hc => walk_at "can"); (case' k => refine then_next ?_); (case' ho => skip); (case' h => walk_at "ev"); (try walk_at "ev")))
local macro_rules | `(tactic| walk_at "if") => `(tactic| (refine exs_cons ?_; apply ex_if; (case' h => walk_at "ev")))
local macro_rules | `(tactic| walk_at "ret") => `(tactic| (refine exs_cons ?_; apply ex_return; (case' h => walk_at "ev")))
local macro_rules | `(tactic| walk_at "params") => `(tactic| (intro x hx; simp only [List.mem_cons, List.not_mem_nil, or_false] at hx; first
  | (subst hx; first | exact .inl rfl | exact .inr ⟨rfl, fun _ => rfl⟩)
  | (rcases hx with hx | hx <;> subst hx <;> first | exact .inl rfl | exact .inr ⟨rfl, fun _ => rfl⟩)
  | (rcases hx with hx | hx | hx <;> subst hx <;> first | exact .inl rfl | exact .inr ⟨rfl, fun _ => rfl⟩)))
local macro_rules | `(tactic| walk_at "esc") => `(tactic| (refine esc_step rfl (by decide +kernel : _ = (⟨#[_]⟩ : Str)) ?_ ?_ ?_ ?_ (by assumption) rfl (by walk_at "can") rfl ?_))

section
variable {G : Gnd} {n : Nat} {doc pm cdv ct : Value} {a : Addr}
set_option maxHeartbeats 4000000
theorem tin_lit {x : Str} {l : List Nat} (h : x = T l) (c : Nat) : tin ⟨#[c]⟩ x = decide (c ∈ l) := by rw [h]; exact tin_T l c
theorem join_own {env : Env} {ρ : Loc} {pos apos p q : Pos} {x : Str} {k : Nat} {out : List Nat} (hx : ρ.lookup x = some (.own (chD out))) (hd : (x == ("__debug__" : Str)) = false) (hl : out.length ≤ 100000) (hline : (apos.endLine == pos.line) = true) :
    Ev G env n ρ (.Call (.Attribute (.Constant (.str Str.empty) k p) "join" apos) [.Name x q] [] pos) (.str (T out)) := by
  refine ev_peek hx ?_ rfl
  rw [← join_ones, chD_txs]
  have big := big_line
  exact ev_meth (ds := [.list (txs (out.map fun c => T [c]))]) ev_str (evs_more (ev_name (by rw [lookup_upd, if_pos rfl]) hd) evs_nil rfl) (getm_str F.slot_str_join F.type_str_join) (bf_join (joinOk_of (m := 1) (fun x hx => by
    obtain ⟨c, _, rfl⟩ := List.mem_map.mp hx
    exact Nat.le_refl _) (by rw [List.length_map]; show _ * (1 + 0) ≤ _; omega))) rfl rfl (by show 1 < 30; decide) hline
theorem fn_read (dA : DefAt G a (fdOf (stOf pw 9) doc pm cdv ct) (bodyOf (stOf pw 9))) (hlen : nsIn G.K mainGlobals "len" = some none) (hch : nsIn G.K mainGlobals "chr" = some none) (hin : nsIn G.K mainGlobals "int" = some none) (t : Tbl) (b : List Nat) (h : WB t b) (hkn : knownT t = true) (q : Bool) (l : List Nat) (hl : l.length ≤ 1000) (hrow : (escBy t l).length ≤ 8000) :
    Fn G (n + 2) a [.str (T (escBy t l)), .bool q] (.str (T (rd09 t b q false l))) := by
  refine fn_of (xs := ["row", "quoted"]) dA (fun vs h => ?_) rfl ?_ (by decide) fun L => ?_
  · match vs, h with
    | [v, u], _ => rfl
  · walk_at "params"
  have big : 100000 ≤ sizeLine := by decide
  refine exs_cons (ex_assign (d := strDict names09) (ev_dict (r := names09) (by repeat' constructor) (by decide) (by decide) (by decide +kernel)) (.inl rfl) rfl (then_next ?_))
  refine exs_cons (ex_assign_own evs_nil (by decide) (.inl rfl) (then_next ?_))
  walk_at "as"
  refine exs_cons ?_
  refine ex_whileI (σ := List Nat × List Nat × List Nat) (fun c => [("row", .val (.str (T (escBy t l)))), ("quoted", .val (.bool q)), ("names", .val (strDict names09)), ("read", .own (chD c.2.2)), ("place", .val (.int ((escBy t c.1).length : Int)))]) (fun c => c.2.1.length)
    (fun c => l = c.1 ++ c.2.1 ∧ c.2.2 ++ rd09 t b q false c.2.1 = rd09 t b q false l ∧ c.2.2.length + c.2.1.length ≤ l.length) ([], l, []) (sub_cons rfl (sub_cons rfl (sub_cons rfl (sub_cons rfl (sub_cons rfl sub_nil))))) ⟨rfl, rfl, by simp⟩ ?_
  rintro ⟨dn, rem, out⟩ ⟨hdr, hout, hol⟩
  dsimp only at hdr hout hol ⊢
  have hrw : escBy t l = escBy t dn ++ escBy t rem := by rw [hdr, escBy_append]
  have hpl : (escBy t dn).length ≤ 8000 := by rw [hrw, List.length_append] at hrow; omega
  refine ⟨decide (((escBy t dn).length : Int) < ((escBy t l).length : Int)), tst_cmp (ev_name rfl rfl) (ev_len (ev_name rfl rfl) (by omega) hlen rfl rfl) op_lt_int rfl, fun hc => ?_, fun hc ρ' hsub => ?_⟩
  · cases rem with
    | nil =>
      rw [decide_eq_true_eq, hrw] at hc
      simp [escBy] at hc
    | cons c r =>
      have hle : (escBy t dn).length + (escBy t (c :: r)).length = (escBy t l).length := by rw [hrw, List.length_append]
      have goOn : ∀ {ρ' : Loc} (dn' rem' out' : List Nat), rem'.length < (c :: r).length → l = dn' ++ rem' → out' ++ rd09 t b q false rem' = rd09 t b q false l → out'.length + rem'.length ≤ l.length →
          Sub [("row", .val (.str (T (escBy t l)))), ("quoted", .val (.bool q)), ("names", .val (strDict names09)), ("read", .own (chD out')), ("place", .val (.int ((escBy t dn').length : Int)))] ρ' →
          ∃ c' : List Nat × List Nat × List Nat, c'.2.1.length < (c :: r).length ∧ (l = c'.1 ++ c'.2.1 ∧ c'.2.2 ++ rd09 t b q false c'.2.1 = rd09 t b q false l ∧ c'.2.2.length + c'.2.1.length ≤ l.length) ∧ Sub [("row", .val (.str (T (escBy t l)))), ("quoted", .val (.bool q)), ("names", .val (strDict names09)), ("read", .own (chD c'.2.2)), ("place", .val (.int ((escBy t c'.1).length : Int)))] ρ' := fun dn' rem' out' h1 h2 h3 h4 h5 => ⟨(dn', rem', out'), h1, ⟨h2, h3, h4⟩, h5⟩
      have olen : out.length ≤ 1000 := by simp at hol; omega
      cases hk : t.lookup c with
      | some z =>
        obtain ⟨nm, ez, hn59, htok, hn4⟩ := tok_of hkn hk
        have hsp : spell t c = 38 :: (nm ++ [59]) := by rw [spell_some hk, ez]
        have hrw2 : escBy t l = escBy t dn ++ 38 :: (nm ++ 59 :: escBy t r) := by
          rw [hrw, escBy_cons, hsp]; simp
        have hsig : (escBy t l)[(escBy t dn).length]? = some 38 := by rw [hrw2]; simp
        have hrest : (escBy t (c :: r)).length = 2 + nm.length + (escBy t r).length := by rw [escBy_cons, hsp]; simp; omega
        have hrd : rd09 t b q false (c :: r) = c :: rd09 t b q false r := by
          rw [rd09, if_neg (by simp), if_pos (by rw [hk]; rfl)]
        have hdn' : escBy t (dn ++ [c]) = escBy t dn ++ 38 :: (nm ++ [59]) := by rw [escBy_append]; simp [escBy, hsp]
        refine exs_cons (ex_assign (ev_at (ev_name rfl rfl) (ev_name rfl rfl) hsig (by omega)) (.inl rfl) rfl (then_next ?_))
        have c3 : ((escBy t l).take ((escBy t dn).length + 3)).drop (escBy t dn).length = (38 :: (nm ++ 59 :: escBy t r)).take 3 := by
          rw [hrw2]; exact cut_here _ _ _
        refine exs_cons (ex_if (c := if q then (⟨#[38]⟩ : Str) == "\"" else ((⟨#[38]⟩ : Str) == "<" || (T ((38 :: (nm ++ 59 :: escBy t r)).take 3) == "]]>" || false))) (tst_ifexp (tst_bool (ev_name rfl rfl) fun _ => rfl) (fun _ => tst_cmp (ev_name rfl rfl) ev_str op_eq_str rfl) fun _ => tst_or (tst_cmp (ev_name rfl rfl) ev_str op_eq_str rfl) fun _ => tst_or (tst_cmp ?_ ev_str op_eq_str rfl) fun _ => tst_or_nil) (fun hh => ?_) fun _ => exs_nil (then_next ?_))
        · rw [← c3]
          exact ev_cut (ev_name rfl rfl) (ev_name rfl rfl) (ev_plus1 (m := 3) (ev_name rfl rfl)) (by omega)
        · exfalso
          have e1 : ((⟨#[38]⟩ : Str) == "\"") = false := by decide +kernel
          have e2 : ((⟨#[38]⟩ : Str) == "<") = false := by decide +kernel
          have e3 : ("]]>" : Str) = T [93, 93, 62] := by decide +kernel
          rw [e1, e2, e3, T_beq] at hh
          cases q <;> simp at hh
        refine exs_cons (ex_if (c := (⟨#[38]⟩ : Str) == "&") (tst_cmp (ev_name rfl rfl) ev_str op_eq_str rfl) (fun _ => ?_) fun hh => ?_)
        · have hnm : ((escBy t l).take ((escBy t dn).length + (1 + nm.length))).drop ((escBy t dn).length + 1) = nm := by
            rw [hrw2, cut_next, List.take_append_of_le_length (Nat.le_refl _), List.take_length]
          refine exs_cons (ex_assign (d := .str (T nm)) ?_ (.inl rfl) rfl (then_next ?_))
          · conv => arg 6; rw [← hnm]
            refine ev_cut (ev_name rfl rfl) (ev_plus1 (m := 1) (ev_name rfl rfl)) ?_ (by omega)
            have hf := find_semi (escBy t dn) nm (escBy t r) hn59
            rw [← hrw2] at hf
            rw [← hf, show T [59] = ";" from by decide +kernel]
            exact ev_meth (ds := [.str ";", .int ((escBy t dn).length : Int)]) (ev_name rfl rfl) (evs_more ev_str (evs_more (ev_name rfl rfl) evs_nil rfl) rfl) (getm_str F.slot_str_find F.type_str_find) bf_find3 rfl rfl (by decide) rfl
          refine exs_cons (ex_aug (d₀ := .int ((escBy t dn).length : Int)) (d₁ := .int ((nm.length + 2 : Nat) : Int)) (d := .int ((escBy t (dn ++ [c])).length : Int)) rfl (ev_plus1 (m := 2) (ev_len (ev_name rfl rfl) (by omega) hlen rfl rfl)) ?_ (.inl rfl) (then_next ?_))
          · have e : ((escBy t (dn ++ [c])).length : Int) = ((escBy t dn).length : Int) + ((nm.length + 2 : Nat) : Int) := by rw [hdn']; simp; omega
            rw [e]; exact op_iadd_int
          have fin : ∀ {ρ' : Loc}, Sub [("row", .val (.str (T (escBy t l)))), ("quoted", .val (.bool q)), ("names", .val (strDict names09)), ("read", .own (chD (out ++ [c]))), ("place", .val (.int ((escBy t (dn ++ [c])).length : Int)))] ρ' → _ := fun {ρ'} hs => goOn (ρ' := ρ') (dn ++ [c]) r (out ++ [c]) (by simp) (by rw [hdr]; simp) (by rw [← hout, hrd]; simp) (by simp at hol ⊢; omega) hs
          rcases htok with htok | ⟨base, fig, N⟩
          · refine exs_cons (ex_if (c := (nget nm).isSome) (tst_cmp (ev_name rfl rfl) (ev_name rfl rfl) op_in_dict rfl) (fun _ => ?_) fun hh => ?_)
            · refine exs_cons (ex_append (.str ⟨#[c]⟩) rfl (ev_sub (ev_name rfl rfl) (ev_name rfl rfl) (sb_dict htok)) (by rw [chD_len]; omega) rfl rfl rfl rfl (then_next ?_))
              refine exs_cons (ex_continue ?_)
              refine fin ?_
              rw [chD_app]
              exact sub_cons rfl (sub_cons rfl (sub_cons rfl (sub_cons rfl (sub_cons rfl sub_nil))))
            · rw [htok] at hh; cases hh
          · refine exs_cons (ex_if (c := (nget nm).isSome) (tst_cmp (ev_name rfl rfl) (ev_name rfl rfl) op_in_dict rfl) (fun hh => ?_) fun _ => exs_nil (then_next ?_))
            · rw [N.no] at hh; cases hh
            have hfl : fig.length ≤ 4 := by
              rw [N.fi]
              split
              · rw [List.length_drop]; omega
              · rw [List.length_drop]; omega
            have hx2 : ("#x" : Str) = T [35, 120] := by decide +kernel
            have hx1 : ("#" : Str) = T [35] := by decide +kernel
            have hx0 : ("" : Str) = T [] := by decide +kernel
            have hxd : ("0123456789ABCDEFabcdef" : Str) = T dg09 := by decide +kernel
            refine exs_cons (ex_assign (d := .int (base : Int)) (ev_if_same (c := T (nm.take 2) == "#x") (tst_cmp (ev_to (b := 2) (ev_name rfl rfl) ev_int (by omega)) ev_str op_eq_str rfl) (fun hh => ?_) fun hh => ?_) (by walk_at "can") rfl (then_next ?_))
            · rw [hx2, T_beq, decide_eq_true_eq] at hh
              rw [N.ba, if_pos hh]; exact ev_int
            · rw [hx2, T_beq, decide_eq_false_iff_not] at hh
              rw [N.ba, if_neg hh]; exact ev_int
            refine exs_cons (ex_assign (d := .str (T fig)) (ev_if_same (c := (base : Int) == 16) (tst_cmp (ev_name rfl rfl) ev_int op_eq_int rfl) (fun hh => ?_) fun hh => ?_) (.inl rfl) rfl (then_next ?_))
            · have hb : base = 16 := by have := beq_iff_eq.mp hh; omega
              rw [N.fi, if_pos hb]; exact ev_from (a := 2) (ev_name rfl rfl) ev_int (by omega)
            · have hb : base ≠ 16 := fun e => by rw [e] at hh; simp at hh
              rw [N.fi, if_neg hb]; exact ev_from (a := 1) (ev_name rfl rfl) ev_int (by omega)
            have hdv : ∀ {env : Env} {ρ : Loc} {e₁ e₂ e₃ : PySem.Expr} {sp p1 p2 p3 : Pos} {k1 : Nat}, Tst G env (n + 1) ρ e₁ ((base : Int) == 10) → Ev G env (n + 1) ρ e₂ (.int 10) → Ev G env (n + 1) ρ e₃ (.int 22) → Ev G env (n + 1) ρ (.Subscript (.Constant (.str "0123456789ABCDEFabcdef") k1 p1) (.Slice none (some (.IfExp e₁ e₂ e₃ p2)) none sp) p3) (.str (T (dg09.take (if base = 10 then 10 else 22)))) := fun h1 h2 h3 => by
              refine ev_to (l := dg09) (by rw [← hxd]; exact ev_str) (ev_if_same h1 (fun hh => ?_) fun hh => ?_) (by decide)
              · have hb : base = 10 := by have := beq_iff_eq.mp hh; omega
                rw [if_pos hb]; exact h2
              · have hb : base ≠ 10 := fun e => by rw [e] at hh; simp at hh
                rw [if_neg hb]; exact h3
            refine exs_cons (ex_if (c := (T (nm.take 1) != "#") || ((T fig == "") || ((!([] : List D).isEmpty) || false))) (tst_or (tst_cmp (ev_to (b := 1) (ev_name rfl rfl) ev_int (by omega)) ev_str op_ne_str rfl) fun _ => tst_or (tst_cmp (ev_name rfl rfl) ev_str op_eq_str rfl) fun _ => tst_or (tst_cmp ?_ (ev_list evs_nil (by decide)) op_ne_nil rfl) fun _ => tst_or_nil) (fun hh => ?_) fun _ => exs_nil (then_next ?_))
            · refine ev_listcomp (ρc := [("base", .val (.int (base : Int)))]) (cl := [("base", _)]) (d := .str (T fig)) (ds := fig.map fun c => .str ⟨#[c]⟩) ⟨rfl, by decide, by decide, rfl, cells_cons rfl cells_nil, cap_cons rfl rfl rfl rfl cap_nil⟩ rfl (fun _ => rfl) (ev_name rfl rfl) itr_str ?_ (by simp)
              intro C
              have e : ([] : List D) = fig.flatMap fun _ => [] := by simp
              rw [e]
              refine comp1 (xs := fig) (mk := fun c => D.str ⟨#[c]⟩) (F := fun _ => []) fun c hc' => ⟨_, false, asg_name (.inl rfl), sub_upd rfl, tsts_one ?_, (fun _ => rfl), fun hh => nomatch hh⟩
              have e2 : (!tin ⟨#[c]⟩ (T (dg09.take (if base = 10 then 10 else 22)))) = false := by rw [tin_T, decide_eq_true (N.dg c hc')]; rfl
              have tt := fun (env : Env) (ρ : Loc) (e₁ e₂ : PySem.Expr) (p : Pos) (h1 : Ev G env (n + 1) ρ e₁ (.str ⟨#[c]⟩)) (h2 : Ev G env (n + 1) ρ e₂ (.str (T (dg09.take (if base = 10 then 10 else 22))))) (hm : behindInMarks .NotIn e₂ = false) => tst_cmp (pos := p) h1 h2 op_notin_str hm
              simp only [e2] at tt
              exact tt _ _ _ _ _ (ev_name rfl rfl) (hdv (tst_cmp (ev_name rfl rfl) ev_int op_eq_int rfl) ev_int ev_int) rfl
            · exfalso
              rw [hx1, hx0, N.h1, T_beq] at hh
              simp [N.fe] at hh
            refine exs_cons (ex_append (.str ⟨#[c]⟩) rfl ?_ (by rw [chD_len]; omega) rfl rfl rfl rfl (then_next ?_))
            · have := bf_chr (G := G) (i := (c : Int)) (by omega) (by have := N.cr; omega)
              rw [Int.toNat_natCast] at this
              exact ev_bf (evs_more (ev_bt (evs_more (ev_name rfl rfl) (evs_more (ev_name rfl rfl) evs_nil rfl) rfl) (bt_int_base N.num) hin rfl rfl rfl rfl) evs_nil rfl) this hch rfl rfl rfl rfl
            refine exs_cons (ex_continue ?_)
            refine fin ?_
            rw [chD_app]
            exact sub_cons rfl (sub_cons rfl (sub_cons rfl (sub_cons rfl (sub_cons rfl sub_nil))))
        · exact absurd hh (by decide +kernel)
      | none =>
        have hsp : spell t c = [c] := spell_none hk
        have hrw2 : escBy t l = escBy t dn ++ c :: escBy t r := by rw [hrw, escBy_cons, hsp]; rfl
        have hsig : (escBy t l)[(escBy t dn).length]? = some c := by rw [hrw2]; simp
        have hdn' : escBy t (dn ++ [c]) = escBy t dn ++ [c] := by rw [escBy_append]; simp [escBy, hsp]
        have inb : c ∈ S7 → c ∈ b := fun hs => (h.bare c).mpr ⟨hs, hk⟩
        refine exs_cons (ex_assign (ev_at (ev_name rfl rfl) (ev_name rfl rfl) hsig (by omega)) (.inl rfl) rfl (then_next ?_))
        have c3 : ((escBy t l).take ((escBy t dn).length + 3)).drop (escBy t dn).length = (c :: escBy t r).take 3 := by
          rw [hrw2]; exact cut_here _ _ _
        have l34 : ("\"" : Str) = T [34] := by decide +kernel
        have l60 : ("<" : Str) = T [60] := by decide +kernel
        have l3 : ("]]>" : Str) = T [93, 93, 62] := by decide +kernel
        have hstop : (if q then (⟨#[c]⟩ : Str) == "\"" else ((⟨#[c]⟩ : Str) == "<" || (T ((c :: escBy t r).take 3) == "]]>" || false))) = stop09 b q (c :: r) := by
          rw [l34, l60, l3, ← T_one, T_beq, T_beq, brackets h hk]
          unfold stop09
          cases q
          · simp only [Bool.false_eq_true, if_false, Bool.or_false]
            congr 1
            by_cases q1 : c = 60
            · subst q1
              have := inb (by decide)
              simp [this]
            · simp [q1]
          · simp only [if_true]
            by_cases q1 : c = 34
            · subst q1
              have := inb (by decide)
              simp [this]
            · simp [q1]
        refine exs_cons (ex_if (c := stop09 b q (c :: r)) ?_ (fun hh => ?_) fun hh => exs_nil (then_next ?_))
        · rw [← hstop]
          refine tst_ifexp (tst_bool (ev_name rfl rfl) fun _ => rfl) (fun _ => tst_cmp (ev_name rfl rfl) ev_str op_eq_str rfl) fun _ => tst_or (tst_cmp (ev_name rfl rfl) ev_str op_eq_str rfl) fun _ => tst_or (tst_cmp ?_ ev_str op_eq_str rfl) fun _ => tst_or_nil
          rw [← c3]
          exact ev_cut (ev_name rfl rfl) (ev_name rfl rfl) (ev_plus1 (m := 3) (ev_name rfl rfl)) (by omega)
        · refine exs_cons (ex_return (join_own (out := out) rfl rfl (by omega) rfl) ?_)
          have hrd : rd09 t b q false (c :: r) = [] := by
            rw [rd09, if_neg (by simp), if_neg (by rw [hk]; decide), if_pos hh]
          rw [hrd, List.append_nil] at hout
          show D.str (T out) = _
          rw [hout]
        have h38 : c ≠ 38 := h.pc.amp hk
        refine exs_cons (ex_if (c := (⟨#[c]⟩ : Str) == "&") (tst_cmp (ev_name rfl rfl) ev_str op_eq_str rfl) (fun hx => ?_) fun _ => exs_nil (then_next ?_))
        · exfalso
          rw [show ("&" : Str) = T [38] from by decide +kernel, ← T_one, T_beq] at hx
          simp at hx
          exact h38 hx
        have hnt : ∀ x : Nat, tin ⟨#[x]⟩ "\n\t" = decide (x ∈ [10, 9]) := tin_lit (by decide +kernel)
        by_cases h13 : c = 13
        · subst h13
          have hb13 := inb (by decide)
          have hb10 := h.crlf hb13
          have hno10 : t.lookup 10 = none := ((h.bare 10).mp hb10).2
          refine exs_cons (ex_if (c := (⟨#[13]⟩ : Str) == "\r") (tst_cmp (ev_name rfl rfl) ev_str op_eq_str rfl) (fun _ => ?_) fun hx => absurd hx (by decide +kernel))
          have hrd : rd09 t b q false (13 :: r) = (if q then 32 else 10) :: rd09 t b q true r := by
            rw [rd09, if_neg (by simp), if_neg (by rw [hk]; decide), if_neg (by rw [hh]; decide), if_pos rfl]
          have c1 : ((escBy t l).take ((escBy t dn).length + 2)).drop ((escBy t dn).length + 1) = (escBy t r).take 1 := by
            rw [hrw2]; exact cut_next _ _ _ 1
          walk_at "as"
          have lf : ("\n" : Str) = T [10] := by decide +kernel
          have appE : ∀ {env : Env} {ρ : Loc} {e₁ e₂ e₃ : PySem.Expr} {p : Pos}, Tst G env (n + 1) ρ e₁ (q && (tin ⟨#[10]⟩ "\n\t" && true)) → Ev G env (n + 1) ρ e₂ (.str " ") → Ev G env (n + 1) ρ e₃ (.str "\n") → Ev G env (n + 1) ρ (.IfExp e₁ e₂ e₃ p) (.str ⟨#[if q then 32 else 10]⟩) := fun h1 h2 h3 => by
            refine ev_if_same h1 (fun hq => ?_) fun hq => ?_
            · have : q = true := by simp at hq; exact hq.1
              rw [this]; exact h2
            · have : q = false := by
                rw [hnt 10] at hq
                simpa using hq
              rw [this]; exact h3
          refine exs_cons (ex_if (c := T ((escBy t r).take 1) == "\n") ?_ (fun hx => ?_) fun hx => ?_)
          · refine tst_cmp ?_ ev_str op_eq_str rfl
            rw [← c1]
            exact ev_cut (ev_name rfl rfl) (ev_plus1 (m := 1) (ev_name rfl rfl)) (ev_plus1 (m := 2) (ev_name rfl rfl)) (by omega)
          · rw [lf, T_beq, decide_eq_true_eq] at hx
            obtain ⟨r', hr'⟩ : ∃ r', r = 10 :: r' := by
              cases r with
              | nil => simp [escBy] at hx
              | cons d r' =>
                refine ⟨r', ?_⟩
                rw [escBy_cons] at hx
                cases hd : t.lookup d with
                | none => rw [spell_none hd] at hx; simp at hx; rw [hx]
                | some z => obtain ⟨y, ey, _⟩ := h.pc.at hd; rw [spell_some hd, ey] at hx; simp at hx
            subst hr'
            have hrd2 : rd09 t b q true (10 :: r') = rd09 t b q false r' := by
              rw [rd09, if_pos (by simp [hb10])]
            have hdn2 : escBy t (dn ++ [13, 10]) = escBy t dn ++ [13, 10] := by rw [escBy_append]; simp [escBy, hsp, spell_none hno10]
            refine exs_cons (ex_aug (d := .int (((escBy t dn).length + 1 : Nat) : Int)) rfl ev_int (by rw [Int.natCast_add]; exact op_iadd_int) (.inl rfl) (then_next (exs_nil (then_next (exs_nil (then_next ?_))))))
            refine exs_cons (ex_append (.str ⟨#[if q then 32 else 10]⟩) rfl (appE (tst_and (tst_bool (ev_name rfl rfl) fun _ => rfl) fun _ => tst_and (tst_cmp (ev_name rfl rfl) ev_str op_in_str rfl) fun _ => tst_and_nil) ev_str (ev_name rfl rfl)) (by rw [chD_len]; omega) rfl rfl rfl rfl (then_next ?_))
            refine exs_cons (ex_aug (d := .int ((escBy t (dn ++ [13, 10])).length : Int)) rfl ev_int (by rw [hdn2, List.length_append, show [13, 10].length = 1 + 1 from rfl, ← Nat.add_assoc, Int.natCast_add]; exact op_iadd_int) (.inl rfl) (then_next (exs_nil ?_)))
            refine goOn (dn ++ [13, 10]) r' (out ++ [if q then 32 else 10]) (by simp only [List.length_cons]; omega) (by rw [hdr]; simp) (by rw [← hout, hrd, hrd2]; simp) (by simp at hol ⊢; omega) ?_
            rw [chD_app]
            exact sub_cons rfl (sub_cons rfl (sub_cons rfl (sub_cons rfl (sub_cons rfl sub_nil))))
          · rw [lf, T_beq, decide_eq_false_iff_not] at hx
            have hrd2 : rd09 t b q true r = rd09 t b q false r := rd_skip q r fun r' e => by
              exfalso
              rw [e, escBy_cons, spell_none hno10] at hx
              simp at hx
            refine exs_nil (then_next (exs_nil (then_next ?_)))
            refine exs_cons (ex_append (.str ⟨#[if q then 32 else 10]⟩) rfl (appE (tst_and (tst_bool (ev_name rfl rfl) fun _ => rfl) fun _ => tst_and (tst_cmp (ev_name rfl rfl) ev_str op_in_str rfl) fun _ => tst_and_nil) ev_str (ev_name rfl rfl)) (by rw [chD_len]; omega) rfl rfl rfl rfl (then_next ?_))
            refine exs_cons (ex_aug (d := .int ((escBy t (dn ++ [13])).length : Int)) rfl ev_int (by rw [hdn', List.length_append, List.length_singleton, Int.natCast_add]; exact op_iadd_int) (.inl rfl) (then_next (exs_nil ?_)))
            refine goOn (dn ++ [13]) r (out ++ [if q then 32 else 10]) (by simp) (by rw [hdr]; simp) (by rw [← hout, hrd, hrd2]; simp) (by simp at hol ⊢; omega) ?_
            rw [chD_app]
            exact sub_cons rfl (sub_cons rfl (sub_cons rfl (sub_cons rfl (sub_cons rfl sub_nil))))
        · refine exs_cons (ex_if (c := (⟨#[c]⟩ : Str) == "\r") (tst_cmp (ev_name rfl rfl) ev_str op_eq_str rfl) (fun hx => ?_) fun _ => exs_nil (then_next ?_))
          · exfalso
            rw [show ("\r" : Str) = T [13] from by decide +kernel, ← T_one, T_beq] at hx
            simp at hx
            exact h13 hx
          have hrd : rd09 t b q false (c :: r) = (if (q && (c == 10 || c == 9)) = true then 32 else c) :: rd09 t b q false r := by
            rw [rd09, if_neg (by simp), if_neg (by rw [hk]; decide), if_neg (by rw [hh]; decide), if_neg h13]
          refine exs_cons (ex_append (.str ⟨#[if (q && (c == 10 || c == 9)) = true then 32 else c]⟩) rfl (ev_if_same (c := q && (tin ⟨#[c]⟩ "\n\t" && true)) (tst_and (tst_bool (ev_name rfl rfl) fun _ => rfl) fun _ => tst_and (tst_cmp (ev_name rfl rfl) ev_str op_in_str rfl) fun _ => tst_and_nil) (fun hq => ?_) fun hq => ?_) (by rw [chD_len]; omega) rfl rfl rfl rfl (then_next ?_))
          · have e : (q && (c == 10 || c == 9)) = true := by rw [hnt] at hq; simpa using hq
            rw [if_pos e]; exact ev_str
          · have e : ¬ (q && (c == 10 || c == 9)) = true := by rw [hnt] at hq; simpa using hq
            rw [if_neg e]; exact ev_name rfl rfl
          refine exs_cons (ex_aug (d := .int ((escBy t (dn ++ [c])).length : Int)) rfl ev_int (by rw [hdn', List.length_append, List.length_singleton, Int.natCast_add]; exact op_iadd_int) (.inl rfl) (then_next (exs_nil ?_)))
          refine goOn (dn ++ [c]) r (out ++ [if (q && (c == 10 || c == 9)) = true then 32 else c]) (by simp) (by rw [hdr]; simp) (by rw [← hout, hrd]; simp) (by simp at hol ⊢; omega) ?_
          rw [chD_app]
          exact sub_cons rfl (sub_cons rfl (sub_cons rfl (sub_cons rfl (sub_cons rfl sub_nil))))
  · refine then_next (exs_weaken hsub ?_)
    have hrem : rem = [] := by
      cases rem with
      | nil => rfl
      | cons c r =>
        exfalso
        rw [decide_eq_false_iff_not, hrw, escBy_cons] at hc
        have := List.length_pos_iff.mpr (spell_ne h.pc c)
        simp at hc
        omega
    subst hrem
    refine exs_cons (ex_return (join_own (out := out) rfl rfl (by simp at hol; omega) rfl) ?_)
    have : rd09 t b q false [] = [] := by unfold rd09; rfl
    rw [this, List.append_nil] at hout
    show D.str (T out) = _
    rw [hout]
end
end Mine
end
section
open PySem PySem.W PyProof.Rows
set_option linter.unusedVariables false
set_option maxRecDepth 100000
namespace Mine
local macro_rules | `(tactic| walk_at "ev1") => `(tactic| first
  | exact ev_int | exact ev_str | exact ev_bool | exact ev_none
  | exact ev_name rfl rfl
  | exact evs_nil
  | (apply evs_more; (case hs => exact rfl))
  | apply ev_binop | (apply ev_cmp; (case hm => exact rfl)) | apply ev_sub
  | apply ev_list | apply ev_tuple
  | (apply tst_cmp; (case hm => exact rfl)) | apply tst_not | exact tst_and_nil | exact tst_or_nil
  | exact op_add_int | exact op_sub_int | exact op_iadd_int | exact op_eq_int | exact op_ne_int | exact op_lt_int | exact op_gt_int | exact op_le_int | exact op_ge_int
  | exact op_eq_str | exact op_ne_str | exact op_in_str | exact op_notin_str | exact op_in_dict | exact op_notin_dict | exact op_ne_nil | exact op_eq_nil
  | exact op_fdiv_int (by decide) (PyProof.noPylong_of_log2 (by decide +kernel)) | exact op_mod_int (by decide)
  | apply op_add_str | apply op_iadd_str
  | exact tsts_nil | apply tsts_one)
local macro_rules | `(tactic| walk_at "ev") => `(tactic| repeat' walk_at "ev1")
local macro_rules | `(tactic| walk_at "can") => `(tactic| first | exact Or.inl rfl | exact Or.inr ⟨rfl, rfl, _, rfl⟩)
local macro_rules | `(tactic| walk_at "as") => `(tactic| (refine exs_cons ?_; apply ex_assign; (case hc => walk_at "can"); (case hs => exact rfl); (case' k => refine then_next ?_); (case' h => walk_at "ev")))
local macro_rules | `(tactic| walk_at "aug") => `(tactic| (refine exs_cons ?_; apply ex_aug; (case h₀ => exact rfl); (case hc => walk_at "can"); (case' k => refine then_next ?_); (case' ho => skip); (case' h => walk_at "ev"); (try walk_at "ev")))
local macro_rules | `(tactic| walk_at "if") => `(tactic| (refine exs_cons ?_; apply ex_if; (case' h => walk_at "ev")))
local macro_rules | `(tactic| walk_at "ret") => `(tactic| (refine exs_cons ?_; apply ex_return; (case' h => walk_at "ev")))
local macro_rules | `(tactic| walk_at "params") => `(tactic| (intro x hx; simp only [List.mem_cons, List.not_mem_nil, or_false] at hx; first
  | (subst hx; first | exact .inl rfl | exact .inr ⟨rfl, fun _ => rfl⟩)
  | (rcases hx with hx | hx <;> subst hx <;> first | exact .inl rfl | exact .inr ⟨rfl, fun _ => rfl⟩)
  | (rcases hx with hx | hx | hx <;> subst hx <;> first | exact .inl rfl | exact .inr ⟨rfl, fun _ => rfl⟩)))
local macro_rules | `(tactic| walk_at "esc") => `(tactic| (refine esc_step rfl (by decide +kernel : _ = (⟨#[_]⟩ : Str)) ?_ ?_ ?_ ?_ (by assumption) rfl (by walk_at "can") rfl ?_))

section
variable {G : Gnd} {n : Nat} {doc pm cdv ct : Value} {a : Addr}
set_option maxHeartbeats 4000000
def bS (b : List Nat) : List Str := b.map fun c => T [c]
theorem any_bS (b : List Nat) (c : Nat) : (bS b).any (· == ⟨#[c]⟩) = b.contains c := by
  unfold bS
  rw [List.any_map]
  induction b with
  | nil => rfl
  | cons x r ih =>
    rw [List.any_cons, ih, List.contains_cons]
    congr 1
    show (T [x] == T [c]) = _
    rw [T_beq]
    by_cases h : x = c
    · subst h; simp
    · simp [h, Ne.symm h]
def eL (q : Bool) : List (List Nat) := if q then [[34]] else [[60], [93, 93, 62]]
def cutE (b : List Nat) (l e : List Nat) : List Nat := if b.contains (e.getLastD 0) = true then cutG e l else l
theorem cutE_all (b : List Nat) (q : Bool) (l : List Nat) : (eL q).foldl (cutE b) l = dueCut b q l := by
  unfold eL dueCut
  cases q <;> rfl
theorem foldE_le (b : List Nat) : ∀ (es : List (List Nat)) (l : List Nat), (es.foldl (cutE b) l).length ≤ l.length
  | [], l => Nat.le_refl _
  | e :: es, l => by
    rw [List.foldl_cons]
    refine Nat.le_trans (foldE_le b es _) ?_
    unfold cutE
    split
    · exact cutG_le e l
    · exact Nat.le_refl _
theorem sp_flat (b l : List Nat) : txs ((sp09 b true l).map fun c => T [c]) = l.flatMap fun c => [D.str ⟨#[if ((c == 10 || c == 9) && b.contains c) = true then 32 else c]⟩] := by
  unfold sp09 txs
  rw [if_pos rfl, List.map_map, List.map_map, map_one]
  rfl
theorem fn_due (dA : DefAt G a (fdOf (stOf pw 10) doc pm cdv ct) (bodyOf (stOf pw 10))) (b : List Nat) (hb : b.length ≤ 7) (q : Bool) (l : List Nat) (hl : l.length ≤ 1000) :
    Fn G (n + 1) a [.str (T l), .list (txs (bS b)), .bool q] (.str (T (due09 b q l))) := by
  refine fn_of (xs := ["text", "bare", "quoted"]) dA (fun vs h => ?_) rfl ?_ (by decide) fun L => ?_
  · match vs, h with
    | [v, u, w], _ => rfl
  · walk_at "params"
  have big : 100000 ≤ sizeLine := by decide
  refine exs_cons ?_
  apply ex_forI (fun i => [("text", .val (.str (T (((eL q).take i).foldl (cutE b) l)))), ("bare", .val (.list (txs (bS b)))), ("quoted", .val (.bool q))]) (d := .list (txs ((eL q).map T)))
  · refine ev_if_same (c := q) (tst_bool (ev_name rfl rfl) fun _ => rfl) (fun h => ?_) fun h => ?_
    · rw [h, show (eL true).map T = (["\""] : List Str) from by decide +kernel]
      walk_at "ev"
      decide
    · rw [h, show (eL false).map T = (["<", "]]>"] : List Str) from by decide +kernel]
      walk_at "ev"
      decide
  · exact itr_list
  · exact sub_cons rfl (sub_cons rfl (sub_cons rfl sub_nil))
  · intro i d hd
    obtain ⟨e, he, rfl⟩ : ∃ e, (eL q)[i]? = some e ∧ d = .str (T e) := by
      rw [txs, List.map_map] at hd
      exact at_map hd
    obtain ⟨p, c, hpc⟩ : ∃ p c, e = p ++ [c] := by
      have hm := List.mem_of_getElem? he
      have all : ∀ q, (eL q).all (fun e => e.length != 0 && decide (e.length ≤ 3)) = true := by intro q; cases q <;> decide
      have := List.all_eq_true.mp (all q) e hm
      have hne : e ≠ [] := fun z => by subst z; simp at this
      exact ⟨e.dropLast, e.getLast hne, (List.dropLast_concat_getLast hne).symm⟩
    have hpl : p.length ≤ 3 := by
      have hm := List.mem_of_getElem? he
      have all : ∀ q, (eL q).all (fun e => decide (e.length ≤ 3)) = true := by intro q; cases q <;> decide
      have := of_decide_eq_true (List.all_eq_true.mp (all q) e hm)
      rw [hpc] at this
      simp at this
      omega
    have hlast : e.getLastD 0 = c := by rw [hpc]; simp
    have hfo := foldE_le b ((eL q).take i) l
    refine ⟨_, asg_name (.inl rfl), ?_⟩
    have hstep : ((eL q).take (i + 1)).foldl (cutE b) l = cutE b (((eL q).take i).foldl (cutE b) l) e := by rw [List.take_add_one, he, List.foldl_append]; rfl
    rw [hstep]
    generalize ((eL q).take i).foldl (cutE b) l = x at hfo
    unfold cutE
    rw [hlast]
    refine exs_cons (ex_if (c := b.contains c) ?_ (fun hh => ?_) fun hh => ?_)
    · rw [← any_bS]
      refine tst_cmp (ev_lastc (l := p) (by rw [← hpc]; exact ev_name rfl rfl) ev_m1 (by omega)) (ev_name rfl rfl) op_in_strs rfl
    · rw [if_pos hh]
      refine exs_cons (ex_assign (ev_cutG (ev_name rfl rfl) (ev_name rfl rfl) ev_int (by rw [hpc]; simp) (by omega) rfl rfl rfl) (.inl rfl) rfl (then_next (exs_nil (then_next (exs_nil ?_)))))
      exact sub_cons rfl (sub_cons rfl (sub_cons rfl sub_nil))
    · rw [if_neg (by rw [hh]; decide)]
      exact exs_nil (then_next (exs_nil (sub_cons rfl (sub_cons rfl (sub_cons rfl sub_nil)))))
  · intro ρ' hsub
    have hlenE : (txs ((eL q).map T)).length = (eL q).length := by simp
    rw [hlenE, List.take_length] at hsub
    refine then_next (exs_weaken hsub ?_)
    have hfo := foldE_le b (eL q) l
    rw [cutE_all] at hfo ⊢
    unfold due09
    generalize dueCut b q l = x at hfo
    have hcr : ("\r" : Str) = T [13] := by decide +kernel
    have hcrlf : ("\r\n" : Str) = T [13, 10] := by decide +kernel
    have hlf : ("\n" : Str) = T [10] := by decide +kernel
    have hnl : (dueNorm b x).length ≤ 4000 := by
      unfold dueNorm
      split
      · have s1 := splitG_sum (p := [13, 10]) (by simp) x.length x (Nat.le_refl _)
        have key : ∀ (ps : List (List Nat)), (((ps.flatMap (splitG [13])).intersperse [10]).flatten).length ≤ 2 * (ps.map List.length).sum + ps.length := by
          have inner : ∀ (ys : List (List Nat)), ((ys.intersperse [10]).flatten).length ≤ (ys.map List.length).sum + ys.length := by
            intro ys
            induction ys with
            | nil => simp
            | cons y r ih => cases r with
              | nil => simp
              | cons z r => simp [List.intersperse] at ih ⊢; omega
          intro ps
          refine Nat.le_trans (inner _) ?_
          induction ps with
          | nil => simp
          | cons p r ih =>
            have s2 := splitG_sum (p := [13]) (by simp) p.length p (Nat.le_refl _)
            rw [List.flatMap_cons, List.map_append, List.sum_append, List.length_append, List.map_cons, List.sum_cons, List.length_cons]
            omega
        have := key (splitG [13, 10] x)
        omega
      · omega
    refine exs_if_join [("text", .val (.str (T (dueNorm b x)))), ("bare", .val (.list (txs (bS b)))), ("quoted", .val (.bool q))] (c := b.contains 13) ?_ ?_ (fun hh => ?_) fun hh => ?_
    · rw [← any_bS]
      exact tst_cmp (by rw [← T_one, ← hcr]; exact ev_str) (ev_name rfl rfl) op_in_strs rfl
    · generalize dueNorm b x = y at hnl
      refine exs_if_join [("text", .val (.str (T (sp09 b q y))))] (c := q) (tst_bool (ev_name rfl rfl) fun _ => rfl) ?_ (fun hq => ?_) fun hq => ?_
      · exact exs_cons (ex_return (ev_name rfl rfl) rfl)
      · subst hq
        have hyl : (sp09 b true y).length = y.length := by simp [sp09]
        refine exs_cons (ex_assign (d := .str (T (sp09 b true y))) ?_ (.inl rfl) rfl (then_next (exs_nil (sub_cons rfl sub_nil))))
        rw [← join_ones (sp09 b true y)]
        refine ev_meth (ds := [.list (txs ((sp09 b true y).map fun c => T [c]))]) ev_str (evs_more ?_ evs_nil rfl) (getm_str F.slot_str_join F.type_str_join) (bf_join (joinOk_of (m := 1) (fun z hz => ?_) ?_)) rfl rfl (by decide) rfl
        · refine ev_listcomp (ρc := [("bare", .val (.list (txs (bS b))))]) (cl := [("bare", _)]) (d := .str (T y)) (ds := y.map fun c => .str ⟨#[c]⟩) ⟨rfl, by decide, by decide, rfl, cells_cons rfl cells_nil, cap_cons rfl rfl rfl rfl cap_nil⟩ rfl (fun _ => rfl) (ev_name rfl rfl) itr_str ?_ ?_
          · intro C
            rw [sp_flat]
            refine comp1 (xs := y) (mk := fun c => D.str ⟨#[c]⟩) (F := fun c => [D.str ⟨#[if ((c == 10 || c == 9) && b.contains c) = true then 32 else c]⟩]) fun c _ => ⟨_, true, asg_name (.inl rfl), sub_upd rfl, tsts_nil, (fun h => nomatch h), fun _ => ⟨_, ?_, rfl⟩⟩
            have hany : ((["\n", "\t"] : List Str).any (· == ⟨#[c]⟩)) = (c == 10 || c == 9) := by
              have : (["\n", "\t"] : List Str) = bS [10, 9] := by decide +kernel
              rw [this, any_bS]
              show (c == 10 || (c == 9 || false)) = _
              rw [Bool.or_false]
            refine ev_if_same (c := (c == 10 || c == 9) && (b.contains c && true)) (tst_and ?_ fun _ => tst_and ?_ fun _ => tst_and_nil) (fun hh => ?_) fun hh => ?_
            · rw [← hany]
              refine tst_cmp (ev_name rfl rfl) (ev_list (evs_more ev_str (evs_more ev_str evs_nil rfl) rfl) (by show 2 ≤ sizeLine; decide)) (op_in_strs (xs := ["\n", "\t"])) rfl
            · rw [← any_bS]
              exact tst_cmp (ev_name rfl rfl) (ev_name rfl rfl) op_in_strs rfl
            · rw [Bool.and_true] at hh
              rw [if_pos hh]; exact ev_str
            · rw [Bool.and_true] at hh
              rw [if_neg (by rw [hh]; decide)]; exact ev_name rfl rfl
          · rw [List.length_map, List.length_map]; omega
        · obtain ⟨c, _, rfl⟩ := List.mem_map.mp hz
          exact Nat.le_refl _
        · rw [List.length_map]
          show _ * (1 + 0) ≤ _
          omega
      · subst hq
        exact exs_nil (sub_cons rfl sub_nil)
    · have s1 := splitG_sum (p := [13, 10]) (by simp) x.length x (Nat.le_refl _)
      refine exs_cons (ex_assign (d := .str (T (dueNorm b x))) ?_ (.inl rfl) rfl (then_next (exs_nil (sub_cons rfl (sub_cons rfl (sub_cons rfl sub_nil))))))
      have hmem : ∀ p ∈ splitG [13, 10] x, p.length ≤ 1000 := fun p hp => by
        have : p.length ≤ ((splitG [13, 10] x).map List.length).sum := by
          clear s1
          generalize splitG [13, 10] x = ps at hp
          induction ps with
          | nil => cases hp
          | cons a r ih =>
            rw [List.map_cons, List.sum_cons]
            rcases List.mem_cons.mp hp with rfl | hp
            · omega
            · have := ih hp; omega
        omega
      have hsum : ((((splitG [13, 10] x).flatMap (splitG [13])).map List.length).sum) + ((splitG [13, 10] x).flatMap (splitG [13])).length ≤ 3 * (x.length + 1) + x.length := by
        have key : ∀ (ps : List (List Nat)), (((ps.flatMap (splitG [13])).map List.length).sum) + (ps.flatMap (splitG [13])).length ≤ 2 * (ps.map List.length).sum + ps.length := by
          intro ps
          induction ps with
          | nil => simp
          | cons p r ih =>
            have s2 := splitG_sum (p := [13]) (by simp) p.length p (Nat.le_refl _)
            rw [List.flatMap_cons, List.map_append, List.sum_append, List.length_append, List.map_cons, List.sum_cons, List.length_cons]
            omega
        have := key (splitG [13, 10] x)
        omega
      have ej : Txt.join (T [10]) (((splitG [13, 10] x).flatMap (splitG [13])).map T) = T (dueNorm b x) := by
        unfold Txt.join dueNorm
        rw [StrLaws.glued_eq_join, if_pos hh]
        exact join_list [10] _
      rw [← ej, ← hlf]
      refine ev_meth (ds := [.list (txs (((splitG [13, 10] x).flatMap (splitG [13])).map T))]) ev_str (evs_more ?_ evs_nil rfl) (getm_str F.slot_str_join F.type_str_join) (bf_join (joinOk_sum ?_)) rfl rfl (by decide) rfl
      · have hsp : Txt.split (T x) "\r\n" = (splitG [13, 10] x).map T := by rw [hcrlf]; exact split_T x [13, 10] (by simp)
        refine ev_listcomp (ρc := []) (cl := []) (d := .list (txs ((splitG [13, 10] x).map T))) (ds := (splitG [13, 10] x).map fun p => D.str (T p)) ⟨rfl, by decide, by decide, rfl, cells_nil, cap_nil⟩ rfl (fun _ => rfl) ?_ ?_ ?_ ?_
        · rw [← hsp]
          exact ev_meth (ds := [.str "\r\n"]) (ev_name rfl rfl) (evs_more ev_str evs_nil rfl) (getm_str F.slot_str_split F.type_str_split) (bf_split (by decide +kernel) (by rw [T_length]; omega)) rfl rfl (by decide) rfl
        · have := itr_list (G := G) (ds := txs ((splitG [13, 10] x).map T))
          rw [txs, List.map_map] at this
          rw [txs, List.map_map]
          exact this
        · intro C
          have e : txs (((splitG [13, 10] x).flatMap (splitG [13])).map T) = (splitG [13, 10] x).flatMap fun p => (splitG [13] p).flatMap fun z => [D.str (T z)] := by
            rw [txs, List.map_map, List.map_flatMap]
            congr 1
            funext p
            rw [map_one]; rfl
          rw [e]
          refine comp2a (fun _ => rfl) fun p hp => ⟨_, true, asg_name (.inl rfl), sub_nil, tsts_nil, (fun h => nomatch h), fun _ => ⟨.list (txs ((splitG [13] p).map T)), (splitG [13] p).map fun z => D.str (T z), ?_, ?_, ?_⟩⟩
          · have hsp2 : Txt.split (T p) "\r" = (splitG [13] p).map T := by rw [hcr]; exact split_T p [13] (by simp)
            rw [← hsp2]
            exact ev_meth (ds := [.str "\r"]) (ev_name rfl rfl) (evs_more ev_str evs_nil rfl) (getm_str F.slot_str_split F.type_str_split) (bf_split (by decide +kernel) (by rw [T_length]; have := hmem p hp; omega)) rfl rfl (by decide) rfl
          · have := itr_list (G := G) (ds := txs ((splitG [13] p).map T))
            rw [txs, List.map_map] at this
            rw [txs, List.map_map]
            exact this
          · exact comp2b (xs := splitG [13] p) (mk := fun z => D.str (T z)) (F := fun z => [D.str (T z)]) fun z _ => ⟨_, true, asg_name (.inl rfl), sub_upd rfl, tsts_nil, (fun h => nomatch h), fun _ => ⟨_, ev_name rfl rfl, rfl⟩⟩
        · rw [List.length_map, List.length_map]; omega
      · rw [List.map_map, List.length_map]
        have e : ((fun x : Str => x.length) ∘ T) = List.length := by funext z; exact T_length z
        rw [e, show ("\n" : Str).length = 1 from by decide +kernel]
        omega
    · have : dueNorm b x = x := by unfold dueNorm; rw [if_neg (by rw [hh]; decide)]
      rw [this]
      exact exs_nil (sub_cons rfl (sub_cons rfl (sub_cons rfl sub_nil)))
  · intro x; rfl
end
end Mine
end
section
open PySem PySem.W PyProof.Rows
set_option linter.unusedVariables false
set_option maxRecDepth 100000
namespace Mine
local macro_rules | `(tactic| walk_at "ev1") => `(tactic| first
  | exact ev_int | exact ev_str | exact ev_bool | exact ev_none
  | exact ev_name rfl rfl
  | exact evs_nil
  | (apply evs_more; (case hs => exact rfl))
  | apply ev_binop | (apply ev_cmp; (case hm => exact rfl)) | apply ev_sub
  | apply ev_list | apply ev_tuple
  | (apply tst_cmp; (case hm => exact rfl)) | apply tst_not | exact tst_and_nil | exact tst_or_nil
  | exact op_add_int | exact op_sub_int | exact op_iadd_int | exact op_eq_int | exact op_ne_int | exact op_lt_int | exact op_gt_int | exact op_le_int | exact op_ge_int
  | exact op_eq_str | exact op_ne_str | exact op_in_str | exact op_notin_str | exact op_in_dict | exact op_notin_dict | exact op_ne_nil | exact op_eq_nil
  | exact op_fdiv_int (by decide) (PyProof.noPylong_of_log2 (by decide +kernel)) | exact op_mod_int (by decide)
  | apply op_add_str | apply op_iadd_str
  | exact tsts_nil | apply tsts_one)
local macro_rules | `(tactic| walk_at "ev") => `(tactic| repeat' walk_at "ev1")
local macro_rules | `(tactic| walk_at "can") => `(tactic| first | exact Or.inl rfl | exact Or.inr ⟨rfl, rfl, _, rfl⟩)
local macro_rules | `(tactic| walk_at "as") => `(tactic| (refine exs_cons ?_; apply ex_assign; (case hc => walk_at "can"); (case hs => exact rfl); (case' k => refine then_next ?_); (case' h => walk_at "ev")))
local macro_rules | `(tactic| walk_at "aug") => `(tactic| (refine exs_cons ?_; apply ex_aug; (case h₀ => exact rfl); (case hc => walk_at "can"); (case' k => refine then_next ?_); (case' ho => skip); (case' h => walk_at "ev"); (try walk_at "ev")))
local macro_rules | `(tactic| walk_at "if") => `(tactic| (refine exs_cons ?_; apply ex_if; (case' h => walk_at "ev")))
local macro_rules | `(tactic| walk_at "ret") => `(tactic| (refine exs_cons ?_; apply ex_return; (case' h => walk_at "ev")))
local macro_rules | `(tactic| walk_at "params") => `(tactic| (intro x hx; simp only [List.mem_cons, List.not_mem_nil, or_false] at hx; first
  | (subst hx; first | exact .inl rfl | exact .inr ⟨rfl, fun _ => rfl⟩)
  | (rcases hx with hx | hx <;> subst hx <;> first | exact .inl rfl | exact .inr ⟨rfl, fun _ => rfl⟩)
  | (rcases hx with hx | hx | hx <;> subst hx <;> first | exact .inl rfl | exact .inr ⟨rfl, fun _ => rfl⟩)))
local macro_rules | `(tactic| walk_at "esc") => `(tactic| (refine esc_step rfl (by decide +kernel : _ = (⟨#[_]⟩ : Str)) ?_ ?_ ?_ ?_ (by assumption) rfl (by walk_at "can") rfl ?_))

section
variable {G : Gnd} {n : Nat} {doc pm cdv ct : Value} {a : Addr}
set_option maxHeartbeats 4000000
def bC : List Nat := [34, 13, 10, 9]
def bH : List Nat := [60, 13, 10, 9]
def bCC : List Nat := [34, 10, 9]
def bAC : List Nat := [62]
structure W09 (t : Tbl) (b : List Nat) : Prop where
  wb : WB t b
  kn : knownT t = true
  se : semis t = true
  ex : b.contains 60 = true → b.contains 62 = true → False
  bl : b.length ≤ 7
theorem w09_of {t : Tbl} {b : List Nat} (h1 : pcode t = true) (h2 : (t.all fun p => S7.contains p.1) = true) (h3 : (b.all fun c => S7.contains c && (t.lookup c).isNone) = true) (h4 : (S7.all fun c => (t.lookup c).isSome || b.contains c) = true) (h5 : (!b.contains 13 || b.contains 10) = true)
    (h6 : knownT t = true) (h7 : semis t = true) (h8 : (b.contains 60 && b.contains 62) = false) (h9 : decide (b.length ≤ 7) = true) : W09 t b :=
  ⟨wb_of h1 h2 h3 h4 h5, h6, h7, (fun a c => by rw [a, c] at h8; cases h8), of_decide_eq_true h9⟩
theorem bare_flat' {t : Tbl} {b : List Nat} (h : WB t b) (l : List Nat) : txs ((bare08 t l).map fun c => T [c]) = l.flatMap fun c => if (b.contains c || (!(signs09.any (· == (⟨#[c]⟩ : Str))) || false)) = true then [D.str ⟨#[c]⟩] else [] := by
  have hs : signs09 = bS S7 := by decide +kernel
  induction l with
  | nil => rfl
  | cons c r ih =>
    rw [List.flatMap_cons, ← ih]
    unfold bare08
    rw [List.filter_cons]
    have e : (b.contains c || (!(signs09.any (· == (⟨#[c]⟩ : Str))) || false)) = (t.lookup c).isNone := by
      rw [hs, any_bS, Bool.or_false]
      cases hk : t.lookup c with
      | none =>
        by_cases h7 : c ∈ S7
        · have := (h.bare c).mpr ⟨h7, hk⟩
          simp [this]
        · simp [h7]
      | some z =>
        have h7 := h.keys c (by rw [hk]; rfl)
        have hnb : c ∉ b := fun q => by have := ((h.bare c).mp q).2; rw [hk] at this; cases this
        simp [h7, hnb]
    rw [e]
    split
    · rfl
    · rfl
theorem fn_law (dA : DefAt G a (fdOf (stOf pw 11) doc pm cdv ct) (bodyOf (stOf pw 11))) {at₀ ar ad a0 a1 a2 a3 a4 : Addr}
    (hr : nsIn G.K mainGlobals "range" = some none)
    (gt : nsIn G.K mainGlobals "_law_text" = some (some (.ref at₀))) (kt : keepIn G.K (.ref at₀) = true) (ft : ∀ ns : List Int, ns.length ≤ 63 → ns ≠ [] → Fn G (n + 2) at₀ [.list (ns.map .int)] (.str (T (text09 ns))))
    (gr : nsIn G.K mainGlobals "_law_read" = some (some (.ref ar))) (kr : keepIn G.K (.ref ar) = true) (fr : ∀ (t : Tbl) (b : List Nat), WB t b → knownT t = true → ∀ (q : Bool) (l : List Nat), l.length ≤ 1000 → (escBy t l).length ≤ 8000 → Fn G (n + 2) ar [.str (T (escBy t l)), .bool q] (.str (T (rd09 t b q false l))))
    (gd : nsIn G.K mainGlobals "_law_due" = some (some (.ref ad))) (kd : keepIn G.K (.ref ad) = true) (fd : ∀ (b : List Nat), b.length ≤ 7 → ∀ (q : Bool) (l : List Nat), l.length ≤ 1000 → Fn G (n + 2) ad [.str (T l), .list (txs (bS b)), .bool q] (.str (T (due09 b q l))))
    (g0 : nsIn G.K mainGlobals "_escape_cdata" = some (some (.ref a0))) (g1 : nsIn G.K mainGlobals "_escape_attrib" = some (some (.ref a1))) (g2 : nsIn G.K mainGlobals "_escape_attrib_html" = some (some (.ref a2)))
    (g3 : nsIn G.K mainGlobals "_escape_cdata_c14n" = some (some (.ref a3))) (g4 : nsIn G.K mainGlobals "_escape_attrib_c14n" = some (some (.ref a4)))
    (hH : ∀ h ∈ [(a0, cdataT, bC), (a1, attribT, []), (a2, htmlT, bH), (a3, cdataCT, bCC), (a4, attribCT, bAC)], keepIn G.K (.ref h.1) = true ∧ ∀ l : List Nat, l.length ≤ 100000 → Fn G (n + 2) h.1 [.str (T l)] (.str (T (escBy h.2.1 l))))
    (ns : List Int) (hn : ns.length ≤ 63) : Fn G (n + 3) a [.list (ns.map .int)] (.bool true) := by
  refine fn_of (xs := ["script"]) dA (fun vs h => ?_) rfl ?_ (by decide) fun L => ?_
  · match vs, h with
    | [v], _ => rfl
  · walk_at "params"
  have big : 100000 ≤ sizeLine := by decide
  obtain ⟨sc, hsc, hne, hle⟩ : ∃ sc : List Int, sc = (if ns.isEmpty then (List.range 20).map (fun (k : Nat) => 2 * (k : Int)) else ns) ∧ sc ≠ [] ∧ sc.length ≤ 63 := by
    refine ⟨_, rfl, ?_, ?_⟩
    · cases ns with
      | nil => decide
      | cons x r => simp
    · cases ns with
      | nil => decide
      | cons x r => exact hn
  refine exs_if_join [("script", .val (.list (sc.map .int)))] (c := (ns.map D.int).isEmpty) ?_ ?_ ?_ ?_
  · walk_at "ev"
    decide
  · have hW := text09_le sc
    refine exs_cons (ex_assign (ev_call (ev_glob gt rfl rfl) (evs_more (ev_name rfl rfl) evs_nil rfl) kt (ft sc hle hne) rfl rfl) (.inl rfl) rfl (then_next ?_))
    generalize text09 sc = W at hW
    have hW9 : ∀ h ∈ [(a0, cdataT, bC), (a1, attribT, []), (a2, htmlT, bH), (a3, cdataCT, bCC), (a4, attribCT, bAC)], W09 h.2.1 h.2.2 ∧ h.2.1.all (fun p => decide (p.2.length ≤ 8)) = true := by
      intro h hm
      simp only [List.mem_cons, List.not_mem_nil, or_false] at hm
      rcases hm with hm | hm | hm | hm | hm <;> subst hm <;> dsimp only <;> exact ⟨w09_of (by decide +kernel) (by decide +kernel) (by decide +kernel) (by decide +kernel) (by decide +kernel) (by decide +kernel) (by decide +kernel) (by decide +kernel) (by decide +kernel), by decide +kernel⟩
    refine exs_weaken (ρ := [("text", .val (.str (T W)))]) (sub_cons rfl sub_nil) ?_
    refine exs_cons ?_
    apply ex_forI (fun _ => [("text", .val (.str (T W)))]) (d := .list ([(a0, cdataT, bC), (a1, attribT, []), (a2, htmlT, bH), (a3, cdataCT, bCC), (a4, attribCT, bAC)].map fun h => .tup [.fn h.1, .list (txs (bS h.2.2))]))
    · show Ev _ _ _ _ _ (.list [.tup [.fn a0, .list (txs (bS bC))], .tup [.fn a1, .list (txs (bS []))], .tup [.fn a2, .list (txs (bS bH))], .tup [.fn a3, .list (txs (bS bCC))], .tup [.fn a4, .list (txs (bS bAC))]])
      rw [show bS bC = (["\"", "\r", "\n", "\t"] : List Str) from by decide +kernel, show bS bH = (["<", "\r", "\n", "\t"] : List Str) from by decide +kernel, show bS bCC = (["\"", "\n", "\t"] : List Str) from by decide +kernel, show bS bAC = ([">"] : List Str) from by decide +kernel, show bS [] = [] from rfl]
      refine ev_list (evs_more (ev_tuple (evs_more (ev_glob g0 rfl rfl) (evs_more ?_ evs_nil rfl) rfl) (by show 2 ≤ sizeLine; decide)) (evs_more (ev_tuple (evs_more (ev_glob g1 rfl rfl) (evs_more ?_ evs_nil rfl) rfl) (by show 2 ≤ sizeLine; decide))
        (evs_more (ev_tuple (evs_more (ev_glob g2 rfl rfl) (evs_more ?_ evs_nil rfl) rfl) (by show 2 ≤ sizeLine; decide)) (evs_more (ev_tuple (evs_more (ev_glob g3 rfl rfl) (evs_more ?_ evs_nil rfl) rfl) (by show 2 ≤ sizeLine; decide))
        (evs_more (ev_tuple (evs_more (ev_glob g4 rfl rfl) (evs_more ?_ evs_nil rfl) rfl) (by show 2 ≤ sizeLine; decide)) evs_nil rfl) rfl) rfl) rfl) rfl) (by show 5 ≤ sizeLine; decide)
      all_goals (walk_at "ev"; try decide)
    · exact itr_list
    · exact Sub.same
    · intro i d hd
      obtain ⟨⟨ae, tb, b⟩, hm, rfl⟩ := at_map hd
      have hmem := List.mem_of_getElem? hm
      obtain ⟨ke, fe⟩ := hH _ hmem
      obtain ⟨h9, h8⟩ := hW9 _ hmem
      dsimp only at ke fe h9 h8 ⊢
      have hWl := esc_le (m := 8) (by decide) h8 W
      refine ⟨_, asg_tuple (asgs_cons (asg_name (by walk_at "can")) (asgs_cons (asg_name (by walk_at "can")) asgs_nil rfl) rfl), ?_⟩
      refine exs_cons (ex_assign (ev_call (ev_name rfl rfl) (evs_more (ev_name rfl rfl) evs_nil rfl) ke (fe W (by omega)) rfl rfl) (.inl rfl) rfl (then_next ?_))
      refine exs_cons ?_
      apply ex_forI (fun _ => [("text", .val (.str (T W))), ("bare", .val (.list (txs (bS b)))), ("row", .val (.str (T (escBy tb W))))]) (d := .list ([false, true].map .bool))
      · walk_at "ev"
        decide
      · exact itr_list
      · exact sub_cons rfl (sub_cons rfl (sub_cons rfl sub_nil))
      · intro j d hd
        obtain ⟨q, _, rfl⟩ := at_map hd
        refine ⟨_, asg_name (.inl rfl), ?_⟩
        have hdue := fd b h9.bl q W (by omega)
        rw [due_rd h9.wb h9.ex] at hdue
        refine exs_cons (ex_if (c := T (rd09 tb b q false W) != T (rd09 tb b q false W)) (tst_cmp (ev_call (ev_glob gr rfl rfl) (evs_more (ev_name rfl rfl) (evs_more (ev_name rfl rfl) evs_nil rfl) rfl) kr (fr tb b h9.wb h9.kn q W (by omega) (by omega)) rfl rfl) (ev_call (ev_glob gd rfl rfl) (evs_more (ev_name rfl rfl) (evs_more (ev_name rfl rfl) (evs_more (ev_name rfl rfl) evs_nil rfl) rfl) rfl) kd hdue rfl rfl) op_ne_str rfl) (fun h => by simp at h) fun _ => exs_nil (then_next (exs_nil ?_)))
        exact sub_cons rfl (sub_cons rfl (sub_cons rfl sub_nil))
      · intro ρ' hsub
        refine then_next (exs_weaken hsub ?_)
        have hst := splitG_sum (p := [38]) (by simp) (escBy tb W).length (escBy tb W) (Nat.le_refl _)
        have hsp : Txt.split (T (escBy tb W)) "&" = (splitG [38] (escBy tb W)).map T := by rw [show ("&" : Str) = T [38] from by decide +kernel]; exact split_T _ [38] (by simp)
        have hpl := plain09 h9.wb.pc h9.se W
        refine exs_cons (ex_assign (d := .list (txs ((splitG [38] (escBy tb W)).map T))) ?_ (.inl rfl) rfl (then_next ?_))
        · rw [← hsp]
          exact ev_meth (ds := [.str "&"]) (ev_name rfl rfl) (evs_more ev_str evs_nil rfl) (getm_str F.slot_str_split F.type_str_split) (bf_split (by decide +kernel) (by rw [T_length]; omega)) rfl rfl (by decide) rfl
        obtain ⟨p0, r, hpr⟩ := splitG_ne [38] (escBy tb W) (by simp)
        rw [hpr] at hst hpl ⊢
        rw [List.map_cons, List.sum_cons, List.length_cons] at hst
        have hmem' : ∀ p ∈ r, p.length ≤ 8000 := fun p hp => by
          have : p.length ≤ (r.map List.length).sum := by
            clear hst hpl hpr
            induction r with
            | nil => cases hp
            | cons a r ih =>
              rw [List.map_cons, List.sum_cons]
              rcases List.mem_cons.mp hp with rfl | hp
              · omega
              · have := ih hp; omega
          omega
        have hbeh : ((r.map (behG [59])).map List.length).sum ≤ (r.map List.length).sum := by
          clear hst hpl hpr hmem'
          induction r with
          | nil => simp
          | cons a r ih =>
            simp only [List.map_cons, List.sum_cons]
            have := behG_le [59] a
            omega
        have hfl : (r.map (behG [59])).flatten.length ≤ (r.map List.length).sum := by rw [List.length_flatten]; exact hbeh
        refine exs_cons (ex_assign (d := .str (T (bare08 tb W))) ?_ (.inl rfl) rfl (then_next ?_))
        · rw [← hpl]
          show Ev _ _ _ _ _ (.str (T (p0 ++ (r.map (behG [59])).flatten)))
          refine ev_cat (ev_sub (ev_name rfl rfl) ev_int (sb_list (by decide) (by decide) rfl)) ?_ (by omega)
          rw [← join_flatT]
          refine ev_meth (ds := [.list (txs ((r.map (behG [59])).map T))]) ev_str (evs_more ?_ evs_nil rfl) (getm_str F.slot_str_join F.type_str_join) (bf_join (joinOk_sum ?_)) rfl rfl (by decide) rfl
          · refine ev_listcomp (ρc := []) (cl := []) (d := .list (txs (r.map T))) (ds := r.map fun p => D.str (T p)) ⟨rfl, by decide, by decide, rfl, cells_nil, cap_nil⟩ rfl (fun _ => rfl) ?_ ?_ ?_ ?_
            · refine ev_sub (ev_name rfl rfl) (ev_slice (lo := some 1) (hi := none) ev_int trivial) ?_
              exact sb_from (ds := txs ((p0 :: r).map T)) (a := 1) (by simp) (by simp; omega)
            · have := itr_list (G := G) (ds := txs (r.map T))
              rw [txs, List.map_map] at this
              rw [txs, List.map_map]
              exact this
            · intro C
              have e : txs ((r.map (behG [59])).map T) = r.flatMap fun p => [D.str (T (behG [59] p))] := by rw [txs, List.map_map, List.map_map, map_one]; rfl
              rw [e]
              refine comp1 (xs := r) (mk := fun p => D.str (T p)) (F := fun p => [D.str (T (behG [59] p))]) fun p hp => ⟨_, true, asg_name (.inl rfl), sub_nil, tsts_nil, (fun h => nomatch h), fun _ => ⟨_, ?_, rfl⟩⟩
              have := hmem' p hp
              refine ev_behG (ev_name rfl rfl) ?_ ev_int (by simp) (by omega) rfl rfl rfl
              rw [show T [59] = ";" from by decide +kernel]
              exact ev_str
            · rw [List.length_map, List.length_map, List.length_map]; omega
          · rw [List.map_map, List.length_map, List.length_map]
            have e : ((fun x : Str => x.length) ∘ T) = List.length := by funext z; exact T_length z
            rw [e]
            show _ + _ * 0 ≤ _
            omega
        have hbl := bare_le tb W
        refine exs_cons (ex_if (c := T (bare08 tb W) != T (bare08 tb W)) (tst_cmp (ev_name rfl rfl) ?_ op_ne_str rfl) (fun h => by simp at h) fun _ => exs_nil (then_next (exs_nil ?_)))
        · conv => arg 6; rw [← join_ones (bare08 tb W)]
          refine ev_meth (ds := [.list (txs ((bare08 tb W).map fun c => T [c]))]) ev_str (evs_more ?_ evs_nil rfl) (getm_str F.slot_str_join F.type_str_join) (bf_join (joinOk_of (m := 1) (fun x hx => ?_) ?_)) rfl rfl (by decide) rfl
          · refine ev_listcomp (ρc := [("bare", .val (.list (txs (bS b))))]) (cl := [("bare", _)]) (d := .str (T W)) (ds := W.map fun c => .str ⟨#[c]⟩) ⟨rfl, by decide, by decide, rfl, cells_cons rfl cells_nil, cap_cons rfl rfl rfl rfl cap_nil⟩ rfl (fun _ => rfl) (ev_name rfl rfl) itr_str ?_ ?_
            · intro C
              rw [bare_flat' h9.wb]
              refine comp1 (xs := W) (mk := fun c => D.str ⟨#[c]⟩) (F := fun c => if (b.contains c || (!(signs09.any (· == (⟨#[c]⟩ : Str))) || false)) = true then [D.str ⟨#[c]⟩] else []) fun c _ => ⟨_, b.contains c || (!(signs09.any (· == (⟨#[c]⟩ : Str))) || false), asg_name (.inl rfl), sub_upd rfl, tsts_one (tst_or ?_ fun _ => tst_or (tst_cmp (ev_name rfl rfl) ?_ (op_notin_strs (xs := signs09)) rfl) fun _ => tst_or_nil), (fun h => if_neg (by rw [h]; decide)), fun h => ⟨_, ev_name rfl rfl, if_pos h⟩⟩
              · rw [← any_bS]
                exact tst_cmp (ev_name rfl rfl) (ev_name rfl rfl) op_in_strs rfl
              · walk_at "ev"
                decide
            · rw [List.length_map, List.length_map]; omega
          · obtain ⟨c, _, rfl⟩ := List.mem_map.mp hx
            exact Nat.le_refl _
          · rw [List.length_map]
            show _ * (1 + 0) ≤ _
            omega
        · exact sub_cons rfl sub_nil
      · intro x; rfl
    · intro ρ' hsub
      refine then_next ?_
      walk_at "ret"
      rfl
    · intro x; rfl
  · intro h
    rw [List.isEmpty_map] at h
    rw [hsc, if_pos h]
    refine exs_cons (ex_assign_comp (ρc := []) (cl := []) (d := .rng 0 20) (ds := (List.range 20).map fun (k : Nat) => D.int (k : Int)) (out := ((List.range 20).map fun (k : Nat) => 2 * (k : Int)).map .int) ⟨rfl, by decide, by decide, rfl, cells_nil, cap_nil⟩ rfl (fun _ => rfl) rfl (ev_bt (evs_more ev_int evs_nil rfl) bt_range1 hr rfl rfl rfl rfl) (itr_range rfl (by decide) (by decide)) ?_ (by simp; omega) (.inl rfl) (then_next (exs_nil ?_)))
    · intro C
      rw [List.map_map, map_one]
      exact comp1 (xs := List.range 20) (mk := fun (k : Nat) => D.int (k : Int)) fun k _ => ⟨_, true, asg_name (.inl rfl), sub_nil, tsts_nil, (fun h => nomatch h), fun _ => ⟨_, ev_binop ev_int (ev_name rfl rfl) (op_mul_int (mulOk_small_int (by decide +kernel))), rfl⟩⟩
    · exact sub_cons rfl sub_nil
  · intro h
    rw [List.isEmpty_map] at h
    rw [hsc, if_neg (by rw [h]; decide)]
    exact exs_nil (sub_cons rfl sub_nil)
end
end Mine
end
open PySem PySem.W PySem.W.X PySem.W.ZRun PyProof.Rows
set_option maxRecDepth 100000
set_option maxHeartbeats 0
theorem PySem.Challenge.cw_dn0275_09_holds : PySem.Challenge.rw_dn0275_09.Holds := by
  w_on; o_law; z_head
  (case hw => w_witness2)
  k_fill
  intro w s₀ s₁ mg mb G y fa o pm cd doc dV kV ho hd hcd hD hmg hg args vals as L hpre hlay hrd hwl hlo
  z_open y L KX ZH ZN ZT
  refine Ground.open G ?_
  intro T B D TE TW
  wrow_args hpre hlay hrd hwl hlo
  obtain ⟨hat, hsz⟩ := script_at L
  have htk := script_toks L ZT
  rw [ZN] at hat hsz
  subst hat
  x_fa T KX hmg
  all_lens
  clear hcd hd hD ho
  refine Mine.finish (n := 3) (p := _) KX (topRead_of T) rfl hg (Nat.lt_of_lt_of_le (by decide) htk) (script_obj L (by assumption)) (by assumption) (fun _ => rfl) ?_ (by decide) fun nb => ?_
  · wrow_post
  refine Mine.fn_law (n := 0) (doc := _) (pm := _) (cdv := _) (ct := _) ⟨⟨_, rfl, rfl⟩, rfl, rfl, rfl, rfl, rfl, rfl, rfl, rfl⟩ rfl
    rfl rfl (fun ns hn hne => Mine.fn_text (doc := _) (pm := _) (cdv := _) (ct := _) ⟨⟨_, rfl, rfl⟩, rfl, rfl, rfl, rfl, rfl, rfl, rfl, rfl⟩ rfl rfl rfl ns hn hne)
    rfl rfl (fun t b h hkn q l hl hrow => Mine.fn_read (doc := _) (pm := _) (cdv := _) (ct := _) ⟨⟨_, rfl, rfl⟩, rfl, rfl, rfl, rfl, rfl, rfl, rfl, rfl⟩ rfl rfl rfl t b h hkn q l hl hrow)
    rfl rfl (fun b hb q l hl => Mine.fn_due (doc := _) (pm := _) (cdv := _) (ct := _) ⟨⟨_, rfl, rfl⟩, rfl, rfl, rfl, rfl, rfl, rfl, rfl, rfl⟩ b hb q l hl)
    rfl rfl rfl rfl rfl
    ?_ _ (by omega)
  intro h hm
  simp only [List.mem_cons, List.not_mem_nil, or_false] at hm
  rcases hm with hm | hm | hm | hm | hm <;> subst hm
  · exact ⟨rfl, Mine.fn_cdata (doc := _) (pm := _) (cdv := _) (ct := _) ⟨⟨_, rfl, rfl⟩, rfl, rfl, rfl, rfl, rfl, rfl, rfl, rfl⟩⟩
  · exact ⟨rfl, Mine.fn_attrib (doc := _) (pm := _) (cdv := _) (ct := _) ⟨⟨_, rfl, rfl⟩, rfl, rfl, rfl, rfl, rfl, rfl, rfl, rfl⟩⟩
  · exact ⟨rfl, Mine.fn_html (doc := _) (pm := _) (cdv := _) (ct := _) ⟨⟨_, rfl, rfl⟩, rfl, rfl, rfl, rfl, rfl, rfl, rfl, rfl⟩⟩
  · exact ⟨rfl, Mine.fn_cdataC (doc := _) (pm := _) (cdv := _) (ct := _) ⟨⟨_, rfl, rfl⟩, rfl, rfl, rfl, rfl, rfl, rfl, rfl, rfl⟩⟩
  · exact ⟨rfl, Mine.fn_attribC (doc := _) (pm := _) (cdv := _) (ct := _) ⟨⟨_, rfl, rfl⟩, rfl, rfl, rfl, rfl, rfl, rfl, rfl, rfl⟩⟩
