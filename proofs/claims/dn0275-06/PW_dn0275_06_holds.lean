import PyProof.Rows.All
import Wide.All
import OpenK.AllK
import Wide.FinOn
import PySem.Challenge.RW_dn0275_06
set_option Elab.async false
section
open PySem PySem.W PyProof.Rows
namespace Mine

/-- plain Python data -/
inductive D where
  | none
  | bool (b : Bool)
  | int (i : Int)
  | str (x : Str)
  | list (ds : List D)
  | tup (ds : List D)
  | dict (ks : List Str) (ds : List D)
  | fn (a : Addr)
  | rng (a b : Int)
  | slc (lo hi : Option Int)
  | bytes (b : Array UInt8)
  | fstr (x : Str)
  | ostr (x : Str)

abbrev Zf := Addr → Option Obj

/-- what is fixed while the law runs -/
structure Gnd where
  prog : Program
  w : World
  K : Frag
  p : Program
  loose : List Str
  mg : Str → Option Value
  mb : Str → Option Value
  base : Heap
  os : OsState
  X : K.In base
  T : TopRead p loose mg mb base
  nb : NoneBooked base
  t0 : Nat

mutual
/-- the value v is the datum d, as the frozen objects Z tell it -/
inductive Rep (G : Gnd) (Z : Zf) : Value → D → Prop
  | none : Rep G Z .none .none
  | bool (b : Bool) : Rep G Z (.bool b) (.bool b)
  | int (i : Int) (t : Tok) : Rep G Z (.int i t) (.int i)
  | str (x : Str) (t : Tok) : Rep G Z (.str x t) (.str x)
  | list {a : Addr} {vs : List Value} {n : Nat} {ds : List D} : Z a = some (listOf vs.toArray n) → RepAll G Z vs ds → Rep G Z (.ref a) (.list ds)
  | tup {a : Addr} {vs : List Value} {n : Nat} {ds : List D} : Z a = some { cls := .type "tuple", data := .seq vs.toArray n } → RepAll G Z vs ds → Rep G Z (.ref a) (.tup ds)
  | dict {a : Addr} {o : Obj} {kvs : List (Str × Value)} {ds : List D} : Z a = some o → (a == sysModules) = false → o.IsDictOf (strKind G.prog G.w) kvs →
      RepAll G Z (kvs.map (·.2)) ds → Rep G Z (.ref a) (.dict (kvs.map (·.1)) ds)
  | fn (a : Addr) : Rep G Z (.ref a) (.fn a)
  | rng {x : Addr} {a b : Int} {t u v : Tok} : Z x = some { cls := .type "range", data := .fields #[.int a t, .int b u, .int 1 v] } → Rep G Z (.ref x) (.rng a b)
  | slc {x : Addr} {vl vu : Value} {lo hi : Option Int} : Z x = some { cls := .type "slice", data := .fields #[vl, vu, .none] } → IsPart vl lo → IsPart vu hi → Rep G Z (.ref x) (.slc lo hi)
  | bytes (b : Array UInt8) (t : Tok) : Rep G Z (.bytes b t) (.bytes b)
  | fstr (x : Str) (t : Tok) : G.t0 < t → Rep G Z (.str x t) (.fstr x)
  | ostr (x : Str) (t : Tok) : 0 < t → t ≤ G.t0 → Rep G Z (.str x t) (.ostr x)
inductive RepAll (G : Gnd) (Z : Zf) : List Value → List D → Prop
  | nil : RepAll G Z [] []
  | cons {v : Value} {vs : List Value} {d : D} {ds : List D} : Rep G Z v d → RepAll G Z vs ds → RepAll G Z (v :: vs) (d :: ds)
end

def Zle (Z Z' : Zf) : Prop := ∀ a o, Z a = some o → Z' a = some o
theorem Zle.same {Z : Zf} : Zle Z Z := fun _ _ h => h
theorem Zle.trans {Z Z' Z'' : Zf} (a : Zle Z Z') (b : Zle Z' Z'') : Zle Z Z'' := fun x o h => b x o (a x o h)

mutual
theorem Rep.mono {G : Gnd} {Z Z' : Zf} (hz : Zle Z Z') : ∀ {v : Value} {d : D}, Rep G Z v d → Rep G Z' v d
  | _, _, .none => .none
  | _, _, .bool b => .bool b
  | _, _, .int i t => .int i t
  | _, _, .str x t => .str x t
  | _, _, .list h r => .list (hz _ _ h) (RepAll.mono hz r)
  | _, _, .tup h r => .tup (hz _ _ h) (RepAll.mono hz r)
  | _, _, .dict h hs hd r => .dict (hz _ _ h) hs hd (RepAll.mono hz r)
  | _, _, .fn a => .fn a
  | _, _, .rng h => .rng (hz _ _ h)
  | _, _, .slc h p q => .slc (hz _ _ h) p q
  | _, _, .bytes b t => .bytes b t
  | _, _, .fstr x t h => .fstr x t h
  | _, _, .ostr x t h h' => .ostr x t h h'
theorem RepAll.mono {G : Gnd} {Z Z' : Zf} (hz : Zle Z Z') : ∀ {vs : List Value} {ds : List D}, RepAll G Z vs ds → RepAll G Z' vs ds
  | _, _, .nil => .nil
  | _, _, .cons h r => .cons (Rep.mono hz h) (RepAll.mono hz r)
end

section
variable {G : Gnd} {Z : Zf}
theorem RepAll.length : ∀ {vs : List Value} {ds : List D}, RepAll G Z vs ds → vs.length = ds.length
  | _, _, .nil => rfl
  | _, _, .cons _ r => by rw [List.length_cons, List.length_cons, RepAll.length r]
theorem RepAll.append : ∀ {vs ws : List Value} {ds es : List D}, RepAll G Z vs ds → RepAll G Z ws es → RepAll G Z (vs ++ ws) (ds ++ es)
  | _, _, _, _, .nil, k => k
  | _, _, _, _, .cons h r, k => .cons h (RepAll.append r k)
theorem RepAll.get : ∀ {vs : List Value} {ds : List D}, RepAll G Z vs ds → ∀ {i : Nat} {d : D}, ds[i]? = some d → ∃ v, vs[i]? = some v ∧ Rep G Z v d
  | _, _, .nil, _, _, h => by simp at h
  | _, _, .cons h r, 0, _, e => by simp at e; subst e; exact ⟨_, rfl, h⟩
  | _, _, .cons _ r, i + 1, _, e => by simp at e; simpa using RepAll.get r e
theorem RepAll.drop : ∀ {vs : List Value} {ds : List D}, RepAll G Z vs ds → ∀ n, RepAll G Z (vs.drop n) (ds.drop n)
  | _, _, r, 0 => by simpa using r
  | _, _, .nil, _ + 1 => .nil
  | _, _, .cons _ r, n + 1 => by simpa using RepAll.drop r n
theorem RepAll.take : ∀ {vs : List Value} {ds : List D}, RepAll G Z vs ds → ∀ n, RepAll G Z (vs.take n) (ds.take n)
  | _, _, _, 0 => by simpa using RepAll.nil
  | _, _, .nil, _ + 1 => .nil
  | _, _, .cons h r, n + 1 => by simpa using RepAll.cons h (RepAll.take r n)
end

/-- from Z, s to Z', s': nothing that stood is changed, what is newly frozen is new -/
structure Ext (Z : Zf) (s : Shared) (Z' : Zf) (s' : Shared) : Prop where
  le : Zle Z Z'
  keep : ∀ a o, s.heap.get? a = some o → s'.heap.get? a = some o
  zin : ∀ a o, Z' a = some o → s'.heap.get? a = some o
  new : ∀ a o, Z' a = some o → Z a = some o ∨ s.heap.get? a = none
  gens : s'.gens = s.gens
  os : s'.os = s.os
  tk : s.toks ≤ s'.toks

theorem Ext.same {Z : Zf} {s : Shared} (hz : ∀ a o, Z a = some o → s.heap.get? a = some o) : Ext Z s Z s := ⟨Zle.same, fun _ _ h => h, hz, fun _ _ h => .inl h, Eq.refl _, Eq.refl _, Nat.le_refl _⟩
theorem Ext.tok {Z : Zf} {s : Shared} (hz : ∀ a o, Z a = some o → s.heap.get? a = some o) {t : Nat} (ht : s.toks ≤ t) : Ext Z s Z { s with toks := t } := ⟨Zle.same, fun _ _ h => h, hz, fun _ _ h => .inl h, Eq.refl _, Eq.refl _, ht⟩
theorem Ext.trans {Z Z' Z'' : Zf} {s s' s'' : Shared} (x : Ext Z s Z' s') (y : Ext Z' s' Z'' s'') : Ext Z s Z'' s'' where
  le := x.le.trans y.le
  keep := fun a o h => y.keep a o (x.keep a o h)
  zin := y.zin
  new := fun a o h => by
    rcases y.new a o h with h | h
    · exact x.new a o h
    · cases q : s.heap.get? a with
      | none => exact .inr (Eq.refl _)
      | some ob => rw [x.keep a ob q] at h; cases h
  gens := y.gens.trans x.gens
  os := y.os.trans x.os
  tk := Nat.le_trans x.tk y.tk
/-- only the heap's keeping counts: Z stays -/
theorem Ext.back {Z Z₁ Z' : Zf} {s s' : Shared} (x : Ext Z₁ s Z' s') (hz : ∀ a o, Z a = some o → s.heap.get? a = some o) : Ext Z s Z s' :=
  ⟨Zle.same, x.keep, fun a o h => x.keep a o (hz a o h), fun _ _ h => .inl h, x.gens, x.os, x.tk⟩

def Zadd (Z : Zf) (a : Addr) (o : Obj) : Zf := fun b => if b = a then some o else Z b
theorem Zadd.self {Z : Zf} {a : Addr} {o : Obj} : Zadd Z a o a = some o := if_pos rfl
theorem Zadd.le {Z : Zf} {a : Addr} {o : Obj} (h : Z a = none) : Zle Z (Zadd Z a o) := fun b ob e => by
  unfold Zadd
  by_cases q : b = a
  · subst q; rw [h] at e; cases e
  · rw [if_neg q]; exact e

theorem get?_size_none (h : Heap) : h.get? h.objs.size = none := by
  cases q : h.get? h.objs.size with
  | none => rfl
  | some o => exact absurd (Heap.lt_size q) (Nat.lt_irrefl _)

/-- a new object, frozen at once -/
theorem Ext.alloc {Z : Zf} {s : Shared} {o : Obj} {t : Nat} (hz : ∀ a o, Z a = some o → s.heap.get? a = some o) (hf : o.isFreed = false) (ht : s.toks ≤ t) :
    Ext Z s (Zadd Z s.heap.objs.size o) { s with heap := s.heap.push o, toks := t } where
  le := Zadd.le (by
    cases q : Z s.heap.objs.size with
    | none => rfl
    | some ob => exact absurd (hz _ _ q) (by rw [get?_size_none]; intro h; cases h))
  keep := fun a ob h => Heap.get?_push_of_some _ h
  zin := fun a ob h => by
    unfold Zadd at h
    by_cases q : a = s.heap.objs.size
    · subst q; rw [if_pos rfl] at h; cases h; exact Heap.get?_push_size _ hf
    · rw [if_neg q] at h; exact Heap.get?_push_of_some _ (hz _ _ h)
  new := fun a ob h => by
    unfold Zadd at h
    by_cases q : a = s.heap.objs.size
    · subst q; exact .inr (get?_size_none _)
    · rw [if_neg q] at h; exact .inl h
  gens := rfl
  os := rfl
  tk := ht

end Mine
end
section
open PySem PySem.W PyProof.Rows
namespace Mine

/-- what a name stands for: a datum, or a list that the frame alone holds -/
inductive B where
  | val (d : D)
  | own (ds : List D)

abbrev Loc := List (Str × B)

abbrev upd (ρ : Loc) (x : Str) (b : B) : Loc := (x, b) :: ρ

theorem lookup_upd (ρ : Loc) (x z : Str) (b : B) : (upd ρ x b).lookup z = if z = x then some b else ρ.lookup z := by
  show List.lookup z ((x, b) :: ρ) = _
  rw [List.lookup_cons]
  by_cases h : z = x
  · rw [beq_iff_eq.mpr h, if_pos h]
  · rw [beq_eq_false_iff_ne.mpr h, if_neg h]

def Has (env : Env) (h : Heap) (x : Str) (v : Value) : Prop :=
  (env.kindOf x = some .local ∧ ∃ m, h.Ns env.locals m ∧ m x = some v) ∨
  ((env.kindOf x = some .cell ∨ (env.kindOf x = some .free ∧ (x == ("__classdict__" : Str)) = false)) ∧ ∃ c, env.cells.lookup x = some c ∧ h.IsCell c (some v))

theorem Has.keeps {env : Env} {h h' : Heap} {x : Str} {v : Value} (H : Has env h x v) (hk : ∀ b o, h.get? b = some o → h'.get? b = some o) : Has env h' x v := by
  rcases H with ⟨k, m, n, e⟩ | ⟨k, c, e, n⟩
  · exact .inl ⟨k, m, n.keeps hk, e⟩
  · exact .inr ⟨k, c, e, n.keeps hk⟩

theorem ns_uniq {h : Heap} {a : Addr} {m m' : Str → Option Value} (x : h.Ns a m) (y : h.Ns a m') : m = m' := by
  obtain ⟨o, es, ep, ho, hd, hk, hf⟩ := x
  obtain ⟨o', es', ep', ho', hd', hk', hf'⟩ := y
  rw [ho] at ho'; cases ho'
  rw [hd] at hd'; cases hd'
  funext n
  rw [← hf, ← hf']

/-- the state, as the frame sees it -/
structure St (G : Gnd) (env : Env) (Z H : Zf) (ρ : Loc) (s : Shared) : Prop where
  fk : env.scope.kind = .function
  gl : env.globals = mainGlobals
  bl : env.builtins = builtinsNs
  gens : s.gens = #[]
  os : s.os = G.os
  tk : G.t0 < s.toks
  zin : ∀ a o, Z a = some o → s.heap.get? a = some o
  hin : ∀ a o, H a = some o → s.heap.get? a = some o
  dj : ∀ a o, Z a = some o → H a = none
  bas : ∀ a o, G.base.get? a = some o → Z a = some o ∨ H a = some o
  ns : ∃ m, s.heap.Ns env.locals m
  lz : Z env.locals = none
  lh : H env.locals = none
  cells : ∀ x c, env.cells.lookup x = some c → c ≠ env.locals ∧ (env.func.isSome = true → Z c = none ∧ H c = none ∧ ∃ v, s.heap.IsCell c v) ∧ (env.func.isSome = false → ∃ o, H c = some o)
  inj : ∀ x y c, env.cells.lookup x = some c → env.cells.lookup y = some c → x = y
  vars : ∀ x d, ρ.lookup x = some (.val d) → ∃ v, Has env s.heap x v ∧ Rep G Z v d
  owns : ∃ oa : Str → Addr, (∀ x y ds es, ρ.lookup x = some (.own ds) → ρ.lookup y = some (.own es) → oa x = oa y → x = y) ∧
    ∀ x ds, ρ.lookup x = some (.own ds) → Has env s.heap x (.ref (oa x)) ∧ Z (oa x) = none ∧ H (oa x) = none ∧ oa x ≠ env.locals ∧ (∀ y c, env.cells.lookup y = some c → oa x ≠ c) ∧
      ∃ vs n, s.heap.get? (oa x) = some (listOf vs.toArray n) ∧ RepAll G Z vs ds

section
variable {G : Gnd} {env : Env} {Z Z' H : Zf} {ρ : Loc} {s s' : Shared}

theorem St.keepBase (S : St G env Z H ρ s) : ∀ a o, G.base.get? a = some o → s.heap.get? a = some o := fun a o h =>
  (S.bas a o h).elim (S.zin a o) (S.hin a o)
theorem St.X (S : St G env Z H ρ s) : G.K.In s.heap := fun a o h => S.keepBase a o (G.X a o h)
theorem St.T (S : St G env Z H ρ s) : TopRead G.p G.loose G.mg G.mb s.heap := G.T.keeps S.keepBase

theorem ext_none {a : Addr} (x : Ext Z s Z' s') (hz : Z a = none) (ho : ∃ o, s.heap.get? a = some o) : Z' a = none := by
  cases q : Z' a with
  | none => rfl
  | some o =>
    rcases x.new a o q with h | h
    · rw [hz] at h; cases h
    · obtain ⟨ob, e⟩ := ho; rw [h] at e; cases e

theorem St.ext (S : St G env Z H ρ s) (x : Ext Z s Z' s') : St G env Z' H ρ s' where
  fk := S.fk
  gl := S.gl
  bl := S.bl
  gens := x.gens.trans S.gens
  os := x.os.trans S.os
  tk := Nat.lt_of_lt_of_le S.tk x.tk
  zin := x.zin
  hin := fun a o h => x.keep a o (S.hin a o h)
  dj := fun a o h => by
    rcases x.new a o h with h | h
    · exact S.dj a o h
    · cases q : H a with
      | none => rfl
      | some ob => rw [S.hin a ob q] at h; cases h
  bas := fun a o h => (S.bas a o h).elim (fun h => .inl (x.le a o h)) .inr
  ns := let ⟨m, n⟩ := S.ns; ⟨m, n.keeps x.keep⟩
  lz := ext_none x S.lz (let ⟨_, o, _, _, h, _⟩ := S.ns; ⟨o, h⟩)
  lh := S.lh
  cells := fun y c e => by
    obtain ⟨hl, h⟩ := S.cells y c e
    refine ⟨hl, fun hf => ?_, h.2⟩
    obtain ⟨h1, h2, v, h3⟩ := h.1 hf
    exact ⟨ext_none x h1 (let ⟨o, ho, _⟩ := h3; ⟨o, ho⟩), h2, v, h3.keeps x.keep⟩
  inj := S.inj
  vars := fun y d e => by
    obtain ⟨v, h, r⟩ := S.vars y d e
    exact ⟨v, h.keeps x.keep, r.mono x.le⟩
  owns := by
    obtain ⟨oa, hi, h⟩ := S.owns
    refine ⟨oa, hi, fun y ds e => ?_⟩
    obtain ⟨h1, h2, h3, h4, h5, vs, n, h6, h7⟩ := h y ds e
    exact ⟨h1.keeps x.keep, ext_none x h2 ⟨_, h6⟩, h3, h4, h5, vs, n, x.keep _ _ h6, h7.mono x.le⟩

theorem St.same (S : St G env Z H ρ s) : Ext Z s Z s := Ext.same S.zin

/-- the tree t ends in the datum d, and changes nothing that stood -/
def Yields (G : Gnd) (A : Around) (t : Sem Value) (Z : Zf) (d : D) (s : Shared) : Prop :=
  wpAny (model G.prog G.w) A t (fun v s' => ∃ Z', Ext Z s Z' s' ∧ Rep G Z' v d) (fun _ _ => False) s

/-- room for n more frames -/
structure Room (n : Nat) (A : Around) : Prop where
  handled : A.handled = none
  depth : A.depth + n < recursionLimit
  units : A.units + 8 * n < cLine
  guards : A.guards = some []
theorem Room.deeper {n : Nat} {A : Around} {env : Env} (r : Room (n + 1) A) : Room n (A.deeper env) := ⟨r.handled, by have := r.depth; show A.depth + 1 + n < _; omega, by have := r.units; show A.units + 3 + 8 * n < _; omega, r.guards⟩
theorem Room.less {n m : Nat} {A : Around} (r : Room n A) (h : m ≤ n) : Room m A := ⟨r.handled, by have := r.depth; omega, by have := r.units; omega, r.guards⟩

/-- the expression e is the datum d where the names are ρ -/
structure Ev (G : Gnd) (env : Env) (n : Nat) (ρ : Loc) (e : PySem.Expr) (d : D) : Prop where
  run : ∀ A Z H s, Room n A → St G env Z H ρ s → Yields G A (eval e env) Z d s

/-- a test -/
structure Tst (G : Gnd) (env : Env) (n : Nat) (ρ : Loc) (e : PySem.Expr) (b : Bool) : Prop where
  run : ∀ A Z H s, Room n A → St G env Z H ρ s → wpAny (model G.prog G.w) A (isTrue e env (eval e env)) (fun b' s' => b' = b ∧ Ext Z s Z s') (fun _ _ => False) s

variable {A : Around} {E : Value → Shared → Prop} {n : Nat}

theorem wp_seq {α : Type} {M : Model} {t : Sem α} {P Q : α → Shared → Prop} (h : wpAny M A t P (fun _ _ => False) s) (hq : ∀ v s', P v s' → Q v s') : wpAny M A t Q E s :=
  wpAny_mono h hq fun _ _ x => x.elim

/-- tokens only grow -/
theorem wp_tok {α : Type} {M : Model} {t : Sem α} {Q : α → Shared → Prop} (h : wpAny M A t (fun a s' => s.toks ≤ s'.toks → Q a s') (fun _ _ => False) s) : wpAny M A t Q (fun _ _ => False) s :=
  wpAny_with_toks (Nat.le_refl _) (wpAny_mono h (fun _ _ x => x) fun _ _ x => x.elim)

/-- a name -/
theorem ev_name {x : Str} {pos : Pos} {d : D} (h : ρ.lookup x = some (.val d)) (hd : (x == ("__debug__" : Str)) = false) : Ev G env n ρ (.Name x pos) d := by
  constructor
  intro A Z H s _ S
  obtain ⟨v, hv, r⟩ := S.vars x d h
  refine wpAny_Name ?_ hd
  rcases hv with ⟨k, m, n, e⟩ | ⟨k, c, e, n⟩
  · exact wpAny_loadName_local S.fk k n e ⟨Z, S.same, r⟩
  · rcases k with k | k
    · exact wpAny_loadName_cell S.fk k e n ⟨Z, S.same, r⟩
    · exact wpAny_loadName_free S.fk k.1 e n ⟨Z, S.same, r⟩ k.2

end
end Mine
end
section
open PySem PySem.W PyProof.Rows
namespace Mine

section
variable {G : Gnd} {env : Env} {Z Z' H : Zf} {ρ ρ' : Loc} {s s' : Shared} {A : Around} {E : Value → Shared → Prop}

theorem Has.store_local {h h' : Heap} {x y : Str} {v u : Value} {m : Str → Option Value} (hn : h.Ns env.locals m) (hn' : h'.Ns env.locals (fun y => if y = x then some v else m y))
    (hs : Heap.SameBut env.locals h h') (hcl : ∀ y c, env.cells.lookup y = some c → c ≠ env.locals) (hy : y ≠ x) (q : Has env h y u) : Has env h' y u := by
  rcases q with ⟨k, m₂, n, e⟩ | ⟨k, c, e, n⟩
  · rw [ns_uniq n hn] at e
    exact .inl ⟨k, _, hn', by simpa [hy] using e⟩
  · exact .inr ⟨k, c, e, n.sameBut hs (hcl y c e)⟩

theorem Has.store_cell {h h' : Heap} {x y : Str} {u : Value} {c : Addr} (hs : Heap.SameBut c h h') (hc : env.cells.lookup x = some c)
    (inj : ∀ x y c, env.cells.lookup x = some c → env.cells.lookup y = some c → x = y) (hcl : c ≠ env.locals) (hy : y ≠ x) (q : Has env h y u) : Has env h' y u := by
  rcases q with ⟨k, m₂, n, e⟩ | ⟨k, c', e, n⟩
  · exact .inl ⟨k, m₂, n.sameBut hs (Ne.symm hcl), e⟩
  · exact .inr ⟨k, c', e, n.sameBut hs fun q => hy (inj y x c (q ▸ e) hc)⟩

/-- a change at an address that is neither frozen nor held -/
theorem St.put (S : St G env Z H ρ s) {a : Addr} {h' : Heap} {t : Nat} (ht : s.toks ≤ t) (hs : Heap.SameBut a s.heap h') (hz : Z a = none) (hh : H a = none) (hns : ∃ m, h'.Ns env.locals m)
    (hce : ∀ y c, env.cells.lookup y = some c → env.func.isSome = true → ∃ v, h'.IsCell c v)
    (hvars : ∀ y d, ρ'.lookup y = some (.val d) → ∃ v, Has env h' y v ∧ Rep G Z v d)
    (howns : ∃ oa : Str → Addr, (∀ x y ds es, ρ'.lookup x = some (.own ds) → ρ'.lookup y = some (.own es) → oa x = oa y → x = y) ∧
      ∀ x ds, ρ'.lookup x = some (.own ds) → Has env h' x (.ref (oa x)) ∧ Z (oa x) = none ∧ H (oa x) = none ∧ oa x ≠ env.locals ∧ (∀ y c, env.cells.lookup y = some c → oa x ≠ c) ∧
        ∃ vs n, h'.get? (oa x) = some (listOf vs.toArray n) ∧ RepAll G Z vs ds) :
    St G env Z H ρ' { s with heap := h', toks := t } where
  fk := S.fk
  gl := S.gl
  bl := S.bl
  gens := S.gens
  os := S.os
  tk := Nat.lt_of_lt_of_le S.tk ht
  zin := fun b o h => (hs.2 b fun q => by rw [q, hz] at h; cases h).trans (S.zin b o h)
  hin := fun b o h => (hs.2 b fun q => by rw [q, hh] at h; cases h).trans (S.hin b o h)
  dj := S.dj
  bas := S.bas
  ns := hns
  lz := S.lz
  lh := S.lh
  cells := fun y c e => by
    obtain ⟨hl, h⟩ := S.cells y c e
    refine ⟨hl, fun hf => ?_, h.2⟩
    obtain ⟨h1, h2, _⟩ := h.1 hf
    exact ⟨h1, h2, hce y c e hf⟩
  inj := S.inj
  vars := hvars
  owns := howns

/-- where a name may be stored -/
def Can (env : Env) (x : Str) : Prop := env.kindOf x = some .local ∨ (env.kindOf x = some .cell ∧ env.func.isSome = true ∧ ∃ c, env.cells.lookup x = some c)

/-- the heaps behind a store of x: all other names stand -/
theorem wp_storeName {x : Str} {v : Value} {Q : Unit → Shared → Prop} (S : St G env Z H ρ s) (hc : Can env x)
    (h : ∀ a h' t, s.toks ≤ t → Z a = none → H a = none → Heap.SameBut a s.heap h' → (∃ m, h'.Ns env.locals m) → (∀ y c, env.cells.lookup y = some c → env.func.isSome = true → ∃ v, h'.IsCell c v) →
      Has env h' x v → (∀ y u, y ≠ x → Has env s.heap y u → Has env h' y u) → (∀ b, s.heap.get? b ≠ none → b ≠ env.locals → (∀ y c, env.cells.lookup y = some c → b ≠ c) → b ≠ a) → Q () { s with heap := h', toks := t }) :
    wpAny (model G.prog G.w) A (storeName env x v) Q E s := by
  rcases hc with k | ⟨k, hf, c, e⟩
  · obtain ⟨m, hn⟩ := S.ns
    refine wpAny_storeName_local k hn (fun h' hn' hs => ?_) (by rw [S.fk]; rfl)
    refine h env.locals h' _ (Nat.le_succ _) S.lz S.lh hs ⟨_, hn'⟩ (fun y c e hf => ?_) (.inl ⟨k, _, hn', by simp⟩) (fun y u hy q => q.store_local hn hn' hs (fun y c e => (S.cells y c e).1) hy) fun b _ hb _ => hb
    obtain ⟨hl, h1, _⟩ := S.cells y c e
    obtain ⟨_, _, v', hv⟩ := h1 hf
    exact ⟨v', hv.sameBut hs hl⟩
  · obtain ⟨hl, h1, _⟩ := S.cells x c e
    obtain ⟨hz, hh, v₀, hv⟩ := h1 hf
    refine wpAny_storeName_cell S.fk k e hv fun h' hv' hs => ?_
    refine h c h' s.toks (Nat.le_refl _) hz hh hs (let ⟨m, hn⟩ := S.ns; ⟨m, hn.sameBut hs (Ne.symm hl)⟩) (fun y c' e' hf' => ?_) (.inr ⟨.inl k, c, e, hv'⟩) (fun y u hy q => q.store_cell hs e S.inj hl hy) fun b _ _ hb => hb x c e
    by_cases q : c' = c
    · subst q; exact ⟨_, hv'⟩
    · obtain ⟨_, h2, _⟩ := S.cells y c' e'
      obtain ⟨_, _, v', hv''⟩ := h2 hf'
      exact ⟨v', hv''.sameBut hs q⟩

theorem st_store {x : Str} {v : Value} {d : D} (S : St G env Z H ρ s) (r : Rep G Z v d) (hc : Can env x) :
    wpAny (model G.prog G.w) A (storeName env x v) (fun _ s' => St G env Z H (upd ρ x (.val d)) s') E s := by
  refine wp_storeName S hc fun a h' t ht hz hh hs hns hce hx hy hb => S.put ht hs hz hh hns hce ?_ ?_
  · intro y d' e
    rw [lookup_upd] at e
    by_cases q : y = x
    · subst q; rw [if_pos rfl] at e; cases e; exact ⟨v, hx, r⟩
    · rw [if_neg q] at e
      obtain ⟨u, hu, ru⟩ := S.vars y d' e
      exact ⟨u, hy y u q hu, ru⟩
  · obtain ⟨oa, hi, ho⟩ := S.owns
    have old : ∀ y ds, (upd ρ x (.val d)).lookup y = some (.own ds) → y ≠ x ∧ ρ.lookup y = some (.own ds) := fun y ds e => by
      rw [lookup_upd] at e
      by_cases q : y = x
      · rw [if_pos q] at e; cases e
      · rw [if_neg q] at e; exact ⟨q, e⟩
    refine ⟨oa, fun y z ds es ey ez => hi y z ds es (old y ds ey).2 (old z es ez).2, fun y ds e => ?_⟩
    obtain ⟨q, e⟩ := old y ds e
    obtain ⟨h1, h2, h3, h4, h5, vs, n, h6, h7⟩ := ho y ds e
    exact ⟨hy y _ q h1, h2, h3, h4, h5, vs, n, (hs.2 _ (hb _ (by rw [h6]; intro z; cases z) h4 h5)).trans h6, h7⟩

end
end Mine
end
section
open PySem PySem.W PyProof.Rows
set_option linter.unusedVariables false
namespace Mine

/-- the state, as a callee sees it -/
structure Bs (G : Gnd) (Z : Zf) (s : Shared) : Prop where
  gens : s.gens = #[]
  os : s.os = G.os
  tk : G.t0 < s.toks
  zin : ∀ a o, Z a = some o → s.heap.get? a = some o
  bas : ∀ a o, G.base.get? a = some o → s.heap.get? a = some o

section
variable {G : Gnd} {env : Env} {Z Z' H : Zf} {ρ ρ' : Loc} {s s' : Shared} {A : Around} {E : Value → Shared → Prop} {n : Nat} {pos apos : Pos}

theorem St.bs (S : St G env Z H ρ s) : Bs G Z s := ⟨S.gens, S.os, S.tk, S.zin, S.keepBase⟩
theorem Bs.ext (b : Bs G Z s) (x : Ext Z s Z' s') : Bs G Z' s' := ⟨x.gens.trans b.gens, x.os.trans b.os, Nat.lt_of_lt_of_le b.tk x.tk, x.zin, fun a o h => x.keep a o (b.bas a o h)⟩
theorem Bs.X (b : Bs G Z s) : G.K.In s.heap := fun a o h => b.bas a o (G.X a o h)
theorem Bs.T (b : Bs G Z s) : TopRead G.p G.loose G.mg G.mb s.heap := G.T.keeps b.bas
theorem Bs.nb (b : Bs G Z s) : NoneBooked s.heap := let ⟨mc, h, e⟩ := G.nb; ⟨mc, h.keeps b.bas, e⟩
theorem Bs.same (b : Bs G Z s) : Ext Z s Z s := Ext.same b.zin
theorem Bs.nolimit (b : Bs G Z s) : s.heap.NoLimit := b.T.nolimit

structure Op2 (G : Gnd) (f : Value → Value → Sem Value) (d₁ d₂ d : D) : Prop where
  run : ∀ A Z s v₁ v₂, Room 0 A → Bs G Z s → Rep G Z v₁ d₁ → Rep G Z v₂ d₂ → Yields G A (f v₁ v₂) Z d s
/-- a built-in function, or a method with its object ahead -/
structure BF (G : Gnd) (id : String) (ds : List D) (d : D) : Prop where
  run : ∀ A Z s vs, Room 0 A → Bs G Z s → RepAll G Z vs ds → Yields G A (call (.builtin id) vs) Z d s
/-- a def of the text's -/
structure Fn (G : Gnd) (n : Nat) (f : Addr) (ds : List D) (d : D) : Prop where
  run : ∀ A Z s vs, Room n A → Bs G Z s → RepAll G Z vs ds → Yields G A (call (.ref f) vs) Z d s
structure GetM (G : Gnd) (name : Str) (d : D) (id : String) : Prop where
  run : ∀ M A pl Z s v Q E, (∀ a o, Z a = some o → s.heap.get? a = some o) → Rep G Z v d → Q (Value.builtin id, [v]) s → wpAny M A (getMethod v name pl) Q E s

theorem ev_int {i : Int} {k : Nat} : Ev G env n ρ (.Constant (.int i) k pos) (.int i) := Ev.mk fun _ Z _ _ _ S => wpAny_Constant_int ⟨Z, Ext.tok S.zin (Nat.le_succ _), .int _ _⟩
theorem ev_str {x : Str} {k : Nat} : Ev G env n ρ (.Constant (.str x) k pos) (.str x) := Ev.mk fun _ Z _ _ _ S => Calls.Constant_str ⟨Z, Ext.tok S.zin (Nat.le_succ _), .str _ _⟩
theorem ev_bool {b : Bool} {k : Nat} : Ev G env n ρ (.Constant (.bool b) k pos) (.bool b) := Ev.mk fun _ Z _ _ _ S => wpAny_pure ⟨Z, S.same, .bool _⟩
theorem ev_none {k : Nat} : Ev G env n ρ (.Constant .none k pos) .none := Ev.mk fun _ Z _ _ _ S => wpAny_pure ⟨Z, S.same, .none⟩

theorem ev_glob {x : Str} {a : Addr} (e : nsIn G.K mainGlobals x = some (some (.ref a))) (hx : env.kindOf x = some .globalImplicit) (hd : (x == ("__debug__" : Str)) = false) : Ev G env n ρ (.Name x pos) (.fn a) :=
  Ev.mk fun _ Z _ _ _ S => Calls.Name_function_global S.fk hx (Calls.loadGlobal_global (by rw [S.gl]; exact S.T.g) (mg_of G.X G.T.g e) ⟨Z, S.same, .fn _⟩) hd

theorem wp_builtinName {x : Str} {v : Value} {M : Model} {Q : Value → Shared → Prop} (S : St G env Z H ρ s) (e : nsIn G.K mainGlobals x = some none) (hv : bootBuiltins x = some v) (hn : x ≠ "__name__") (hx : env.kindOf x = some .globalImplicit)
    (hd : (x == ("__debug__" : Str)) = false) (h : Q v s) : wpAny M A (eval (.Name x pos) env) Q E s :=
  Calls.Name_function_global S.fk hx (Calls.loadGlobal_builtin (by rw [S.gl]; exact S.T.g) (mg_none_of G.X G.T.g e) (by rw [S.bl]; exact S.T.b) ((G.T.builtins x hn).trans hv) h) hd

theorem ev_binop {l r : PySem.Expr} {op : Operator} {d₁ d₂ d : D} (h₁ : Ev G env n ρ l d₁) (h₂ : Ev G env n ρ r d₂) (h₃ : Op2 G (binaryOp op) d₁ d₂ d) : Ev G env n ρ (.BinOp l op r pos) d :=
  Ev.mk fun A Z H s R S => wpAny_BinOp (wp_seq (h₁.run A Z H s R S) fun v₁ s₁ ⟨Z₁, x₁, r₁⟩ => wp_seq (h₂.run A Z₁ H s₁ R (S.ext x₁)) fun v₂ s₂ ⟨Z₂, x₂, r₂⟩ =>
    wp_seq (h₃.run A Z₂ s₂ v₁ v₂ (R.less (Nat.zero_le _)) ((S.ext x₁).ext x₂).bs (r₁.mono x₂.le) r₂) fun _ _ ⟨Z₃, x₃, r₃⟩ => ⟨Z₃, x₁.trans (x₂.trans x₃), r₃⟩)

theorem ev_cmp {l r : PySem.Expr} {op : CmpOp} {d₁ d₂ d : D} (h₁ : Ev G env n ρ l d₁) (h₂ : Ev G env n ρ r d₂) (h₃ : Op2 G (compareOp op) d₁ d₂ d) (hm : behindInMarks op r = false) : Ev G env n ρ (.Compare l [op] [r] pos) d :=
  Ev.mk fun A Z H s R S => wpAny_Compare1 (wp_seq (h₁.run A Z H s R S) fun v₁ s₁ ⟨Z₁, x₁, r₁⟩ => wp_seq (h₂.run A Z₁ H s₁ R (S.ext x₁)) fun v₂ s₂ ⟨Z₂, x₂, r₂⟩ =>
    wp_seq (h₃.run A Z₂ s₂ v₁ v₂ (R.less (Nat.zero_le _)) ((S.ext x₁).ext x₂).bs (r₁.mono x₂.le) r₂) fun _ _ ⟨Z₃, x₃, r₃⟩ => ⟨Z₃, x₁.trans (x₂.trans x₃), r₃⟩) hm

theorem tst_cmp {l r : PySem.Expr} {op : CmpOp} {d₁ d₂ : D} {b : Bool} (h₁ : Ev G env n ρ l d₁) (h₂ : Ev G env n ρ r d₂) (h₃ : Op2 G (compareOp op) d₁ d₂ (.bool b)) (hm : behindInMarks op r = false) : Tst G env n ρ (.Compare l [op] [r] pos) b :=
  Tst.mk fun A Z H s R S => wpAny_isTrue_Compare1 (wp_seq (h₁.run A Z H s R S) fun v₁ s₁ ⟨Z₁, x₁, r₁⟩ => wp_seq (h₂.run A Z₁ H s₁ R (S.ext x₁)) fun v₂ s₂ ⟨Z₂, x₂, r₂⟩ =>
    wp_seq (h₃.run A Z₂ s₂ v₁ v₂ (R.less (Nat.zero_le _)) ((S.ext x₁).ext x₂).bs (r₁.mono x₂.le) r₂) fun _ _ ⟨Z₃, x₃, r₃⟩ => by cases r₃; exact wpAny_truthy_bool ⟨rfl, (x₁.trans (x₂.trans x₃)).back S.zin⟩) hm

theorem tst_not {x : PySem.Expr} {b : Bool} (h : Tst G env n ρ x b) : Tst G env n ρ (.UnaryOp .Not x pos) (!b) :=
  Tst.mk fun A Z H s R S => isTrue_not (wp_seq (h.run A Z H s R S) fun _ _ ⟨e, x⟩ => ⟨by rw [e], x⟩)
theorem tst_and_nil : Tst G env n ρ (.BoolOp .And [] pos) true := Tst.mk fun _ _ _ _ _ S => isTrue_and_nil ⟨rfl, S.same⟩
theorem tst_or_nil : Tst G env n ρ (.BoolOp .Or [] pos) false := Tst.mk fun _ _ _ _ _ S => isTrue_or_nil ⟨rfl, S.same⟩
theorem tst_and {x : PySem.Expr} {rest : List PySem.Expr} {c b : Bool} (h : Tst G env n ρ x c) (h' : c = true → Tst G env n ρ (.BoolOp .And rest pos) b) : Tst G env n ρ (.BoolOp .And (x :: rest) pos) (c && b) :=
  Tst.mk fun A Z H s R S => isTrue_and (wp_seq (h.run A Z H s R S) fun c' s' ⟨e, x⟩ => by
    subst e
    cases c' with
    | false => exact ⟨rfl, x⟩
    | true => exact wp_seq ((h' rfl).run A Z H s' R (S.ext x)) fun _ _ ⟨e, y⟩ => ⟨e, x.trans y⟩)
/-- several expressions in a row -/
structure Evs (G : Gnd) (env : Env) (n : Nat) (ρ : Loc) (es : List PySem.Expr) (ds : List D) : Prop where
  run : ∀ A Z H s pos, Room n A → St G env Z H ρ s → wpAny (model G.prog G.w) A (spliced (backTo pos (starEach es env))) (fun vs s' => ∃ Z', Ext Z s Z' s' ∧ RepAll G Z' vs ds) (fun _ _ => False) s
theorem evs_nil : Evs G env n ρ [] [] := Evs.mk fun _ Z _ _ _ _ S => spliced_none ⟨Z, S.same, .nil⟩
theorem evs_cons {e : PySem.Expr} {es : List PySem.Expr} {d : D} {ds : List D} (h : Ev G env n ρ e d) (h' : Evs G env n ρ es ds) (he : starEach (e :: es) env = (false, eval e env) :: starEach es env) : Evs G env n ρ (e :: es) (d :: ds) :=
  Evs.mk fun A Z H s pos R S => spliced_more (wp_seq (h.run A Z H s R S) fun v s₁ ⟨Z₁, x₁, r₁⟩ => wp_seq (h'.run A Z₁ H s₁ pos R (S.ext x₁)) fun vs s₂ ⟨Z₂, x₂, r₂⟩ => ⟨Z₂, x₁.trans x₂, .cons (r₁.mono x₂.le) r₂⟩) he

theorem wp_newTuple {vs : List Value} {ds : List D} (b : Bs G Z s) (r : RepAll G Z vs ds) (hsz : ds.length ≤ sizeLine) : Yields G A (newTuple vs) Z (.tup ds) s :=
  wpAny_newObj_type ⟨_, Ext.alloc b.zin rfl (Nat.le_refl _), .tup Zadd.self (r.mono (Ext.alloc (s := s) (t := s.toks) b.zin rfl (Nat.le_refl _)).le)⟩ (by show vs.toArray.size ≤ sizeLine; rw [List.size_toArray, r.length]; exact hsz)
theorem wp_newList {vs : List Value} {ds : List D} (b : Bs G Z s) (r : RepAll G Z vs ds) (hsz : ds.length ≤ sizeLine) : Yields G A (newList vs) Z (.list ds) s :=
  wpAny_newObj_type ⟨_, Ext.alloc b.zin rfl (Nat.le_refl _), .list Zadd.self (r.mono (Ext.alloc (s := s) (t := s.toks) b.zin rfl (Nat.le_refl _)).le)⟩ (by show vs.toArray.size ≤ sizeLine; rw [List.size_toArray, r.length]; exact hsz)

theorem ev_tuple {es : List PySem.Expr} {ds : List D} {k : Nat} (h : Evs G env n ρ es ds) (hsz : ds.length ≤ sizeLine) : Ev G env n ρ (.Tuple es k pos) (.tup ds) :=
  Ev.mk fun A Z H s R S => Tuple_ (wp_seq (h.run A Z H s pos R S) fun vs s₁ ⟨Z₁, x₁, r₁⟩ => wp_seq (wp_newTuple (S.ext x₁).bs r₁ hsz) fun _ _ ⟨Z₂, x₂, r₂⟩ => ⟨Z₂, x₁.trans x₂, r₂⟩)
theorem ev_list {es : List PySem.Expr} {ds : List D} (h : Evs G env n ρ es ds) (hsz : ds.length ≤ sizeLine) : Ev G env n ρ (.List es pos) (.list ds) :=
  Ev.mk fun A Z H s R S => List_ (wp_seq (h.run A Z H s pos R S) fun vs s₁ ⟨Z₁, x₁, r₁⟩ => wp_seq (wp_newList (S.ext x₁).bs r₁ hsz) fun _ _ ⟨Z₂, x₂, r₂⟩ => ⟨Z₂, x₁.trans x₂, r₂⟩)

theorem starred_none {es : List PySem.Expr} (h : (starEach es env).any (·.1) = false) (pos : Pos) : (backTo pos (starEach es env)).any (·.1) = false := by
  unfold backTo
  rw [List.any_map]
  exact h

theorem wp_evalArgs {M : Model} {f : Value} {args : List (Bool × Sem Value)} {Q : Args → Shared → Prop} (hp : args.any (·.1) = false)
    (h : wpAny M A (spliced args) (fun vs s₁ => Q ⟨vs, []⟩ s₁) E s) : wpAny M A (evalArgs f true args []) Q E s := by
  match args, hp, h with
  | [], _, h =>
    unfold evalArgs
    show wpAny M A (spliced [] >>= _) Q E s
    refine wpAny_bind (wpAny_mono h (fun vs s' h' => ?_) fun _ _ x => x)
    refine wpAny_bind (wpAny_pure (wpAny_holding ?_))
    exact wpAny_bind (wpAny_pure (wpAny_bind (wpAny_pure (wpAny_pure h'))))
  | (false, t) :: r, _, h => exact Calls.evalArgs_plain h
  | (true, t) :: r, hp, _ => simp at hp

/-- a call of one of the text's defs, by whatever expression it is reached -/
theorem ev_callFn {f : PySem.Expr} {es : List PySem.Expr} {a : Addr} {ds : List D} {d : D} (hf : Ev G env n ρ f (.fn a)) (h : Evs G env n ρ es ds) (hk : keepIn G.K (.ref a) = true) (hc : Fn G n a ds d)
    (hp : (starEach es env).any (·.1) = false)
    (he : eval (.Call f es [] pos) env = (do callWith pos (← eval f env) [] (backTo pos (starEach es env)) [])) : Ev G env n ρ (.Call f es [] pos) d := by
  constructor
  intro A Z H s R S
  unfold Yields
  rw [he]
  refine wpAny_bind (wp_seq (hf.run A Z H s R S) fun v s₁ ⟨Z₁, x₁, r₁⟩ => ?_)
  cases r₁
  have S₁ := S.ext x₁
  refine callWith_of (P := fun h => G.K.In h) (by rw [starred_none hp]; rfl) (keeps_K hk) (wp_evalArgs (starred_none hp pos) (wp_seq (h.run A Z₁ H s₁ pos R S₁) fun vs s₂ ⟨Z₂, x₂, r₂⟩ => ⟨(S₁.ext x₂).X, ?_⟩))
  exact wp_seq (hc.run A Z₂ s₂ vs R (S₁.ext x₂).bs r₂) fun _ _ ⟨Z₃, x₃, r₃⟩ => ⟨Z₃, x₁.trans (x₂.trans x₃), r₃⟩

/-- a call of a built-in function by its name -/
theorem ev_callBF {x : Str} {p : Pos} {id : String} {es : List PySem.Expr} {ds : List D} {d : D} (h : Evs G env n ρ es ds) (hc : BF G id ds d)
    (e : nsIn G.K mainGlobals x = some none) (hv : bootBuiltins x = some (.builtin id)) (hn : x ≠ "__name__") (hx : env.kindOf x = some .globalImplicit) (hd : (x == ("__debug__" : Str)) = false)
    (hp : (starEach es env).any (·.1) = false)
    (he : eval (.Call (.Name x p) es [] pos) env = (do callWith pos (← eval (.Name x p) env) [] (backTo pos (starEach es env)) [])) : Ev G env n ρ (.Call (.Name x p) es [] pos) d := by
  constructor
  intro A Z H s R S
  unfold Yields
  rw [he]
  refine wpAny_bind (wp_builtinName S e hv hn hx hd ?_)
  refine Calls.callWith_builtin (starred_none hp pos) (wp_evalArgs (starred_none hp pos) (wp_seq (h.run A Z H s pos R S) fun vs s₂ ⟨Z₂, x₂, r₂⟩ => ?_))
  exact wp_seq (hc.run A Z₂ s₂ vs (R.less (Nat.zero_le _)) (S.ext x₂).bs r₂) fun _ _ ⟨Z₃, x₃, r₃⟩ => ⟨Z₃, x₂.trans x₃, r₃⟩

/-- a call of a method of a built-in class -/
theorem ev_method {o : PySem.Expr} {name : Str} {id : String} {es : List PySem.Expr} {d₀ : D} {ds : List D} {d : D} {pl : Sem Bool} (ho : Ev G env n ρ o d₀) (g : GetM G name d₀ id) (h : Evs G env n ρ es ds) (hc : BF G id (d₀ :: ds) d)
    (hp : (starEach es env).any (·.1) = false)
    (he : eval (.Call (.Attribute o name apos) es [] pos) env = (do
      let ov ← eval o env
      standAt apos.atName
      let (f, first) ← holding [ov] (getMethod ov name pl)
      callWith pos f first (backTo pos (starEach es env)) [])) : Ev G env n ρ (.Call (.Attribute o name apos) es [] pos) d := by
  constructor
  intro A Z H s R S
  refine MethodCall_ (wp_seq (ho.run A Z H s R S) fun v s₁ ⟨Z₁, x₁, r₁⟩ => ?_) he
  have S₁ := S.ext x₁
  refine g.run _ A pl Z₁ s₁ v _ _ S₁.zin r₁ ?_
  refine Calls.callWith_builtin (starred_none hp pos) (wp_evalArgs (starred_none hp pos) (wp_seq (h.run A Z₁ H s₁ pos R S₁) fun vs s₂ ⟨Z₂, x₂, r₂⟩ => ?_))
  exact wp_seq (hc.run A Z₂ s₂ (v :: vs) (R.less (Nat.zero_le _)) (S₁.ext x₂).bs (.cons (r₁.mono x₂.le) r₂)) fun _ _ ⟨Z₃, x₃, r₃⟩ => ⟨Z₃, x₁.trans (x₂.trans x₃), r₃⟩

/-- an item -/
def Sb (G : Gnd) (value slice : PySem.Expr) (d₁ d₂ d : D) : Prop := Op2 G (subscriptTail value slice) d₁ d₂ d
theorem ev_sub {value slice : PySem.Expr} {d₁ d₂ d : D} (h₁ : Ev G env n ρ value d₁) (h₂ : Ev G env n ρ slice d₂) (h₃ : Sb G value slice d₁ d₂ d) : Ev G env n ρ (.Subscript value slice pos) d :=
  Ev.mk fun A Z H s R S => Subscript_ (wp_seq (h₁.run A Z H s R S) fun v₁ s₁ ⟨Z₁, x₁, r₁⟩ => wp_seq (h₂.run A Z₁ H s₁ R (S.ext x₁)) fun v₂ s₂ ⟨Z₂, x₂, r₂⟩ =>
    wp_seq (h₃.run A Z₂ s₂ v₁ v₂ (R.less (Nat.zero_le _)) ((S.ext x₁).ext x₂).bs (r₁.mono x₂.le) r₂) fun _ _ ⟨Z₃, x₃, r₃⟩ => ⟨Z₃, x₁.trans (x₂.trans x₃), r₃⟩)

end
end Mine
end
section
open PySem PySem.W PyProof.Rows
set_option linter.unusedVariables false
namespace Mine

section
variable {G : Gnd} {env : Env} {Z Z' H : Zf} {ρ ρ' : Loc} {s s' : Shared} {A : Around} {E : Value → Shared → Prop} {n : Nat} {pos apos : Pos}

/-- how a block ends -/
inductive Fl where
  | next | brk | cont
  | ret (d : D)

inductive FlRep (G : Gnd) (Z : Zf) : Flow → Fl → Prop
  | next : FlRep G Z .next .next
  | brk : FlRep G Z .brk .brk
  | cont : FlRep G Z .cont .cont
  | ret {v : Value} {d : D} : Rep G Z v d → FlRep G Z (.ret v) (.ret d)
theorem FlRep.mono {f : Flow} {fl : Fl} (hz : Zle Z Z') (h : FlRep G Z f fl) : FlRep G Z' f fl := by
  cases h with
  | next => exact .next
  | brk => exact .brk
  | cont => exact .cont
  | ret r => exact .ret (r.mono hz)

def ExPost (G : Gnd) (env : Env) (Z H : Zf) (Φ : Fl → Loc → Prop) (f : Flow) (s' : Shared) : Prop := ∃ Z' ρ' fl, Zle Z Z' ∧ St G env Z' H ρ' s' ∧ FlRep G Z' f fl ∧ Φ fl ρ'
/-- a statement -/
structure Ex (G : Gnd) (env : Env) (n : Nat) (ρ : Loc) (st : Stmt) (Φ : Fl → Loc → Prop) : Prop where
  run : ∀ A Z H s, Room n A → St G env Z H ρ s → wpAny (model G.prog G.w) A (exec st env) (ExPost G env Z H Φ) (fun _ _ => False) s
/-- statements in a row -/
structure Exs (G : Gnd) (env : Env) (n : Nat) (ρ : Loc) (sts : List Stmt) (Φ : Fl → Loc → Prop) : Prop where
  run : ∀ A Z H s, Room n A → St G env Z H ρ s → wpAny (model G.prog G.w) A (execs sts env) (ExPost G env Z H Φ) (fun _ _ => False) s

def Then (Φ : Fl → Loc → Prop) (K : Loc → Prop) : Fl → Loc → Prop
  | .next, ρ => K ρ
  | fl, ρ => Φ fl ρ

theorem exs_nil {Φ : Fl → Loc → Prop} (h : Φ .next ρ) : Exs G env n ρ [] Φ := Exs.mk fun A Z H s _ S => wpAny_execs_nil ⟨Z, ρ, .next, Zle.same, S, .next, h⟩
theorem exs_cons {st : Stmt} {rest : List Stmt} {Φ : Fl → Loc → Prop} (h : Ex G env n ρ st (Then Φ fun ρ' => Exs G env n ρ' rest Φ)) : Exs G env n ρ (st :: rest) Φ := by
  constructor
  intro A Z H s R S
  refine wpAny_execs_cons (wp_seq (h.run A Z H s R S) fun f s' ⟨Z', ρ', fl, le, S', hf, hΦ⟩ => ?_)
  cases hf with
  | next => exact wp_seq (hΦ.run A Z' H s' R S') fun f s'' ⟨Z'', ρ'', fl, le', S'', hf, h⟩ => ⟨Z'', ρ'', fl, le.trans le', S'', hf, h⟩
  | brk => exact ⟨Z', ρ', _, le, S', .brk, hΦ⟩
  | cont => exact ⟨Z', ρ', _, le, S', .cont, hΦ⟩
  | ret r => exact ⟨Z', ρ', _, le, S', .ret r, hΦ⟩
theorem ex_assign {x : Str} {p : Pos} {e : PySem.Expr} {d : D} {Φ : Fl → Loc → Prop} (h : Ev G env n ρ e d) (hc : Can env x) (hs : swapsWith e (some (.Name x p)) pos.line env = pure false) (k : Φ .next (upd ρ x (.val d))) :
    Ex G env n ρ (.Assign [.Name x p] e pos) Φ :=
  Ex.mk fun A Z H s R S => wpAny_Assign_Name (wp_seq (h.run A Z H s R S) fun v s₁ ⟨Z₁, x₁, r₁⟩ => wp_seq (st_store (S.ext x₁) r₁ hc) fun _ s₂ S₂ => ⟨Z₁, _, _, x₁.le, S₂, .next, k⟩) hs

theorem ex_return {e : PySem.Expr} {d : D} {Φ : Fl → Loc → Prop} (h : Ev G env n ρ e d) (k : Φ (.ret d) ρ) : Ex G env n ρ (.Return (some e) pos) Φ :=
  Ex.mk fun A Z H s R S => wpAny_Return_some (wp_seq (h.run A Z H s R S) fun v s₁ ⟨Z₁, x₁, r₁⟩ => ⟨Z₁, _, _, x₁.le, S.ext x₁, .ret r₁, k⟩)
theorem ex_if {t : PySem.Expr} {body orelse : List Stmt} {c : Bool} {Φ : Fl → Loc → Prop} (h : Tst G env n ρ t c) (h₁ : c = true → Exs G env n ρ body Φ) (h₂ : c = false → Exs G env n ρ orelse Φ) : Ex G env n ρ (.If t body orelse pos) Φ :=
  Ex.mk fun A Z H s R S => wpAny_If (wp_seq (h.run A Z H s R S) fun c' s' ⟨e, x⟩ => by
    subst e
    cases c' with
    | true => exact (h₁ rfl).run A Z H s' R (S.ext x)
    | false => exact (h₂ rfl).run A Z H s' R (S.ext x))

/-- x op= e -/
theorem ex_aug {x : Str} {p : Pos} {op : Operator} {e : PySem.Expr} {d₀ d₁ d : D} {Φ : Fl → Loc → Prop} (h₀ : ρ.lookup x = some (.val d₀)) (h : Ev G env n ρ e d₁) (ho : Op2 G (inplaceOp op) d₀ d₁ d) (hc : Can env x) (k : Φ .next (upd ρ x (.val d))) :
    Ex G env n ρ (.AugAssign (.Name x p) op e pos) Φ := by
  constructor
  intro A Z H s R S
  refine wpAny_AugAssign_Name ?_
  obtain ⟨v, hv, r⟩ := S.vars x d₀ h₀
  have go : wpAny (model G.prog G.w) A (eval e env) (fun v₁ s₂ => wpAny (model G.prog G.w) A (inplaceOp op v v₁) (fun r s₃ => wpAny (model G.prog G.w) A (storeName env x r) (fun _ => ExPost G env Z H Φ .next) (fun _ _ => False) s₃) (fun _ _ => False) s₂) (fun _ _ => False) s :=
    wp_seq (h.run A Z H s R S) fun v₁ s₂ ⟨Z₁, x₁, r₁⟩ => wp_seq (ho.run A Z₁ s₂ v v₁ (R.less (Nat.zero_le _)) (S.ext x₁).bs (r.mono x₁.le) r₁) fun v₂ s₃ ⟨Z₂, x₂, r₂⟩ =>
      wp_seq (st_store ((S.ext x₁).ext x₂) r₂ hc) fun _ s₄ S₄ => ⟨Z₂, _, _, x₁.le.trans x₂.le, S₄, .next, k⟩
  rcases hv with ⟨k, m, n, e⟩ | ⟨k, c, e, n⟩
  · exact wpAny_loadName_local S.fk k n e go
  · rcases k with k | k
    · exact wpAny_loadName_cell S.fk k e n go
    · exact wpAny_loadName_free S.fk k.1 e n go k.2

/-- an object more is held -/
theorem St.hold {I : Addr} {o : Obj} (S : St G env Z H ρ s) (x : Ext Z s Z s') (hI : s.heap.get? I = none) (ho : s'.heap.get? I = some o) :
    St G env Z (Zadd H I o) ρ s' ∧ G.base.get? I = none ∧ H I = none ∧ Z I = none ∧ ∀ y c, env.cells.lookup y = some c → c ≠ I := by
  have S' := S.ext x
  have old : ∀ a ob, s.heap.get? a = some ob → a ≠ I := fun a ob h q => by rw [q, hI] at h; cases h
  have hH : H I = none := by
    cases q : H I with
    | none => rfl
    | some ob => exact absurd rfl (old I ob (S.hin I ob q))
  have hZ : Z I = none := by
    cases q : Z I with
    | none => rfl
    | some ob => exact absurd rfl (old I ob (S.zin I ob q))
  have hB : G.base.get? I = none := by
    cases q : G.base.get? I with
    | none => rfl
    | some ob => exact absurd rfl (old I ob (S.keepBase I ob q))
  have hC : ∀ y c, env.cells.lookup y = some c → c ≠ I := fun y c e => by
    obtain ⟨_, h1, h2⟩ := S.cells y c e
    cases hf : env.func.isSome with
    | true => obtain ⟨_, _, v, ob, hob, _⟩ := h1 hf; exact old c ob hob
    | false => obtain ⟨ob, hob⟩ := h2 hf; exact old c ob (S.hin c ob hob)
  have le := Zadd.le (o := o) hH
  have ne : ∀ b, b ≠ I → Zadd H I o b = H b := fun b hb => if_neg hb
  obtain ⟨oL, _, _, hoL, _⟩ := S.ns.choose_spec
  refine ⟨⟨S'.fk, S'.gl, S'.bl, S'.gens, S'.os, S'.tk, S'.zin, fun a ob h => ?_, fun a ob h => ?_, fun a ob h => (S'.bas a ob h).elim .inl (fun h => .inr (le _ _ h)), S'.ns, S'.lz, ?_, fun y c e => ?_, S'.inj, S'.vars, ?_⟩, hB, hH, hZ, hC⟩
  · by_cases q : a = I
    · subst q; rw [Zadd.self] at h; cases h; exact ho
    · rw [ne a q] at h; exact S'.hin a ob h
  · rw [ne a fun q => by rw [q, hZ] at h; cases h]; exact S'.dj a ob h
  · rw [ne _ (old _ _ hoL)]; exact S'.lh
  · obtain ⟨h0, h1, h2⟩ := S'.cells y c e
    refine ⟨h0, fun hf => ?_, fun hf => ?_⟩
    · obtain ⟨a, b, c'⟩ := h1 hf
      exact ⟨a, by rw [ne _ (hC y c e)]; exact b, c'⟩
    · obtain ⟨ob, h⟩ := h2 hf
      exact ⟨ob, le _ _ h⟩
  · obtain ⟨oa, hi, h⟩ := S.owns
    obtain ⟨oa', hi', h'⟩ := S'.owns
    refine ⟨oa, hi, fun y ds e => ?_⟩
    obtain ⟨g1, g2, g3, g4, g5, vs, k, g6, g7⟩ := h y ds e
    exact ⟨g1.keeps x.keep, g2, by rw [ne _ (old _ _ g6)]; exact g3, g4, g5, vs, k, x.keep _ _ g6, g7⟩

/-- a held object is changed -/
theorem St.turn {I : Addr} {o o' : Obj} {h' : Heap} {t : Nat} (S : St G env Z (Zadd H I o) ρ s) (hB : G.base.get? I = none) (hC : ∀ y c, env.cells.lookup y = some c → c ≠ I)
    (hk : ∀ b ob, b ≠ I → s.heap.get? b = some ob → h'.get? b = some ob) (ho : h'.get? I = some o') (ht : s.toks ≤ t) : St G env Z (Zadd H I o') ρ { s with heap := h', toks := t } := by
  have self : Zadd H I o I = some o := Zadd.self
  have ne : ∀ b, b ≠ I → Zadd H I o' b = Zadd H I o b := fun b hb => by unfold Zadd; rw [if_neg hb, if_neg hb]
  have zI : ∀ a ob, Z a = some ob → a ≠ I := fun a ob h q => by have := S.dj a ob h; rw [q, self] at this; cases this
  have nI : ∀ a, Zadd H I o a = none → a ≠ I := fun a h q => by rw [q, self] at h; cases h
  have lI := nI _ S.lh
  have has : ∀ y v, Has env s.heap y v → Has env h' y v := fun y v q => by
    rcases q with ⟨k, m, ⟨ob, es, ep, e1, e2⟩, e⟩ | ⟨k, c, e, ob, e1, e2⟩
    · exact .inl ⟨k, m, ⟨ob, es, ep, hk _ _ lI e1, e2⟩, e⟩
    · exact .inr ⟨k, c, e, ob, hk _ _ (hC y c e) e1, e2⟩
  refine ⟨S.fk, S.gl, S.bl, S.gens, S.os, Nat.lt_of_lt_of_le S.tk ht, fun a ob h => hk _ _ (zI a ob h) (S.zin a ob h), fun a ob h => ?_, fun a ob h => ?_, fun a ob h => ?_, ?_, S.lz, ?_, fun y c e => ?_, S.inj, fun y d e => ?_, ?_⟩
  · by_cases q : a = I
    · subst q; rw [Zadd.self] at h; cases h; exact ho
    · rw [ne a q] at h; exact hk _ _ q (S.hin a ob h)
  · rw [ne a (zI a ob h)]; exact S.dj a ob h
  · refine (S.bas a ob h).elim .inl fun q => .inr ?_
    rw [ne a fun z => by rw [z, hB] at h; cases h]; exact q
  · obtain ⟨m, ob, es, ep, e1, e2⟩ := S.ns; exact ⟨m, ob, es, ep, hk _ _ lI e1, e2⟩
  · rw [ne _ lI]; exact S.lh
  · obtain ⟨h0, h1, h2⟩ := S.cells y c e
    refine ⟨h0, fun hf => ?_, fun hf => ?_⟩
    · obtain ⟨a, b, v, ob, e1, e2⟩ := h1 hf
      exact ⟨a, by rw [ne _ (hC y c e)]; exact b, v, ob, hk _ _ (hC y c e) e1, e2⟩
    · obtain ⟨ob, h⟩ := h2 hf
      exact ⟨ob, by rw [ne _ (hC y c e)]; exact h⟩
  · obtain ⟨v, h, r⟩ := S.vars y d e; exact ⟨v, has y v h, r⟩
  · obtain ⟨oa, hi, h⟩ := S.owns
    refine ⟨oa, hi, fun y ds e => ?_⟩
    obtain ⟨g1, g2, g3, g4, g5, vs, k, g6, g7⟩ := h y ds e
    exact ⟨has _ _ g1, g2, by rw [ne _ (nI _ g3)]; exact g3, g4, g5, vs, k, hk _ _ (nI _ g3) g6, g7⟩

/-- it is held no more -/
theorem St.unhold {I : Addr} {o : Obj} (S : St G env Z (Zadd H I o) ρ s) (hB : G.base.get? I = none) (hC : ∀ y c, env.cells.lookup y = some c → c ≠ I) (hH : H I = none) : St G env Z H ρ s := by
  have self : Zadd H I o I = some o := Zadd.self
  have le := Zadd.le (o := o) hH
  have ne : ∀ b, b ≠ I → Zadd H I o b = H b := fun b hb => if_neg hb
  have none_of : ∀ a, Zadd H I o a = none → H a = none := fun a h => by
    cases q : H a with
    | none => rfl
    | some ob => rw [le _ _ q] at h; cases h
  refine ⟨S.fk, S.gl, S.bl, S.gens, S.os, S.tk, S.zin, fun a ob h => S.hin a ob (le _ _ h), fun a ob h => none_of a (S.dj a ob h), fun a ob h => ?_, S.ns, S.lz, none_of _ S.lh, fun y c e => ?_, S.inj, S.vars, ?_⟩
  · refine (S.bas a ob h).elim .inl fun q => .inr ?_
    rwa [ne a fun z => by rw [z, hB] at h; cases h] at q
  · obtain ⟨h0, h1, h2⟩ := S.cells y c e
    refine ⟨h0, fun hf => ?_, fun hf => ?_⟩
    · obtain ⟨a, b, v⟩ := h1 hf
      exact ⟨a, none_of _ b, v⟩
    · obtain ⟨ob, h⟩ := h2 hf
      rw [ne _ (hC y c e)] at h
      exact ⟨ob, h⟩
  · obtain ⟨oa, hi, h⟩ := S.owns
    refine ⟨oa, hi, fun y ds e => ?_⟩
    obtain ⟨g1, g2, g3, g4⟩ := h y ds e
    exact ⟨g1, g2, none_of _ g3, g4⟩

/-- a held object is let go, whatever becomes of it -/
theorem St.drop {I : Addr} {o : Obj} {h' : Heap} {t : Nat} (S : St G env Z (Zadd H I o) ρ s) (hB : G.base.get? I = none) (hC : ∀ y c, env.cells.lookup y = some c → c ≠ I) (hH : H I = none)
    (hk : ∀ b ob, b ≠ I → s.heap.get? b = some ob → h'.get? b = some ob) (ht : s.toks ≤ t) : St G env Z H ρ { s with heap := h', toks := t } := by
  have self : Zadd H I o I = some o := Zadd.self
  have le := Zadd.le (o := o) hH
  have ne : ∀ b, b ≠ I → Zadd H I o b = H b := fun b hb => if_neg hb
  have none_of : ∀ a, Zadd H I o a = none → H a = none := fun a h => by
    cases q : H a with
    | none => rfl
    | some ob => rw [le _ _ q] at h; cases h
  have zI : ∀ a ob, Z a = some ob → a ≠ I := fun a ob h q => by have := S.dj a ob h; rw [q, self] at this; cases this
  have nI : ∀ a, Zadd H I o a = none → a ≠ I := fun a h q => by rw [q, self] at h; cases h
  have hI : ∀ a ob, H a = some ob → a ≠ I := fun a ob h q => by rw [q, hH] at h; cases h
  have lI := nI _ S.lh
  have has : ∀ y v, Has env s.heap y v → Has env h' y v := fun y v q => by
    rcases q with ⟨k, m, ⟨ob, es, ep, e1, e2⟩, e⟩ | ⟨k, c, e, ob, e1, e2⟩
    · exact .inl ⟨k, m, ⟨ob, es, ep, hk _ _ lI e1, e2⟩, e⟩
    · exact .inr ⟨k, c, e, ob, hk _ _ (hC y c e) e1, e2⟩
  refine ⟨S.fk, S.gl, S.bl, S.gens, S.os, Nat.lt_of_lt_of_le S.tk ht, fun a ob h => hk _ _ (zI a ob h) (S.zin a ob h), fun a ob h => hk _ _ (hI a ob h) (S.hin a ob (le _ _ h)), fun a ob h => none_of a (S.dj a ob h), fun a ob h => ?_, ?_, S.lz, none_of _ S.lh, fun y c e => ?_, S.inj, fun y d e => ?_, ?_⟩
  · refine (S.bas a ob h).elim .inl fun q => .inr ?_
    rwa [ne a fun z => by rw [z, hB] at h; cases h] at q
  · obtain ⟨m, ob, es, ep, e1, e2⟩ := S.ns; exact ⟨m, ob, es, ep, hk _ _ lI e1, e2⟩
  · obtain ⟨h0, h1, h2⟩ := S.cells y c e
    refine ⟨h0, fun hf => ?_, fun hf => ?_⟩
    · obtain ⟨a, b, v, ob, e1, e2⟩ := h1 hf
      exact ⟨a, none_of _ b, v, ob, hk _ _ (hC y c e) e1, e2⟩
    · obtain ⟨ob, h⟩ := h2 hf
      rw [ne _ (hC y c e)] at h
      exact ⟨ob, h⟩
  · obtain ⟨v, h, r⟩ := S.vars y d e; exact ⟨v, has y v h, r⟩
  · obtain ⟨oa, hi, h⟩ := S.owns
    refine ⟨oa, hi, fun y ds e => ?_⟩
    obtain ⟨g1, g2, g3, g4, g5, vs, k, g6, g7⟩ := h y ds e
    exact ⟨has _ _ g1, g2, none_of _ g3, g4, g5, vs, k, hk _ _ (nI _ g3) g6, g7⟩

end
end Mine
end
section
open PySem PySem.W PyProof.Rows
set_option linter.unusedVariables false
namespace Mine

section
variable {G : Gnd} {env : Env} {Z Z' H : Zf} {ρ ρ' : Loc} {s s' : Shared} {A : Around} {E : Value → Shared → Prop} {n : Nat} {pos apos : Pos}

def ownsTuples (T : String) : Bool := ["enumerate", "zip", "dict_itemiterator", "dict_reverseitemiterator", "odict_iterator", "itertools.zip_longest", "itertools.pairwise"].contains T

/-- an iterator's turns, at times when the counter is behind G.t0 -/
structure WalksG (G : Gnd) (A : Around) (I : Addr) (fp wr : List Addr) (n : Nat) (P : Nat → Value → Prop) (St : Nat → Heap → Prop) : Prop where
  sub : ∀ b ∈ wr, b ∈ fp
  frame : ∀ i h h', St i h → (∀ b ∈ fp, ∀ o, h.get? b = some o → h'.get? b = some o) → St i h'
  item : ∀ i (s : Shared) (Q : Option Value → Shared → Prop) (E : Value → Shared → Prop), i < n → G.t0 < s.toks → St i s.heap →
    (∀ v h' tk, P i v → St (i + 1) h' → (∀ b o, b ∉ wr → s.heap.get? b = some o → h'.get? b = some o) → Q (some v) { s with heap := h', toks := tk }) → wpAny (model G.prog G.w) A (pyNext (.ref I)) Q E s
  done : ∀ (s : Shared) (Q : Option Value → Shared → Prop) (E : Value → Shared → Prop), St n s.heap →
    (∀ h' tk, (∀ b o, b ∉ wr → s.heap.get? b = some o → h'.get? b = some o) → Q none { s with heap := h', toks := tk }) → wpAny (model G.prog G.w) A (pyNext (.ref I)) Q E s
  self : ∀ i (s : Shared) (Q : Value → Shared → Prop) (E : Value → Shared → Prop), St i s.heap → Q (.ref I) s → wpAny (model G.prog G.w) A (pyIter (.ref I)) Q E s
theorem toWG {I : Addr} {fp wr : List Addr} {n : Nat} {P : Nat → Value → Prop} {St : Nat → Heap → Prop} (W : Walks G.prog G.w A I fp wr n P St) : WalksG G A I fp wr n P St :=
  ⟨W.sub, W.frame, fun i s Q E hi _ st h => W.item i s Q E hi st h, W.done, W.self⟩

/-- an iterator that is new, and the data that it will give -/
def ItrAt (G : Gnd) (Z : Zf) (ds : List D) (s s' : Shared) (it : Value) : Prop :=
  ∃ (I : Addr) (fp : List Addr) (P : Nat → Value → Prop) (W : Nat → Heap → Prop), it = .ref I ∧ Ext Z s Z s' ∧ s.heap.get? I = none ∧ (∀ A' : Around, A'.handled = none → WalksG G A' I fp [I] ds.length P W) ∧
    (∀ b ∈ fp, b = I ∨ ∃ o, Z b = some o) ∧ W 0 s'.heap ∧ (∀ i h, W i h → ∃ o T, h.get? I = some o ∧ o.cls = .type T ∧ ownsTuples T = false) ∧ (∀ i v, P i v → ∃ d, ds[i]? = some d ∧ Rep G Z v d)
structure Itr (G : Gnd) (d : D) (ds : List D) : Prop where
  run : ∀ A Z s v, Room 0 A → Bs G Z s → Rep G Z v d → wpAny (model G.prog G.w) A (pyIter v) (fun it s' => ItrAt G Z ds s s' it) (fun _ _ => False) s

/-- a target takes a datum -/
structure Asg (G : Gnd) (env : Env) (tgt : PySem.Expr) (d : D) (ρ ρ' : Loc) : Prop where
  run : ∀ A Z H s v, Room 0 A → St G env Z H ρ s → Rep G Z v d → wpAny (model G.prog G.w) A (assign tgt env v) (fun _ s' => ∃ Z', Zle Z Z' ∧ St G env Z' H ρ' s') (fun _ _ => False) s
theorem asg_name {x : Str} {p : Pos} {d : D} (hc : Can env x) : Asg G env (.Name x p) d ρ (upd ρ x (.val d)) :=
  Asg.mk fun A Z H s v R S r => wpAny_assign_Name (wp_seq (st_store S r hc) fun _ _ S' => ⟨Z, Zle.same, S'⟩)

theorem wp_letOwned {tgt : PySem.Expr} {I : Addr} {v : Value} {o : Obj} {T : String} {M : Model} {Q : Unit → Shared → Prop} (ho : s.heap.get? I = some o) (hc : o.cls = .type T) (hT : ownsTuples T = false) (h : Q () s) :
    wpAny M A (letOwnedTupleGo tgt (.ref I) v) Q E s := by
  have go : wpAny M A (match (Value.ref I, v) with
    | (.ref r, .ref a) => do
      let o ← load r
      match o.cls, o.data with
      | .type n, .fields vs =>
        if ["enumerate", "zip", "dict_itemiterator", "dict_reverseitemiterator", "odict_iterator", "itertools.zip_longest", "itertools.pairwise"].contains n && vs[0]? == some (rawInt a) then
          rule "for.unpacks-the-owned-tuple"
          updateField r 0 .none
      | _, _ => pure ()
    | _ => pure ()) Q E s := by
    cases v with
    | ref a =>
      refine wpAny_bind (wpAny_load ho ?_)
      rw [hc]
      cases o.data <;> first | exact wpAny_pure h | skip
      rename_i vs
      unfold ownsTuples at hT
      dsimp only
      rw [hT]
      exact wpAny_pure h
    | _ => exact wpAny_pure h
  unfold letOwnedTupleGo
  cases tgt <;> first | exact wpAny_pure h | exact go

def LoopPost (Φ : Fl → Loc → Prop) (K : Loc → Prop) : Fl → Loc → Prop
  | .next, ρ => K ρ
  | .cont, ρ => K ρ
  | .brk, ρ => Φ .next ρ
  | .ret d, ρ => Φ (.ret d) ρ

theorem ex_for {tgt iter : PySem.Expr} {body : List Stmt} {d : D} {ds : List D} {Φ : Fl → Loc → Prop} (P : Nat → Loc → Prop) (h : Ev G env n ρ iter d) (hi : Itr G d ds) (h0 : P 0 ρ)
    (turn : ∀ i d ρ', ds[i]? = some d → P i ρ' → ∃ ρ'', Asg G env tgt d ρ' ρ'' ∧ Exs G env n ρ'' body (LoopPost Φ (P (i + 1))))
    (done : ∀ ρ', P ds.length ρ' → Φ .next ρ') (hs : ∀ x, foldedSetIterable iter env x = pure x) : Ex G env n ρ (.For tgt iter body [] pos) Φ := by
  constructor
  intro A Z H s R S
  refine wpAny_For (wp_seq (h.run A Z H s R S) fun v s₁ ⟨Z₁, x₁, r₁⟩ => wp_seq (hi.run A Z₁ s₁ v (R.less (Nat.zero_le _)) (S.ext x₁).bs r₁) fun it s₂ ⟨I, fp, P', W, e, x₂, hI, hW, hfp, hW0, hcls, hP⟩ => ?_) hs
  subst e
  have W₀ := hW A R.handled
  obtain ⟨o₂, _, ho₂, _⟩ := hcls 0 _ hW0
  obtain ⟨S₂, hB, hH, hZ, hC⟩ := (S.ext x₁).hold x₂ hI ho₂
  refine codeAny_forLoop_any (fun m s => ∃ i Zc ρc o, m = ds.length - i ∧ i ≤ ds.length ∧ Zle Z₁ Zc ∧ St G env Zc (Zadd H I o) ρc s ∧ W i s.heap ∧ P i ρc) (fun m s hm => ?_) ds.length ⟨0, Z₁, ρ, o₂, rfl, Nat.zero_le _, Zle.same, S₂, hW0, h0⟩
  obtain ⟨i, Zc, ρc, o, rfl, hle, lec, Sc, hWi, hPi⟩ := hm
  by_cases hlt : i < ds.length
  · refine wpAny_with_toks (Nat.le_refl s.toks) (W₀.item i s _ _ hlt Sc.tk hWi fun v h' tk pv hW' hk tok => ?_)
    obtain ⟨d', hd', rv⟩ := hP i v pv
    obtain ⟨o', T, ho', hcT, hT⟩ := hcls _ _ hW'
    have St' := Sc.turn (t := tk) hB hC (fun b ob hb e => hk b ob (by simpa using hb) e) ho' tok
    refine wp_letOwned (s := { s with heap := h', toks := tk }) ho' hcT hT ?_
    obtain ⟨ρ'', ha, hb⟩ := turn i d' ρc hd' hPi
    refine wp_seq (ha.run A Zc _ _ v (R.less (Nat.zero_le _)) St' (rv.mono lec)) fun _ s₄ ⟨Z₄, le₄, S₄⟩ => ?_
    refine wp_seq (hb.run A Z₄ _ s₄ R S₄) fun f s₅ ⟨Z₅, ρ₅, fl, le₅, S₅, hf, hΦ⟩ => ?_
    have les : Zle Z Z₅ := x₁.le.trans (lec.trans (le₄.trans le₅))
    have nx : P (i + 1) ρ₅ → ∃ m, m < ds.length - i ∧ ∃ i Zc ρc o, m = ds.length - i ∧ i ≤ ds.length ∧ Zle Z₁ Zc ∧ St G env Zc (Zadd H I o) ρc s₅ ∧ W i s₅.heap ∧ P i ρc := fun hp => by
      refine ⟨ds.length - (i + 1), by omega, i + 1, Z₅, ρ₅, o', rfl, by omega, lec.trans (le₄.trans le₅), S₅, W₀.frame _ _ _ hW' fun b hb ob e => ?_, hp⟩
      rcases hfp b hb with rfl | ⟨oz, hz⟩
      · have e' : h'.get? b = some ob := e
        rw [ho'] at e'; cases e'
        exact S₅.hin _ _ Zadd.self
      · have e1 := St'.zin b oz (lec b oz hz)
        have e' : h'.get? b = some ob := e
        have e2 : h'.get? b = some oz := e1
        rw [e'] at e2; cases e2
        exact S₅.zin _ _ (le₅ _ _ (le₄ _ _ (lec _ _ hz)))
    cases hf with
    | next => exact nx hΦ
    | cont => exact nx hΦ
    | brk => exact ⟨Z₅, ρ₅, .next, les, S₅.unhold hB hC hH, .next, hΦ⟩
    | ret r => exact ⟨Z₅, ρ₅, .ret _, les, S₅.unhold hB hC hH, .ret r, hΦ⟩
  · have hlen : i = ds.length := by omega
    subst hlen
    refine wpAny_with_toks (Nat.le_refl s.toks) (W₀.done s _ _ hWi fun h' tk hk tok => ?_)
    refine wpAny_execs_nil ?_
    exact ⟨Zc, ρc, .next, x₁.le.trans lec, Sc.drop (t := tk) hB hC hH (fun b ob hb e => hk b ob (by simpa using hb) e) tok, .next, done _ hPi⟩

/-- the text's def at an address -/
structure DefAt (G : Gnd) (a : Addr) (fd : FuncData) (body : List Stmt) : Prop where
  obj : ∃ o, G.K.lookup a = some o ∧ o.data = .func fd
  code : codeIn G.K fd.code fd.qualname = true
  body : fd.body = .stmts body
  closure : fd.closure = []
  gl : fd.globals = mainGlobals
  bl : fd.builtins = builtinsNs
  co : fd.scope.isCoroutine = false
  gen : fd.scope.isGenerator = false
  kind : fd.scope.kind = .function

theorem DefAt.keep {a : Addr} {fd : FuncData} {body : List Stmt} (D : DefAt G a fd body) : keepIn G.K (.ref a) = true := by
  obtain ⟨⟨oc, od, odt, osl⟩, h, e⟩ := D.obj
  unfold keepIn
  cases e
  simp only [h]

/-- the names that the parameters are, at the start -/
def startLoc : List Str → List D → Loc
  | x :: xs, d :: ds => (x, .val d) :: startLoc xs ds
  | _, _ => []

end
end Mine
end
section
open PySem PySem.W PyProof.Rows
set_option linter.unusedVariables false
namespace Mine

section
variable {G : Gnd} {env : Env} {Z Z' H : Zf} {ρ ρ' : Loc} {s s' : Shared} {A : Around} {E : Value → Shared → Prop} {n : Nat} {pos apos : Pos}

theorem bindL_skip {k : Str → Option NameKind} {x : Str} : ∀ {bs : List (Str × Value)} {m : Str → Option Value}, x ∉ bs.map (·.1) → bindL k bs m x = m x
  | [], _, _ => rfl
  | (y, v) :: r, m, h => by
    simp only [List.map_cons, List.mem_cons, not_or] at h
    unfold bindL
    rw [bindL_skip h.2]
    split
    · exact if_neg h.1
    · rfl
theorem bindL_get {k : Str → Option NameKind} {x : Str} {v : Value} (hk : k x = some .local) : ∀ {bs : List (Str × Value)} {m : Str → Option Value}, (bs.map (·.1)).Nodup → (x, v) ∈ bs → bindL k bs m x = some v
  | (y, w) :: r, m, hn, h => by
    simp only [List.map_cons, List.nodup_cons] at hn
    unfold bindL
    rcases List.mem_cons.mp h with e | h
    · cases e
      rw [bindL_skip hn.1, if_pos hk, if_pos rfl]
    · exact bindL_get hk hn.2 h
theorem bindC_skip {k : Str → Option NameKind} {x : Str} : ∀ {bs : List (Str × Value)} {m : Str → Option Value}, x ∉ bs.map (·.1) → bindC k bs m x = m x
  | [], _, _ => rfl
  | (y, v) :: r, m, h => by
    simp only [List.map_cons, List.mem_cons, not_or] at h
    unfold bindC
    rw [bindC_skip h.2]
    split
    · rfl
    · exact if_neg h.1
theorem bindC_get {k : Str → Option NameKind} {x : Str} {v : Value} (hk : k x = some .cell) : ∀ {bs : List (Str × Value)} {m : Str → Option Value}, (bs.map (·.1)).Nodup → (x, v) ∈ bs → bindC k bs m x = some v
  | (y, w) :: r, m, hn, h => by
    simp only [List.map_cons, List.nodup_cons] at hn
    unfold bindC
    rcases List.mem_cons.mp h with e | h
    · cases e
      rw [bindC_skip hn.1, if_neg (by rw [hk]; decide), if_pos rfl]
    · exact bindC_get hk hn.2 h

theorem startLoc_lookup {b : B} : ∀ {xs : List Str} {ds : List D} {vs : List Value} {x : Str}, RepAll G Z vs ds → xs.length = ds.length → (startLoc xs ds).lookup x = some b → ∃ v d, b = .val d ∧ (x, v) ∈ xs.zip vs ∧ Rep G Z v d
  | [], _, _, _, _, _, h => by simp [startLoc] at h
  | y :: xs, [], _, _, _, hl, _ => by simp at hl
  | y :: xs, d :: ds, v :: vs, x, .cons r rs, hl, h => by
    unfold startLoc at h
    rw [List.lookup_cons] at h
    by_cases q : x = y
    · subst q
      simp at h
      subst h
      exact ⟨v, d, rfl, by simp, r⟩
    · rw [beq_eq_false_iff_ne.mpr q] at h
      obtain ⟨v', d', e, hm, r'⟩ := startLoc_lookup rs (by simpa using hl) h
      exact ⟨v', d', e, by simp [hm], r'⟩

/-- what a call leaves, once its frame is gone -/
theorem ext_of_frame (b : Bs G Z s) (hZ' : Zle Z Z') (S : St G env Z' (fun a => if Z a = none then s.heap.get? a else none) ρ s') (ht : s.toks ≤ s'.toks) : Ext Z s Z' s' where
  le := hZ'
  keep := fun a o h => by
    cases q : Z a with
    | some o' =>
      have := b.zin a o' q
      rw [h] at this; cases this
      exact S.zin _ _ (hZ' _ _ q)
    | none => exact S.hin a o (by simp [q, h])
  zin := S.zin
  new := fun a o h => by
    cases q : Z a with
    | some o' => left; have := hZ' _ _ q; rw [h] at this; cases this; rfl
    | none =>
      right
      have := S.dj a o h
      simpa [q] using this
  gens := S.gens.trans b.gens.symm
  os := S.os.trans b.os.symm
  tk := ht

def RetPost (d : D) : Fl → Loc → Prop
  | .ret d', _ => d' = d
  | .next, _ => d = .none
  | _, _ => False

theorem fn_of {a : Addr} {fd : FuncData} {body : List Stmt} {xs : List Str} {ds : List D} {d : D} (D : DefAt G a fd body) (hb : ∀ vs : List Value, vs.length = xs.length → bindArgs fd ⟨vs, []⟩ = pure (xs.zip vs)) (hlen : xs.length = ds.length)
    (hx : ∀ x ∈ xs, fd.scope.names.lookup x = some .local ∨ (fd.scope.names.lookup x = some .cell ∧ ∀ k, ((cellsFrom k fd.scope.names []).lookup x).isSome = true)) (hnd : xs.Nodup)
    (h : ∀ L, Exs G (callEnvC fd L a) n (startLoc xs ds) body (RetPost d)) : Fn G (n + 1) a ds d := by
  constructor
  intro A Z s vs R b r
  obtain ⟨o, ho, hd⟩ := D.obj
  have hvl : vs.length = xs.length := r.length.trans hlen.symm
  have hmap : (xs.zip vs).map (·.1) = xs := by rw [List.map_fst_zip]; omega
  have hnd' : ((xs.zip vs).map (·.1)).Nodup := by rw [hmap]; exact hnd
  refine wp_tok ?_
  refine wpAny_call ?_
  refine codeAny_call_function (by have := R.depth; omega) (b.X _ _ ho) hd D.co D.gen D.body (codeRec_of b.X D.code) ?_
  rw [hb vs hvl, D.closure]
  refine wpAny_pure (wpAny_with_toks (Nat.le_refl s.toks) (wpAny_newFunctionEnv_cells D.kind (fun x hm => ?_) fun env he s₁ x tok => ?_))
  · have : x.1 ∈ xs := by rw [← hmap]; exact List.mem_map_of_mem hm
    rcases hx _ this with q | ⟨q, q'⟩
    · exact .inl q
    · exact .inr ⟨q, q' _⟩
  subst he
  have hcall := x.toInCall
  obtain ⟨h₁, tk, rfl, hk₁⟩ := x.done
  refine ⟨b.nolimit.keeps hcall.keep, codeAny_func ?_⟩
  have HZ : ∀ a' o', (if Z a' = none then s.heap.get? a' else none) = some o' → Z a' = none ∧ s.heap.get? a' = some o' := fun a' o' e => by
    split at e
    · rename_i q; exact ⟨q, e⟩
    · cases e
  have hLnone : s.heap.get? s.heap.objs.size = none := get?_size_none _
  have nz : ∀ c, s.heap.objs.size ≤ c → s.heap.get? c = none := fun c hc => by
    cases q : s.heap.get? c with
    | none => rfl
    | some ob => exact absurd (Heap.lt_size q) (Nat.not_lt.mpr hc)
  have nzZ : ∀ c, s.heap.objs.size ≤ c → Z c = none := fun c hc => by
    cases q : Z c with
    | none => rfl
    | some ob => have := b.zin c ob q; rw [nz c hc] at this; cases this
  have S₁ : St G (callEnvC fd s.heap.objs.size a) Z (fun a => if Z a = none then s.heap.get? a else none) (startLoc xs ds) { s with heap := h₁, toks := tk } := by
    refine ⟨D.kind, D.gl, D.bl, b.gens, b.os, Nat.lt_of_lt_of_le b.tk tok, fun a' o' e => hk₁ _ _ (b.zin _ _ e), fun a' o' e => hk₁ _ _ (HZ _ _ e).2, fun a' o' e => by simp [e], fun a' o' e => ?_, ⟨_, hcall.ns⟩, nzZ _ (Nat.le_refl _), ?_, fun y c e => ⟨?_, fun _ => ?_, fun hf => by cases hf⟩, ?_, fun y d' e => ?_, ?_⟩
    · have e' := b.bas _ _ e
      cases q : Z a' with
      | none => right; simp [q, e']
      | some ob => left; have := b.zin _ _ q; rw [e'] at this; cases this; rfl
    · show (if Z s.heap.objs.size = none then s.heap.get? s.heap.objs.size else none) = none
      rw [nzZ _ (Nat.le_refl _), if_pos rfl]; exact hLnone
    · exact Nat.ne_of_gt (x.above y c (mem_of_lookup e))
    · have hc : s.heap.objs.size ≤ c := Nat.le_of_lt (x.above y c (mem_of_lookup e))
      refine ⟨nzZ c hc, ?_, _, x.cell y c e⟩
      show (if Z c = none then s.heap.get? c else none) = none
      rw [nzZ c hc, if_pos rfl]; exact nz c hc
    · exact fun y z c e e' => name_of_addr x.apart (mem_of_lookup e) (mem_of_lookup e')
    · obtain ⟨v, d'', e', hm, r'⟩ := startLoc_lookup r hlen e
      cases e'
      have hxm : y ∈ xs := by rw [← hmap]; exact List.mem_map_of_mem hm
      refine ⟨v, ?_, r'⟩
      rcases hx y hxm with q | ⟨q, q'⟩
      · exact .inl ⟨q, _, hcall.ns, bindL_get (k := (callEnvC fd s.heap.objs.size a).kindOf) q hnd' hm⟩
      · obtain ⟨c, hc⟩ := Option.isSome_iff_exists.mp (q' (s.heap.objs.size + 1))
        refine .inr ⟨.inl q, c, hc, ?_⟩
        have := x.cell y c hc
        exact (bindC_get (k := (callEnvC fd s.heap.objs.size a).kindOf) q hnd' hm) ▸ this
    · refine ⟨fun _ => 0, fun y z es es' e => ?_, fun y es e => ?_⟩
      · obtain ⟨_, _, e', _⟩ := startLoc_lookup r hlen e; cases e'
      · obtain ⟨_, _, e', _⟩ := startLoc_lookup r hlen e; cases e'
  refine wp_seq ((h s.heap.objs.size).run _ Z _ _ R.deeper S₁) fun f s₂ ⟨Z₂, ρ₂, fl, le₂, S₂, hf, hΦ⟩ tok₂ => ?_
  cases hf with
  | next => cases hΦ; exact ⟨Z₂, ext_of_frame b le₂ S₂ tok₂, .none⟩
  | brk => exact hΦ.elim
  | cont => exact hΦ.elim
  | ret r' => cases hΦ; exact ⟨Z₂, ext_of_frame b le₂ S₂ tok₂, r'⟩

end
end Mine
end
section
open PySem PySem.W PyProof.Rows
set_option linter.unusedVariables false
namespace Mine

section
variable {G : Gnd} {env : Env} {Z Z' H H' : Zf} {ρ ρ' : Loc} {s s' : Shared} {A : Around} {E : Value → Shared → Prop} {n : Nat} {pos apos : Pos}

/-- what is known is forgotten -/
def Sub (ρ ρ' : Loc) : Prop := ∀ x b, ρ.lookup x = some b → ρ'.lookup x = some b
theorem St.weaken (S : St G env Z H ρ' s) (h : Sub ρ ρ') : St G env Z H ρ s :=
  { S with
    vars := fun x d e => S.vars x d (h x _ e)
    owns := let ⟨oa, hi, ho⟩ := S.owns; ⟨oa, fun x y ds es ex ey => hi x y ds es (h x _ ex) (h y _ ey), fun x ds e => ho x ds (h x _ e)⟩ }
theorem Sub.same : Sub ρ ρ := fun _ _ h => h
theorem Sub.trans {ρ'' : Loc} (a : Sub ρ ρ') (b : Sub ρ' ρ'') : Sub ρ ρ'' := fun x b' h => b x b' (a x b' h)
theorem sub_upd {x : Str} {b : B} (h : ρ.lookup x = none) : Sub ρ (upd ρ x b) := fun y c e => by
  rw [lookup_upd]
  rw [if_neg fun q => by rw [q, h] at e; cases e]
  exact e

/-- held objects are changed, or held anew, or no more -/
theorem St.shift (S : St G env Z H ρ s) {h' : Heap} {t : Nat} (T : Addr → Prop) (hT : ∀ a, T a → G.base.get? a = none ∧ (∀ y c, env.cells.lookup y = some c → c ≠ a) ∧ ((∃ o, H a = some o) ∨ s.heap.get? a = none))
    (hk : ∀ b ob, ¬ T b → s.heap.get? b = some ob → h'.get? b = some ob) (hH : ∀ b, ¬ T b → H' b = H b) (hH' : ∀ a o, T a → H' a = some o → h'.get? a = some o) (ht : s.toks ≤ t) : St G env Z H' ρ { s with heap := h', toks := t } := by
  have zT : ∀ a ob, Z a = some ob → ¬ T a := fun a ob h q => by
    rcases (hT a q).2.2 with ⟨o, e⟩ | e
    · have := S.dj a ob h; rw [e] at this; cases this
    · have := S.zin a ob h; rw [e] at this; cases this
  have nT : ∀ a ob, s.heap.get? a = some ob → H a = none → ¬ T a := fun a ob h hn q => by
    rcases (hT a q).2.2 with ⟨o, e⟩ | e
    · rw [hn] at e; cases e
    · rw [h] at e; cases e
  obtain ⟨m, oL, es, ep, eL, eL'⟩ := S.ns
  have lT := nT _ _ eL S.lh
  have cT : ∀ y c, env.cells.lookup y = some c → ¬ T c := fun y c e q => (hT c q).2.1 y c e rfl
  have has : ∀ y v, Has env s.heap y v → Has env h' y v := fun y v q => by
    rcases q with ⟨k, m, ⟨ob, es, ep, e1, e2⟩, e⟩ | ⟨k, c, e, ob, e1, e2⟩
    · exact .inl ⟨k, m, ⟨ob, es, ep, hk _ _ lT e1, e2⟩, e⟩
    · exact .inr ⟨k, c, e, ob, hk _ _ (cT y c e) e1, e2⟩
  refine ⟨S.fk, S.gl, S.bl, S.gens, S.os, Nat.lt_of_lt_of_le S.tk ht, fun a ob h => hk _ _ (zT a ob h) (S.zin a ob h), fun a ob h => ?_, fun a ob h => ?_, fun a ob h => ?_, ⟨m, oL, es, ep, hk _ _ lT eL, eL'⟩, S.lz, ?_, fun y c e => ?_, S.inj, fun y d e => ?_, ?_⟩
  · by_cases q : T a
    · exact hH' a ob q h
    · rw [hH a q] at h; exact hk _ _ q (S.hin a ob h)
  · rw [hH a (zT a ob h)]; exact S.dj a ob h
  · refine (S.bas a ob h).elim .inl fun q => .inr ?_
    rw [hH a fun z => by rw [(hT a z).1] at h; cases h]; exact q
  · rw [hH _ lT]; exact S.lh
  · obtain ⟨h0, h1, h2⟩ := S.cells y c e
    refine ⟨h0, fun hf => ?_, fun hf => ?_⟩
    · obtain ⟨a, b, v, ob, e1, e2⟩ := h1 hf
      exact ⟨a, by rw [hH _ (cT y c e)]; exact b, v, ob, hk _ _ (cT y c e) e1, e2⟩
    · obtain ⟨ob, h⟩ := h2 hf
      exact ⟨ob, by rw [hH _ (cT y c e)]; exact h⟩
  · obtain ⟨v, h, r⟩ := S.vars y d e; exact ⟨v, has y v h, r⟩
  · obtain ⟨oa, hi, h⟩ := S.owns
    refine ⟨oa, hi, fun y ds e => ?_⟩
    obtain ⟨g1, g2, g3, g4, g5, vs, k, g6, g7⟩ := h y ds e
    exact ⟨has _ _ g1, g2, by rw [hH _ (nT _ _ g6 g3)]; exact g3, g4, g5, vs, k, hk _ _ (nT _ _ g6 g3) g6, g7⟩

structure Tsts (G : Gnd) (env : Env) (n : Nat) (ρ : Loc) (ifs : List PySem.Expr) (ok : Bool) : Prop where
  run : ∀ A Z H s, Room n A → St G env Z H ρ s → wpAny (model G.prog G.w) A (forIn ifs true fun c r => if r = true then do let ok ← isTrue c env (eval c env); pure (ForInStep.yield ok) else pure (ForInStep.yield r)) (fun b s' => b = ok ∧ Ext Z s Z s') (fun _ _ => False) s
theorem tsts_nil : Tsts G env n ρ [] true := Tsts.mk fun A Z H s R S => wpAny_tests_nil ⟨rfl, S.same⟩
theorem tsts_one {c : PySem.Expr} {ok : Bool} (h : Tst G env n ρ c ok) : Tsts G env n ρ [c] ok := Tsts.mk fun A Z H s R S => wpAny_tests_one (h.run A Z H s R S)

/-- what stands while a comprehension's loop runs: its iterator and its list are held -/
structure CRun (G : Gnd) (env : Env) (n : Nat) (e : PySem.Expr) (k : Nat) (ρ : Loc) (ds : List D) (out : List D) : Prop where
  run : ∀ A Z H s I D fp P W vs m outs o, Room n A → St G env Z H ρ s → H I = some o → H D = some (listOf vs.toArray m) → I ≠ D → RepAll G Z vs outs → outs.length + out.length ≤ sizeLine →
    G.base.get? I = none → G.base.get? D = none → (∀ y c, env.cells.lookup y = some c → c ≠ I ∧ c ≠ D) →
    (∀ A' : Around, A'.handled = none → WalksG G A' I fp [I] ds.length P W) → (∀ b ∈ fp, b = I ∨ ∃ o, Z b = some o) → W 0 s.heap → (∀ i h, W i h → ∃ o T, h.get? I = some o ∧ o.cls = .type T ∧ ownsTuples T = false) →
    (∀ i v, P i v → ∃ d, ds[i]? = some d ∧ Rep G Z v d) →
    codeAny (model G.prog G.w) A (.compLoop e k (.ref I) (.ref D) env) (fun r s' => r = .ok .next ∧ ∃ Z' H' vs' m', Zle Z Z' ∧ (∀ b, b ≠ I → b ≠ D → H' b = H b) ∧ H' I = none ∧ H' D = some (listOf vs'.toArray m') ∧
      St G env Z' H' ρ s' ∧ RepAll G Z' vs' (outs ++ out)) s

theorem comp_start {elt : PySem.Expr} {gens : List Comprehension} {g : Comprehension} {scope : Scope} {k : Nat} {it acc : Value} {R : Result → Shared → Prop} {prog : Program} {w : World} (hg : gens[k]? = some g) (ha : g.is_async = 0)
    (h0 : codeAny (model prog w) A (.compLoop (.ListComp elt gens scope pos) k it acc env) R s)
    (h : wpAny (model prog w) A (pyIter it) (fun it' s' => codeAny (model prog w) A (.compLoop (.ListComp elt gens scope pos) k it' acc env) R s') (notedBy (model prog w) A env fun x s' => R (.error x) s') s) :
    codeAny (model prog w) A (.compStart (.ListComp elt gens scope pos) k it acc env) R s := by
  refine codeAny_of_tree ?_
  show wpAny _ _ ((compStart (.ListComp elt gens scope pos) k it acc env).onRaise (fun x => do noteFrame x env; standAt theWindowsPlace)) _ _ s
  refine wpAny_notedAt ?_
  unfold compStart
  simp only [clausesOf, hg, Option.elim_some, ha]
  show wpAny _ _ (ask >>= _) _ _ s
  refine wpAny_bind (wpAny_askSetting (wpAny_ite ?_))
  split
  · exact wpAny_pure (And.intro rfl h0)
  · exact wpAny_bind (wpAny_rule (wpAny_bind (wpAny_standAt (wpAny_bind (wpAny_mono h (fun it' s' h' => wpAny_pure (And.intro rfl h')) fun _ _ x => x)))))

def CInv (G : Gnd) (env : Env) (ρ : Loc) (Z H : Zf) (I D : Addr) {α : Type} (xs : List α) (F : α → List Mine.D) (outs : List Mine.D) (W : Nat → Heap → Prop) (j : Nat) (s : Shared) : Prop :=
  ∃ (i : Nat) (Zc Hc : Zf) (vs : List Value) (m : Nat) (o : Obj), j = xs.length - i ∧ i ≤ xs.length ∧ Zle Z Zc ∧ (∀ b, b ≠ I → b ≠ D → Hc b = H b) ∧ Hc I = some o ∧ Hc D = some (listOf vs.toArray m) ∧ St G env Zc Hc ρ s ∧ W i s.heap ∧
    RepAll G Zc vs (outs ++ (xs.take i).flatMap F)
/-- the last clause of a comprehension -/
theorem comp_last {elt tgt iter : PySem.Expr} {ifs : List PySem.Expr} {gens : List Comprehension} {scope : Scope} {k : Nat} {α : Type} {xs : List α} {mk : α → D} {F : α → List D}
    (he : ∀ it acc, compTurn (.ListComp elt gens scope pos) k it acc env = (do
      standAt iter.pos
      match ← pyNext it with
      | none => pure (.done .next)
      | some v =>
        letOwnedTupleGo tgt it v
        assign tgt env v
        let mut ok := true
        for c in ifs do
          if ok then ok ← isTrue c env (eval c env)
        if ok then
          (do let _ ← call (.builtin "list.append") [acc, ← eval elt env])
        again (.compLoop (.ListComp elt gens scope pos) k it acc env)))
    (item : ∀ a ∈ xs, ∃ ρ₁ ok, Asg G env tgt (mk a) ρ ρ₁ ∧ Sub ρ ρ₁ ∧ Tsts G env n ρ₁ ifs ok ∧ (ok = false → F a = []) ∧ (ok = true → ∃ x, Ev G env n ρ₁ elt x ∧ F a = [x])) :
    CRun G env n (.ListComp elt gens scope pos) k ρ (xs.map mk) (xs.flatMap F) := by
  constructor
  intro A Z H s I D fp P W vs m outs o R S hI hD hID hv hsz hBI hBD hC hW hfp hW0 hcls hP
  have W₀ := hW A R.handled
  refine codeAny_loop rfl (CInv G env ρ Z H I D xs F outs W) (fun j s hj => ?_) xs.length ⟨0, Z, H, vs, m, o, rfl, Nat.zero_le _, Zle.same, fun _ _ _ => rfl, hI, hD, S, hW0, by simpa using hv⟩
  obtain ⟨i, Zc, Hc, vs, m, o, rfl, hle, lec, hHc, hI, hD, Sc, hWi, hv⟩ := hj
  show wpAny _ A ((compTurn (.ListComp elt gens scope pos) k (.ref I) (.ref D) env).onRaise (fun x => do noteFrame x env; theTreesLotGoes x)) _ _ s
  refine wpAny_noted ?_
  rw [he]
  have len : (xs.map mk).length = xs.length := List.length_map ..
  by_cases hlt : i < xs.length
  · refine wpAny_bind (wpAny_standAt (wpAny_bind (wpAny_with_toks (Nat.le_refl s.toks) (W₀.item i s _ _ (by omega) Sc.tk hWi fun v h' tk pv hW' hk tok => ?_))))
    obtain ⟨d', hd', rv⟩ := hP i v pv
    obtain ⟨o', T, ho', hcT, hTT⟩ := hcls _ _ hW'
    obtain ⟨a, ha⟩ : ∃ a, xs[i]? = some a := ⟨xs[i], by simp [hlt]⟩
    have hd'' : d' = mk a := by rw [List.getElem?_map, ha] at hd'; simpa using hd'.symm
    subst hd''
    have S₁ : St G env Zc (Zadd Hc I o') ρ { s with heap := h', toks := tk } := Sc.shift (fun b => b = I) (fun b q => by subst q; exact ⟨hBI, fun y c e => (hC y c e).1, .inl ⟨_, hI⟩⟩) (fun b ob hb e => hk b ob (by simpa using hb) e)
      (fun b hb => if_neg hb) (fun b ob q e => by subst q; rw [Zadd.self] at e; cases e; exact ho') tok
    have hD₁ : Zadd Hc I o' D = some (listOf vs.toArray m) := by rw [show Zadd Hc I o' D = Hc D from if_neg (Ne.symm hID)]; exact hD
    refine wpAny_bind (wp_letOwned (s := { s with heap := h', toks := tk }) ho' hcT hTT ?_)
    obtain ⟨ρ₁, ok, hasg, hsub, htst, hno, hyes⟩ := item a (List.mem_of_getElem? ha)
    refine wpAny_bind (wp_seq (hasg.run A Zc _ _ v (R.less (Nat.zero_le _)) S₁ (rv.mono lec)) fun _ s₂ ⟨Z₂, le₂, S₂⟩ => ?_)
    refine wpAny_bind (wp_seq (htst.run A Z₂ _ s₂ R S₂) fun ok' s₃ ⟨eo, x₃⟩ => ?_)
    subst eo
    have S₃ := S₂.ext x₃
    have take_succ : (xs.take (i + 1)).flatMap F = (xs.take i).flatMap F ++ F a := by rw [List.take_add_one, ha]; simp
    have nextW : ∀ (Z₄ H₄ : Zf) (s₄ : Shared) (ρ₄ : Loc), Zle Zc Z₄ → H₄ I = some o' → St G env Z₄ H₄ ρ₄ s₄ → W (i + 1) s₄.heap := fun Z₄ H₄ s₄ ρ₄ le₄ hI₄ S₄ => W₀.frame _ _ _ hW' fun b hb ob e => by
      rcases hfp b hb with rfl | ⟨oz, hz⟩
      · rw [ho'] at e; cases e; exact S₄.hin _ _ hI₄
      · have e2 : h'.get? b = some oz := S₁.zin b oz (lec b oz hz)
        rw [e] at e2; cases e2
        exact S₄.zin _ _ (le₄ _ _ (lec _ _ hz))
    cases ok' with
    | false =>
      refine wpAny_pure ⟨rfl, xs.length - (i + 1), by omega, i + 1, Z₂, Zadd Hc I o', vs, m, o', rfl, by omega, lec.trans le₂, fun b h1 h2 => ?_, Zadd.self, hD₁, S₃.weaken hsub, nextW Z₂ _ s₃ ρ₁ le₂ Zadd.self S₃, ?_⟩
      · rw [show Zadd Hc I o' b = Hc b from if_neg h1]; exact hHc b h1 h2
      · rw [take_succ, hno rfl, List.append_nil]; exact hv.mono le₂
    | true =>
      obtain ⟨x, hx, hFx⟩ := hyes rfl
      refine wpAny_bind (wpAny_bind (wp_seq (hx.run A Z₂ _ s₃ R S₃) fun y s₄ ⟨Z₄, x₄, r₄⟩ => wpAny_bind ?_))
      have S₄ := S₃.ext x₄
      have oD := S₄.hin _ _ hD₁
      have hlenv : vs.length ≤ sizeLine := by
        have h1 := hv.length
        rw [List.length_append] at h1
        have h2 : ((xs.take i).flatMap F).length ≤ (xs.flatMap F).length := by
          conv => rhs; rw [← List.take_append_drop i xs, List.flatMap_append, List.length_append]
          omega
        omega
      refine append_at oD (fun h₅ hs₅ ho₅ => ?_) (by simpa using hlenv)
      have S₅ : St G env Z₄ (Zadd (Zadd Hc I o') D (listOf (vs ++ [y]).toArray (m + 1))) ρ₁ { s₄ with heap := h₅ } := S₄.shift (fun b => b = D) (fun b q => by subst q; exact ⟨hBD, fun y c e => (hC y c e).2, .inl ⟨_, hD₁⟩⟩)
        (fun b ob hb e => (hs₅.2 b hb).trans e) (fun b hb => if_neg hb) (fun b ob q e => by subst q; rw [Zadd.self] at e; cases e; rw [ho₅]; simp) (Nat.le_refl _)
      have hI₅ : Zadd (Zadd Hc I o') D (listOf (vs ++ [y]).toArray (m + 1)) I = some o' := by rw [show Zadd (Zadd Hc I o') D (listOf (vs ++ [y]).toArray (m + 1)) I = Zadd Hc I o' I from if_neg hID]; exact Zadd.self
      refine wpAny_pure (wpAny_pure ⟨rfl, xs.length - (i + 1), by omega, i + 1, Z₄, _, vs ++ [y], m + 1, o', rfl, by omega, lec.trans (le₂.trans x₄.le), fun b h1 h2 => ?_, hI₅, Zadd.self, S₅.weaken hsub, nextW Z₄ _ _ ρ₁ (le₂.trans x₄.le) hI₅ S₅, ?_⟩)
      · rw [show Zadd (Zadd Hc I o') D (listOf (vs ++ [y]).toArray (m + 1)) b = Zadd Hc I o' b from if_neg h2, show Zadd Hc I o' b = Hc b from if_neg h1]; exact hHc b h1 h2
      · rw [take_succ, hFx, ← List.append_assoc]; exact (hv.mono (le₂.trans x₄.le)).append (.cons r₄ .nil)
  · have hlen : i = xs.length := by omega
    subst hlen
    refine wpAny_bind (wpAny_standAt (wpAny_bind (wpAny_with_toks (Nat.le_refl s.toks) (W₀.done s _ _ (by rw [len]; exact hWi) fun h' tk hk tok => ?_))))
    refine wpAny_pure ⟨rfl, Zc, fun b => if b = I then none else Hc b, vs, m, lec, fun b h1 h2 => ?_, if_pos rfl, ?_, ?_, ?_⟩
    · exact (if_neg h1).trans (hHc b h1 h2)
    · exact (if_neg (Ne.symm hID)).trans hD
    · exact Sc.shift (fun b => b = I) (fun b q => by subst q; exact ⟨hBI, fun y c e => (hC y c e).1, .inl ⟨_, hI⟩⟩) (fun b ob hb e => hk b ob (by simpa using hb) e) (fun b hb => if_neg hb) (fun b ob q e => by have e' : (if b = I then none else Hc b) = some ob := e; rw [if_pos q] at e'; cases e') tok
    · rwa [List.take_length] at hv

end
end Mine
end
section
open PySem PySem.W PyProof.Rows
set_option linter.unusedVariables false
namespace Mine

section
variable {G : Gnd} {env : Env} {Z Z' H H' : Zf} {ρ ρ' ρc : Loc} {s s' : Shared} {A : Around} {E : Value → Shared → Prop} {n : Nat} {pos apos : Pos}

/-- what must be so of a comprehension's scope, seen from the frame around -/
structure Scoped (env : Env) (scope : Scope) (cl : List (Str × Addr)) (ρ ρc : Loc) : Prop where
  kind : scope.kind = .function
  names : ∀ x ∈ scope.names, x.2 = .local → scope.names.lookup x.1 = some .local
  nocell : ∀ y ∈ scope.names, y.2 ≠ .cell
  clos : closureFor scope env = pure cl
  cells : ∀ x c, cl.lookup x = some c → env.cells.lookup x = some c
  cap : ∀ x b, ρc.lookup x = some b → (∃ d, b = .val d) ∧ ρ.lookup x = some b ∧ env.kindOf x ≠ some .local ∧ (∃ c, cl.lookup x = some c) ∧ ((relabel scope env).names.lookup x = some .cell ∨ ((relabel scope env).names.lookup x = some .free ∧ (x == ("__classdict__" : Str)) = false))

def CompPost (G : Gnd) (Z : Zf) (s : Shared) (out : List D) (acc : Value) (C : Addr) (r : Result) (s' : Shared) : Prop :=
  r = .ok .next ∧ ∃ Z', Ext Z s Z' s' ∧ Rep G Z' acc (.list out) ∧ s.heap.get? C = none ∧ Z' C = none ∧ ∃ m, s'.heap.Ns C m

theorem comp_core {elt : PySem.Expr} {g : Comprehension} {gs : List Comprehension} {scope : Scope} {cl : List (Str × Addr)} {d : D} {ds out : List D} (R : Room n A) (S : St G env Z H ρ s) (K : Scoped env scope cl ρ ρc) (ha : g.is_async = 0)
    (h : Ev G env n ρ g.iter d) (hi : Itr G d ds) (run : ∀ C, CRun G (compEnvC scope cl C env) n (.ListComp elt (g :: gs) scope pos) 0 ρc ds out) (hsz : out.length ≤ sizeLine) :
    wpAny (model G.prog G.w) A (eval g.iter env) (fun x s₁ => wpAny (model G.prog G.w) A (pyIter x) (fun it s₂ => wpAny (model G.prog G.w) A (newList []) (fun acc s₃ =>
      wpAny (model G.prog G.w) A (newFunctionEnv scope env.globals cl [] env.qual none .none (some env)) (fun cenv s₄ =>
        codeAny (model G.prog G.w) A (.compStart (.ListComp elt (g :: gs) scope pos) 0 it acc { cenv with scope := relabel scope env }) (CompPost G Z s out acc cenv.locals) s₄) E s₃) E s₂) E s₁) E s := by
  refine wp_seq (h.run A Z H s R S) fun v s₁ ⟨Z₁, x₁, r₁⟩ => ?_
  have S₁ := S.ext x₁
  refine wp_seq (hi.run A Z₁ s₁ v (R.less (Nat.zero_le _)) S₁.bs r₁) fun it s₂ ⟨I, fp, P, W, e, x₂, hI, hW, hfp, hW0, hcls, hP⟩ => ?_
  subst e
  have S₂ := S₁.ext x₂
  refine wpAny_newObj_type (wpAny_newFunctionEnv K.nocell (by intro y hy; simp at hy) (fun h₁ hns₁ hsb₁ => ?_) K.kind)
  dsimp only at hns₁ hsb₁ ⊢
  generalize hH2 : s₂.heap.push { cls := .type "list", dict := none, data := .seq ([] : List Value).toArray } = H2 at hns₁ hsb₁ ⊢
  have hC : H2.objs.size = s₂.heap.objs.size + 1 := by rw [← hH2, Heap.size_push]
  have oldC : ∀ b ob, s₂.heap.get? b = some ob → b ≠ H2.objs.size ∧ b ≠ s₂.heap.objs.size := fun b ob e => by
    have := Heap.lt_size e
    rw [hC]
    exact ⟨Nat.ne_of_lt (Nat.lt_succ_of_lt this), Nat.ne_of_lt this⟩
  have old : ∀ b o, s₂.heap.get? b = some o → h₁.get? b = some o := fun b o e => hsb₁.extBut b o (oldC b o e).1 (Heap.get?_push_of_some _ (hH2 ▸ Heap.get?_push_of_some _ e))
  have hDC : s₂.heap.objs.size ≠ H2.objs.size := by rw [hC]; exact Nat.ne_of_lt (Nat.lt_succ_self _)
  have hDo : h₁.get? s₂.heap.objs.size = some (listOf ([] : List Value).toArray 0) := hsb₁.extBut _ _ hDC (Heap.get?_push_of_some _ (hH2 ▸ Heap.get?_push_size _ rfl))
  have hCn : s₂.heap.get? H2.objs.size = none := by
    cases q : s₂.heap.get? H2.objs.size with
    | none => rfl
    | some ob => exact absurd rfl (oldC _ ob q).1
  have hDn : s₂.heap.get? s₂.heap.objs.size = none := get?_size_none _
  obtain ⟨oI, _, hoI, _⟩ := hcls 0 _ hW0
  have zn : ∀ b, s₂.heap.get? b = none → Z₁ b = none := fun b e => by
    cases q : Z₁ b with
    | none => rfl
    | some ob => have := S₂.zin b ob q; rw [e] at this; cases this
  have hIn : Z₁ I = none := by
    cases q : Z₁ I with
    | none => rfl
    | some ob => have := S₁.zin I ob q; rw [hI] at this; cases this
  let HH : Zf := fun b => if Z₁ b = none then (if b = H2.objs.size then none else h₁.get? b) else none
  have HHof : ∀ b ob, HH b = some ob → Z₁ b = none ∧ b ≠ H2.objs.size ∧ h₁.get? b = some ob := fun b ob e => by
    have e' : (if Z₁ b = none then (if b = H2.objs.size then none else h₁.get? b) else none) = some ob := e
    split at e'
    · rename_i q
      split at e'
      · cases e'
      · rename_i q'; exact ⟨q, q', e'⟩
    · cases e'
  have HHto : ∀ b ob, Z₁ b = none → b ≠ H2.objs.size → h₁.get? b = some ob → HH b = some ob := fun b ob q q' e => by
    show (if Z₁ b = none then (if b = H2.objs.size then none else h₁.get? b) else none) = some ob
    rw [if_pos q, if_neg q']; exact e
  have cellNew : ∀ x c, cl.lookup x = some c → Z₁ c = none ∧ ∃ ob, s₂.heap.get? c = some ob := fun x c e => by
    obtain ⟨_, h1, h2⟩ := S₂.cells x c (K.cells x c e)
    cases hf : env.func.isSome with
    | true => obtain ⟨a, _, v, ob, e1, _⟩ := h1 hf; exact ⟨a, ob, e1⟩
    | false =>
      obtain ⟨ob, e1⟩ := h2 hf
      refine ⟨?_, ob, S₂.hin c ob e1⟩
      cases q : Z₁ c with
      | none => rfl
      | some oz => have := S₂.dj c oz q; rw [e1] at this; cases this
  have SC : St G (compEnvC scope cl H2.objs.size env) Z₁ HH ρc { s₂ with heap := h₁, toks := s₂.toks + ([] : List (Str × Value)).length } := by
    refine ⟨K.kind, S₂.gl, S₂.bl, S₂.gens, S₂.os, S₂.tk, fun b ob e => old b ob (S₂.zin b ob e), fun b ob e => (HHof b ob e).2.2, fun b ob e => ?_, fun b ob e => ?_, ⟨_, hns₁⟩, zn _ hCn, ?_, fun x c e => ⟨?_, fun hf => (by cases hf), fun _ => ?_⟩, fun x y c e e' => S₂.inj x y c (K.cells x c e) (K.cells y c e'), fun x d' e => ?_, ?_⟩
    · show (if Z₁ b = none then (if b = H2.objs.size then none else h₁.get? b) else none) = none
      rw [if_neg (by rw [e]; intro q; cases q)]
    · have e2 := S₂.keepBase b ob e
      cases q : Z₁ b with
      | none => exact .inr (HHto b ob q (oldC b ob e2).1 (old b ob e2))
      | some oz => left; have := S₂.zin b oz q; rw [e2] at this; cases this; rfl
    · show (if Z₁ H2.objs.size = none then (if H2.objs.size = H2.objs.size then none else h₁.get? H2.objs.size) else none) = none
      rw [if_pos (zn _ hCn), if_pos rfl]
    · obtain ⟨_, ob, e1⟩ := cellNew x c e
      exact (oldC c ob e1).1
    · obtain ⟨hz, ob, e1⟩ := cellNew x c e
      exact ⟨ob, HHto c ob hz (oldC c ob e1).1 (old c ob e1)⟩
    · obtain ⟨_, e1, hk, ⟨c, hc⟩, hkd⟩ := K.cap x _ e
      obtain ⟨u, hu, ru⟩ := S₂.vars x d' e1
      refine ⟨u, ?_, ru⟩
      rcases hu with ⟨k, _⟩ | ⟨_, c', e2, n2⟩
      · exact absurd k hk
      · rw [K.cells x c hc] at e2; cases e2
        refine .inr ⟨hkd, c, hc, n2.keeps old⟩
    · refine ⟨fun _ => 0, fun x y es es' e => ?_, fun x es e => ?_⟩
      · obtain ⟨⟨_, e'⟩, _⟩ := K.cap x _ e; cases e'
      · obtain ⟨⟨_, e'⟩, _⟩ := K.cap x _ e; cases e'
  have nIC := (oldC I oI hoI).1
  have nID := (oldC I oI hoI).2
  have bn : ∀ b, s₁.heap.get? b = none → G.base.get? b = none := fun b e => by
    cases q : G.base.get? b with
    | none => rfl
    | some ob => have := S₁.keepBase b ob q; rw [e] at this; cases this
  have hDn₁ : s₁.heap.get? s₂.heap.objs.size = none := by
    cases q : s₁.heap.get? s₂.heap.objs.size with
    | none => rfl
    | some ob => rw [x₂.keep _ _ q] at hDn; cases hDn
  have loop := (run H2.objs.size).run A Z₁ HH _ I s₂.heap.objs.size fp P W [] 0 [] oI R SC (HHto I oI hIn nIC (old I oI hoI)) (HHto _ _ (zn _ hDn) hDC hDo) nID .nil (by simpa using hsz) (bn _ hI) (bn _ hDn₁)
    (fun x c e => by
      obtain ⟨hz, ob, e1⟩ := cellNew x c e
      refine ⟨fun q => ?_, (oldC c ob e1).2⟩
      obtain ⟨_, h1, h2⟩ := S₁.cells x c (K.cells x c e)
      cases hf : env.func.isSome with
      | true => obtain ⟨_, _, v, ob', e2, _⟩ := h1 hf; rw [q, hI] at e2; cases e2
      | false => obtain ⟨ob', e2⟩ := h2 hf; have := S₁.hin _ _ e2; rw [q, hI] at this; cases this)
    hW hfp ((hW A R.handled).frame _ _ _ hW0 fun b _ ob e => old b ob e) hcls hP
  have fin : ∀ (r : Result) (s' : Shared), (s₂.toks ≤ s'.toks ∧ r = .ok .next ∧ ∃ Z' H' vs' m', Zle Z₁ Z' ∧ (∀ b, b ≠ I → b ≠ s₂.heap.objs.size → H' b = HH b) ∧ H' I = none ∧ H' s₂.heap.objs.size = some (listOf vs'.toArray m') ∧
      St G (compEnvC scope cl H2.objs.size env) Z' H' ρc s' ∧ RepAll G Z' vs' ([] ++ out)) → CompPost G Z s out (.ref s₂.heap.objs.size) H2.objs.size r s' := by
    rintro r s' ⟨tok, rfl, Z', H', vs', m', le', hH', hI', hD', S', hv'⟩
    have hDz : Z' s₂.heap.objs.size = none := by
      cases q : Z' s₂.heap.objs.size with
      | none => rfl
      | some ob => have := S'.dj _ ob q; rw [hD'] at this; cases this
    have le := Zadd.le (o := listOf vs'.toArray m') hDz
    have keep : ∀ b ob, s₁.heap.get? b = some ob → b ≠ I ∧ b ≠ s₂.heap.objs.size ∧ b ≠ H2.objs.size := fun b ob e => by
      have e2 := x₂.keep b ob e
      exact ⟨fun q => (by rw [q, hI] at e; cases e), (oldC b ob e2).2, (oldC b ob e2).1⟩
    refine ⟨rfl, Zadd Z' s₂.heap.objs.size (listOf vs'.toArray m'), x₁.trans ⟨le'.trans le, fun b ob e => ?_, fun b ob e => ?_, fun b ob e => ?_, S'.gens.trans S₁.gens.symm, S'.os.trans S₁.os.symm, Nat.le_trans x₂.tk tok⟩, .list Zadd.self (hv'.mono le), ?_, ?_, S'.ns⟩
    · obtain ⟨q1, q2, q3⟩ := keep b ob e
      cases q : Z₁ b with
      | none => exact S'.hin b ob (by rw [hH' b q1 q2]; exact HHto b ob q q3 (old b ob (x₂.keep b ob e)))
      | some oz => have := S₁.zin b oz q; rw [e] at this; cases this; exact S'.zin b ob (le' b ob q)
    · by_cases q : b = s₂.heap.objs.size
      · subst q; rw [Zadd.self] at e; cases e; exact S'.hin _ _ hD'
      · rw [show Zadd Z' s₂.heap.objs.size (listOf vs'.toArray m') b = Z' b from if_neg q] at e
        exact S'.zin b ob e
    · by_cases q : b = s₂.heap.objs.size
      · subst q; exact .inr hDn₁
      · rw [show Zadd Z' s₂.heap.objs.size (listOf vs'.toArray m') b = Z' b from if_neg q] at e
        cases q1 : s₁.heap.get? b with
        | none => exact .inr rfl
        | some o1 =>
          left
          obtain ⟨p1, p2, p3⟩ := keep b o1 q1
          cases q2 : Z₁ b with
          | some oz => have := le' b oz q2; rw [e] at this; cases this; rfl
          | none =>
            have h1 := HHto b o1 q2 p3 (old b o1 (x₂.keep b o1 q1))
            have := S'.dj b ob e
            rw [hH' b p1 p2, h1] at this; cases this
    · cases q : s.heap.get? H2.objs.size with
      | none => rfl
      | some ob => have := x₂.keep _ _ (x₁.keep _ _ q); rw [hCn] at this; cases this
    · rw [show Zadd Z' s₂.heap.objs.size (listOf vs'.toArray m') H2.objs.size = Z' H2.objs.size from if_neg (Ne.symm hDC)]
      exact S'.lz
  have loop' := codeAny_mono (codeAny_toks_of (n := s₂.toks) (by exact Nat.le_add_right _ _) loop) fin
  exact comp_start rfl ha loop' ((hW A R.handled).self 0 _ _ _ ((hW A R.handled).frame _ _ _ hW0 fun b _ ob e => old b ob e) loop')

theorem eval_ListComp' (elt : PySem.Expr) (g : Comprehension) (gs : List Comprehension) (scope : Scope) (pos : Pos) (ha : g.is_async = 0) (use : Option (Value → Sem Unit)) :
    comprehension (.ListComp elt (g :: gs) scope pos) scope env (firstIterPos (g :: gs) pos) (newList []) (firstAsync (g :: gs)) (firstIter (g :: gs) env) use =
      comprehension (.ListComp elt (g :: gs) scope pos) scope env (firstIterPos (g :: gs) pos) (newList []) false (eval g.iter env) use := by
  obtain ⟨t, i, f, a⟩ := g
  subst ha
  rfl

theorem ev_listcomp {elt : PySem.Expr} {g : Comprehension} {gs : List Comprehension} {scope : Scope} {cl : List (Str × Addr)} {d : D} {ds out : List D} (K : Scoped env scope cl ρ ρc) (ha : g.is_async = 0) (hs : ∀ x, foldedSetIterable g.iter env x = pure x)
    (h : Ev G env n ρ g.iter d) (hi : Itr G d ds) (run : ∀ C, CRun G (compEnvC scope cl C env) n (.ListComp elt (g :: gs) scope pos) 0 ρc ds out) (hsz : out.length ≤ sizeLine) :
    Ev G env n ρ (.ListComp elt (g :: gs) scope pos) (.list out) := by
  constructor
  intro A Z H s R S
  unfold Yields
  rw [show eval (.ListComp elt (g :: gs) scope pos) env = _ from eval_ListComp' elt g gs scope pos ha none]
  refine wpAny_comprehension_free (use := none) rfl hs K.clos K.kind K.names (wpAny_mono (comp_core R S K ha h hi run hsz) (fun x s₁ h₁ => wpAny_mono h₁ (fun it s₂ h₂ => wpAny_mono h₂ (fun acc s₃ h₃ => wpAny_mono h₃ (fun cenv s₄ h₄ => codeAny_mono h₄ fun r s' hr => ?_) fun _ _ e => e) fun _ _ e => e) fun _ _ e => e) fun _ _ e => e)
  obtain ⟨rfl, Z', x, r, hC, hZC, m, hm⟩ := hr
  refine ⟨m, hm, fun h' hs' => ⟨Z', ⟨x.le, fun a o e => ?_, fun a o e => ?_, x.new, x.gens, x.os, x.tk⟩, r⟩⟩
  · exact hs'.extBut a o (fun q => by rw [q, hC] at e; cases e) (x.keep a o e)
  · exact hs'.extBut a o (fun q => by rw [q, hZC] at e; cases e) (x.zin a o e)

end
end Mine
end
section
open PySem PySem.W PyProof.Rows
set_option linter.unusedVariables false
namespace Mine

section
variable {G : Gnd} {env : Env} {Z Z' H H' : Zf} {ρ ρ' ρc : Loc} {s s' : Shared} {A : Around} {E : Value → Shared → Prop} {n : Nat} {pos apos : Pos}

theorem Bs.y {v : Value} {d : D} {t : Nat} (b : Bs G Z s) (ht : s.toks ≤ t) (r : Rep G Z v d) : ∃ Z', Ext Z s Z' { s with toks := t } ∧ Rep G Z' v d := ⟨Z, Ext.tok b.zin ht, r⟩

-- whole numbers
theorem op_add_int {a b : Int} : Op2 G (binaryOp .Add) (.int a) (.int b) (.int (a + b)) := Op2.mk fun A Z s v₁ v₂ R b r₁ r₂ => by cases r₁; cases r₂; exact add_int (b.y (Nat.le_succ _) (.int _ _))
theorem op_sub_int {a b : Int} : Op2 G (binaryOp .Sub) (.int a) (.int b) (.int (a - b)) := Op2.mk fun A Z s v₁ v₂ R b r₁ r₂ => by cases r₁; cases r₂; exact sub_int (b.y (Nat.le_succ _) (.int _ _))
theorem op_fdiv_int {a b : Int} (hb : b ≠ 0) (hp : Builtin.divisionGoesByPylong a b = false) : Op2 G (binaryOp .FloorDiv) (.int a) (.int b) (.int (a.fdiv b)) := Op2.mk fun A Z s v₁ v₂ R b r₁ r₂ => by cases r₁; cases r₂; exact floordiv_int hb (b.y (Nat.le_succ _) (.int _ _)) (.inl hp)
theorem op_mod_int {a b : Int} (hb : b ≠ 0) : Op2 G (binaryOp .Mod) (.int a) (.int b) (.int (a.fmod b)) := Op2.mk fun A Z s v₁ v₂ R b r₁ r₂ => by cases r₁; cases r₂; exact mod_int' hb (b.y (Nat.le_succ _) (.int _ _))
theorem op_iadd_int {a b : Int} : Op2 G (inplaceOp .Add) (.int a) (.int b) (.int (a + b)) := Op2.mk fun A Z s v₁ v₂ R b r₁ r₂ => by cases r₁; cases r₂; exact iadd_int (b.y (Nat.le_succ _) (.int _ _))
theorem op_eq_int {a b : Int} : Op2 G (compareOp .Eq) (.int a) (.int b) (.bool (a == b)) := Op2.mk fun A Z s v₁ v₂ R b r₁ r₂ => by cases r₁; cases r₂; exact eq_int ⟨Z, b.same, .bool _⟩
theorem op_ne_int {a b : Int} : Op2 G (compareOp .NotEq) (.int a) (.int b) (.bool (a != b)) := Op2.mk fun A Z s v₁ v₂ R b r₁ r₂ => by cases r₁; cases r₂; exact ne_int ⟨Z, b.same, .bool _⟩
theorem op_lt_int {a b : Int} : Op2 G (compareOp .Lt) (.int a) (.int b) (.bool (decide (a < b))) := Op2.mk fun A Z s v₁ v₂ R b r₁ r₂ => by cases r₁; cases r₂; exact lt_int ⟨Z, b.same, .bool _⟩
theorem op_gt_int {a b : Int} : Op2 G (compareOp .Gt) (.int a) (.int b) (.bool (decide (b < a))) := Op2.mk fun A Z s v₁ v₂ R b r₁ r₂ => by cases r₁; cases r₂; exact gt_int ⟨Z, b.same, .bool _⟩
theorem op_le_int {a b : Int} : Op2 G (compareOp .LtE) (.int a) (.int b) (.bool (decide (a ≤ b))) := Op2.mk fun A Z s v₁ v₂ R b r₁ r₂ => by cases r₁; cases r₂; exact le_int ⟨Z, b.same, .bool _⟩
theorem op_ge_int {a b : Int} : Op2 G (compareOp .GtE) (.int a) (.int b) (.bool (decide (b ≤ a))) := Op2.mk fun A Z s v₁ v₂ R b r₁ r₂ => by cases r₁; cases r₂; exact ge_int ⟨Z, b.same, .bool _⟩

-- texts
theorem op_add_str {x y : Str} (h : x.length + y.length ≤ sizeLine) : Op2 G (binaryOp .Add) (.str x) (.str y) (.str (x ++ y)) := Op2.mk fun A Z s v₁ v₂ R b r₁ r₂ => by cases r₁; cases r₂; exact wp_tok (add_str (fun t k tok => b.y tok (.str _ _)) h)
theorem op_iadd_str {x y : Str} (h : x.length + y.length ≤ sizeLine) : Op2 G (inplaceOp .Add) (.str x) (.str y) (.str (x ++ y)) := Op2.mk fun A Z s v₁ v₂ R b r₁ r₂ => by cases r₁; cases r₂; exact wp_tok (iadd_str (fun t k tok => b.y tok (.str _ _)) h)
theorem op_eq_str {x y : Str} : Op2 G (compareOp .Eq) (.str x) (.str y) (.bool (x == y)) := Op2.mk fun A Z s v₁ v₂ R b r₁ r₂ => by cases r₁; cases r₂; exact eq_str ⟨Z, b.same, .bool _⟩
theorem op_ne_str {x y : Str} : Op2 G (compareOp .NotEq) (.str x) (.str y) (.bool (x != y)) := Op2.mk fun A Z s v₁ v₂ R b r₁ r₂ => by cases r₁; cases r₂; exact ne_str ⟨Z, b.same, .bool _⟩
/-- is the one text in the other -/
def tin (y x : Str) : Bool := !(Builtin.Str.occurrences x y 0 x.length 1).isEmpty
theorem op_in_str {x y : Str} : Op2 G (compareOp .In) (.str y) (.str x) (.bool (tin y x)) := Op2.mk fun A Z s v₁ v₂ R b r₁ r₂ => by cases r₁; cases r₂; exact PyProof.Rows.in_str ⟨Z, b.same, .bool _⟩
theorem op_notin_str {x y : Str} : Op2 G (compareOp .NotIn) (.str y) (.str x) (.bool (!tin y x)) := Op2.mk fun A Z s v₁ v₂ R b r₁ r₂ => by cases r₁; cases r₂; exact notIn_str ⟨Z, b.same, .bool _⟩

theorem bf_len_str {x : Str} (h : x.length ≤ sizeLine) : BF G "len" [.str x] (.int x.length) := BF.mk fun A Z s vs R b r => by
  cases r with | cons r rs => cases rs; cases r; exact SBL.len (by rw [sizeLine_eq] at h; omega) (b.y (by omega) (.int _ _))
theorem isList_of {a : Addr} {vs : List Value} {k : Nat} {h : Heap} (e : h.get? a = some (listOf vs.toArray k)) : h.IsList a vs.toArray := ⟨_, e, rfl, _, rfl⟩
theorem isTuple_of {a : Addr} {vs : List Value} {k : Nat} {h : Heap} (e : h.get? a = some { cls := .type "tuple", data := .seq vs.toArray k }) : h.IsTuple a vs.toArray := ⟨_, e, rfl, _, rfl⟩
-- truth
-- items
theorem slOk (slice : PySem.Expr) (o i : Value) : ∃ ops, subscripted slice false o i = operate ops (getItem o i) := by
  unfold subscripted
  split
  · exact ⟨_, rfl⟩
  · rename_i h; cases h
  · exact ⟨_, rfl⟩
theorem tail_all {value slice : PySem.Expr} {o i : Value} {T id : String} {Q : Value → Shared → Prop} (hT : s.TypeIs o T) (hl : typeLookup (.type T) "__getitem__" = pure (some (.builtin id))) (hg : wpAny (model G.prog G.w) A (getItem o i) Q E s) :
    wpAny (model G.prog G.w) A (subscriptTail value slice o i) Q E s := let ⟨_, e⟩ := slOk slice o i; tail_any hT hl hg e

theorem sb_list {value slice : PySem.Expr} {ds : List D} {i : Int} {d : D} (h0 : 0 ≤ i) (h1 : i < 2 ^ 63) (hd : ds[i.toNat]? = some d) : Sb G value slice (.list ds) (.int i) d := Op2.mk fun A Z s v₁ v₂ R b r₁ r₂ => by
  cases r₂
  cases r₁ with
  | list hz ra =>
    obtain ⟨v, hv, rv⟩ := ra.get hd
    have hl := isList_of (b.zin _ _ hz)
    exact tail_all hl.typeIs slot_list_getitem.lookup (wpAny_getItem_list hl h0 h1 (by simpa using hv) ⟨Z, b.same, rv⟩)
-- tables
def dget (ks : List Str) (ds : List D) (x : Str) : Option D := (ks.zip ds).lookup x
theorem dget_some : ∀ {kvs : List (Str × Value)} {ds : List D} {x : Str} {d : D}, RepAll G Z (kvs.map (·.2)) ds → dget (kvs.map (·.1)) ds x = some d → ∃ v, valueAt kvs x = some v ∧ Rep G Z v d
  | [], _, _, _, _, h => by simp [dget] at h
  | (k, v) :: kvs, _, x, d, .cons r rs, h => by
    unfold dget at h
    simp only [List.map_cons, List.zip_cons_cons, List.lookup_cons] at h
    by_cases q : x = k
    · subst q; simp at h; subst h; exact ⟨v, by simp [valueAt], r⟩
    · rw [beq_eq_false_iff_ne.mpr q] at h
      obtain ⟨w, e, rw'⟩ := dget_some rs h
      exact ⟨w, by simpa [valueAt, Ne.symm q] using e, rw'⟩
theorem dget_none : ∀ {kvs : List (Str × Value)} {ds : List D} {x : Str}, RepAll G Z (kvs.map (·.2)) ds → dget (kvs.map (·.1)) ds x = none → valueAt kvs x = none
  | [], _, _, _, _ => rfl
  | (k, v) :: kvs, _, x, .cons r rs, h => by
    unfold dget at h
    simp only [List.map_cons, List.zip_cons_cons, List.lookup_cons] at h
    by_cases q : x = k
    · subst q; simp at h
    · rw [beq_eq_false_iff_ne.mpr q] at h
      simpa [valueAt, Ne.symm q] using dget_none rs h
theorem dget_isSome {kvs : List (Str × Value)} {ds : List D} {x : Str} (r : RepAll G Z (kvs.map (·.2)) ds) : (valueAt kvs x).isSome = (dget (kvs.map (·.1)) ds x).isSome := by
  cases h : dget (kvs.map (·.1)) ds x with
  | none => rw [dget_none r h]; rfl
  | some d => obtain ⟨v, e, _⟩ := dget_some r h; rw [e]; rfl
theorem dictOf_of {a : Addr} {o : Obj} {h : Heap} {kvs : List (Str × Value)} (e : h.get? a = some o) (hd : o.IsDictOf (strKind G.prog G.w) kvs) : h.DictOf (strKind G.prog G.w) a kvs := Heap.dictOf_iff.mpr ⟨o, e, hd⟩
theorem op_in_dict {ks : List Str} {ds : List D} {x : Str} : Op2 G (compareOp .In) (.str x) (.dict ks ds) (.bool (dget ks ds x).isSome) := Op2.mk fun A Z s v₁ v₂ R b r₁ r₂ => by
  cases r₁
  cases r₂ with
  | dict hz hs hd ra => exact wpAny_in_of (strKind_is _ _ _ _) hs (dictOf_of (b.zin _ _ hz) hd).mapOf (b.y (Nat.le_succ _) (by rw [dget_isSome ra]; exact .bool _))
theorem op_notin_dict {ks : List Str} {ds : List D} {x : Str} : Op2 G (compareOp .NotIn) (.str x) (.dict ks ds) (.bool (!(dget ks ds x).isSome)) := Op2.mk fun A Z s v₁ v₂ R b r₁ r₂ => by
  cases r₁
  cases r₂ with
  | dict hz hs hd ra => exact wpAny_notIn_of (strKind_is _ _ _ _) hs (dictOf_of (b.zin _ _ hz) hd).mapOf (b.y (Nat.le_succ _) (by rw [dget_isSome ra]; exact .bool _))
theorem bf_dict_get {ks : List Str} {ds : List D} {x : Str} {d : D} : BF G "dict.get" [.dict ks ds, .str x, d] ((dget ks ds x).getD d) := BF.mk fun A Z s vs R b r => by
  cases r with
  | cons r rs =>
    cases rs with
    | cons r₂ rs =>
      cases rs with
      | cons r₃ rs =>
        cases rs
        cases r₂
        cases r with
        | dict hz hs hd ra =>
          have hm := dictOf_of (b.zin _ _ hz) hd
          refine call_meetsIn PySem.F.slot_dict_get hm.typeIs PySem.F.entry_dict_get (PySem.F.args_dict_get_3 _ _ _) (meets_dict_get_default (strKind G.prog G.w) _ (strKind_is _ _ _ _) hs _) ⟨_, hm.mapOf, b.y (Nat.le_succ _) ?_⟩
          cases h : dget _ _ x with
          | none => rw [dget_none ra h]; exact r₃
          | some d' => obtain ⟨v, e, rv⟩ := dget_some ra h; rw [e]; exact rv

/-- a written table of texts -/
inductive ConstPairs : List (Option PySem.Expr) → List PySem.Expr → List (Str × Str) → Prop
  | nil : ConstPairs [] [] []
  | cons {k v : Str} {c c' : Nat} {p p' : Pos} {ks : List (Option PySem.Expr)} {vs : List PySem.Expr} {r : List (Str × Str)} : ConstPairs ks vs r → ConstPairs (some (.Constant (.str k) c p) :: ks) (.Constant (.str v) c' p' :: vs) ((k, v) :: r)
theorem const_shape {ks : List (Option PySem.Expr)} {vs : List PySem.Expr} {r : List (Str × Str)} (h : ConstPairs ks vs r) : ∃ pairs : List (Sem Value × Sem Value), pairs.length = r.length ∧ (pairs = [] → r = []) ∧
    (evalEachOpt ks env).zip ((evalEach vs env).map fun v => do let x ← v; standAt pos; pure x) = pairs.map (fun p => (some p.1, p.2)) ∧
    ∀ (M : Model) (prog : Program) (w : World) (A : Around) (E : Value → Shared → Prop) (s : Shared) (Q : List (Value × Value) → Shared → Prop),
      (∀ (us : List (Value × Value)) (kvs : List (Str × Value)) (t : Nat), s.toks ≤ t → Carries (strKind prog w) us kvs → kvs.map (·.1) = r.map (·.1) → (∀ Z, RepAll G Z (kvs.map (·.2)) (r.map fun p => .str p.2)) → us.length = r.length → Q us { s with toks := t }) →
      wpAny (model prog w) A (evalPairs pairs) Q E s := by
  induction h with
  | nil => exact ⟨[], rfl, fun _ => rfl, rfl, fun M prog w A E s Q h => evalPairs_nil (h [] [] s.toks (Nat.le_refl _) trivial rfl (fun _ => .nil) rfl)⟩
  | @cons k v c c' p p' ks vs r _ ih =>
    obtain ⟨pairs, hl, _, he, hw⟩ := ih
    refine ⟨(eval (.Constant (.str k) c p) env, (do let x ← eval (.Constant (.str v) c' p') env; standAt pos; pure x)) :: pairs, by simp [hl], fun h => (by cases h), ?_, fun M prog w A E s Q h => ?_⟩
    · show ((some (eval (.Constant (.str k) c p) env), _) :: _) = _
      rw [List.map_cons, ← he]
      rfl
    · refine evalPairs_cons (Calls.Constant_str (wpAny_bind (Calls.Constant_str (wpAny_bind (wpAny_standAt (wpAny_pure ?_))))))
      refine hw M prog w A E _ _ fun us kvs t ht hc hk hr hus => ?_
      refine h _ ((k, .str v (s.toks + 1)) :: kvs) t (by have : s.toks + 1 + 1 ≤ t := ht; omega) ⟨strKind_is _ _ _ _, rfl, hc⟩ (by simp [hk]) (fun Z => .cons (.str _ _) (hr Z)) (by simp [hus])

theorem merged_new {K : Type} [DecidableEq K] : ∀ (more acc : List (K × Value)), ((acc ++ more).map (·.1)).Nodup → merged acc more = acc ++ more
  | [], acc, _ => by simp [merged]
  | (k, v) :: more, acc, h => by
    have hk : acc.any (fun kv => kv.1 = k) = false := by
      rw [List.any_eq_false]
      intro kv hkv
      simp only [decide_eq_true_eq]
      intro q
      rw [List.map_append, List.nodup_append] at h
      exact h.2.2 kv.1 (List.mem_map_of_mem hkv) k (by simp) q
    have e : merged acc ((k, v) :: more) = merged (acc ++ [(k, v)]) more := by
      show merged (stored acc k v) more = _
      unfold stored
      rw [hk]; rfl
    rw [e, merged_new more (acc ++ [(k, v)]) (by simpa using h)]
    simp

theorem ev_dict {ks : List (Option PySem.Expr)} {vs : List PySem.Expr} {r : List (Str × Str)} (h : ConstPairs ks vs r) (h0 : r ≠ []) (hl : r.length ≤ 15) (hn : (r.map (·.1)).Nodup) : Ev G env n ρ (.Dict ks vs pos) (.dict (r.map (·.1)) (r.map fun p => .str p.2)) := by
  constructor
  intro A Z H s R S
  obtain ⟨pairs, hp, hp0, he, hw⟩ := const_shape (G := G) (env := env) (pos := pos) h
  refine wp_tok (wpAny_Dict_pairs (knd := strKind G.prog G.w) he (fun q => h0 (hp0 q)) (by omega) (hw ⟨denote table, G.prog, G.w⟩ G.prog G.w A _ _ _ fun us kvs t ht hc hk hr hus => ⟨kvs, hc, ?_, fun h' hd hs tok => ?_⟩))
  · exact Heap.dictOf_iff.mpr ⟨_, Heap.get?_push_size _ rfl, #[], 0, ⟨rfl, rfl, rfl⟩, rfl, fun e he => by simp at he, .nil, List.nodup_nil⟩
  · have hm : merged [] kvs = kvs := by rw [merged_new kvs [] (by simpa [hk] using hn)]; rfl
    rw [hm] at hd
    obtain ⟨o, ho, hod⟩ := Heap.dictOf_iff.mp hd
    have hlow : (s.heap.objs.size == sysModules) = false := by
      have := modules_low S.bs.nolimit
      rw [beq_eq_false_iff_ne]; exact Nat.ne_of_gt this
    have hZn : Z s.heap.objs.size = none := by
      cases q : Z s.heap.objs.size with
      | none => rfl
      | some ob => have := S.zin _ _ q; rw [get?_size_none] at this; cases this
    have le := Zadd.le (o := o) hZn
    have keep : ∀ b ob, s.heap.get? b = some ob → h'.get? b = some ob := fun b ob e => hs.extBut b ob (Nat.ne_of_lt (Heap.lt_size e)) (Heap.get?_push_of_some _ e)
    refine ⟨Zadd Z s.heap.objs.size o, ⟨le, keep, fun b ob e => ?_, fun b ob e => ?_, rfl, rfl, tok⟩, ?_⟩
    · by_cases q : b = s.heap.objs.size
      · subst q; rw [Zadd.self] at e; cases e; exact ho
      · rw [show Zadd Z s.heap.objs.size o b = Z b from if_neg q] at e; exact keep _ _ (S.zin _ _ e)
    · by_cases q : b = s.heap.objs.size
      · subst q; exact .inr (get?_size_none _)
      · rw [show Zadd Z s.heap.objs.size o b = Z b from if_neg q] at e; exact .inl e
    · rw [← hk]; exact .dict Zadd.self hlow hod (hr _)

end
end Mine
end
section
open PySem PySem.W PyProof.Rows
set_option linter.unusedVariables false
namespace Mine

section
variable {G : Gnd} {env : Env} {Z Z' H H' : Zf} {ρ ρ' ρc : Loc} {s s' : Shared} {A : Around} {E : Value → Shared → Prop} {n : Nat} {pos apos : Pos}

/-- an object is made that is not frozen -/
theorem Ext.push {o : Obj} {t : Nat} (hz : ∀ a o, Z a = some o → s.heap.get? a = some o) (ht : s.toks ≤ t) : Ext Z s Z { s with heap := s.heap.push o, toks := t } :=
  ⟨Zle.same, fun a ob h => Heap.get?_push_of_some _ h, fun a ob h => Heap.get?_push_of_some _ (hz a ob h), fun _ _ h => .inl h, rfl, rfl, ht⟩

-- what is gone through
theorem itr_list {ds : List D} : Itr G (.list ds) ds := Itr.mk fun A Z s v R b r => by
  cases r with
  | @list a vs k _ hz ra =>
    have hl := isList_of (b.zin _ _ hz)
    refine wpAny_pyIter_list hl ⟨s.heap.objs.size, [s.heap.objs.size, a], fun i v => vs.toArray[i]? = some v, fun i h => h.IsListIter s.heap.objs.size a i ∧ h.IsList a vs.toArray, rfl, Ext.push (t := s.toks) b.zin (Nat.le_refl _), get?_size_none _, fun A' hA => ?_, ?_, ?_, ?_, ?_⟩
    · have := Walks.list (prog := G.prog) (w := G.w) hA s.heap.objs.size a (fun q => by have := b.zin _ _ hz; rw [q, get?_size_none] at this; cases this) vs.toArray
      have e : vs.toArray.size = ds.length := by rw [List.size_toArray, ra.length]
      rw [e] at this; exact toWG this
    · intro c hc
      rcases List.mem_cons.mp hc with rfl | hc
      · exact .inl rfl
      · rw [List.mem_singleton] at hc; subst hc; exact .inr ⟨_, hz⟩
    · exact ⟨⟨_, Heap.get?_push_size _ rfl, rfl, rfl⟩, hl.push _⟩
    · rintro i h ⟨⟨o, ho, hc, _⟩, _⟩
      exact ⟨o, _, ho, hc, by decide⟩
    · intro i v hv
      have hv' : vs[i]? = some v := by simpa using hv
      have hlt : i < ds.length := by rw [← ra.length]; exact (List.getElem?_eq_some_iff.mp hv').1
      obtain ⟨w, hw, rw'⟩ := ra.get (i := i) (d := ds[i]) (by simp [hlt])
      rw [hv'] at hw; cases hw
      exact ⟨ds[i], by simp [hlt], rw'⟩

def charsOf (x : Str) : List D := x.cps.toList.map fun c => .str ⟨#[c]⟩
theorem itr_str {x : Str} : Itr G (.str x) (charsOf x) := Itr.mk fun A Z s v R b r => by
  cases r with
  | str x t =>
    have hlen : (charsOf x).length = x.cps.size := by simp [charsOf]
    have hP : ∀ i v, SignAt x i v → ∃ d, (charsOf x)[i]? = some d ∧ Rep G Z v d := by
      rintro i v ⟨c, u, hc, rfl⟩
      exact ⟨.str ⟨#[c]⟩, by simp [charsOf, hc], .str _ _⟩
    cases ha : x.cps.all (· < 128)
    · refine wpAny_pyIter_wide ha ⟨s.heap.objs.size, [s.heap.objs.size], SignAt x, fun i h => h.IsStrIter s.heap.objs.size "str_iterator" x t i, rfl, Ext.push (t := s.toks) b.zin (Nat.le_refl _), get?_size_none _, fun A' hA => ?_, fun c hc => .inl (by simpa using hc), ⟨_, Heap.get?_push_size _ rfl, rfl, rfl⟩, ?_, hP⟩
      · rw [hlen]; exact toWG (Walks.strWide hA _ x t)
      · rintro i h ⟨o, ho, hc, _⟩; exact ⟨o, _, ho, hc, by decide⟩
    · refine wpAny_pyIter_ascii ha ⟨s.heap.objs.size, [s.heap.objs.size], SignAt x, fun i h => h.IsStrIter s.heap.objs.size "str_ascii_iterator" x t i, rfl, Ext.push (t := s.toks) b.zin (Nat.le_refl _), get?_size_none _, fun A' hA => ?_, fun c hc => .inl (by simpa using hc), ⟨_, Heap.get?_push_size _ rfl, rfl, rfl⟩, ?_, hP⟩
      · rw [hlen]; exact toWG (Walks.strAscii hA _ x t)
      · rintro i h ⟨o, ho, hc, _⟩; exact ⟨o, _, ho, hc, by decide⟩

-- cuts
end
end Mine
end
section
open PySem PySem.W PyProof.Rows PySem.Builtin PySem.Builtin.Str
set_option linter.unusedVariables false
set_option maxRecDepth 100000
namespace Mine

section
variable {G : Gnd} {env : Env} {Z Z' H H' : Zf} {ρ ρ' ρc : Loc} {s s' : Shared} {A : Around} {E : Value → Shared → Prop} {n : Nat} {pos apos : Pos}

-- rows of texts
abbrev txs (xs : List Str) : List D := xs.map .str
theorem repAll_strs : ∀ (l : List (Str × Tok)), RepAll G Z (strValues l) (txs (l.map (·.1)))
  | [] => .nil
  | _ :: r => .cons (.str _ _) (repAll_strs r)
theorem strs_of_repAll : ∀ {vs : List Value} {xs : List Str}, RepAll G Z vs (txs xs) → ∃ l, strValues l = vs ∧ l.map (·.1) = xs
  | [], [], _ => ⟨[], rfl, rfl⟩
  | v :: vs, x :: xs, .cons r rs => by
    obtain ⟨l, e1, e2⟩ := strs_of_repAll rs
    cases r with
    | str _ t => exact ⟨(x, t) :: l, by rw [← e1]; rfl, by rw [← e2]; rfl⟩
theorem strs_made {l : List (Str × Tok)} {xs : List Str} {k t : Nat} (b : Bs G Z s) (hl : l.map (·.1) = xs) (ht : s.toks ≤ t) :
    ∃ Z', Ext Z s Z' { s with heap := s.heap.push { cls := .type "list", data := .seq (strValues l).toArray k }, toks := t } ∧ Rep G Z' (.ref s.heap.objs.size) (.list (txs xs)) :=
  ⟨_, Ext.alloc b.zin rfl ht, by subst hl; exact .list Zadd.self (repAll_strs l)⟩

-- methods of texts
theorem getm_str {name : Str} {id : String} {x : Str} (slot : Slot "str" name id) (hty : typeOf (.builtin id) = pure (.type "method_descriptor")) : GetM G name (.str x) id :=
  GetM.mk fun M A pl Z s v Q E hz r h => by cases r; exact getMethod_builtin (typeIs_str _ _ _) F.plainAttrs_str slot hty (fun a e => (by cases e)) h

theorem bf_join {x : Str} {xs : List Str} (hok : JoinOk x xs = true) : BF G "str.join" [.str x, .list (txs xs)] (.str (Txt.join x xs)) := BF.mk fun A Z s vs R b r => by
  cases r with
  | cons r rs =>
    cases rs with
    | cons r₂ rs =>
      cases rs; cases r
      cases r₂ with
      | list hz ra =>
        obtain ⟨l, e1, e2⟩ := strs_of_repAll ra
        subst e1
        exact wp_tok (SC.join (isList_of (b.zin _ _ hz)) e2 hok fun t' k tok => b.y tok (.str _ _))
/-- x.replace('..', '..') with two written texts -/
theorem ev_replace {o : PySem.Expr} {x y z : Str} {c c' : Nat} {p p' : Pos} {pl : Sem Bool} (ho : Ev G env n ρ o (.str x)) (hb : x.length + (x.length + 1) * z.length ≤ 16777216)
    (he : eval (.Call (.Attribute o "replace" apos) [.Constant (.str y) c p, .Constant (.str z) c' p'] [] pos) env = (do
      let ov ← eval o env
      standAt apos.atName
      let (f, first) ← holding [ov] (getMethod ov "replace" pl)
      callWith pos f first (backTo pos (starEach [.Constant (.str y) c p, .Constant (.str z) c' p'] env)) [])) :
    Ev G env n ρ (.Call (.Attribute o "replace" apos) [.Constant (.str y) c p, .Constant (.str z) c' p'] [] pos) (.str (Txt.replace x y z)) := by
  constructor
  intro A Z H s R S
  refine MethodCall_ (wp_seq (ho.run A Z H s R S) fun v s₁ ⟨Z₁, x₁, r₁⟩ => ?_) he
  have S₁ := S.ext x₁
  cases r₁ with
  | str x t =>
    refine getMethod_builtin (typeIs_str _ _ _) F.plainAttrs_str F.slot_str_replace F.type_str_replace (fun a e => (by cases e)) ?_
    refine Calls.callWith_builtin rfl (wp_evalArgs rfl (spliced_more (Calls.Constant_str (spliced_more (Calls.Constant_str (spliced_none ?_))))))
    have tk := S₁.tk
    refine wpAny_with_toks (n := s₁.toks) (by show s₁.toks ≤ s₁.toks + 1 + 1; omega) (SC.replaceA (s := { s₁ with toks := s₁.toks + 1 + 1 }) (by show s₁.toks ≠ 0; omega) (by show s₁.toks + 1 ≠ 0; omega) (by show s₁.toks ≠ s₁.toks + 1; omega) hb (fun t' k tok => ⟨Z₁, x₁.trans (Ext.tok S₁.zin tok), .str _ _⟩) S₁.bs.nb)

/-- try, where nothing is raised -/
theorem ex_try {body : List Stmt} {h₀ : ExceptHandler} {hs : List ExceptHandler} {Φ : Fl → Loc → Prop} (h : Exs G env n ρ body Φ) : Ex G env n ρ (.Try body (h₀ :: hs) [] [] pos) Φ :=
  Ex.mk fun A Z H s R S => wpAny_Try_except (wpAny_mono (h.run A Z H s R S) (fun f s₁ h₁ => by
    cases f with
    | next => exact wpAny_execs_nil h₁
    | _ => exact h₁) fun _ _ x => x.elim)

-- rows compared
open PySem.SeqAt in
theorem op_eq_nil {ds : List D} : Op2 G (compareOp .Eq) (.list ds) (.list []) (.bool ds.isEmpty) := Op2.mk fun A Z s v₁ v₂ R b r₁ r₂ => by
  cases r₁ with
  | list hz ra =>
    cases r₂ with
    | list hz' ra' =>
      cases ra'
      have hl := isList_of (b.zin _ _ hz)
      have hl' := isList_of (b.zin _ _ hz')
      cases ra with
      | nil => exact eq_listAt (e := fun _ => true) hl hl' rfl (by have := R.units; omega) (fun j h1 _ => absurd h1 (by simp)) ⟨Z, b.same, .bool _⟩
      | cons r rs => exact eq_list_lengthsAt hl hl' (by simp) (by have := R.units; omega) ⟨Z, b.same, .bool _⟩
open PySem.SeqAt in
theorem op_ne_nil {ds : List D} : Op2 G (compareOp .NotEq) (.list ds) (.list []) (.bool (!ds.isEmpty)) := Op2.mk fun A Z s v₁ v₂ R b r₁ r₂ => by
  cases r₁ with
  | list hz ra =>
    cases r₂ with
    | list hz' ra' =>
      cases ra'
      have hl := isList_of (b.zin _ _ hz)
      have hl' := isList_of (b.zin _ _ hz')
      cases ra with
      | nil => exact RcNeAt.lists (e := fun _ => true) hl hl' rfl (by have := R.units; omega) (fun j h1 _ => absurd h1 (by simp)) G.prog G.w _ _ ⟨Z, b.same, .bool _⟩
      | cons r rs => exact RcNeAt.lists_lengths hl hl' (by simp) (by have := R.units; omega) G.prog G.w _ _ ⟨Z, b.same, .bool _⟩

end
end Mine
end
section
open PySem PySem.W PyProof.Rows
set_option linter.unusedVariables false
set_option maxRecDepth 100000
namespace Mine
def stOf (p : Program) (i : Nat) : Stmt := p.main.body.getD i (.Pass ⟨0, 0, 0, 0⟩)
def bodyOf : Stmt → List Stmt
  | .FunctionDef _ _ b _ _ _ _ _ _ _ => b
  | _ => []
def fdOf (st : Stmt) (doc pm cdv ct : Value) : FuncData := match st with
  | .FunctionDef name args body _ _ _ scope _ _ _ => fnX name name args body scope [] .none .none doc pm none cdv ct
  | _ => default

section
variable {G : Gnd} {env : Env} {Z Z' H H' : Zf} {ρ ρ' ρc : Loc} {s s' : Shared} {A : Around} {E : Value → Shared → Prop} {n : Nat} {pos apos : Pos}

theorem sub_nil : Sub [] ρ := fun x b h => by simp at h
theorem sub_cons {x : Str} {b : B} (h : ρ'.lookup x = some b) (hs : Sub ρ ρ') : Sub ((x, b) :: ρ) ρ' := fun y c e => by
  rw [List.lookup_cons] at e
  by_cases q : y = x
  · subst q; simp at e; subst e; exact h
  · rw [beq_eq_false_iff_ne.mpr q] at e; exact hs y c e
theorem exs_weaken {sts : List Stmt} {Φ : Fl → Loc → Prop} (hs : Sub ρ ρ') (h : Exs G env n ρ sts Φ) : Exs G env n ρ' sts Φ := Exs.mk fun A Z H s R S => h.run A Z H s R (S.weaken hs)
theorem asg_weaken {e : PySem.Expr} {d : D} {ρ'' : Loc} (hs : Sub ρ ρ') (h : Asg G env e d ρ ρ'') : Asg G env e d ρ' ρ'' := Asg.mk fun A Z H s v R S r => h.run A Z H s v R (S.weaken hs) r

theorem then_next {Φ : Fl → Loc → Prop} {K : Loc → Prop} (h : K ρ) : Then Φ K .next ρ := h


-- cheap looks at the text
theorem star_cons {e : PySem.Expr} {es : List PySem.Expr} (h : isStarred e = false) : starEach (e :: es) env = (false, eval e env) :: starEach es env := by
  cases e <;> first | rfl | cases h
theorem star_all : ∀ {es : List PySem.Expr}, es.any isStarred = false → (starEach es env).any (·.1) = false
  | [], _ => rfl
  | e :: es, h => by
    rw [List.any_cons, Bool.or_eq_false_iff] at h
    rw [star_cons h.1, List.any_cons, star_all h.2]; rfl
theorem evs_more {e : PySem.Expr} {es : List PySem.Expr} {d : D} {ds : List D} (h : Ev G env n ρ e d) (h' : Evs G env n ρ es ds) (hs : isStarred e = false) : Evs G env n ρ (e :: es) (d :: ds) := evs_cons h h' (star_cons hs)
def isAttr : PySem.Expr → Bool
  | .Attribute .. => true
  | _ => false
theorem eval_call {f : PySem.Expr} {es : List PySem.Expr} (h : isAttr f = false) : eval (.Call f es [] pos) env = (do callWith pos (← eval f env) [] (backTo pos (starEach es env)) []) := by
  cases f <;> first | rfl | cases h
def isNameCall : PySem.Expr → Bool
  | .Call (.Name ..) [] [] _ => true
  | _ => false
theorem base_same {o : PySem.Expr} {name : Str} {t : Sem Value} (h : isNameCall o = false) : attributeBase o name env t = t := by
  unfold attributeBase
  split
  · rename_i h'; cases h
  · rfl
theorem form_all : ∀ {es : List PySem.Expr}, es.any isStarred = false → (backTo pos (starEach es env)).all (fun x => !x.1) = true
  | [], _ => rfl
  | e :: es, h => by
    rw [List.any_cons, Bool.or_eq_false_iff] at h
    rw [star_cons h.1]
    show (!false && (backTo pos (starEach es env)).all (fun x => !x.1)) = true
    rw [form_all h.2]; rfl
theorem eval_method {o : PySem.Expr} {name : Str} {es : List PySem.Expr} (hb : isNameCall o = false) (hst : es.any isStarred = false) (hlen : es.length < 30) (hline : (apos.endLine == pos.line) = true) :
    eval (.Call (.Attribute o name apos) es [] pos) env = (do
      let ov ← eval o env
      standAt apos.atName
      let (f, first) ← holding [ov] (getMethod ov name (do return (← importBound o env).getD true))
      callWith pos f first (backTo pos (starEach es env)) []) := by
  have hform : methodCallForm (es.length + ([] : List Keyword).length) (backTo pos (starEach es env)) (backToKw pos (keywordEach [] env)) = true := by
    unfold methodCallForm
    rw [form_all hst]
    have e : backToKw pos (keywordEach [] env) = [] := rfl
    rw [e]
    simpa using hlen
  show (do
    let ov ← attributeBase o name env (eval o env)
    standAt apos.atName
    methodCall o name apos pos env ov (es.length + ([] : List Keyword).length) (backTo pos (starEach es env)) (backToKw pos (keywordEach [] env))) = _
  rw [base_same hb]
  unfold methodCall calleeOf
  simp only [hform, if_true]
  have hp : methodCallPos true o env apos pos = pure pos := by unfold methodCallPos; simp [hline]
  simp only [hp, pure_bind]
  rfl

theorem ev_call {f : PySem.Expr} {es : List PySem.Expr} {a : Addr} {ds : List D} {d : D} (hf : Ev G env n ρ f (.fn a)) (h : Evs G env n ρ es ds) (hk : keepIn G.K (.ref a) = true) (hc : Fn G n a ds d) (hst : es.any isStarred = false) (ha : isAttr f = false) : Ev G env n ρ (.Call f es [] pos) d :=
  ev_callFn hf h hk hc (star_all hst) (eval_call ha)
theorem ev_bf {x : Str} {p : Pos} {id : String} {es : List PySem.Expr} {ds : List D} {d : D} (h : Evs G env n ρ es ds) (hc : BF G id ds d) (e : nsIn G.K mainGlobals x = some none) (hv : bootBuiltins x = some (.builtin id)) (hx : env.kindOf x = some .globalImplicit)
    (hd : ((x == ("__debug__" : Str)) || (x == ("__name__" : Str))) = false) (hst : es.any isStarred = false) : Ev G env n ρ (.Call (.Name x p) es [] pos) d :=
  ev_callBF h hc e hv (by rw [Bool.or_eq_false_iff] at hd; exact beq_eq_false_iff_ne.mp hd.2) hx (by rw [Bool.or_eq_false_iff] at hd; exact hd.1) (star_all hst) (eval_call rfl)
theorem ev_meth {o : PySem.Expr} {name : Str} {id : String} {es : List PySem.Expr} {d₀ : D} {ds : List D} {d : D} (ho : Ev G env n ρ o d₀) (h : Evs G env n ρ es ds) (g : GetM G name d₀ id) (hc : BF G id (d₀ :: ds) d)
    (hb : isNameCall o = false) (hst : es.any isStarred = false) (hlen : es.length < 30) (hline : (apos.endLine == pos.line) = true) : Ev G env n ρ (.Call (.Attribute o name apos) es [] pos) d :=
  ev_method ho g h hc (star_all hst) (eval_method hb hst hlen hline)
theorem ev_repl {o : PySem.Expr} {x y z : Str} {c c' : Nat} {p p' : Pos} (ho : Ev G env n ρ o (.str x)) (hb : x.length + (x.length + 1) * z.length ≤ 16777216) (hn : isNameCall o = false) (hline : (apos.endLine == pos.line) = true) :
    Ev G env n ρ (.Call (.Attribute o "replace" apos) [.Constant (.str y) c p, .Constant (.str z) c' p'] [] pos) (.str (Txt.replace x y z)) :=
  ev_replace ho hb (eval_method hn rfl (by show 2 < 30; decide) hline)

end
end Mine
end
section
open PySem PySem.W PyProof.Rows PySem.Builtin PySem.Builtin.Str
set_option linter.unusedVariables false
namespace Mine

/-- a text of code points -/
def T (l : List Nat) : Str := ⟨l.toArray⟩
theorem T_list (l : List Nat) : (T l).cps.toList = l := rfl
theorem T_length (l : List Nat) : (T l).length = l.length := by show l.toArray.size = _; simp
theorem T_of (x : Str) : T x.cps.toList = x := by cases x; simp [T]
theorem T_append (a b : List Nat) : T a ++ T b = T (a ++ b) := by
  show (⟨a.toArray ++ b.toArray⟩ : Str) = _
  simp [T]
theorem T_inj {a b : List Nat} (h : T a = T b) : a = b := by simpa [T_list] using congrArg (fun x => x.cps.toList) h
theorem T_one (c : Nat) : T [c] = ⟨#[c]⟩ := rfl
theorem T_beq (a b : List Nat) : (T a == T b) = decide (a = b) := by
  rw [Bool.eq_iff_iff]
  simp only [beq_iff_eq, decide_eq_true_eq]
  exact ⟨T_inj, fun h => by rw [h]⟩

/-- each sign c becomes z -/
def sub1 (c : Nat) (z l : List Nat) : List Nat := l.flatMap fun k => if k = c then z else [k]
theorem sub1_append (c : Nat) (z a b : List Nat) : sub1 c z (a ++ b) = sub1 c z a ++ sub1 c z b := by simp [sub1]
theorem sub1_free (c : Nat) (z : List Nat) : ∀ {l : List Nat}, c ∉ l → sub1 c z l = l
  | [], _ => rfl
  | k :: r, h => by
    simp only [List.mem_cons, not_or] at h
    have ih := sub1_free c z h.2
    unfold sub1 at ih ⊢
    rw [List.flatMap_cons, ih, if_neg (Ne.symm h.1)]
    rfl
theorem join_list (z : List Nat) : ∀ parts : List (List Nat), (Str.join (T z) (parts.map T)) = T ((parts.intersperse z).flatten)
  | [] => rfl
  | [a] => by simp [Str.join]
  | a :: b :: r => by
    have ih := join_list z (b :: r)
    simp only [List.map_cons] at ih ⊢
    show T a ++ T z ++ Str.join (T z) (T b :: r.map T) = _
    rw [ih, T_append, T_append]
    simp [List.intersperse]
theorem sub1_join (c : Nat) (z : List Nat) : ∀ parts : List (List Nat), (∀ p ∈ parts, c ∉ p) → sub1 c z ((parts.intersperse [c]).flatten) = (parts.intersperse z).flatten
  | [], _ => rfl
  | [a], h => by simpa using sub1_free c z (h a (by simp))
  | a :: b :: r, h => by
    have ih := sub1_join c z (b :: r) fun p hp => h p (List.mem_cons_of_mem _ hp)
    have e1 : ((a :: b :: r).intersperse [c]).flatten = a ++ ([c] ++ ((b :: r).intersperse [c]).flatten) := by simp [List.intersperse]
    have e2 : ((a :: b :: r).intersperse z).flatten = a ++ (z ++ ((b :: r).intersperse z).flatten) := by simp [List.intersperse]
    rw [e1, e2, sub1_append, sub1_append, ih, sub1_free c z (h a (by simp))]
    simp [sub1]

theorem split_lists (l : List Nat) (c : Nat) : ∃ parts : List (List Nat), Txt.split (T l) ⟨#[c]⟩ = parts.map T ∧ (∀ p ∈ parts, c ∉ p) ∧ l = (parts.intersperse [c]).flatten := by
  refine ⟨(Txt.split (T l) ⟨#[c]⟩).map (fun x => x.cps.toList), ?_, ?_, ?_⟩
  · rw [List.map_map]
    conv => lhs; rw [← List.map_id (Txt.split (T l) ⟨#[c]⟩)]
    exact List.map_congr_left fun x _ => (T_of x).symm
  · intro p hp
    obtain ⟨x, hx, rfl⟩ := List.mem_map.mp hp
    exact StrLaws.split_free (T l) c x hx
  · have h := StrLaws.join_split (T l) ⟨#[c]⟩
    have e : Txt.split (T l) ⟨#[c]⟩ = ((Txt.split (T l) ⟨#[c]⟩).map (fun x => x.cps.toList)).map T := by
      rw [List.map_map]
      conv => lhs; rw [← List.map_id (Txt.split (T l) ⟨#[c]⟩)]
      exact List.map_congr_left fun x _ => (T_of x).symm
    rw [e, ← T_one, join_list] at h
    exact (T_inj h).symm

theorem repl_T (l z : List Nat) (c : Nat) : Txt.replace (T l) ⟨#[c]⟩ (T z) = T (sub1 c z l) := by
  obtain ⟨parts, h1, h2, h3⟩ := split_lists l c
  rw [StrLaws.replace_one, h1, join_list]
  conv => rhs; rw [h3]
  rw [sub1_join c z parts h2]

theorem tin_T (l : List Nat) (c : Nat) : tin ⟨#[c]⟩ (T l) = decide (c ∈ l) := StrLaws.found_one (T l) c

end Mine
end
section
open PySem PySem.W PyProof.Rows PySem.Builtin PySem.Builtin.Str
set_option linter.unusedVariables false
namespace Mine

abbrev Tbl := List (Nat × List Nat)
def spell (t : Tbl) (k : Nat) : List Nat := (t.lookup k).getD [k]
def escBy (t : Tbl) (l : List Nat) : List Nat := l.flatMap (spell t)
theorem escBy_nil (l : List Nat) : escBy [] l = l := by
  induction l with
  | nil => rfl
  | cons k r ih =>
    show [k] ++ escBy [] r = _
    rw [ih]; rfl
theorem escBy_append (t : Tbl) (a b : List Nat) : escBy t (a ++ b) = escBy t a ++ escBy t b := by simp [escBy]
theorem escBy_cons (t : Tbl) (k : Nat) (r : List Nat) : escBy t (k :: r) = spell t k ++ escBy t r := by simp [escBy]
def okFor (t : Tbl) (c : Nat) : Bool := t.all fun p => !(p.2.contains c) && !(p.1 == c)
theorem lookup_snoc (t : Tbl) (c k : Nat) (z : List Nat) : (t ++ [(c, z)]).lookup k = (t.lookup k).or (if k = c then some z else none) := by
  rw [List.lookup_append]
  congr 1
  by_cases h : k = c
  · subst h; simp
  · rw [List.lookup_cons, beq_eq_false_iff_ne.mpr h, if_neg h]; rfl
theorem sub1_spell {t : Tbl} {c : Nat} {z : List Nat} (h : okFor t c = true) (k : Nat) : sub1 c z (spell t k) = spell (t ++ [(c, z)]) k := by
  unfold spell
  rw [lookup_snoc]
  cases hk : t.lookup k with
  | none =>
    by_cases q : k = c
    · subst q; simp [sub1]
    · simp [sub1, q]
  | some y =>
    have hm : (k, y) ∈ t := by
      clear h
      induction t with
      | nil => simp at hk
      | cons p r ih =>
        obtain ⟨a, b⟩ := p
        rw [List.lookup_cons] at hk
        by_cases q : k = a
        · subst q; simp at hk; subst hk; exact List.mem_cons_self
        · rw [beq_eq_false_iff_ne.mpr q] at hk; exact List.mem_cons_of_mem _ (ih hk)
    have := (List.all_eq_true.mp h) (k, y) hm
    simp only [Bool.and_eq_true, Bool.not_eq_true', List.contains_eq_mem, decide_eq_false_iff_not] at this
    simpa using sub1_free c z this.1
theorem sub1_esc {t : Tbl} {c : Nat} {z : List Nat} (h : okFor t c = true) (l : List Nat) : sub1 c z (escBy t l) = escBy (t ++ [(c, z)]) l := by
  induction l with
  | nil => rfl
  | cons k r ih => rw [escBy_cons, escBy_cons, sub1_append, ih, sub1_spell h]
theorem spell_le {t : Tbl} {m : Nat} (hm : 1 ≤ m) (h : t.all (fun p => decide (p.2.length ≤ m)) = true) (k : Nat) : (spell t k).length ≤ m := by
  unfold spell
  induction t with
  | nil => simpa using hm
  | cons p r ih =>
    obtain ⟨a, b⟩ := p
    simp only [List.all_cons, Bool.and_eq_true, decide_eq_true_eq] at h
    rw [List.lookup_cons]
    cases q : k == a with
    | true => exact h.1
    | false => exact ih h.2
theorem esc_le {t : Tbl} {m : Nat} (hm : 1 ≤ m) (h : t.all (fun p => decide (p.2.length ≤ m)) = true) (l : List Nat) : (escBy t l).length ≤ m * l.length := by
  induction l with
  | nil => simp [escBy]
  | cons k r ih =>
    rw [escBy_cons, List.length_append, List.length_cons, Nat.mul_succ]
    have := spell_le hm h k
    omega

section
variable {G : Gnd} {env : Env} {ρ : Loc} {n : Nat}
/-- one row of an escape -/
theorem esc_step {l : List Nat} {t : Tbl} {c : Nat} {z : List Nat} {x cs zs : Str} {i1 i2 i3 : Nat} {p1 p2 p3 p4 p5 apos pos spos pos' : Pos} {rest : List Stmt} {Φ : Fl → Loc → Prop}
    (hl : ρ.lookup x = some (.val (.str (T (escBy t l))))) (hcs : cs = ⟨#[c]⟩) (hzs : zs = T z) (hok : okFor t c = true) (hm : t.all (fun p => decide (p.2.length ≤ 8)) = true) (hz : z.length ≤ 8) (hsz : l.length ≤ 100000)
    (hd : (x == ("__debug__" : Str)) = false) (hc : Can env x) (hline : (apos.endLine == pos.line) = true)
    (k : Exs G env n (upd ρ x (.val (.str (T (escBy (t ++ [(c, z)]) l))))) rest Φ) :
    Exs G env n ρ (.If (.Compare (.Constant (.str cs) i1 p1) [.In] [.Name x p2] p3) [.Assign [.Name x p4] (.Call (.Attribute (.Name x p5) "replace" apos) [.Constant (.str cs) i2 p1', .Constant (.str zs) i3 p2'] [] pos) spos] [] pos' :: rest) Φ := by
  have hb : (T (escBy t l)).length + ((T (escBy t l)).length + 1) * zs.length ≤ 16777216 := by
    have h1 := esc_le (m := 8) (by decide) hm l
    rw [hzs, T_length, T_length]
    have h2 : ((escBy t l).length + 1) * z.length ≤ (8 * l.length + 1) * 8 := Nat.mul_le_mul (by omega) hz
    omega
  have hr : Txt.replace (T (escBy t l)) cs zs = T (escBy (t ++ [(c, z)]) l) := by rw [hcs, hzs, repl_T, sub1_esc hok]
  refine exs_cons (ex_if (tst_cmp ev_str (ev_name hl hd) op_in_str rfl) (fun _ => ?_) fun hf => ?_)
  · refine exs_cons (ex_assign (ev_repl (ev_name hl hd) hb rfl hline) hc rfl ?_)
    refine exs_nil ?_
    rw [hr]
    exact k
  · refine exs_nil ?_
    refine exs_weaken ?_ k
    have : T (escBy (t ++ [(c, z)]) l) = T (escBy t l) := by
      rw [hcs, tin_T, decide_eq_false_iff_not] at hf
      rw [← sub1_esc hok, sub1_free c z hf]
    rw [this]
    intro y b e
    rw [lookup_upd] at e
    by_cases q : y = x
    · subst q; rw [if_pos rfl] at e; cases e; exact hl
    · rw [if_neg q] at e; exact e
end
end Mine
end
section
open PySem PySem.W PyProof.Rows
set_option linter.unusedVariables false
namespace Mine

theorem ns_none_of {K : Frag} {h : Heap} {a : Addr} {mc : Str → Option Value} {n : Str} (X : K.In h) (G : h.Ns a mc) (e : nsIn K a n = some none) : mc n = none := by
  obtain ⟨o, es, ep, ho, hd, _, hf⟩ := G
  unfold nsIn at e
  split at e
  · rename_i c dd es' ep' sl hk
    have := X _ _ hk
    rw [ho] at this
    cases this
    cases hd
    split at e
    · cases e
    · rename_i hfind
      rw [← hf]
      unfold nsFind findBy
      rw [← Array.find?_toList, hfind]
      rfl
  · cases e

theorem repAll_ints {G : Gnd} {Z : Zf} : ∀ {vs : List Value} {ns : List Int}, IntsAre vs ns → RepAll G Z vs (ns.map .int)
  | _, _, .nil => .nil
  | _, _, .cons n t r => .cons (.int n t) (repAll_ints r)

theorem finish {prog : Program} {w : World} {K : Frag} {p : Program} {loose : List Str} {mg mb : Str → Option Value} {s₁ : Shared} {f a : Addr} {vs : List Value} {ns : List Int} {k n : Nat} {c : ClaimW} {cl : Str → Option Addr} {mean : ExcName → Option Value} {args : List WData}
    (KX : K.In s₁.heap) (T : TopRead p loose mg mb s₁.heap) (hst : nsIn K cStatics sharingNotToldKey = some none) (hg : s₁.gens = #[]) (htk : 0 < s₁.toks) (ho : s₁.heap.get? a = some (listOf vs.toArray k)) (hI : IntsAre vs ns)
    (hn : ∀ cls, c.raises args cls = false) (hp : c.post args (.bool true) args = true) (hr : n ≤ 100)
    (h : ∀ nb, Fn ⟨prog, w, K, p, loose, mg, mb, s₁.heap, s₁.os, KX, T, nb, 0⟩ n f [.list (ns.map .int)] (.bool true)) :
    wpAny (model prog w) callerA (call (.ref f) [.ref a]) (fun v s' => GoodWG c cl mean args s₁ (.ok (.ret v)) s') (fun e s' => GoodWG c cl mean args s₁ (.error e) s') s₁ := by
  have nb : NoneBooked s₁.heap := by
    obtain ⟨mc, hm, _⟩ := T.nolimit
    exact ⟨mc, hm, ns_none_of KX hm hst⟩
  have H := h nb
  refine wp_seq (H.run callerA (fun b => if b = a then some (listOf vs.toArray k) else none) s₁ [.ref a] ⟨rfl, ?_, ?_, rfl⟩ ⟨hg, rfl, htk, fun b o e => ?_, fun b o e => e⟩ (.cons (.list (if_pos rfl) (repAll_ints hI)) .nil)) fun v s' ⟨Z', x, r⟩ => ?_
  · show 1 + claimMargin + n < recursionLimit
    have : claimMargin = 300 := rfl
    have : recursionLimit = 1000 := rfl
    omega
  · show 4 + 8 * n < cLine
    have : cLine = 9900 := rfl
    omega
  · by_cases q : b = a
    · subst q; rw [if_pos rfl] at e; cases e; exact ho
    · rw [if_neg q] at e; cases e
  · cases r
    refine GoodW.toG ⟨.inl ⟨_, _, [], rfl, hn, .bool true, hp, unshared_nil⟩, fun b o e => x.keep b o e, x.os, x.gens.trans hg⟩
end Mine
end
section
open PySem PySem.W PyProof.Rows
set_option linter.unusedVariables false
set_option maxRecDepth 100000
namespace Mine
section
variable {G : Gnd} {env : Env} {Z Z' H : Zf} {ρ ρ' : Loc} {s s' : Shared} {A : Around} {E : Value → Shared → Prop} {n : Nat} {pos apos : Pos}

theorem Has.uniq {h : Heap} {x : Str} {u v : Value} (a : Has env h x u) (b : Has env h x v) : u = v := by
  rcases a with ⟨k, m, hn, e⟩ | ⟨k, c, e, hn⟩ <;> rcases b with ⟨k', m', hn', e'⟩ | ⟨k', c', e', hn'⟩
  · rw [ns_uniq hn hn', e'] at e; exact (Option.some.inj e).symm
  · rcases k' with k' | k' <;> simp_all
  · rcases k with k | k <;> simp_all
  · rw [e] at e'; cases e'
    obtain ⟨o, ho1, ho2⟩ := hn
    obtain ⟨o', ho1', ho2'⟩ := hn'
    rw [ho1] at ho1'; cases ho1'
    rw [ho2] at ho2'
    simpa using ho2'

-- several targets
structure Asgs (G : Gnd) (env : Env) (ts : List PySem.Expr) (ds : List D) (ρ ρ' : Loc) : Prop where
  run : ∀ A Z H s vs, Room 0 A → St G env Z H ρ s → RepAll G Z vs ds → wpAny (model G.prog G.w) A (assignInOrder ((assignEach ts env).map (·.2)) vs) (fun _ s' => ∃ Z', Zle Z Z' ∧ St G env Z' H ρ' s') (fun _ _ => False) s
  len : (assignEach ts env).length = ds.length
  star : (assignEach ts env).findIdx? (·.1) = none
theorem asgs_nil : Asgs G env [] [] ρ ρ := ⟨fun A Z H s vs R S r => wpAny_pure ⟨Z, Zle.same, S⟩, rfl, rfl⟩
theorem asgs_cons {t : PySem.Expr} {ts : List PySem.Expr} {d : D} {ds : List D} {ρ'' : Loc} (h : Asg G env t d ρ ρ') (hs : Asgs G env ts ds ρ' ρ'') (hst : isStarred t = false) : Asgs G env (t :: ts) (d :: ds) ρ ρ'' := by
  have e : assignEach (t :: ts) env = (false, assign t env) :: assignEach ts env := by cases t <;> first | rfl | cases hst
  refine ⟨fun A Z H s vs R S r => ?_, ?_, ?_⟩
  · cases r with
    | cons r rs =>
      rw [e]
      refine assignInOrder_cons (wp_seq (h.run A Z H s _ R S r) fun _ s₁ ⟨Z₁, le₁, S₁⟩ => ?_)
      exact wp_seq (hs.run A Z₁ H s₁ _ R S₁ (rs.mono le₁)) fun _ s₂ ⟨Z₂, le₂, S₂⟩ => ⟨Z₂, le₁.trans le₂, S₂⟩
  · rw [e, List.length_cons, List.length_cons, hs.len]
  · rw [e, List.findIdx?_cons, hs.star]; rfl
theorem asg_tuple {ts : List PySem.Expr} {ds : List D} {k : Nat} (h : Asgs G env ts ds ρ ρ') : Asg G env (.Tuple ts k pos) (.tup ds) ρ ρ' := Asg.mk fun A Z H s v R S r => by
  cases r with
  | @tup a vs j _ hz ra =>
    have ht := isTuple_of (S.zin _ _ hz)
    refine wpAny_assign_Tuple R.handled ht (by rw [h.len, List.size_toArray, ra.length]) h.star fun h' he => ?_
    have x : Ext Z s Z { s with heap := h' } := ⟨Zle.same, fun b o e => he b o (fun q => by rw [q, get?_size_none] at e; cases e) e, fun b o e => he b o (fun q => by have := S.zin b o e; rw [q, get?_size_none] at this; cases this) (S.zin b o e), fun _ _ h => .inl h, rfl, rfl, Nat.le_refl _⟩
    exact h.run A Z H _ vs R (S.ext x) ra

end
end Mine
end
section
open PySem PySem.W PyProof.Rows PySem.Builtin PySem.Builtin.Str PySem.StrLaws
set_option linter.unusedVariables false
namespace Mine

theorem at_iff (l p : List Nat) (k : Nat) (h1 : p ≠ []) : At (T l) (T p) (T l).length k ↔ p <+: l.drop k := by
  unfold At
  rw [subAt_eq, T_length, T_length, T_list, T_list]
  constructor
  · rintro ⟨_, h⟩
    exact ⟨_, by rw [← beq_iff_eq.mp h]; exact List.take_append_drop _ _⟩
  · rintro ⟨t, h⟩
    have hl : (l.drop k).length = p.length + t.length := by rw [← h]; simp
    rw [List.length_drop] at hl
    have : 0 < p.length := List.length_pos_iff.mpr h1
    refine ⟨by omega, ?_⟩
    rw [← h, List.take_left]
    simp

theorem kind_le (x y : List Nat) (h : ∀ c ∈ y, c ∈ x) : Str.strKind (T y) ≤ Str.strKind (T x) := by
  have key : ∀ B : Nat, (T x).cps.all (· < B) = true → (T y).cps.all (· < B) = true := fun B hB => by
    rw [← Array.all_toList] at hB ⊢
    rw [List.all_eq_true] at hB ⊢
    exact fun c hc => hB c (h c hc)
  unfold Str.strKind
  split
  · split <;> (try split) <;> omega
  · rename_i n1
    rw [if_neg fun q => n1 (key _ q)]
    split
    · split <;> omega
    · rename_i n2
      rw [if_neg fun q => n2 (key _ q)]
      exact Nat.le_refl _

end Mine
end
section
open PySem PySem.W PyProof.Rows PySem.Builtin PySem.Builtin.Str PySem.StrLaws
set_option linter.unusedVariables false
namespace Mine

/-- p cannot begin in u, whatever stands behind u -/
def apart (p u : List Nat) : Bool := (List.range u.length).all fun j => !(p.isPrefixOf (u.drop j)) && !((u.drop j).isPrefixOf p)
def cs (x : Str) : List Nat := x.cps.toList
end Mine
end
section
open PySem PySem.W PyProof.Rows PySem.Builtin PySem.Builtin.Str
set_option linter.unusedVariables false
set_option maxRecDepth 100000
namespace Mine
section
variable {G : Gnd} {env : Env} {Z Z' H : Zf} {ρ ρ' ρc : Loc} {s s' : Shared} {A : Around} {E : Value → Shared → Prop} {n : Nat} {pos apos : Pos}

theorem fmod_bounds {a m : Int} (hm : 0 < m) : 0 ≤ a.fmod m ∧ a.fmod m < m := ⟨Int.fmod_nonneg_of_pos a hm, Int.fmod_lt_of_pos a hm⟩
theorem joinOk_of {sep : Str} {xs : List Str} {m : Nat} (h : ∀ x ∈ xs, x.length ≤ m) (hb : xs.length * (m + sep.length) ≤ sizeLine) : JoinOk sep xs = true := by
  have key : ∀ (xs : List Str) (k : Nat), (∀ x ∈ xs, x.length ≤ m) → xs.foldl (· + ·.length + sep.length) k ≤ k + xs.length * (m + sep.length) := by
    intro xs
    induction xs with
    | nil => intro k _; simp
    | cons x r ih =>
      intro k h
      rw [List.foldl_cons, List.length_cons, Nat.succ_mul]
      have h1 := ih (k + x.length + sep.length) fun y hy => h y (List.mem_cons_of_mem _ hy)
      have h2 := h x List.mem_cons_self
      omega
  unfold JoinOk
  have := key xs 0 h
  rw [List.foldl_toArray]
  unfold Builtin.Str.tooLong
  simp
  omega
theorem joinOk_sum {sep : Str} {xs : List Str} (hb : (xs.map (·.length)).sum + xs.length * sep.length ≤ sizeLine) : JoinOk sep xs = true := by
  have key : ∀ (xs : List Str) (k : Nat), xs.foldl (· + ·.length + sep.length) k = k + ((xs.map (·.length)).sum + xs.length * sep.length) := by
    intro xs
    induction xs with
    | nil => intro k; simp
    | cons x r ih =>
      intro k
      rw [List.foldl_cons, ih, List.map_cons, List.sum_cons, List.length_cons, Nat.succ_mul]
      omega
  unfold JoinOk
  rw [List.foldl_toArray, key]
  unfold Builtin.Str.tooLong
  simp
  omega
theorem comp1 {elt tgt iter : PySem.Expr} {ifs : List PySem.Expr} {scope : Scope} {α : Type} {xs : List α} {mk : α → D} {F : α → List D}
    (item : ∀ a ∈ xs, ∃ ρ₁ ok, Asg G env tgt (mk a) ρ ρ₁ ∧ Sub ρ ρ₁ ∧ Tsts G env n ρ₁ ifs ok ∧ (ok = false → F a = []) ∧ (ok = true → ∃ x, Ev G env n ρ₁ elt x ∧ F a = [x])) :
    CRun G env n (.ListComp elt [⟨tgt, iter, ifs, 0⟩] scope pos) 0 ρ (xs.map mk) (xs.flatMap F) := comp_last (iter := iter) (fun _ _ => rfl) item
end
end Mine
end
section
open PySem PySem.W PyProof.Rows PySem.Builtin PySem.Builtin.Str PySem.StrLaws
set_option linter.unusedVariables false
set_option maxRecDepth 100000
namespace Mine
section
variable {G : Gnd} {env : Env} {Z Z' H : Zf} {ρ ρ' ρc : Loc} {s s' : Shared} {A : Around} {E : Value → Shared → Prop} {n : Nat} {pos apos : Pos}

/-- a, b = .. -/
theorem ex_assign_tuple {ts : List PySem.Expr} {k : Nat} {tpos : Pos} {e : PySem.Expr} {d : D} {Φ : Fl → Loc → Prop} (h : Ev G env n ρ e d) (ha : Asg G env (.Tuple ts k tpos) d ρ ρ') (hs : swapsWithSole [.Tuple ts k tpos] e pos.line env = pure false)
    (hw : swappedStores [.Tuple ts k tpos] e env = pure none) (hk : Φ .next ρ') : Ex G env n ρ (.Assign [.Tuple ts k tpos] e pos) Φ :=
  Ex.mk fun A Z H s R S => Assign_Tuple (wp_seq (h.run A Z H s R S) fun v s₁ ⟨Z₁, x₁, r₁⟩ => wp_seq (ha.run A Z₁ H s₁ v (R.less (Nat.zero_le _)) (S.ext x₁) r₁) fun _ s₂ ⟨Z₂, le₂, S₂⟩ => ⟨Z₂, _, .next, x₁.le.trans le₂, S₂, .next, hk⟩) hs hw
end
end Mine
end
section
open PySem PySem.W PyProof.Rows
set_option maxRecDepth 100000
namespace Mine
section
variable {G : Gnd} {env : Env} {Z Z' H : Zf} {ρ ρ' ρc : Loc} {s s' : Shared} {A : Around} {E : Value → Shared → Prop} {n : Nat} {pos apos : Pos}
def CellsIn (env : Env) (cl : List (Str × Addr)) : Prop := ∀ x c, cl.lookup x = some c → env.cells.lookup x = some c
theorem cells_nil : CellsIn env [] := fun _ _ h => nomatch h
theorem cells_cons {x : Str} {c : Addr} {cl : List (Str × Addr)} (h : env.cells.lookup x = some c) (r : CellsIn env cl) : CellsIn env ((x, c) :: cl) := fun y d e => by
  rw [List.lookup_cons] at e
  split at e
  · cases e; rename_i q; rw [beq_iff_eq] at q; subst q; exact h
  · exact r y d e
def CapIn (env : Env) (scope : Scope) (cl : List (Str × Addr)) (ρ ρc : Loc) : Prop :=
  ∀ x b, ρc.lookup x = some b → (∃ d, b = .val d) ∧ ρ.lookup x = some b ∧ env.kindOf x ≠ some .local ∧ (∃ c, cl.lookup x = some c) ∧ ((relabel scope env).names.lookup x = some .cell ∨ ((relabel scope env).names.lookup x = some .free ∧ (x == ("__classdict__" : Str)) = false))
theorem cap_nil {scope : Scope} {cl : List (Str × Addr)} : CapIn env scope cl ρ [] := fun _ _ h => nomatch h
theorem cap_cons {scope : Scope} {cl : List (Str × Addr)} {x : Str} {d : D} {c : Addr} (h1 : ρ.lookup x = some (.val d)) (h2 : env.kindOf x = some .cell) (h3 : cl.lookup x = some c) (h4 : (relabel scope env).names.lookup x = some .cell) (r : CapIn env scope cl ρ ρc) :
    CapIn env scope cl ρ ((x, .val d) :: ρc) := fun y b e => by
  rw [List.lookup_cons] at e
  split at e
  · cases e; rename_i q; rw [beq_iff_eq] at q; subst q
    exact ⟨⟨_, rfl⟩, h1, by rw [h2]; decide, ⟨_, h3⟩, .inl h4⟩
  · exact r y b e
theorem at_map {α : Type} {f : α → D} {l : List α} {i : Nat} {d : D} (h : (l.map f)[i]? = some d) : ∃ x, l[i]? = some x ∧ d = f x := by
  rw [List.getElem?_map] at h
  cases e : l[i]? with
  | none => rw [e] at h; cases h
  | some x => rw [e] at h; exact ⟨x, rfl, by simpa using h.symm⟩
end
end Mine
end
section
open PySem PySem.W PyProof.Rows PySem.Builtin PySem.Builtin.Str PySem.StrLaws
set_option linter.unusedVariables false
namespace Mine

/-- no spelling begins another one -/
def pcode (t : Tbl) : Bool := t.all (fun p => p.2.head? == some 38 && (t.lookup p.1 == some p.2) && t.all (fun q => q.1 == p.1 || (!(p.2.isPrefixOf q.2) && !(q.2.isPrefixOf p.2))) && p.2.tail.all (fun c => !(t.any fun q => q.1 == c)) && decide (p.2.length ≤ 8)) && (t.any fun q => q.1 == 38)
theorem mem_look {t : Tbl} {k : Nat} {z : List Nat} (h : t.lookup k = some z) : (k, z) ∈ t := by
  induction t with
  | nil => cases h
  | cons p r ih =>
    obtain ⟨a, b⟩ := p
    rw [List.lookup_cons] at h
    split at h
    · rename_i q; rw [beq_iff_eq] at q; subst q; cases h; exact List.mem_cons_self
    · exact List.mem_cons_of_mem _ (ih h)
theorem look_none {t : Tbl} {k : Nat} : t.lookup k = none ↔ (t.any fun q => q.1 == k) = false := by
  induction t with
  | nil => simp
  | cons p r ih =>
    obtain ⟨a, b⟩ := p
    rw [List.lookup_cons, List.any_cons, Bool.or_eq_false_iff, ← ih]
    by_cases h : k = a
    · subst h; simp
    · have h1 : (k == a) = false := beq_eq_false_iff_ne.mpr h
      have h2 : (a == k) = false := beq_eq_false_iff_ne.mpr (Ne.symm h)
      rw [h1]
      simp [h2]
structure PC (t : Tbl) : Prop where
  ok : pcode t = true
section
variable {t : Tbl}
theorem PC.at (h : PC t) {k : Nat} {z : List Nat} (hk : t.lookup k = some z) : ∃ y, z = 38 :: y ∧ (∀ q ∈ t, q.1 = k ∨ (¬ z <+: q.2 ∧ ¬ q.2 <+: z)) ∧ (∀ c ∈ y, t.lookup c = none) ∧ y.length ≤ 7 := by
  have h0 := h.ok
  unfold pcode at h0
  rw [Bool.and_eq_true] at h0
  have h1 := List.all_eq_true.mp h0.1 _ (mem_look hk)
  simp only [Bool.and_eq_true, beq_iff_eq, decide_eq_true_eq] at h1
  obtain ⟨⟨⟨⟨a1, a2⟩, a3⟩, a4⟩, a5⟩ := h1
  cases z with
  | nil => cases a1
  | cons c y =>
    have : c = 38 := by simpa using a1
    subst this
    refine ⟨y, rfl, fun q hq => ?_, fun c hc => ?_, by simpa using a5⟩
    · have := List.all_eq_true.mp a3 q hq
      rw [Bool.or_eq_true, beq_iff_eq, Bool.and_eq_true, Bool.not_eq_true', Bool.not_eq_true'] at this
      rcases this with e | ⟨e1, e2⟩
      · exact .inl e
      · refine .inr ⟨fun q => ?_, fun q => ?_⟩
        · rw [List.isPrefixOf_iff_prefix.mpr q] at e1; cases e1
        · rw [List.isPrefixOf_iff_prefix.mpr q] at e2; cases e2
    · have := List.all_eq_true.mp a4 c hc
      exact look_none.mpr (by simpa using this)
theorem PC.amp (h : PC t) {k : Nat} (hk : t.lookup k = none) : k ≠ 38 := by
  have h0 := h.ok
  unfold pcode at h0
  rw [Bool.and_eq_true] at h0
  intro e
  subst e
  rw [look_none.mp hk] at h0
  cases h0.2
theorem spell_some {k : Nat} {z : List Nat} (h : t.lookup k = some z) : spell t k = z := by unfold spell; rw [h]; rfl
theorem spell_none {k : Nat} (h : t.lookup k = none) : spell t k = [k] := by unfold spell; rw [h]; rfl
theorem spell_ne (h : PC t) (k : Nat) : spell t k ≠ [] := by
  cases hk : t.lookup k with
  | none => rw [spell_none hk]; simp
  | some z => obtain ⟨y, e, _⟩ := h.at hk; rw [spell_some hk, e]; simp
theorem spell_free (h : PC t) {a b : Nat} (hab : a ≠ b) : ¬ spell t a <+: spell t b := by
  intro hp
  cases ha : t.lookup a with
  | none =>
    rw [spell_none ha] at hp
    cases hb : t.lookup b with
    | none => rw [spell_none hb] at hp; obtain ⟨r, e⟩ := hp; simp at e; exact hab e.1
    | some z =>
      obtain ⟨y, e, _⟩ := h.at hb
      rw [spell_some hb, e] at hp
      obtain ⟨r, e'⟩ := hp
      simp at e'
      exact h.amp ha e'.1
  | some z =>
    obtain ⟨y, e, hq, _⟩ := h.at ha
    rw [spell_some ha] at hp
    cases hb : t.lookup b with
    | none =>
      rw [spell_none hb, e] at hp
      obtain ⟨r, e'⟩ := hp
      simp at e'
      exact h.amp hb e'.1.symm
    | some z' =>
      rw [spell_some hb] at hp
      rcases hq _ (mem_look hb) with q | q
      · exact hab q.symm
      · exact q.1 hp
theorem esc_prefix (h : PC t) : ∀ (p l : List Nat), escBy t p <+: escBy t l ↔ p <+: l
  | [], l => by simp [escBy]
  | a :: p, [] => by
    rw [escBy_cons]
    constructor
    · intro hp
      have : spell t a ++ escBy t p = [] := List.prefix_nil.mp hp
      exact absurd (List.append_eq_nil_iff.mp this).1 (spell_ne h a)
    · intro hp; cases List.prefix_nil.mp hp
  | a :: p, b :: l => by
    rw [escBy_cons, escBy_cons]
    by_cases hab : a = b
    · subst hab
      rw [List.prefix_append_right_inj, List.cons_prefix_cons, esc_prefix h p l]
      simp
    · constructor
      · intro hp
        exfalso
        have h1 : spell t a <+: spell t b ++ escBy t l := (List.prefix_append _ _).trans hp
        rcases List.prefix_or_prefix_of_prefix h1 (List.prefix_append (spell t b) (escBy t l)) with q | q
        · exact spell_free h hab q
        · exact spell_free h (Ne.symm hab) q
      · intro hp
        exact absurd (List.cons_prefix_cons.mp hp).1 hab
end

end Mine
end
section
open PySem PySem.W PyProof.Rows
set_option linter.unusedVariables false
set_option maxRecDepth 100000
namespace Mine
section
abbrev dD (t : Tbl) : D := .dict (t.map fun p => T [p.1]) (t.map fun p => .str (T p.2))
theorem dget_tb {tb : Tbl} (k : Nat) : dget (tb.map fun p => T [p.1]) (tb.map fun p => D.str (T p.2)) ⟨#[k]⟩ = (tb.lookup k).map fun t => .str (T t) := by
  unfold dget
  induction tb with
  | nil => rfl
  | cons p r ih =>
    obtain ⟨a, b⟩ := p
    simp only [List.map_cons, List.zip_cons_cons, List.lookup_cons]
    have e : ((⟨#[k]⟩ : Str) == T [a]) = (k == a) := by
      rw [← T_one, T_beq]
      simp
      by_cases h : k = a <;> simp [h]
    rw [e]
    cases k == a with
    | true => rfl
    | false => exact ih
abbrev strDict (t : List (Str × Str)) : D := .dict (t.map (·.1)) (t.map fun p => .str p.2)
theorem strDict_eq {t : List (Str × Str)} {tb : Tbl} (h : t = tb.map fun p => (T [p.1], T p.2)) : strDict t = dD tb := by
  rw [h]
  show D.dict _ _ = D.dict _ _
  rw [List.map_map, List.map_map]
  rfl
def sC : List (Str × Str) := [("&", "&amp;"), ("<", "&lt;"), (">", "&gt;")]
theorem join_flatT (xs : List (List Nat)) : Txt.join Str.empty (xs.map T) = T xs.flatten := by
  unfold Txt.join
  rw [StrLaws.glued_eq_join]
  have h := join_list [] xs
  have e : ∀ xs : List (List Nat), (xs.intersperse []).flatten = xs.flatten := by
    intro xs
    induction xs with
    | nil => rfl
    | cons a r ih => cases r with
      | nil => rfl
      | cons b r => rw [List.intersperse_cons_cons]; simp only [List.flatten_cons, List.nil_append] at ih ⊢; rw [ih]
  rw [e] at h
  exact h
end
end Mine
end
section
open PySem PySem.W PyProof.Rows PySem.Builtin PySem.Builtin.Str
set_option linter.unusedVariables false
set_option maxRecDepth 100000
namespace Mine
section
variable {G : Gnd} {env : Env} {Z Z' H : Zf} {ρ ρ' ρc : Loc} {s s' : Shared} {A : Around} {E : Value → Shared → Prop} {n : Nat} {pos apos sp : Pos}
theorem getm_dict_get {ks : List Str} {ds : List D} : GetM G "get" (.dict ks ds) "dict.get" := GetM.mk fun M A pl Z s v Q E hz r h => by
  cases r with
  | dict hz' hs hd ra =>
    have hm := dictOf_of (hz _ _ hz') hd
    exact getMethod_builtin hm.typeIs F.plainAttrs_dict F.slot_dict_get F.type_dict_get (fun a e => by cases e; exact hm.mapOf.noDict _ rfl) h
/-- d.get(x, y) -/
theorem ev_get {o a b : PySem.Expr} {ks : List Str} {ds : List D} {x : Str} {d : D} (ho : Ev G env n ρ o (.dict ks ds)) (ha : Ev G env n ρ a (.str x)) (hb : Ev G env n ρ b d) (h1 : isNameCall o = false) (h2 : isStarred a = false) (h3 : isStarred b = false) (hline : (apos.endLine == pos.line) = true) :
    Ev G env n ρ (.Call (.Attribute o "get" apos) [a, b] [] pos) ((dget ks ds x).getD d) :=
  ev_meth ho (evs_more ha (evs_more hb evs_nil h3) h2) getm_dict_get bf_dict_get h1 (by simp [h2, h3]) (by show 2 < 30; decide) hline
theorem ev_spell {o a b : PySem.Expr} {tb : Tbl} {c : Nat} (ho : Ev G env n ρ o (dD tb)) (ha : Ev G env n ρ a (.str ⟨#[c]⟩)) (hb : Ev G env n ρ b (.str ⟨#[c]⟩)) (h1 : isNameCall o = false) (h2 : isStarred a = false) (h3 : isStarred b = false) (hline : (apos.endLine == pos.line) = true) :
    Ev G env n ρ (.Call (.Attribute o "get" apos) [a, b] [] pos) (.str (T (spell tb c))) := by
  have := ev_get (pos := pos) ho ha hb h1 h2 h3 hline
  rw [dget_tb] at this
  unfold spell
  cases hk : tb.lookup c with
  | none => rw [hk] at this; exact this
  | some z => rw [hk] at this; exact this
theorem big_line : 100000 ≤ sizeLine := by decide
theorem ev_cat {e e' : PySem.Expr} {x y : List Nat} (h : Ev G env n ρ e (.str (T x))) (h' : Ev G env n ρ e' (.str (T y))) (hl : x.length + y.length ≤ 100000) : Ev G env n ρ (.BinOp e .Add e' pos) (.str (T (x ++ y))) := by
  rw [← T_append]
  exact ev_binop h h' (op_add_str (by rw [T_length, T_length]; have := big_line; omega))
theorem map_one {α β : Type} (f : α → β) (l : List α) : l.map f = l.flatMap fun x => [f x] := by
  induction l with
  | nil => rfl
  | cons a r ih => rw [List.map_cons, List.flatMap_cons, ih]; rfl
end
end Mine
end
section
open PySem PySem.W PyProof.Rows PySem.Builtin PySem.Builtin.Str
set_option linter.unusedVariables false
set_option maxRecDepth 100000
namespace Mine
section
variable {G : Gnd} {env : Env} {Z Z' H : Zf} {ρ ρ' ρc : Loc} {s s' : Shared} {A : Around} {E : Value → Shared → Prop} {n : Nat} {pos apos sp : Pos}
theorem op_add_list {ds es : List D} (h : ds.length + es.length ≤ 100000) : Op2 G (binaryOp .Add) (.list ds) (.list es) (.list (ds ++ es)) := Op2.mk fun A Z s v₁ v₂ R b r₁ r₂ => by
  have big := big_line
  cases r₁ with
  | @list a vs k _ hz ra =>
    cases r₂ with
    | @list a' ws k' _ hz' ra' =>
      refine P.add_list (b.zin _ _ hz) (b.zin _ _ hz') ?_ (by rw [List.size_toArray, List.size_toArray, ra.length, ra'.length]; omega)
      have e : vs.toArray ++ ws.toArray = (vs ++ ws).toArray := by simp
      rw [e]
      exact ⟨_, Ext.alloc (t := s.toks) b.zin rfl (Nat.le_refl _), .list Zadd.self ((ra.append ra').mono (Ext.alloc (s := s) (t := s.toks) b.zin rfl (Nat.le_refl _)).le)⟩
-- and, or of truth values, as values
end
end Mine
end
section
open PySem PySem.W PyProof.Rows PySem.Builtin PySem.Builtin.Str PySem.StrLaws
set_option linter.unusedVariables false
namespace Mine
section
variable {t : Tbl}
theorem occ_esc (h : PC t) {a : Nat} {p : List Nat} (ha : (t.lookup a).isSome = true) : ∀ (l : List Nat) (j : Nat), escBy t (a :: p) <+: (escBy t l).drop j → ∃ i, i ≤ l.length ∧ j = (escBy t (l.take i)).length ∧ (a :: p) <+: l.drop i
  | [], j, hp => by
    exfalso
    have : escBy t (a :: p) = [] := List.prefix_nil.mp (by simpa [escBy] using hp)
    rw [escBy_cons] at this
    exact spell_ne h a (List.append_eq_nil_iff.mp this).1
  | c :: r, j, hp => by
    by_cases h0 : j = 0
    · subst h0
      exact ⟨0, Nat.zero_le _, rfl, (esc_prefix h _ _).mp hp⟩
    · rw [escBy_cons (r := r)] at hp
      by_cases hj : j < (spell t c).length
      · exfalso
        rw [List.drop_append_of_le_length (Nat.le_of_lt hj)] at hp
        obtain ⟨z, hz⟩ := Option.isSome_iff_exists.mp ha
        obtain ⟨y, ez, _⟩ := h.at hz
        rw [escBy_cons, spell_some hz, ez, List.drop_eq_getElem_cons hj] at hp
        obtain ⟨x, hx⟩ := hp
        simp only [List.cons_append] at hx
        have h38 : (38 : Nat) = (spell t c)[j] := (List.cons.inj hx).1
        cases hc : t.lookup c with
        | none => rw [spell_none hc] at hj; simp at hj; omega
        | some z' =>
          obtain ⟨y', ez', _, hy', _⟩ := h.at hc
          have hs : spell t c = 38 :: y' := by rw [spell_some hc, ez']
          have hm : (38 : Nat) ∈ y' := by
            obtain ⟨j', rfl⟩ := Nat.exists_eq_succ_of_ne_zero h0
            have e : (spell t c)[j' + 1]? = some 38 := by rw [List.getElem?_eq_getElem hj, ← h38]
            rw [hs, List.getElem?_cons_succ] at e
            exact List.mem_of_getElem? e
          exact h.amp (hy' 38 hm) rfl
      · obtain ⟨i, hi, ej, hi2⟩ := occ_esc h ha r (j - (spell t c).length) (by
          rw [List.drop_append, List.drop_of_length_le (by omega)] at hp
          simpa using hp)
        refine ⟨i + 1, by simpa using hi, ?_, by simpa using hi2⟩
        rw [List.take_succ_cons, escBy_cons, List.length_append]; omega
end
/-- from the left, k places at most -/
inductive LS (p : List Nat) : Nat → List Nat → List (List Nat) → Prop
  | zero (u : List Nat) : LS p 0 u [u]
  | none (k : Nat) (u : List Nat) : (∀ j, ¬ p <+: u.drop j) → LS p k u [u]
  | hit (k : Nat) (w v : List Nat) (ps : List (List Nat)) : (∀ j, j < w.length → ¬ p <+: (w ++ (p ++ v)).drop j) → LS p k v ps → LS p (k + 1) (w ++ (p ++ v)) (w :: ps)
/-- from the right, k places at most -/
inductive RS (p : List Nat) : Nat → List Nat → List (List Nat) → Prop
  | zero (u : List Nat) : RS p 0 u [u]
  | none (k : Nat) (u : List Nat) : (∀ j, ¬ p <+: u.drop j) → RS p k u [u]
  | hit (k : Nat) (v w : List Nat) (ps : List (List Nat)) : (∀ j, 0 < j → ¬ p <+: (p ++ w).drop j) → RS p k v ps → RS p (k + 1) (v ++ (p ++ w)) (ps ++ [w])
section
variable {t : Tbl}
theorem esc_take_lt {l : List Nat} {i n : Nat} (h : (escBy t (l.take i)).length < (escBy t (l.take n)).length) : i < n := by
  by_cases q : i < n
  · exact q
  · exfalso
    have e : l.take i = l.take n ++ (l.take i).drop n := by
      conv => lhs; rw [← List.take_append_drop n (l.take i)]
      rw [List.take_take, Nat.min_eq_left (by omega)]
    rw [e, escBy_append, List.length_append] at h
    omega
theorem LS.esc (h : PC t) {a : Nat} {p : List Nat} (ha : (t.lookup a).isSome = true) {k : Nat} {l : List Nat} {ps : List (List Nat)} (H : LS (a :: p) k l ps) : LS (escBy t (a :: p)) k (escBy t l) (ps.map (escBy t)) := by
  induction H with
  | zero u => exact .zero _
  | none k u hn => exact .none _ _ fun j hj => by obtain ⟨i, _, _, q⟩ := occ_esc h ha u j hj; exact hn i q
  | hit k w v ps hn _ ih =>
    rw [escBy_append, escBy_append, List.map_cons]
    refine .hit _ _ _ _ (fun j hj hp => ?_) ih
    rw [← escBy_append, ← escBy_append] at hp
    obtain ⟨i, hi, ej, q⟩ := occ_esc h ha _ j hp
    refine hn i (esc_take_lt (t := t) (l := w ++ (a :: p ++ v)) ?_) q
    rw [← ej, List.take_left' rfl]; exact hj
theorem RS.esc (h : PC t) {a : Nat} {p : List Nat} (ha : (t.lookup a).isSome = true) {k : Nat} {l : List Nat} {ps : List (List Nat)} (H : RS (a :: p) k l ps) : RS (escBy t (a :: p)) k (escBy t l) (ps.map (escBy t)) := by
  induction H with
  | zero u => exact .zero _
  | none k u hn => exact .none _ _ fun j hj => by obtain ⟨i, _, _, q⟩ := occ_esc h ha u j hj; exact hn i q
  | hit k v w ps hn _ ih =>
    rw [escBy_append, escBy_append, List.map_append]
    refine .hit _ _ _ _ (fun j hj hp => ?_) ih
    rw [← escBy_append] at hp
    obtain ⟨i, hi, ej, q⟩ := occ_esc h ha _ j hp
    refine hn i ?_ q
    by_cases q0 : i = 0
    · subst q0; simp [escBy] at ej; omega
    · omega
theorem LS.inv {p : List Nat} {k : Nat} {u : List Nat} {qs : List (List Nat)} (H : LS p k u qs) : (k = 0 ∧ qs = [u]) ∨ ((∀ j, ¬ p <+: u.drop j) ∧ qs = [u]) ∨ ∃ k' w v ps, k = k' + 1 ∧ u = w ++ (p ++ v) ∧ (∀ j, j < w.length → ¬ p <+: u.drop j) ∧ LS p k' v ps ∧ qs = w :: ps := by
  cases H with
  | zero u => exact .inl ⟨rfl, rfl⟩
  | none k u hn => exact .inr (.inl ⟨hn, rfl⟩)
  | hit k w v ps hn h => exact .inr (.inr ⟨k, w, v, ps, rfl, rfl, hn, h, rfl⟩)
theorem RS.inv {p : List Nat} {k : Nat} {u : List Nat} {qs : List (List Nat)} (H : RS p k u qs) : (k = 0 ∧ qs = [u]) ∨ ((∀ j, ¬ p <+: u.drop j) ∧ qs = [u]) ∨ ∃ k' v w ps, k = k' + 1 ∧ u = v ++ (p ++ w) ∧ (∀ j, 0 < j → ¬ p <+: (p ++ w).drop j) ∧ RS p k' v ps ∧ qs = ps ++ [w] := by
  cases H with
  | zero u => exact .inl ⟨rfl, rfl⟩
  | none k u hn => exact .inr (.inl ⟨hn, rfl⟩)
  | hit k v w ps hn h => exact .inr (.inr ⟨k, v, w, ps, rfl, rfl, hn, h, rfl⟩)
theorem LS.uniq {p : List Nat} {k : Nat} {u : List Nat} {ps qs : List (List Nat)} (H : LS p k u ps) (H' : LS p k u qs) : ps = qs := by
  induction H generalizing qs with
  | zero u =>
    rcases H'.inv with ⟨_, e⟩ | ⟨_, e⟩ | ⟨k', w, v, ps, e, _⟩
    · exact e.symm
    · exact e.symm
    · cases e
  | none k u hn =>
    rcases H'.inv with ⟨_, e⟩ | ⟨_, e⟩ | ⟨k', w, v, ps, _, eu, _⟩
    · exact e.symm
    · exact e.symm
    · exact absurd (by rw [eu, List.drop_left]; exact List.prefix_append p v) (hn w.length)
  | hit k w v ps hn _ ih =>
    rcases H'.inv with ⟨e, _⟩ | ⟨hn', _⟩ | ⟨k', w', v', ps', e, eu, hn', h', rfl⟩
    · cases e
    · exact absurd (by rw [List.drop_left]; exact List.prefix_append p v) (hn' w.length)
    · cases e
      have hl : w.length = w'.length := by
        rcases Nat.lt_trichotomy w.length w'.length with q | q | q
        · exact absurd (by rw [List.drop_left]; exact List.prefix_append p v) (hn' _ q)
        · exact q
        · exact absurd (by rw [eu, List.drop_left]; exact List.prefix_append p v') (hn _ q)
      obtain ⟨e1, e2⟩ := List.append_inj eu hl
      have e3 := List.append_cancel_left e2
      subst e1 e3
      rw [ih h']
theorem RS.uniq {p : List Nat} {k : Nat} {u : List Nat} {ps qs : List (List Nat)} (H : RS p k u ps) (H' : RS p k u qs) : ps = qs := by
  induction H generalizing qs with
  | zero u =>
    rcases H'.inv with ⟨_, e⟩ | ⟨_, e⟩ | ⟨k', w, v, ps, e, _⟩
    · exact e.symm
    · exact e.symm
    · cases e
  | none k u hn =>
    rcases H'.inv with ⟨_, e⟩ | ⟨_, e⟩ | ⟨k', v, w, ps, _, eu, _⟩
    · exact e.symm
    · exact e.symm
    · exact absurd (by rw [eu, List.drop_left]; exact List.prefix_append p w) (hn v.length)
  | hit k v w ps hn _ ih =>
    rcases H'.inv with ⟨e, _⟩ | ⟨hn', _⟩ | ⟨k', v', w', ps', e, eu, hn', h', rfl⟩
    · cases e
    · exact absurd (by rw [List.drop_left]; exact List.prefix_append p w) (hn' v.length)
    · cases e
      have key : ∀ {v v' w w' : List Nat}, v ++ (p ++ w) = v' ++ (p ++ w') → v.length < v'.length → p <+: (p ++ w).drop (v'.length - v.length) := by
        intro v v' w w' e q
        have e1 : (v ++ (p ++ w)).drop v'.length = p ++ w' := by rw [e, List.drop_left]
        rw [List.drop_append, List.drop_of_length_le (by omega), List.nil_append] at e1
        rw [e1]; exact List.prefix_append p w'
      have hl : v.length = v'.length := by
        rcases Nat.lt_trichotomy v.length v'.length with q | q | q
        · exact absurd (key eu q) (hn _ (by omega))
        · exact q
        · exact absurd (key eu.symm q) (hn' _ (by omega))
      obtain ⟨e1, e2⟩ := List.append_inj eu hl
      have e3 := List.append_cancel_left e2
      subst e1 e3
      rw [ih h']
theorem esc_join (q : List Nat) : ∀ ps : List (List Nat), ((ps.map (escBy t)).intersperse (escBy t q)).flatten = escBy t ((ps.intersperse q).flatten)
  | [] => rfl
  | [a] => by simp
  | a :: b :: r => by
    have ih := esc_join q (b :: r)
    simp only [List.map_cons, List.intersperse, List.flatten_cons] at ih ⊢
    rw [ih, escBy_append, escBy_append]
end
end Mine
end
section
open PySem PySem.W PyProof.Rows PySem.Builtin PySem.Builtin.Str PySem.StrLaws
set_option linter.unusedVariables false
namespace Mine
theorem tightK (s sub : Str) (hi limit lo : Nat) (hw : 1 ≤ sub.length) : ∀ (m cur : Nat) (st : Array Nat × Nat), ChainG s sub hi lo st.fst.toList st.snd → (st.fst.size < limit → ∀ k, st.snd ≤ k → k < cur → ¬ At s sub hi k) → st.fst.size ≤ limit →
    ChainG s sub hi lo (forIn (List.range' cur m) st (occBody s sub hi limit)).run.fst.toList (forIn (List.range' cur m) st (occBody s sub hi limit)).run.snd ∧
    ((forIn (List.range' cur m) st (occBody s sub hi limit)).run.fst.size < limit → ∀ k, (forIn (List.range' cur m) st (occBody s sub hi limit)).run.snd ≤ k → k < cur + m → ¬ At s sub hi k) ∧ (forIn (List.range' cur m) st (occBody s sub hi limit)).run.fst.size ≤ limit
  | 0, cur, st, h, hn, hl => ⟨h, hn, hl⟩
  | m + 1, cur, st, h, hn, hl => by
    rw [List.range'_succ, List.forIn_cons]
    unfold occBody
    have e : cur + (m + 1) = (cur + 1) + m := by omega
    rw [e]
    split
    · rename_i hc
      refine tightK s sub hi limit lo hw m (cur + 1) _ ?_ ?_ ?_
      · show ChainG s sub hi lo (st.fst.push cur).toList (cur + sub.length)
        rw [Array.toList_push]
        exact chainG_snoc h hc.1.1.2 ⟨hc.1.2, hc.2⟩ (hn hc.1.1.1)
      · intro _ k h1 h2
        have h1' : cur + sub.length ≤ k := h1
        omega
      · show (st.fst.push cur).size ≤ limit
        rw [Array.size_push]; have := hc.1.1.1; omega
    · rename_i hc
      refine tightK s sub hi limit lo hw m (cur + 1) _ h ?_ hl
      intro hs k h1 h2 hA
      by_cases hk : k < cur
      · exact hn hs k h1 hk hA
      · have ek : k = cur := by omega
        subst ek
        exact hc ⟨⟨⟨hs, h1⟩, hA.1⟩, hA.2⟩
theorem occ_tightK (x y : Str) (limit : Nat) (hw : 1 ≤ y.length) : ∃ f, ChainG x y x.length 0 (occurrences x y 0 x.length limit) f ∧ ((occurrences x y 0 x.length limit).length < limit → ∀ k, f ≤ k → ¬ At x y x.length k) ∧ (occurrences x y 0 x.length limit).length ≤ limit := by
  rw [occ_eq]
  have key := tightK x y x.length limit 0 hw (x.length + 1 - 0) 0 ((#[] : Array Nat), 0) rfl (fun _ k _ h => by omega) (Nat.zero_le _)
  refine ⟨_, key.1, fun hs k hk hA => ?_, by rw [Array.length_toList]; exact key.2.2⟩
  rw [Array.length_toList] at hs
  exact key.2.1 hs k hk (by have := hA.1; omega) hA
theorem sub_list (l : List Nat) (a b : Nat) : strSub (T l) a b = T ((l.drop a).take (b - a)) := by rw [← T_of (strSub (T l) a b), strSub_toList, T_list]
theorem parts_LS (l p : List Nat) (h1 : p ≠ []) : ∀ (cuts : List Nat) (a f limit : Nat), a ≤ l.length → ChainG (T l) (T p) (T l).length a cuts f → (cuts.length < limit → ∀ k, f ≤ k → ¬ At (T l) (T p) (T l).length k) → cuts.length ≤ limit →
    ∃ ps, partsFrom (T l) (T p).length a cuts = ps.map T ∧ LS p limit (l.drop a) ps
  | [], a, f, limit, ha, h, hn, _ => by
    have e : f = a := h
    subst e
    refine ⟨[l.drop f], ?_, ?_⟩
    · show [strSub (T l) f (T l).length] = [T (l.drop f)]
      rw [sub_list, List.take_of_length_le (by rw [List.length_drop, T_length]; omega)]
    · cases limit with
      | zero => exact .zero _
      | succ k =>
        refine .none _ _ fun j hj => hn (by simp) (f + j) (by omega) ((at_iff l p _ h1).mpr ?_)
        rwa [List.drop_drop] at hj
  | c :: r, a, f, 0, _, _, _, hl => by simp at hl
  | c :: r, a, f, limit + 1, ha, h, hn, hl => by
    obtain ⟨h2, h3, h4, h5⟩ := h
    have hp := (at_iff l p c h1).mp h3
    have hc : c + p.length ≤ l.length := by
      have := h3.1
      rwa [T_length, T_length] at this
    obtain ⟨ps, e1, e2⟩ := parts_LS l p h1 r (c + (T p).length) f limit (by rw [T_length]; exact hc) h5 (fun q => hn (by simpa using q)) (by simpa using hl)
    have e : l.drop a = (l.drop a).take (c - a) ++ l.drop c := by
      conv => lhs; rw [← List.take_append_drop (c - a) (l.drop a)]
      rw [List.drop_drop, show a + (c - a) = c by omega]
    have hl2 : ((l.drop a).take (c - a)).length = c - a := by rw [List.length_take, List.length_drop]; omega
    have ep : l.drop c = p ++ l.drop (c + p.length) := by
      obtain ⟨z, hz⟩ := hp
      rw [← hz, ← List.drop_drop, ← hz, List.drop_left]
    refine ⟨(l.drop a).take (c - a) :: ps, ?_, ?_⟩
    · show strSub (T l) a c :: partsFrom (T l) (T p).length (c + (T p).length) r = _
      rw [e1, sub_list]; rfl
    · rw [T_length] at e2
      have := LS.hit (p := p) limit ((l.drop a).take (c - a)) (l.drop (c + p.length)) ps (fun j hj hq => ?_) e2
      · rw [← ep, ← e] at this; exact this
      · rw [← ep, ← e, List.drop_drop] at hq
        rw [hl2] at hj
        exact h4 (a + j) (by omega) (by omega) ((at_iff l p _ h1).mpr hq)
/-- x.replace(y, z, k) -/
def replN (x y z : Str) (k : Nat) : Str := if (occurrences x y 0 x.length k).isEmpty = true then x else glued z (partsBetween x (occurrences x y 0 x.length k) y.length)
theorem replN_T (l p q : List Nat) (k : Nat) (h1 : p ≠ []) : ∃ ps, LS p k l ps ∧ replN (T l) (T p) (T q) k = T ((ps.intersperse q).flatten) := by
  have hw : 1 ≤ (T p).length := by rw [T_length]; exact List.length_pos_iff.mpr h1
  obtain ⟨f, hc, hn, hl⟩ := occ_tightK (T l) (T p) k hw
  obtain ⟨ps, e1, e2⟩ := parts_LS l p h1 _ 0 f k (Nat.zero_le _) hc hn hl
  rw [List.drop_zero] at e2
  refine ⟨ps, e2, ?_⟩
  unfold replN
  split
  · rename_i he
    rw [List.isEmpty_iff.mp he] at e1
    have e3 : [strSub (T l) 0 (T l).length] = ps.map T := e1
    obtain ⟨a, rfl⟩ : ∃ a, ps = [a] := by
      cases ps with
      | nil => cases e3
      | cons a r => cases r with
        | nil => exact ⟨a, rfl⟩
        | cons b r => cases (List.cons.inj e3).2
    have := (List.cons.inj e3).1
    rw [sub_whole] at this
    rw [this]; simp
  · rw [partsBetween_eq, e1, glued_eq_join]
    exact join_list q _
/-- the same done with the writings -/
theorem repl_esc {t : Tbl} (h : PC t) {a : Nat} {p : List Nat} (ha : (t.lookup a).isSome = true) (l q : List Nat) (k : Nat) :
    ∃ r, replN (T l) (T (a :: p)) (T q) k = T r ∧ replN (T (escBy t l)) (T (escBy t (a :: p))) (T (escBy t q)) k = T (escBy t r) := by
  obtain ⟨ps, h1, e1⟩ := replN_T l (a :: p) q k (by simp)
  have hne : escBy t (a :: p) ≠ [] := by rw [escBy_cons]; intro e; exact spell_ne h a (List.append_eq_nil_iff.mp e).1
  obtain ⟨qs, h2, e2⟩ := replN_T (escBy t l) (escBy t (a :: p)) (escBy t q) k hne
  refine ⟨_, e1, ?_⟩
  rw [e2, h2.uniq (h1.esc h ha), esc_join]
def ChainR (s sub : Str) : Nat → List Nat → Nat → Prop
  | b, [], f => f = b
  | b, c :: r, f => c + sub.length ≤ b ∧ subAt s sub c = true ∧ (∀ k, c < k → k + sub.length ≤ b → ¬ subAt s sub k = true) ∧ ChainR s sub c r f
theorem chainR_snoc {s sub : Str} : ∀ {b : Nat} {cuts : List Nat} {f i : Nat}, ChainR s sub b cuts f → i + sub.length ≤ f → subAt s sub i = true → (∀ k, i < k → k + sub.length ≤ f → ¬ subAt s sub k = true) → ChainR s sub b (cuts ++ [i]) i
  | b, [], f, i, h, hf, hi', hn => by
    have e : f = b := h
    subst e
    exact ⟨hf, hi', hn, rfl⟩
  | b, c :: r, f, i, h, hf, hi', hn => ⟨h.1, h.2.1, h.2.2.1, chainR_snoc h.2.2.2 hf hi' hn⟩
theorem runR (s sub : Str) (limit : Nat) (hw : 1 ≤ sub.length) : ∀ (m cur : Nat) (st : Array Nat × Nat), cur + m = s.length + 1 → ChainR s sub s.length st.fst.toList st.snd → (st.fst.size < limit → ∀ k, s.length < k + cur → k + sub.length ≤ st.snd → ¬ subAt s sub k = true) → st.fst.size ≤ limit →
    ChainR s sub s.length (forIn (List.range' cur m) st (occRBody s sub limit)).run.fst.toList (forIn (List.range' cur m) st (occRBody s sub limit)).run.snd ∧
    ((forIn (List.range' cur m) st (occRBody s sub limit)).run.fst.size < limit → ∀ k, k + sub.length ≤ (forIn (List.range' cur m) st (occRBody s sub limit)).run.snd → ¬ subAt s sub k = true) ∧ (forIn (List.range' cur m) st (occRBody s sub limit)).run.fst.size ≤ limit
  | 0, cur, st, hc, h, hn, hl => ⟨h, fun q k => hn q k (by omega), hl⟩
  | m + 1, cur, st, hcm, h, hn, hl => by
    rw [List.range'_succ, List.forIn_cons]
    unfold occRBody
    split
    · rename_i hc
      refine runR s sub limit hw m (cur + 1) _ (by omega) ?_ ?_ ?_
      · show ChainR s sub s.length (st.fst.push (s.length - cur)).toList (s.length - cur)
        rw [Array.toList_push]
        exact chainR_snoc h hc.1.2 hc.2 fun k h1 h2 => hn hc.1.1 k (by omega) h2
      · intro _ k h1 h2
        have h2' : k + sub.length ≤ s.length - cur := h2
        omega
      · show (st.fst.push _).size ≤ limit
        rw [Array.size_push]; have := hc.1.1; omega
    · rename_i hc
      refine runR s sub limit hw m (cur + 1) _ (by omega) h ?_ hl
      intro hs k h1 h2 hA
      by_cases hk : s.length < k + cur
      · exact hn hs k hk h2 hA
      · have ek : k = s.length - cur := by omega
        subst ek
        exact hc ⟨⟨hs, h2⟩, hA⟩
theorem occR_tight (x y : Str) (limit : Nat) (hw : 1 ≤ y.length) : ∃ D f, occurrencesFromRight x y limit = D.reverse ∧ ChainR x y x.length D f ∧ (D.length < limit → ∀ k, k + y.length ≤ f → ¬ subAt x y k = true) ∧ D.length ≤ limit := by
  rw [occR_eq]
  have key := runR x y limit hw (x.length + 1) 0 ((#[] : Array Nat), x.length) (by omega) rfl (fun _ k h1 h2 => by have h2' : k + y.length ≤ x.length := h2; omega) (Nat.zero_le _)
  exact ⟨_, _, rfl, key.1, (fun q => key.2.1 (by simpa using q)), by simpa using key.2.2⟩
def partsTo (x : Str) (w : Nat) : Nat → List Nat → List Str
  | b, [] => [strSub x 0 b]
  | b, c :: r => partsTo x w c r ++ [strSub x (c + w) b]
def partsFT (x : Str) (w : Nat) : Nat → List Nat → Nat → List Str
  | a, [], b => [strSub x a b]
  | a, c :: r, b => strSub x a c :: partsFT x w (c + w) r b
theorem partsFT_snoc (x : Str) (w c b : Nat) : ∀ (cuts : List Nat) (a : Nat), partsFT x w a (cuts ++ [c]) b = partsFT x w a cuts c ++ [strSub x (c + w) b]
  | [], a => rfl
  | d :: r, a => by show _ :: partsFT x w (d + w) (r ++ [c]) b = _; rw [partsFT_snoc x w c b r]; rfl
theorem partsFT_rev (x : Str) (w : Nat) : ∀ (D : List Nat) (b : Nat), partsFT x w 0 D.reverse b = partsTo x w b D
  | [], b => rfl
  | c :: r, b => by rw [List.reverse_cons, partsFT_snoc, partsFT_rev x w r c]; rfl
theorem partsFrom_FT (x : Str) (w : Nat) : ∀ (cuts : List Nat) (a : Nat), partsFrom x w a cuts = partsFT x w a cuts x.length
  | [], a => rfl
  | c :: r, a => by show _ :: partsFrom x w (c + w) r = _; rw [partsFrom_FT x w r]; rfl
theorem subAt_T (l p : List Nat) (k : Nat) (h : k + p.length ≤ l.length) : subAt (T l) (T p) k = true ↔ p <+: l.drop k := by
  rw [subAt_eq, T_length, T_list, T_list, beq_iff_eq]
  constructor
  · intro e; rw [← e]; exact List.take_prefix _ _
  · rintro ⟨z, hz⟩; rw [← hz, List.take_left]
theorem pre_len {p l : List Nat} {j : Nat} (h1 : p ≠ []) (h : p <+: l.drop j) : j + p.length ≤ l.length := by
  have := h.length_le
  rw [List.length_drop] at this
  have := List.length_pos_iff.mpr h1
  omega
theorem parts_RS (l p : List Nat) (h1 : p ≠ []) : ∀ (D : List Nat) (b f limit : Nat), b ≤ l.length → ChainR (T l) (T p) b D f → (D.length < limit → ∀ k, k + p.length ≤ f → ¬ subAt (T l) (T p) k = true) → D.length ≤ limit →
    ∃ ps, partsTo (T l) (T p).length b D = ps.map T ∧ RS p limit (l.take b) ps
  | [], b, f, limit, hb, h, hn, _ => by
    have e : f = b := h
    subst e
    refine ⟨[l.take f], ?_, ?_⟩
    · show [strSub (T l) 0 f] = [T (l.take f)]
      rw [sub_list]; rfl
    · cases limit with
      | zero => exact .zero _
      | succ k =>
        refine .none _ _ fun j hj => ?_
        have hl := pre_len h1 hj
        rw [List.length_take] at hl
        refine hn (by simp) j (by omega) ((subAt_T l p j (by omega)).mpr ?_)
        rw [List.drop_take] at hj
        exact hj.trans (List.take_prefix _ _)
  | c :: r, b, f, 0, _, _, _, hl => by simp at hl
  | c :: r, b, f, limit + 1, hb, h, hn, hl => by
    obtain ⟨h2, h3, h4, h5⟩ := h
    rw [T_length] at h2 h4
    have hp := (subAt_T l p c (by omega)).mp h3
    obtain ⟨ps, e1, e2⟩ := parts_RS l p h1 r c f limit (by omega) h5 (fun q => hn (by simpa using q)) (by simpa using hl)
    have e : l.take b = l.take c ++ (l.take b).drop c := by
      conv => lhs; rw [← List.take_append_drop c (l.take b)]
      rw [List.take_take, Nat.min_eq_left (by omega)]
    have ep : (l.take b).drop c = p ++ (l.take b).drop (c + p.length) := by
      obtain ⟨z, hz⟩ := hp
      have q1 : (l.take b).drop c = (p ++ z).take (b - c) := by rw [List.drop_take, ← hz]
      have q2 : (p ++ z).take (b - c) = p ++ z.take (b - c - p.length) := by rw [List.take_append, List.take_of_length_le (by omega)]
      rw [← List.drop_drop, q1, q2, List.drop_left]
    refine ⟨ps ++ [(l.take b).drop (c + p.length)], ?_, ?_⟩
    · show partsTo (T l) (T p).length c r ++ [strSub (T l) (c + (T p).length) b] = _
      rw [e1, sub_list, T_length, List.map_append, List.drop_take]; rfl
    · have := RS.hit (p := p) limit (l.take c) ((l.take b).drop (c + p.length)) ps (fun j hj hq => ?_) e2
      · rw [← ep, ← e] at this; exact this
      · rw [← ep, List.drop_drop] at hq
        have hl2 := pre_len h1 hq
        rw [List.length_take] at hl2
        refine h4 (c + j) (by omega) (by omega) ((subAt_T l p _ (by omega)).mpr ?_)
        rw [List.drop_take] at hq
        exact hq.trans (List.take_prefix _ _)
theorem rsplit_T (l p : List Nat) (k : Int) (hk : 0 ≤ k) (h1 : p ≠ []) : ∃ ps, RS p k.toNat l ps ∧ Txt.rsplitMax (T l) (T p) k = ps.map T := by
  have hw : 1 ≤ (T p).length := by rw [T_length]; exact List.length_pos_iff.mpr h1
  have hlim : limitOf (T l) k = k.toNat := by unfold limitOf; rw [if_neg (by omega)]
  unfold Txt.rsplitMax
  split
  · rename_i hx
    refine ⟨[l], .none _ _ fun j hj => ?_, rfl⟩
    rw [Bool.or_eq_true, decide_eq_true_eq, decide_eq_true_eq] at hx
    rcases hx with hx | hx
    · rw [T_length, T_length] at hx
      have := pre_len h1 hj
      omega
    · have : Str.strKind (T p) ≤ Str.strKind (T l) := kind_le l p fun c' hc' => List.mem_of_mem_drop (hj.subset hc')
      omega
  · obtain ⟨D, f, e, hc, hn, hl⟩ := occR_tight (T l) (T p) k.toNat hw
    rw [hlim, e]
    rw [T_length] at hn
    have hc' : ChainR (T l) (T p) l.length D f := by rw [T_length] at hc; exact hc
    obtain ⟨ps, e1, e2⟩ := parts_RS l p h1 D l.length f k.toNat (Nat.le_refl _) hc' hn hl
    rw [List.take_length] at e2
    refine ⟨ps, e2, ?_⟩
    have e3 : partsBetween (T l) D.reverse (T p).length = ps.map T := by rw [partsBetween_eq, partsFrom_FT, partsFT_rev, T_length (l := l), e1]
    split
    · rename_i he
      rw [← e3, List.isEmpty_iff.mp he, partsBetween_eq]
      show _ = [strSub (T l) 0 (T l).length]
      rw [sub_whole]
    · exact e3
end Mine
end
section
open PySem PySem.W PyProof.Rows
set_option linter.unusedVariables false
set_option maxRecDepth 100000
namespace Mine
section
variable {G : Gnd} {env : Env} {Z Z' H : Zf} {ρ ρ' : Loc} {s s' : Shared} {A : Around} {E : Value → Shared → Prop} {n : Nat} {pos apos : Pos}
abbrev Gnd.at (G : Gnd) (b : Nat) : Gnd := { G with t0 := b }
theorem St.at {b : Nat} (S : St G env Z H ρ s) (hb : b < s.toks) (hv : ∀ x d v, ρ.lookup x = some (.val d) → Rep G Z v d → Rep (G.at b) Z v d) (ho : ∀ x ds, ρ.lookup x ≠ some (.own ds)) : St (G.at b) env Z H ρ s :=
  ⟨S.fk, S.gl, S.bl, S.gens, S.os, hb, S.zin, S.hin, S.dj, S.bas, S.ns, S.lz, S.lh, S.cells, S.inj, fun x d e => let ⟨v, h, r⟩ := S.vars x d e; ⟨v, h, hv x d v e r⟩, ⟨fun _ => 0, fun x y ds es e => absurd e (ho x ds), fun x ds e => absurd e (ho x ds)⟩⟩
theorem St.off {b : Nat} (S : St (G.at b) env Z H ρ s) (hb : G.t0 < s.toks) : St G env Z H [] s :=
  ⟨S.fk, S.gl, S.bl, S.gens, S.os, hb, S.zin, S.hin, S.dj, S.bas, S.ns, S.lz, S.lh, S.cells, S.inj, (fun x d e => by cases e), ⟨fun _ => 0, (fun x y ds es e => by cases e), (fun x ds e => by cases e)⟩⟩
theorem Bs.at {b : Nat} (B : Bs G Z s) (hb : b < s.toks) : Bs (G.at b) Z s := ⟨B.gens, B.os, hb, B.zin, B.bas⟩
/-- texts whose tokens lie in between -/
inductive StrsIn (lo hi : Nat) : List Value → List Str → Prop
  | nil : StrsIn lo hi [] []
  | cons {x : Str} {t : Nat} {vs : List Value} {xs : List Str} : lo ≤ t → t < hi → StrsIn lo hi vs xs → StrsIn lo hi (.str x t :: vs) (x :: xs)
theorem StrsIn.more {lo hi lo' hi' : Nat} (h1 : lo' ≤ lo) (h2 : hi ≤ hi') : ∀ {vs : List Value} {xs : List Str}, StrsIn lo hi vs xs → StrsIn lo' hi' vs xs
  | _, _, .nil => .nil
  | _, _, .cons a b r => .cons (by omega) (by omega) (r.more h1 h2)
theorem StrsIn.old {lo hi b : Nat} (h0 : 0 < lo) (hb : hi ≤ b + 1) : ∀ {vs : List Value} {xs : List Str}, StrsIn lo hi vs xs → RepAll (G.at b) Z vs (xs.map .ostr)
  | _, _, .nil => .nil
  | _, _, .cons a c r => .cons (.ostr _ _ (Nat.lt_of_lt_of_le h0 a) (Nat.le_of_lt_succ (Nat.lt_of_lt_of_le c hb))) (r.old h0 hb)
theorem StrsIn.fresh {lo hi : Nat} (h0 : G.t0 < lo) : ∀ {vs : List Value} {xs : List Str}, StrsIn lo hi vs xs → RepAll G Z vs (xs.map .fstr)
  | _, _, .nil => .nil
  | _, _, .cons a c r => .cons (.fstr _ _ (Nat.lt_of_lt_of_le h0 a)) (r.fresh h0)
theorem StrsIn.length {lo hi : Nat} : ∀ {vs : List Value} {xs : List Str}, StrsIn lo hi vs xs → vs.length = xs.length
  | _, _, .nil => rfl
  | _, _, .cons _ _ r => by simp [r.length]
inductive ConstList : List PySem.Expr → List Str → Prop
  | nil : ConstList [] []
  | cons {x : Str} {c : Nat} {p : Pos} {es : List PySem.Expr} {xs : List Str} : ConstList es xs → ConstList (.Constant (.str x) c p :: es) (x :: xs)
theorem consts_run {es : List PySem.Expr} {xs : List Str} (h : ConstList es xs) : ∀ (M : Model) (s : Shared) (Q : List Value → Shared → Prop), (∀ vs k, s.toks ≤ k → StrsIn s.toks k vs xs → Q vs { s with toks := k }) → wpAny M A (spliced (backTo pos (starEach es env))) Q E s := by
  induction h with
  | nil => intro M s Q h; exact spliced_none (h [] s.toks (Nat.le_refl _) .nil)
  | cons _ ih =>
    intro M s Q h
    refine spliced_more (Calls.Constant_str (ih M _ _ fun vs k hk hs => ?_)) rfl
    exact h _ k (Nat.le_trans (Nat.le_succ _) hk) (.cons (Nat.le_refl _) (Nat.lt_of_lt_of_le (Nat.lt_succ_self _) hk) (hs.more (Nat.le_succ _) (Nat.le_refl _)))
/-- x = [..]: from now on these texts are old -/
theorem exs_mark_list {x : Str} {p lpos : Pos} {es : List PySem.Expr} {xs : List Str} {rest : List Stmt} {d : D} (h : ConstList es xs) (hsz : xs.length ≤ sizeLine) (hc : Can env x) (hs : swapsWith (.List es lpos) (some (.Name x p)) pos.line env = pure false)
    (hv : ∀ b Z x d v, ρ.lookup x = some (.val d) → Rep G Z v d → Rep (G.at b) Z v d) (ho : ∀ x ds, ρ.lookup x ≠ some (.own ds)) (hd : ∀ b Z v, Rep (G.at b) Z v d → Rep G Z v d)
    (k : ∀ b, Exs (G.at b) env n (upd ρ x (.val (.list (xs.map .ostr)))) rest (RetPost d)) : Exs G env n ρ (.Assign [.Name x p] (.List es lpos) pos :: rest) (RetPost d) := by
  constructor
  intro A Z H s R S
  have tk := S.tk
  refine wpAny_execs_cons (wpAny_Assign_Name (List_ (consts_run h _ s _ fun vs t ht hvs => ?_)) hs)
  refine wpAny_newObj_type ?_ (by show vs.toArray.size ≤ sizeLine; rw [List.size_toArray, hvs.length]; exact hsz)
  have x₁ : Ext Z s (Zadd Z s.heap.objs.size (listOf vs.toArray 0)) { s with heap := s.heap.push (listOf vs.toArray 0), toks := t } := Ext.alloc S.zin rfl ht
  have S₁ := (S.ext x₁).at (b := t - 1) (by show t - 1 < t; omega) (hv _ _) ho
  have r : Rep (G.at (t - 1)) (Zadd Z s.heap.objs.size (listOf vs.toArray 0)) (.ref s.heap.objs.size) (.list (xs.map .ostr)) := .list Zadd.self (hvs.old (by omega) (by omega))
  refine wp_seq (st_store (G := G.at (t - 1)) S₁ r hc) fun _ s₂ S₂ => ?_
  refine wp_seq ((k (t - 1)).run A _ H s₂ R S₂) fun f s₃ ⟨Z₃, ρ₃, fl, le₃, S₃, hf, hΦ⟩ => ?_
  have tk₃ : t - 1 < s₃.toks := S₃.tk
  have S₄ := S₃.off (G := G) (by omega)
  cases hf with
  | next => exact ⟨Z₃, [], .next, x₁.le.trans le₃, S₄, .next, hΦ⟩
  | brk => exact hΦ.elim
  | cont => exact hΦ.elim
  | ret r' => cases hΦ; exact ⟨Z₃, [], .ret d, x₁.le.trans le₃, S₄, .ret (hd _ _ _ r'), rfl⟩
theorem ev_strF {x : Str} {k : Nat} : Ev G env n ρ (.Constant (.str x) k pos) (.fstr x) := Ev.mk fun _ Z _ _ _ S => Calls.Constant_str ⟨Z, Ext.tok S.zin (Nat.le_succ _), .fstr _ _ S.tk⟩
theorem rep_ofO {v : Value} {x : Str} (r : Rep G Z v (.ostr x)) : Rep G Z v (.str x) := by cases r; exact .str _ _
theorem rep_ofF {v : Value} {x : Str} (r : Rep G Z v (.fstr x)) : Rep G Z v (.str x) := by cases r; exact .str _ _
theorem ev_ofO {e : PySem.Expr} {x : Str} (h : Ev G env n ρ e (.ostr x)) : Ev G env n ρ e (.str x) := Ev.mk fun A Z H s R S => wp_seq (h.run A Z H s R S) fun v s' ⟨Z', x', r⟩ => ⟨Z', x', rep_ofO r⟩
theorem ev_ofF {e : PySem.Expr} {x : Str} (h : Ev G env n ρ e (.fstr x)) : Ev G env n ρ e (.str x) := Ev.mk fun A Z H s R S => wp_seq (h.run A Z H s R S) fun v s' ⟨Z', x', r⟩ => ⟨Z', x', rep_ofF r⟩
theorem fn_ofF' {f : Addr} {ds : List D} {x : Str} (h : Fn G n f ds (.fstr x)) : Fn G n f ds (.str x) := Fn.mk fun A Z s vs R b r => wp_seq (h.run A Z s vs R b r) fun v s' ⟨Z', x', r⟩ => ⟨Z', x', rep_ofF r⟩

-- replace with a count
open Builtin Builtin.Str in
theorem gives_replN (x y z : Str) (k : Int) (t u v w : Tok) (hk0 : 0 ≤ k) (hk : k < 2 ^ 63) (hy : (y.length == 0) = false)
    (h0 : (u == 0 || v == 0) = false) (huv : (u == v) = false) (hl : tooLong (x.length + (occurrences x y 0 x.length k.toNat).length * z.length) = false) :
    GivesAt (fun s => NoneBooked s.heap) («str.replace» ⟨[.str x t, .str y u, .str z v, .int k w], []⟩)
      (if (occurrences x y 0 x.length k.toNat).isEmpty = true then .val (.str x t)
       else if (y == z) = true then .either (.val (.str x t)) (.str (glued z (partsBetween x (occurrences x y 0 x.length k.toNat) y.length)))
       else .str (glued z (partsBetween x (occurrences x y 0 x.length k.toNat) y.length))) := by
  have tree : «str.replace» ⟨[.str x t, .str y u, .str z v, .int k w], []⟩ = (do
      let limit ← countLimit "str.replace" (some (.int k w)) (x.length + 1)
      if ((occurrences x y 0 x.length limit).isEmpty || (y.length == 0 && z.length == 0)) = true then (do rule "str.replace.nothing"; ret (.str x t)) else
          (do let same ← isSame (.str y u) (.str z v)
              if same = true then (do rule "str.replace.old-is-new"; ret (.str x t)) else
              if tooLong (x.length + (occurrences x y 0 x.length limit).length * z.length) = true then unsupported "str.replace:memory" else
              retStr (glued z (partsBetween x (occurrences x y 0 x.length limit) y.length)))) := rfl
  rw [tree, countLimit_int "str.replace" k w (x.length + 1) (by simp; omega), if_neg (by omega)]
  rw [pure_bind, hy]
  simp only [Bool.false_and, Bool.or_false]
  cases hc : (occurrences x y 0 x.length k.toNat).isEmpty
  · simp only [Bool.false_eq_true, if_false]
    cases hyz : (y == z)
    · rw [isSame_str_other y z u v h0 huv hyz, hl]
      exact Gives.at (.of_eq rfl)
    · intro prog w A R s hb hq
      refine wpAny_bind (wpAny_isSame_str h0 hb fun b => ?_)
      cases b
      · simp only [Bool.false_eq_true, if_false]
        rw [hl]
        simp only [Bool.false_eq_true, if_false]
        exact wpAny_bind (wpAny_mkStr (wpAny_pure hq.2.2) hq.2.1)
      · exact wpAny_bind (wpAny_rule (wpAny_pure hq.1))
  · simp only [if_true]
    exact Gives.at (.rule (.of_eq rfl))
end
end Mine
end
section
open PySem PySem.W PyProof.Rows
set_option linter.unusedVariables false
set_option maxRecDepth 100000
namespace Mine
section
variable {G : Gnd} {env : Env} {Z Z' H : Zf} {ρ ρ' : Loc} {s s' : Shared} {A : Around} {E : Value → Shared → Prop} {n : Nat} {pos apos : Pos}
theorem LS.len {p q : List Nat} {k : Nat} {l : List Nat} {ps : List (List Nat)} (H : LS p k l ps) : ((ps.intersperse q).flatten).length ≤ l.length + k * q.length ∧ ps ≠ [] := by
  induction H with
  | zero u => simp
  | none k u hn => simp
  | hit k w v ps hn _ ih =>
    obtain ⟨i1, i2⟩ := ih
    refine ⟨?_, by simp⟩
    cases ps with
    | nil => exact absurd rfl i2
    | cons a r =>
      rw [List.intersperse_cons₂, List.flatten_cons, List.flatten_cons, List.length_append, List.length_append, List.length_append, List.length_append, Nat.succ_mul]
      omega
theorem replN_len {x y z : Str} {k : Nat} (hy : (y.length == 0) = false) : (replN x y z k).length ≤ x.length + k * z.length := by
  have hne : y.cps.toList ≠ [] := fun e => by
    have : y.length = 0 := by show y.cps.size = 0; rw [← Array.length_toList, e]; rfl
    rw [this] at hy; cases hy
  obtain ⟨ps, h1, e⟩ := replN_T x.cps.toList y.cps.toList z.cps.toList k hne
  rw [T_of, T_of, T_of] at e
  rw [e, T_length]
  have := (h1.len (q := z.cps.toList)).1
  rwa [Array.length_toList, Array.length_toList] at this
open Builtin Builtin.Str in
theorem call_replN {prog : Program} {w : World} {x y z : Str} {k : Int} {t u v c : Tok} {Q : Value → Shared → Prop} (hk0 : 0 ≤ k) (hk : k ≤ 100) (hy : (y.length == 0) = false) (hu : u ≠ 0) (hv : v ≠ 0) (huv : u ≠ v)
    (hb : x.length + 100 * z.length ≤ 1000000) (hnb : NoneBooked s.heap) (hq : ∀ t' j, Q (.str (replN x y z k.toNat) t') { s with toks := j }) :
    wpAny (model prog w) A (call (.builtin "str.replace") [.str x t, .str y u, .str z v, .int k c]) Q E s := by
  have big := big_line
  have h1 := StrLaws.occ_length_le x y 0 x.length k.toNat
  have hlen : (occurrences x y 0 x.length k.toNat).length * z.length ≤ 100 * z.length := Nat.mul_le_mul_right _ (by omega)
  have hl : tooLong (x.length + (occurrences x y 0 x.length k.toNat).length * z.length) = false := by
    unfold tooLong sizeLine
    exact decide_eq_false (by omega)
  refine call_givesAt F.slot_str_replace (typeIs_str _ _ _) F.entry_str_replace (F.args_str_replace_4 _ _ _ _)
    (gives_replN x y z k t u v c hk0 (by omega) hy (by simp [hu, hv]) (by simp [huv]) hl) hnb ?_
  have hlen := replN_len (x := x) (z := z) (k := k.toNat) hy
  have hlen2 : k.toNat * z.length ≤ 100 * z.length := Nat.mul_le_mul_right _ (by omega)
  have hfit : (replN x y z k.toNat).length ≤ sizeLine := by rw [sizeLine_eq]; omega
  unfold replN at hq hfit
  cases hc : (occurrences x y 0 x.length k.toNat).isEmpty
  · rw [hc] at hq hfit
    simp only [Bool.false_eq_true, if_false] at hq hfit ⊢
    cases hyz : (y == z)
    · simp only [Bool.false_eq_true, if_false]
      exact ⟨hfit, hq _ _⟩
    · simp only [if_true]
      have e : y = z := eq_of_beq hyz
      subst e
      rw [StrLaws.glued_between_self] at hq hfit ⊢
      dsimp only [Made.post]
      exact ⟨hq t s.toks, hfit, hq _ _⟩
  · rw [hc] at hq
    simp only [if_true] at hq ⊢
    exact hq t s.toks
theorem bf_replOF {x y z : Str} {k : Int} (hk0 : 0 ≤ k) (hk : k ≤ 100) (hy : (y.length == 0) = false) (hb : x.length + 100 * z.length ≤ 1000000) : BF G "str.replace" [.str x, .ostr y, .fstr z, .int k] (.str (replN x y z k.toNat)) := BF.mk fun A Z s vs R b r => by
  cases r with
  | cons r rs =>
    cases rs with
    | cons r₂ rs =>
      cases rs with
      | cons r₃ rs =>
        cases rs with
        | cons r₄ rs =>
          cases rs
          cases r with
          | str _ t =>
            cases r₂ with
            | ostr _ u h1 h2 =>
              cases r₃ with
              | fstr _ v h3 =>
                cases r₄
                exact wp_tok (call_replN hk0 hk hy (Nat.pos_iff_ne_zero.mp h1) (Nat.pos_iff_ne_zero.mp (Nat.lt_of_le_of_lt (Nat.zero_le _) h3)) (Nat.ne_of_lt (Nat.lt_of_le_of_lt h2 h3)) hb (by
                  obtain ⟨mc, hm, e⟩ := G.nb
                  exact ⟨mc, hm.keeps b.bas, e⟩) fun t' j tok => b.y tok (.str _ _))
open Builtin Builtin.Str in
theorem bf_rsplit {x y : Str} {k : Int} (hk0 : 0 ≤ k) (hk : k ≤ 100) (hy : (y.length == 0) = false) (hsz : x.length + 2 ≤ 100000) : BF G "str.rsplit" [.str x, .str y, .int k] (.list (txs (Txt.rsplitMax x y k))) := BF.mk fun A Z s vs R b r => by
  have big := big_line
  cases r with
  | cons r rs =>
    cases rs with
    | cons r₂ rs =>
      cases rs with
      | cons r₃ rs =>
        cases rs
        cases r with
        | str _ t =>
          cases r₂ with
          | str _ u =>
            cases r₃ with
            | int _ c =>
              have hkk : (decide (k < -(2 ^ 63 : Int)) || decide (k ≥ 2 ^ 63)) = false := by simp; omega
              have hlim : limitOf x k ≤ 100 := by unfold limitOf; rw [if_neg (by omega)]; omega
              have hsz2 : (partsBetween x (occurrencesFromRight x y (limitOf x k)) y.length).length ≤ sizeLine := by
                rw [length_partsBetween]
                have e := StrLaws.occR_length_le x y (limitOf x k)
                omega
              refine wp_tok ?_
              cases h1 : (decide (x.length < y.length) || decide (strKind x < strKind y))
              · cases hf : (occurrencesFromRight x y (limitOf x k)).isEmpty
                · refine call_meets F.slot_str_rsplit (typeIs_str _ _ _) F.entry_str_rsplit (F.args_str_rsplit_3 _ _ _) (meets_str_rsplit_sep_max x y k t u c hkk h1 hy hf (by omega) hsz2) ?_
                  show wants _ _ _ { s with toks := _, heap := s.heap.push { cls := .type "list", data := .seq (strsFrom s.toks (partsBetween x (occurrencesFromRight x y (limitOf x k)) y.length)).toArray } }
                  rw [strsFrom_eq]
                  exact fun tok => strs_made b ((numbered_texts _ _).trans ((if_neg (ne_true_of_eq_false h1)).trans (if_neg (ne_true_of_eq_false hf))).symm) tok
                · exact call_meets F.slot_str_rsplit (typeIs_str _ _ _) F.entry_str_rsplit (F.args_str_rsplit_3 _ _ _) (meets_str_rsplit_max_not_found x y k t u c hkk h1 hy hf)
                    (fun tok => strs_made (l := [(x, t)]) b ((if_neg (ne_true_of_eq_false h1)).trans (if_pos hf)).symm tok)
              · exact call_meets F.slot_str_rsplit (typeIs_str _ _ _) F.entry_str_rsplit (F.args_str_rsplit_3 _ _ _) (meets_str_rsplit_max_cannot_occur x y k t u c hkk h1)
                  (fun tok => strs_made (l := [(x, t)]) b (if_pos h1).symm tok)
theorem seq_of_fresh : ∀ {vs : List Value} {xs : List Str}, RepAll G Z vs (xs.map .fstr) → ∃ l : List (Str × Tok), strValues l = vs ∧ l.map (·.1) = xs ∧ ∀ p ∈ l, G.t0 < p.2
  | [], [], _ => ⟨[], rfl, rfl, fun _ h => by cases h⟩
  | v :: vs, x :: xs, .cons r rs => by
    obtain ⟨l, e1, e2, e3⟩ := seq_of_fresh rs
    cases r with
    | fstr _ t h => exact ⟨(x, t) :: l, by rw [← e1]; rfl, by rw [← e2]; rfl, fun p hp => by
        rcases List.mem_cons.mp hp with rfl | q
        · exact h
        · exact e3 p q⟩
theorem bf_joinF {x : Str} {xs : List Str} (hok : JoinOk x xs = true) : BF G "str.join" [.str x, .list (xs.map .fstr)] (.fstr (Txt.join x xs)) := BF.mk fun A Z s vs R b r => by
  cases r with
  | cons r rs =>
    cases rs with
    | cons r₂ rs =>
      cases rs; cases r
      cases r₂ with
      | list hz ra =>
        obtain ⟨l, e1, e2, e3⟩ := seq_of_fresh ra
        subst e1 e2
        unfold JoinOk at hok
        rw [Bool.not_eq_true'] at hok
        refine wp_tok (call_meets F.slot_str_join (typeIs_str _ _ _) F.entry_str_join (F.args_str_join_2 _ _) (meets_str_join_list x _ _ l hok) ⟨isList_of (b.zin _ _ hz), ?_⟩)
        have hfit := joinFit_length hok
        match l, e3, hfit with
        | [], _, hfit => exact ⟨hfit, fun tok => b.y tok (.fstr _ _ b.tk)⟩
        | [p], e3, _ => exact fun tok => b.y tok (.fstr _ _ (e3 p (List.mem_singleton.mpr rfl)))
        | _ :: _ :: _, _, hfit => exact ⟨hfit, fun tok => b.y tok (.fstr _ _ b.tk)⟩
theorem bf_joinO {x y : Str} (hok : JoinOk x [y] = true) : BF G "str.join" [.str x, .list [.ostr y]] (.ostr y) := BF.mk fun A Z s vs R b r => by
  cases r with
  | cons r rs =>
    cases rs with
    | cons r₂ rs =>
      cases rs; cases r
      cases r₂ with
      | list hz ra =>
        cases ra with
        | cons r rs =>
          cases rs
          cases r with
          | ostr _ t h1 h2 =>
            unfold JoinOk at hok
            rw [Bool.not_eq_true'] at hok
            refine wp_tok (call_meets F.slot_str_join (typeIs_str _ _ _) F.entry_str_join (F.args_str_join_2 _ _) (meets_str_join_list x _ _ [(y, t)] hok) ⟨isList_of (b.zin _ _ hz), ?_⟩)
            exact fun tok => b.y tok (.ostr _ _ h1 h2)
end
end Mine
end
section
open PySem PySem.W PyProof.Rows
set_option linter.unusedVariables false
set_option maxRecDepth 100000
namespace Mine
section
variable {G : Gnd} {env : Env} {Z Z' H : Zf} {ρ ρ' : Loc} {s s' : Shared} {A : Around} {E : Value → Shared → Prop} {n : Nat} {pos apos : Pos}
def charsF (x : Str) : List D := x.cps.toList.map fun c => .fstr ⟨#[c]⟩
/-- a text's signs are new texts -/
theorem itr_strF {x : Str} : Itr G (.str x) (charsF x) := Itr.mk fun A Z s v R b r => by
  cases r with
  | str x t =>
    have hlen : (charsF x).length = x.cps.size := by simp [charsF]
    let P : Nat → Value → Prop := fun i v => ∃ c u, x.cps[i]? = some c ∧ v = .str ⟨#[c]⟩ u ∧ G.t0 < u
    have hP : ∀ i v, P i v → ∃ d, (charsF x)[i]? = some d ∧ Rep G Z v d := by
      rintro i v ⟨c, u, hc, rfl, hu⟩
      exact ⟨.fstr ⟨#[c]⟩, by simp [charsF, hc], .fstr _ _ hu⟩
    cases ha : x.cps.all (· < 128)
    · refine wpAny_pyIter_wide ha ⟨s.heap.objs.size, [s.heap.objs.size], P, fun i h => h.IsStrIter s.heap.objs.size "str_iterator" x t i, rfl, Ext.push (t := s.toks) b.zin (Nat.le_refl _), get?_size_none _, fun A' hA => ?_, fun c hc => .inl (by simpa using hc), ⟨_, Heap.get?_push_size _ rfl, rfl, rfl⟩, ?_, hP⟩
      · rw [hlen]
        have W := Walks.strWide (prog := G.prog) (w := G.w) hA s.heap.objs.size x t
        refine ⟨W.sub, W.frame, fun i s Q E hi ht st h => ?_, W.done, W.self⟩
        exact wpAny_pyNext_wide_item st (c := x.cps[i]) (by simp [hi]) fun h' hit hs => h _ h' _ ⟨_, _, by simp [hi], rfl, ht⟩ hit fun b o hb e => hs.extBut b o (by simpa using hb) e
      · rintro i h ⟨o, ho, hc, _⟩; exact ⟨o, _, ho, hc, by decide⟩
    · refine wpAny_pyIter_ascii ha ⟨s.heap.objs.size, [s.heap.objs.size], P, fun i h => h.IsStrIter s.heap.objs.size "str_ascii_iterator" x t i, rfl, Ext.push (t := s.toks) b.zin (Nat.le_refl _), get?_size_none _, fun A' hA => ?_, fun c hc => .inl (by simpa using hc), ⟨_, Heap.get?_push_size _ rfl, rfl, rfl⟩, ?_, hP⟩
      · rw [hlen]
        have W := Walks.strAscii (prog := G.prog) (w := G.w) hA s.heap.objs.size x t
        refine ⟨W.sub, W.frame, fun i s Q E hi ht st h => ?_, W.done, W.self⟩
        exact wpAny_pyNext_ascii_item st (c := x.cps[i]) (by simp [hi]) fun h' hit hs => h _ h' _ ⟨_, _, by simp [hi], rfl, ht⟩ hit fun b o hb e => hs.extBut b o (by simpa using hb) e
      · rintro i h ⟨o, ho, hc, _⟩; exact ⟨o, _, ho, hc, by decide⟩
theorem const_shapeT {ks : List (Option PySem.Expr)} {vs : List PySem.Expr} {r : List (Str × Str)} (h : ConstPairs ks vs r) : ∃ pairs : List (Sem Value × Sem Value), pairs.length = r.length ∧ (pairs = [] → r = []) ∧
    (evalEachOpt ks env).zip ((evalEach vs env).map fun v => do let x ← v; standAt pos; pure x) = pairs.map (fun p => (some p.1, p.2)) ∧
    ∀ (M : Model) (prog : Program) (w : World) (A : Around) (E : Value → Shared → Prop) (s : Shared) (Q : List (Value × Value) → Shared → Prop),
      (∀ (us : List (Value × Value)) (kvs : List (Str × Value)) (t : Nat), s.toks ≤ t → Carries (strKind prog w) us kvs → kvs.map (·.1) = r.map (·.1) → StrsIn s.toks t (kvs.map (·.2)) (r.map (·.2)) → us.length = r.length → Q us { s with toks := t }) →
      wpAny (model prog w) A (evalPairs pairs) Q E s := by
  induction h with
  | nil => exact ⟨[], rfl, fun _ => rfl, rfl, fun M prog w A E s Q h => evalPairs_nil (h [] [] s.toks (Nat.le_refl _) trivial rfl .nil rfl)⟩
  | @cons k v c c' p p' ks vs r _ ih =>
    obtain ⟨pairs, hl, _, he, hw⟩ := ih
    refine ⟨(eval (.Constant (.str k) c p) env, (do let x ← eval (.Constant (.str v) c' p') env; standAt pos; pure x)) :: pairs, by simp [hl], fun h => (by cases h), ?_, fun M prog w A E s Q h => ?_⟩
    · show ((some (eval (.Constant (.str k) c p) env), _) :: _) = _
      rw [List.map_cons, ← he]
      rfl
    · refine evalPairs_cons (Calls.Constant_str (wpAny_bind (Calls.Constant_str (wpAny_bind (wpAny_standAt (wpAny_pure ?_))))))
      refine hw M prog w A E _ _ fun us kvs t ht hc hk hr hus => ?_
      have ht' : s.toks + 1 + 1 ≤ t := ht
      refine h _ ((k, .str v (s.toks + 1)) :: kvs) t (by omega) ⟨strKind_is _ _ _ _, rfl, hc⟩ (by simp [hk]) (.cons (Nat.le_succ _) (Nat.lt_of_lt_of_le (Nat.lt_succ_self _) ht') (hr.more (by show s.toks ≤ s.toks + 1 + 1; omega) (Nat.le_refl _))) (by simp [hus])
/-- a written table of texts: its values' tokens are new -/
theorem run_dictT {ks : List (Option PySem.Expr)} {vs : List PySem.Expr} {r : List (Str × Str)} (h : ConstPairs ks vs r) (h0 : r ≠ []) (hl : r.length ≤ 15) (hn : (r.map (·.1)).Nodup) (S : St G env Z H ρ s) :
    wpAny (model G.prog G.w) A (eval (.Dict ks vs pos) env) (fun v s' => ∃ a o kvs, v = .ref a ∧ (a == sysModules) = false ∧ o.IsDictOf (strKind G.prog G.w) kvs ∧ kvs.map (·.1) = r.map (·.1) ∧ StrsIn s.toks s'.toks (kvs.map (·.2)) (r.map (·.2)) ∧ Z a = none ∧ Ext Z s (Zadd Z a o) s') (fun _ _ => False) s := by
  obtain ⟨pairs, hp, hp0, he, hw⟩ := const_shapeT (env := env) (pos := pos) h
  refine wp_tok (wpAny_Dict_pairs (knd := strKind G.prog G.w) he (fun q => h0 (hp0 q)) (by omega) (hw ⟨denote table, G.prog, G.w⟩ G.prog G.w A _ _ _ fun us kvs t ht hc hk hr hus => ⟨kvs, hc, ?_, fun h' hd hs tok => ?_⟩))
  · exact Heap.dictOf_iff.mpr ⟨_, Heap.get?_push_size _ rfl, #[], 0, ⟨rfl, rfl, rfl⟩, rfl, fun e he => by simp at he, .nil, List.nodup_nil⟩
  · have hm : merged [] kvs = kvs := by rw [merged_new kvs [] (by simpa [hk] using hn)]; rfl
    rw [hm] at hd
    obtain ⟨o, ho, hod⟩ := Heap.dictOf_iff.mp hd
    have hlow : (s.heap.objs.size == sysModules) = false := by
      have := modules_low S.bs.nolimit
      rw [beq_eq_false_iff_ne]; exact Nat.ne_of_gt this
    have hZn : Z s.heap.objs.size = none := by
      cases q : Z s.heap.objs.size with
      | none => rfl
      | some ob => have := S.zin _ _ q; rw [get?_size_none] at this; cases this
    have le := Zadd.le (o := o) hZn
    have keep : ∀ b ob, s.heap.get? b = some ob → h'.get? b = some ob := fun b ob e => hs.extBut b ob (Nat.ne_of_lt (Heap.lt_size e)) (Heap.get?_push_of_some _ e)
    refine ⟨s.heap.objs.size, o, kvs, rfl, hlow, hod, hk, hr.more (Nat.le_refl _) ?_, hZn, ⟨le, keep, fun b ob e => ?_, fun b ob e => ?_, rfl, rfl, tok⟩⟩
    · exact Nat.le_add_right _ _
    · by_cases q : b = s.heap.objs.size
      · subst q; rw [Zadd.self] at e; cases e; exact ho
      · rw [show Zadd Z s.heap.objs.size o b = Z b from if_neg q] at e; exact keep _ _ (S.zin _ _ e)
    · by_cases q : b = s.heap.objs.size
      · subst q; exact .inr (get?_size_none _)
      · rw [show Zadd Z s.heap.objs.size o b = Z b from if_neg q] at e; exact .inl e
end
end Mine
end
section
open PySem PySem.W PyProof.Rows
set_option linter.unusedVariables false
set_option maxRecDepth 100000
namespace Mine
section
variable {G : Gnd} {env : Env} {Z Z' H : Zf} {ρ ρ' : Loc} {s s' : Shared} {A : Around} {E : Value → Shared → Prop} {n : Nat} {pos apos : Pos}
theorem ev_dictF {ks : List (Option PySem.Expr)} {vs : List PySem.Expr} {r : List (Str × Str)} (h : ConstPairs ks vs r) (h0 : r ≠ []) (hl : r.length ≤ 15) (hn : (r.map (·.1)).Nodup) : Ev G env n ρ (.Dict ks vs pos) (.dict (r.map (·.1)) (r.map fun p => .fstr p.2)) :=
  Ev.mk fun A Z H s R S => wp_seq (run_dictT h h0 hl hn S) fun v s' ⟨a, o, kvs, e, hlow, hod, hk, hs, hz, x⟩ => by
    subst e
    refine ⟨_, x, ?_⟩
    rw [← hk, show (r.map fun p => D.fstr p.2) = (r.map (·.2)).map .fstr by rw [List.map_map]; rfl]
    exact .dict Zadd.self hlow hod (hs.fresh S.tk)
/-- a call whose text's token is below the counter -/
structure FnU (G : Gnd) (n : Nat) (f : Addr) (ds : List D) (y : Str) : Prop where
  run : ∀ A Z s vs, Room n A → Bs G Z s → RepAll G Z vs ds → wpAny (model G.prog G.w) A (call (.ref f) vs) (fun v s' => ∃ Z' t, Ext Z s Z' s' ∧ v = .str y t ∧ 0 < t ∧ t < s'.toks) (fun _ _ => False) s
structure EvU (G : Gnd) (env : Env) (n : Nat) (ρ : Loc) (e : PySem.Expr) (y : Str) : Prop where
  run : ∀ A Z H s, Room n A → St G env Z H ρ s → wpAny (model G.prog G.w) A (eval e env) (fun v s' => ∃ Z' t, Ext Z s Z' s' ∧ v = .str y t ∧ 0 < t ∧ t < s'.toks) (fun _ _ => False) s
/-- an expression whose text's token is new -/
structure EvL (G : Gnd) (env : Env) (n : Nat) (ρ : Loc) (e : PySem.Expr) (y : Str) : Prop where
  run : ∀ A Z H s, Room n A → St G env Z H ρ s → wpAny (model G.prog G.w) A (eval e env) (fun v s' => ∃ Z' t, Ext Z s Z' s' ∧ v = .str y t ∧ s.toks ≤ t) (fun _ _ => False) s
structure ExsU (G : Gnd) (env : Env) (n : Nat) (ρ : Loc) (sts : List Stmt) (y : Str) : Prop where
  run : ∀ A Z H s, Room n A → St G env Z H ρ s → wpAny (model G.prog G.w) A (execs sts env) (fun f s' => ∃ Z' ρ' t, Zle Z Z' ∧ St G env Z' H ρ' s' ∧ f = .ret (.str y t) ∧ 0 < t ∧ t < s'.toks) (fun _ _ => False) s
theorem exsU_cons {st : Stmt} {rest : List Stmt} {y : Str} (h : Ex G env n ρ st (Then (fun _ _ => False) fun ρ' => ExsU G env n ρ' rest y)) : ExsU G env n ρ (st :: rest) y := by
  constructor
  intro A Z H s R S
  refine wpAny_execs_cons (wp_seq (h.run A Z H s R S) fun f s' ⟨Z', ρ', fl, le, S', hf, hΦ⟩ => ?_)
  cases hf with
  | next => exact wp_seq (hΦ.run A Z' H s' R S') fun f s'' ⟨Z'', ρ'', t, le', S'', hf⟩ => ⟨Z'', ρ'', t, le.trans le', S'', hf⟩
  | brk => exact hΦ.elim
  | cont => exact hΦ.elim
  | ret => exact hΦ.elim
theorem exsU_ret {e : PySem.Expr} {y : Str} (h : EvU G env n ρ e y) : ExsU G env n ρ [.Return (some e) pos] y := by
  constructor
  intro A Z H s R S
  refine wpAny_execs_cons (wpAny_Return_some (wp_seq (h.run A Z H s R S) fun v s₁ ⟨Z₁, t, x₁, e, h1, h2⟩ => ?_))
  exact ⟨Z₁, ρ, t, x₁.le, S.ext x₁, by rw [e], h1, h2⟩
theorem exsU_mark_dict {x : Str} {p dpos : Pos} {ks : List (Option PySem.Expr)} {vs : List PySem.Expr} {r : List (Str × Str)} {rest : List Stmt} {y : Str} (h : ConstPairs ks vs r) (h0 : r ≠ []) (hl : r.length ≤ 15) (hn : (r.map (·.1)).Nodup) (hc : Can env x) (hs : swapsWith (.Dict ks vs dpos) (some (.Name x p)) pos.line env = pure false)
    (hv : ∀ b Z x d v, ρ.lookup x = some (.val d) → Rep G Z v d → Rep (G.at b) Z v d) (ho : ∀ x ds, ρ.lookup x ≠ some (.own ds))
    (k : ∀ b, Exs (G.at b) env n (upd ρ x (.val (.dict (r.map (·.1)) (r.map fun p => .ostr p.2)))) rest (RetPost (.ostr y))) : ExsU G env n ρ (.Assign [.Name x p] (.Dict ks vs dpos) pos :: rest) y := by
  constructor
  intro A Z H s R S
  have tk := S.tk
  refine wpAny_execs_cons (wpAny_Assign_Name (wp_seq (run_dictT h h0 hl hn S) fun v s₁ ⟨a, o, kvs, e, hlow, hod, hk, hst, hz, x₁⟩ => ?_) hs)
  subst e
  have ht := x₁.tk
  have S₁ := (S.ext x₁).at (b := s₁.toks - 1) (by omega) (hv _ _) ho
  have r' : Rep (G.at (s₁.toks - 1)) (Zadd Z a o) (.ref a) (.dict (r.map (·.1)) (r.map fun p => .ostr p.2)) := by
    rw [← hk, show (r.map fun p => D.ostr p.2) = (r.map (·.2)).map .ostr by rw [List.map_map]; rfl]
    exact .dict (G := G.at (s₁.toks - 1)) Zadd.self hlow hod (hst.old (by omega) (by omega))
  refine wp_seq (st_store (G := G.at (s₁.toks - 1)) S₁ r' hc) fun _ s₂ S₂ => ?_
  refine wp_seq ((k (s₁.toks - 1)).run A _ H s₂ R S₂) fun f s₃ ⟨Z₃, ρ₃, fl, le₃, S₃, hf, hΦ⟩ => ?_
  have tk₃ : s₁.toks - 1 < s₃.toks := S₃.tk
  have S₄ := S₃.off (G := G) (by omega)
  cases hf with
  | next => cases hΦ
  | brk => exact hΦ.elim
  | cont => exact hΦ.elim
  | ret r' =>
    cases hΦ
    cases r' with
    | ostr _ t h1 h2 => exact ⟨Z₃, [], t, x₁.le.trans le₃, S₄, rfl, h1, Nat.lt_of_le_of_lt h2 tk₃⟩
theorem ev_joinU {o e : PySem.Expr} {sep : Str} {xs : List Str} (ho : Ev G env n ρ o (.str sep)) (he : Ev G env n ρ e (.list (txs xs))) (hl : xs.length ≠ 1) (hok : JoinOk sep xs = true) (hb : isNameCall o = false) (hst : isStarred e = false) (hline : (apos.endLine == pos.line) = true) :
    EvU G env n ρ (.Call (.Attribute o "join" apos) [e] [] pos) (Txt.join sep xs) := by
  constructor
  intro A Z H s R S
  have hst' : [e].any isStarred = false := by simp [hst]
  refine MethodCall_ (wp_seq (ho.run A Z H s R S) fun v s₁ ⟨Z₁, x₁, r₁⟩ => ?_) (eval_method hb hst' (by show 1 < 30; decide) hline)
  have S₁ := S.ext x₁
  cases r₁ with
  | str _ t =>
    refine (getm_str (G := G) (x := sep) F.slot_str_join F.type_str_join).run _ _ _ Z₁ s₁ _ _ _ S₁.zin (.str _ _) ?_
    refine Calls.callWith_builtin (starred_none (star_all hst') pos) (wp_evalArgs (starred_none (star_all hst') pos) (wp_seq ((evs_more he evs_nil hst).run A Z₁ H s₁ pos R S₁) fun vs s₂ ⟨Z₂, x₂, r₂⟩ => ?_))
    have S₂ := S₁.ext x₂
    cases r₂ with
    | cons r rs =>
      cases rs
      cases r with
      | list hz ra =>
        obtain ⟨l, e1, e2⟩ := strs_of_repAll ra
        subst e1 e2
        unfold JoinOk at hok
        rw [Bool.not_eq_true'] at hok
        have tk := S₂.tk
        refine call_meets F.slot_str_join (typeIs_str _ _ _) F.entry_str_join (F.args_str_join_2 _ _) (meets_str_join_list sep _ _ l hok) ⟨isList_of (S₂.zin _ _ hz), ?_⟩
        have hfit := joinFit_length hok
        have fin : ∃ Z' t', Ext Z s Z' { s₂ with toks := s₂.toks + 1 } ∧ (Value.str (Txt.join sep (l.map (·.1))) s₂.toks) = .str (Txt.join sep (l.map (·.1))) t' ∧ 0 < t' ∧ t' < s₂.toks + 1 := ⟨Z₂, s₂.toks, x₁.trans (x₂.trans (Ext.tok S₂.zin (Nat.le_succ _))), rfl, Nat.lt_of_le_of_lt (Nat.zero_le _) tk, Nat.lt_succ_self _⟩
        match l, hl, hfit, fin with
        | [], _, hfit, fin => exact ⟨hfit, fin⟩
        | [p], hl, _, _ => exact absurd rfl hl
        | _ :: _ :: _, _, hfit, fin => exact ⟨hfit, fin⟩
theorem evU_call {f : PySem.Expr} {es : List PySem.Expr} {a : Addr} {ds : List D} {y : Str} (hf : Ev G env n ρ f (.fn a)) (h : Evs G env n ρ es ds) (hk : keepIn G.K (.ref a) = true) (hc : FnU G n a ds y) (hst : es.any isStarred = false) (ha : isAttr f = false) : EvU G env n ρ (.Call f es [] pos) y := by
  constructor
  intro A Z H s R S
  rw [eval_call ha]
  refine wpAny_bind (wp_seq (hf.run A Z H s R S) fun v s₁ ⟨Z₁, x₁, r₁⟩ => ?_)
  cases r₁
  have S₁ := S.ext x₁
  have hp := star_all (env := env) hst
  refine callWith_of (P := fun h => G.K.In h) (by rw [starred_none hp]; rfl) (keeps_K hk) (wp_evalArgs (starred_none hp pos) (wp_seq (h.run A Z₁ H s₁ pos R S₁) fun vs s₂ ⟨Z₂, x₂, r₂⟩ => ⟨(S₁.ext x₂).X, ?_⟩))
  exact wp_seq (hc.run A Z₂ s₂ vs R (S₁.ext x₂).bs r₂) fun _ _ ⟨Z₃, t, x₃, h⟩ => ⟨Z₃, t, x₁.trans (x₂.trans x₃), h⟩
theorem evL_call {f e : PySem.Expr} {a : Addr} {x y : Str} (hf : Ev G env n ρ f (.fn a)) (h : Ev G env n ρ e (.str x)) (hk : keepIn G.K (.ref a) = true) (hc : ∀ b, Fn (G.at b) n a [.str x] (.fstr y)) (hst : isStarred e = false) (ha : isAttr f = false) : EvL G env n ρ (.Call f [e] [] pos) y := by
  constructor
  intro A Z H s R S
  rw [eval_call ha]
  refine wpAny_bind (wp_seq (hf.run A Z H s R S) fun v s₁ ⟨Z₁, x₁, r₁⟩ => ?_)
  cases r₁
  have S₁ := S.ext x₁
  have hst' : [e].any isStarred = false := by simp [hst]
  have hp := star_all (env := env) hst'
  refine callWith_of (P := fun h => G.K.In h) (by rw [starred_none hp]; rfl) (keeps_K hk) (wp_evalArgs (starred_none hp pos) (wp_seq ((evs_more h evs_nil hst).run A Z₁ H s₁ pos R S₁) fun vs s₂ ⟨Z₂, x₂, r₂⟩ => ⟨(S₁.ext x₂).X, ?_⟩))
  have tk := (S₁.ext x₂).tk
  have r₂' : RepAll (G.at (s₂.toks - 1)) Z₂ vs [.str x] := by
    cases r₂ with
    | cons r rs => cases rs; cases r; exact .cons (.str _ _) .nil
  refine wp_seq ((hc (s₂.toks - 1)).run A Z₂ s₂ vs R ((S₁.ext x₂).bs.at (by omega)) r₂') fun v s₃ ⟨Z₃, x₃, r₃⟩ => ?_
  have t1 := x₁.tk
  have t2 := x₂.tk
  cases r₃ with
  | fstr _ t ht =>
    have ht' : s₂.toks - 1 < t := ht
    exact ⟨Z₃, t, x₁.trans (x₂.trans x₃), rfl, by omega⟩
/-- o.replace(f(..), f(..), k) -/
theorem ev_replUL {o e₁ e₂ e₃ : PySem.Expr} {w y z : Str} {k : Int} (ho : Ev G env n ρ o (.str w)) (h₁ : EvU G env n ρ e₁ y) (h₂ : EvL G env n ρ e₂ z) (h₃ : Ev G env n ρ e₃ (.int k)) (hk0 : 0 ≤ k) (hk : k ≤ 100) (hy : (y.length == 0) = false) (hb' : w.length + 100 * z.length ≤ 1000000)
    (hb : isNameCall o = false) (s₁' : isStarred e₁ = false) (s₂' : isStarred e₂ = false) (s₃' : isStarred e₃ = false) (hline : (apos.endLine == pos.line) = true) :
    Ev G env n ρ (.Call (.Attribute o "replace" apos) [e₁, e₂, e₃] [] pos) (.str (replN w y z k.toNat)) := by
  constructor
  intro A Z H s R S
  have hst' : [e₁, e₂, e₃].any isStarred = false := by simp [s₁', s₂', s₃']
  refine MethodCall_ (wp_seq (ho.run A Z H s R S) fun v s₁ ⟨Z₁, x₁, r₁⟩ => ?_) (eval_method hb hst' (by show 3 < 30; decide) hline)
  have S₁ := S.ext x₁
  cases r₁ with
  | str _ t =>
    refine (getm_str (G := G) (x := w) F.slot_str_replace F.type_str_replace).run _ _ _ Z₁ s₁ _ _ _ S₁.zin (.str _ _) ?_
    refine Calls.callWith_builtin (starred_none (star_all hst') pos) (wp_evalArgs (starred_none (star_all hst') pos) ?_)
    refine spliced_more (wp_seq (h₁.run A Z₁ H s₁ R S₁) fun v₁ s₂ ⟨Z₂, t₁, x₂, e1, g1, g2⟩ => ?_) (star_cons s₁')
    subst e1
    have S₂ := S₁.ext x₂
    refine spliced_more (wp_seq (h₂.run A Z₂ H s₂ R S₂) fun v₂ s₃ ⟨Z₃, t₂, x₃, e2, g3⟩ => ?_) (star_cons s₂')
    subst e2
    have S₃ := S₂.ext x₃
    refine spliced_more (wp_seq (h₃.run A Z₃ H s₃ R S₃) fun v₃ s₄ ⟨Z₄, x₄, r₄⟩ => ?_) (star_cons s₃')
    have S₄ := S₃.ext x₄
    cases r₄ with
    | int _ c =>
      refine spliced_none ?_
      refine wp_tok (call_replN hk0 hk hy (Nat.pos_iff_ne_zero.mp g1) (Nat.pos_iff_ne_zero.mp (Nat.lt_of_lt_of_le (Nat.lt_of_le_of_lt (Nat.zero_le _) S₂.tk) g3)) (Nat.ne_of_lt (Nat.lt_of_lt_of_le g2 g3)) hb' ?_ fun t' j tok => ?_)
      · obtain ⟨mc, hm, e⟩ := G.nb
        exact ⟨mc, hm.keeps S₄.keepBase, e⟩
      · obtain ⟨Z₅, x₅, r₅⟩ := S₄.bs.y tok (.str (replN w y z k.toNat) t')
        exact ⟨Z₅, x₁.trans (x₂.trans (x₃.trans (x₄.trans x₅))), r₅⟩
theorem fn_ofU {a : Addr} {fd : FuncData} {body : List Stmt} {xs : List Str} {ds : List D} {y₀ : Str} (D : DefAt G a fd body) (hb : ∀ vs : List Value, vs.length = xs.length → bindArgs fd ⟨vs, []⟩ = pure (xs.zip vs)) (hlen : xs.length = ds.length)
    (hx : ∀ x ∈ xs, fd.scope.names.lookup x = some .local ∨ (fd.scope.names.lookup x = some .cell ∧ ∀ k, ((cellsFrom k fd.scope.names []).lookup x).isSome = true)) (hnd : xs.Nodup)
    (h : ∀ L, ExsU G (callEnvC fd L a) n (startLoc xs ds) body y₀) : FnU G (n + 1) a ds y₀ := by
  constructor
  intro A Z s vs R b r
  obtain ⟨o, ho, hd⟩ := D.obj
  have hvl : vs.length = xs.length := r.length.trans hlen.symm
  have hmap : (xs.zip vs).map (·.1) = xs := by rw [List.map_fst_zip]; omega
  have hnd' : ((xs.zip vs).map (·.1)).Nodup := by rw [hmap]; exact hnd
  refine wp_tok ?_
  refine wpAny_call ?_
  refine codeAny_call_function (by have := R.depth; omega) (b.X _ _ ho) hd D.co D.gen D.body (codeRec_of b.X D.code) ?_
  rw [hb vs hvl, D.closure]
  refine wpAny_pure (wpAny_with_toks (Nat.le_refl s.toks) (wpAny_newFunctionEnv_cells D.kind (fun x hm => ?_) fun env he s₁ x tok => ?_))
  · have : x.1 ∈ xs := by rw [← hmap]; exact List.mem_map_of_mem hm
    rcases hx _ this with q | ⟨q, q'⟩
    · exact .inl q
    · exact .inr ⟨q, q' _⟩
  subst he
  have hcall := x.toInCall
  obtain ⟨h₁, tk, rfl, hk₁⟩ := x.done
  refine ⟨b.nolimit.keeps hcall.keep, codeAny_func ?_⟩
  have HZ : ∀ a' o', (if Z a' = none then s.heap.get? a' else none) = some o' → Z a' = none ∧ s.heap.get? a' = some o' := fun a' o' e => by
    split at e
    · rename_i q; exact ⟨q, e⟩
    · cases e
  have hLnone : s.heap.get? s.heap.objs.size = none := get?_size_none _
  have nz : ∀ c, s.heap.objs.size ≤ c → s.heap.get? c = none := fun c hc => by
    cases q : s.heap.get? c with
    | none => rfl
    | some ob => exact absurd (Heap.lt_size q) (Nat.not_lt.mpr hc)
  have nzZ : ∀ c, s.heap.objs.size ≤ c → Z c = none := fun c hc => by
    cases q : Z c with
    | none => rfl
    | some ob => have := b.zin c ob q; rw [nz c hc] at this; cases this
  have S₁ : St G (callEnvC fd s.heap.objs.size a) Z (fun a => if Z a = none then s.heap.get? a else none) (startLoc xs ds) { s with heap := h₁, toks := tk } := by
    refine ⟨D.kind, D.gl, D.bl, b.gens, b.os, Nat.lt_of_lt_of_le b.tk tok, fun a' o' e => hk₁ _ _ (b.zin _ _ e), fun a' o' e => hk₁ _ _ (HZ _ _ e).2, fun a' o' e => by simp [e], fun a' o' e => ?_, ⟨_, hcall.ns⟩, nzZ _ (Nat.le_refl _), ?_, fun y c e => ⟨?_, fun _ => ?_, fun hf => by cases hf⟩, ?_, fun y d' e => ?_, ?_⟩
    · have e' := b.bas _ _ e
      cases q : Z a' with
      | none => right; simp [q, e']
      | some ob => left; have := b.zin _ _ q; rw [e'] at this; cases this; rfl
    · show (if Z s.heap.objs.size = none then s.heap.get? s.heap.objs.size else none) = none
      rw [nzZ _ (Nat.le_refl _), if_pos rfl]; exact hLnone
    · exact Nat.ne_of_gt (x.above y c (mem_of_lookup e))
    · have hc : s.heap.objs.size ≤ c := Nat.le_of_lt (x.above y c (mem_of_lookup e))
      refine ⟨nzZ c hc, ?_, _, x.cell y c e⟩
      show (if Z c = none then s.heap.get? c else none) = none
      rw [nzZ c hc, if_pos rfl]; exact nz c hc
    · exact fun y z c e e' => name_of_addr x.apart (mem_of_lookup e) (mem_of_lookup e')
    · obtain ⟨v, d'', e', hm, r'⟩ := startLoc_lookup r hlen e
      cases e'
      have hxm : y ∈ xs := by rw [← hmap]; exact List.mem_map_of_mem hm
      refine ⟨v, ?_, r'⟩
      rcases hx y hxm with q | ⟨q, q'⟩
      · exact .inl ⟨q, _, hcall.ns, bindL_get (k := (callEnvC fd s.heap.objs.size a).kindOf) q hnd' hm⟩
      · obtain ⟨c, hc⟩ := Option.isSome_iff_exists.mp (q' (s.heap.objs.size + 1))
        refine .inr ⟨.inl q, c, hc, ?_⟩
        have := x.cell y c hc
        exact (bindC_get (k := (callEnvC fd s.heap.objs.size a).kindOf) q hnd' hm) ▸ this
    · refine ⟨fun _ => 0, fun y z es es' e => ?_, fun y es e => ?_⟩
      · obtain ⟨_, _, e', _⟩ := startLoc_lookup r hlen e; cases e'
      · obtain ⟨_, _, e', _⟩ := startLoc_lookup r hlen e; cases e'
  refine wp_seq ((h s.heap.objs.size).run _ Z _ _ R.deeper S₁) fun f s₂ ⟨Z₂, ρ₂, t, le₂, S₂, hf, h1, h2⟩ tok₂ => ?_
  subst hf
  exact ⟨Z₂, t, ext_of_frame b le₂ S₂ tok₂, rfl, h1, h2⟩
end
end Mine
end
section
open PySem PySem.W PyProof.Rows
set_option linter.unusedVariables false
set_option maxRecDepth 100000
namespace Mine
section
variable {G : Gnd} {env : Env} {Z Z' H : Zf} {ρ ρ' : Loc} {s s' : Shared} {A : Around} {E : Value → Shared → Prop} {n : Nat} {pos apos : Pos}
def updAll (ρ : Loc) : List Str → List D → Loc
  | x :: xs, d :: ds => updAll (upd ρ x (.val d)) xs ds
  | _, _ => ρ
theorem stores_run (xs : List Str) : ∀ (ds : List D) (vs : List Value) (ρ : Loc) (s : Shared), xs.length = ds.length → (∀ x ∈ xs, Can env x) → St G env Z H ρ s → RepAll G Z vs ds →
    wpAny (model G.prog G.w) A (assignInOrder (xs.map fun n => bindName env n) vs) (fun _ s' => St G env Z H (updAll ρ xs ds) s') (fun _ _ => False) s := by
  induction xs with
  | nil =>
    intro ds vs ρ s hl hc S r
    cases ds with
    | nil => exact wpAny_pure S
    | cons d ds => cases hl
  | cons x xs ih =>
    intro ds vs ρ s hl hc S r
    cases r with
    | nil => cases hl
    | cons r rs =>
      refine assignInOrder_cons (bindName_ (wp_seq (st_store S r (hc x (List.mem_cons_self ..))) fun _ s₁ S₁ => ?_))
      exact ih _ _ _ s₁ (by simpa using hl) (fun y hy => hc y (List.mem_cons_of_mem _ hy)) S₁ rs
theorem RepAll.rev : ∀ {vs : List Value} {ds : List D}, RepAll G Z vs ds → RepAll G Z vs.reverse ds.reverse
  | _, _, .nil => .nil
  | _, _, .cons r rs => by rw [List.reverse_cons, List.reverse_cons]; exact rs.rev.append (.cons r .nil)
/-- a, b = x, y: stored from the right -/
theorem ex_assign_swap {ts : List PySem.Expr} {k : Nat} {tpos : Pos} {e : PySem.Expr} {ds : List D} {xs : List Str} {Φ : Fl → Loc → Prop} (h : Ev G env n ρ e (.tup ds)) (hl : xs.length = ds.length) (hc : ∀ x ∈ xs, Can env x) (hs : swapsWithSole [.Tuple ts k tpos] e pos.line env = pure false)
    (hw : swappedStores [.Tuple ts k tpos] e env = pure (some xs)) (hk : Φ .next (updAll ρ xs.reverse ds.reverse)) : Ex G env n ρ (.Assign [.Tuple ts k tpos] e pos) Φ :=
  Ex.mk fun A Z H s R S => Assign_Tuple_swapped (wp_seq (h.run A Z H s R S) fun v s₁ ⟨Z₁, x₁, r₁⟩ => by
    cases r₁ with
    | @tup a vs j _ hz ra =>
      have S₁ := S.ext x₁
      have ht := isTuple_of (S₁.zin _ _ hz)
      rw [show xs.length = vs.toArray.size by rw [List.size_toArray, hl, ra.length]]
      refine unpackItems_tuple R.handled ht fun h' he => ?_
      have x : Ext Z₁ s₁ Z₁ { s₁ with heap := h' } := ⟨Zle.same, fun b o e => he b o (fun q => by rw [q, get?_size_none] at e; cases e) e, fun b o e => he b o (fun q => by have := S₁.zin b o e; rw [q, get?_size_none] at this; cases this) (S₁.zin b o e), fun _ _ h => .inl h, rfl, rfl, Nat.le_refl _⟩
      refine wp_seq (stores_run xs.reverse ds.reverse vs.reverse ρ _ (by rw [List.length_reverse, List.length_reverse, hl]) (fun y hy => hc y (List.mem_reverse.mp hy)) (S₁.ext x) ra.rev) fun _ s₂ S₂ => ?_
      exact ⟨Z₁, _, .next, x₁.le, S₂, .next, hk⟩) hs hw
theorem rep_ints_at {b : Nat} : ∀ {vs : List Value} {ns : List Int}, RepAll G Z vs (ns.map .int) → RepAll (G.at b) Z vs (ns.map .int)
  | [], [], _ => .nil
  | v :: vs, x :: xs, .cons r rs => by cases r; exact .cons (.int _ _) (rep_ints_at rs)
end
end Mine
end
section
open PySem PySem.W PyProof.Rows
set_option linter.unusedVariables false
set_option maxRecDepth 100000
namespace Mine
local macro_rules | `(tactic| walk_at "ev1") => `(tactic| first
  | exact ev_int | exact ev_str | exact ev_bool | exact ev_none
  | exact ev_name rfl rfl
  | exact evs_nil
  | (apply evs_more; (case hs => exact rfl))
  | apply ev_binop | (apply ev_cmp; (case hm => exact rfl)) | apply ev_sub
  | apply ev_list | apply ev_tuple
  | (apply tst_cmp; (case hm => exact rfl)) | apply tst_not | exact tst_and_nil | exact tst_or_nil
  | exact op_add_int | exact op_sub_int | exact op_iadd_int | exact op_eq_int | exact op_ne_int | exact op_lt_int | exact op_gt_int | exact op_le_int | exact op_ge_int
  | exact op_eq_str | exact op_ne_str | exact op_in_str | exact op_notin_str | exact op_in_dict | exact op_notin_dict | exact op_ne_nil | exact op_eq_nil
  | exact op_fdiv_int (by decide) (PyProof.noPylong_of_log2 (by decide +kernel)) | exact op_mod_int (by decide)
  | apply op_add_str | apply op_iadd_str
  | exact tsts_nil | apply tsts_one)
local macro_rules | `(tactic| walk_at "ev") => `(tactic| repeat' walk_at "ev1")
local macro_rules | `(tactic| walk_at "can") => `(tactic| first | exact Or.inl rfl | exact Or.inr ⟨rfl, rfl, _, rfl⟩)
local macro_rules | `(tactic| walk_at "as") => `(tactic| (refine exs_cons ?_; apply ex_assign; (case hc => walk_at "can"); (case hs => exact rfl); (case' k => refine then_next ?_); (case' h => walk_at "ev")))
local macro_rules | `(tactic| walk_at "aug") => `(tactic| (refine exs_cons ?_; apply ex_aug; (case h₀ => exact rfl); (case hc => walk_at "can"); (case' k => refine then_next ?_); (case' ho => skip); (case' h => walk_at "ev"); (try walk_at "ev")))
local macro_rules | `(tactic| walk_at "if") => `(tactic| (refine exs_cons ?_; apply ex_if; (case' h => walk_at "ev")))
local macro_rules | `(tactic| walk_at "ret") => `(tactic| (refine exs_cons ?_; apply ex_return; (case' h => walk_at "ev")))
local macro_rules | `(tactic| walk_at "params") => `(tactic| (intro x hx; simp only [List.mem_cons, List.not_mem_nil, or_false] at hx; first
  | (subst hx; first | exact .inl rfl | exact .inr ⟨rfl, fun _ => rfl⟩)
  | (rcases hx with hx | hx <;> subst hx <;> first | exact .inl rfl | exact .inr ⟨rfl, fun _ => rfl⟩)
  | (rcases hx with hx | hx | hx <;> subst hx <;> first | exact .inl rfl | exact .inr ⟨rfl, fun _ => rfl⟩)))
local macro_rules | `(tactic| walk_at "esc") => `(tactic| (refine esc_step rfl (by decide +kernel : _ = (⟨#[_]⟩ : Str)) ?_ ?_ ?_ ?_ (by assumption) rfl (by walk_at "can") rfl ?_))
abbrev pw := PySem.Challenge.pw_dn0275_06
section
variable {G : Gnd} {n : Nat} {doc pm cdv ct : Value} {a : Addr}
def rAmp : List Nat := [38, 97, 109, 112, 59]
def rLt : List Nat := [38, 108, 116, 59]
def rGt : List Nat := [38, 103, 116, 59]
def cdataT : Tbl := [(38, rAmp), (60, rLt), (62, rGt)]
theorem fn_cdata (D : DefAt G a (fdOf (stOf pw 2) doc pm cdv ct) (bodyOf (stOf pw 2))) (l : List Nat) (hl : l.length ≤ 100000) : Fn G (n + 1) a [.str (T l)] (.str (T (escBy cdataT l))) := by
  refine fn_of (xs := ["text"]) D (fun vs h => ?_) rfl ?_ (by decide) fun L => ?_
  · match vs, h with
    | [v], _ => rfl
  · walk_at "params"
  rw [show T l = T (escBy [] l) from by rw [escBy_nil]]
  refine exs_cons (ex_try ?_)
  refine esc_step (c := 38) (z := rAmp) rfl (by decide +kernel) (by decide +kernel) (by decide) (by decide) (by decide) hl rfl (.inl rfl) rfl ?_
  refine esc_step (c := 60) (z := rLt) rfl (by decide +kernel) (by decide +kernel) (by decide) (by decide) (by decide) hl rfl (.inl rfl) rfl ?_
  refine esc_step (c := 62) (z := rGt) rfl (by decide +kernel) (by decide +kernel) (by decide) (by decide) (by decide) hl rfl (.inl rfl) rfl ?_
  walk_at "ret"
  rfl
set_option maxHeartbeats 4000000
theorem dget_gen {mk : Str → D} {tb : Tbl} (k : Nat) : dget (tb.map fun p => T [p.1]) (tb.map fun p => mk (T p.2)) ⟨#[k]⟩ = (tb.lookup k).map fun t => mk (T t) := by
  unfold dget
  induction tb with
  | nil => rfl
  | cons p r ih =>
    obtain ⟨a, b⟩ := p
    simp only [List.map_cons, List.zip_cons_cons, List.lookup_cons]
    have e : ((⟨#[k]⟩ : Str) == T [a]) = (k == a) := by
      rw [← T_one, T_beq]
      simp
      by_cases h : k = a <;> simp [h]
    rw [e]
    cases k == a with
    | true => rfl
    | false => exact ih
theorem get_gen {mk : Str → D} {tb : Tbl} (k : Nat) : (dget (tb.map fun p => T [p.1]) (tb.map fun p => mk (T p.2)) ⟨#[k]⟩).getD (mk ⟨#[k]⟩) = mk (T (spell tb k)) := by
  rw [dget_gen]
  unfold spell
  cases tb.lookup k with
  | none => rw [← T_one]; rfl
  | some z => rfl
theorem ev_getG {mk : Str → D} {env : Env} {ρ : Loc} {pos apos : Pos} {o x y : PySem.Expr} {tb : Tbl} {c : Nat} (ho : Ev G env n ρ o (.dict (tb.map fun p => T [p.1]) (tb.map fun p => mk (T p.2)))) (ha : Ev G env n ρ x (.str ⟨#[c]⟩)) (hb : Ev G env n ρ y (mk ⟨#[c]⟩)) (h1 : isNameCall o = false) (h2 : isStarred x = false) (h3 : isStarred y = false) (hline : (apos.endLine == pos.line) = true) :
    Ev G env n ρ (.Call (.Attribute o "get" apos) [x, y] [] pos) (mk (T (spell tb c))) := by
  have := ev_get (pos := pos) ho ha hb h1 h2 h3 hline
  rwa [get_gen] at this
theorem ev_getK {mk : Str → D} {env : Env} {ρ : Loc} {pos apos : Pos} {o x y : PySem.Expr} {tb : Tbl} {c : Nat} {z : List Nat} {d : D} (hz : tb.lookup c = some z) (ho : Ev G env n ρ o (.dict (tb.map fun p => T [p.1]) (tb.map fun p => mk (T p.2)))) (ha : Ev G env n ρ x (.str ⟨#[c]⟩)) (hb : Ev G env n ρ y d) (h1 : isNameCall o = false) (h2 : isStarred x = false) (h3 : isStarred y = false) (hline : (apos.endLine == pos.line) = true) :
    Ev G env n ρ (.Call (.Attribute o "get" apos) [x, y] [] pos) (mk (T z)) := by
  have := ev_get (pos := pos) ho ha hb h1 h2 h3 hline
  rwa [dget_gen, hz] at this
theorem sC_gen (mk : Str → D) : D.dict (sC.map (·.1)) (sC.map fun p => mk p.2) = .dict (cdataT.map fun p => T [p.1]) (cdataT.map fun p => mk (T p.2)) := by
  have e : sC = cdataT.map fun p => (T [p.1], T p.2) := by decide +kernel
  rw [e, List.map_map, List.map_map]
  rfl
theorem spell_len (c : Nat) : (spell cdataT c).length ≤ 8 := by
  cases hk : cdataT.lookup c with
  | none => rw [spell_none hk]; simp
  | some z => rw [spell_some hk]; exact of_decide_eq_true (List.all_eq_true.mp (by decide +kernel : cdataT.all (fun p => decide (p.2.length ≤ 8)) = true) _ (mem_look hk))
theorem spelled_sum {t : Tbl} (l : List Nat) : Txt.join Str.empty (l.map fun c => T (spell t c)) = T (escBy t l) := by
  rw [show (l.map fun c => T (spell t c)) = (l.map (spell t)).map T by rw [List.map_map]; rfl, join_flatT]
  congr 1
/-- the contract of _law_spelled: a new text -/
theorem fn_spelledL (dA : DefAt G a (fdOf (stOf pw 4) doc pm cdv ct) (bodyOf (stOf pw 4))) (l : List Nat) (hl : l.length ≤ 1000) : Fn G (n + 2) a [.str (T l)] (.fstr (T (escBy cdataT l))) := by
  refine fn_of (xs := ["piece"]) dA (fun vs h => ?_) rfl ?_ (by decide) fun L => ?_
  · match vs, h with
    | [v], _ => rfl
  · walk_at "params"
  have big := big_line
  refine exs_cons (ex_assign (d := .dict (sC.map (·.1)) (sC.map fun p => .fstr p.2)) (ev_dictF (r := sC) (by repeat' constructor) (by decide) (by decide) (by decide +kernel)) (by walk_at "can") rfl (then_next ?_))
  rw [sC_gen .fstr]
  refine exs_cons (ex_return (d := .fstr (T (escBy cdataT l))) ?_ rfl)
  rw [← spelled_sum]
  refine ev_meth (ds := [.list ((l.map fun c => T (spell cdataT c)).map .fstr)]) ev_str (evs_more ?_ evs_nil rfl) (getm_str F.slot_str_join F.type_str_join) (bf_joinF (joinOk_of (m := 8) (fun x hx => ?_) ?_)) rfl rfl (by decide) rfl
  · refine ev_listcomp (ρc := [("spelled", .val (.dict (cdataT.map fun p => T [p.1]) (cdataT.map fun p => .fstr (T p.2))))]) (cl := [("spelled", _)]) (d := .str (T l)) (ds := l.map fun c => .fstr ⟨#[c]⟩) ⟨rfl, by decide, by decide, rfl, cells_cons rfl cells_nil, cap_cons rfl rfl rfl rfl cap_nil⟩ rfl (fun _ => rfl) (ev_name rfl rfl) itr_strF ?_ (by simp; omega)
    intro C
    have e : (l.map fun c => T (spell cdataT c)).map D.fstr = l.flatMap fun c => [D.fstr (T (spell cdataT c))] := by rw [List.map_map, map_one]; rfl
    rw [e]
    refine comp1 (xs := l) (mk := fun c => D.fstr ⟨#[c]⟩) (F := fun c => [D.fstr (T (spell cdataT c))]) fun c _ => ⟨_, true, asg_name (.inl rfl), sub_upd rfl, tsts_nil, (fun h => nomatch h), fun _ => ⟨_, ?_, rfl⟩⟩
    exact ev_getG (mk := .fstr) (ev_name rfl rfl) (ev_ofF (ev_name rfl rfl)) (ev_name rfl rfl) rfl rfl rfl rfl
  · obtain ⟨c, _, rfl⟩ := List.mem_map.mp hx
    rw [T_length]; exact spell_len c
  · rw [List.length_map]
    show _ * (8 + 0) ≤ _
    omega
theorem look1 {x k : Str} {b b' : B} (e : List.lookup x [(k, b)] = some b') : b' = b := by
  rw [List.lookup_cons] at e
  split at e
  · exact (Option.some.inj e).symm
  · cases e
/-- the same: its token is below the counter -/
theorem fn_spelledU (dA : DefAt G a (fdOf (stOf pw 4) doc pm cdv ct) (bodyOf (stOf pw 4))) (l : List Nat) (hl : l.length ≤ 1000) (h1 : l.length ≠ 1 ∨ ∃ c z, l = [c] ∧ cdataT.lookup c = some z) : FnU G (n + 2) a [.str (T l)] (T (escBy cdataT l)) := by
  refine fn_ofU (xs := ["piece"]) dA (fun vs h => ?_) rfl ?_ (by decide) fun L => ?_
  · match vs, h with
    | [v], _ => rfl
  · walk_at "params"
  have big := big_line
  rcases h1 with h1 | ⟨c, z, rfl, hz⟩
  · refine exsU_cons (ex_assign (d := strDict sC) (ev_dict (r := sC) (by repeat' constructor) (by decide) (by decide) (by decide +kernel)) (by walk_at "can") rfl (then_next ?_))
    rw [show strDict sC = dD cdataT from strDict_eq (by decide +kernel)]
    refine exsU_ret ?_
    rw [← spelled_sum]
    refine ev_joinU ev_str ?_ (by rw [List.length_map]; exact h1) (joinOk_of (m := 8) (fun x hx => ?_) ?_) rfl rfl rfl
    · refine ev_listcomp (ρc := [("spelled", .val (dD cdataT))]) (cl := [("spelled", _)]) (d := .str (T l)) (ds := l.map fun c => .str ⟨#[c]⟩) ⟨rfl, by decide, by decide, rfl, cells_cons rfl cells_nil, cap_cons rfl rfl rfl rfl cap_nil⟩ rfl (fun _ => rfl) (ev_name rfl rfl) itr_str ?_ (by simp; omega)
      intro C
      have e : txs (l.map fun c => T (spell cdataT c)) = l.flatMap fun c => [D.str (T (spell cdataT c))] := by rw [txs, List.map_map, map_one]; rfl
      rw [e]
      exact comp1 (xs := l) (mk := fun c => D.str ⟨#[c]⟩) (F := fun c => [D.str (T (spell cdataT c))]) fun c _ => ⟨_, true, asg_name (.inl rfl), sub_upd rfl, tsts_nil, (fun h => nomatch h), fun _ => ⟨_, ev_spell (ev_name rfl rfl) (ev_name rfl rfl) (ev_name rfl rfl) rfl rfl rfl rfl, rfl⟩⟩
    · obtain ⟨c, _, rfl⟩ := List.mem_map.mp hx
      rw [T_length]; exact spell_len c
    · rw [List.length_map]
      show _ * (8 + 0) ≤ _
      omega
  · refine exsU_mark_dict (r := sC) (by repeat' constructor) (by decide) (by decide) (by decide +kernel) (by walk_at "can") rfl (fun b Z x d v e r => ?_) (fun x ds e => ?_) fun b => ?_
    · have e' : B.val d = .val (.str (T [c])) := look1 e
      cases e'
      cases r; exact .str _ _
    · have e' : B.own ds = .val (.str (T [c])) := look1 e
      cases e'
    · rw [sC_gen .ostr]
      have hes : escBy cdataT [c] = z := by simp [escBy, spell_some hz]
      rw [hes]
      refine exs_cons (ex_return (d := .ostr (T z)) ?_ rfl)
      have hzl : z.length ≤ 8 := by have := spell_len c; rwa [spell_some hz] at this
      refine ev_meth (ds := [.list [.ostr (T z)]]) ev_str (evs_more ?_ evs_nil rfl) (getm_str F.slot_str_join F.type_str_join) (bf_joinO (joinOk_of (m := 8) (fun x hx => ?_) (by show 1 * (8 + 0) ≤ _; omega))) rfl rfl (by decide) rfl
      · refine ev_listcomp (ρc := [("spelled", .val (.dict (cdataT.map fun p => T [p.1]) (cdataT.map fun p => .ostr (T p.2))))]) (cl := [("spelled", _)]) (d := .str (T [c])) (ds := [c].map fun c => .str ⟨#[c]⟩) ⟨rfl, by decide, by decide, rfl, cells_cons rfl cells_nil, cap_cons rfl rfl rfl rfl cap_nil⟩ rfl (fun _ => rfl) (ev_name rfl rfl) itr_str ?_ (by simp; omega)
        intro C
        exact comp1 (xs := [c]) (mk := fun c => D.str ⟨#[c]⟩) (F := fun _ => [D.ostr (T z)]) fun c' hc' => ⟨_, true, asg_name (.inl rfl), sub_upd rfl, tsts_nil, (fun h => nomatch h), fun _ => ⟨_, ev_getK (mk := .ostr) (by rw [List.mem_singleton.mp hc']; exact hz) (ev_name rfl rfl) (ev_name rfl rfl) (ev_name rfl rfl) rfl rfl rfl rfl, rfl⟩⟩
      · rw [List.mem_singleton] at hx; subst hx; rw [T_length]; exact hzl
end
end Mine
end
section
open PySem PySem.W PyProof.Rows PySem.Builtin PySem.Builtin.Str PySem.StrLaws
set_option linter.unusedVariables false
namespace Mine
theorem flat_len (q : List Nat) : ∀ (ps : List (List Nat)), ((ps.intersperse q).flatten).length + q.length ≤ (ps.map List.length).sum + ps.length * q.length + q.length
  | [] => by simp
  | [a] => by simp
  | a :: b :: r => by
    have ih := flat_len q (b :: r)
    rw [List.intersperse_cons_cons, List.flatten_cons, List.flatten_cons, List.length_append, List.length_append, List.map_cons, List.sum_cons, List.length_cons, Nat.succ_mul]
    omega
theorem RS.sum {p : List Nat} {k : Nat} {l : List Nat} {ps : List (List Nat)} (H : RS p k l ps) : (ps.map List.length).sum ≤ l.length ∧ ps.length ≤ k + 1 := by
  induction H with
  | zero u => simp
  | none k u hn => simp
  | hit k v w ps hn _ ih =>
    obtain ⟨i1, i2⟩ := ih
    refine ⟨?_, by simp; omega⟩
    rw [List.map_append, List.sum_append, List.length_append, List.length_append]
    simp; omega
theorem rsplit_esc' {t : Tbl} (h : PC t) {a : Nat} {p : List Nat} (ha : (t.lookup a).isSome = true) (l q : List Nat) (k : Int) (hk : 0 ≤ k) (hk2 : k ≤ 2) :
    ∃ (r : List Nat) (ps : List (List Nat)), Txt.rsplitMax (T l) (T (a :: p)) k = ps.map T ∧ Txt.rsplitMax (T (escBy t l)) (T (escBy t (a :: p))) k = (ps.map (escBy t)).map T ∧ Txt.join (T q) (ps.map T) = T r ∧ Txt.join (T (escBy t q)) ((ps.map (escBy t)).map T) = T (escBy t r) ∧ r.length ≤ l.length + 3 * q.length ∧
      (ps.map List.length).sum ≤ l.length ∧ ((ps.map (escBy t)).map List.length).sum ≤ (escBy t l).length ∧ ps.length ≤ 3 := by
  obtain ⟨ps, h1, e1⟩ := rsplit_T l (a :: p) k hk (by simp)
  have hne : escBy t (a :: p) ≠ [] := by rw [escBy_cons]; intro e; exact spell_ne h a (List.append_eq_nil_iff.mp e).1
  obtain ⟨qs, h2, e2⟩ := rsplit_T (escBy t l) (escBy t (a :: p)) k hk hne
  have eq := h2.uniq (h1.esc h ha)
  subst eq
  have s1 := h1.sum
  have s2 := h2.sum
  have hf := flat_len q ps
  have hm : ps.length * q.length ≤ 3 * q.length := Nat.mul_le_mul_right _ (by omega)
  refine ⟨(ps.intersperse q).flatten, ps, e1, e2, ?_, ?_, by omega, s1.1, s2.1, by omega⟩
  · unfold Txt.join; rw [glued_eq_join]; exact join_list q _
  · unfold Txt.join
    rw [glued_eq_join, ← esc_join]
    exact join_list _ _
end Mine
end
section
open PySem PySem.W PyProof.Rows
set_option linter.unusedVariables false
set_option maxRecDepth 100000
namespace Mine
local macro_rules | `(tactic| walk_at "ev1") => `(tactic| first
  | exact ev_int | exact ev_str | exact ev_bool | exact ev_none
  | exact ev_name rfl rfl
  | exact evs_nil
  | (apply evs_more; (case hs => exact rfl))
  | apply ev_binop | (apply ev_cmp; (case hm => exact rfl)) | apply ev_sub
  | apply ev_list | apply ev_tuple
  | (apply tst_cmp; (case hm => exact rfl)) | apply tst_not | exact tst_and_nil | exact tst_or_nil
  | exact op_add_int | exact op_sub_int | exact op_iadd_int | exact op_eq_int | exact op_ne_int | exact op_lt_int | exact op_gt_int | exact op_le_int | exact op_ge_int
  | exact op_eq_str | exact op_ne_str | exact op_in_str | exact op_notin_str | exact op_in_dict | exact op_notin_dict | exact op_ne_nil | exact op_eq_nil
  | exact op_fdiv_int (by decide) (PyProof.noPylong_of_log2 (by decide +kernel)) | exact op_mod_int (by decide)
  | apply op_add_str | apply op_iadd_str
  | exact tsts_nil | apply tsts_one)
local macro_rules | `(tactic| walk_at "ev") => `(tactic| repeat' walk_at "ev1")
local macro_rules | `(tactic| walk_at "can") => `(tactic| first | exact Or.inl rfl | exact Or.inr ⟨rfl, rfl, _, rfl⟩)
local macro_rules | `(tactic| walk_at "as") => `(tactic| (refine exs_cons ?_; apply ex_assign; (case hc => walk_at "can"); (case hs => exact rfl); (case' k => refine then_next ?_); (case' h => walk_at "ev")))
local macro_rules | `(tactic| walk_at "aug") => `(tactic| (refine exs_cons ?_; apply ex_aug; (case h₀ => exact rfl); (case hc => walk_at "can"); (case' k => refine then_next ?_); (case' ho => skip); (case' h => walk_at "ev"); (try walk_at "ev")))
local macro_rules | `(tactic| walk_at "if") => `(tactic| (refine exs_cons ?_; apply ex_if; (case' h => walk_at "ev")))
local macro_rules | `(tactic| walk_at "ret") => `(tactic| (refine exs_cons ?_; apply ex_return; (case' h => walk_at "ev")))
local macro_rules | `(tactic| walk_at "params") => `(tactic| (intro x hx; simp only [List.mem_cons, List.not_mem_nil, or_false] at hx; first
  | (subst hx; first | exact .inl rfl | exact .inr ⟨rfl, fun _ => rfl⟩)
  | (rcases hx with hx | hx <;> subst hx <;> first | exact .inl rfl | exact .inr ⟨rfl, fun _ => rfl⟩)
  | (rcases hx with hx | hx | hx <;> subst hx <;> first | exact .inl rfl | exact .inr ⟨rfl, fun _ => rfl⟩)))
local macro_rules | `(tactic| walk_at "esc") => `(tactic| (refine esc_step rfl (by decide +kernel : _ = (⟨#[_]⟩ : Str)) ?_ ?_ ?_ ?_ (by assumption) rfl (by walk_at "can") rfl ?_))

section
variable {G : Gnd} {n : Nat} {doc pm cdv ct : Value} {a : Addr}
set_option maxHeartbeats 4000000
theorem exs_branch {env : Env} {ρ : Loc} {st : Stmt} {rest : List Stmt} {Φ : Fl → Loc → Prop} {α : Type} (I : α → Loc) (P : α → Prop) (tail : ∀ x, P x → Exs G env n (I x) rest Φ) (h : Ex G env n ρ st (Then Φ fun ρ' => ∃ x, P x ∧ Sub (I x) ρ')) : Exs G env n ρ (st :: rest) Φ := by
  constructor
  intro A Z H s R S
  refine wpAny_execs_cons (wp_seq (h.run A Z H s R S) fun f s' ⟨Z', ρ', fl, le, S', hf, hΦ⟩ => ?_)
  cases hf with
  | next =>
    obtain ⟨x, hx, hs⟩ := hΦ
    exact wp_seq ((tail x hx).run A Z' H s' R (S'.weaken hs)) fun f s'' ⟨Z'', ρ'', fl, le', S'', hf, h⟩ => ⟨Z'', ρ'', fl, le.trans le', S'', hf, h⟩
  | brk => exact ⟨Z', ρ', _, le, S', .brk, hΦ⟩
  | cont => exact ⟨Z', ρ', _, le, S', .cont, hΦ⟩
  | ret r => exact ⟨Z', ρ', _, le, S', .ret r, hΦ⟩
theorem sb_pick {mk : Str → D} {value slice : PySem.Expr} {xs : List (List Nat)} {a m : Int} (hm : m = (xs.length : Int)) (h0 : 0 < xs.length) (hb : xs.length < 1000) : Sb G value slice (.list (xs.map fun w => mk (T w))) (.int (a.fmod m)) (mk (T (xs.getD (a.fmod m).toNat []))) := by
  have := fmod_bounds (a := a) (m := m) (by omega)
  refine sb_list this.1 (by omega) ?_
  rw [List.getElem?_map]
  have hlt : (a.fmod m).toNat < xs.length := by omega
  rw [List.getElem?_eq_getElem hlt, List.getD_eq_getElem?_getD, List.getElem?_eq_getElem hlt]
  rfl
def wL : List (List Nat) := [[38], [60], [62], [38, 108, 116, 59], [60, 97], [62, 62], [38, 97, 109, 112], [60, 38]]
def pL : List (List Nat) := [[], [97], [38], [108, 116, 59], [60], [97, 109, 112, 59], [62, 97], [38, 108, 116]]
theorem wL_ok : ∀ w ∈ wL, (∃ a p, w = a :: p ∧ (cdataT.lookup a).isSome = true) ∧ w.length ≤ 4 ∧ (w.length ≠ 1 ∨ ∃ c z, w = [c] ∧ cdataT.lookup c = some z) := by
  intro w hw
  simp only [wL, List.mem_cons, List.not_mem_nil, or_false] at hw
  rcases hw with h | h | h | h | h | h | h | h <;> subst h <;> refine ⟨⟨_, _, rfl, by decide⟩, by decide, ?_⟩ <;> first | exact .inl (by decide) | exact .inr ⟨_, _, rfl, rfl⟩
theorem pL_ok : ∀ p ∈ pL, p.length ≤ 4 := by decide
theorem getD_mem {xs : List (List Nat)} {i : Nat} (h : i < xs.length) : xs.getD i [] ∈ xs := by
  rw [List.getD_eq_getElem?_getD, List.getElem?_eq_getElem h]; exact List.getElem_mem h
theorem fn_law (dA : DefAt G a (fdOf (stOf pw 5) doc pm cdv ct) (bodyOf (stOf pw 5))) {as ae : Addr} (hlen : nsIn G.K mainGlobals "len" = some none)
    (gs : nsIn G.K mainGlobals "_law_spelled" = some (some (.ref as))) (ks : keepIn G.K (.ref as) = true)
    (fL : ∀ b (l : List Nat), l.length ≤ 1000 → Fn (G.at b) (n + 2) as [.str (T l)] (.fstr (T (escBy cdataT l))))
    (fU : ∀ b (l : List Nat), l.length ≤ 1000 → (l.length ≠ 1 ∨ ∃ c z, l = [c] ∧ cdataT.lookup c = some z) → FnU (G.at b) (n + 2) as [.str (T l)] (T (escBy cdataT l)))
    (ge : nsIn G.K mainGlobals "_escape_cdata" = some (some (.ref ae))) (ke : keepIn G.K (.ref ae) = true) (fe : ∀ b (l : List Nat), l.length ≤ 100000 → Fn (G.at b) (n + 2) ae [.str (T l)] (.str (T (escBy cdataT l))))
    (ns : List Int) (hn : ns.length ≤ 63) : Fn G (n + 3) a [.list (ns.map .int)] (.bool true) := by
  refine fn_of (xs := ["script"]) dA (fun vs h => ?_) rfl ?_ (by decide) fun L => ?_
  · match vs, h with
    | [v], _ => rfl
  · walk_at "params"
  have big : 100000 ≤ sizeLine := by decide
  have hPC : PC cdataT := ⟨by decide +kernel⟩
  have h8 : cdataT.all (fun p => decide (p.2.length ≤ 8)) = true := by decide +kernel
  refine exs_mark_list (by repeat' constructor) (by decide) (.inl rfl) rfl (fun b Z x d v e r => ?_) (fun x ds e => ?_) (fun b Z v r => ?_) fun b => ?_
  · have e' : B.val d = .val (.list (ns.map .int)) := look1 e
    cases e'
    cases r with
    | list hz ra => exact .list (G := G.at b) hz (rep_ints_at ra)
  · have e' : B.own ds = .val (.list (ns.map .int)) := look1 e
    cases e'
  · cases r; exact .bool _
  have ew : ∀ {L : List Str}, L = wL.map T → L.map D.ostr = wL.map fun w => D.ostr (T w) := fun h => by rw [h, List.map_map]; rfl
  rw [ew (by decide +kernel)]
  refine exs_cons (ex_assign (d := .list (pL.map fun w => .fstr (T w))) ?_ (.inl rfl) rfl (then_next ?_))
  · have ep : (pL.map fun w => D.fstr (T w)) = (["", "a", "&", "lt;", "<", "amp;", ">a", "&lt"] : List Str).map D.fstr := by
      rw [show (["", "a", "&", "lt;", "<", "amp;", ">a", "&lt"] : List Str) = pL.map T from by decide +kernel, List.map_map]; rfl
    rw [ep]
    exact ev_list (evs_more ev_strF (evs_more ev_strF (evs_more ev_strF (evs_more ev_strF (evs_more ev_strF (evs_more ev_strF (evs_more ev_strF (evs_more ev_strF evs_nil rfl) rfl) rfl) rfl) rfl) rfl) rfl) rfl) (by decide)
  refine exs_cons (ex_assign_tuple (d := .tup [.str (T []), .str (T [])]) ?_ (asg_tuple (asgs_cons (asg_name (.inl rfl)) (asgs_cons (asg_name (.inl rfl)) asgs_nil rfl) rfl)) rfl rfl (then_next ?_))
  · exact ev_tuple (evs_more ev_str (evs_more ev_str evs_nil rfl) rfl) (by show 2 ≤ sizeLine; decide)
  refine exs_cons ?_
  refine ex_for (fun i ρ' => ∃ l : List Nat, l.length ≤ 16 * i ∧ Sub [("whats", .val (.list (wL.map fun w => .ostr (T w)))), ("puts", .val (.list (pL.map fun w => .fstr (T w)))), ("text", .val (.str (T l))), ("writing", .val (.str (T (escBy cdataT l))))] ρ')
    (d := .list (([72, 3, 135, 1, 9, 149] ++ ns).map .int)) (ds := ([72, 3, 135, 1, 9, 149] ++ ns).map .int) ?_ itr_list ⟨[], by simp, sub_cons rfl (sub_cons rfl (sub_cons rfl (sub_cons rfl sub_nil)))⟩ ?_ ?_ (fun x => rfl)
  · rw [List.map_append]
    refine ev_binop (d₁ := .list ([72, 3, 135, 1, 9, 149].map .int)) (d₂ := .list (ns.map .int)) (by walk_at "ev"; decide) (ev_name rfl rfl) (op_add_list (by simp; omega))
  · rintro i d ρ' hd ⟨l, hl, hsub⟩
    obtain ⟨x, hx, rfl⟩ := at_map hd
    have hi : i < 69 := by
      have := (List.getElem?_eq_some_iff.mp hx).1
      simp at this; omega
    refine ⟨_, asg_weaken hsub (asg_name (.inl rfl)), ?_⟩
    refine exs_cons (ex_assign_swap (xs := ["kind", "more"]) (ds := [.int (x.fmod 3), .int (x.fdiv 3)]) ?_ rfl ?_ rfl rfl (then_next ?_))
    · refine ev_tuple ?_ (by show 2 ≤ sizeLine; decide)
      walk_at "ev"
    · intro y hy
      simp only [List.mem_cons, List.not_mem_nil, or_false] at hy
      rcases hy with rfl | rfl <;> exact .inl rfl
    have hw := getD_mem (xs := wL) (i := ((x.fdiv 3).fmod 8).toNat) (by have := fmod_bounds (a := x.fdiv 3) (m := 8) (by decide); show _ < 8; omega)
    have hp := getD_mem (xs := pL) (i := (((x.fdiv 3).fdiv 8).fmod 8).toNat) (by have := fmod_bounds (a := (x.fdiv 3).fdiv 8) (m := 8) (by decide); show _ < 8; omega)
    have hk := fmod_bounds (a := (x.fdiv 3).fdiv 64) (m := 2) (by decide)
    refine exs_cons (ex_assign_swap (xs := ["what", "put", "count"]) (ds := [.ostr (T (wL.getD ((x.fdiv 3).fmod 8).toNat [])), .fstr (T (pL.getD (((x.fdiv 3).fdiv 8).fmod 8).toNat [])), .int (1 + ((x.fdiv 3).fdiv 64).fmod 2)]) ?_ rfl ?_ rfl rfl (then_next ?_))
    · refine ev_tuple (evs_more (ev_sub (ev_name rfl rfl) (by walk_at "ev") (sb_pick (mk := .ostr) (by decide) (by decide) (by decide))) (evs_more (ev_sub (ev_name rfl rfl) (by walk_at "ev") (sb_pick (mk := .fstr) (by decide) (by decide) (by decide))) (evs_more (by walk_at "ev") evs_nil rfl) rfl) rfl) (by show 3 ≤ sizeLine; decide)
    · intro y hy
      simp only [List.mem_cons, List.not_mem_nil, or_false] at hy
      rcases hy with rfl | rfl | rfl <;> exact .inl rfl
    generalize wL.getD ((x.fdiv 3).fmod 8).toNat [] = w at hw
    generalize pL.getD (((x.fdiv 3).fdiv 8).fmod 8).toNat [] = p at hp
    generalize hkd : 1 + ((x.fdiv 3).fdiv 64).fmod 2 = k
    have hk0 : 0 ≤ k := by omega
    have hk2 : k ≤ 2 := by omega
    obtain ⟨⟨a0, w', ew', ha0⟩, hwl, hw1⟩ := wL_ok w hw
    have hpl := pL_ok p hp
    have hel := esc_le (m := 8) (by decide) h8 l
    have hewl := esc_le (m := 8) (by decide) h8 w
    have hepl := esc_le (m := 8) (by decide) h8 p
    have hwne : ((T w).length == 0) = false := by rw [T_length, ew']; rfl
    have hewne : ((T (escBy cdataT w)).length == 0) = false := by
      rw [T_length, beq_eq_false_iff_ne]
      intro e
      rw [ew', escBy_cons, List.length_append] at e
      exact spell_ne hPC a0 (List.length_eq_zero_iff.mp (by omega))
    refine exs_branch (fun r => [("whats", .val (.list (wL.map fun w => .ostr (T w)))), ("puts", .val (.list (pL.map fun w => .fstr (T w)))), ("text", .val (.str (T r))), ("writing", .val (.str (T (escBy cdataT r))))]) (fun r : List Nat => r.length ≤ 16 * (i + 1)) ?_ ?_
    · intro r hr
      refine exs_cons (ex_if (c := T (escBy cdataT r) != T (escBy cdataT r)) (tst_cmp (ev_call (ev_glob ge rfl rfl) (evs_more (ev_name rfl rfl) evs_nil rfl) ke (fe b r (by omega)) rfl rfl) (ev_name rfl rfl) op_ne_str rfl) (fun h => by simp at h) fun _ => exs_nil (then_next (exs_nil ⟨r, hr, sub_cons rfl (sub_cons rfl (sub_cons rfl (sub_cons rfl sub_nil)))⟩)))
    refine ex_if (c := (x.fmod 3 == 0) && (decide (((T l).length : Int) < 60) && true)) (tst_and (tst_cmp (ev_name rfl rfl) ev_int op_eq_int rfl) fun _ => tst_and (tst_cmp (ev_bf (evs_more (ev_name rfl rfl) evs_nil rfl) (bf_len_str (by rw [T_length]; omega)) hlen rfl rfl rfl rfl) ev_int op_lt_int rfl) fun _ => tst_and_nil) (fun _ => ?_) fun _ => ?_
    · refine exs_cons (ex_assign (ev_cat (ev_cat (ev_name rfl rfl) (ev_ofO (ev_name rfl rfl)) (by omega)) (ev_ofF (ev_name rfl rfl)) (by rw [List.length_append]; omega)) (.inl rfl) rfl (then_next ?_))
      refine exs_cons (ex_assign (d := .str (T (escBy cdataT ((l ++ w) ++ p)))) ?_ (.inl rfl) rfl (then_next (exs_nil (then_next ⟨(l ++ w) ++ p, by rw [List.length_append, List.length_append]; omega, sub_cons rfl (sub_cons rfl (sub_cons rfl (sub_cons rfl sub_nil)))⟩))))
      rw [escBy_append, escBy_append]
      refine ev_cat (ev_cat (ev_name rfl rfl) (ev_call (ev_glob gs rfl rfl) (evs_more (ev_ofO (ev_name rfl rfl)) evs_nil rfl) ks (fn_ofF' (fL b w (by omega))) rfl rfl) (by omega)) (ev_call (ev_glob gs rfl rfl) (evs_more (ev_ofF (ev_name rfl rfl)) evs_nil rfl) ks (fn_ofF' (fL b p (by omega))) rfl rfl) (by rw [List.length_append]; omega)
    refine exs_cons (ex_if (c := x.fmod 3 == 1) (tst_cmp (ev_name rfl rfl) ev_int op_eq_int rfl) (fun _ => ?_) fun _ => ?_)
    · obtain ⟨r, er1, er2⟩ := repl_esc hPC ha0 (p := w') l p k.toNat
      rw [← ew'] at er1 er2
      have hrl : r.length ≤ l.length + k.toNat * p.length := by
        have := replN_len (x := T l) (z := T p) (k := k.toNat) hwne
        rwa [er1, T_length, T_length, T_length] at this
      have hkp : k.toNat * p.length ≤ 2 * 4 := Nat.mul_le_mul (by omega) hpl
      refine exs_cons (ex_assign (d := .str (T r)) ?_ (.inl rfl) rfl (then_next ?_))
      · rw [← er1]
        exact ev_meth (ds := [.ostr (T w), .fstr (T p), .int k]) (ev_name rfl rfl) (evs_more (ev_name rfl rfl) (evs_more (ev_name rfl rfl) (evs_more (ev_name rfl rfl) evs_nil rfl) rfl) rfl) (getm_str F.slot_str_replace F.type_str_replace) (bf_replOF hk0 (by omega) hwne (by rw [T_length, T_length]; omega)) rfl rfl (by decide) rfl
      refine exs_cons (ex_assign (d := .str (T (escBy cdataT r))) ?_ (.inl rfl) rfl (then_next (exs_nil (then_next (exs_nil (then_next ⟨r, by omega, sub_cons rfl (sub_cons rfl (sub_cons rfl (sub_cons rfl sub_nil)))⟩))))))
      rw [← er2]
      exact ev_replUL (ev_name rfl rfl) (evU_call (ev_glob gs rfl rfl) (evs_more (ev_ofO (ev_name rfl rfl)) evs_nil rfl) ks (fU b w (by omega) hw1) rfl rfl) (evL_call (ev_glob gs rfl rfl) (ev_ofF (ev_name rfl rfl)) ks (fun b' => fL b' p (by omega)) rfl rfl) (ev_name rfl rfl) hk0 (by omega) hewne (by rw [T_length, T_length]; omega) rfl rfl rfl rfl rfl
    · obtain ⟨r, ps, e1, e2, e3, e4, hrl, hs1, hs2, hps⟩ := rsplit_esc' hPC ha0 (p := w') l p k hk0 hk2
      rw [← ew'] at e1 e2
      have eL : ((fun x : Str => x.length) ∘ T) = List.length := by funext z; exact T_length z
      refine exs_cons (ex_assign (d := .str (T r)) ?_ (.inl rfl) rfl (then_next ?_))
      · rw [← e3]
        refine ev_meth (ds := [.list (txs (ps.map T))]) (ev_ofF (ev_name rfl rfl)) (evs_more ?_ evs_nil rfl) (getm_str F.slot_str_join F.type_str_join) (bf_join (joinOk_sum ?_)) rfl rfl (by decide) rfl
        · rw [← e1]
          exact ev_meth (ds := [.str (T w), .int k]) (ev_name rfl rfl) (evs_more (ev_ofO (ev_name rfl rfl)) (evs_more (ev_name rfl rfl) evs_nil rfl) rfl) (getm_str F.slot_str_rsplit F.type_str_rsplit) (bf_rsplit hk0 (by omega) hwne (by rw [T_length]; omega)) rfl rfl (by decide) rfl
        · rw [List.map_map, eL, List.length_map, T_length]
          have : ps.length * p.length ≤ 3 * 4 := Nat.mul_le_mul hps hpl
          omega
      refine exs_cons (ex_assign (d := .str (T (escBy cdataT r))) ?_ (.inl rfl) rfl (then_next (exs_nil (then_next (exs_nil (then_next ⟨r, by omega, sub_cons rfl (sub_cons rfl (sub_cons rfl (sub_cons rfl sub_nil)))⟩))))))
      rw [← e4]
      refine ev_meth (ds := [.list (txs ((ps.map (escBy cdataT)).map T))]) (ev_call (ev_glob gs rfl rfl) (evs_more (ev_ofF (ev_name rfl rfl)) evs_nil rfl) ks (fn_ofF' (fL b p (by omega))) rfl rfl) (evs_more ?_ evs_nil rfl) (getm_str F.slot_str_join F.type_str_join) (bf_join (joinOk_sum ?_)) rfl rfl (by decide) rfl
      · rw [← e2]
        exact ev_meth (ds := [.str (T (escBy cdataT w)), .int k]) (ev_name rfl rfl) (evs_more (ev_call (ev_glob gs rfl rfl) (evs_more (ev_ofO (ev_name rfl rfl)) evs_nil rfl) ks (fn_ofF' (fL b w (by omega))) rfl rfl) (evs_more (ev_name rfl rfl) evs_nil rfl) rfl) (getm_str F.slot_str_rsplit F.type_str_rsplit) (bf_rsplit hk0 (by omega) hewne (by rw [T_length]; omega)) rfl rfl (by decide) rfl
      · rw [List.map_map, eL, List.length_map, List.length_map, T_length]
        have : ps.length * (escBy cdataT p).length ≤ 3 * 32 := Nat.mul_le_mul hps (by omega)
        omega
  · rintro ρ' ⟨l, hl, hsub⟩
    refine then_next ?_
    walk_at "ret"
    rfl
end
end Mine
end
open PySem PySem.W PySem.W.X PySem.W.ZRun PyProof.Rows
set_option maxRecDepth 100000
set_option maxHeartbeats 0
theorem PySem.Challenge.cw_dn0275_06_holds : PySem.Challenge.rw_dn0275_06.Holds := by
  w_on; o_law; z_head
  (case hw => w_witness2)
  k_fill
  intro w s₀ s₁ mg mb G y fa o pm cd doc dV kV ho hd hcd hD hmg hg args vals as L hpre hlay hrd hwl hlo
  z_open y L KX ZH ZN ZT
  refine Ground.open G ?_
  intro T B D TE TW
  wrow_args hpre hlay hrd hwl hlo
  obtain ⟨hat, hsz⟩ := script_at L
  have htk := script_toks L ZT
  rw [ZN] at hat hsz
  subst hat
  x_fa T KX hmg
  all_lens
  clear hcd hd hD ho
  refine Mine.finish (n := 3) (p := _) KX (topRead_of T) rfl hg (Nat.lt_of_lt_of_le (by decide) htk) (script_obj L (by assumption)) (by assumption) (fun _ => rfl) ?_ (by decide) fun nb => ?_
  · wrow_post
  exact Mine.fn_law (n := 0) (doc := _) (pm := _) (cdv := _) (ct := _) ⟨⟨_, rfl, rfl⟩, rfl, rfl, rfl, rfl, rfl, rfl, rfl, rfl⟩ rfl
    rfl rfl (fun b l hl => Mine.fn_spelledL (doc := _) (pm := _) (cdv := _) (ct := _) ⟨⟨_, rfl, rfl⟩, rfl, rfl, rfl, rfl, rfl, rfl, rfl, rfl⟩ l hl) (fun b l hl h1 => Mine.fn_spelledU (doc := _) (pm := _) (cdv := _) (ct := _) ⟨⟨_, rfl, rfl⟩, rfl, rfl, rfl, rfl, rfl, rfl, rfl, rfl⟩ l hl h1)
    rfl rfl (fun b l hl => Mine.fn_cdata (doc := _) (pm := _) (cdv := _) (ct := _) ⟨⟨_, rfl, rfl⟩, rfl, rfl, rfl, rfl, rfl, rfl, rfl, rfl⟩ l hl)
    _ (by omega)
