import PyProof.Rows.All
import Wide.All
import OpenK.AllK
import Wide.FinOn
import PySem.Challenge.RW_dn0275_05
set_option Elab.async false
section
open PySem PySem.W PyProof.Rows
namespace Mine

/-- plain Python data -/
inductive D where
  | none
  | bool (b : Bool)
  | int (i : Int)
  | str (x : Str)
  | list (ds : List D)
  | tup (ds : List D)
  | dict (ks : List Str) (ds : List D)
  | fn (a : Addr)
  | rng (a b : Int)
  | slc (lo hi : Option Int)
  | bytes (b : Array UInt8)
  | fstr (x : Str)
  | ostr (x : Str)

abbrev Zf := Addr → Option Obj

/-- what is fixed while the law runs -/
structure Gnd where
  prog : Program
  w : World
  K : Frag
  p : Program
  loose : List Str
  mg : Str → Option Value
  mb : Str → Option Value
  base : Heap
  os : OsState
  X : K.In base
  T : TopRead p loose mg mb base
  nb : NoneBooked base
  t0 : Nat

mutual
/-- the value v is the datum d, as the frozen objects Z tell it -/
inductive Rep (G : Gnd) (Z : Zf) : Value → D → Prop
  | none : Rep G Z .none .none
  | bool (b : Bool) : Rep G Z (.bool b) (.bool b)
  | int (i : Int) (t : Tok) : Rep G Z (.int i t) (.int i)
  | str (x : Str) (t : Tok) : Rep G Z (.str x t) (.str x)
  | list {a : Addr} {vs : List Value} {n : Nat} {ds : List D} : Z a = some (listOf vs.toArray n) → RepAll G Z vs ds → Rep G Z (.ref a) (.list ds)
  | tup {a : Addr} {vs : List Value} {n : Nat} {ds : List D} : Z a = some { cls := .type "tuple", data := .seq vs.toArray n } → RepAll G Z vs ds → Rep G Z (.ref a) (.tup ds)
  | dict {a : Addr} {o : Obj} {kvs : List (Str × Value)} {ds : List D} : Z a = some o → (a == sysModules) = false → o.IsDictOf (strKind G.prog G.w) kvs →
      RepAll G Z (kvs.map (·.2)) ds → Rep G Z (.ref a) (.dict (kvs.map (·.1)) ds)
  | fn (a : Addr) : Rep G Z (.ref a) (.fn a)
  | rng {x : Addr} {a b : Int} {t u v : Tok} : Z x = some { cls := .type "range", data := .fields #[.int a t, .int b u, .int 1 v] } → Rep G Z (.ref x) (.rng a b)
  | slc {x : Addr} {vl vu : Value} {lo hi : Option Int} : Z x = some { cls := .type "slice", data := .fields #[vl, vu, .none] } → IsPart vl lo → IsPart vu hi → Rep G Z (.ref x) (.slc lo hi)
  | bytes (b : Array UInt8) (t : Tok) : Rep G Z (.bytes b t) (.bytes b)
  | fstr (x : Str) (t : Tok) : G.t0 < t → Rep G Z (.str x t) (.fstr x)
  | ostr (x : Str) (t : Tok) : 0 < t → t ≤ G.t0 → Rep G Z (.str x t) (.ostr x)
inductive RepAll (G : Gnd) (Z : Zf) : List Value → List D → Prop
  | nil : RepAll G Z [] []
  | cons {v : Value} {vs : List Value} {d : D} {ds : List D} : Rep G Z v d → RepAll G Z vs ds → RepAll G Z (v :: vs) (d :: ds)
end

def Zle (Z Z' : Zf) : Prop := ∀ a o, Z a = some o → Z' a = some o
theorem Zle.same {Z : Zf} : Zle Z Z := fun _ _ h => h
theorem Zle.trans {Z Z' Z'' : Zf} (a : Zle Z Z') (b : Zle Z' Z'') : Zle Z Z'' := fun x o h => b x o (a x o h)

mutual
theorem Rep.mono {G : Gnd} {Z Z' : Zf} (hz : Zle Z Z') : ∀ {v : Value} {d : D}, Rep G Z v d → Rep G Z' v d
  | _, _, .none => .none
  | _, _, .bool b => .bool b
  | _, _, .int i t => .int i t
  | _, _, .str x t => .str x t
  | _, _, .list h r => .list (hz _ _ h) (RepAll.mono hz r)
  | _, _, .tup h r => .tup (hz _ _ h) (RepAll.mono hz r)
  | _, _, .dict h hs hd r => .dict (hz _ _ h) hs hd (RepAll.mono hz r)
  | _, _, .fn a => .fn a
  | _, _, .rng h => .rng (hz _ _ h)
  | _, _, .slc h p q => .slc (hz _ _ h) p q
  | _, _, .bytes b t => .bytes b t
  | _, _, .fstr x t h => .fstr x t h
  | _, _, .ostr x t h h' => .ostr x t h h'
theorem RepAll.mono {G : Gnd} {Z Z' : Zf} (hz : Zle Z Z') : ∀ {vs : List Value} {ds : List D}, RepAll G Z vs ds → RepAll G Z' vs ds
  | _, _, .nil => .nil
  | _, _, .cons h r => .cons (Rep.mono hz h) (RepAll.mono hz r)
end

section
variable {G : Gnd} {Z : Zf}
theorem RepAll.length : ∀ {vs : List Value} {ds : List D}, RepAll G Z vs ds → vs.length = ds.length
  | _, _, .nil => rfl
  | _, _, .cons _ r => by rw [List.length_cons, List.length_cons, RepAll.length r]
theorem RepAll.append : ∀ {vs ws : List Value} {ds es : List D}, RepAll G Z vs ds → RepAll G Z ws es → RepAll G Z (vs ++ ws) (ds ++ es)
  | _, _, _, _, .nil, k => k
  | _, _, _, _, .cons h r, k => .cons h (RepAll.append r k)
theorem RepAll.get : ∀ {vs : List Value} {ds : List D}, RepAll G Z vs ds → ∀ {i : Nat} {d : D}, ds[i]? = some d → ∃ v, vs[i]? = some v ∧ Rep G Z v d
  | _, _, .nil, _, _, h => by simp at h
  | _, _, .cons h r, 0, _, e => by simp at e; subst e; exact ⟨_, rfl, h⟩
  | _, _, .cons _ r, i + 1, _, e => by simp at e; simpa using RepAll.get r e
theorem RepAll.drop : ∀ {vs : List Value} {ds : List D}, RepAll G Z vs ds → ∀ n, RepAll G Z (vs.drop n) (ds.drop n)
  | _, _, r, 0 => by simpa using r
  | _, _, .nil, _ + 1 => .nil
  | _, _, .cons _ r, n + 1 => by simpa using RepAll.drop r n
theorem RepAll.take : ∀ {vs : List Value} {ds : List D}, RepAll G Z vs ds → ∀ n, RepAll G Z (vs.take n) (ds.take n)
  | _, _, _, 0 => by simpa using RepAll.nil
  | _, _, .nil, _ + 1 => .nil
  | _, _, .cons h r, n + 1 => by simpa using RepAll.cons h (RepAll.take r n)
end

/-- from Z, s to Z', s': nothing that stood is changed, what is newly frozen is new -/
structure Ext (Z : Zf) (s : Shared) (Z' : Zf) (s' : Shared) : Prop where
  le : Zle Z Z'
  keep : ∀ a o, s.heap.get? a = some o → s'.heap.get? a = some o
  zin : ∀ a o, Z' a = some o → s'.heap.get? a = some o
  new : ∀ a o, Z' a = some o → Z a = some o ∨ s.heap.get? a = none
  gens : s'.gens = s.gens
  os : s'.os = s.os
  tk : s.toks ≤ s'.toks

theorem Ext.same {Z : Zf} {s : Shared} (hz : ∀ a o, Z a = some o → s.heap.get? a = some o) : Ext Z s Z s := ⟨Zle.same, fun _ _ h => h, hz, fun _ _ h => .inl h, Eq.refl _, Eq.refl _, Nat.le_refl _⟩
theorem Ext.tok {Z : Zf} {s : Shared} (hz : ∀ a o, Z a = some o → s.heap.get? a = some o) {t : Nat} (ht : s.toks ≤ t) : Ext Z s Z { s with toks := t } := ⟨Zle.same, fun _ _ h => h, hz, fun _ _ h => .inl h, Eq.refl _, Eq.refl _, ht⟩
theorem Ext.trans {Z Z' Z'' : Zf} {s s' s'' : Shared} (x : Ext Z s Z' s') (y : Ext Z' s' Z'' s'') : Ext Z s Z'' s'' where
  le := x.le.trans y.le
  keep := fun a o h => y.keep a o (x.keep a o h)
  zin := y.zin
  new := fun a o h => by
    rcases y.new a o h with h | h
    · exact x.new a o h
    · cases q : s.heap.get? a with
      | none => exact .inr (Eq.refl _)
      | some ob => rw [x.keep a ob q] at h; cases h
  gens := y.gens.trans x.gens
  os := y.os.trans x.os
  tk := Nat.le_trans x.tk y.tk
/-- only the heap's keeping counts: Z stays -/
theorem Ext.back {Z Z₁ Z' : Zf} {s s' : Shared} (x : Ext Z₁ s Z' s') (hz : ∀ a o, Z a = some o → s.heap.get? a = some o) : Ext Z s Z s' :=
  ⟨Zle.same, x.keep, fun a o h => x.keep a o (hz a o h), fun _ _ h => .inl h, x.gens, x.os, x.tk⟩

def Zadd (Z : Zf) (a : Addr) (o : Obj) : Zf := fun b => if b = a then some o else Z b
theorem Zadd.self {Z : Zf} {a : Addr} {o : Obj} : Zadd Z a o a = some o := if_pos rfl
theorem Zadd.le {Z : Zf} {a : Addr} {o : Obj} (h : Z a = none) : Zle Z (Zadd Z a o) := fun b ob e => by
  unfold Zadd
  by_cases q : b = a
  · subst q; rw [h] at e; cases e
  · rw [if_neg q]; exact e

theorem get?_size_none (h : Heap) : h.get? h.objs.size = none := by
  cases q : h.get? h.objs.size with
  | none => rfl
  | some o => exact absurd (Heap.lt_size q) (Nat.lt_irrefl _)

/-- a new object, frozen at once -/
theorem Ext.alloc {Z : Zf} {s : Shared} {o : Obj} {t : Nat} (hz : ∀ a o, Z a = some o → s.heap.get? a = some o) (hf : o.isFreed = false) (ht : s.toks ≤ t) :
    Ext Z s (Zadd Z s.heap.objs.size o) { s with heap := s.heap.push o, toks := t } where
  le := Zadd.le (by
    cases q : Z s.heap.objs.size with
    | none => rfl
    | some ob => exact absurd (hz _ _ q) (by rw [get?_size_none]; intro h; cases h))
  keep := fun a ob h => Heap.get?_push_of_some _ h
  zin := fun a ob h => by
    unfold Zadd at h
    by_cases q : a = s.heap.objs.size
    · subst q; rw [if_pos rfl] at h; cases h; exact Heap.get?_push_size _ hf
    · rw [if_neg q] at h; exact Heap.get?_push_of_some _ (hz _ _ h)
  new := fun a ob h => by
    unfold Zadd at h
    by_cases q : a = s.heap.objs.size
    · subst q; exact .inr (get?_size_none _)
    · rw [if_neg q] at h; exact .inl h
  gens := rfl
  os := rfl
  tk := ht

end Mine
end
section
open PySem PySem.W PyProof.Rows
namespace Mine

/-- what a name stands for: a datum, or a list that the frame alone holds -/
inductive B where
  | val (d : D)
  | own (ds : List D)

abbrev Loc := List (Str × B)

abbrev upd (ρ : Loc) (x : Str) (b : B) : Loc := (x, b) :: ρ

theorem lookup_upd (ρ : Loc) (x z : Str) (b : B) : (upd ρ x b).lookup z = if z = x then some b else ρ.lookup z := by
  show List.lookup z ((x, b) :: ρ) = _
  rw [List.lookup_cons]
  by_cases h : z = x
  · rw [beq_iff_eq.mpr h, if_pos h]
  · rw [beq_eq_false_iff_ne.mpr h, if_neg h]

def Has (env : Env) (h : Heap) (x : Str) (v : Value) : Prop :=
  (env.kindOf x = some .local ∧ ∃ m, h.Ns env.locals m ∧ m x = some v) ∨
  ((env.kindOf x = some .cell ∨ (env.kindOf x = some .free ∧ (x == ("__classdict__" : Str)) = false)) ∧ ∃ c, env.cells.lookup x = some c ∧ h.IsCell c (some v))

theorem Has.keeps {env : Env} {h h' : Heap} {x : Str} {v : Value} (H : Has env h x v) (hk : ∀ b o, h.get? b = some o → h'.get? b = some o) : Has env h' x v := by
  rcases H with ⟨k, m, n, e⟩ | ⟨k, c, e, n⟩
  · exact .inl ⟨k, m, n.keeps hk, e⟩
  · exact .inr ⟨k, c, e, n.keeps hk⟩

theorem ns_uniq {h : Heap} {a : Addr} {m m' : Str → Option Value} (x : h.Ns a m) (y : h.Ns a m') : m = m' := by
  obtain ⟨o, es, ep, ho, hd, hk, hf⟩ := x
  obtain ⟨o', es', ep', ho', hd', hk', hf'⟩ := y
  rw [ho] at ho'; cases ho'
  rw [hd] at hd'; cases hd'
  funext n
  rw [← hf, ← hf']

/-- the state, as the frame sees it -/
structure St (G : Gnd) (env : Env) (Z H : Zf) (ρ : Loc) (s : Shared) : Prop where
  fk : env.scope.kind = .function
  gl : env.globals = mainGlobals
  bl : env.builtins = builtinsNs
  gens : s.gens = #[]
  os : s.os = G.os
  tk : G.t0 < s.toks
  zin : ∀ a o, Z a = some o → s.heap.get? a = some o
  hin : ∀ a o, H a = some o → s.heap.get? a = some o
  dj : ∀ a o, Z a = some o → H a = none
  bas : ∀ a o, G.base.get? a = some o → Z a = some o ∨ H a = some o
  ns : ∃ m, s.heap.Ns env.locals m
  lz : Z env.locals = none
  lh : H env.locals = none
  cells : ∀ x c, env.cells.lookup x = some c → c ≠ env.locals ∧ (env.func.isSome = true → Z c = none ∧ H c = none ∧ ∃ v, s.heap.IsCell c v) ∧ (env.func.isSome = false → ∃ o, H c = some o)
  inj : ∀ x y c, env.cells.lookup x = some c → env.cells.lookup y = some c → x = y
  vars : ∀ x d, ρ.lookup x = some (.val d) → ∃ v, Has env s.heap x v ∧ Rep G Z v d
  owns : ∃ oa : Str → Addr, (∀ x y ds es, ρ.lookup x = some (.own ds) → ρ.lookup y = some (.own es) → oa x = oa y → x = y) ∧
    ∀ x ds, ρ.lookup x = some (.own ds) → Has env s.heap x (.ref (oa x)) ∧ Z (oa x) = none ∧ H (oa x) = none ∧ oa x ≠ env.locals ∧ (∀ y c, env.cells.lookup y = some c → oa x ≠ c) ∧
      ∃ vs n, s.heap.get? (oa x) = some (listOf vs.toArray n) ∧ RepAll G Z vs ds

section
variable {G : Gnd} {env : Env} {Z Z' H : Zf} {ρ : Loc} {s s' : Shared}

theorem St.keepBase (S : St G env Z H ρ s) : ∀ a o, G.base.get? a = some o → s.heap.get? a = some o := fun a o h =>
  (S.bas a o h).elim (S.zin a o) (S.hin a o)
theorem St.X (S : St G env Z H ρ s) : G.K.In s.heap := fun a o h => S.keepBase a o (G.X a o h)
theorem St.T (S : St G env Z H ρ s) : TopRead G.p G.loose G.mg G.mb s.heap := G.T.keeps S.keepBase

theorem ext_none {a : Addr} (x : Ext Z s Z' s') (hz : Z a = none) (ho : ∃ o, s.heap.get? a = some o) : Z' a = none := by
  cases q : Z' a with
  | none => rfl
  | some o =>
    rcases x.new a o q with h | h
    · rw [hz] at h; cases h
    · obtain ⟨ob, e⟩ := ho; rw [h] at e; cases e

theorem St.ext (S : St G env Z H ρ s) (x : Ext Z s Z' s') : St G env Z' H ρ s' where
  fk := S.fk
  gl := S.gl
  bl := S.bl
  gens := x.gens.trans S.gens
  os := x.os.trans S.os
  tk := Nat.lt_of_lt_of_le S.tk x.tk
  zin := x.zin
  hin := fun a o h => x.keep a o (S.hin a o h)
  dj := fun a o h => by
    rcases x.new a o h with h | h
    · exact S.dj a o h
    · cases q : H a with
      | none => rfl
      | some ob => rw [S.hin a ob q] at h; cases h
  bas := fun a o h => (S.bas a o h).elim (fun h => .inl (x.le a o h)) .inr
  ns := let ⟨m, n⟩ := S.ns; ⟨m, n.keeps x.keep⟩
  lz := ext_none x S.lz (let ⟨_, o, _, _, h, _⟩ := S.ns; ⟨o, h⟩)
  lh := S.lh
  cells := fun y c e => by
    obtain ⟨hl, h⟩ := S.cells y c e
    refine ⟨hl, fun hf => ?_, h.2⟩
    obtain ⟨h1, h2, v, h3⟩ := h.1 hf
    exact ⟨ext_none x h1 (let ⟨o, ho, _⟩ := h3; ⟨o, ho⟩), h2, v, h3.keeps x.keep⟩
  inj := S.inj
  vars := fun y d e => by
    obtain ⟨v, h, r⟩ := S.vars y d e
    exact ⟨v, h.keeps x.keep, r.mono x.le⟩
  owns := by
    obtain ⟨oa, hi, h⟩ := S.owns
    refine ⟨oa, hi, fun y ds e => ?_⟩
    obtain ⟨h1, h2, h3, h4, h5, vs, n, h6, h7⟩ := h y ds e
    exact ⟨h1.keeps x.keep, ext_none x h2 ⟨_, h6⟩, h3, h4, h5, vs, n, x.keep _ _ h6, h7.mono x.le⟩

theorem St.same (S : St G env Z H ρ s) : Ext Z s Z s := Ext.same S.zin

/-- the tree t ends in the datum d, and changes nothing that stood -/
def Yields (G : Gnd) (A : Around) (t : Sem Value) (Z : Zf) (d : D) (s : Shared) : Prop :=
  wpAny (model G.prog G.w) A t (fun v s' => ∃ Z', Ext Z s Z' s' ∧ Rep G Z' v d) (fun _ _ => False) s

/-- room for n more frames -/
structure Room (n : Nat) (A : Around) : Prop where
  handled : A.handled = none
  depth : A.depth + n < recursionLimit
  units : A.units + 8 * n < cLine
  guards : A.guards = some []
theorem Room.deeper {n : Nat} {A : Around} {env : Env} (r : Room (n + 1) A) : Room n (A.deeper env) := ⟨r.handled, by have := r.depth; show A.depth + 1 + n < _; omega, by have := r.units; show A.units + 3 + 8 * n < _; omega, r.guards⟩
theorem Room.less {n m : Nat} {A : Around} (r : Room n A) (h : m ≤ n) : Room m A := ⟨r.handled, by have := r.depth; omega, by have := r.units; omega, r.guards⟩

/-- the expression e is the datum d where the names are ρ -/
structure Ev (G : Gnd) (env : Env) (n : Nat) (ρ : Loc) (e : PySem.Expr) (d : D) : Prop where
  run : ∀ A Z H s, Room n A → St G env Z H ρ s → Yields G A (eval e env) Z d s

/-- a test -/
structure Tst (G : Gnd) (env : Env) (n : Nat) (ρ : Loc) (e : PySem.Expr) (b : Bool) : Prop where
  run : ∀ A Z H s, Room n A → St G env Z H ρ s → wpAny (model G.prog G.w) A (isTrue e env (eval e env)) (fun b' s' => b' = b ∧ Ext Z s Z s') (fun _ _ => False) s

variable {A : Around} {E : Value → Shared → Prop} {n : Nat}

theorem wp_seq {α : Type} {M : Model} {t : Sem α} {P Q : α → Shared → Prop} (h : wpAny M A t P (fun _ _ => False) s) (hq : ∀ v s', P v s' → Q v s') : wpAny M A t Q E s :=
  wpAny_mono h hq fun _ _ x => x.elim

/-- tokens only grow -/
theorem wp_tok {α : Type} {M : Model} {t : Sem α} {Q : α → Shared → Prop} (h : wpAny M A t (fun a s' => s.toks ≤ s'.toks → Q a s') (fun _ _ => False) s) : wpAny M A t Q (fun _ _ => False) s :=
  wpAny_with_toks (Nat.le_refl _) (wpAny_mono h (fun _ _ x => x) fun _ _ x => x.elim)

/-- a name -/
theorem ev_name {x : Str} {pos : Pos} {d : D} (h : ρ.lookup x = some (.val d)) (hd : (x == ("__debug__" : Str)) = false) : Ev G env n ρ (.Name x pos) d := by
  constructor
  intro A Z H s _ S
  obtain ⟨v, hv, r⟩ := S.vars x d h
  refine wpAny_Name ?_ hd
  rcases hv with ⟨k, m, n, e⟩ | ⟨k, c, e, n⟩
  · exact wpAny_loadName_local S.fk k n e ⟨Z, S.same, r⟩
  · rcases k with k | k
    · exact wpAny_loadName_cell S.fk k e n ⟨Z, S.same, r⟩
    · exact wpAny_loadName_free S.fk k.1 e n ⟨Z, S.same, r⟩ k.2

end
end Mine
end
section
open PySem PySem.W PyProof.Rows
namespace Mine

section
variable {G : Gnd} {env : Env} {Z Z' H : Zf} {ρ ρ' : Loc} {s s' : Shared} {A : Around} {E : Value → Shared → Prop}

theorem Has.store_local {h h' : Heap} {x y : Str} {v u : Value} {m : Str → Option Value} (hn : h.Ns env.locals m) (hn' : h'.Ns env.locals (fun y => if y = x then some v else m y))
    (hs : Heap.SameBut env.locals h h') (hcl : ∀ y c, env.cells.lookup y = some c → c ≠ env.locals) (hy : y ≠ x) (q : Has env h y u) : Has env h' y u := by
  rcases q with ⟨k, m₂, n, e⟩ | ⟨k, c, e, n⟩
  · rw [ns_uniq n hn] at e
    exact .inl ⟨k, _, hn', by simpa [hy] using e⟩
  · exact .inr ⟨k, c, e, n.sameBut hs (hcl y c e)⟩

theorem Has.store_cell {h h' : Heap} {x y : Str} {u : Value} {c : Addr} (hs : Heap.SameBut c h h') (hc : env.cells.lookup x = some c)
    (inj : ∀ x y c, env.cells.lookup x = some c → env.cells.lookup y = some c → x = y) (hcl : c ≠ env.locals) (hy : y ≠ x) (q : Has env h y u) : Has env h' y u := by
  rcases q with ⟨k, m₂, n, e⟩ | ⟨k, c', e, n⟩
  · exact .inl ⟨k, m₂, n.sameBut hs (Ne.symm hcl), e⟩
  · exact .inr ⟨k, c', e, n.sameBut hs fun q => hy (inj y x c (q ▸ e) hc)⟩

/-- a change at an address that is neither frozen nor held -/
theorem St.put (S : St G env Z H ρ s) {a : Addr} {h' : Heap} {t : Nat} (ht : s.toks ≤ t) (hs : Heap.SameBut a s.heap h') (hz : Z a = none) (hh : H a = none) (hns : ∃ m, h'.Ns env.locals m)
    (hce : ∀ y c, env.cells.lookup y = some c → env.func.isSome = true → ∃ v, h'.IsCell c v)
    (hvars : ∀ y d, ρ'.lookup y = some (.val d) → ∃ v, Has env h' y v ∧ Rep G Z v d)
    (howns : ∃ oa : Str → Addr, (∀ x y ds es, ρ'.lookup x = some (.own ds) → ρ'.lookup y = some (.own es) → oa x = oa y → x = y) ∧
      ∀ x ds, ρ'.lookup x = some (.own ds) → Has env h' x (.ref (oa x)) ∧ Z (oa x) = none ∧ H (oa x) = none ∧ oa x ≠ env.locals ∧ (∀ y c, env.cells.lookup y = some c → oa x ≠ c) ∧
        ∃ vs n, h'.get? (oa x) = some (listOf vs.toArray n) ∧ RepAll G Z vs ds) :
    St G env Z H ρ' { s with heap := h', toks := t } where
  fk := S.fk
  gl := S.gl
  bl := S.bl
  gens := S.gens
  os := S.os
  tk := Nat.lt_of_lt_of_le S.tk ht
  zin := fun b o h => (hs.2 b fun q => by rw [q, hz] at h; cases h).trans (S.zin b o h)
  hin := fun b o h => (hs.2 b fun q => by rw [q, hh] at h; cases h).trans (S.hin b o h)
  dj := S.dj
  bas := S.bas
  ns := hns
  lz := S.lz
  lh := S.lh
  cells := fun y c e => by
    obtain ⟨hl, h⟩ := S.cells y c e
    refine ⟨hl, fun hf => ?_, h.2⟩
    obtain ⟨h1, h2, _⟩ := h.1 hf
    exact ⟨h1, h2, hce y c e hf⟩
  inj := S.inj
  vars := hvars
  owns := howns

/-- where a name may be stored -/
def Can (env : Env) (x : Str) : Prop := env.kindOf x = some .local ∨ (env.kindOf x = some .cell ∧ env.func.isSome = true ∧ ∃ c, env.cells.lookup x = some c)

/-- the heaps behind a store of x: all other names stand -/
theorem wp_storeName {x : Str} {v : Value} {Q : Unit → Shared → Prop} (S : St G env Z H ρ s) (hc : Can env x)
    (h : ∀ a h' t, s.toks ≤ t → Z a = none → H a = none → Heap.SameBut a s.heap h' → (∃ m, h'.Ns env.locals m) → (∀ y c, env.cells.lookup y = some c → env.func.isSome = true → ∃ v, h'.IsCell c v) →
      Has env h' x v → (∀ y u, y ≠ x → Has env s.heap y u → Has env h' y u) → (∀ b, s.heap.get? b ≠ none → b ≠ env.locals → (∀ y c, env.cells.lookup y = some c → b ≠ c) → b ≠ a) → Q () { s with heap := h', toks := t }) :
    wpAny (model G.prog G.w) A (storeName env x v) Q E s := by
  rcases hc with k | ⟨k, hf, c, e⟩
  · obtain ⟨m, hn⟩ := S.ns
    refine wpAny_storeName_local k hn (fun h' hn' hs => ?_) (by rw [S.fk]; rfl)
    refine h env.locals h' _ (Nat.le_succ _) S.lz S.lh hs ⟨_, hn'⟩ (fun y c e hf => ?_) (.inl ⟨k, _, hn', by simp⟩) (fun y u hy q => q.store_local hn hn' hs (fun y c e => (S.cells y c e).1) hy) fun b _ hb _ => hb
    obtain ⟨hl, h1, _⟩ := S.cells y c e
    obtain ⟨_, _, v', hv⟩ := h1 hf
    exact ⟨v', hv.sameBut hs hl⟩
  · obtain ⟨hl, h1, _⟩ := S.cells x c e
    obtain ⟨hz, hh, v₀, hv⟩ := h1 hf
    refine wpAny_storeName_cell S.fk k e hv fun h' hv' hs => ?_
    refine h c h' s.toks (Nat.le_refl _) hz hh hs (let ⟨m, hn⟩ := S.ns; ⟨m, hn.sameBut hs (Ne.symm hl)⟩) (fun y c' e' hf' => ?_) (.inr ⟨.inl k, c, e, hv'⟩) (fun y u hy q => q.store_cell hs e S.inj hl hy) fun b _ _ hb => hb x c e
    by_cases q : c' = c
    · subst q; exact ⟨_, hv'⟩
    · obtain ⟨_, h2, _⟩ := S.cells y c' e'
      obtain ⟨_, _, v', hv''⟩ := h2 hf'
      exact ⟨v', hv''.sameBut hs q⟩

theorem st_store {x : Str} {v : Value} {d : D} (S : St G env Z H ρ s) (r : Rep G Z v d) (hc : Can env x) :
    wpAny (model G.prog G.w) A (storeName env x v) (fun _ s' => St G env Z H (upd ρ x (.val d)) s') E s := by
  refine wp_storeName S hc fun a h' t ht hz hh hs hns hce hx hy hb => S.put ht hs hz hh hns hce ?_ ?_
  · intro y d' e
    rw [lookup_upd] at e
    by_cases q : y = x
    · subst q; rw [if_pos rfl] at e; cases e; exact ⟨v, hx, r⟩
    · rw [if_neg q] at e
      obtain ⟨u, hu, ru⟩ := S.vars y d' e
      exact ⟨u, hy y u q hu, ru⟩
  · obtain ⟨oa, hi, ho⟩ := S.owns
    have old : ∀ y ds, (upd ρ x (.val d)).lookup y = some (.own ds) → y ≠ x ∧ ρ.lookup y = some (.own ds) := fun y ds e => by
      rw [lookup_upd] at e
      by_cases q : y = x
      · rw [if_pos q] at e; cases e
      · rw [if_neg q] at e; exact ⟨q, e⟩
    refine ⟨oa, fun y z ds es ey ez => hi y z ds es (old y ds ey).2 (old z es ez).2, fun y ds e => ?_⟩
    obtain ⟨q, e⟩ := old y ds e
    obtain ⟨h1, h2, h3, h4, h5, vs, n, h6, h7⟩ := ho y ds e
    exact ⟨hy y _ q h1, h2, h3, h4, h5, vs, n, (hs.2 _ (hb _ (by rw [h6]; intro z; cases z) h4 h5)).trans h6, h7⟩

/-- a list that none but the frame holds is stored -/
theorem st_storeOwn {x : Str} {a : Addr} {vs : List Value} {n : Nat} {ds : List D} (S : St G env Z H ρ s) (hz : Z a = none) (hh : H a = none) (hl : a ≠ env.locals)
    (hcs : ∀ y c, env.cells.lookup y = some c → a ≠ c) (hoa : ∀ y es v, ρ.lookup y = some (.own es) → Has env s.heap y v → v ≠ .ref a) (ho : s.heap.get? a = some (listOf vs.toArray n)) (r : RepAll G Z vs ds)
    (hc : Can env x) :
    wpAny (model G.prog G.w) A (storeName env x (.ref a)) (fun _ s' => St G env Z H (upd ρ x (.own ds)) s') E s := by
  refine wp_storeName S hc fun b h' t ht hz' hh' hs hns hce hx hy hb => S.put ht hs hz' hh' hns hce ?_ ?_
  · intro y d' e
    rw [lookup_upd] at e
    by_cases q : y = x
    · subst q; rw [if_pos rfl] at e; cases e
    · rw [if_neg q] at e
      obtain ⟨u, hu, ru⟩ := S.vars y d' e
      exact ⟨u, hy y u q hu, ru⟩
  · obtain ⟨oa, hi, ho'⟩ := S.owns
    have old : ∀ y es, y ≠ x → (upd ρ x (.own ds)).lookup y = some (.own es) → ρ.lookup y = some (.own es) := fun y es q e => by
      rw [lookup_upd, if_neg q] at e; exact e
    refine ⟨fun y => if y = x then a else oa y, fun y z es es' ey ez q => ?_, fun y es e => ?_⟩
    · by_cases hy : y = x <;> by_cases hz : z = x
      · rw [hy, hz]
      · simp only [hy, hz, if_true, if_false] at q
        exact absurd rfl (q ▸ hoa z _ _ (old z _ hz ez) (ho' z _ (old z _ hz ez)).1)
      · simp only [hy, hz, if_true, if_false] at q
        exact absurd (by rw [q]) (hoa y _ _ (old y _ hy ey) (ho' y _ (old y _ hy ey)).1)
      · simp only [hy, hz, if_false] at q
        exact hi y z _ _ (old y _ hy ey) (old z _ hz ez) q
    · by_cases q : y = x
      · subst q
        rw [lookup_upd, if_pos rfl] at e; cases e
        simp only [if_true]
        exact ⟨hx, hz, hh, hl, hcs, vs, n, (hs.2 _ (hb _ (by rw [ho]; intro z; cases z) hl hcs)).trans ho, r⟩
      · simp only [q, if_false]
        obtain ⟨h1, h2, h3, h4, h5, vs, n, h6, h7⟩ := ho' y es (old y es q e)
        exact ⟨hy y _ q h1, h2, h3, h4, h5, vs, n, (hs.2 _ (hb _ (by rw [h6]; intro z; cases z) h4 h5)).trans h6, h7⟩

/-- an owned list is frozen -/
theorem St.freeze {x : Str} {ds : List D} (S : St G env Z H ρ s) (hx : ρ.lookup x = some (.own ds)) : ∃ Z', Zle Z Z' ∧ St G env Z' H (upd ρ x (.val (.list ds))) s ∧
    (∀ a o, Z' a = some o → Z a = some o ∨ ∃ v, Has env s.heap x v ∧ v = .ref a) := by
  obtain ⟨oa, hi, ho⟩ := S.owns
  obtain ⟨h1, h2, h3, h4, h5, vs, n, h6, h7⟩ := ho x ds hx
  have le : Zle Z (Zadd Z (oa x) (listOf vs.toArray n)) := Zadd.le h2
  have ne : ∀ b, b ≠ oa x → Zadd Z (oa x) (listOf vs.toArray n) b = Z b := fun b hb => if_neg hb
  refine ⟨Zadd Z (oa x) (listOf vs.toArray n), le, ?_, ?_⟩
  · refine ⟨S.fk, S.gl, S.bl, S.gens, S.os, S.tk, fun b o e => ?_, S.hin, fun b o e => ?_, fun b o e => (S.bas b o e).elim (fun h => .inl (le _ _ h)) .inr, S.ns, ?_, S.lh, fun y c e => ?_, S.inj, fun y d e => ?_, ?_⟩
    · by_cases q : b = oa x
      · subst q; rw [Zadd.self] at e; cases e; exact h6
      · rw [ne b q] at e; exact S.zin b o e
    · by_cases q : b = oa x
      · subst q; exact h3
      · rw [ne b q] at e; exact S.dj b o e
    · rw [ne _ (Ne.symm h4)]; exact S.lz
    · obtain ⟨hl, h, h'⟩ := S.cells y c e
      refine ⟨hl, fun hf => ?_, h'⟩
      obtain ⟨g1, g2⟩ := h hf
      exact ⟨by rw [ne _ (Ne.symm (h5 y c e))]; exact g1, g2⟩
    · rw [lookup_upd] at e
      by_cases q : y = x
      · subst q; rw [if_pos rfl] at e; cases e
        exact ⟨_, h1, .list Zadd.self (h7.mono le)⟩
      · rw [if_neg q] at e
        obtain ⟨u, hu, ru⟩ := S.vars y d e
        exact ⟨u, hu, ru.mono le⟩
    · have old : ∀ y es, (upd ρ x (.val (.list ds))).lookup y = some (.own es) → y ≠ x ∧ ρ.lookup y = some (.own es) := fun y es e => by
        rw [lookup_upd] at e
        by_cases q : y = x
        · rw [if_pos q] at e; cases e
        · rw [if_neg q] at e; exact ⟨q, e⟩
      refine ⟨oa, fun y z es es' ey ez => hi y z es es' (old y es ey).2 (old z es' ez).2, fun y es e => ?_⟩
      obtain ⟨q, e⟩ := old y es e
      obtain ⟨g1, g2, g3, g4, g5, vs', n', g6, g7⟩ := ho y es e
      exact ⟨g1, by rw [ne _ fun z => q (hi y x _ _ e hx z)]; exact g2, g3, g4, g5, vs', n', g6, g7.mono le⟩
  · intro b o e
    by_cases q : b = oa x
    · subst q; exact .inr ⟨_, h1, rfl⟩
    · rw [ne b q] at e; exact .inl e

end
end Mine
end
section
open PySem PySem.W PyProof.Rows
set_option linter.unusedVariables false
namespace Mine

/-- the state, as a callee sees it -/
structure Bs (G : Gnd) (Z : Zf) (s : Shared) : Prop where
  gens : s.gens = #[]
  os : s.os = G.os
  tk : G.t0 < s.toks
  zin : ∀ a o, Z a = some o → s.heap.get? a = some o
  bas : ∀ a o, G.base.get? a = some o → s.heap.get? a = some o

section
variable {G : Gnd} {env : Env} {Z Z' H : Zf} {ρ ρ' : Loc} {s s' : Shared} {A : Around} {E : Value → Shared → Prop} {n : Nat} {pos apos : Pos}

theorem St.bs (S : St G env Z H ρ s) : Bs G Z s := ⟨S.gens, S.os, S.tk, S.zin, S.keepBase⟩
theorem Bs.ext (b : Bs G Z s) (x : Ext Z s Z' s') : Bs G Z' s' := ⟨x.gens.trans b.gens, x.os.trans b.os, Nat.lt_of_lt_of_le b.tk x.tk, x.zin, fun a o h => x.keep a o (b.bas a o h)⟩
theorem Bs.X (b : Bs G Z s) : G.K.In s.heap := fun a o h => b.bas a o (G.X a o h)
theorem Bs.T (b : Bs G Z s) : TopRead G.p G.loose G.mg G.mb s.heap := G.T.keeps b.bas
theorem Bs.nb (b : Bs G Z s) : NoneBooked s.heap := let ⟨mc, h, e⟩ := G.nb; ⟨mc, h.keeps b.bas, e⟩
theorem Bs.same (b : Bs G Z s) : Ext Z s Z s := Ext.same b.zin
theorem Bs.nolimit (b : Bs G Z s) : s.heap.NoLimit := b.T.nolimit

structure Op1 (G : Gnd) (f : Value → Sem Value) (d₁ d : D) : Prop where
  run : ∀ A Z s v₁, Room 0 A → Bs G Z s → Rep G Z v₁ d₁ → Yields G A (f v₁) Z d s
structure Op2 (G : Gnd) (f : Value → Value → Sem Value) (d₁ d₂ d : D) : Prop where
  run : ∀ A Z s v₁ v₂, Room 0 A → Bs G Z s → Rep G Z v₁ d₁ → Rep G Z v₂ d₂ → Yields G A (f v₁ v₂) Z d s
/-- what truth a value has -/
structure Tr (G : Gnd) (d : D) (b : Bool) : Prop where
  run : ∀ A Z s v, Room 0 A → Bs G Z s → Rep G Z v d → wpAny (model G.prog G.w) A (truthy v) (fun b' s' => b' = b ∧ Ext Z s Z s') (fun _ _ => False) s
/-- a built-in function, or a method with its object ahead -/
structure BF (G : Gnd) (id : String) (ds : List D) (d : D) : Prop where
  run : ∀ A Z s vs, Room 0 A → Bs G Z s → RepAll G Z vs ds → Yields G A (call (.builtin id) vs) Z d s
/-- a def of the text's -/
structure Fn (G : Gnd) (n : Nat) (f : Addr) (ds : List D) (d : D) : Prop where
  run : ∀ A Z s vs, Room n A → Bs G Z s → RepAll G Z vs ds → Yields G A (call (.ref f) vs) Z d s
structure GetM (G : Gnd) (name : Str) (d : D) (id : String) : Prop where
  run : ∀ M A pl Z s v Q E, (∀ a o, Z a = some o → s.heap.get? a = some o) → Rep G Z v d → Q (Value.builtin id, [v]) s → wpAny M A (getMethod v name pl) Q E s

theorem ev_int {i : Int} {k : Nat} : Ev G env n ρ (.Constant (.int i) k pos) (.int i) := Ev.mk fun _ Z _ _ _ S => wpAny_Constant_int ⟨Z, Ext.tok S.zin (Nat.le_succ _), .int _ _⟩
theorem ev_str {x : Str} {k : Nat} : Ev G env n ρ (.Constant (.str x) k pos) (.str x) := Ev.mk fun _ Z _ _ _ S => Calls.Constant_str ⟨Z, Ext.tok S.zin (Nat.le_succ _), .str _ _⟩
theorem ev_bool {b : Bool} {k : Nat} : Ev G env n ρ (.Constant (.bool b) k pos) (.bool b) := Ev.mk fun _ Z _ _ _ S => wpAny_pure ⟨Z, S.same, .bool _⟩
theorem ev_none {k : Nat} : Ev G env n ρ (.Constant .none k pos) .none := Ev.mk fun _ Z _ _ _ S => wpAny_pure ⟨Z, S.same, .none⟩

theorem ev_glob {x : Str} {a : Addr} (e : nsIn G.K mainGlobals x = some (some (.ref a))) (hx : env.kindOf x = some .globalImplicit) (hd : (x == ("__debug__" : Str)) = false) : Ev G env n ρ (.Name x pos) (.fn a) :=
  Ev.mk fun _ Z _ _ _ S => Calls.Name_function_global S.fk hx (Calls.loadGlobal_global (by rw [S.gl]; exact S.T.g) (mg_of G.X G.T.g e) ⟨Z, S.same, .fn _⟩) hd

theorem wp_builtinName {x : Str} {v : Value} {M : Model} {Q : Value → Shared → Prop} (S : St G env Z H ρ s) (e : nsIn G.K mainGlobals x = some none) (hv : bootBuiltins x = some v) (hn : x ≠ "__name__") (hx : env.kindOf x = some .globalImplicit)
    (hd : (x == ("__debug__" : Str)) = false) (h : Q v s) : wpAny M A (eval (.Name x pos) env) Q E s :=
  Calls.Name_function_global S.fk hx (Calls.loadGlobal_builtin (by rw [S.gl]; exact S.T.g) (mg_none_of G.X G.T.g e) (by rw [S.bl]; exact S.T.b) ((G.T.builtins x hn).trans hv) h) hd

theorem ev_binop {l r : PySem.Expr} {op : Operator} {d₁ d₂ d : D} (h₁ : Ev G env n ρ l d₁) (h₂ : Ev G env n ρ r d₂) (h₃ : Op2 G (binaryOp op) d₁ d₂ d) : Ev G env n ρ (.BinOp l op r pos) d :=
  Ev.mk fun A Z H s R S => wpAny_BinOp (wp_seq (h₁.run A Z H s R S) fun v₁ s₁ ⟨Z₁, x₁, r₁⟩ => wp_seq (h₂.run A Z₁ H s₁ R (S.ext x₁)) fun v₂ s₂ ⟨Z₂, x₂, r₂⟩ =>
    wp_seq (h₃.run A Z₂ s₂ v₁ v₂ (R.less (Nat.zero_le _)) ((S.ext x₁).ext x₂).bs (r₁.mono x₂.le) r₂) fun _ _ ⟨Z₃, x₃, r₃⟩ => ⟨Z₃, x₁.trans (x₂.trans x₃), r₃⟩)

theorem ev_cmp {l r : PySem.Expr} {op : CmpOp} {d₁ d₂ d : D} (h₁ : Ev G env n ρ l d₁) (h₂ : Ev G env n ρ r d₂) (h₃ : Op2 G (compareOp op) d₁ d₂ d) (hm : behindInMarks op r = false) : Ev G env n ρ (.Compare l [op] [r] pos) d :=
  Ev.mk fun A Z H s R S => wpAny_Compare1 (wp_seq (h₁.run A Z H s R S) fun v₁ s₁ ⟨Z₁, x₁, r₁⟩ => wp_seq (h₂.run A Z₁ H s₁ R (S.ext x₁)) fun v₂ s₂ ⟨Z₂, x₂, r₂⟩ =>
    wp_seq (h₃.run A Z₂ s₂ v₁ v₂ (R.less (Nat.zero_le _)) ((S.ext x₁).ext x₂).bs (r₁.mono x₂.le) r₂) fun _ _ ⟨Z₃, x₃, r₃⟩ => ⟨Z₃, x₁.trans (x₂.trans x₃), r₃⟩) hm

theorem tst_cmp {l r : PySem.Expr} {op : CmpOp} {d₁ d₂ : D} {b : Bool} (h₁ : Ev G env n ρ l d₁) (h₂ : Ev G env n ρ r d₂) (h₃ : Op2 G (compareOp op) d₁ d₂ (.bool b)) (hm : behindInMarks op r = false) : Tst G env n ρ (.Compare l [op] [r] pos) b :=
  Tst.mk fun A Z H s R S => wpAny_isTrue_Compare1 (wp_seq (h₁.run A Z H s R S) fun v₁ s₁ ⟨Z₁, x₁, r₁⟩ => wp_seq (h₂.run A Z₁ H s₁ R (S.ext x₁)) fun v₂ s₂ ⟨Z₂, x₂, r₂⟩ =>
    wp_seq (h₃.run A Z₂ s₂ v₁ v₂ (R.less (Nat.zero_le _)) ((S.ext x₁).ext x₂).bs (r₁.mono x₂.le) r₂) fun _ _ ⟨Z₃, x₃, r₃⟩ => by cases r₃; exact wpAny_truthy_bool ⟨rfl, (x₁.trans (x₂.trans x₃)).back S.zin⟩) hm

theorem tst_not {x : PySem.Expr} {b : Bool} (h : Tst G env n ρ x b) : Tst G env n ρ (.UnaryOp .Not x pos) (!b) :=
  Tst.mk fun A Z H s R S => isTrue_not (wp_seq (h.run A Z H s R S) fun _ _ ⟨e, x⟩ => ⟨by rw [e], x⟩)
theorem tst_and_nil : Tst G env n ρ (.BoolOp .And [] pos) true := Tst.mk fun _ _ _ _ _ S => isTrue_and_nil ⟨rfl, S.same⟩
theorem tst_or_nil : Tst G env n ρ (.BoolOp .Or [] pos) false := Tst.mk fun _ _ _ _ _ S => isTrue_or_nil ⟨rfl, S.same⟩
theorem tst_or {x : PySem.Expr} {rest : List PySem.Expr} {c b : Bool} (h : Tst G env n ρ x c) (h' : c = false → Tst G env n ρ (.BoolOp .Or rest pos) b) : Tst G env n ρ (.BoolOp .Or (x :: rest) pos) (c || b) :=
  Tst.mk fun A Z H s R S => isTrue_or (wp_seq (h.run A Z H s R S) fun c' s' ⟨e, x⟩ => by
    subst e
    cases c' with
    | true => exact ⟨rfl, x⟩
    | false => exact wp_seq ((h' rfl).run A Z H s' R (S.ext x)) fun _ _ ⟨e, y⟩ => ⟨e, x.trans y⟩)
/-- a test by a value's truth -/
theorem tst_plain {e : PySem.Expr} {d : D} {b : Bool} (h : Ev G env n ρ e d) (t : Tr G d b) (he : ∀ whole, isTrue e env whole = (do let v ← whole; standAt e.pos; holding [v] (truthy v))) : Tst G env n ρ e b :=
  Tst.mk fun A Z H s R S => isTrue_plain (wp_seq (h.run A Z H s R S) fun v s₁ ⟨Z₁, x₁, r₁⟩ => wp_seq (t.run A Z₁ s₁ v (R.less (Nat.zero_le _)) (S.ext x₁).bs r₁) fun _ _ ⟨e, y⟩ => ⟨e, (x₁.trans y).back S.zin⟩) (he _)
theorem ev_ifexp {t b o : PySem.Expr} {c : Bool} {d₁ d₂ : D} (h : Tst G env n ρ t c) (h₁ : c = true → Ev G env n ρ b d₁) (h₂ : c = false → Ev G env n ρ o d₂) : Ev G env n ρ (.IfExp t b o pos) (if c then d₁ else d₂) :=
  Ev.mk fun A Z H s R S => IfExp_ (wp_seq (h.run A Z H s R S) fun c' s' ⟨e, x⟩ => by
    subst e
    cases c' with
    | true => exact wp_seq ((h₁ rfl).run A Z H s' R (S.ext x)) fun _ _ ⟨Z₁, y, r⟩ => ⟨Z₁, x.trans y, r⟩
    | false => exact wp_seq ((h₂ rfl).run A Z H s' R (S.ext x)) fun _ _ ⟨Z₁, y, r⟩ => ⟨Z₁, x.trans y, r⟩)

/-- several expressions in a row -/
structure Evs (G : Gnd) (env : Env) (n : Nat) (ρ : Loc) (es : List PySem.Expr) (ds : List D) : Prop where
  run : ∀ A Z H s pos, Room n A → St G env Z H ρ s → wpAny (model G.prog G.w) A (spliced (backTo pos (starEach es env))) (fun vs s' => ∃ Z', Ext Z s Z' s' ∧ RepAll G Z' vs ds) (fun _ _ => False) s
theorem evs_nil : Evs G env n ρ [] [] := Evs.mk fun _ Z _ _ _ _ S => spliced_none ⟨Z, S.same, .nil⟩
theorem evs_cons {e : PySem.Expr} {es : List PySem.Expr} {d : D} {ds : List D} (h : Ev G env n ρ e d) (h' : Evs G env n ρ es ds) (he : starEach (e :: es) env = (false, eval e env) :: starEach es env) : Evs G env n ρ (e :: es) (d :: ds) :=
  Evs.mk fun A Z H s pos R S => spliced_more (wp_seq (h.run A Z H s R S) fun v s₁ ⟨Z₁, x₁, r₁⟩ => wp_seq (h'.run A Z₁ H s₁ pos R (S.ext x₁)) fun vs s₂ ⟨Z₂, x₂, r₂⟩ => ⟨Z₂, x₁.trans x₂, .cons (r₁.mono x₂.le) r₂⟩) he

theorem wp_newTuple {vs : List Value} {ds : List D} (b : Bs G Z s) (r : RepAll G Z vs ds) (hsz : ds.length ≤ sizeLine) : Yields G A (newTuple vs) Z (.tup ds) s :=
  wpAny_newObj_type ⟨_, Ext.alloc b.zin rfl (Nat.le_refl _), .tup Zadd.self (r.mono (Ext.alloc (s := s) (t := s.toks) b.zin rfl (Nat.le_refl _)).le)⟩ (by show vs.toArray.size ≤ sizeLine; rw [List.size_toArray, r.length]; exact hsz)
theorem wp_newList {vs : List Value} {ds : List D} (b : Bs G Z s) (r : RepAll G Z vs ds) (hsz : ds.length ≤ sizeLine) : Yields G A (newList vs) Z (.list ds) s :=
  wpAny_newObj_type ⟨_, Ext.alloc b.zin rfl (Nat.le_refl _), .list Zadd.self (r.mono (Ext.alloc (s := s) (t := s.toks) b.zin rfl (Nat.le_refl _)).le)⟩ (by show vs.toArray.size ≤ sizeLine; rw [List.size_toArray, r.length]; exact hsz)

theorem ev_tuple {es : List PySem.Expr} {ds : List D} {k : Nat} (h : Evs G env n ρ es ds) (hsz : ds.length ≤ sizeLine) : Ev G env n ρ (.Tuple es k pos) (.tup ds) :=
  Ev.mk fun A Z H s R S => Tuple_ (wp_seq (h.run A Z H s pos R S) fun vs s₁ ⟨Z₁, x₁, r₁⟩ => wp_seq (wp_newTuple (S.ext x₁).bs r₁ hsz) fun _ _ ⟨Z₂, x₂, r₂⟩ => ⟨Z₂, x₁.trans x₂, r₂⟩)
theorem ev_list {es : List PySem.Expr} {ds : List D} (h : Evs G env n ρ es ds) (hsz : ds.length ≤ sizeLine) : Ev G env n ρ (.List es pos) (.list ds) :=
  Ev.mk fun A Z H s R S => List_ (wp_seq (h.run A Z H s pos R S) fun vs s₁ ⟨Z₁, x₁, r₁⟩ => wp_seq (wp_newList (S.ext x₁).bs r₁ hsz) fun _ _ ⟨Z₂, x₂, r₂⟩ => ⟨Z₂, x₁.trans x₂, r₂⟩)

theorem starred_none {es : List PySem.Expr} (h : (starEach es env).any (·.1) = false) (pos : Pos) : (backTo pos (starEach es env)).any (·.1) = false := by
  unfold backTo
  rw [List.any_map]
  exact h

theorem wp_evalArgs {M : Model} {f : Value} {args : List (Bool × Sem Value)} {Q : Args → Shared → Prop} (hp : args.any (·.1) = false)
    (h : wpAny M A (spliced args) (fun vs s₁ => Q ⟨vs, []⟩ s₁) E s) : wpAny M A (evalArgs f true args []) Q E s := by
  match args, hp, h with
  | [], _, h =>
    unfold evalArgs
    show wpAny M A (spliced [] >>= _) Q E s
    refine wpAny_bind (wpAny_mono h (fun vs s' h' => ?_) fun _ _ x => x)
    refine wpAny_bind (wpAny_pure (wpAny_holding ?_))
    exact wpAny_bind (wpAny_pure (wpAny_bind (wpAny_pure (wpAny_pure h'))))
  | (false, t) :: r, _, h => exact Calls.evalArgs_plain h
  | (true, t) :: r, hp, _ => simp at hp

/-- a call of one of the text's defs, by whatever expression it is reached -/
theorem ev_callFn {f : PySem.Expr} {es : List PySem.Expr} {a : Addr} {ds : List D} {d : D} (hf : Ev G env n ρ f (.fn a)) (h : Evs G env n ρ es ds) (hk : keepIn G.K (.ref a) = true) (hc : Fn G n a ds d)
    (hp : (starEach es env).any (·.1) = false)
    (he : eval (.Call f es [] pos) env = (do callWith pos (← eval f env) [] (backTo pos (starEach es env)) [])) : Ev G env n ρ (.Call f es [] pos) d := by
  constructor
  intro A Z H s R S
  unfold Yields
  rw [he]
  refine wpAny_bind (wp_seq (hf.run A Z H s R S) fun v s₁ ⟨Z₁, x₁, r₁⟩ => ?_)
  cases r₁
  have S₁ := S.ext x₁
  refine callWith_of (P := fun h => G.K.In h) (by rw [starred_none hp]; rfl) (keeps_K hk) (wp_evalArgs (starred_none hp pos) (wp_seq (h.run A Z₁ H s₁ pos R S₁) fun vs s₂ ⟨Z₂, x₂, r₂⟩ => ⟨(S₁.ext x₂).X, ?_⟩))
  exact wp_seq (hc.run A Z₂ s₂ vs R (S₁.ext x₂).bs r₂) fun _ _ ⟨Z₃, x₃, r₃⟩ => ⟨Z₃, x₁.trans (x₂.trans x₃), r₃⟩

/-- a call of a built-in function by its name -/
theorem ev_callBF {x : Str} {p : Pos} {id : String} {es : List PySem.Expr} {ds : List D} {d : D} (h : Evs G env n ρ es ds) (hc : BF G id ds d)
    (e : nsIn G.K mainGlobals x = some none) (hv : bootBuiltins x = some (.builtin id)) (hn : x ≠ "__name__") (hx : env.kindOf x = some .globalImplicit) (hd : (x == ("__debug__" : Str)) = false)
    (hp : (starEach es env).any (·.1) = false)
    (he : eval (.Call (.Name x p) es [] pos) env = (do callWith pos (← eval (.Name x p) env) [] (backTo pos (starEach es env)) [])) : Ev G env n ρ (.Call (.Name x p) es [] pos) d := by
  constructor
  intro A Z H s R S
  unfold Yields
  rw [he]
  refine wpAny_bind (wp_builtinName S e hv hn hx hd ?_)
  refine Calls.callWith_builtin (starred_none hp pos) (wp_evalArgs (starred_none hp pos) (wp_seq (h.run A Z H s pos R S) fun vs s₂ ⟨Z₂, x₂, r₂⟩ => ?_))
  exact wp_seq (hc.run A Z₂ s₂ vs (R.less (Nat.zero_le _)) (S.ext x₂).bs r₂) fun _ _ ⟨Z₃, x₃, r₃⟩ => ⟨Z₃, x₂.trans x₃, r₃⟩

/-- a call of a method of a built-in class -/
theorem ev_method {o : PySem.Expr} {name : Str} {id : String} {es : List PySem.Expr} {d₀ : D} {ds : List D} {d : D} {pl : Sem Bool} (ho : Ev G env n ρ o d₀) (g : GetM G name d₀ id) (h : Evs G env n ρ es ds) (hc : BF G id (d₀ :: ds) d)
    (hp : (starEach es env).any (·.1) = false)
    (he : eval (.Call (.Attribute o name apos) es [] pos) env = (do
      let ov ← eval o env
      standAt apos.atName
      let (f, first) ← holding [ov] (getMethod ov name pl)
      callWith pos f first (backTo pos (starEach es env)) [])) : Ev G env n ρ (.Call (.Attribute o name apos) es [] pos) d := by
  constructor
  intro A Z H s R S
  refine MethodCall_ (wp_seq (ho.run A Z H s R S) fun v s₁ ⟨Z₁, x₁, r₁⟩ => ?_) he
  have S₁ := S.ext x₁
  refine g.run _ A pl Z₁ s₁ v _ _ S₁.zin r₁ ?_
  refine Calls.callWith_builtin (starred_none hp pos) (wp_evalArgs (starred_none hp pos) (wp_seq (h.run A Z₁ H s₁ pos R S₁) fun vs s₂ ⟨Z₂, x₂, r₂⟩ => ?_))
  exact wp_seq (hc.run A Z₂ s₂ (v :: vs) (R.less (Nat.zero_le _)) (S₁.ext x₂).bs (.cons (r₁.mono x₂.le) r₂)) fun _ _ ⟨Z₃, x₃, r₃⟩ => ⟨Z₃, x₁.trans (x₂.trans x₃), r₃⟩

/-- an item -/
def Sb (G : Gnd) (value slice : PySem.Expr) (d₁ d₂ d : D) : Prop := Op2 G (subscriptTail value slice) d₁ d₂ d
theorem ev_sub {value slice : PySem.Expr} {d₁ d₂ d : D} (h₁ : Ev G env n ρ value d₁) (h₂ : Ev G env n ρ slice d₂) (h₃ : Sb G value slice d₁ d₂ d) : Ev G env n ρ (.Subscript value slice pos) d :=
  Ev.mk fun A Z H s R S => Subscript_ (wp_seq (h₁.run A Z H s R S) fun v₁ s₁ ⟨Z₁, x₁, r₁⟩ => wp_seq (h₂.run A Z₁ H s₁ R (S.ext x₁)) fun v₂ s₂ ⟨Z₂, x₂, r₂⟩ =>
    wp_seq (h₃.run A Z₂ s₂ v₁ v₂ (R.less (Nat.zero_le _)) ((S.ext x₁).ext x₂).bs (r₁.mono x₂.le) r₂) fun _ _ ⟨Z₃, x₃, r₃⟩ => ⟨Z₃, x₁.trans (x₂.trans x₃), r₃⟩)

theorem ev_neg {e : PySem.Expr} {d₁ d : D} {op : UnaryOp} (h : Ev G env n ρ e d₁) (h' : Op1 G (unaryOp op) d₁ d) : Ev G env n ρ (.UnaryOp op e pos) d := by
  constructor
  intro A Z H s R S
  show wpAny _ _ (do let v ← eval e env; standAt pos; holding [v] (unaryOp op v)) _ _ _
  exact wpAny_bind (wp_seq (h.run A Z H s R S) fun v s₁ ⟨Z₁, x₁, r₁⟩ => wpAny_bind (wpAny_standAt (wpAny_holding (wp_seq (h'.run A Z₁ s₁ v (R.less (Nat.zero_le _)) (S.ext x₁).bs r₁) fun _ _ ⟨Z₂, x₂, r₂⟩ => ⟨Z₂, x₁.trans x₂, r₂⟩))))

end
end Mine
end
section
open PySem PySem.W PyProof.Rows
set_option linter.unusedVariables false
namespace Mine

section
variable {G : Gnd} {env : Env} {Z Z' H : Zf} {ρ ρ' : Loc} {s s' : Shared} {A : Around} {E : Value → Shared → Prop} {n : Nat} {pos apos : Pos}

/-- how a block ends -/
inductive Fl where
  | next | brk | cont
  | ret (d : D)

inductive FlRep (G : Gnd) (Z : Zf) : Flow → Fl → Prop
  | next : FlRep G Z .next .next
  | brk : FlRep G Z .brk .brk
  | cont : FlRep G Z .cont .cont
  | ret {v : Value} {d : D} : Rep G Z v d → FlRep G Z (.ret v) (.ret d)
theorem FlRep.mono {f : Flow} {fl : Fl} (hz : Zle Z Z') (h : FlRep G Z f fl) : FlRep G Z' f fl := by
  cases h with
  | next => exact .next
  | brk => exact .brk
  | cont => exact .cont
  | ret r => exact .ret (r.mono hz)

def ExPost (G : Gnd) (env : Env) (Z H : Zf) (Φ : Fl → Loc → Prop) (f : Flow) (s' : Shared) : Prop := ∃ Z' ρ' fl, Zle Z Z' ∧ St G env Z' H ρ' s' ∧ FlRep G Z' f fl ∧ Φ fl ρ'
/-- a statement -/
structure Ex (G : Gnd) (env : Env) (n : Nat) (ρ : Loc) (st : Stmt) (Φ : Fl → Loc → Prop) : Prop where
  run : ∀ A Z H s, Room n A → St G env Z H ρ s → wpAny (model G.prog G.w) A (exec st env) (ExPost G env Z H Φ) (fun _ _ => False) s
/-- statements in a row -/
structure Exs (G : Gnd) (env : Env) (n : Nat) (ρ : Loc) (sts : List Stmt) (Φ : Fl → Loc → Prop) : Prop where
  run : ∀ A Z H s, Room n A → St G env Z H ρ s → wpAny (model G.prog G.w) A (execs sts env) (ExPost G env Z H Φ) (fun _ _ => False) s

def Then (Φ : Fl → Loc → Prop) (K : Loc → Prop) : Fl → Loc → Prop
  | .next, ρ => K ρ
  | fl, ρ => Φ fl ρ

theorem exs_nil {Φ : Fl → Loc → Prop} (h : Φ .next ρ) : Exs G env n ρ [] Φ := Exs.mk fun A Z H s _ S => wpAny_execs_nil ⟨Z, ρ, .next, Zle.same, S, .next, h⟩
theorem exs_cons {st : Stmt} {rest : List Stmt} {Φ : Fl → Loc → Prop} (h : Ex G env n ρ st (Then Φ fun ρ' => Exs G env n ρ' rest Φ)) : Exs G env n ρ (st :: rest) Φ := by
  constructor
  intro A Z H s R S
  refine wpAny_execs_cons (wp_seq (h.run A Z H s R S) fun f s' ⟨Z', ρ', fl, le, S', hf, hΦ⟩ => ?_)
  cases hf with
  | next => exact wp_seq (hΦ.run A Z' H s' R S') fun f s'' ⟨Z'', ρ'', fl, le', S'', hf, h⟩ => ⟨Z'', ρ'', fl, le.trans le', S'', hf, h⟩
  | brk => exact ⟨Z', ρ', _, le, S', .brk, hΦ⟩
  | cont => exact ⟨Z', ρ', _, le, S', .cont, hΦ⟩
  | ret r => exact ⟨Z', ρ', _, le, S', .ret r, hΦ⟩
theorem exs_mono {sts : List Stmt} {Φ Ψ : Fl → Loc → Prop} (h : Exs G env n ρ sts Φ) (hΦ : ∀ fl ρ', Φ fl ρ' → Ψ fl ρ') : Exs G env n ρ sts Ψ :=
  Exs.mk fun A Z H s R S => wp_seq (h.run A Z H s R S) fun _ _ ⟨Z', ρ', fl, le, S', hf, h⟩ => ⟨Z', ρ', fl, le, S', hf, hΦ _ _ h⟩
theorem ex_assign {x : Str} {p : Pos} {e : PySem.Expr} {d : D} {Φ : Fl → Loc → Prop} (h : Ev G env n ρ e d) (hc : Can env x) (hs : swapsWith e (some (.Name x p)) pos.line env = pure false) (k : Φ .next (upd ρ x (.val d))) :
    Ex G env n ρ (.Assign [.Name x p] e pos) Φ :=
  Ex.mk fun A Z H s R S => wpAny_Assign_Name (wp_seq (h.run A Z H s R S) fun v s₁ ⟨Z₁, x₁, r₁⟩ => wp_seq (st_store (S.ext x₁) r₁ hc) fun _ s₂ S₂ => ⟨Z₁, _, _, x₁.le, S₂, .next, k⟩) hs

theorem ex_return {e : PySem.Expr} {d : D} {Φ : Fl → Loc → Prop} (h : Ev G env n ρ e d) (k : Φ (.ret d) ρ) : Ex G env n ρ (.Return (some e) pos) Φ :=
  Ex.mk fun A Z H s R S => wpAny_Return_some (wp_seq (h.run A Z H s R S) fun v s₁ ⟨Z₁, x₁, r₁⟩ => ⟨Z₁, _, _, x₁.le, S.ext x₁, .ret r₁, k⟩)
theorem ex_if {t : PySem.Expr} {body orelse : List Stmt} {c : Bool} {Φ : Fl → Loc → Prop} (h : Tst G env n ρ t c) (h₁ : c = true → Exs G env n ρ body Φ) (h₂ : c = false → Exs G env n ρ orelse Φ) : Ex G env n ρ (.If t body orelse pos) Φ :=
  Ex.mk fun A Z H s R S => wpAny_If (wp_seq (h.run A Z H s R S) fun c' s' ⟨e, x⟩ => by
    subst e
    cases c' with
    | true => exact (h₁ rfl).run A Z H s' R (S.ext x)
    | false => exact (h₂ rfl).run A Z H s' R (S.ext x))

/-- x op= e -/
theorem ex_aug {x : Str} {p : Pos} {op : Operator} {e : PySem.Expr} {d₀ d₁ d : D} {Φ : Fl → Loc → Prop} (h₀ : ρ.lookup x = some (.val d₀)) (h : Ev G env n ρ e d₁) (ho : Op2 G (inplaceOp op) d₀ d₁ d) (hc : Can env x) (k : Φ .next (upd ρ x (.val d))) :
    Ex G env n ρ (.AugAssign (.Name x p) op e pos) Φ := by
  constructor
  intro A Z H s R S
  refine wpAny_AugAssign_Name ?_
  obtain ⟨v, hv, r⟩ := S.vars x d₀ h₀
  have go : wpAny (model G.prog G.w) A (eval e env) (fun v₁ s₂ => wpAny (model G.prog G.w) A (inplaceOp op v v₁) (fun r s₃ => wpAny (model G.prog G.w) A (storeName env x r) (fun _ => ExPost G env Z H Φ .next) (fun _ _ => False) s₃) (fun _ _ => False) s₂) (fun _ _ => False) s :=
    wp_seq (h.run A Z H s R S) fun v₁ s₂ ⟨Z₁, x₁, r₁⟩ => wp_seq (ho.run A Z₁ s₂ v v₁ (R.less (Nat.zero_le _)) (S.ext x₁).bs (r.mono x₁.le) r₁) fun v₂ s₃ ⟨Z₂, x₂, r₂⟩ =>
      wp_seq (st_store ((S.ext x₁).ext x₂) r₂ hc) fun _ s₄ S₄ => ⟨Z₂, _, _, x₁.le.trans x₂.le, S₄, .next, k⟩
  rcases hv with ⟨k, m, n, e⟩ | ⟨k, c, e, n⟩
  · exact wpAny_loadName_local S.fk k n e go
  · rcases k with k | k
    · exact wpAny_loadName_cell S.fk k e n go
    · exact wpAny_loadName_free S.fk k.1 e n go k.2

/-- an object more is held -/
theorem St.hold {I : Addr} {o : Obj} (S : St G env Z H ρ s) (x : Ext Z s Z s') (hI : s.heap.get? I = none) (ho : s'.heap.get? I = some o) :
    St G env Z (Zadd H I o) ρ s' ∧ G.base.get? I = none ∧ H I = none ∧ Z I = none ∧ ∀ y c, env.cells.lookup y = some c → c ≠ I := by
  have S' := S.ext x
  have old : ∀ a ob, s.heap.get? a = some ob → a ≠ I := fun a ob h q => by rw [q, hI] at h; cases h
  have hH : H I = none := by
    cases q : H I with
    | none => rfl
    | some ob => exact absurd rfl (old I ob (S.hin I ob q))
  have hZ : Z I = none := by
    cases q : Z I with
    | none => rfl
    | some ob => exact absurd rfl (old I ob (S.zin I ob q))
  have hB : G.base.get? I = none := by
    cases q : G.base.get? I with
    | none => rfl
    | some ob => exact absurd rfl (old I ob (S.keepBase I ob q))
  have hC : ∀ y c, env.cells.lookup y = some c → c ≠ I := fun y c e => by
    obtain ⟨_, h1, h2⟩ := S.cells y c e
    cases hf : env.func.isSome with
    | true => obtain ⟨_, _, v, ob, hob, _⟩ := h1 hf; exact old c ob hob
    | false => obtain ⟨ob, hob⟩ := h2 hf; exact old c ob (S.hin c ob hob)
  have le := Zadd.le (o := o) hH
  have ne : ∀ b, b ≠ I → Zadd H I o b = H b := fun b hb => if_neg hb
  obtain ⟨oL, _, _, hoL, _⟩ := S.ns.choose_spec
  refine ⟨⟨S'.fk, S'.gl, S'.bl, S'.gens, S'.os, S'.tk, S'.zin, fun a ob h => ?_, fun a ob h => ?_, fun a ob h => (S'.bas a ob h).elim .inl (fun h => .inr (le _ _ h)), S'.ns, S'.lz, ?_, fun y c e => ?_, S'.inj, S'.vars, ?_⟩, hB, hH, hZ, hC⟩
  · by_cases q : a = I
    · subst q; rw [Zadd.self] at h; cases h; exact ho
    · rw [ne a q] at h; exact S'.hin a ob h
  · rw [ne a fun q => by rw [q, hZ] at h; cases h]; exact S'.dj a ob h
  · rw [ne _ (old _ _ hoL)]; exact S'.lh
  · obtain ⟨h0, h1, h2⟩ := S'.cells y c e
    refine ⟨h0, fun hf => ?_, fun hf => ?_⟩
    · obtain ⟨a, b, c'⟩ := h1 hf
      exact ⟨a, by rw [ne _ (hC y c e)]; exact b, c'⟩
    · obtain ⟨ob, h⟩ := h2 hf
      exact ⟨ob, le _ _ h⟩
  · obtain ⟨oa, hi, h⟩ := S.owns
    obtain ⟨oa', hi', h'⟩ := S'.owns
    refine ⟨oa, hi, fun y ds e => ?_⟩
    obtain ⟨g1, g2, g3, g4, g5, vs, k, g6, g7⟩ := h y ds e
    exact ⟨g1.keeps x.keep, g2, by rw [ne _ (old _ _ g6)]; exact g3, g4, g5, vs, k, x.keep _ _ g6, g7⟩

/-- a held object is changed -/
theorem St.turn {I : Addr} {o o' : Obj} {h' : Heap} {t : Nat} (S : St G env Z (Zadd H I o) ρ s) (hB : G.base.get? I = none) (hC : ∀ y c, env.cells.lookup y = some c → c ≠ I)
    (hk : ∀ b ob, b ≠ I → s.heap.get? b = some ob → h'.get? b = some ob) (ho : h'.get? I = some o') (ht : s.toks ≤ t) : St G env Z (Zadd H I o') ρ { s with heap := h', toks := t } := by
  have self : Zadd H I o I = some o := Zadd.self
  have ne : ∀ b, b ≠ I → Zadd H I o' b = Zadd H I o b := fun b hb => by unfold Zadd; rw [if_neg hb, if_neg hb]
  have zI : ∀ a ob, Z a = some ob → a ≠ I := fun a ob h q => by have := S.dj a ob h; rw [q, self] at this; cases this
  have nI : ∀ a, Zadd H I o a = none → a ≠ I := fun a h q => by rw [q, self] at h; cases h
  have lI := nI _ S.lh
  have has : ∀ y v, Has env s.heap y v → Has env h' y v := fun y v q => by
    rcases q with ⟨k, m, ⟨ob, es, ep, e1, e2⟩, e⟩ | ⟨k, c, e, ob, e1, e2⟩
    · exact .inl ⟨k, m, ⟨ob, es, ep, hk _ _ lI e1, e2⟩, e⟩
    · exact .inr ⟨k, c, e, ob, hk _ _ (hC y c e) e1, e2⟩
  refine ⟨S.fk, S.gl, S.bl, S.gens, S.os, Nat.lt_of_lt_of_le S.tk ht, fun a ob h => hk _ _ (zI a ob h) (S.zin a ob h), fun a ob h => ?_, fun a ob h => ?_, fun a ob h => ?_, ?_, S.lz, ?_, fun y c e => ?_, S.inj, fun y d e => ?_, ?_⟩
  · by_cases q : a = I
    · subst q; rw [Zadd.self] at h; cases h; exact ho
    · rw [ne a q] at h; exact hk _ _ q (S.hin a ob h)
  · rw [ne a (zI a ob h)]; exact S.dj a ob h
  · refine (S.bas a ob h).elim .inl fun q => .inr ?_
    rw [ne a fun z => by rw [z, hB] at h; cases h]; exact q
  · obtain ⟨m, ob, es, ep, e1, e2⟩ := S.ns; exact ⟨m, ob, es, ep, hk _ _ lI e1, e2⟩
  · rw [ne _ lI]; exact S.lh
  · obtain ⟨h0, h1, h2⟩ := S.cells y c e
    refine ⟨h0, fun hf => ?_, fun hf => ?_⟩
    · obtain ⟨a, b, v, ob, e1, e2⟩ := h1 hf
      exact ⟨a, by rw [ne _ (hC y c e)]; exact b, v, ob, hk _ _ (hC y c e) e1, e2⟩
    · obtain ⟨ob, h⟩ := h2 hf
      exact ⟨ob, by rw [ne _ (hC y c e)]; exact h⟩
  · obtain ⟨v, h, r⟩ := S.vars y d e; exact ⟨v, has y v h, r⟩
  · obtain ⟨oa, hi, h⟩ := S.owns
    refine ⟨oa, hi, fun y ds e => ?_⟩
    obtain ⟨g1, g2, g3, g4, g5, vs, k, g6, g7⟩ := h y ds e
    exact ⟨has _ _ g1, g2, by rw [ne _ (nI _ g3)]; exact g3, g4, g5, vs, k, hk _ _ (nI _ g3) g6, g7⟩

/-- it is held no more -/
theorem St.unhold {I : Addr} {o : Obj} (S : St G env Z (Zadd H I o) ρ s) (hB : G.base.get? I = none) (hC : ∀ y c, env.cells.lookup y = some c → c ≠ I) (hH : H I = none) : St G env Z H ρ s := by
  have self : Zadd H I o I = some o := Zadd.self
  have le := Zadd.le (o := o) hH
  have ne : ∀ b, b ≠ I → Zadd H I o b = H b := fun b hb => if_neg hb
  have none_of : ∀ a, Zadd H I o a = none → H a = none := fun a h => by
    cases q : H a with
    | none => rfl
    | some ob => rw [le _ _ q] at h; cases h
  refine ⟨S.fk, S.gl, S.bl, S.gens, S.os, S.tk, S.zin, fun a ob h => S.hin a ob (le _ _ h), fun a ob h => none_of a (S.dj a ob h), fun a ob h => ?_, S.ns, S.lz, none_of _ S.lh, fun y c e => ?_, S.inj, S.vars, ?_⟩
  · refine (S.bas a ob h).elim .inl fun q => .inr ?_
    rwa [ne a fun z => by rw [z, hB] at h; cases h] at q
  · obtain ⟨h0, h1, h2⟩ := S.cells y c e
    refine ⟨h0, fun hf => ?_, fun hf => ?_⟩
    · obtain ⟨a, b, v⟩ := h1 hf
      exact ⟨a, none_of _ b, v⟩
    · obtain ⟨ob, h⟩ := h2 hf
      rw [ne _ (hC y c e)] at h
      exact ⟨ob, h⟩
  · obtain ⟨oa, hi, h⟩ := S.owns
    refine ⟨oa, hi, fun y ds e => ?_⟩
    obtain ⟨g1, g2, g3, g4⟩ := h y ds e
    exact ⟨g1, g2, none_of _ g3, g4⟩

/-- a held object is let go, whatever becomes of it -/
theorem St.drop {I : Addr} {o : Obj} {h' : Heap} {t : Nat} (S : St G env Z (Zadd H I o) ρ s) (hB : G.base.get? I = none) (hC : ∀ y c, env.cells.lookup y = some c → c ≠ I) (hH : H I = none)
    (hk : ∀ b ob, b ≠ I → s.heap.get? b = some ob → h'.get? b = some ob) (ht : s.toks ≤ t) : St G env Z H ρ { s with heap := h', toks := t } := by
  have self : Zadd H I o I = some o := Zadd.self
  have le := Zadd.le (o := o) hH
  have ne : ∀ b, b ≠ I → Zadd H I o b = H b := fun b hb => if_neg hb
  have none_of : ∀ a, Zadd H I o a = none → H a = none := fun a h => by
    cases q : H a with
    | none => rfl
    | some ob => rw [le _ _ q] at h; cases h
  have zI : ∀ a ob, Z a = some ob → a ≠ I := fun a ob h q => by have := S.dj a ob h; rw [q, self] at this; cases this
  have nI : ∀ a, Zadd H I o a = none → a ≠ I := fun a h q => by rw [q, self] at h; cases h
  have hI : ∀ a ob, H a = some ob → a ≠ I := fun a ob h q => by rw [q, hH] at h; cases h
  have lI := nI _ S.lh
  have has : ∀ y v, Has env s.heap y v → Has env h' y v := fun y v q => by
    rcases q with ⟨k, m, ⟨ob, es, ep, e1, e2⟩, e⟩ | ⟨k, c, e, ob, e1, e2⟩
    · exact .inl ⟨k, m, ⟨ob, es, ep, hk _ _ lI e1, e2⟩, e⟩
    · exact .inr ⟨k, c, e, ob, hk _ _ (hC y c e) e1, e2⟩
  refine ⟨S.fk, S.gl, S.bl, S.gens, S.os, Nat.lt_of_lt_of_le S.tk ht, fun a ob h => hk _ _ (zI a ob h) (S.zin a ob h), fun a ob h => hk _ _ (hI a ob h) (S.hin a ob (le _ _ h)), fun a ob h => none_of a (S.dj a ob h), fun a ob h => ?_, ?_, S.lz, none_of _ S.lh, fun y c e => ?_, S.inj, fun y d e => ?_, ?_⟩
  · refine (S.bas a ob h).elim .inl fun q => .inr ?_
    rwa [ne a fun z => by rw [z, hB] at h; cases h] at q
  · obtain ⟨m, ob, es, ep, e1, e2⟩ := S.ns; exact ⟨m, ob, es, ep, hk _ _ lI e1, e2⟩
  · obtain ⟨h0, h1, h2⟩ := S.cells y c e
    refine ⟨h0, fun hf => ?_, fun hf => ?_⟩
    · obtain ⟨a, b, v, ob, e1, e2⟩ := h1 hf
      exact ⟨a, none_of _ b, v, ob, hk _ _ (hC y c e) e1, e2⟩
    · obtain ⟨ob, h⟩ := h2 hf
      rw [ne _ (hC y c e)] at h
      exact ⟨ob, h⟩
  · obtain ⟨v, h, r⟩ := S.vars y d e; exact ⟨v, has y v h, r⟩
  · obtain ⟨oa, hi, h⟩ := S.owns
    refine ⟨oa, hi, fun y ds e => ?_⟩
    obtain ⟨g1, g2, g3, g4, g5, vs, k, g6, g7⟩ := h y ds e
    exact ⟨has _ _ g1, g2, none_of _ g3, g4, g5, vs, k, hk _ _ (nI _ g3) g6, g7⟩

end
end Mine
end
section
open PySem PySem.W PyProof.Rows
set_option linter.unusedVariables false
namespace Mine

section
variable {G : Gnd} {env : Env} {Z Z' H : Zf} {ρ ρ' : Loc} {s s' : Shared} {A : Around} {E : Value → Shared → Prop} {n : Nat} {pos apos : Pos}

def ownsTuples (T : String) : Bool := ["enumerate", "zip", "dict_itemiterator", "dict_reverseitemiterator", "odict_iterator", "itertools.zip_longest", "itertools.pairwise"].contains T

/-- an iterator's turns, at times when the counter is behind G.t0 -/
structure WalksG (G : Gnd) (A : Around) (I : Addr) (fp wr : List Addr) (n : Nat) (P : Nat → Value → Prop) (St : Nat → Heap → Prop) : Prop where
  sub : ∀ b ∈ wr, b ∈ fp
  frame : ∀ i h h', St i h → (∀ b ∈ fp, ∀ o, h.get? b = some o → h'.get? b = some o) → St i h'
  item : ∀ i (s : Shared) (Q : Option Value → Shared → Prop) (E : Value → Shared → Prop), i < n → G.t0 < s.toks → St i s.heap →
    (∀ v h' tk, P i v → St (i + 1) h' → (∀ b o, b ∉ wr → s.heap.get? b = some o → h'.get? b = some o) → Q (some v) { s with heap := h', toks := tk }) → wpAny (model G.prog G.w) A (pyNext (.ref I)) Q E s
  done : ∀ (s : Shared) (Q : Option Value → Shared → Prop) (E : Value → Shared → Prop), St n s.heap →
    (∀ h' tk, (∀ b o, b ∉ wr → s.heap.get? b = some o → h'.get? b = some o) → Q none { s with heap := h', toks := tk }) → wpAny (model G.prog G.w) A (pyNext (.ref I)) Q E s
  self : ∀ i (s : Shared) (Q : Value → Shared → Prop) (E : Value → Shared → Prop), St i s.heap → Q (.ref I) s → wpAny (model G.prog G.w) A (pyIter (.ref I)) Q E s
theorem toWG {I : Addr} {fp wr : List Addr} {n : Nat} {P : Nat → Value → Prop} {St : Nat → Heap → Prop} (W : Walks G.prog G.w A I fp wr n P St) : WalksG G A I fp wr n P St :=
  ⟨W.sub, W.frame, fun i s Q E hi _ st h => W.item i s Q E hi st h, W.done, W.self⟩

/-- an iterator that is new, and the data that it will give -/
def ItrAt (G : Gnd) (Z : Zf) (ds : List D) (s s' : Shared) (it : Value) : Prop :=
  ∃ (I : Addr) (fp : List Addr) (P : Nat → Value → Prop) (W : Nat → Heap → Prop), it = .ref I ∧ Ext Z s Z s' ∧ s.heap.get? I = none ∧ (∀ A' : Around, A'.handled = none → WalksG G A' I fp [I] ds.length P W) ∧
    (∀ b ∈ fp, b = I ∨ ∃ o, Z b = some o) ∧ W 0 s'.heap ∧ (∀ i h, W i h → ∃ o T, h.get? I = some o ∧ o.cls = .type T ∧ ownsTuples T = false) ∧ (∀ i v, P i v → ∃ d, ds[i]? = some d ∧ Rep G Z v d)
structure Itr (G : Gnd) (d : D) (ds : List D) : Prop where
  run : ∀ A Z s v, Room 0 A → Bs G Z s → Rep G Z v d → wpAny (model G.prog G.w) A (pyIter v) (fun it s' => ItrAt G Z ds s s' it) (fun _ _ => False) s

/-- a target takes a datum -/
structure Asg (G : Gnd) (env : Env) (tgt : PySem.Expr) (d : D) (ρ ρ' : Loc) : Prop where
  run : ∀ A Z H s v, Room 0 A → St G env Z H ρ s → Rep G Z v d → wpAny (model G.prog G.w) A (assign tgt env v) (fun _ s' => ∃ Z', Zle Z Z' ∧ St G env Z' H ρ' s') (fun _ _ => False) s
theorem asg_name {x : Str} {p : Pos} {d : D} (hc : Can env x) : Asg G env (.Name x p) d ρ (upd ρ x (.val d)) :=
  Asg.mk fun A Z H s v R S r => wpAny_assign_Name (wp_seq (st_store S r hc) fun _ _ S' => ⟨Z, Zle.same, S'⟩)

theorem wp_letOwned {tgt : PySem.Expr} {I : Addr} {v : Value} {o : Obj} {T : String} {M : Model} {Q : Unit → Shared → Prop} (ho : s.heap.get? I = some o) (hc : o.cls = .type T) (hT : ownsTuples T = false) (h : Q () s) :
    wpAny M A (letOwnedTupleGo tgt (.ref I) v) Q E s := by
  have go : wpAny M A (match (Value.ref I, v) with
    | (.ref r, .ref a) => do
      let o ← load r
      match o.cls, o.data with
      | .type n, .fields vs =>
        if ["enumerate", "zip", "dict_itemiterator", "dict_reverseitemiterator", "odict_iterator", "itertools.zip_longest", "itertools.pairwise"].contains n && vs[0]? == some (rawInt a) then
          rule "for.unpacks-the-owned-tuple"
          updateField r 0 .none
      | _, _ => pure ()
    | _ => pure ()) Q E s := by
    cases v with
    | ref a =>
      refine wpAny_bind (wpAny_load ho ?_)
      rw [hc]
      cases o.data <;> first | exact wpAny_pure h | skip
      rename_i vs
      unfold ownsTuples at hT
      dsimp only
      rw [hT]
      exact wpAny_pure h
    | _ => exact wpAny_pure h
  unfold letOwnedTupleGo
  cases tgt <;> first | exact wpAny_pure h | exact go

def LoopPost (Φ : Fl → Loc → Prop) (K : Loc → Prop) : Fl → Loc → Prop
  | .next, ρ => K ρ
  | .cont, ρ => K ρ
  | .brk, ρ => Φ .next ρ
  | .ret d, ρ => Φ (.ret d) ρ

theorem ex_for {tgt iter : PySem.Expr} {body : List Stmt} {d : D} {ds : List D} {Φ : Fl → Loc → Prop} (P : Nat → Loc → Prop) (h : Ev G env n ρ iter d) (hi : Itr G d ds) (h0 : P 0 ρ)
    (turn : ∀ i d ρ', ds[i]? = some d → P i ρ' → ∃ ρ'', Asg G env tgt d ρ' ρ'' ∧ Exs G env n ρ'' body (LoopPost Φ (P (i + 1))))
    (done : ∀ ρ', P ds.length ρ' → Φ .next ρ') (hs : ∀ x, foldedSetIterable iter env x = pure x) : Ex G env n ρ (.For tgt iter body [] pos) Φ := by
  constructor
  intro A Z H s R S
  refine wpAny_For (wp_seq (h.run A Z H s R S) fun v s₁ ⟨Z₁, x₁, r₁⟩ => wp_seq (hi.run A Z₁ s₁ v (R.less (Nat.zero_le _)) (S.ext x₁).bs r₁) fun it s₂ ⟨I, fp, P', W, e, x₂, hI, hW, hfp, hW0, hcls, hP⟩ => ?_) hs
  subst e
  have W₀ := hW A R.handled
  obtain ⟨o₂, _, ho₂, _⟩ := hcls 0 _ hW0
  obtain ⟨S₂, hB, hH, hZ, hC⟩ := (S.ext x₁).hold x₂ hI ho₂
  refine codeAny_forLoop_any (fun m s => ∃ i Zc ρc o, m = ds.length - i ∧ i ≤ ds.length ∧ Zle Z₁ Zc ∧ St G env Zc (Zadd H I o) ρc s ∧ W i s.heap ∧ P i ρc) (fun m s hm => ?_) ds.length ⟨0, Z₁, ρ, o₂, rfl, Nat.zero_le _, Zle.same, S₂, hW0, h0⟩
  obtain ⟨i, Zc, ρc, o, rfl, hle, lec, Sc, hWi, hPi⟩ := hm
  by_cases hlt : i < ds.length
  · refine wpAny_with_toks (Nat.le_refl s.toks) (W₀.item i s _ _ hlt Sc.tk hWi fun v h' tk pv hW' hk tok => ?_)
    obtain ⟨d', hd', rv⟩ := hP i v pv
    obtain ⟨o', T, ho', hcT, hT⟩ := hcls _ _ hW'
    have St' := Sc.turn (t := tk) hB hC (fun b ob hb e => hk b ob (by simpa using hb) e) ho' tok
    refine wp_letOwned (s := { s with heap := h', toks := tk }) ho' hcT hT ?_
    obtain ⟨ρ'', ha, hb⟩ := turn i d' ρc hd' hPi
    refine wp_seq (ha.run A Zc _ _ v (R.less (Nat.zero_le _)) St' (rv.mono lec)) fun _ s₄ ⟨Z₄, le₄, S₄⟩ => ?_
    refine wp_seq (hb.run A Z₄ _ s₄ R S₄) fun f s₅ ⟨Z₅, ρ₅, fl, le₅, S₅, hf, hΦ⟩ => ?_
    have les : Zle Z Z₅ := x₁.le.trans (lec.trans (le₄.trans le₅))
    have nx : P (i + 1) ρ₅ → ∃ m, m < ds.length - i ∧ ∃ i Zc ρc o, m = ds.length - i ∧ i ≤ ds.length ∧ Zle Z₁ Zc ∧ St G env Zc (Zadd H I o) ρc s₅ ∧ W i s₅.heap ∧ P i ρc := fun hp => by
      refine ⟨ds.length - (i + 1), by omega, i + 1, Z₅, ρ₅, o', rfl, by omega, lec.trans (le₄.trans le₅), S₅, W₀.frame _ _ _ hW' fun b hb ob e => ?_, hp⟩
      rcases hfp b hb with rfl | ⟨oz, hz⟩
      · have e' : h'.get? b = some ob := e
        rw [ho'] at e'; cases e'
        exact S₅.hin _ _ Zadd.self
      · have e1 := St'.zin b oz (lec b oz hz)
        have e' : h'.get? b = some ob := e
        have e2 : h'.get? b = some oz := e1
        rw [e'] at e2; cases e2
        exact S₅.zin _ _ (le₅ _ _ (le₄ _ _ (lec _ _ hz)))
    cases hf with
    | next => exact nx hΦ
    | cont => exact nx hΦ
    | brk => exact ⟨Z₅, ρ₅, .next, les, S₅.unhold hB hC hH, .next, hΦ⟩
    | ret r => exact ⟨Z₅, ρ₅, .ret _, les, S₅.unhold hB hC hH, .ret r, hΦ⟩
  · have hlen : i = ds.length := by omega
    subst hlen
    refine wpAny_with_toks (Nat.le_refl s.toks) (W₀.done s _ _ hWi fun h' tk hk tok => ?_)
    refine wpAny_execs_nil ?_
    exact ⟨Zc, ρc, .next, x₁.le.trans lec, Sc.drop (t := tk) hB hC hH (fun b ob hb e => hk b ob (by simpa using hb) e) tok, .next, done _ hPi⟩

/-- a while, by a measure -/
theorem ex_while {t : PySem.Expr} {body : List Stmt} {Φ : Fl → Loc → Prop} (P : Nat → Loc → Prop) {m : Nat} (h0 : P m ρ)
    (turn : ∀ m ρ', P m ρ' → ∃ c, Tst G env n ρ' t c ∧ (c = true → Exs G env n ρ' body (LoopPost Φ fun ρ'' => ∃ k, k < m ∧ P k ρ'')) ∧ (c = false → Φ .next ρ')) : Ex G env n ρ (.While t body [] pos) Φ := by
  constructor
  intro A Z H s R S
  refine wpAny_While ?_
  refine codeAny_whileLoop (fun m s => ∃ Zc ρc, Zle Z Zc ∧ St G env Zc H ρc s ∧ P m ρc) (fun m s hm => ?_) m ⟨Z, ρ, Zle.same, S, h0⟩
  obtain ⟨Zc, ρc, lec, Sc, hp⟩ := hm
  obtain ⟨c, ht, h1, h2⟩ := turn m ρc hp
  refine wp_seq (ht.run A Zc H s R Sc) fun c' s₁ ⟨e, x⟩ => ?_
  subst e
  cases c' with
  | false => exact wpAny_execs_nil ⟨Zc, ρc, .next, lec, Sc.ext x, .next, h2 rfl⟩
  | true =>
    refine wp_seq ((h1 rfl).run A Zc H s₁ R (Sc.ext x)) fun f s₂ ⟨Z₂, ρ₂, fl, le₂, S₂, hf, hΦ⟩ => ?_
    cases hf with
    | next => obtain ⟨k, hk, hp⟩ := hΦ; exact ⟨k, hk, Z₂, ρ₂, lec.trans le₂, S₂, hp⟩
    | cont => obtain ⟨k, hk, hp⟩ := hΦ; exact ⟨k, hk, Z₂, ρ₂, lec.trans le₂, S₂, hp⟩
    | brk => exact ⟨Z₂, ρ₂, .next, lec.trans le₂, S₂, .next, hΦ⟩
    | ret r => exact ⟨Z₂, ρ₂, .ret _, lec.trans le₂, S₂, .ret r, hΦ⟩

/-- the text's def at an address -/
structure DefAt (G : Gnd) (a : Addr) (fd : FuncData) (body : List Stmt) : Prop where
  obj : ∃ o, G.K.lookup a = some o ∧ o.data = .func fd
  code : codeIn G.K fd.code fd.qualname = true
  body : fd.body = .stmts body
  closure : fd.closure = []
  gl : fd.globals = mainGlobals
  bl : fd.builtins = builtinsNs
  co : fd.scope.isCoroutine = false
  gen : fd.scope.isGenerator = false
  kind : fd.scope.kind = .function

theorem DefAt.keep {a : Addr} {fd : FuncData} {body : List Stmt} (D : DefAt G a fd body) : keepIn G.K (.ref a) = true := by
  obtain ⟨⟨oc, od, odt, osl⟩, h, e⟩ := D.obj
  unfold keepIn
  cases e
  simp only [h]

/-- the names that the parameters are, at the start -/
def startLoc : List Str → List D → Loc
  | x :: xs, d :: ds => (x, .val d) :: startLoc xs ds
  | _, _ => []

end
end Mine
end
section
open PySem PySem.W PyProof.Rows
set_option linter.unusedVariables false
namespace Mine

section
variable {G : Gnd} {env : Env} {Z Z' H : Zf} {ρ ρ' : Loc} {s s' : Shared} {A : Around} {E : Value → Shared → Prop} {n : Nat} {pos apos : Pos}

theorem bindL_skip {k : Str → Option NameKind} {x : Str} : ∀ {bs : List (Str × Value)} {m : Str → Option Value}, x ∉ bs.map (·.1) → bindL k bs m x = m x
  | [], _, _ => rfl
  | (y, v) :: r, m, h => by
    simp only [List.map_cons, List.mem_cons, not_or] at h
    unfold bindL
    rw [bindL_skip h.2]
    split
    · exact if_neg h.1
    · rfl
theorem bindL_get {k : Str → Option NameKind} {x : Str} {v : Value} (hk : k x = some .local) : ∀ {bs : List (Str × Value)} {m : Str → Option Value}, (bs.map (·.1)).Nodup → (x, v) ∈ bs → bindL k bs m x = some v
  | (y, w) :: r, m, hn, h => by
    simp only [List.map_cons, List.nodup_cons] at hn
    unfold bindL
    rcases List.mem_cons.mp h with e | h
    · cases e
      rw [bindL_skip hn.1, if_pos hk, if_pos rfl]
    · exact bindL_get hk hn.2 h
theorem bindC_skip {k : Str → Option NameKind} {x : Str} : ∀ {bs : List (Str × Value)} {m : Str → Option Value}, x ∉ bs.map (·.1) → bindC k bs m x = m x
  | [], _, _ => rfl
  | (y, v) :: r, m, h => by
    simp only [List.map_cons, List.mem_cons, not_or] at h
    unfold bindC
    rw [bindC_skip h.2]
    split
    · rfl
    · exact if_neg h.1
theorem bindC_get {k : Str → Option NameKind} {x : Str} {v : Value} (hk : k x = some .cell) : ∀ {bs : List (Str × Value)} {m : Str → Option Value}, (bs.map (·.1)).Nodup → (x, v) ∈ bs → bindC k bs m x = some v
  | (y, w) :: r, m, hn, h => by
    simp only [List.map_cons, List.nodup_cons] at hn
    unfold bindC
    rcases List.mem_cons.mp h with e | h
    · cases e
      rw [bindC_skip hn.1, if_neg (by rw [hk]; decide), if_pos rfl]
    · exact bindC_get hk hn.2 h

theorem startLoc_lookup {b : B} : ∀ {xs : List Str} {ds : List D} {vs : List Value} {x : Str}, RepAll G Z vs ds → xs.length = ds.length → (startLoc xs ds).lookup x = some b → ∃ v d, b = .val d ∧ (x, v) ∈ xs.zip vs ∧ Rep G Z v d
  | [], _, _, _, _, _, h => by simp [startLoc] at h
  | y :: xs, [], _, _, _, hl, _ => by simp at hl
  | y :: xs, d :: ds, v :: vs, x, .cons r rs, hl, h => by
    unfold startLoc at h
    rw [List.lookup_cons] at h
    by_cases q : x = y
    · subst q
      simp at h
      subst h
      exact ⟨v, d, rfl, by simp, r⟩
    · rw [beq_eq_false_iff_ne.mpr q] at h
      obtain ⟨v', d', e, hm, r'⟩ := startLoc_lookup rs (by simpa using hl) h
      exact ⟨v', d', e, by simp [hm], r'⟩

/-- what a call leaves, once its frame is gone -/
theorem ext_of_frame (b : Bs G Z s) (hZ' : Zle Z Z') (S : St G env Z' (fun a => if Z a = none then s.heap.get? a else none) ρ s') (ht : s.toks ≤ s'.toks) : Ext Z s Z' s' where
  le := hZ'
  keep := fun a o h => by
    cases q : Z a with
    | some o' =>
      have := b.zin a o' q
      rw [h] at this; cases this
      exact S.zin _ _ (hZ' _ _ q)
    | none => exact S.hin a o (by simp [q, h])
  zin := S.zin
  new := fun a o h => by
    cases q : Z a with
    | some o' => left; have := hZ' _ _ q; rw [h] at this; cases this; rfl
    | none =>
      right
      have := S.dj a o h
      simpa [q] using this
  gens := S.gens.trans b.gens.symm
  os := S.os.trans b.os.symm
  tk := ht

def RetPost (d : D) : Fl → Loc → Prop
  | .ret d', _ => d' = d
  | .next, _ => d = .none
  | _, _ => False

theorem fn_of {a : Addr} {fd : FuncData} {body : List Stmt} {xs : List Str} {ds : List D} {d : D} (D : DefAt G a fd body) (hb : ∀ vs : List Value, vs.length = xs.length → bindArgs fd ⟨vs, []⟩ = pure (xs.zip vs)) (hlen : xs.length = ds.length)
    (hx : ∀ x ∈ xs, fd.scope.names.lookup x = some .local ∨ (fd.scope.names.lookup x = some .cell ∧ ∀ k, ((cellsFrom k fd.scope.names []).lookup x).isSome = true)) (hnd : xs.Nodup)
    (h : ∀ L, Exs G (callEnvC fd L a) n (startLoc xs ds) body (RetPost d)) : Fn G (n + 1) a ds d := by
  constructor
  intro A Z s vs R b r
  obtain ⟨o, ho, hd⟩ := D.obj
  have hvl : vs.length = xs.length := r.length.trans hlen.symm
  have hmap : (xs.zip vs).map (·.1) = xs := by rw [List.map_fst_zip]; omega
  have hnd' : ((xs.zip vs).map (·.1)).Nodup := by rw [hmap]; exact hnd
  refine wp_tok ?_
  refine wpAny_call ?_
  refine codeAny_call_function (by have := R.depth; omega) (b.X _ _ ho) hd D.co D.gen D.body (codeRec_of b.X D.code) ?_
  rw [hb vs hvl, D.closure]
  refine wpAny_pure (wpAny_with_toks (Nat.le_refl s.toks) (wpAny_newFunctionEnv_cells D.kind (fun x hm => ?_) fun env he s₁ x tok => ?_))
  · have : x.1 ∈ xs := by rw [← hmap]; exact List.mem_map_of_mem hm
    rcases hx _ this with q | ⟨q, q'⟩
    · exact .inl q
    · exact .inr ⟨q, q' _⟩
  subst he
  have hcall := x.toInCall
  obtain ⟨h₁, tk, rfl, hk₁⟩ := x.done
  refine ⟨b.nolimit.keeps hcall.keep, codeAny_func ?_⟩
  have HZ : ∀ a' o', (if Z a' = none then s.heap.get? a' else none) = some o' → Z a' = none ∧ s.heap.get? a' = some o' := fun a' o' e => by
    split at e
    · rename_i q; exact ⟨q, e⟩
    · cases e
  have hLnone : s.heap.get? s.heap.objs.size = none := get?_size_none _
  have nz : ∀ c, s.heap.objs.size ≤ c → s.heap.get? c = none := fun c hc => by
    cases q : s.heap.get? c with
    | none => rfl
    | some ob => exact absurd (Heap.lt_size q) (Nat.not_lt.mpr hc)
  have nzZ : ∀ c, s.heap.objs.size ≤ c → Z c = none := fun c hc => by
    cases q : Z c with
    | none => rfl
    | some ob => have := b.zin c ob q; rw [nz c hc] at this; cases this
  have S₁ : St G (callEnvC fd s.heap.objs.size a) Z (fun a => if Z a = none then s.heap.get? a else none) (startLoc xs ds) { s with heap := h₁, toks := tk } := by
    refine ⟨D.kind, D.gl, D.bl, b.gens, b.os, Nat.lt_of_lt_of_le b.tk tok, fun a' o' e => hk₁ _ _ (b.zin _ _ e), fun a' o' e => hk₁ _ _ (HZ _ _ e).2, fun a' o' e => by simp [e], fun a' o' e => ?_, ⟨_, hcall.ns⟩, nzZ _ (Nat.le_refl _), ?_, fun y c e => ⟨?_, fun _ => ?_, fun hf => by cases hf⟩, ?_, fun y d' e => ?_, ?_⟩
    · have e' := b.bas _ _ e
      cases q : Z a' with
      | none => right; simp [q, e']
      | some ob => left; have := b.zin _ _ q; rw [e'] at this; cases this; rfl
    · show (if Z s.heap.objs.size = none then s.heap.get? s.heap.objs.size else none) = none
      rw [nzZ _ (Nat.le_refl _), if_pos rfl]; exact hLnone
    · exact Nat.ne_of_gt (x.above y c (mem_of_lookup e))
    · have hc : s.heap.objs.size ≤ c := Nat.le_of_lt (x.above y c (mem_of_lookup e))
      refine ⟨nzZ c hc, ?_, _, x.cell y c e⟩
      show (if Z c = none then s.heap.get? c else none) = none
      rw [nzZ c hc, if_pos rfl]; exact nz c hc
    · exact fun y z c e e' => name_of_addr x.apart (mem_of_lookup e) (mem_of_lookup e')
    · obtain ⟨v, d'', e', hm, r'⟩ := startLoc_lookup r hlen e
      cases e'
      have hxm : y ∈ xs := by rw [← hmap]; exact List.mem_map_of_mem hm
      refine ⟨v, ?_, r'⟩
      rcases hx y hxm with q | ⟨q, q'⟩
      · exact .inl ⟨q, _, hcall.ns, bindL_get (k := (callEnvC fd s.heap.objs.size a).kindOf) q hnd' hm⟩
      · obtain ⟨c, hc⟩ := Option.isSome_iff_exists.mp (q' (s.heap.objs.size + 1))
        refine .inr ⟨.inl q, c, hc, ?_⟩
        have := x.cell y c hc
        exact (bindC_get (k := (callEnvC fd s.heap.objs.size a).kindOf) q hnd' hm) ▸ this
    · refine ⟨fun _ => 0, fun y z es es' e => ?_, fun y es e => ?_⟩
      · obtain ⟨_, _, e', _⟩ := startLoc_lookup r hlen e; cases e'
      · obtain ⟨_, _, e', _⟩ := startLoc_lookup r hlen e; cases e'
  refine wp_seq ((h s.heap.objs.size).run _ Z _ _ R.deeper S₁) fun f s₂ ⟨Z₂, ρ₂, fl, le₂, S₂, hf, hΦ⟩ tok₂ => ?_
  cases hf with
  | next => cases hΦ; exact ⟨Z₂, ext_of_frame b le₂ S₂ tok₂, .none⟩
  | brk => exact hΦ.elim
  | cont => exact hΦ.elim
  | ret r' => cases hΦ; exact ⟨Z₂, ext_of_frame b le₂ S₂ tok₂, r'⟩

end
end Mine
end
section
open PySem PySem.W PyProof.Rows
set_option linter.unusedVariables false
namespace Mine

section
variable {G : Gnd} {env : Env} {Z Z' H H' : Zf} {ρ ρ' : Loc} {s s' : Shared} {A : Around} {E : Value → Shared → Prop} {n : Nat} {pos apos : Pos}

/-- what is known is forgotten -/
def Sub (ρ ρ' : Loc) : Prop := ∀ x b, ρ.lookup x = some b → ρ'.lookup x = some b
theorem St.weaken (S : St G env Z H ρ' s) (h : Sub ρ ρ') : St G env Z H ρ s :=
  { S with
    vars := fun x d e => S.vars x d (h x _ e)
    owns := let ⟨oa, hi, ho⟩ := S.owns; ⟨oa, fun x y ds es ex ey => hi x y ds es (h x _ ex) (h y _ ey), fun x ds e => ho x ds (h x _ e)⟩ }
theorem Sub.same : Sub ρ ρ := fun _ _ h => h
theorem Sub.trans {ρ'' : Loc} (a : Sub ρ ρ') (b : Sub ρ' ρ'') : Sub ρ ρ'' := fun x b' h => b x b' (a x b' h)
structure Tsts (G : Gnd) (env : Env) (n : Nat) (ρ : Loc) (ifs : List PySem.Expr) (ok : Bool) : Prop where
  run : ∀ A Z H s, Room n A → St G env Z H ρ s → wpAny (model G.prog G.w) A (forIn ifs true fun c r => if r = true then do let ok ← isTrue c env (eval c env); pure (ForInStep.yield ok) else pure (ForInStep.yield r)) (fun b s' => b = ok ∧ Ext Z s Z s') (fun _ _ => False) s
theorem tsts_nil : Tsts G env n ρ [] true := Tsts.mk fun A Z H s R S => wpAny_tests_nil ⟨rfl, S.same⟩
theorem tsts_one {c : PySem.Expr} {ok : Bool} (h : Tst G env n ρ c ok) : Tsts G env n ρ [c] ok := Tsts.mk fun A Z H s R S => wpAny_tests_one (h.run A Z H s R S)

end
end Mine
end
section
open PySem PySem.W PyProof.Rows
set_option linter.unusedVariables false
namespace Mine

section
variable {G : Gnd} {env : Env} {Z Z' H H' : Zf} {ρ ρ' ρc : Loc} {s s' : Shared} {A : Around} {E : Value → Shared → Prop} {n : Nat} {pos apos : Pos}

theorem Bs.y {v : Value} {d : D} {t : Nat} (b : Bs G Z s) (ht : s.toks ≤ t) (r : Rep G Z v d) : ∃ Z', Ext Z s Z' { s with toks := t } ∧ Rep G Z' v d := ⟨Z, Ext.tok b.zin ht, r⟩

-- whole numbers
theorem op_add_int {a b : Int} : Op2 G (binaryOp .Add) (.int a) (.int b) (.int (a + b)) := Op2.mk fun A Z s v₁ v₂ R b r₁ r₂ => by cases r₁; cases r₂; exact add_int (b.y (Nat.le_succ _) (.int _ _))
theorem op_sub_int {a b : Int} : Op2 G (binaryOp .Sub) (.int a) (.int b) (.int (a - b)) := Op2.mk fun A Z s v₁ v₂ R b r₁ r₂ => by cases r₁; cases r₂; exact sub_int (b.y (Nat.le_succ _) (.int _ _))
theorem op_fdiv_int {a b : Int} (hb : b ≠ 0) (hp : Builtin.divisionGoesByPylong a b = false) : Op2 G (binaryOp .FloorDiv) (.int a) (.int b) (.int (a.fdiv b)) := Op2.mk fun A Z s v₁ v₂ R b r₁ r₂ => by cases r₁; cases r₂; exact floordiv_int hb (b.y (Nat.le_succ _) (.int _ _)) (.inl hp)
theorem op_mod_int {a b : Int} (hb : b ≠ 0) : Op2 G (binaryOp .Mod) (.int a) (.int b) (.int (a.fmod b)) := Op2.mk fun A Z s v₁ v₂ R b r₁ r₂ => by cases r₁; cases r₂; exact mod_int' hb (b.y (Nat.le_succ _) (.int _ _))
theorem op_iadd_int {a b : Int} : Op2 G (inplaceOp .Add) (.int a) (.int b) (.int (a + b)) := Op2.mk fun A Z s v₁ v₂ R b r₁ r₂ => by cases r₁; cases r₂; exact iadd_int (b.y (Nat.le_succ _) (.int _ _))
theorem op_eq_int {a b : Int} : Op2 G (compareOp .Eq) (.int a) (.int b) (.bool (a == b)) := Op2.mk fun A Z s v₁ v₂ R b r₁ r₂ => by cases r₁; cases r₂; exact eq_int ⟨Z, b.same, .bool _⟩
theorem op_ne_int {a b : Int} : Op2 G (compareOp .NotEq) (.int a) (.int b) (.bool (a != b)) := Op2.mk fun A Z s v₁ v₂ R b r₁ r₂ => by cases r₁; cases r₂; exact ne_int ⟨Z, b.same, .bool _⟩
theorem op_lt_int {a b : Int} : Op2 G (compareOp .Lt) (.int a) (.int b) (.bool (decide (a < b))) := Op2.mk fun A Z s v₁ v₂ R b r₁ r₂ => by cases r₁; cases r₂; exact lt_int ⟨Z, b.same, .bool _⟩
theorem op_gt_int {a b : Int} : Op2 G (compareOp .Gt) (.int a) (.int b) (.bool (decide (b < a))) := Op2.mk fun A Z s v₁ v₂ R b r₁ r₂ => by cases r₁; cases r₂; exact gt_int ⟨Z, b.same, .bool _⟩
theorem op_le_int {a b : Int} : Op2 G (compareOp .LtE) (.int a) (.int b) (.bool (decide (a ≤ b))) := Op2.mk fun A Z s v₁ v₂ R b r₁ r₂ => by cases r₁; cases r₂; exact le_int ⟨Z, b.same, .bool _⟩
theorem op_ge_int {a b : Int} : Op2 G (compareOp .GtE) (.int a) (.int b) (.bool (decide (b ≤ a))) := Op2.mk fun A Z s v₁ v₂ R b r₁ r₂ => by cases r₁; cases r₂; exact ge_int ⟨Z, b.same, .bool _⟩

-- texts
theorem op_add_str {x y : Str} (h : x.length + y.length ≤ sizeLine) : Op2 G (binaryOp .Add) (.str x) (.str y) (.str (x ++ y)) := Op2.mk fun A Z s v₁ v₂ R b r₁ r₂ => by cases r₁; cases r₂; exact wp_tok (add_str (fun t k tok => b.y tok (.str _ _)) h)
theorem op_iadd_str {x y : Str} (h : x.length + y.length ≤ sizeLine) : Op2 G (inplaceOp .Add) (.str x) (.str y) (.str (x ++ y)) := Op2.mk fun A Z s v₁ v₂ R b r₁ r₂ => by cases r₁; cases r₂; exact wp_tok (iadd_str (fun t k tok => b.y tok (.str _ _)) h)
theorem op_eq_str {x y : Str} : Op2 G (compareOp .Eq) (.str x) (.str y) (.bool (x == y)) := Op2.mk fun A Z s v₁ v₂ R b r₁ r₂ => by cases r₁; cases r₂; exact eq_str ⟨Z, b.same, .bool _⟩
theorem op_ne_str {x y : Str} : Op2 G (compareOp .NotEq) (.str x) (.str y) (.bool (x != y)) := Op2.mk fun A Z s v₁ v₂ R b r₁ r₂ => by cases r₁; cases r₂; exact ne_str ⟨Z, b.same, .bool _⟩
/-- is the one text in the other -/
def tin (y x : Str) : Bool := !(Builtin.Str.occurrences x y 0 x.length 1).isEmpty
theorem op_in_str {x y : Str} : Op2 G (compareOp .In) (.str y) (.str x) (.bool (tin y x)) := Op2.mk fun A Z s v₁ v₂ R b r₁ r₂ => by cases r₁; cases r₂; exact PyProof.Rows.in_str ⟨Z, b.same, .bool _⟩
theorem op_notin_str {x y : Str} : Op2 G (compareOp .NotIn) (.str y) (.str x) (.bool (!tin y x)) := Op2.mk fun A Z s v₁ v₂ R b r₁ r₂ => by cases r₁; cases r₂; exact notIn_str ⟨Z, b.same, .bool _⟩

theorem bf_len_str {x : Str} (h : x.length ≤ sizeLine) : BF G "len" [.str x] (.int x.length) := BF.mk fun A Z s vs R b r => by
  cases r with | cons r rs => cases rs; cases r; exact SBL.len (by rw [sizeLine_eq] at h; omega) (b.y (by omega) (.int _ _))
theorem isList_of {a : Addr} {vs : List Value} {k : Nat} {h : Heap} (e : h.get? a = some (listOf vs.toArray k)) : h.IsList a vs.toArray := ⟨_, e, rfl, _, rfl⟩
theorem isTuple_of {a : Addr} {vs : List Value} {k : Nat} {h : Heap} (e : h.get? a = some { cls := .type "tuple", data := .seq vs.toArray k }) : h.IsTuple a vs.toArray := ⟨_, e, rfl, _, rfl⟩
theorem bf_len_list {ds : List D} (h : ds.length ≤ sizeLine) : BF G "len" [.list ds] (.int ds.length) := BF.mk fun A Z s vs R b r => by
  cases r with
  | cons r rs =>
    cases rs
    cases r with
    | list hz ra => exact len_list (isList_of (b.zin _ _ hz)) (by rw [List.size_toArray, ra.length]; rw [sizeLine_eq] at h; omega) (b.y (by omega) (by rw [List.size_toArray, ra.length]; exact .int _ _))
theorem bf_chr {i : Int} (h0 : 0 ≤ i) (h1 : i ≤ 1114111) : BF G "chr" [.int i] (.str ⟨#[i.toNat]⟩) := BF.mk fun A Z s vs R b r => by
  cases r with | cons r rs => cases rs; cases r; exact chr_of_range h0 h1 (b.y (Nat.le_succ _) (.str _ _))

-- truth
theorem tr_bool {b : Bool} : Tr G (.bool b) b := Tr.mk fun A Z s v R b r => by cases r; exact wpAny_truthy_bool ⟨rfl, b.same⟩

-- items
theorem slOk (slice : PySem.Expr) (o i : Value) : ∃ ops, subscripted slice false o i = operate ops (getItem o i) := by
  unfold subscripted
  split
  · exact ⟨_, rfl⟩
  · rename_i h; cases h
  · exact ⟨_, rfl⟩
theorem tail_all {value slice : PySem.Expr} {o i : Value} {T id : String} {Q : Value → Shared → Prop} (hT : s.TypeIs o T) (hl : typeLookup (.type T) "__getitem__" = pure (some (.builtin id))) (hg : wpAny (model G.prog G.w) A (getItem o i) Q E s) :
    wpAny (model G.prog G.w) A (subscriptTail value slice o i) Q E s := let ⟨_, e⟩ := slOk slice o i; tail_any hT hl hg e

theorem sb_list {value slice : PySem.Expr} {ds : List D} {i : Int} {d : D} (h0 : 0 ≤ i) (h1 : i < 2 ^ 63) (hd : ds[i.toNat]? = some d) : Sb G value slice (.list ds) (.int i) d := Op2.mk fun A Z s v₁ v₂ R b r₁ r₂ => by
  cases r₂
  cases r₁ with
  | list hz ra =>
    obtain ⟨v, hv, rv⟩ := ra.get hd
    have hl := isList_of (b.zin _ _ hz)
    exact tail_all hl.typeIs slot_list_getitem.lookup (wpAny_getItem_list hl h0 h1 (by simpa using hv) ⟨Z, b.same, rv⟩)
theorem sb_list_neg {value slice : PySem.Expr} {ds : List D} {i : Int} {d : D} (h0 : i < 0) (h1 : -(2 ^ 63) ≤ i) (h2 : -(ds.length : Int) ≤ i) (hd : ds[(i + ds.length).toNat]? = some d) : Sb G value slice (.list ds) (.int i) d := Op2.mk fun A Z s v₁ v₂ R b r₁ r₂ => by
  cases r₂
  cases r₁ with
  | list hz ra =>
    obtain ⟨v, hv, rv⟩ := ra.get hd
    have hl := isList_of (b.zin _ _ hz)
    exact tail_all hl.typeIs slot_list_getitem.lookup (wpAny_getItem_list_neg hl h0 (by rw [List.size_toArray, ra.length]; exact h2) h1 (by rw [List.size_toArray, ra.length]; simpa using hv) ⟨Z, b.same, rv⟩)
-- tables
def dget (ks : List Str) (ds : List D) (x : Str) : Option D := (ks.zip ds).lookup x
theorem dget_some : ∀ {kvs : List (Str × Value)} {ds : List D} {x : Str} {d : D}, RepAll G Z (kvs.map (·.2)) ds → dget (kvs.map (·.1)) ds x = some d → ∃ v, valueAt kvs x = some v ∧ Rep G Z v d
  | [], _, _, _, _, h => by simp [dget] at h
  | (k, v) :: kvs, _, x, d, .cons r rs, h => by
    unfold dget at h
    simp only [List.map_cons, List.zip_cons_cons, List.lookup_cons] at h
    by_cases q : x = k
    · subst q; simp at h; subst h; exact ⟨v, by simp [valueAt], r⟩
    · rw [beq_eq_false_iff_ne.mpr q] at h
      obtain ⟨w, e, rw'⟩ := dget_some rs h
      exact ⟨w, by simpa [valueAt, Ne.symm q] using e, rw'⟩
theorem dget_none : ∀ {kvs : List (Str × Value)} {ds : List D} {x : Str}, RepAll G Z (kvs.map (·.2)) ds → dget (kvs.map (·.1)) ds x = none → valueAt kvs x = none
  | [], _, _, _, _ => rfl
  | (k, v) :: kvs, _, x, .cons r rs, h => by
    unfold dget at h
    simp only [List.map_cons, List.zip_cons_cons, List.lookup_cons] at h
    by_cases q : x = k
    · subst q; simp at h
    · rw [beq_eq_false_iff_ne.mpr q] at h
      simpa [valueAt, Ne.symm q] using dget_none rs h
theorem dget_isSome {kvs : List (Str × Value)} {ds : List D} {x : Str} (r : RepAll G Z (kvs.map (·.2)) ds) : (valueAt kvs x).isSome = (dget (kvs.map (·.1)) ds x).isSome := by
  cases h : dget (kvs.map (·.1)) ds x with
  | none => rw [dget_none r h]; rfl
  | some d => obtain ⟨v, e, _⟩ := dget_some r h; rw [e]; rfl
theorem dictOf_of {a : Addr} {o : Obj} {h : Heap} {kvs : List (Str × Value)} (e : h.get? a = some o) (hd : o.IsDictOf (strKind G.prog G.w) kvs) : h.DictOf (strKind G.prog G.w) a kvs := Heap.dictOf_iff.mpr ⟨o, e, hd⟩
theorem op_in_dict {ks : List Str} {ds : List D} {x : Str} : Op2 G (compareOp .In) (.str x) (.dict ks ds) (.bool (dget ks ds x).isSome) := Op2.mk fun A Z s v₁ v₂ R b r₁ r₂ => by
  cases r₁
  cases r₂ with
  | dict hz hs hd ra => exact wpAny_in_of (strKind_is _ _ _ _) hs (dictOf_of (b.zin _ _ hz) hd).mapOf (b.y (Nat.le_succ _) (by rw [dget_isSome ra]; exact .bool _))
theorem op_notin_dict {ks : List Str} {ds : List D} {x : Str} : Op2 G (compareOp .NotIn) (.str x) (.dict ks ds) (.bool (!(dget ks ds x).isSome)) := Op2.mk fun A Z s v₁ v₂ R b r₁ r₂ => by
  cases r₁
  cases r₂ with
  | dict hz hs hd ra => exact wpAny_notIn_of (strKind_is _ _ _ _) hs (dictOf_of (b.zin _ _ hz) hd).mapOf (b.y (Nat.le_succ _) (by rw [dget_isSome ra]; exact .bool _))
theorem sb_dict {value slice : PySem.Expr} {ks : List Str} {ds : List D} {x : Str} {d : D} (h : dget ks ds x = some d) : Sb G value slice (.dict ks ds) (.str x) d := Op2.mk fun A Z s v₁ v₂ R b r₁ r₂ => by
  cases r₂
  cases r₁ with
  | dict hz hs hd ra =>
    obtain ⟨v, e, rv⟩ := dget_some ra h
    have hm := dictOf_of (b.zin _ _ hz) hd
    exact tail_all hm.typeIs slot_dict_getitem.lookup (wpAny_getItem_of (strKind_is _ _ _ _) hm.mapOf e (b.y (Nat.le_succ _) rv))
/-- a written table of texts -/
inductive ConstPairs : List (Option PySem.Expr) → List PySem.Expr → List (Str × Str) → Prop
  | nil : ConstPairs [] [] []
  | cons {k v : Str} {c c' : Nat} {p p' : Pos} {ks : List (Option PySem.Expr)} {vs : List PySem.Expr} {r : List (Str × Str)} : ConstPairs ks vs r → ConstPairs (some (.Constant (.str k) c p) :: ks) (.Constant (.str v) c' p' :: vs) ((k, v) :: r)
theorem const_shape {ks : List (Option PySem.Expr)} {vs : List PySem.Expr} {r : List (Str × Str)} (h : ConstPairs ks vs r) : ∃ pairs : List (Sem Value × Sem Value), pairs.length = r.length ∧ (pairs = [] → r = []) ∧
    (evalEachOpt ks env).zip ((evalEach vs env).map fun v => do let x ← v; standAt pos; pure x) = pairs.map (fun p => (some p.1, p.2)) ∧
    ∀ (M : Model) (prog : Program) (w : World) (A : Around) (E : Value → Shared → Prop) (s : Shared) (Q : List (Value × Value) → Shared → Prop),
      (∀ (us : List (Value × Value)) (kvs : List (Str × Value)) (t : Nat), s.toks ≤ t → Carries (strKind prog w) us kvs → kvs.map (·.1) = r.map (·.1) → (∀ Z, RepAll G Z (kvs.map (·.2)) (r.map fun p => .str p.2)) → us.length = r.length → Q us { s with toks := t }) →
      wpAny (model prog w) A (evalPairs pairs) Q E s := by
  induction h with
  | nil => exact ⟨[], rfl, fun _ => rfl, rfl, fun M prog w A E s Q h => evalPairs_nil (h [] [] s.toks (Nat.le_refl _) trivial rfl (fun _ => .nil) rfl)⟩
  | @cons k v c c' p p' ks vs r _ ih =>
    obtain ⟨pairs, hl, _, he, hw⟩ := ih
    refine ⟨(eval (.Constant (.str k) c p) env, (do let x ← eval (.Constant (.str v) c' p') env; standAt pos; pure x)) :: pairs, by simp [hl], fun h => (by cases h), ?_, fun M prog w A E s Q h => ?_⟩
    · show ((some (eval (.Constant (.str k) c p) env), _) :: _) = _
      rw [List.map_cons, ← he]
      rfl
    · refine evalPairs_cons (Calls.Constant_str (wpAny_bind (Calls.Constant_str (wpAny_bind (wpAny_standAt (wpAny_pure ?_))))))
      refine hw M prog w A E _ _ fun us kvs t ht hc hk hr hus => ?_
      refine h _ ((k, .str v (s.toks + 1)) :: kvs) t (by have : s.toks + 1 + 1 ≤ t := ht; omega) ⟨strKind_is _ _ _ _, rfl, hc⟩ (by simp [hk]) (fun Z => .cons (.str _ _) (hr Z)) (by simp [hus])

theorem merged_new {K : Type} [DecidableEq K] : ∀ (more acc : List (K × Value)), ((acc ++ more).map (·.1)).Nodup → merged acc more = acc ++ more
  | [], acc, _ => by simp [merged]
  | (k, v) :: more, acc, h => by
    have hk : acc.any (fun kv => kv.1 = k) = false := by
      rw [List.any_eq_false]
      intro kv hkv
      simp only [decide_eq_true_eq]
      intro q
      rw [List.map_append, List.nodup_append] at h
      exact h.2.2 kv.1 (List.mem_map_of_mem hkv) k (by simp) q
    have e : merged acc ((k, v) :: more) = merged (acc ++ [(k, v)]) more := by
      show merged (stored acc k v) more = _
      unfold stored
      rw [hk]; rfl
    rw [e, merged_new more (acc ++ [(k, v)]) (by simpa using h)]
    simp

theorem ev_dict {ks : List (Option PySem.Expr)} {vs : List PySem.Expr} {r : List (Str × Str)} (h : ConstPairs ks vs r) (h0 : r ≠ []) (hl : r.length ≤ 15) (hn : (r.map (·.1)).Nodup) : Ev G env n ρ (.Dict ks vs pos) (.dict (r.map (·.1)) (r.map fun p => .str p.2)) := by
  constructor
  intro A Z H s R S
  obtain ⟨pairs, hp, hp0, he, hw⟩ := const_shape (G := G) (env := env) (pos := pos) h
  refine wp_tok (wpAny_Dict_pairs (knd := strKind G.prog G.w) he (fun q => h0 (hp0 q)) (by omega) (hw ⟨denote table, G.prog, G.w⟩ G.prog G.w A _ _ _ fun us kvs t ht hc hk hr hus => ⟨kvs, hc, ?_, fun h' hd hs tok => ?_⟩))
  · exact Heap.dictOf_iff.mpr ⟨_, Heap.get?_push_size _ rfl, #[], 0, ⟨rfl, rfl, rfl⟩, rfl, fun e he => by simp at he, .nil, List.nodup_nil⟩
  · have hm : merged [] kvs = kvs := by rw [merged_new kvs [] (by simpa [hk] using hn)]; rfl
    rw [hm] at hd
    obtain ⟨o, ho, hod⟩ := Heap.dictOf_iff.mp hd
    have hlow : (s.heap.objs.size == sysModules) = false := by
      have := modules_low S.bs.nolimit
      rw [beq_eq_false_iff_ne]; exact Nat.ne_of_gt this
    have hZn : Z s.heap.objs.size = none := by
      cases q : Z s.heap.objs.size with
      | none => rfl
      | some ob => have := S.zin _ _ q; rw [get?_size_none] at this; cases this
    have le := Zadd.le (o := o) hZn
    have keep : ∀ b ob, s.heap.get? b = some ob → h'.get? b = some ob := fun b ob e => hs.extBut b ob (Nat.ne_of_lt (Heap.lt_size e)) (Heap.get?_push_of_some _ e)
    refine ⟨Zadd Z s.heap.objs.size o, ⟨le, keep, fun b ob e => ?_, fun b ob e => ?_, rfl, rfl, tok⟩, ?_⟩
    · by_cases q : b = s.heap.objs.size
      · subst q; rw [Zadd.self] at e; cases e; exact ho
      · rw [show Zadd Z s.heap.objs.size o b = Z b from if_neg q] at e; exact keep _ _ (S.zin _ _ e)
    · by_cases q : b = s.heap.objs.size
      · subst q; exact .inr (get?_size_none _)
      · rw [show Zadd Z s.heap.objs.size o b = Z b from if_neg q] at e; exact .inl e
    · rw [← hk]; exact .dict Zadd.self hlow hod (hr _)

end
end Mine
end
section
open PySem PySem.W PyProof.Rows
set_option linter.unusedVariables false
namespace Mine

section
variable {G : Gnd} {env : Env} {Z Z' H H' : Zf} {ρ ρ' ρc : Loc} {s s' : Shared} {A : Around} {E : Value → Shared → Prop} {n : Nat} {pos apos : Pos}

/-- an object is made that is not frozen -/
theorem Ext.push {o : Obj} {t : Nat} (hz : ∀ a o, Z a = some o → s.heap.get? a = some o) (ht : s.toks ≤ t) : Ext Z s Z { s with heap := s.heap.push o, toks := t } :=
  ⟨Zle.same, fun a ob h => Heap.get?_push_of_some _ h, fun a ob h => Heap.get?_push_of_some _ (hz a ob h), fun _ _ h => .inl h, rfl, rfl, ht⟩

-- what is gone through
theorem itr_list {ds : List D} : Itr G (.list ds) ds := Itr.mk fun A Z s v R b r => by
  cases r with
  | @list a vs k _ hz ra =>
    have hl := isList_of (b.zin _ _ hz)
    refine wpAny_pyIter_list hl ⟨s.heap.objs.size, [s.heap.objs.size, a], fun i v => vs.toArray[i]? = some v, fun i h => h.IsListIter s.heap.objs.size a i ∧ h.IsList a vs.toArray, rfl, Ext.push (t := s.toks) b.zin (Nat.le_refl _), get?_size_none _, fun A' hA => ?_, ?_, ?_, ?_, ?_⟩
    · have := Walks.list (prog := G.prog) (w := G.w) hA s.heap.objs.size a (fun q => by have := b.zin _ _ hz; rw [q, get?_size_none] at this; cases this) vs.toArray
      have e : vs.toArray.size = ds.length := by rw [List.size_toArray, ra.length]
      rw [e] at this; exact toWG this
    · intro c hc
      rcases List.mem_cons.mp hc with rfl | hc
      · exact .inl rfl
      · rw [List.mem_singleton] at hc; subst hc; exact .inr ⟨_, hz⟩
    · exact ⟨⟨_, Heap.get?_push_size _ rfl, rfl, rfl⟩, hl.push _⟩
    · rintro i h ⟨⟨o, ho, hc, _⟩, _⟩
      exact ⟨o, _, ho, hc, by decide⟩
    · intro i v hv
      have hv' : vs[i]? = some v := by simpa using hv
      have hlt : i < ds.length := by rw [← ra.length]; exact (List.getElem?_eq_some_iff.mp hv').1
      obtain ⟨w, hw, rw'⟩ := ra.get (i := i) (d := ds[i]) (by simp [hlt])
      rw [hv'] at hw; cases hw
      exact ⟨ds[i], by simp [hlt], rw'⟩

-- cuts
theorem ev_slice {l u : Option PySem.Expr} {lo hi : Option Int} (hl : match l, lo with | none, none => True | some e, some i => Ev G env n ρ e (.int i) | _, _ => False)
    (hu : match u, hi with | none, none => True | some e, some i => Ev G env n ρ e (.int i) | _, _ => False) : Ev G env n ρ (.Slice l u none pos) (.slc lo hi) := by
  constructor
  intro A Z H s R S
  have part : ∀ (e : Option PySem.Expr) (i : Option Int), (match e, i with | none, none => True | some e, some i => Ev G env n ρ e (.int i) | _, _ => False) → ∀ Z₁ s₁, St G env Z₁ H ρ s₁ →
      wpAny (model G.prog G.w) A (valueOrNone (evalOpt e env)) (fun v s' => ∃ Z', Ext Z₁ s₁ Z' s' ∧ IsPart v i) (fun _ _ => False) s₁ := by
    intro e i h Z₁ s₁ S₁
    cases e <;> cases i <;> first | exact h.elim | skip
    · exact wpAny_pure ⟨Z₁, S₁.same, .none⟩
    · exact wp_seq (h.run A Z₁ H s₁ R S₁) fun v s' ⟨Z', x, r⟩ => by cases r; exact ⟨Z', x, .int _ _⟩
  show wpAny _ _ (do
    let l ← valueOrNone (evalOpt l env)
    let u ← holding [l] (valueOrNone (evalOpt u env))
    let s ← holding [l, u] (valueOrNone (evalOpt none env))
    newFields "slice" [l, u, s]) _ _ _
  refine wpAny_bind (wp_seq (part l lo hl Z s S) fun vl s₁ ⟨Z₁, x₁, p₁⟩ => wpAny_bind (wpAny_holding (wp_seq (part u hi hu Z₁ s₁ (S.ext x₁)) fun vu s₂ ⟨Z₂, x₂, p₂⟩ => wpAny_bind (wpAny_holding (wpAny_pure ?_)))))
  refine wpAny_newObj_type ⟨_, x₁.trans (x₂.trans (Ext.alloc (t := s₂.toks) ((S.ext x₁).ext x₂).zin rfl (Nat.le_refl _))), .slc Zadd.self p₁ p₂⟩

theorem sb_slice_str {value slice : PySem.Expr} {x : Str} {lo hi : Option Int} (hn : x.length ≤ sizeLine) : Sb G value slice (.str x) (.slc lo hi) (.str (Txt.slice x lo hi)) := Op2.mk fun A Z s v₁ v₂ R b r₁ r₂ => by
  cases r₁ with
  | str x t =>
    cases r₂ with
    | @slc a vl vu _ _ hz pl pu =>
      have go : ∀ (l u : Option (Int × Tok)), vl = partValue l → vu = partValue u → lo = l.map (·.1) → hi = u.map (·.1) → wpAny (model G.prog G.w) A (getItem (.str x t) (.ref a)) (fun v s' => ∃ Z', Ext Z s Z' s' ∧ Rep G Z' v (.str (Txt.slice x lo hi))) (fun _ _ => False) s := by
        rintro l u rfl rfl rfl rfl
        exact wp_tok (wpAny_getItem_str_slice (st := none) ⟨_, b.zin _ _ hz, rfl, rfl⟩ rfl (post_val_or_str ⟨Nat.le_trans (Txt.slice_le x _ _) hn, fun t' k tok => b.y tok (.str _ _)⟩))
      refine tail_all (typeIs_str _ _ _) F.slot_str_getitem.lookup ?_
      cases pl with
      | none => cases pu with
        | none => exact go none none rfl rfl rfl rfl
        | int j u => exact go none (some (j, u)) rfl rfl rfl rfl
      | int i t' => cases pu with
        | none => exact go (some (i, t')) none rfl rfl rfl rfl
        | int j u => exact go (some (i, t')) (some (j, u)) rfl rfl rfl rfl

end
end Mine
end
section
open PySem PySem.W PyProof.Rows PySem.Builtin PySem.Builtin.Str
set_option linter.unusedVariables false
set_option maxRecDepth 100000
namespace Mine

section
variable {G : Gnd} {env : Env} {Z Z' H H' : Zf} {ρ ρ' ρc : Loc} {s s' : Shared} {A : Around} {E : Value → Shared → Prop} {n : Nat} {pos apos : Pos}

-- rows of texts
abbrev txs (xs : List Str) : List D := xs.map .str
theorem repAll_strs : ∀ (l : List (Str × Tok)), RepAll G Z (strValues l) (txs (l.map (·.1)))
  | [] => .nil
  | _ :: r => .cons (.str _ _) (repAll_strs r)
theorem strs_of_repAll : ∀ {vs : List Value} {xs : List Str}, RepAll G Z vs (txs xs) → ∃ l, strValues l = vs ∧ l.map (·.1) = xs
  | [], [], _ => ⟨[], rfl, rfl⟩
  | v :: vs, x :: xs, .cons r rs => by
    obtain ⟨l, e1, e2⟩ := strs_of_repAll rs
    cases r with
    | str _ t => exact ⟨(x, t) :: l, by rw [← e1]; rfl, by rw [← e2]; rfl⟩
theorem strs_made {l : List (Str × Tok)} {xs : List Str} {k t : Nat} (b : Bs G Z s) (hl : l.map (·.1) = xs) (ht : s.toks ≤ t) :
    ∃ Z', Ext Z s Z' { s with heap := s.heap.push { cls := .type "list", data := .seq (strValues l).toArray k }, toks := t } ∧ Rep G Z' (.ref s.heap.objs.size) (.list (txs xs)) :=
  ⟨_, Ext.alloc b.zin rfl ht, by subst hl; exact .list Zadd.self (repAll_strs l)⟩

-- methods of texts
theorem getm_str {name : Str} {id : String} {x : Str} (slot : Slot "str" name id) (hty : typeOf (.builtin id) = pure (.type "method_descriptor")) : GetM G name (.str x) id :=
  GetM.mk fun M A pl Z s v Q E hz r h => by cases r; exact getMethod_builtin (typeIs_str _ _ _) F.plainAttrs_str slot hty (fun a e => (by cases e)) h

theorem bf_startswith3 {x y : Str} {i : Int} : BF G "str.startswith" [.str x, .str y, .int i] (.bool (Txt.startswith3 x y i)) := BF.mk fun A Z s vs R b r => by
  cases r with | cons r rs => cases rs with | cons r₂ rs => cases rs with | cons r₃ rs => cases rs; cases r; cases r₂; cases r₃; exact SC.startswith3 ⟨Z, b.same, .bool _⟩
theorem bf_split {x y : Str} (hy : (y.length == 0) = false) (hsz : x.length + 2 ≤ sizeLine) : BF G "str.split" [.str x, .str y] (.list (txs (Txt.split x y))) := BF.mk fun A Z s vs R b r => by
  cases r with
  | cons r rs =>
    cases rs with
    | cons r₂ rs =>
      cases rs
      cases r with
      | str x t =>
        cases r₂ with
        | str y u =>
          have hsz2 : (partsBetween x (occurrences x y 0 x.length (x.length + 1)) y.length).length ≤ sizeLine := by
            rw [length_partsBetween]
            have e := StrLaws.occ_length_le x y 0 x.length (x.length + 1)
            omega
          refine wp_tok ?_
          cases h1 : (decide (x.length < y.length) || decide (strKind x < strKind y))
          · cases hf : (occurrences x y 0 x.length (x.length + 1)).isEmpty
            · refine call_meets F.slot_str_split (typeIs_str _ _ _) F.entry_str_split (F.args_str_split_2 _ _) (meets_str_split_sep x y t u h1 hy hf (by omega) hsz2) ?_
              show wants _ _ _ { s with toks := _, heap := s.heap.push { cls := .type "list", data := .seq (strsFrom s.toks (partsBetween x (occurrences x y 0 x.length (x.length + 1)) y.length)).toArray } }
              rw [strsFrom_eq]
              exact fun tok => strs_made b ((numbered_texts _ _).trans ((if_neg (ne_true_of_eq_false h1)).trans (if_neg (ne_true_of_eq_false hf))).symm) tok
            · exact call_meets F.slot_str_split (typeIs_str _ _ _) F.entry_str_split (F.args_str_split_2 _ _) (meets_str_split_not_found x y t u h1 hy hf)
                (fun tok => strs_made (l := [(x, t)]) b ((if_neg (ne_true_of_eq_false h1)).trans (if_pos hf)).symm tok)
          · exact call_meets F.slot_str_split (typeIs_str _ _ _) F.entry_str_split (F.args_str_split_2 _ _) (meets_str_split_cannot_occur x y t u h1)
              (fun tok => strs_made (l := [(x, t)]) b (if_pos h1).symm tok)

/-- x.replace('..', '..') with two written texts -/
theorem ev_replace {o : PySem.Expr} {x y z : Str} {c c' : Nat} {p p' : Pos} {pl : Sem Bool} (ho : Ev G env n ρ o (.str x)) (hb : x.length + (x.length + 1) * z.length ≤ 16777216)
    (he : eval (.Call (.Attribute o "replace" apos) [.Constant (.str y) c p, .Constant (.str z) c' p'] [] pos) env = (do
      let ov ← eval o env
      standAt apos.atName
      let (f, first) ← holding [ov] (getMethod ov "replace" pl)
      callWith pos f first (backTo pos (starEach [.Constant (.str y) c p, .Constant (.str z) c' p'] env)) [])) :
    Ev G env n ρ (.Call (.Attribute o "replace" apos) [.Constant (.str y) c p, .Constant (.str z) c' p'] [] pos) (.str (Txt.replace x y z)) := by
  constructor
  intro A Z H s R S
  refine MethodCall_ (wp_seq (ho.run A Z H s R S) fun v s₁ ⟨Z₁, x₁, r₁⟩ => ?_) he
  have S₁ := S.ext x₁
  cases r₁ with
  | str x t =>
    refine getMethod_builtin (typeIs_str _ _ _) F.plainAttrs_str F.slot_str_replace F.type_str_replace (fun a e => (by cases e)) ?_
    refine Calls.callWith_builtin rfl (wp_evalArgs rfl (spliced_more (Calls.Constant_str (spliced_more (Calls.Constant_str (spliced_none ?_))))))
    have tk := S₁.tk
    refine wpAny_with_toks (n := s₁.toks) (by show s₁.toks ≤ s₁.toks + 1 + 1; omega) (SC.replaceA (s := { s₁ with toks := s₁.toks + 1 + 1 }) (by show s₁.toks ≠ 0; omega) (by show s₁.toks + 1 ≠ 0; omega) (by show s₁.toks ≠ s₁.toks + 1; omega) hb (fun t' k tok => ⟨Z₁, x₁.trans (Ext.tok S₁.zin tok), .str _ _⟩) S₁.bs.nb)

/-- try, where nothing is raised -/
theorem ex_try {body : List Stmt} {h₀ : ExceptHandler} {hs : List ExceptHandler} {Φ : Fl → Loc → Prop} (h : Exs G env n ρ body Φ) : Ex G env n ρ (.Try body (h₀ :: hs) [] [] pos) Φ :=
  Ex.mk fun A Z H s R S => wpAny_Try_except (wpAny_mono (h.run A Z H s R S) (fun f s₁ h₁ => by
    cases f with
    | next => exact wpAny_execs_nil h₁
    | _ => exact h₁) fun _ _ x => x.elim)

-- rows compared
open PySem.SeqAt in
theorem op_eq_nil {ds : List D} : Op2 G (compareOp .Eq) (.list ds) (.list []) (.bool ds.isEmpty) := Op2.mk fun A Z s v₁ v₂ R b r₁ r₂ => by
  cases r₁ with
  | list hz ra =>
    cases r₂ with
    | list hz' ra' =>
      cases ra'
      have hl := isList_of (b.zin _ _ hz)
      have hl' := isList_of (b.zin _ _ hz')
      cases ra with
      | nil => exact eq_listAt (e := fun _ => true) hl hl' rfl (by have := R.units; omega) (fun j h1 _ => absurd h1 (by simp)) ⟨Z, b.same, .bool _⟩
      | cons r rs => exact eq_list_lengthsAt hl hl' (by simp) (by have := R.units; omega) ⟨Z, b.same, .bool _⟩
open PySem.SeqAt in
theorem op_ne_nil {ds : List D} : Op2 G (compareOp .NotEq) (.list ds) (.list []) (.bool (!ds.isEmpty)) := Op2.mk fun A Z s v₁ v₂ R b r₁ r₂ => by
  cases r₁ with
  | list hz ra =>
    cases r₂ with
    | list hz' ra' =>
      cases ra'
      have hl := isList_of (b.zin _ _ hz)
      have hl' := isList_of (b.zin _ _ hz')
      cases ra with
      | nil => exact RcNeAt.lists (e := fun _ => true) hl hl' rfl (by have := R.units; omega) (fun j h1 _ => absurd h1 (by simp)) G.prog G.w _ _ ⟨Z, b.same, .bool _⟩
      | cons r rs => exact RcNeAt.lists_lengths hl hl' (by simp) (by have := R.units; omega) G.prog G.w _ _ ⟨Z, b.same, .bool _⟩

end
end Mine
end
section
open PySem PySem.W PyProof.Rows
set_option linter.unusedVariables false
set_option maxRecDepth 100000
namespace Mine
def stOf (p : Program) (i : Nat) : Stmt := p.main.body.getD i (.Pass ⟨0, 0, 0, 0⟩)
def bodyOf : Stmt → List Stmt
  | .FunctionDef _ _ b _ _ _ _ _ _ _ => b
  | _ => []
def fdOf (st : Stmt) (doc pm cdv ct : Value) : FuncData := match st with
  | .FunctionDef name args body _ _ _ scope _ _ _ => fnX name name args body scope [] .none .none doc pm none cdv ct
  | _ => default

section
variable {G : Gnd} {env : Env} {Z Z' H H' : Zf} {ρ ρ' ρc : Loc} {s s' : Shared} {A : Around} {E : Value → Shared → Prop} {n : Nat} {pos apos : Pos}

theorem sub_nil : Sub [] ρ := fun x b h => by simp at h
theorem sub_cons {x : Str} {b : B} (h : ρ'.lookup x = some b) (hs : Sub ρ ρ') : Sub ((x, b) :: ρ) ρ' := fun y c e => by
  rw [List.lookup_cons] at e
  by_cases q : y = x
  · subst q; simp at e; subst e; exact h
  · rw [beq_eq_false_iff_ne.mpr q] at e; exact hs y c e
theorem exs_weaken {sts : List Stmt} {Φ : Fl → Loc → Prop} (hs : Sub ρ ρ') (h : Exs G env n ρ sts Φ) : Exs G env n ρ' sts Φ := Exs.mk fun A Z H s R S => h.run A Z H s R (S.weaken hs)
theorem asg_weaken {e : PySem.Expr} {d : D} {ρ'' : Loc} (hs : Sub ρ ρ') (h : Asg G env e d ρ ρ'') : Asg G env e d ρ' ρ'' := Asg.mk fun A Z H s v R S r => h.run A Z H s v R (S.weaken hs) r

/-- a for, by what is known of the names at each turn -/
theorem ex_forI {tgt iter : PySem.Expr} {body : List Stmt} {d : D} {ds : List D} {Φ : Fl → Loc → Prop} (I : Nat → Loc) (h : Ev G env n ρ iter d) (hi : Itr G d ds) (h0 : Sub (I 0) ρ)
    (turn : ∀ i d, ds[i]? = some d → ∃ ρ'', Asg G env tgt d (I i) ρ'' ∧ Exs G env n ρ'' body (LoopPost Φ (Sub (I (i + 1)))))
    (done : ∀ ρ', Sub (I ds.length) ρ' → Φ .next ρ') (hs : ∀ x, foldedSetIterable iter env x = pure x) : Ex G env n ρ (.For tgt iter body [] pos) Φ :=
  ex_for (fun i ρ' => Sub (I i) ρ') h hi h0 (fun i d ρ' hd hsub => by
    obtain ⟨ρ'', ha, hb⟩ := turn i d hd
    exact ⟨ρ'', asg_weaken hsub ha, hb⟩) done hs

/-- a while, by what is known of the names at each turn -/
theorem ex_whileI {t : PySem.Expr} {body : List Stmt} {Φ : Fl → Loc → Prop} {σ : Type} (I : σ → Loc) (m : σ → Nat) (P : σ → Prop) (c₀ : σ) (h0 : Sub (I c₀) ρ) (hp : P c₀)
    (turn : ∀ c, P c → ∃ b, Tst G env n (I c) t b ∧ (b = true → Exs G env n (I c) body (LoopPost Φ fun ρ' => ∃ c', m c' < m c ∧ P c' ∧ Sub (I c') ρ')) ∧ (b = false → ∀ ρ', Sub (I c) ρ' → Φ .next ρ')) : Ex G env n ρ (.While t body [] pos) Φ := by
  refine ex_while (fun k ρ' => ∃ c, k = m c ∧ P c ∧ Sub (I c) ρ') ⟨c₀, rfl, hp, h0⟩ ?_
  rintro k ρ' ⟨c, rfl, hpc, hsub⟩
  obtain ⟨b, ht, h1, h2⟩ := turn c hpc
  refine ⟨b, Tst.mk fun A Z H s R S => ht.run A Z H s R (S.weaken hsub), fun hb => ?_, fun hb => h2 hb ρ' hsub⟩
  refine exs_mono (exs_weaken hsub (h1 hb)) ?_
  rintro fl ρ'' h
  cases fl with
  | next => obtain ⟨c', hl, hp', hs'⟩ := h; exact ⟨m c', hl, c', rfl, hp', hs'⟩
  | cont => obtain ⟨c', hl, hp', hs'⟩ := h; exact ⟨m c', hl, c', rfl, hp', hs'⟩
  | brk => exact h
  | ret d => exact h

theorem then_next {Φ : Fl → Loc → Prop} {K : Loc → Prop} (h : K ρ) : Then Φ K .next ρ := h


-- cheap looks at the text
theorem star_cons {e : PySem.Expr} {es : List PySem.Expr} (h : isStarred e = false) : starEach (e :: es) env = (false, eval e env) :: starEach es env := by
  cases e <;> first | rfl | cases h
theorem star_all : ∀ {es : List PySem.Expr}, es.any isStarred = false → (starEach es env).any (·.1) = false
  | [], _ => rfl
  | e :: es, h => by
    rw [List.any_cons, Bool.or_eq_false_iff] at h
    rw [star_cons h.1, List.any_cons, star_all h.2]; rfl
theorem evs_more {e : PySem.Expr} {es : List PySem.Expr} {d : D} {ds : List D} (h : Ev G env n ρ e d) (h' : Evs G env n ρ es ds) (hs : isStarred e = false) : Evs G env n ρ (e :: es) (d :: ds) := evs_cons h h' (star_cons hs)
def isAttr : PySem.Expr → Bool
  | .Attribute .. => true
  | _ => false
theorem eval_call {f : PySem.Expr} {es : List PySem.Expr} (h : isAttr f = false) : eval (.Call f es [] pos) env = (do callWith pos (← eval f env) [] (backTo pos (starEach es env)) []) := by
  cases f <;> first | rfl | cases h
def isNameCall : PySem.Expr → Bool
  | .Call (.Name ..) [] [] _ => true
  | _ => false
theorem base_same {o : PySem.Expr} {name : Str} {t : Sem Value} (h : isNameCall o = false) : attributeBase o name env t = t := by
  unfold attributeBase
  split
  · rename_i h'; cases h
  · rfl
theorem form_all : ∀ {es : List PySem.Expr}, es.any isStarred = false → (backTo pos (starEach es env)).all (fun x => !x.1) = true
  | [], _ => rfl
  | e :: es, h => by
    rw [List.any_cons, Bool.or_eq_false_iff] at h
    rw [star_cons h.1]
    show (!false && (backTo pos (starEach es env)).all (fun x => !x.1)) = true
    rw [form_all h.2]; rfl
theorem eval_method {o : PySem.Expr} {name : Str} {es : List PySem.Expr} (hb : isNameCall o = false) (hst : es.any isStarred = false) (hlen : es.length < 30) (hline : (apos.endLine == pos.line) = true) :
    eval (.Call (.Attribute o name apos) es [] pos) env = (do
      let ov ← eval o env
      standAt apos.atName
      let (f, first) ← holding [ov] (getMethod ov name (do return (← importBound o env).getD true))
      callWith pos f first (backTo pos (starEach es env)) []) := by
  have hform : methodCallForm (es.length + ([] : List Keyword).length) (backTo pos (starEach es env)) (backToKw pos (keywordEach [] env)) = true := by
    unfold methodCallForm
    rw [form_all hst]
    have e : backToKw pos (keywordEach [] env) = [] := rfl
    rw [e]
    simpa using hlen
  show (do
    let ov ← attributeBase o name env (eval o env)
    standAt apos.atName
    methodCall o name apos pos env ov (es.length + ([] : List Keyword).length) (backTo pos (starEach es env)) (backToKw pos (keywordEach [] env))) = _
  rw [base_same hb]
  unfold methodCall calleeOf
  simp only [hform, if_true]
  have hp : methodCallPos true o env apos pos = pure pos := by unfold methodCallPos; simp [hline]
  simp only [hp, pure_bind]
  rfl

theorem ev_call {f : PySem.Expr} {es : List PySem.Expr} {a : Addr} {ds : List D} {d : D} (hf : Ev G env n ρ f (.fn a)) (h : Evs G env n ρ es ds) (hk : keepIn G.K (.ref a) = true) (hc : Fn G n a ds d) (hst : es.any isStarred = false) (ha : isAttr f = false) : Ev G env n ρ (.Call f es [] pos) d :=
  ev_callFn hf h hk hc (star_all hst) (eval_call ha)
theorem ev_bf {x : Str} {p : Pos} {id : String} {es : List PySem.Expr} {ds : List D} {d : D} (h : Evs G env n ρ es ds) (hc : BF G id ds d) (e : nsIn G.K mainGlobals x = some none) (hv : bootBuiltins x = some (.builtin id)) (hx : env.kindOf x = some .globalImplicit)
    (hd : ((x == ("__debug__" : Str)) || (x == ("__name__" : Str))) = false) (hst : es.any isStarred = false) : Ev G env n ρ (.Call (.Name x p) es [] pos) d :=
  ev_callBF h hc e hv (by rw [Bool.or_eq_false_iff] at hd; exact beq_eq_false_iff_ne.mp hd.2) hx (by rw [Bool.or_eq_false_iff] at hd; exact hd.1) (star_all hst) (eval_call rfl)
theorem ev_meth {o : PySem.Expr} {name : Str} {id : String} {es : List PySem.Expr} {d₀ : D} {ds : List D} {d : D} (ho : Ev G env n ρ o d₀) (h : Evs G env n ρ es ds) (g : GetM G name d₀ id) (hc : BF G id (d₀ :: ds) d)
    (hb : isNameCall o = false) (hst : es.any isStarred = false) (hlen : es.length < 30) (hline : (apos.endLine == pos.line) = true) : Ev G env n ρ (.Call (.Attribute o name apos) es [] pos) d :=
  ev_method ho g h hc (star_all hst) (eval_method hb hst hlen hline)
theorem ev_repl {o : PySem.Expr} {x y z : Str} {c c' : Nat} {p p' : Pos} (ho : Ev G env n ρ o (.str x)) (hb : x.length + (x.length + 1) * z.length ≤ 16777216) (hn : isNameCall o = false) (hline : (apos.endLine == pos.line) = true) :
    Ev G env n ρ (.Call (.Attribute o "replace" apos) [.Constant (.str y) c p, .Constant (.str z) c' p'] [] pos) (.str (Txt.replace x y z)) :=
  ev_replace ho hb (eval_method hn rfl (by show 2 < 30; decide) hline)

end
end Mine
end
section
open PySem PySem.W PyProof.Rows PySem.Builtin PySem.Builtin.Str
set_option linter.unusedVariables false
namespace Mine

/-- a text of code points -/
def T (l : List Nat) : Str := ⟨l.toArray⟩
theorem T_list (l : List Nat) : (T l).cps.toList = l := rfl
theorem T_length (l : List Nat) : (T l).length = l.length := by show l.toArray.size = _; simp
theorem T_of (x : Str) : T x.cps.toList = x := by cases x; simp [T]
theorem T_append (a b : List Nat) : T a ++ T b = T (a ++ b) := by
  show (⟨a.toArray ++ b.toArray⟩ : Str) = _
  simp [T]
theorem T_inj {a b : List Nat} (h : T a = T b) : a = b := by simpa [T_list] using congrArg (fun x => x.cps.toList) h
theorem T_one (c : Nat) : T [c] = ⟨#[c]⟩ := rfl
/-- each sign c becomes z -/
def sub1 (c : Nat) (z l : List Nat) : List Nat := l.flatMap fun k => if k = c then z else [k]
theorem sub1_append (c : Nat) (z a b : List Nat) : sub1 c z (a ++ b) = sub1 c z a ++ sub1 c z b := by simp [sub1]
theorem sub1_free (c : Nat) (z : List Nat) : ∀ {l : List Nat}, c ∉ l → sub1 c z l = l
  | [], _ => rfl
  | k :: r, h => by
    simp only [List.mem_cons, not_or] at h
    have ih := sub1_free c z h.2
    unfold sub1 at ih ⊢
    rw [List.flatMap_cons, ih, if_neg (Ne.symm h.1)]
    rfl
theorem join_list (z : List Nat) : ∀ parts : List (List Nat), (Str.join (T z) (parts.map T)) = T ((parts.intersperse z).flatten)
  | [] => rfl
  | [a] => by simp [Str.join]
  | a :: b :: r => by
    have ih := join_list z (b :: r)
    simp only [List.map_cons] at ih ⊢
    show T a ++ T z ++ Str.join (T z) (T b :: r.map T) = _
    rw [ih, T_append, T_append]
    simp [List.intersperse]
theorem sub1_join (c : Nat) (z : List Nat) : ∀ parts : List (List Nat), (∀ p ∈ parts, c ∉ p) → sub1 c z ((parts.intersperse [c]).flatten) = (parts.intersperse z).flatten
  | [], _ => rfl
  | [a], h => by simpa using sub1_free c z (h a (by simp))
  | a :: b :: r, h => by
    have ih := sub1_join c z (b :: r) fun p hp => h p (List.mem_cons_of_mem _ hp)
    have e1 : ((a :: b :: r).intersperse [c]).flatten = a ++ ([c] ++ ((b :: r).intersperse [c]).flatten) := by simp [List.intersperse]
    have e2 : ((a :: b :: r).intersperse z).flatten = a ++ (z ++ ((b :: r).intersperse z).flatten) := by simp [List.intersperse]
    rw [e1, e2, sub1_append, sub1_append, ih, sub1_free c z (h a (by simp))]
    simp [sub1]

theorem split_lists (l : List Nat) (c : Nat) : ∃ parts : List (List Nat), Txt.split (T l) ⟨#[c]⟩ = parts.map T ∧ (∀ p ∈ parts, c ∉ p) ∧ l = (parts.intersperse [c]).flatten := by
  refine ⟨(Txt.split (T l) ⟨#[c]⟩).map (fun x => x.cps.toList), ?_, ?_, ?_⟩
  · rw [List.map_map]
    conv => lhs; rw [← List.map_id (Txt.split (T l) ⟨#[c]⟩)]
    exact List.map_congr_left fun x _ => (T_of x).symm
  · intro p hp
    obtain ⟨x, hx, rfl⟩ := List.mem_map.mp hp
    exact StrLaws.split_free (T l) c x hx
  · have h := StrLaws.join_split (T l) ⟨#[c]⟩
    have e : Txt.split (T l) ⟨#[c]⟩ = ((Txt.split (T l) ⟨#[c]⟩).map (fun x => x.cps.toList)).map T := by
      rw [List.map_map]
      conv => lhs; rw [← List.map_id (Txt.split (T l) ⟨#[c]⟩)]
      exact List.map_congr_left fun x _ => (T_of x).symm
    rw [e, ← T_one, join_list] at h
    exact (T_inj h).symm

theorem repl_T (l z : List Nat) (c : Nat) : Txt.replace (T l) ⟨#[c]⟩ (T z) = T (sub1 c z l) := by
  obtain ⟨parts, h1, h2, h3⟩ := split_lists l c
  rw [StrLaws.replace_one, h1, join_list]
  conv => rhs; rw [h3]
  rw [sub1_join c z parts h2]

theorem tin_T (l : List Nat) (c : Nat) : tin ⟨#[c]⟩ (T l) = decide (c ∈ l) := StrLaws.found_one (T l) c

end Mine
end
section
open PySem PySem.W PyProof.Rows PySem.Builtin PySem.Builtin.Str
set_option linter.unusedVariables false
namespace Mine

abbrev Tbl := List (Nat × List Nat)
def spell (t : Tbl) (k : Nat) : List Nat := (t.lookup k).getD [k]
def escBy (t : Tbl) (l : List Nat) : List Nat := l.flatMap (spell t)
theorem escBy_nil (l : List Nat) : escBy [] l = l := by
  induction l with
  | nil => rfl
  | cons k r ih =>
    show [k] ++ escBy [] r = _
    rw [ih]; rfl
theorem escBy_cons (t : Tbl) (k : Nat) (r : List Nat) : escBy t (k :: r) = spell t k ++ escBy t r := by simp [escBy]
def okFor (t : Tbl) (c : Nat) : Bool := t.all fun p => !(p.2.contains c) && !(p.1 == c)
theorem lookup_snoc (t : Tbl) (c k : Nat) (z : List Nat) : (t ++ [(c, z)]).lookup k = (t.lookup k).or (if k = c then some z else none) := by
  rw [List.lookup_append]
  congr 1
  by_cases h : k = c
  · subst h; simp
  · rw [List.lookup_cons, beq_eq_false_iff_ne.mpr h, if_neg h]; rfl
theorem sub1_spell {t : Tbl} {c : Nat} {z : List Nat} (h : okFor t c = true) (k : Nat) : sub1 c z (spell t k) = spell (t ++ [(c, z)]) k := by
  unfold spell
  rw [lookup_snoc]
  cases hk : t.lookup k with
  | none =>
    by_cases q : k = c
    · subst q; simp [sub1]
    · simp [sub1, q]
  | some y =>
    have hm : (k, y) ∈ t := by
      clear h
      induction t with
      | nil => simp at hk
      | cons p r ih =>
        obtain ⟨a, b⟩ := p
        rw [List.lookup_cons] at hk
        by_cases q : k = a
        · subst q; simp at hk; subst hk; exact List.mem_cons_self
        · rw [beq_eq_false_iff_ne.mpr q] at hk; exact List.mem_cons_of_mem _ (ih hk)
    have := (List.all_eq_true.mp h) (k, y) hm
    simp only [Bool.and_eq_true, Bool.not_eq_true', List.contains_eq_mem, decide_eq_false_iff_not] at this
    simpa using sub1_free c z this.1
theorem sub1_esc {t : Tbl} {c : Nat} {z : List Nat} (h : okFor t c = true) (l : List Nat) : sub1 c z (escBy t l) = escBy (t ++ [(c, z)]) l := by
  induction l with
  | nil => rfl
  | cons k r ih => rw [escBy_cons, escBy_cons, sub1_append, ih, sub1_spell h]
theorem spell_le {t : Tbl} {m : Nat} (hm : 1 ≤ m) (h : t.all (fun p => decide (p.2.length ≤ m)) = true) (k : Nat) : (spell t k).length ≤ m := by
  unfold spell
  induction t with
  | nil => simpa using hm
  | cons p r ih =>
    obtain ⟨a, b⟩ := p
    simp only [List.all_cons, Bool.and_eq_true, decide_eq_true_eq] at h
    rw [List.lookup_cons]
    cases q : k == a with
    | true => exact h.1
    | false => exact ih h.2
theorem esc_le {t : Tbl} {m : Nat} (hm : 1 ≤ m) (h : t.all (fun p => decide (p.2.length ≤ m)) = true) (l : List Nat) : (escBy t l).length ≤ m * l.length := by
  induction l with
  | nil => simp [escBy]
  | cons k r ih =>
    rw [escBy_cons, List.length_append, List.length_cons, Nat.mul_succ]
    have := spell_le hm h k
    omega

section
variable {G : Gnd} {env : Env} {ρ : Loc} {n : Nat}
/-- one row of an escape -/
theorem esc_step {l : List Nat} {t : Tbl} {c : Nat} {z : List Nat} {x cs zs : Str} {i1 i2 i3 : Nat} {p1 p2 p3 p4 p5 apos pos spos pos' : Pos} {rest : List Stmt} {Φ : Fl → Loc → Prop}
    (hl : ρ.lookup x = some (.val (.str (T (escBy t l))))) (hcs : cs = ⟨#[c]⟩) (hzs : zs = T z) (hok : okFor t c = true) (hm : t.all (fun p => decide (p.2.length ≤ 8)) = true) (hz : z.length ≤ 8) (hsz : l.length ≤ 100000)
    (hd : (x == ("__debug__" : Str)) = false) (hc : Can env x) (hline : (apos.endLine == pos.line) = true)
    (k : Exs G env n (upd ρ x (.val (.str (T (escBy (t ++ [(c, z)]) l))))) rest Φ) :
    Exs G env n ρ (.If (.Compare (.Constant (.str cs) i1 p1) [.In] [.Name x p2] p3) [.Assign [.Name x p4] (.Call (.Attribute (.Name x p5) "replace" apos) [.Constant (.str cs) i2 p1', .Constant (.str zs) i3 p2'] [] pos) spos] [] pos' :: rest) Φ := by
  have hb : (T (escBy t l)).length + ((T (escBy t l)).length + 1) * zs.length ≤ 16777216 := by
    have h1 := esc_le (m := 8) (by decide) hm l
    rw [hzs, T_length, T_length]
    have h2 : ((escBy t l).length + 1) * z.length ≤ (8 * l.length + 1) * 8 := Nat.mul_le_mul (by omega) hz
    omega
  have hr : Txt.replace (T (escBy t l)) cs zs = T (escBy (t ++ [(c, z)]) l) := by rw [hcs, hzs, repl_T, sub1_esc hok]
  refine exs_cons (ex_if (tst_cmp ev_str (ev_name hl hd) op_in_str rfl) (fun _ => ?_) fun hf => ?_)
  · refine exs_cons (ex_assign (ev_repl (ev_name hl hd) hb rfl hline) hc rfl ?_)
    refine exs_nil ?_
    rw [hr]
    exact k
  · refine exs_nil ?_
    refine exs_weaken ?_ k
    have : T (escBy (t ++ [(c, z)]) l) = T (escBy t l) := by
      rw [hcs, tin_T, decide_eq_false_iff_not] at hf
      rw [← sub1_esc hok, sub1_free c z hf]
    rw [this]
    intro y b e
    rw [lookup_upd] at e
    by_cases q : y = x
    · subst q; rw [if_pos rfl] at e; cases e; exact hl
    · rw [if_neg q] at e; exact e
end
end Mine
end
section
open PySem PySem.W PyProof.Rows
set_option linter.unusedVariables false
namespace Mine

theorem ns_none_of {K : Frag} {h : Heap} {a : Addr} {mc : Str → Option Value} {n : Str} (X : K.In h) (G : h.Ns a mc) (e : nsIn K a n = some none) : mc n = none := by
  obtain ⟨o, es, ep, ho, hd, _, hf⟩ := G
  unfold nsIn at e
  split at e
  · rename_i c dd es' ep' sl hk
    have := X _ _ hk
    rw [ho] at this
    cases this
    cases hd
    split at e
    · cases e
    · rename_i hfind
      rw [← hf]
      unfold nsFind findBy
      rw [← Array.find?_toList, hfind]
      rfl
  · cases e

theorem repAll_ints {G : Gnd} {Z : Zf} : ∀ {vs : List Value} {ns : List Int}, IntsAre vs ns → RepAll G Z vs (ns.map .int)
  | _, _, .nil => .nil
  | _, _, .cons n t r => .cons (.int n t) (repAll_ints r)

theorem finish {prog : Program} {w : World} {K : Frag} {p : Program} {loose : List Str} {mg mb : Str → Option Value} {s₁ : Shared} {f a : Addr} {vs : List Value} {ns : List Int} {k n : Nat} {c : ClaimW} {cl : Str → Option Addr} {mean : ExcName → Option Value} {args : List WData}
    (KX : K.In s₁.heap) (T : TopRead p loose mg mb s₁.heap) (hst : nsIn K cStatics sharingNotToldKey = some none) (hg : s₁.gens = #[]) (htk : 0 < s₁.toks) (ho : s₁.heap.get? a = some (listOf vs.toArray k)) (hI : IntsAre vs ns)
    (hn : ∀ cls, c.raises args cls = false) (hp : c.post args (.bool true) args = true) (hr : n ≤ 100)
    (h : ∀ nb, Fn ⟨prog, w, K, p, loose, mg, mb, s₁.heap, s₁.os, KX, T, nb, 0⟩ n f [.list (ns.map .int)] (.bool true)) :
    wpAny (model prog w) callerA (call (.ref f) [.ref a]) (fun v s' => GoodWG c cl mean args s₁ (.ok (.ret v)) s') (fun e s' => GoodWG c cl mean args s₁ (.error e) s') s₁ := by
  have nb : NoneBooked s₁.heap := by
    obtain ⟨mc, hm, _⟩ := T.nolimit
    exact ⟨mc, hm, ns_none_of KX hm hst⟩
  have H := h nb
  refine wp_seq (H.run callerA (fun b => if b = a then some (listOf vs.toArray k) else none) s₁ [.ref a] ⟨rfl, ?_, ?_, rfl⟩ ⟨hg, rfl, htk, fun b o e => ?_, fun b o e => e⟩ (.cons (.list (if_pos rfl) (repAll_ints hI)) .nil)) fun v s' ⟨Z', x, r⟩ => ?_
  · show 1 + claimMargin + n < recursionLimit
    have : claimMargin = 300 := rfl
    have : recursionLimit = 1000 := rfl
    omega
  · show 4 + 8 * n < cLine
    have : cLine = 9900 := rfl
    omega
  · by_cases q : b = a
    · subst q; rw [if_pos rfl] at e; cases e; exact ho
    · rw [if_neg q] at e; cases e
  · cases r
    refine GoodW.toG ⟨.inl ⟨_, _, [], rfl, hn, .bool true, hp, unshared_nil⟩, fun b o e => x.keep b o e, x.os, x.gens.trans hg⟩
end Mine
end
section
open PySem PySem.W PyProof.Rows
set_option linter.unusedVariables false
set_option maxRecDepth 100000
namespace Mine
section
variable {G : Gnd} {env : Env} {Z Z' H : Zf} {ρ ρ' : Loc} {s s' : Shared} {A : Around} {E : Value → Shared → Prop} {n : Nat} {pos apos : Pos}

/-- data that need no heap -/
def Atom : D → Bool
  | .none | .bool _ | .int _ | .str _ | .bytes _ => true
  | _ => false
theorem rep_atom {v : Value} {d : D} (h : Atom d = true) (r : Rep G Z v d) : Rep G Z' v d := by
  cases r <;> first | exact .none | exact .bool _ | exact .int _ _ | exact .str _ _ | exact .bytes _ _ | cases h

/-- an owned list is frozen for good -/
theorem exs_freeze {x : Str} {ds : List D} {sts : List Stmt} {Φ : Fl → Loc → Prop} (hx : ρ.lookup x = some (.own ds)) (h : Exs G env n (upd ρ x (.val (.list ds))) sts Φ) : Exs G env n ρ sts Φ :=
  Exs.mk fun A Z H s R S => by
    obtain ⟨Z', le, S', _⟩ := S.freeze hx
    exact wp_seq (h.run A Z' H s R S') fun f s₁ ⟨Z₁, ρ₁, fl, le₁, S₁, hf, hΦ⟩ => ⟨Z₁, ρ₁, fl, le.trans le₁, S₁, hf, hΦ⟩

theorem Has.uniq {h : Heap} {x : Str} {u v : Value} (a : Has env h x u) (b : Has env h x v) : u = v := by
  rcases a with ⟨k, m, hn, e⟩ | ⟨k, c, e, hn⟩ <;> rcases b with ⟨k', m', hn', e'⟩ | ⟨k', c', e', hn'⟩
  · rw [ns_uniq hn hn', e'] at e; exact (Option.some.inj e).symm
  · rcases k' with k' | k' <;> simp_all
  · rcases k with k | k <;> simp_all
  · rw [e] at e'; cases e'
    obtain ⟨o, ho1, ho2⟩ := hn
    obtain ⟨o', ho1', ho2'⟩ := hn'
    rw [ho1] at ho1'; cases ho1'
    rw [ho2] at ho2'
    simpa using ho2'

/-- x = [..], a list that the frame alone holds -/
theorem ex_assign_own {x : Str} {p q : Pos} {es : List PySem.Expr} {ds : List D} {Φ : Fl → Loc → Prop} (h : Evs G env n ρ es ds) (hsz : ds.length ≤ sizeLine) (hc : Can env x) (k : Φ .next (upd ρ x (.own ds))) :
    Ex G env n ρ (.Assign [.Name x p] (.List es q) pos) Φ := by
  constructor
  intro A Z H s R S
  refine wpAny_Assign_Name (List_ (wp_seq (h.run A Z H s q R S) fun vs s₁ ⟨Z₁, x₁, r₁⟩ => ?_)) rfl
  have S₁ := S.ext x₁
  refine wpAny_newObj_type ?_ (by show vs.toArray.size ≤ sizeLine; rw [List.size_toArray, r₁.length]; exact hsz)
  have S₂ := S₁.ext (Ext.push (o := { cls := .type "list", data := .seq vs.toArray }) (t := s₁.toks) S₁.zin (Nat.le_refl _))
  have hn : s₁.heap.get? s₁.heap.objs.size = none := get?_size_none _
  have new : ∀ {b : Addr} {o : Obj}, s₁.heap.get? b = some o → s₁.heap.objs.size ≠ b := fun e q => by rw [q, e] at hn; cases hn
  refine wp_seq (st_storeOwn (a := s₁.heap.objs.size) (vs := vs) (n := 0) (ds := ds) S₂ ?_ ?_ ?_ ?_ ?_ (Heap.get?_push_size _ rfl) r₁ hc) fun _ s₃ S₃ => ⟨Z₁, _, _, x₁.le, S₃, .next, k⟩
  · cases q : Z₁ s₁.heap.objs.size with
    | none => rfl
    | some o => exact absurd rfl (new (S₁.zin _ _ q))
  · cases q : H s₁.heap.objs.size with
    | none => rfl
    | some o => exact absurd rfl (new (S₁.hin _ _ q))
  · obtain ⟨m, o, _, _, e, _⟩ := S₁.ns
    exact new e
  · intro y c e
    obtain ⟨_, h1, h2⟩ := S₁.cells y c e
    cases hf : env.func.isSome with
    | true => obtain ⟨_, _, v, ob, e2, _⟩ := h1 hf; exact new e2
    | false => obtain ⟨ob, e2⟩ := h2 hf; exact new (S₁.hin _ _ e2)
  · intro y es v hy hv
    obtain ⟨oa, _, ho⟩ := S₁.owns
    obtain ⟨h1, _, _, _, _, vs', k', h6, _⟩ := ho y es hy
    have h1' := h1.keeps (h' := (s₁.heap.push { cls := .type "list", data := .seq vs.toArray })) fun b o e => Heap.get?_push_of_some _ e
    have : v = .ref (oa y) := hv.uniq h1'
    subst this
    intro q
    exact absurd (Value.ref.inj q).symm (new h6)

/-- what a method does to a list -/
structure Mut (G : Gnd) (id : String) (ds args : List D) (ds' : List D) : Prop where
  run : ∀ A Z s a vs k args', Room 0 A → Bs G Z s → Z a = none → s.heap.get? a = some (listOf vs.toArray k) → RepAll G Z vs ds → RepAll G Z args' args →
    wpAny (model G.prog G.w) A (call (.builtin id) (.ref a :: args')) (fun r s' => ∃ vs' k', s'.heap.get? a = some (listOf vs'.toArray k') ∧ RepAll G Z vs' ds' ∧ (∃ h' t, s' = { s with heap := h', toks := t } ∧ s.toks ≤ t ∧ Heap.SameBut a s.heap h')) (fun _ _ => False) s

theorem St.mutate {x : Str} {ds' : List D} {h' : Heap} {t : Nat} {vs' : List Value} {k' : Nat} (S : St G env Z H ρ s) (oa : Str → Addr) (hi : ∀ x y ds es, ρ.lookup x = some (.own ds) → ρ.lookup y = some (.own es) → oa x = oa y → x = y)
    (ho : ∀ x ds, ρ.lookup x = some (.own ds) → Has env s.heap x (.ref (oa x)) ∧ Z (oa x) = none ∧ H (oa x) = none ∧ oa x ≠ env.locals ∧ (∀ y c, env.cells.lookup y = some c → oa x ≠ c) ∧
      ∃ vs n, s.heap.get? (oa x) = some (listOf vs.toArray n) ∧ RepAll G Z vs ds) {ds : List D} (hx : ρ.lookup x = some (.own ds)) (hg : h'.get? (oa x) = some (listOf vs'.toArray k')) (hr : RepAll G Z vs' ds') (ht : s.toks ≤ t) (hs : Heap.SameBut (oa x) s.heap h') :
    St G env Z H (upd ρ x (.own ds')) { s with heap := h', toks := t } := by
  obtain ⟨h1, h2, h3, h4, h5, vs, k, h6, h7⟩ := ho x ds hx
  have has : ∀ y v, Has env s.heap y v → Has env h' y v := fun y v q => by
    rcases q with ⟨k, m, hn, e⟩ | ⟨k, c, e, hn⟩
    · exact .inl ⟨k, m, hn.sameBut hs (Ne.symm h4), e⟩
    · exact .inr ⟨k, c, e, hn.sameBut hs (Ne.symm (h5 y c e))⟩
  refine S.put ht hs h2 h3 (let ⟨m, hn⟩ := S.ns; ⟨m, hn.sameBut hs (Ne.symm h4)⟩) (fun y c e hf => ?_) (fun y d e => ?_) ⟨oa, ?_, ?_⟩
  · obtain ⟨_, g1, _⟩ := S.cells y c e
    obtain ⟨_, _, v, hv⟩ := g1 hf
    exact ⟨v, hv.sameBut hs (Ne.symm (h5 y c e))⟩
  · rw [lookup_upd] at e
    by_cases q : y = x
    · rw [if_pos q] at e; cases e
    · rw [if_neg q] at e
      obtain ⟨v, hv, r⟩ := S.vars y d e
      exact ⟨v, has y v hv, r⟩
  · intro y z es es' ey ez q
    rw [lookup_upd] at ey ez
    by_cases qy : y = x <;> by_cases qz : z = x
    · rw [qy, qz]
    · rw [if_neg qz] at ez; rw [qy] at q ⊢; exact hi x z _ _ hx ez q
    · rw [if_neg qy] at ey; rw [qz] at q ⊢; exact hi y x _ _ ey hx q
    · rw [if_neg qy] at ey; rw [if_neg qz] at ez; exact hi y z _ _ ey ez q
  · intro y es e
    rw [lookup_upd] at e
    by_cases q : y = x
    · subst q
      rw [if_pos rfl] at e; cases e
      exact ⟨has _ _ h1, h2, h3, h4, h5, vs', k', hg, hr⟩
    · rw [if_neg q] at e
      obtain ⟨g1, g2, g3, g4, g5, us, j, g6, g7⟩ := ho y es e
      exact ⟨has _ _ g1, g2, g3, g4, g5, us, j, (hs.2 _ fun z => q (hi y x _ _ e hx z)).trans g6, g7⟩

theorem wp_own {x : Str} {p : Pos} {a : Addr} {Q : Value → Shared → Prop} {M : Model} (S : St G env Z H ρ s) (hv : Has env s.heap x (.ref a)) (hd : (x == ("__debug__" : Str)) = false) (h : Q (.ref a) s) : wpAny M A (eval (.Name x p) env) Q E s := by
  refine wpAny_Name ?_ hd
  rcases hv with ⟨k, m, n, e⟩ | ⟨k, c, e, n⟩
  · exact wpAny_loadName_local S.fk k n e h
  · rcases k with k | k
    · exact wpAny_loadName_cell S.fk k e n h
    · exact wpAny_loadName_free S.fk k.1 e n h k.2

/-- x.method(..) of an owned list, as a statement -/
theorem ex_mut {x name : Str} {p pos' : Pos} {id : String} {es : List PySem.Expr} {ds args ds' : List D} {Φ : Fl → Loc → Prop} (hx : ρ.lookup x = some (.own ds)) (slot : Slot "list" name id) (hty : typeOf (.builtin id) = pure (.type "method_descriptor"))
    (h : Evs G env n ρ es args) (hm : Mut G id ds args ds') (hd : (x == ("__debug__" : Str)) = false) (hst : es.any isStarred = false) (hlen : es.length < 30) (hline : (apos.endLine == pos.line) = true) (hin : interactive env = false)
    (k : Φ .next (upd ρ x (.own ds'))) : Ex G env n ρ (.Expr (.Call (.Attribute (.Name x p) name apos) es [] pos) pos') Φ := by
  constructor
  intro A Z H s R S
  refine wpAny_Expr_any ?_ hin rfl
  rw [eval_method rfl hst hlen hline]
  obtain ⟨oa, hi, ho⟩ := S.owns
  obtain ⟨h1, h2, h3, h4, h5, vs, j, h6, h7⟩ := ho x ds hx
  refine wpAny_bind (wp_own S h1 hd (wpAny_bind (wpAny_standAt (wpAny_bind (wpAny_holding ?_)))))
  have hl := isList_of h6
  refine getMethod_builtin hl.typeIs F.plainAttrs_list slot hty (fun a e => by cases e; exact ⟨_, h6, rfl⟩) ?_
  refine Calls.callWith_builtin (starred_none (star_all hst) pos) (wp_evalArgs (starred_none (star_all hst) pos) (wp_seq (h.run A Z H s pos R S) fun us s₂ ⟨Z₂, x₂, r₂⟩ => ?_))
  have S₂ := S.ext x₂
  have n2 : ∀ y es, ρ.lookup y = some (.own es) → Has env s₂.heap y (.ref (oa y)) ∧ Z₂ (oa y) = none ∧ H (oa y) = none ∧ oa y ≠ env.locals ∧ (∀ z c, env.cells.lookup z = some c → oa y ≠ c) ∧
      ∃ vs n, s₂.heap.get? (oa y) = some (listOf vs.toArray n) ∧ RepAll G Z₂ vs es := fun y es e => by
    obtain ⟨g1, g2, g3, g4, g5, us, j, g6, g7⟩ := ho y es e
    exact ⟨g1.keeps x₂.keep, ext_none x₂ g2 ⟨_, g6⟩, g3, g4, g5, us, j, x₂.keep _ _ g6, g7.mono x₂.le⟩
  refine wp_seq (hm.run A Z₂ s₂ (oa x) vs j us (R.less (Nat.zero_le _)) S₂.bs (n2 x ds hx).2.1 (x₂.keep _ _ h6) (h7.mono x₂.le) r₂) fun r s₃ ⟨vs', k', e1, e2, h', t, e3, e4, e5⟩ => ?_
  subst e3
  exact ⟨Z₂, _, .next, x₂.le, S₂.mutate oa hi n2 hx e1 e2 e4 e5, .next, k⟩

theorem upd_list {h : Heap} {l : Addr} {its its' : Array Value} {k : Nat} (x : h.get? l = some (listOf its k)) (f : Array Value → Array Value) (e : f its = its') : ∃ k', (h.update l (Obj.mapSeq f)).get? l = some (listOf its' k') := by
  subst e
  exact ⟨_, PySem.IsL.update (n := k) x f⟩
theorem mut_append {ds : List D} {d : D} (hsz : ds.length ≤ sizeLine) : Mut G "list.append" ds [d] (ds ++ [d]) := Mut.mk fun A Z s a vs k args R b hz ho r ra => by
  cases ra with
  | @cons v _ _ _ rv rr =>
    cases rr
    refine call_meets F.slot_list_append (isList_of ho).typeIs F.entry_list_append (F.args_list_append_2 _ _) (PySem.AutoListH.list_append_list_val_0 a vs.toArray k v (by rw [List.size_toArray, r.length]; exact hsz)) ⟨ho, ?_⟩
    have hg := PySem.IsL.update (n := k) ho (·.push v)
    rw [show vs.toArray.push v = (vs ++ [v]).toArray by simp] at hg
    exact ⟨vs ++ [v], _, hg, r.append (.cons rv .nil), _, _, rfl, Nat.le_refl _, Heap.SameBut.update ..⟩
-- several targets
structure Asgs (G : Gnd) (env : Env) (ts : List PySem.Expr) (ds : List D) (ρ ρ' : Loc) : Prop where
  run : ∀ A Z H s vs, Room 0 A → St G env Z H ρ s → RepAll G Z vs ds → wpAny (model G.prog G.w) A (assignInOrder ((assignEach ts env).map (·.2)) vs) (fun _ s' => ∃ Z', Zle Z Z' ∧ St G env Z' H ρ' s') (fun _ _ => False) s
  len : (assignEach ts env).length = ds.length
  star : (assignEach ts env).findIdx? (·.1) = none
theorem asgs_nil : Asgs G env [] [] ρ ρ := ⟨fun A Z H s vs R S r => wpAny_pure ⟨Z, Zle.same, S⟩, rfl, rfl⟩
theorem asgs_cons {t : PySem.Expr} {ts : List PySem.Expr} {d : D} {ds : List D} {ρ'' : Loc} (h : Asg G env t d ρ ρ') (hs : Asgs G env ts ds ρ' ρ'') (hst : isStarred t = false) : Asgs G env (t :: ts) (d :: ds) ρ ρ'' := by
  have e : assignEach (t :: ts) env = (false, assign t env) :: assignEach ts env := by cases t <;> first | rfl | cases hst
  refine ⟨fun A Z H s vs R S r => ?_, ?_, ?_⟩
  · cases r with
    | cons r rs =>
      rw [e]
      refine assignInOrder_cons (wp_seq (h.run A Z H s _ R S r) fun _ s₁ ⟨Z₁, le₁, S₁⟩ => ?_)
      exact wp_seq (hs.run A Z₁ H s₁ _ R S₁ (rs.mono le₁)) fun _ s₂ ⟨Z₂, le₂, S₂⟩ => ⟨Z₂, le₁.trans le₂, S₂⟩
  · rw [e, List.length_cons, List.length_cons, hs.len]
  · rw [e, List.findIdx?_cons, hs.star]; rfl
theorem asg_tuple {ts : List PySem.Expr} {ds : List D} {k : Nat} (h : Asgs G env ts ds ρ ρ') : Asg G env (.Tuple ts k pos) (.tup ds) ρ ρ' := Asg.mk fun A Z H s v R S r => by
  cases r with
  | @tup a vs j _ hz ra =>
    have ht := isTuple_of (S.zin _ _ hz)
    refine wpAny_assign_Tuple R.handled ht (by rw [h.len, List.size_toArray, ra.length]) h.star fun h' he => ?_
    have x : Ext Z s Z { s with heap := h' } := ⟨Zle.same, fun b o e => he b o (fun q => by rw [q, get?_size_none] at e; cases e) e, fun b o e => he b o (fun q => by have := S.zin b o e; rw [q, get?_size_none] at this; cases this) (S.zin b o e), fun _ _ h => .inl h, rfl, rfl, Nat.le_refl _⟩
    exact h.run A Z H _ vs R (S.ext x) ra

end
end Mine
end
section
open PySem PySem.W PyProof.Rows PySem.Builtin PySem.Builtin.Str PySem.StrLaws
set_option linter.unusedVariables false
namespace Mine

def prep (u : List Nat) : List (List Nat) → List (List Nat)
  | [] => [u]
  | h :: t => (u ++ h) :: t
theorem prep_prep (u v : List Nat) (x : List (List Nat)) : prep u (prep v x) = prep (u ++ v) x := by
  cases x <;> simp [prep]

/-- the parts between the places of p, from the left -/
def splitG (p l : List Nat) : List (List Nat) :=
  if h : p ≠ [] ∧ p.isPrefixOf l = true then [] :: splitG p (l.drop p.length)
  else match l with
    | [] => [[]]
    | c :: r => prep [c] (splitG p r)
termination_by l.length
decreasing_by
  · obtain ⟨h1, h2⟩ := h
    have := (List.isPrefixOf_iff_prefix.mp h2).length_le
    cases p with
    | nil => exact absurd rfl h1
    | cons a q => simp at this ⊢; omega
  · simp

theorem splitG_hit {p l : List Nat} (h1 : p ≠ []) (h2 : p <+: l) : splitG p l = [] :: splitG p (l.drop p.length) := by
  rw [splitG, dif_pos ⟨h1, List.isPrefixOf_iff_prefix.mpr h2⟩]
theorem splitG_nil {p : List Nat} (h1 : p ≠ []) : splitG p [] = [[]] := by
  rw [splitG, dif_neg]
  rintro ⟨_, h⟩
  exact h1 (List.prefix_nil.mp (List.isPrefixOf_iff_prefix.mp h))
theorem splitG_miss {p r : List Nat} {c : Nat} (h : ¬ p <+: c :: r) : splitG p (c :: r) = prep [c] (splitG p r) := by
  rw [splitG, dif_neg]
  rintro ⟨_, h'⟩
  exact h (List.isPrefixOf_iff_prefix.mp h')
theorem splitG_ne (p l : List Nat) (h1 : p ≠ []) : ∃ a r, splitG p l = a :: r := by
  by_cases h : p <+: l
  · exact ⟨_, _, splitG_hit h1 h⟩
  · cases l with
    | nil => exact ⟨_, _, splitG_nil h1⟩
    | cons c r =>
      rw [splitG_miss h]
      cases splitG p r with
      | nil => exact ⟨_, _, rfl⟩
      | cons a q => exact ⟨_, _, rfl⟩
/-- nothing begins in u -/
theorem splitG_skip {p : List Nat} (h1 : p ≠ []) : ∀ (u l : List Nat), (∀ k, k < u.length → ¬ p <+: (u ++ l).drop k) → splitG p (u ++ l) = prep u (splitG p l)
  | [], l, _ => by
    obtain ⟨a, r, e⟩ := splitG_ne p l h1
    rw [List.nil_append, e]; rfl
  | c :: u, l, h => by
    have h0 := h 0 (by simp)
    rw [List.cons_append, splitG_miss (by simpa using h0), splitG_skip h1 u l fun k hk => by simpa using h (k + 1) (by simpa using hk), prep_prep]
    rfl

theorem at_iff (l p : List Nat) (k : Nat) (h1 : p ≠ []) : At (T l) (T p) (T l).length k ↔ p <+: l.drop k := by
  unfold At
  rw [subAt_eq, T_length, T_length, T_list, T_list]
  constructor
  · rintro ⟨_, h⟩
    exact ⟨_, by rw [← beq_iff_eq.mp h]; exact List.take_append_drop _ _⟩
  · rintro ⟨t, h⟩
    have hl : (l.drop k).length = p.length + t.length := by rw [← h]; simp
    rw [List.length_drop] at hl
    have : 0 < p.length := List.length_pos_iff.mpr h1
    refine ⟨by omega, ?_⟩
    rw [← h, List.take_left]
    simp

theorem parts_split (l p : List Nat) (h1 : p ≠ []) : ∀ (cuts : List Nat) (a f : Nat), a ≤ l.length → ChainG (T l) (T p) (T l).length a cuts f → (∀ k, f ≤ k → ¬ At (T l) (T p) (T l).length k) →
    (partsFrom (T l) (T p).length a cuts) = (splitG p (l.drop a)).map T
  | [], a, f, ha, h, hn => by
    have e : f = a := h
    subst e
    have : splitG p (l.drop f) = [l.drop f] := by
      have := splitG_skip h1 (l.drop f) [] fun k hk => by
        rw [List.append_nil, List.drop_drop]
        exact fun q => hn (f + k) (by omega) ((at_iff l p _ h1).mpr q)
      rw [List.append_nil, splitG_nil h1] at this
      rw [this]; simp [prep]
    rw [this]
    show [strSub (T l) f (T l).length] = [T (l.drop f)]
    congr 1
    rw [← T_of (strSub (T l) f (T l).length), strSub_toList, T_list, T_length]
    congr 1
    exact List.take_of_length_le (by simp)
  | c :: r, a, f, ha, h, hn => by
    obtain ⟨h2, h3, h4, h5⟩ := h
    have hp := (at_iff l p c h1).mp h3
    have hc : c + p.length ≤ l.length := by
      have := h3.1
      rwa [T_length, T_length] at this
    have ih := parts_split l p h1 r (c + (T p).length) f (by rw [T_length]; exact hc) h5 hn
    show strSub (T l) a c :: partsFrom (T l) (T p).length (c + (T p).length) r = _
    rw [ih, T_length]
    have e : l.drop a = (l.drop a).take (c - a) ++ l.drop c := by
      conv => lhs; rw [← List.take_append_drop (c - a) (l.drop a)]
      rw [List.drop_drop, show a + (c - a) = c by omega]
    have hl : ((l.drop a).take (c - a)).length = c - a := by rw [List.length_take, List.length_drop]; omega
    have hs := splitG_skip h1 ((l.drop a).take (c - a)) (l.drop c) fun k hk => by
      rw [← e, List.drop_drop]
      rw [hl] at hk
      exact fun q => h4 (a + k) (by omega) (by omega) ((at_iff l p _ h1).mpr q)
    rw [← e] at hs
    rw [hs, splitG_hit h1 hp, List.drop_drop]
    show _ = T ((l.drop a).take (c - a) ++ []) :: _
    rw [List.append_nil, ← T_of (strSub (T l) a c), strSub_toList, T_list]

theorem kind_le (x y : List Nat) (h : ∀ c ∈ y, c ∈ x) : Str.strKind (T y) ≤ Str.strKind (T x) := by
  have key : ∀ B : Nat, (T x).cps.all (· < B) = true → (T y).cps.all (· < B) = true := fun B hB => by
    rw [← Array.all_toList] at hB ⊢
    rw [List.all_eq_true] at hB ⊢
    exact fun c hc => hB c (h c hc)
  unfold Str.strKind
  split
  · split <;> (try split) <;> omega
  · rename_i n1
    rw [if_neg fun q => n1 (key _ q)]
    split
    · split <;> omega
    · rename_i n2
      rw [if_neg fun q => n2 (key _ q)]
      exact Nat.le_refl _

theorem split_T (l p : List Nat) (h1 : p ≠ []) : Txt.split (T l) (T p) = (splitG p l).map T := by
  have hw : 1 ≤ (T p).length := by rw [T_length]; exact List.length_pos_iff.mpr h1
  obtain ⟨f, hc, hn⟩ := occ_tight (T l) (T p) hw
  have main := parts_split l p h1 _ 0 f (Nat.zero_le _) hc hn
  rw [List.drop_zero] at main
  rw [← main]
  have whole : ∀ o, o = [] → [T l] = partsFrom (T l) (T p).length 0 o := fun o e => by
    subst e
    show _ = [strSub (T l) 0 (T l).length]
    rw [sub_whole]
  unfold Txt.split
  split
  · rename_i hx
    refine whole _ ?_
    cases ho : occurrences (T l) (T p) 0 (T l).length ((T l).length + 1) with
    | nil => rfl
    | cons c r =>
      exfalso
      rw [ho] at hc
      have hp := (at_iff l p c h1).mp hc.2.1
      rw [Bool.or_eq_true, decide_eq_true_eq, decide_eq_true_eq] at hx
      rcases hx with hx | hx
      · have := hc.2.1.1
        omega
      · have : Str.strKind (T p) ≤ Str.strKind (T l) := kind_le l p fun c' hc' => List.mem_of_mem_drop (hp.subset hc')
        omega
  · split
    · rename_i he
      exact whole _ (List.isEmpty_iff.mp he)
    · rw [partsBetween_eq]

end Mine
end
section
open PySem PySem.W PyProof.Rows PySem.Builtin PySem.Builtin.Str PySem.StrLaws
set_option linter.unusedVariables false
namespace Mine

/-- p cannot begin in u, whatever stands behind u -/
def apart (p u : List Nat) : Bool := (List.range u.length).all fun j => !(p.isPrefixOf (u.drop j)) && !((u.drop j).isPrefixOf p)
def cs (x : Str) : List Nat := x.cps.toList
end Mine
end
section
open PySem PySem.W PyProof.Rows PySem.Builtin PySem.Builtin.Str
set_option linter.unusedVariables false
set_option maxRecDepth 100000
namespace Mine
section
variable {G : Gnd} {env : Env} {Z Z' H : Zf} {ρ ρ' ρc : Loc} {s s' : Shared} {A : Around} {E : Value → Shared → Prop} {n : Nat} {pos apos : Pos}

theorem fmod_bounds {a m : Int} (hm : 0 < m) : 0 ≤ a.fmod m ∧ a.fmod m < m := ⟨Int.fmod_nonneg_of_pos a hm, Int.fmod_lt_of_pos a hm⟩
/-- one of a row of texts, by a remainder -/
theorem sb_menu {value slice : PySem.Expr} {xs : List Str} {a m : Int} (hm : m = (xs.length : Int)) (h0 : 0 < xs.length) (hb : xs.length < 1000000) : Sb G value slice (.list (txs xs)) (.int (a.fmod m)) (.str (xs.getD (a.fmod m).toNat Str.empty)) := by
  have := fmod_bounds (a := a) (m := m) (by omega)
  refine sb_list this.1 (by omega) ?_
  rw [List.getElem?_map]
  have hlt : (a.fmod m).toNat < xs.length := by omega
  rw [List.getElem?_eq_getElem hlt, List.getD_eq_getElem?_getD, List.getElem?_eq_getElem hlt]
  rfl
theorem ev_ifint {t b o : PySem.Expr} {c : Bool} {i j : Int} (h : Tst G env n ρ t c) (h₁ : c = true → Ev G env n ρ b (.int i)) (h₂ : c = false → Ev G env n ρ o (.int j)) : Ev G env n ρ (.IfExp t b o pos) (.int (if c then i else j)) := by
  have := ev_ifexp (pos := pos) h h₁ h₂
  cases c <;> exact this
def codeOf (i : Int) : Int := if decide (i < 55296) = true then i else i + 2048
theorem codeOf_bounds (a : Int) : 0 ≤ codeOf (a.fmod 1112064) ∧ codeOf (a.fmod 1112064) ≤ 1114111 := by
  have := fmod_bounds (a := a) (m := 1112064) (by decide)
  unfold codeOf
  split <;> omega
theorem ex_append {x : Str} {p pos' : Pos} {e : PySem.Expr} {ds : List D} {Φ : Fl → Loc → Prop} (d : D) (hx : ρ.lookup x = some (.own ds)) (h : Ev G env n ρ e d) (hsz : ds.length ≤ sizeLine)
    (hd : (x == ("__debug__" : Str)) = false) (hst : isStarred e = false) (hline : (apos.endLine == pos.line) = true) (hin : interactive env = false)
    (k : Φ .next (upd ρ x (.own (ds ++ [d])))) : Ex G env n ρ (.Expr (.Call (.Attribute (.Name x p) "append" apos) [e] [] pos) pos') Φ :=
  ex_mut hx F.slot_list_append F.type_list_append (evs_more h evs_nil hst) (mut_append hsz) hd (by simp [hst]) (by show 1 < 30; decide) hline hin k
/-- both ways of a test meet again -/
theorem exs_if_join {t : PySem.Expr} {body orelse rest : List Stmt} {c : Bool} {Φ : Fl → Loc → Prop} (ρ₁ : Loc) (h : Tst G env n ρ t c) (k : Exs G env n ρ₁ rest Φ)
    (h₁ : c = true → Exs G env n ρ body (Then Φ fun ρ' => Sub ρ₁ ρ')) (h₂ : c = false → Exs G env n ρ orelse (Then Φ fun ρ' => Sub ρ₁ ρ')) : Exs G env n ρ (.If t body orelse pos :: rest) Φ := by
  have go : ∀ {sts : List Stmt}, Exs G env n ρ sts (Then Φ fun ρ' => Sub ρ₁ ρ') → Exs G env n ρ sts (Then Φ fun ρ' => Exs G env n ρ' rest Φ) := fun h => exs_mono h fun fl ρ' q => by
    cases fl with
    | next => exact exs_weaken q k
    | brk => exact q
    | cont => exact q
    | ret d => exact q
  exact exs_cons (ex_if h (fun e => go (h₁ e)) fun e => go (h₂ e))
end
end Mine
end
section
open PySem PySem.W PyProof.Rows
set_option linter.unusedVariables false
set_option maxRecDepth 100000
namespace Mine
section
variable {G : Gnd} {env : Env} {Z Z' H : Zf} {ρ ρ' ρc : Loc} {s s' : Shared} {A : Around} {E : Value → Shared → Prop} {n : Nat} {pos apos : Pos} {prog : Program} {w : World}

theorem bf_divmod {a b : Int} (hb : b ≠ 0) (hp : Builtin.divisionGoesByPylong a b = false) : BF G "divmod" [.int a, .int b] (.tup [.int (a.fdiv b), .int (a.fmod b)]) := BF.mk fun A Z s vs R bs r => by
  cases r with
  | cons r rs => cases rs with
    | cons r₂ rs =>
      cases rs; cases r; cases r₂
      exact divmod_int hb ⟨_, Ext.alloc (o := { cls := .type "tuple", data := .seq [Value.int (a.fdiv b) s.toks, Value.int (a.fmod b) (s.toks + 1)].toArray }) bs.zin rfl (by omega), .tup (vs := [.int (a.fdiv b) s.toks, .int (a.fmod b) (s.toks + 1)]) Zadd.self (.cons (.int _ _) (.cons (.int _ _) .nil))⟩ (.inl hp)
end
end Mine
end
section
open PySem PySem.W PyProof.Rows PySem.Builtin PySem.Builtin.Str PySem.StrLaws
set_option linter.unusedVariables false
set_option maxRecDepth 100000
namespace Mine
section
variable {G : Gnd} {env : Env} {Z Z' H : Zf} {ρ ρ' ρc : Loc} {s s' : Shared} {A : Around} {E : Value → Shared → Prop} {n : Nat} {pos apos : Pos}

theorem ind_clip {a b len : Nat} : strSliceIndices (some (a : Int)) (some (b : Int)) 1 len = strSliceIndices (some ((min a len : Nat) : Int)) (some ((max (min a len) (min b len) : Nat) : Int)) 1 len := by
  have h1 : ¬ ((a : Int) < 0) := by omega
  have h2 : ¬ ((b : Int) < 0) := by omega
  have h3 : ¬ (((min a len : Nat) : Int) < 0) := by omega
  have h4 : ¬ (((max (min a len) (min b len) : Nat) : Int) < 0) := by omega
  have e1 : max (0 : Int) (min (a : Int) (len : Int)) = ((min a len : Nat) : Int) := by omega
  have e2 : max (0 : Int) (min (b : Int) (len : Int)) = ((min b len : Nat) : Int) := by omega
  have e3 : max (0 : Int) (min (((min a len : Nat) : Int)) (len : Int)) = ((min a len : Nat) : Int) := by omega
  have e4 : max (0 : Int) (min (((max (min a len) (min b len) : Nat) : Int)) (len : Int)) = ((max (min a len) (min b len) : Nat) : Int) := by omega
  simp only [strSliceIndices, sliceRange, h1, h2, h3, h4, if_false, e1, e2, e3, e4, show ((1 : Int) > 0) = True from by simp, if_true]
  by_cases hlt : ((min a len : Nat) : Int) < ((min b len : Nat) : Int)
  · have : max (min a len) (min b len) = min b len := by omega
    rw [this]
  · have h5 : ¬ (((min a len : Nat) : Int) < ((max (min a len) (min b len) : Nat) : Int)) := by omega
    rw [if_neg hlt, if_neg h5]
theorem slice_ab (l : List Nat) (a b : Nat) : Txt.slice (T l) (some (a : Int)) (some (b : Int)) = T ((l.take b).drop a) := by
  unfold Txt.slice
  rw [ind_clip, T_length]
  have hp := strSliceIndices_plain (a := min a l.length) (b := max (min a l.length) (min b l.length)) (len := l.length) (by omega) (by omega)
  have hs := sliced_plain (T l) (a := min a l.length) (b := max (min a l.length) (min b l.length)) (by omega) (by rw [T_length]; omega)
  rw [T_length, T_list] at hs
  have hres : (l.drop (min a l.length)).take (max (min a l.length) (min b l.length) - min a l.length) = (l.take b).drop a := by
    rw [List.drop_take]
    by_cases h : a ≤ l.length
    · rw [Nat.min_eq_left h]
      by_cases hb : b ≤ l.length
      · rw [Nat.min_eq_left hb]; congr 1; omega
      · rw [Nat.min_eq_right (by omega), List.take_of_length_le (by rw [List.length_drop]; omega), List.take_of_length_le (by rw [List.length_drop]; omega)]
    · rw [Nat.min_eq_right (by omega), List.drop_of_length_le (Nat.le_refl _), List.drop_of_length_le (by omega)]; simp
  split
  · rename_i hw
    simp only [BEq.rfl, Bool.true_and, beq_iff_eq] at hw
    rw [hp, List.length_map, List.length_range] at hw
    congr 1
    have h1 : min a l.length = 0 ∨ l.length = 0 := by omega
    have : (l.drop (min a l.length)).take (max (min a l.length) (min b l.length) - min a l.length) = l := by
      rcases h1 with h1 | h1
      · rw [hw, h1]; simp
      · have : l = [] := List.length_eq_zero_iff.mp h1
        subst this; simp
    rw [← hres, this]
  · rw [hs, hres]; rfl
theorem slice_from (l : List Nat) (a : Nat) : Txt.slice (T l) (some (a : Int)) none = T (l.drop a) := by
  have := slice_ab l a l.length
  rw [List.take_length] at this
  rw [← this]
  have e : max (0 : Int) (min (l.length : Int) (l.length : Int)) = l.length := by omega
  have h2 : ¬ ((l.length : Int) < 0) := by omega
  unfold Txt.slice
  rw [T_length]
  simp only [strSliceIndices, h2, if_false, e, show ((1 : Int) > 0) = True from by simp, if_true]
theorem slice_to (l : List Nat) (b : Nat) : Txt.slice (T l) none (some (b : Int)) = T (l.take b) := by
  have := slice_ab l 0 b
  rw [List.drop_zero] at this
  rw [← this]
  have e : max (0 : Int) (min ((0 : Nat) : Int) (l.length : Int)) = 0 := by omega
  have h2 : ¬ (((0 : Nat) : Int) < 0) := by omega
  unfold Txt.slice
  rw [T_length]
  simp only [strSliceIndices, h2, if_false, e, show ((1 : Int) > 0) = True from by simp, if_true]
/-- a row from a place on -/
theorem sb_from {value slice : PySem.Expr} {ds : List D} {a : Nat} (ha : a ≤ ds.length) (hn : ds.length ≤ sizeLine) : Sb G value slice (.list ds) (.slc (some (a : Int)) none) (.list (ds.drop a)) := Op2.mk fun A Z s v₁ v₂ R b r₁ r₂ => by
  cases r₁ with
  | @list x vs k _ hz ra =>
    cases r₂ with
    | @slc y vl vu _ _ hz' pl pu =>
      have hl := isList_of (b.zin _ _ hz)
      have hlen : vs.length = ds.length := ra.length
      refine tail_all hl.typeIs F.slot_list_getitem.lookup ?_
      refine wpAny_getItem_list_slice hl ⟨_, b.zin _ _ hz', rfl, rfl⟩ pl pu .none (by simp) ?_ (by rw [List.size_toArray, hlen]; exact hn)
      rw [slicePick_from _ _ (by rw [List.size_toArray, hlen]; exact ha)]
      exact ⟨_, Ext.alloc (o := { cls := .type "list", data := .seq (vs.drop a).toArray }) (t := s.toks) b.zin rfl (Nat.le_refl _), .list (vs := vs.drop a) (n := 0) Zadd.self ((ra.drop a).mono (Ext.alloc (o := { cls := .type "list", data := .seq (vs.drop a).toArray }) (s := s) (t := s.toks) b.zin rfl (Nat.le_refl _)).le)⟩
/-- a, b = .. -/
theorem ex_assign_tuple {ts : List PySem.Expr} {k : Nat} {tpos : Pos} {e : PySem.Expr} {d : D} {Φ : Fl → Loc → Prop} (h : Ev G env n ρ e d) (ha : Asg G env (.Tuple ts k tpos) d ρ ρ') (hs : swapsWithSole [.Tuple ts k tpos] e pos.line env = pure false)
    (hw : swappedStores [.Tuple ts k tpos] e env = pure none) (hk : Φ .next ρ') : Ex G env n ρ (.Assign [.Tuple ts k tpos] e pos) Φ :=
  Ex.mk fun A Z H s R S => Assign_Tuple (wp_seq (h.run A Z H s R S) fun v s₁ ⟨Z₁, x₁, r₁⟩ => wp_seq (ha.run A Z₁ H s₁ v (R.less (Nat.zero_le _)) (S.ext x₁) r₁) fun _ s₂ ⟨Z₂, le₂, S₂⟩ => ⟨Z₂, _, .next, x₁.le.trans le₂, S₂, .next, hk⟩) hs hw
end
end Mine
end
section
open PySem PySem.W PyProof.Rows PySem.SeqAt
set_option linter.unusedVariables false
set_option maxRecDepth 100000
namespace Mine
section
variable {G : Gnd} {env : Env} {Z Z' H : Zf} {ρ ρ' ρc : Loc} {s s' : Shared} {A : Around} {E : Value → Shared → Prop} {n : Nat} {pos apos : Pos}
theorem op_neg_int {a : Int} : Op1 G (unaryOp .USub) (.int a) (.int (-a)) := Op1.mk fun A Z s v R b r => by
  cases r
  exact PyProof.Rows.neg_int (b.y (Nat.le_succ _) (.int _ _))
end
end Mine
end
section
open PySem PySem.W PyProof.Rows
set_option maxRecDepth 100000
namespace Mine
section
variable {G : Gnd} {env : Env} {Z Z' H : Zf} {ρ ρ' ρc : Loc} {s s' : Shared} {A : Around} {E : Value → Shared → Prop} {n : Nat} {pos apos : Pos}
theorem at_map {α : Type} {f : α → D} {l : List α} {i : Nat} {d : D} (h : (l.map f)[i]? = some d) : ∃ x, l[i]? = some x ∧ d = f x := by
  rw [List.getElem?_map] at h
  cases e : l[i]? with
  | none => rw [e] at h; cases h
  | some x => rw [e] at h; exact ⟨x, rfl, by simpa using h.symm⟩
end
end Mine
end
section
open PySem PySem.W PyProof.Rows PySem.Builtin PySem.Builtin.Str PySem.StrLaws
set_option linter.unusedVariables false
namespace Mine

/-- no spelling begins another one -/
def pcode (t : Tbl) : Bool := t.all (fun p => p.2.head? == some 38 && (t.lookup p.1 == some p.2) && t.all (fun q => q.1 == p.1 || (!(p.2.isPrefixOf q.2) && !(q.2.isPrefixOf p.2))) && p.2.tail.all (fun c => !(t.any fun q => q.1 == c)) && decide (p.2.length ≤ 8)) && (t.any fun q => q.1 == 38)
theorem mem_look {t : Tbl} {k : Nat} {z : List Nat} (h : t.lookup k = some z) : (k, z) ∈ t := by
  induction t with
  | nil => cases h
  | cons p r ih =>
    obtain ⟨a, b⟩ := p
    rw [List.lookup_cons] at h
    split at h
    · rename_i q; rw [beq_iff_eq] at q; subst q; cases h; exact List.mem_cons_self
    · exact List.mem_cons_of_mem _ (ih h)
theorem look_none {t : Tbl} {k : Nat} : t.lookup k = none ↔ (t.any fun q => q.1 == k) = false := by
  induction t with
  | nil => simp
  | cons p r ih =>
    obtain ⟨a, b⟩ := p
    rw [List.lookup_cons, List.any_cons, Bool.or_eq_false_iff, ← ih]
    by_cases h : k = a
    · subst h; simp
    · have h1 : (k == a) = false := beq_eq_false_iff_ne.mpr h
      have h2 : (a == k) = false := beq_eq_false_iff_ne.mpr (Ne.symm h)
      rw [h1]
      simp [h2]
structure PC (t : Tbl) : Prop where
  ok : pcode t = true
section
variable {t : Tbl}
theorem PC.at (h : PC t) {k : Nat} {z : List Nat} (hk : t.lookup k = some z) : ∃ y, z = 38 :: y ∧ (∀ q ∈ t, q.1 = k ∨ (¬ z <+: q.2 ∧ ¬ q.2 <+: z)) ∧ (∀ c ∈ y, t.lookup c = none) ∧ y.length ≤ 7 := by
  have h0 := h.ok
  unfold pcode at h0
  rw [Bool.and_eq_true] at h0
  have h1 := List.all_eq_true.mp h0.1 _ (mem_look hk)
  simp only [Bool.and_eq_true, beq_iff_eq, decide_eq_true_eq] at h1
  obtain ⟨⟨⟨⟨a1, a2⟩, a3⟩, a4⟩, a5⟩ := h1
  cases z with
  | nil => cases a1
  | cons c y =>
    have : c = 38 := by simpa using a1
    subst this
    refine ⟨y, rfl, fun q hq => ?_, fun c hc => ?_, by simpa using a5⟩
    · have := List.all_eq_true.mp a3 q hq
      rw [Bool.or_eq_true, beq_iff_eq, Bool.and_eq_true, Bool.not_eq_true', Bool.not_eq_true'] at this
      rcases this with e | ⟨e1, e2⟩
      · exact .inl e
      · refine .inr ⟨fun q => ?_, fun q => ?_⟩
        · rw [List.isPrefixOf_iff_prefix.mpr q] at e1; cases e1
        · rw [List.isPrefixOf_iff_prefix.mpr q] at e2; cases e2
    · have := List.all_eq_true.mp a4 c hc
      exact look_none.mpr (by simpa using this)
theorem PC.amp (h : PC t) {k : Nat} (hk : t.lookup k = none) : k ≠ 38 := by
  have h0 := h.ok
  unfold pcode at h0
  rw [Bool.and_eq_true] at h0
  intro e
  subst e
  rw [look_none.mp hk] at h0
  cases h0.2
end

end Mine
end
section
open PySem PySem.W PyProof.Rows
set_option linter.unusedVariables false
set_option maxRecDepth 100000
namespace Mine
section
abbrev strDict (t : List (Str × Str)) : D := .dict (t.map (·.1)) (t.map fun p => .str p.2)
end
end Mine
end
section
open PySem PySem.W PyProof.Rows PySem.Builtin PySem.Builtin.Str
set_option linter.unusedVariables false
set_option maxRecDepth 100000
namespace Mine
section
variable {G : Gnd} {env : Env} {Z Z' H : Zf} {ρ ρ' ρc : Loc} {s s' : Shared} {A : Around} {E : Value → Shared → Prop} {n : Nat} {pos apos sp : Pos}
theorem big_line : 100000 ≤ sizeLine := by decide
/-- l[:b] -/
theorem ev_to {v e : PySem.Expr} {l : List Nat} {b : Nat} (hv : Ev G env n ρ v (.str (T l))) (he : Ev G env n ρ e (.int (b : Int))) (hl : l.length ≤ 100000) : Ev G env n ρ (.Subscript v (.Slice none (some e) none sp) pos) (.str (T (l.take b))) := by
  rw [← slice_to]
  exact ev_sub hv (ev_slice (lo := none) (hi := some (b : Int)) trivial he) (sb_slice_str (by rw [T_length]; have := big_line; omega))
/-- l[a:] -/
theorem ev_from {v e : PySem.Expr} {l : List Nat} {a : Nat} (hv : Ev G env n ρ v (.str (T l))) (he : Ev G env n ρ e (.int (a : Int))) (hl : l.length ≤ 100000) : Ev G env n ρ (.Subscript v (.Slice (some e) none none sp) pos) (.str (T (l.drop a))) := by
  rw [← slice_from]
  exact ev_sub hv (ev_slice (lo := some (a : Int)) (hi := none) he trivial) (sb_slice_str (by rw [T_length]; have := big_line; omega))
/-- l[a:b] -/
theorem ev_cut {v e e' : PySem.Expr} {l : List Nat} {a b : Nat} (hv : Ev G env n ρ v (.str (T l))) (he : Ev G env n ρ e (.int (a : Int))) (he' : Ev G env n ρ e' (.int (b : Int))) (hl : l.length ≤ 100000) : Ev G env n ρ (.Subscript v (.Slice (some e) (some e') none sp) pos) (.str (T ((l.take b).drop a))) := by
  rw [← slice_ab]
  exact ev_sub hv (ev_slice (lo := some (a : Int)) (hi := some (b : Int)) he he') (sb_slice_str (by rw [T_length]; have := big_line; omega))
theorem ev_cat {e e' : PySem.Expr} {x y : List Nat} (h : Ev G env n ρ e (.str (T x))) (h' : Ev G env n ρ e' (.str (T y))) (hl : x.length + y.length ≤ 100000) : Ev G env n ρ (.BinOp e .Add e' pos) (.str (T (x ++ y))) := by
  rw [← T_append]
  exact ev_binop h h' (op_add_str (by rw [T_length, T_length]; have := big_line; omega))
theorem lenT' (l : List Nat) (h : l.length ≤ 100000) : BF G "len" [.str (T l)] (.int (l.length : Int)) := by
  rw [← T_length]
  exact bf_len_str (by rw [T_length]; have := big_line; omega)
end
end Mine
end
section
open PySem PySem.W PyProof.Rows PySem.Builtin PySem.Builtin.Str
set_option linter.unusedVariables false
set_option maxRecDepth 100000
namespace Mine
section
variable {G : Gnd} {env : Env} {Z Z' H : Zf} {ρ ρ' ρc : Loc} {s s' : Shared} {A : Around} {E : Value → Shared → Prop} {n : Nat} {pos apos sp : Pos}
theorem op_is_none {d : D} {b : Bool} (h : b = (match d with | .none => true | _ => false)) : Op2 G (compareOp .Is) d .none (.bool b) := Op2.mk fun A Z s v₁ v₂ R bs r₁ r₂ => by
  subst h
  cases r₂
  cases r₁ <;> first | exact is_none_none ⟨Z, bs.same, .bool _⟩ | exact is_none_ne (by intro x; cases x) ⟨Z, bs.same, .bool _⟩
theorem ev_len {e : PySem.Expr} {p : Pos} {l : List Nat} (h : Ev G env n ρ e (.str (T l))) (hl : l.length ≤ 100000) (hg : nsIn G.K mainGlobals "len" = some none) (hx : env.kindOf "len" = some .globalImplicit) (hst : isStarred e = false) : Ev G env n ρ (.Call (.Name "len" p) [e] [] pos) (.int (l.length : Int)) :=
  ev_bf (evs_more h evs_nil hst) (lenT' l hl) hg rfl hx rfl (by simp [hst])
theorem ev_lenL {e : PySem.Expr} {p : Pos} {ds : List D} (h : Ev G env n ρ e (.list ds)) (hl : ds.length ≤ 100000) (hg : nsIn G.K mainGlobals "len" = some none) (hx : env.kindOf "len" = some .globalImplicit) (hst : isStarred e = false) : Ev G env n ρ (.Call (.Name "len" p) [e] [] pos) (.int (ds.length : Int)) :=
  ev_bf (evs_more h evs_nil hst) (bf_len_list (by have := big_line; omega)) hg rfl hx rfl (by simp [hst])
/-- row[-1] -/
theorem ev_last {v e : PySem.Expr} {ds : List D} {d : D} (hv : Ev G env n ρ v (.list (ds ++ [d]))) (he : Ev G env n ρ e (.int (-1))) : Ev G env n ρ (.Subscript v e pos) d :=
  ev_sub hv he (sb_list_neg (by decide) (by decide) (by simp; omega) (by rw [List.length_append, List.length_singleton, show (-1 + ((ds.length + 1 : Nat) : Int)).toNat = ds.length by omega]; simp))
theorem ev_m1 {k : Nat} : Ev G env n ρ (.UnaryOp .USub (.Constant (.int 1) k sp) pos) (.int (-1)) := ev_neg ev_int op_neg_int
end
end Mine
end
section
open PySem PySem.W PyProof.Rows PySem.Builtin PySem.Builtin.Str
set_option linter.unusedVariables false
set_option maxRecDepth 100000
namespace Mine
section
variable {G : Gnd} {env : Env} {Z Z' H : Zf} {ρ ρ' ρc : Loc} {s s' : Shared} {A : Around} {E : Value → Shared → Prop} {n : Nat} {pos apos sp : Pos}
theorem op_notin_strs {xs : List Str} {x : Str} : Op2 G (compareOp .NotIn) (.str x) (.list (txs xs)) (.bool (!(xs.any (· == x)))) := Op2.mk fun A Z s v₁ v₂ R b r₁ r₂ => by
  cases r₁
  cases r₂ with
  | list hz ra =>
    obtain ⟨l, e1, e2⟩ := strs_of_repAll ra
    subst e1 e2
    exact notin_list_strs (isList_of (b.zin _ _ hz)) (strsAre_of_values l) ⟨Z, b.same, .bool _⟩
-- and, or of truth values, as values
end
end Mine
end
section
open PySem PySem.W PyProof.Rows PySem.Builtin PySem.Builtin.Str PySem.StrLaws
set_option linter.unusedVariables false
set_option maxRecDepth 100000
namespace Mine
/-- what stands ahead of the first p, and behind it -/
def cutG (p : List Nat) : List Nat → List Nat
  | [] => []
  | c :: r => if p.isPrefixOf (c :: r) then [] else c :: cutG p r
def behG (p : List Nat) : List Nat → List Nat
  | [] => []
  | c :: r => if p.isPrefixOf (c :: r) then (c :: r).drop p.length else behG p r
theorem cutG_none {p : List Nat} : ∀ {l : List Nat}, (∀ k, ¬ p <+: l.drop k) → cutG p l = l ∧ behG p l = []
  | [], _ => ⟨rfl, rfl⟩
  | c :: r, h => by
    have h0 : p.isPrefixOf (c :: r) = false := by
      cases q : p.isPrefixOf (c :: r) with
      | false => rfl
      | true => exact absurd (List.isPrefixOf_iff_prefix.mp q) (by simpa using h 0)
    have ih := cutG_none (p := p) (l := r) fun k => by simpa using h (k + 1)
    unfold cutG behG
    simp [h0, ih.1, ih.2]
theorem cutG_at {p : List Nat} : ∀ {l : List Nat} {i : Nat}, p ≠ [] → p <+: l.drop i → (∀ k, k < i → ¬ p <+: l.drop k) → cutG p l = l.take i ∧ behG p l = l.drop (i + p.length)
  | [], i, hp, h, _ => by
    rw [List.drop_nil] at h
    exact absurd (List.prefix_nil.mp h) hp
  | c :: r, 0, hp, h, _ => by
    have h0 : p.isPrefixOf (c :: r) = true := List.isPrefixOf_iff_prefix.mpr (by simpa using h)
    unfold cutG behG
    simp [h0]
  | c :: r, i + 1, hp, h, hn => by
    have h0 : p.isPrefixOf (c :: r) = false := by
      cases q : p.isPrefixOf (c :: r) with
      | false => rfl
      | true => exact absurd (List.isPrefixOf_iff_prefix.mp q) (by simpa using hn 0 (by omega))
    have ih := cutG_at (p := p) (l := r) (i := i) hp (by simpa using h) fun k hk => by simpa using hn (k + 1) (by omega)
    unfold cutG behG
    simp [h0, ih.1, ih.2, show i + 1 + p.length = i + p.length + 1 by omega]
theorem cutG_le (p l : List Nat) : (cutG p l).length ≤ l.length := by
  induction l with
  | nil => exact Nat.le_refl _
  | cons c r ih => unfold cutG; split <;> simp; exact ih
theorem behG_le (p l : List Nat) : (behG p l).length ≤ l.length := by
  induction l with
  | nil => exact Nat.le_refl _
  | cons c r ih => unfold behG; split <;> simp <;> omega
section
variable {G : Gnd} {env : Env} {Z Z' H : Zf} {ρ ρ' ρc : Loc} {s s' : Shared} {A : Around} {E : Value → Shared → Prop} {n : Nat} {pos apos sp : Pos}
def midG (p l : List Nat) : Str := match occurrences (T l) (T p) 0 (T l).length 1 with
  | [] => Str.empty
  | _ :: _ => T p
theorem sub_T (l : List Nat) (i j : Nat) : strSub (T l) i j = T ((l.drop i).take (j - i)) := by
  rw [← T_of (strSub (T l) i j), strSub_toList, T_list]
theorem bf_partition {l p : List Nat} (hp : p ≠ []) (hl : l.length ≤ 100000) : BF G "str.partition" [.str (T l), .str (T p)] (.tup [.str (T (cutG p l)), .str (midG p l), .str (T (behG p l))]) := BF.mk fun A Z s vs R b r => by
  have big := big_line
  have hpl : 0 < p.length := List.length_pos_iff.mpr hp
  cases r with
  | cons r rs => cases rs with
    | cons r₂ rs =>
      cases rs
      cases r with
      | str _ t =>
        cases r₂ with
        | str _ u =>
          refine call_meets F.slot_str_partition (typeIs_str _ _ _) F.entry_str_partition (F.args_str_partition_2 _ _) (S := fun _ R s => ∀ h' tk (v1 v2 v3 : Tok), h' = s.heap.push { cls := .type "tuple", data := .seq #[.str (T (cutG p l)) v1, .str (midG p l) v2, .str (T (behG p l)) v3] } → s.toks ≤ tk → R (.ok (.ret (.ref s.heap.objs.size))) { s with heap := h', toks := tk }) ?_ ?_
          · refine .of_wp fun prog w A R s h => ?_
            obtain ⟨raising, htree⟩ := partition_tree (T l) (T p) t u
            rw [htree]
            have h0 : ((T p).length == 0) = false := by rw [T_length, beq_eq_false_iff_ne]; omega
            rw [h0]
            simp only [Bool.false_eq_true, if_false]
            rcases occ_head (T l) (T p) 1 (Nat.le_refl _) with ⟨e, hn⟩ | ⟨i, r, e, ha, hn⟩
            · have hm : midG p l = Str.empty := by unfold midG; rw [e]
              obtain ⟨c1, c2⟩ := cutG_none (p := p) (l := l) fun k q => hn k ((at_iff l p k hp).mpr q)
              rw [e]
              show wpAny _ _ (do rule "str.partition.not-found"; let empty ← mkStr Str.empty; ret (← newTuple [.str (T l) t, empty, empty])) _ _ s
              refine wpAny_bind (wpAny_rule (wpAny_bind (wpAny_mkStr (wpAny_bind (wpAny_newTuple (wpAny_pure ?_) (by show 3 ≤ sizeLine; decide))) (by show 0 ≤ _; omega))))
              refine ⟨_, rfl, ?_⟩
              refine h _ (s.toks + 1) t s.toks s.toks ?_ (Nat.le_succ _)
              rw [c1, c2, hm]
              rfl
            · have hm : midG p l = T p := by unfold midG; rw [e]
              obtain ⟨c1, c2⟩ := cutG_at (p := p) (l := l) (i := i) hp ((at_iff l p i hp).mp ha) fun k hk q => hn k hk ((at_iff l p k hp).mpr q)
              have hil : i + p.length ≤ l.length := by have := ha.1; rwa [T_length, T_length] at this
              rw [e]
              show wpAny _ _ (do ret (← newTuple [← mkStr (strSub (T l) 0 i), .str (T p) u, ← mkStr (strSub (T l) (i + (T p).length) (T l).length)])) _ _ s
              have e1 : strSub (T l) 0 i = T (cutG p l) := by rw [sub_T, c1]; simp
              have e2 : strSub (T l) (i + (T p).length) (T l).length = T (behG p l) := by
                rw [sub_T, c2, T_length, T_length]
                congr 1
                exact List.take_of_length_le (by rw [List.length_drop]; omega)
              have l1 := cutG_le p l
              have l2 := behG_le p l
              rw [e1, e2]
              refine wpAny_bind (wpAny_mkStr (wpAny_bind (wpAny_mkStr (wpAny_bind (wpAny_newTuple (wpAny_pure ?_) (by show 3 ≤ sizeLine; decide))) (by rw [T_length]; omega))) (by rw [T_length]; omega))
              refine ⟨_, rfl, ?_⟩
              refine h _ (s.toks + 1 + 1) s.toks u (s.toks + 1) ?_ (by omega)
              rw [hm]
          · intro h' tk v1 v2 v3 e tok
            subst e
            exact ⟨_, Ext.alloc (o := { cls := .type "tuple", data := .seq [Value.str (T (cutG p l)) v1, Value.str (midG p l) v2, Value.str (T (behG p l)) v3].toArray }) b.zin rfl tok, .tup (vs := [.str (T (cutG p l)) v1, .str (midG p l) v2, .str (T (behG p l)) v3]) Zadd.self (.cons (.str _ _) (.cons (.str _ _) (.cons (.str _ _) .nil)))⟩
-- int(text, base)
set_option maxHeartbeats 1000000
end
end Mine
end
section
open PySem PySem.W PyProof.Rows PySem.Builtin PySem.Builtin.Str PySem.StrLaws
set_option linter.unusedVariables false
set_option maxRecDepth 100000
namespace Mine
section
variable {G : Gnd} {env : Env} {Z Z' H : Zf} {ρ ρ' : Loc} {s s' : Shared} {A : Around} {E : Value → Shared → Prop} {n : Nat} {pos apos : Pos}
theorem mid_at {l p : List Nat} {i : Nat} (hp : p ≠ []) (h : p <+: l.drop i) : midG p l = T p := by
  rcases occ_head (T l) (T p) 1 (Nat.le_refl _) with ⟨e, hn⟩ | ⟨j, r, e, ha, hn⟩
  · exact absurd ((at_iff l p i hp).mpr h) (hn i)
  · unfold midG; rw [e]
theorem ev_isstr {e : PySem.Expr} {d : D} {b : Bool} {p q : Pos} (h : Ev G env n ρ e d) (hb : (∃ x, d = .str x ∧ b = true) ∨ (∃ ds, d = .list ds ∧ b = false)) (hi : nsIn G.K mainGlobals "isinstance" = some none) (hs : nsIn G.K mainGlobals "str" = some none)
    (hki : env.kindOf "isinstance" = some .globalImplicit) (hks : env.kindOf "str" = some .globalImplicit) (hst : starEach [e, .Name "str" q] env = (false, eval e env) :: starEach [.Name "str" q] env) : Ev G env n ρ (.Call (.Name "isinstance" p) [e, .Name "str" q] [] pos) (.bool b) := by
  constructor
  intro A Z H s R S
  unfold Yields
  rw [eval_call rfl]
  refine wpAny_bind (wp_builtinName S hi (by rfl : bootBuiltins "isinstance" = some (.builtin "isinstance")) (by decide) hki (by decide) ?_)
  have hpl : (backTo pos (starEach [e, .Name "str" q] env)).any (·.1) = false := by rw [hst]; rfl
  refine Calls.callWith_builtin hpl (wp_evalArgs hpl (spliced_more (wp_seq (h.run A Z H s R S) fun v s₁ ⟨Z₁, x₁, r₁⟩ => spliced_more (wp_builtinName (S.ext x₁) hs (by rfl : bootBuiltins "str" = some (.type "str")) (by decide) hks (by decide) (spliced_none ?_)) rfl) hst))
  have S₁ := S.ext x₁
  show wpAny _ _ (call (.builtin "isinstance") [v, .type "str"]) _ _ _
  rcases hb with ⟨x, rfl, rfl⟩ | ⟨ds, rfl, rfl⟩
  · cases r₁
    exact call_isinstance (isinstance_true (Tx := "str") (T := "str") (by rfl) isSubtype_str_str) ⟨typeIs_str _ _ _, Z₁, x₁, .bool _⟩
  · cases r₁ with
    | list hz ra =>
      refine call_isinstance (isinstance_false_list (T := "str") (by decide) (by rfl) (by rw [isSubtype_type]; kernel_rfl)) ⟨⟨_, S₁.zin _ _ hz, rfl⟩, Z₁, x₁.trans (Ext.tok S₁.zin (Nat.le_succ _)), .bool _⟩
end
end Mine
end
section
open PySem PySem.W PyProof.Rows
set_option linter.unusedVariables false
set_option linter.unusedSimpArgs false
namespace Mine
def rAmp : List Nat := [38, 97, 109, 112, 59]
def rLt : List Nat := [38, 108, 116, 59]
def rGt : List Nat := [38, 103, 116, 59]
def cdataT : Tbl := [(38, rAmp), (60, rLt), (62, rGt)]
abbrev esc5 (u : List Nat) : List Nat := escBy cdataT u
def spc (c : Nat) : Bool := c == 38 || c == 60 || c == 62
def nspec (u : List Nat) : Nat := u.countP spc
theorem spell5 (c : Nat) : (c = 38 ∧ spell cdataT c = rAmp) ∨ (c = 60 ∧ spell cdataT c = rLt) ∨ (c = 62 ∧ spell cdataT c = rGt) ∨ (spc c = false ∧ c ≠ 38 ∧ c ≠ 60 ∧ c ≠ 62 ∧ spell cdataT c = [c]) := by
  by_cases e1 : c = 38
  · exact .inl ⟨e1, by subst e1; rfl⟩
  by_cases e2 : c = 60
  · exact .inr (.inl ⟨e2, by subst e2; rfl⟩)
  by_cases e3 : c = 62
  · exact .inr (.inr (.inl ⟨e3, by subst e3; rfl⟩))
  refine .inr (.inr (.inr ⟨by simp [spc, e1, e2, e3], e1, e2, e3, ?_⟩))
  unfold spell cdataT
  have f1 : (c == 38) = false := beq_eq_false_iff_ne.mpr e1
  have f2 : (c == 60) = false := beq_eq_false_iff_ne.mpr e2
  have f3 : (c == 62) = false := beq_eq_false_iff_ne.mpr e3
  simp only [List.lookup, f1, f2, f3]
  rfl
theorem esc5_facts : ∀ u : List Nat, 60 ∉ esc5 u ∧ 62 ∉ esc5 u ∧ nspec (esc5 u) = nspec u ∧ (esc5 u).length ≤ u.length + 4 * nspec u
  | [] => by simp [escBy, nspec]
  | c :: r => by
    obtain ⟨h1, h2, h3, h4⟩ := esc5_facts r
    unfold esc5 nspec at *
    rw [escBy_cons]
    rcases spell5 c with ⟨rfl, e⟩ | ⟨rfl, e⟩ | ⟨rfl, e⟩ | ⟨e0, e1, e2, e3, e⟩
    · rw [e, List.mem_append, List.mem_append, List.countP_append, h3, List.length_append, List.countP_cons]
      refine ⟨fun q => q.elim (by decide) h1, fun q => q.elim (by decide) h2, ?_, ?_⟩
      · rw [show List.countP spc rAmp = 1 from rfl]; simp [spc]; omega
      · rw [show rAmp.length = 5 from rfl]; simp [spc]; omega
    · rw [e, List.mem_append, List.mem_append, List.countP_append, h3, List.length_append, List.countP_cons]
      refine ⟨fun q => q.elim (by decide) h1, fun q => q.elim (by decide) h2, ?_, ?_⟩
      · rw [show List.countP spc rLt = 1 from rfl]; simp [spc]; omega
      · rw [show rLt.length = 4 from rfl]; simp [spc]; omega
    · rw [e, List.mem_append, List.mem_append, List.countP_append, h3, List.length_append, List.countP_cons]
      refine ⟨fun q => q.elim (by decide) h1, fun q => q.elim (by decide) h2, ?_, ?_⟩
      · rw [show List.countP spc rGt = 1 from rfl]; simp [spc]; omega
      · rw [show rGt.length = 4 from rfl]; simp [spc]; omega
    · rw [e, List.mem_append, List.mem_append, List.countP_append, h3, List.length_append, List.countP_cons]
      refine ⟨fun q => q.elim (fun z => e2 (List.mem_singleton.mp z).symm) h1, fun q => q.elim (fun z => e3 (List.mem_singleton.mp z).symm) h2, ?_, ?_⟩
      · simp [e0]
      · simp [e0]; omega
inductive Item where
  | text (s : Bool) (x : List Nat)
  | doc (s : Bool) (its : List Item)
def sN (s : Bool) : Int := if s then 1 else 0
mutual
def itemD : Item → D
  | .text s x => .list [.int (sN s), .str (T x)]
  | .doc s its => .list [.int (sN s), .list (itemsD its)]
def itemsD : List Item → List D
  | [] => []
  | i :: r => itemD i :: itemsD r
end
theorem itemsD_map : ∀ its : List Item, itemsD its = its.map itemD
  | [] => by rw [itemsD]; rfl
  | i :: r => by rw [itemsD, itemsD_map r]; rfl
theorem itemsD_app (a b : List Item) : itemsD (a ++ b) = itemsD a ++ itemsD b := by rw [itemsD_map, itemsD_map, itemsD_map, List.map_append]
def cd0 : List Nat := [60, 33, 91, 67, 68, 65, 84, 65, 91]
def cd1 : List Nat := [93, 93, 62]
def wrapS (s : Bool) (u : List Nat) : List Nat := if s then cd0 ++ u ++ cd1 else u
def one5 (c : Nat) (s : Bool) (u : List Nat) : List Nat := [60, c, 62] ++ wrapS s u ++ [60, 47, c, 62]
mutual
def rowI : Item → List Nat
  | .text s x => one5 116 s (esc5 x)
  | .doc s its => one5 100 s (esc5 (rowL its))
def rowL : List Item → List Nat
  | [] => []
  | i :: r => rowI i ++ rowL r
end
theorem rowL_flat : ∀ its : List Item, rowL its = its.flatMap rowI
  | [] => by rw [rowL]; rfl
  | i :: r => by rw [rowL, rowL_flat r]; rfl
theorem rowL_app (a b : List Item) : rowL (a ++ b) = rowL a ++ rowL b := by rw [rowL_flat, rowL_flat, rowL_flat, List.flatMap_append]
mutual
def depI : Item → Nat
  | .text _ _ => 0
  | .doc _ its => depL its + 1
def depL : List Item → Nat
  | [] => 0
  | i :: r => max (depI i) (depL r)
end
theorem depL_mem : ∀ {its : List Item} {i : Item}, i ∈ its → depI i ≤ depL its
  | j :: r, i, h => by
    rw [depL]
    rcases List.mem_cons.mp h with rfl | h
    · exact Nat.le_max_left _ _
    · exact Nat.le_trans (depL_mem h) (Nat.le_max_right _ _)
-- additive measures
mutual
def msI (f : Bool → List Nat → Nat) (g : Bool → Nat) : Item → Nat
  | .text s x => f s x
  | .doc s its => g s + msL f g its
def msL (f : Bool → List Nat → Nat) (g : Bool → Nat) : List Item → Nat
  | [] => 0
  | i :: r => msI f g i + msL f g r
end
theorem msL_app {f : Bool → List Nat → Nat} {g : Bool → Nat} : ∀ a b : List Item, msL f g (a ++ b) = msL f g a + msL f g b
  | [], b => by rw [List.nil_append, msL]; omega
  | i :: r, b => by rw [List.cons_append, msL, msL, msL_app r b]; omega
theorem msL_mem {f : Bool → List Nat → Nat} {g : Bool → Nat} : ∀ {its : List Item} {i : Item}, i ∈ its → msI f g i ≤ msL f g its
  | j :: r, i, h => by
    rw [msL]
    rcases List.mem_cons.mp h with rfl | h
    · omega
    · have := msL_mem (f := f) (g := g) h; omega
def gS (s : Bool) : Nat := if s then 6 else 4
def gB (s : Bool) : Nat := if s then 19 else 7
def spI (i : Item) : Nat := msI (fun s x => gS s + nspec x) gS i
def spL (l : List Item) : Nat := msL (fun s x => gS s + nspec x) gS l
def baI (i : Item) : Nat := msI (fun s x => gB s + x.length) gB i
def baL (l : List Item) : Nat := msL (fun s x => gB s + x.length) gB l
def noI (i : Item) : Nat := msI (fun _ _ => 0) (fun _ => 1) i
def noL (l : List Item) : Nat := msL (fun _ _ => 0) (fun _ => 1) l
theorem spI_text (s : Bool) (x : List Nat) : spI (.text s x) = gS s + nspec x := by rw [spI, msI]
theorem spI_doc (s : Bool) (l : List Item) : spI (.doc s l) = gS s + spL l := by rw [spI, msI, spL]
theorem spL_nil : spL [] = 0 := by rw [spL, msL]
theorem spL_cons (i : Item) (l : List Item) : spL (i :: l) = spI i + spL l := by rw [spL, msL, spI, spL]
theorem spL_mem {i : Item} {l : List Item} (h : i ∈ l) : spI i ≤ spL l := msL_mem h
theorem baI_text (s : Bool) (x : List Nat) : baI (.text s x) = gB s + x.length := by rw [baI, msI]
theorem baI_doc (s : Bool) (l : List Item) : baI (.doc s l) = gB s + baL l := by rw [baI, msI, baL]
theorem baL_cons (i : Item) (l : List Item) : baL (i :: l) = baI i + baL l := by rw [baL, msL, baI, baL]
theorem baL_mem {i : Item} {l : List Item} (h : i ∈ l) : baI i ≤ baL l := msL_mem h
theorem noI_doc (s : Bool) (l : List Item) : noI (.doc s l) = 1 + noL l := by rw [noI, msI, noL]
theorem noL_cons (i : Item) (l : List Item) : noL (i :: l) = noI i + noL l := by rw [noL, msL, noI, noL]
theorem noL_mem {i : Item} {l : List Item} (h : i ∈ l) : noI i ≤ noL l := msL_mem h
mutual
theorem dep_noI : ∀ i : Item, depI i ≤ noI i
  | .text _ _ => by rw [depI]; exact Nat.zero_le _
  | .doc _ its => by have := dep_noL its; rw [depI, noI_doc]; omega
theorem dep_noL : ∀ its : List Item, depL its ≤ noL its
  | [] => by rw [depL]; exact Nat.zero_le _
  | i :: r => by have := dep_noI i; have := dep_noL r; rw [depL, noL_cons]; omega
end
theorem one5_len (c : Nat) (s : Bool) (u : List Nat) : (one5 c s u).length = gB s + u.length := by
  unfold one5 wrapS gB
  cases s <;> simp [cd0, cd1] <;> omega
theorem one5_spec (c : Nat) (hc : spc c = false) (s : Bool) (u : List Nat) : nspec (one5 c s u) = gS s + nspec u := by
  unfold one5 wrapS gS nspec
  have h38 : spc 38 = true := rfl
  have h60 : spc 60 = true := rfl
  have h62 : spc 62 = true := rfl
  have h47 : spc 47 = false := rfl
  cases s
  · simp [List.countP_append, List.countP_cons, hc, h60, h62, h47]; omega
  · simp [List.countP_append, List.countP_cons, hc, h60, h62, h47]
    rw [show List.countP spc cd0 = 1 from rfl, show List.countP spc cd1 = 1 from rfl]; omega
mutual
theorem row_bI : ∀ i : Item, nspec (rowI i) = spI i ∧ (rowI i).length ≤ baI i + 4 * (spI i * (depI i + 1))
  | .text s x => by
    obtain ⟨_, _, h3, h4⟩ := esc5_facts x
    rw [rowI, one5_spec 116 rfl, one5_len, h3, depI, spI_text, baI_text]
    refine ⟨rfl, ?_⟩
    omega
  | .doc s its => by
    obtain ⟨k1, k2⟩ := row_bL its
    obtain ⟨_, _, h3, h4⟩ := esc5_facts (rowL its)
    rw [rowI, one5_spec 100 rfl, one5_len, h3, depI, spI_doc, baI_doc]
    refine ⟨by rw [k1], ?_⟩
    rw [k1] at h4
    have e : (gS s + spL its) * (depL its + 1 + 1) = gS s * (depL its + 1 + 1) + (spL its * (depL its + 1) + spL its) := by
      rw [Nat.add_mul, Nat.mul_add (spL its) (depL its + 1) 1, Nat.mul_one]
    show _ ≤ gB s + baL its + 4 * ((gS s + spL its) * (depL its + 1 + 1))
    rw [e]
    omega
theorem row_bL : ∀ its : List Item, nspec (rowL its) = spL its ∧ (rowL its).length ≤ baL its + 4 * (spL its * (depL its + 1))
  | [] => by rw [rowL, spL_nil]; exact ⟨rfl, Nat.zero_le _⟩
  | i :: r => by
    obtain ⟨k1, k2⟩ := row_bI i
    obtain ⟨k3, k4⟩ := row_bL r
    rw [rowL, spL_cons, baL_cons, depL, List.length_append]
    refine ⟨by unfold nspec at *; rw [List.countP_append, k1, k3], ?_⟩
    have m1 : spI i * (depI i + 1) ≤ spI i * (max (depI i) (depL r) + 1) := Nat.mul_le_mul_left _ (by omega)
    have m2 : spL r * (depL r + 1) ≤ spL r * (max (depI i) (depL r) + 1) := Nat.mul_le_mul_left _ (by omega)
    rw [Nat.add_mul]
    show _ ≤ baI i + baL r + 4 * (spI i * _ + spL r * _)
    omega
end
/-- small enough -/
structure Small5 (its : List Item) : Prop where
  sp : spL its ≤ 382
  ba : baL its ≤ 1204
  no : noL its ≤ 63
theorem Small5.len {its : List Item} (h : Small5 its) : (rowL its).length ≤ 99000 ∧ depL its ≤ 63 := by
  obtain ⟨k1, k2⟩ := row_bL its
  have hd := dep_noL its
  have h1 := h.sp
  have h2 := h.ba
  have h3 := h.no
  have m : spL its * (depL its + 1) ≤ 382 * 64 := Nat.mul_le_mul h1 (by omega)
  exact ⟨by omega, by omega⟩
theorem rowL_mem : ∀ {its : List Item} {i : Item}, i ∈ its → (rowI i).length ≤ (rowL its).length
  | j :: r, i, h => by
    rw [rowL, List.length_append]
    rcases List.mem_cons.mp h with rfl | h
    · omega
    · have := rowL_mem h; omega
theorem Small5.item {its its' : List Item} {s : Bool} (h : Small5 its) (hm : Item.doc s its' ∈ its) : Small5 its' := by
  have h1 := spL_mem hm
  have h2 := baL_mem hm
  have h3 := noL_mem hm
  rw [spI_doc] at h1
  rw [baI_doc] at h2
  rw [noI_doc] at h3
  have := h.sp
  have := h.ba
  have := h.no
  exact ⟨by omega, by omega, by omega⟩
-- the reader of one text
def nm5 (c : Nat) : List Nat := if c = 38 then [97, 109, 112] else if c = 60 then [108, 116] else [103, 116]
def hd5 : List Nat → List Nat
  | [] => []
  | c :: r => if spc c then [] else c :: hd5 r
def tl5 : List Nat → List (Nat × List Nat)
  | [] => []
  | c :: r => if spc c then (c, hd5 r) :: tl5 r else tl5 r
theorem tl5_spc : ∀ {u : List Nat} {p : Nat × List Nat}, p ∈ tl5 u → p.1 = 38 ∨ p.1 = 60 ∨ p.1 = 62
  | c :: r, p, h => by
    rw [tl5] at h
    split at h
    · rename_i hs
      rcases List.mem_cons.mp h with rfl | h
      · simp [spc] at hs; omega
      · exact tl5_spc h
    · exact tl5_spc h
theorem whole5 : ∀ u : List Nat, hd5 u ++ (tl5 u).flatMap (fun p => p.1 :: p.2) = u
  | [] => rfl
  | c :: r => by
    have ih := whole5 r
    rw [hd5, tl5]
    split
    · rw [List.flatMap_cons, List.nil_append, List.cons_append, ih]
    · rw [List.cons_append, ih]
theorem split5 : ∀ u : List Nat, splitG [38] (esc5 u) = hd5 u :: (tl5 u).map fun p => nm5 p.1 ++ 59 :: p.2
  | [] => by rw [show esc5 [] = [] from rfl, splitG_nil (by decide)]; rfl
  | c :: r => by
    have ih := split5 r
    unfold esc5 at *
    rw [escBy_cons]
    have key : ∀ z : List Nat, 38 ∉ z → splitG [38] (38 :: (z ++ 59 :: escBy cdataT r)) = [] :: (z ++ 59 :: hd5 r) :: (tl5 r).map fun p => nm5 p.1 ++ 59 :: p.2 := fun z hz => by
      rw [splitG_hit (p := [38]) (l := 38 :: (z ++ 59 :: escBy cdataT r)) (by decide) ⟨z ++ 59 :: escBy cdataT r, rfl⟩]
      show [] :: splitG [38] (z ++ 59 :: escBy cdataT r) = _
      have e : z ++ 59 :: escBy cdataT r = (z ++ [59]) ++ escBy cdataT r := by simp
      rw [e, splitG_skip (by decide), ih]
      · show [] :: ((z ++ [59]) ++ hd5 r) :: _ = _
        simp
      · intro k hk q
        have h38 : 38 ∈ z ++ [59] := by
          obtain ⟨w, hw⟩ := q
          have hk' : ((z ++ [59]) ++ escBy cdataT r)[k]? = some 38 := by
            have := congrArg (fun l => l[0]?) hw
            simpa using this.symm
          rw [List.getElem?_append_left hk] at hk'
          exact List.mem_of_getElem? hk'
        rcases List.mem_append.mp h38 with q | q
        · exact hz q
        · revert q; decide
    rcases spell5 c with ⟨rfl, e⟩ | ⟨rfl, e⟩ | ⟨rfl, e⟩ | ⟨e0, e1, e2, e3, e⟩
    · rw [e]; exact key [97, 109, 112] (by decide)
    · rw [e]; exact key [108, 116] (by decide)
    · rw [e]; exact key [103, 116] (by decide)
    · rw [e, List.singleton_append, splitG_miss (by rintro ⟨w, hw⟩; exact e1 (List.cons.inj hw).1.symm), ih, hd5, tl5, e0]
      rfl
theorem part5 (z v : List Nat) (hz : 59 ∉ z) : cutG [59] (z ++ 59 :: v) = z ∧ behG [59] (z ++ 59 :: v) = v := by
  have h := cutG_at (p := [59]) (l := z ++ 59 :: v) (i := z.length) (by decide) (by rw [List.drop_left]; exact ⟨v, rfl⟩) (fun k hk q => by
    obtain ⟨w, hw⟩ := q
    have hk' : (z ++ 59 :: v)[k]? = some 59 := by
      have := congrArg (fun l => l[0]?) hw
      simpa using this.symm
    rw [List.getElem?_append_left hk] at hk'
    exact hz (List.mem_of_getElem? hk'))
  rw [h.1, h.2]
  refine ⟨by simp, ?_⟩
  rw [List.drop_append, List.drop_of_length_le (by simp)]
  simp
theorem cut_cd (u q : List Nat) (hu : 62 ∉ u) : cutG cd1 (u ++ cd1 ++ q) = u ∧ behG cd1 (u ++ cd1 ++ q) = q := by
  have h := cutG_at (p := cd1) (l := u ++ cd1 ++ q) (i := u.length) (by decide) (by rw [List.append_assoc, List.drop_left]; exact ⟨q, rfl⟩) (fun k hk z => by
    obtain ⟨w, hw⟩ := z
    have hk' : (u ++ cd1 ++ q)[k + 2]? = some 62 := by
      have := congrArg (fun l => l[2]?) hw
      simpa [cd1] using this.symm
    by_cases h2 : k + 2 < u.length
    · rw [List.append_assoc, List.getElem?_append_left h2] at hk'
      exact hu (List.mem_of_getElem? hk')
    · rw [List.append_assoc, List.getElem?_append_right (by omega)] at hk'
      have : k + 2 - u.length = 0 ∨ k + 2 - u.length = 1 := by omega
      rcases this with e | e <;> rw [e] at hk' <;> revert hk' <;> simp [cd1])
  rw [h.1, h.2]
  refine ⟨by simp, ?_⟩
  rw [List.drop_append, List.drop_of_length_le (by simp)]
  simp
theorem split_lt (u q : List Nat) (hu : 60 ∉ u) : ∃ t, splitG [60] (u ++ 60 :: q) = u :: t := by
  rw [splitG_skip (by decide), splitG_hit (p := [60]) (l := 60 :: q) (by decide) ⟨q, rfl⟩]
  · exact ⟨_, by show (u ++ []) :: _ = _; rw [List.append_nil]⟩
  · intro k hk z
    obtain ⟨w, hw⟩ := z
    have hk' : (u ++ 60 :: q)[k]? = some 60 := by
      have := congrArg (fun l => l[0]?) hw
      simpa using this.symm
    rw [List.getElem?_append_left hk] at hk'
    exact hu (List.mem_of_getElem? hk')
theorem sec_of (s : Bool) (c : Nat) (u q : List Nat) (hu : 60 ∉ u) : cd0.isPrefixOf ((one5 c s u ++ q).drop 3) = s := by
  have e : (one5 c s u ++ q).drop 3 = wrapS s u ++ [60, 47, c, 62] ++ q := rfl
  rw [e]
  cases s with
  | true => rw [List.isPrefixOf_iff_prefix]; exact ⟨u ++ cd1 ++ [60, 47, c, 62] ++ q, by simp [wrapS]⟩
  | false =>
    rw [show wrapS false u = u from rfl]
    cases u with
    | nil => rfl
    | cons d r =>
      have hd : d ≠ 60 := fun z => hu (by rw [z]; exact .head _)
      show (60 == d && _) = false
      rw [beq_eq_false_iff_ne.mpr (Ne.symm hd)]
      rfl
end Mine
end
section
open PySem PySem.W PyProof.Rows
set_option linter.unusedVariables false
set_option maxRecDepth 100000
namespace Mine
local macro_rules | `(tactic| walk_at "ev1") => `(tactic| first
  | exact ev_int | exact ev_str | exact ev_bool | exact ev_none
  | exact ev_name rfl rfl
  | exact evs_nil
  | (apply evs_more; (case hs => exact rfl))
  | apply ev_binop | (apply ev_cmp; (case hm => exact rfl)) | apply ev_sub
  | apply ev_list | apply ev_tuple
  | (apply tst_cmp; (case hm => exact rfl)) | apply tst_not | exact tst_and_nil | exact tst_or_nil
  | exact op_add_int | exact op_sub_int | exact op_iadd_int | exact op_eq_int | exact op_ne_int | exact op_lt_int | exact op_gt_int | exact op_le_int | exact op_ge_int
  | exact op_eq_str | exact op_ne_str | exact op_in_str | exact op_notin_str | exact op_in_dict | exact op_notin_dict | exact op_ne_nil | exact op_eq_nil
  | exact op_fdiv_int (by decide) (PyProof.noPylong_of_log2 (by decide +kernel)) | exact op_mod_int (by decide)
  | apply op_add_str | apply op_iadd_str
  | exact tsts_nil | apply tsts_one)
local macro_rules | `(tactic| walk_at "ev") => `(tactic| repeat' walk_at "ev1")
local macro_rules | `(tactic| walk_at "can") => `(tactic| first | exact Or.inl rfl | exact Or.inr ⟨rfl, rfl, _, rfl⟩)
local macro_rules | `(tactic| walk_at "as") => `(tactic| (refine exs_cons ?_; apply ex_assign; (case hc => walk_at "can"); (case hs => exact rfl); (case' k => refine then_next ?_); (case' h => walk_at "ev")))
local macro_rules | `(tactic| walk_at "aug") => `(tactic| (refine exs_cons ?_; apply ex_aug; (case h₀ => exact rfl); (case hc => walk_at "can"); (case' k => refine then_next ?_); (case' ho => skip); (case' h => walk_at "ev"); (try walk_at "ev")))
local macro_rules | `(tactic| walk_at "if") => `(tactic| (refine exs_cons ?_; apply ex_if; (case' h => walk_at "ev")))
local macro_rules | `(tactic| walk_at "ret") => `(tactic| (refine exs_cons ?_; apply ex_return; (case' h => walk_at "ev")))
local macro_rules | `(tactic| walk_at "params") => `(tactic| (intro x hx; simp only [List.mem_cons, List.not_mem_nil, or_false] at hx; first
  | (subst hx; first | exact .inl rfl | exact .inr ⟨rfl, fun _ => rfl⟩)
  | (rcases hx with hx | hx <;> subst hx <;> first | exact .inl rfl | exact .inr ⟨rfl, fun _ => rfl⟩)
  | (rcases hx with hx | hx | hx <;> subst hx <;> first | exact .inl rfl | exact .inr ⟨rfl, fun _ => rfl⟩)))
local macro_rules | `(tactic| walk_at "esc") => `(tactic| (refine esc_step rfl (by decide +kernel : _ = (⟨#[_]⟩ : Str)) ?_ ?_ ?_ ?_ (by assumption) rfl (by walk_at "can") rfl ?_))
abbrev pw := PySem.Challenge.pw_dn0275_05
section
variable {G : Gnd} {n : Nat} {doc pm cdv ct : Value} {a : Addr}
set_option maxHeartbeats 4000000
theorem fn_cdata (D : DefAt G a (fdOf (stOf pw 2) doc pm cdv ct) (bodyOf (stOf pw 2))) (l : List Nat) (hl : l.length ≤ 100000) : Fn G (n + 1) a [.str (T l)] (.str (T (escBy cdataT l))) := by
  refine fn_of (xs := ["text"]) D (fun vs h => ?_) rfl ?_ (by decide) fun L => ?_
  · match vs, h with
    | [v], _ => rfl
  · walk_at "params"
  rw [show T l = T (escBy [] l) from by rw [escBy_nil]]
  refine exs_cons (ex_try ?_)
  refine esc_step (c := 38) (z := rAmp) rfl (by decide +kernel) (by decide +kernel) (by decide) (by decide) (by decide) hl rfl (.inl rfl) rfl ?_
  refine esc_step (c := 60) (z := rLt) rfl (by decide +kernel) (by decide +kernel) (by decide) (by decide) (by decide) hl rfl (.inl rfl) rfl ?_
  refine esc_step (c := 62) (z := rGt) rfl (by decide +kernel) (by decide +kernel) (by decide) (by decide) (by decide) hl rfl (.inl rfl) rfl ?_
  walk_at "ret"
  rfl
def sg5 : List (Str × Str) := [("amp", "&"), ("lt", "<"), ("gt", ">")]
theorem sg5_get {c : Nat} (h : c = 38 ∨ c = 60 ∨ c = 62) : dget (sg5.map (·.1)) (sg5.map fun p => D.str p.2) (T (nm5 c)) = some (.str ⟨#[c]⟩) := by
  rcases h with rfl | rfl | rfl <;> rfl
theorem nm5_ok {c : Nat} (h : c = 38 ∨ c = 60 ∨ c = 62) : 59 ∉ nm5 c ∧ (nm5 c).length ≤ 3 := by
  rcases h with rfl | rfl | rfl <;> decide
theorem fn_read5 (dA : DefAt G a (fdOf (stOf pw 6) doc pm cdv ct) (bodyOf (stOf pw 6))) (u : List Nat) (hu : u.length ≤ 99990) (hw : (esc5 u).length ≤ 100000) : Fn G (n + 2) a [.str (T (esc5 u))] (.str (T u)) := by
  refine fn_of (xs := ["written"]) dA (fun vs h => ?_) rfl ?_ (by decide) fun L => ?_
  · match vs, h with
    | [v], _ => rfl
  · walk_at "params"
  have big : 1000000 ≤ sizeLine := by decide
  obtain ⟨h1, h2, _, _⟩ := esc5_facts u
  refine exs_cons (ex_assign (d := strDict sg5) (ev_dict (r := sg5) (by repeat' constructor) (by decide) (by decide) (by decide +kernel)) (.inl rfl) rfl (then_next ?_))
  have elt : ("<" : Str) = ⟨#[60]⟩ := by decide +kernel
  have egt : (">" : Str) = ⟨#[62]⟩ := by decide +kernel
  have eamp : ("&" : Str) = T [38] := by decide +kernel
  have esemi : (";" : Str) = T [59] := by decide +kernel
  have t1 : (tin "<" (T (esc5 u)) || (tin ">" (T (esc5 u)) || false)) = false := by
    rw [elt, egt, tin_T, tin_T]
    simp [h1, h2]
  refine exs_cons (ex_if (c := false) ?_ (fun h => nomatch h) fun _ => exs_nil (then_next ?_))
  · rw [← t1]
    exact tst_or (tst_cmp ev_str (ev_name rfl rfl) op_in_str rfl) fun _ => tst_or (tst_cmp ev_str (ev_name rfl rfl) op_in_str rfl) fun _ => tst_or_nil
  refine exs_cons (ex_assign (d := .list (txs ((splitG [38] (esc5 u)).map T))) ?_ (.inl rfl) rfl (then_next ?_))
  · rw [← split_T _ _ (by decide), ← eamp]
    exact ev_meth (ds := [.str "&"]) (ev_name rfl rfl) (evs_more ev_str evs_nil rfl) (getm_str F.slot_str_split F.type_str_split) (bf_split (by decide +kernel) (by rw [T_length]; omega)) rfl rfl (by show 1 < 30; decide) rfl
  rw [split5 u]
  have hwh := whole5 u
  have htl : (tl5 u).length ≤ 100000 := by
    have : (tl5 u).length ≤ ((tl5 u).flatMap fun p => p.1 :: p.2).length := by
      generalize tl5 u = l
      induction l with
      | nil => simp
      | cons p l ih => rw [List.flatMap_cons, List.length_append]; simp only [List.length_cons]; omega
    have h3 := congrArg List.length hwh
    rw [List.length_append] at h3
    omega
  refine exs_cons (ex_assign (d := .str (T (hd5 u))) (ev_sub (ev_name rfl rfl) ev_int (sb_list (by decide) (by decide) rfl)) (.inl rfl) rfl (then_next ?_))
  refine exs_cons ?_
  refine ex_forI (d := .list ((txs ((hd5 u :: (tl5 u).map fun p => nm5 p.1 ++ 59 :: p.2).map T)).drop 1)) (ds := (tl5 u).map fun p => D.str (T (nm5 p.1 ++ 59 :: p.2))) (fun i => [("signs", .val (strDict sg5)), ("text", .val (.str (T (hd5 u ++ ((tl5 u).take i).flatMap fun p => p.1 :: p.2))))]) ?_ ?_ (sub_cons rfl (sub_cons ?_ sub_nil)) (fun i d hd => ?_) (fun ρ' hs => ?_) fun _ => rfl
  · exact ev_sub (ev_name rfl rfl) (ev_slice (lo := some ((1 : Nat) : Int)) (hi := none) ev_int trivial) (sb_from (a := 1) (by simp) (by simp; omega))
  · rw [show (txs ((hd5 u :: (tl5 u).map fun p => nm5 p.1 ++ 59 :: p.2).map T)).drop 1 = (tl5 u).map fun p => D.str (T (nm5 p.1 ++ 59 :: p.2)) from by simp [txs, List.map_map]]
    exact itr_list
  · simp
  · obtain ⟨p, hp, rfl⟩ := at_map hd
    have hpm := List.mem_of_getElem? hp
    have hc := tl5_spc hpm
    obtain ⟨z1, z2⟩ := nm5_ok hc
    obtain ⟨c1, c2⟩ := part5 (nm5 p.1) p.2 z1
    have htk : ((tl5 u).take (i + 1)).flatMap (fun p => p.1 :: p.2) = ((tl5 u).take i).flatMap (fun p => p.1 :: p.2) ++ p.1 :: p.2 := by
      rw [List.take_add_one, hp, List.flatMap_append]
      simp
    have hlen : (hd5 u ++ ((tl5 u).take i).flatMap fun p => p.1 :: p.2).length + (p.1 :: p.2).length ≤ u.length := by
      have e : u = hd5 u ++ ((tl5 u).take (i + 1)).flatMap (fun p => p.1 :: p.2) ++ ((tl5 u).drop (i + 1)).flatMap (fun p => p.1 :: p.2) := by
        rw [List.append_assoc, ← List.flatMap_append, List.take_append_drop, hwh]
      have := congrArg List.length e
      rw [List.length_append, htk, ← List.append_assoc, List.length_append] at this
      omega
    rw [htk, ← List.append_assoc]
    generalize hd5 u ++ ((tl5 u).take i).flatMap (fun p => p.1 :: p.2) = acc at hlen
    obtain ⟨c, v⟩ := p
    dsimp only at hc z1 z2 c1 c2 hlen ⊢
    simp only [List.length_cons] at hlen
    have hmid : midG [59] (nm5 c ++ 59 :: v) = T [59] := mid_at (i := (nm5 c).length) (by decide) (by rw [List.drop_left]; exact ⟨v, rfl⟩)
    refine ⟨_, asg_name (.inl rfl), ?_⟩
    refine exs_cons (ex_assign_tuple (d := .tup [.str (T (nm5 c)), .str (T [59]), .str (T v)]) ?_ (asg_tuple (asgs_cons (asg_name (.inl rfl)) (asgs_cons (asg_name (.inl rfl)) (asgs_cons (asg_name (.inl rfl)) asgs_nil rfl) rfl) rfl)) rfl rfl (then_next ?_))
    · have hb := bf_partition (G := G) (l := nm5 c ++ 59 :: v) (p := [59]) (by decide) (by simp; omega)
      rw [c1, c2, hmid, ← esemi] at hb
      rw [← esemi]
      exact ev_meth (ds := [.str ";"]) (ev_name rfl rfl) (evs_more ev_str evs_nil rfl) (getm_str F.slot_str_partition F.type_str_partition) hb rfl rfl (by show 1 < 30; decide) rfl
    have t2 : ((T [59] == ("" : Str)) || ((!(dget (sg5.map (·.1)) (sg5.map fun p => D.str p.2) (T (nm5 c))).isSome) || false)) = false := by
      rw [sg5_get hc, show (T [59] == ("" : Str)) = false from by decide +kernel]
      rfl
    refine exs_cons (ex_if (c := false) ?_ (fun h => nomatch h) fun _ => exs_nil (then_next ?_))
    · rw [← t2]
      exact tst_or (tst_cmp (ev_name rfl rfl) ev_str op_eq_str rfl) fun _ => tst_or (tst_cmp (ev_name rfl rfl) (ev_name rfl rfl) op_notin_dict rfl) fun _ => tst_or_nil
    refine exs_cons (ex_aug (d₀ := .str (T acc)) (d₁ := .str (T (c :: v))) (d := .str (T (acc ++ c :: v))) rfl ?_ ?_ (.inl rfl) (then_next (exs_nil (sub_cons rfl (sub_cons rfl sub_nil)))))
    · rw [show c :: v = [c] ++ v from rfl]
      refine ev_cat (x := [c]) ?_ (ev_name rfl rfl) (by simp; omega)
      exact ev_sub (ev_name rfl rfl) (ev_name rfl rfl) (sb_dict (sg5_get hc))
    · rw [← T_append]
      exact op_iadd_str (by rw [T_length, T_length]; simp; omega)
  · rw [List.length_map, List.take_length, hwh] at hs
    refine then_next (exs_weaken hs ?_)
    walk_at "ret"
    rfl
end
end Mine
end
section
open PySem PySem.W PyProof.Rows
set_option linter.unusedVariables false
set_option maxRecDepth 100000
namespace Mine
section
variable {G : Gnd} {env : Env} {Z Z' H : Zf} {ρ ρ' : Loc} {s s' : Shared} {A : Around} {E : Value → Shared → Prop} {n : Nat} {pos apos : Pos}
theorem draw_walks {I : Addr} {fp : List Addr} {m : Nat} {P : Nat → Value → Prop} {W : Nat → Heap → Prop} (X : WalksG G A I fp [I] m P W) : ∀ (k i : Nat) (s : Shared) (Q : List Value → Shared → Prop) (E : Value → Shared → Prop), W i s.heap → G.t0 < s.toks → i + k ≤ m →
    (∀ vs h' tk, W (i + k) h' → (∀ b o, b ≠ I → s.heap.get? b = some o → h'.get? b = some o) → vs.length = k → (∀ j v, vs[j]? = some v → P (i + j) v) → s.toks ≤ tk → Q vs { s with heap := h', toks := tk }) → wpAny (model G.prog G.w) A (draw (.ref I) k) Q E s
  | 0, i, s, Q, E, w, ht, hk, h => wpAny_pure (h [] s.heap s.toks w (fun _ _ _ e => e) rfl (fun j v e => by simp at e) (Nat.le_refl _))
  | k + 1, i, s, Q, E, w, ht, hk, h => by
    show wpAny _ _ (pyNext (.ref I) >>= _) Q E s
    refine wpAny_bind (wpAny_with_toks (Nat.le_refl s.toks) (X.item i s _ _ (by omega) ht w fun v h₁ t₁ pv w₁ k₁ tok₁ => ?_))
    have tok : s.toks ≤ t₁ := tok₁
    refine wpAny_bind (wpAny_holding (draw_walks X k (i + 1) { s with heap := h₁, toks := t₁ } _ E w₁ (Nat.lt_of_lt_of_le ht tok) (by omega) fun vs h₂ t₂ w₂ k₂ l₂ p₂ tok₂ => wpAny_pure ?_))
    refine h (v :: vs) h₂ t₂ (by rw [show i + (k + 1) = i + 1 + k by omega]; exact w₂) (fun b o hb e => k₂ b o hb (k₁ b o (by simpa using hb) e)) (by simp [l₂]) (fun j u e => ?_) (Nat.le_trans tok tok₂)
    match j, e with
    | 0, e => simp at e; subst e; exact pv
    | j + 1, e => simp at e; have := p₂ j u e; rwa [show i + 1 + j = i + (j + 1) by omega] at this
/-- a list is taken apart -/
theorem asg_listTuple {ts : List PySem.Expr} {ds : List D} {k : Nat} (h : Asgs G env ts ds ρ ρ') : Asg G env (.Tuple ts k pos) (.list ds) ρ ρ' := Asg.mk fun A Z H s v R S r => by
  have hi := (itr_list (G := G) (ds := ds)).run A Z s v R S.bs r
  cases r with
  | @list a vs j _ hz ra =>
    have hl := isList_of (S.zin _ _ hz)
    rw [arm_assign_Tuple]
    refine wpAny_bind (wpAny_standAt ?_)
    unfold unpack
    rw [h.len, h.star]
    refine wpAny_bind (wpAny_holding ?_)
    unfold unpackItems
    refine wpAny_bind ?_
    unfold notIterableAtAll
    refine wpAny_bind (wpAny_specialOf hl.typeIs slot_list_iter.lookup (wpAny_pure ?_))
    simp only [Bool.false_eq_true, if_false]
    refine wpAny_bind (wpAny_holding (wp_seq hi fun it s₁ ⟨I, fp, P, W, e, x₁, hI, hW, hfp, hW0, hcls, hP⟩ => ?_))
    subst e
    have X := hW A R.handled
    have S₁ := S.ext x₁
    refine wpAny_bind (wpAny_holding (draw_walks X ds.length 0 s₁ _ _ hW0 S₁.tk (by omega) fun us h₂ t₂ w₂ k₂ l₂ p₂ tok₂ => ?_))
    rw [if_neg (by rw [l₂]; omega)]
    rw [Nat.zero_add] at w₂
    refine wpAny_bind (wpAny_holding (wpAny_with_toks (Nat.le_refl t₂) (X.done { s₁ with heap := h₂, toks := t₂ } _ _ w₂ fun h₃ t₃ k₃ tok₃ => ?_)))
    simp only [Option.isSome_none, Bool.false_eq_true, if_false]
    refine wpAny_pure ?_
    have hk : ∀ b o, s.heap.get? b = some o → h₃.get? b = some o := fun b o e => by
      have hb : b ≠ I := fun q => by rw [q, hI] at e; cases e
      exact k₃ b o (by simpa using hb) (k₂ b o hb (x₁.keep b o e))
    have x : Ext Z s Z { s₁ with heap := h₃, toks := t₃ } := ⟨Zle.same, hk, fun b o e => hk b o (S.zin b o e), fun _ _ h => .inl h, x₁.gens, x₁.os, Nat.le_trans x₁.tk (Nat.le_trans tok₂ tok₃)⟩
    refine h.run A Z H _ us R (S.ext x) ?_
    have key : ∀ (us : List Value) (ds : List D), us.length = ds.length → (∀ (j : Nat) (v : Value), us[j]? = some v → ∃ d, ds[j]? = some d ∧ Rep G Z v d) → RepAll G Z us ds := by
      intro us
      induction us with
      | nil => intro ds hl _; cases ds with | nil => exact .nil | cons _ _ => cases hl
      | cons u us ih =>
        intro ds hl hh
        cases ds with
        | nil => cases hl
        | cons d ds =>
          obtain ⟨d', e1, e2⟩ := hh 0 u rfl
          simp at e1
          subst e1
          exact .cons e2 (ih ds (by simpa using hl) fun j v e => by simpa using hh (j + 1) v (by simpa using e))
    exact key us ds l₂ fun j v e => by
      have := hP _ _ (p₂ j v e)
      rwa [Nat.zero_add] at this
end
end Mine
end
section
open PySem PySem.W PyProof.Rows
set_option linter.unusedVariables false
set_option maxRecDepth 100000
namespace Mine
local macro_rules | `(tactic| walk_at "ev1") => `(tactic| first
  | exact ev_int | exact ev_str | exact ev_bool | exact ev_none
  | exact ev_name rfl rfl
  | exact evs_nil
  | (apply evs_more; (case hs => exact rfl))
  | apply ev_binop | (apply ev_cmp; (case hm => exact rfl)) | apply ev_sub
  | apply ev_list | apply ev_tuple
  | (apply tst_cmp; (case hm => exact rfl)) | apply tst_not | exact tst_and_nil | exact tst_or_nil
  | exact op_add_int | exact op_sub_int | exact op_iadd_int | exact op_eq_int | exact op_ne_int | exact op_lt_int | exact op_gt_int | exact op_le_int | exact op_ge_int
  | exact op_eq_str | exact op_ne_str | exact op_in_str | exact op_notin_str | exact op_in_dict | exact op_notin_dict | exact op_ne_nil | exact op_eq_nil
  | exact op_fdiv_int (by decide) (PyProof.noPylong_of_log2 (by decide +kernel)) | exact op_mod_int (by decide)
  | apply op_add_str | apply op_iadd_str
  | exact tsts_nil | apply tsts_one)
local macro_rules | `(tactic| walk_at "ev") => `(tactic| repeat' walk_at "ev1")
local macro_rules | `(tactic| walk_at "can") => `(tactic| first | exact Or.inl rfl | exact Or.inr ⟨rfl, rfl, _, rfl⟩)
local macro_rules | `(tactic| walk_at "as") => `(tactic| (refine exs_cons ?_; apply ex_assign; (case hc => walk_at "can"); (case hs => exact rfl); (case' k => refine then_next ?_); (case' h => walk_at "ev")))
local macro_rules | `(tactic| walk_at "aug") => `(tactic| (refine exs_cons ?_; apply ex_aug; (case h₀ => exact rfl); (case hc => walk_at "can"); (case' k => refine then_next ?_); (case' ho => skip); (case' h => walk_at "ev"); (try walk_at "ev")))
local macro_rules | `(tactic| walk_at "if") => `(tactic| (refine exs_cons ?_; apply ex_if; (case' h => walk_at "ev")))
local macro_rules | `(tactic| walk_at "ret") => `(tactic| (refine exs_cons ?_; apply ex_return; (case' h => walk_at "ev")))
local macro_rules | `(tactic| walk_at "params") => `(tactic| (intro x hx; simp only [List.mem_cons, List.not_mem_nil, or_false] at hx; first
  | (subst hx; first | exact .inl rfl | exact .inr ⟨rfl, fun _ => rfl⟩)
  | (rcases hx with hx | hx <;> subst hx <;> first | exact .inl rfl | exact .inr ⟨rfl, fun _ => rfl⟩)
  | (rcases hx with hx | hx | hx <;> subst hx <;> first | exact .inl rfl | exact .inr ⟨rfl, fun _ => rfl⟩)))
local macro_rules | `(tactic| walk_at "esc") => `(tactic| (refine esc_step rfl (by decide +kernel : _ = (⟨#[_]⟩ : Str)) ?_ ?_ ?_ ?_ (by assumption) rfl (by walk_at "can") rfl ?_))
section
variable {G : Gnd} {n : Nat} {doc pm cdv ct : Value} {a : Addr}
set_option maxHeartbeats 4000000
theorem fn_rowStep {m : Nat} {ac : Addr} (dA : DefAt G a (fdOf (stOf pw 5) doc pm cdv ct) (bodyOf (stOf pw 5))) (hi : nsIn G.K mainGlobals "isinstance" = some none) (hs : nsIn G.K mainGlobals "str" = some none)
    (gc : nsIn G.K mainGlobals "_escape_cdata" = some (some (.ref ac))) (kc : keepIn G.K (.ref ac) = true) (fc : ∀ l : List Nat, l.length ≤ 100000 → Fn G m ac [.str (T l)] (.str (T (escBy cdataT l))))
    (gr : nsIn G.K mainGlobals "_law_row" = some (some (.ref a))) (kr : keepIn G.K (.ref a) = true)
    (its : List Item) (hsm : Small5 its) (hrec : ∀ s its', Item.doc s its' ∈ its → Fn G m a [.list (itemsD its')] (.str (T (rowL its')))) : Fn G (m + 1) a [.list (itemsD its)] (.str (T (rowL its))) := by
  refine fn_of (xs := ["items"]) dA (fun vs h => ?_) rfl ?_ (by decide) fun L => ?_
  · match vs, h with
    | [v], _ => rfl
  · walk_at "params"
  have big : 1000000 ≤ sizeLine := by decide
  obtain ⟨hlen, _⟩ := hsm.len
  walk_at "as"
  refine exs_cons ?_
  refine ex_forI (d := .list (itemsD its)) (ds := itemsD its) (fun i => [("row", .val (.str (T (rowL (its.take i)))))]) (ev_name rfl rfl) itr_list (sub_cons (by rw [List.take_zero, rowL]; rfl) sub_nil) (fun i d hd => ?_) (fun ρ' hs => ?_) fun _ => rfl
  · rw [itemsD_map] at hd
    obtain ⟨it, hit, rfl⟩ := at_map hd
    have hmem := List.mem_of_getElem? hit
    have hrI := rowL_mem hmem
    have htk : rowL (its.take (i + 1)) = rowL (its.take i) ++ rowI it := by
      rw [List.take_add_one, hit, rowL_app]
      show _ ++ rowL [it] = _
      rw [rowL, rowL, List.append_nil]
    have hacc : (rowL (its.take i)).length + (rowI it).length ≤ 99000 := by
      have e : rowL its = rowL (its.take (i + 1)) ++ rowL (its.drop (i + 1)) := by rw [← rowL_app, List.take_append_drop]
      have := congrArg List.length e
      rw [htk, List.length_append, List.length_append] at this
      omega
    rw [htk]
    generalize rowL (its.take i) = acc at hacc
    have elt : ("<" : Str) = T [60] := by decide +kernel
    have egt : (">" : Str) = T [62] := by decide +kernel
    have elts : ("</" : Str) = T [60, 47] := by decide +kernel
    have ecd0 : ("<![CDATA[" : Str) = T cd0 := by decide +kernel
    have ecd1 : ("]]>" : Str) = T cd1 := by decide +kernel
    -- once name and told stand
    have tail : ∀ (c : Nat) (s : Bool) (u : List Nat) (ρ : Loc), (one5 c s (esc5 u)).length = (rowI it).length → rowI it = one5 c s (esc5 u) →
        Sub [("row", .val (.str (T acc))), ("section", .val (.int (sN s))), ("name", .val (.str (T [c]))), ("told", .val (.str (T (esc5 u))))] ρ →
        Exs G (callEnvC (fdOf (stOf pw 5) doc pm cdv ct) L a) m ρ (match bodyOf (stOf pw 5) with | _ :: .For _ _ b _ _ :: _ => b.drop 2 | _ => []) (LoopPost (Then (RetPost (.str (T (rowL its)))) fun ρ' => Exs G (callEnvC (fdOf (stOf pw 5) doc pm cdv ct) L a) m ρ' ((bodyOf (stOf pw 5)).drop 2) (RetPost (.str (T (rowL its))))) (Sub [("row", .val (.str (T (acc ++ rowI it))))])) := by
      intro c s u ρ hl he hsub
      refine exs_weaken hsub ?_
      rw [one5_len] at hl
      have hgb : gB s ≤ 19 := by cases s <;> decide
      have hwl : (wrapS s (esc5 u)).length ≤ 12 + (esc5 u).length := by cases s <;> simp [wrapS, cd0, cd1] <;> omega
      have hgw : gB s + (esc5 u).length ≤ 99000 := by omega
      refine exs_if_join [("row", .val (.str (T acc))), ("name", .val (.str (T [c]))), ("told", .val (.str (T (wrapS s (esc5 u)))))] (c := sN s == 1) (tst_cmp (ev_name rfl rfl) ev_int op_eq_int rfl) ?_ (fun h1 => ?_) fun h1 => ?_
      · refine exs_cons (ex_aug (d₀ := .str (T acc)) (d₁ := .str (T (rowI it))) (d := .str (T (acc ++ rowI it))) rfl ?_ ?_ (.inl rfl) (then_next (exs_nil (sub_cons rfl sub_nil))))
        · rw [he]
          have e : one5 c s (esc5 u) = (((([60] ++ [c]) ++ [62]) ++ wrapS s (esc5 u)) ++ [60, 47]) ++ [c] ++ [62] := by simp [one5]
          rw [e]
          refine ev_cat (ev_cat (ev_cat (ev_cat (ev_cat (ev_cat ?_ (ev_name rfl rfl) (by simp)) ?_ (by simp)) (ev_name rfl rfl) (by simp; omega)) ?_ (by simp; omega)) (ev_name rfl rfl) (by simp; omega)) ?_ (by simp; omega)
          · rw [← elt]; exact ev_str
          · rw [← egt]; exact ev_str
          · rw [← elts]; exact ev_str
          · rw [← egt]; exact ev_str
        · rw [← T_append]
          exact op_iadd_str (by rw [T_length, T_length]; omega)
      · have hs1 : s = true := by cases s with | true => rfl | false => exact absurd h1 (by decide)
        subst hs1
        refine exs_cons (ex_assign (d := .str (T (wrapS true (esc5 u)))) ?_ (.inl rfl) rfl (then_next (exs_nil (then_next (sub_cons rfl (sub_cons rfl (sub_cons rfl sub_nil)))))))
        show Ev _ _ _ _ _ (.str (T ((cd0 ++ esc5 u) ++ cd1)))
        refine ev_cat (ev_cat ?_ (ev_name rfl rfl) (by simp [cd0]; omega)) ?_ (by simp [cd0, cd1]; omega)
        · rw [← ecd0]; exact ev_str
        · rw [← ecd1]; exact ev_str
      · have hs1 : s = false := by cases s with | false => rfl | true => exact absurd h1 (by decide)
        subst hs1
        exact exs_nil (then_next (sub_cons rfl (sub_cons rfl (sub_cons rfl sub_nil))))
    cases it with
    | text s x =>
      have hx : (esc5 x).length ≤ 99000 ∧ x.length ≤ 100000 := by
        have h1 := congrArg List.length (show rowI (.text s x) = one5 116 s (esc5 x) from by rw [rowI])
        rw [one5_len] at h1
        have h2 := baL_mem hmem
        rw [baI_text] at h2
        have := hsm.ba
        exact ⟨by omega, by omega⟩
      rw [itemD]
      refine ⟨_, asg_listTuple (asgs_cons (asg_name (.inl rfl)) (asgs_cons (asg_name (.inl rfl)) asgs_nil rfl) rfl), ?_⟩
      refine exs_cons (ex_assign (d := .str (T [116])) (ev_ifexp (c := true) (d₂ := .none) (tst_plain (ev_isstr (ev_name rfl rfl) (.inl ⟨_, rfl, rfl⟩) hi hs rfl rfl rfl) tr_bool fun _ => rfl) (fun _ => ?_) fun h => nomatch h) (.inl rfl) rfl (then_next ?_))
      · rw [show T [116] = ("t" : Str) from by decide +kernel]; exact ev_str
      refine exs_cons (ex_assign (d := .str (T (esc5 x))) (ev_call (ev_glob gc rfl rfl) (evs_more (ev_ifexp (c := true) (d₁ := .str (T x)) (d₂ := .none) ?_ (fun _ => ev_name rfl rfl) fun h => nomatch h) evs_nil rfl) kc (fc x hx.2) rfl rfl) (.inl rfl) rfl (then_next ?_))
      · have e : (T [116] == ("t" : Str)) = true := by decide +kernel
        rw [← e]; exact tst_cmp (ev_name rfl rfl) ev_str op_eq_str rfl
      exact tail 116 s x _ (by rw [rowI]) (by rw [rowI]) (sub_cons rfl (sub_cons rfl (sub_cons rfl (sub_cons rfl sub_nil))))
    | doc s its' =>
      have hx : (esc5 (rowL its')).length ≤ 99000 ∧ (rowL its').length ≤ 100000 := by
        have h1 := congrArg List.length (show rowI (.doc s its') = one5 100 s (esc5 (rowL its')) from by rw [rowI])
        rw [one5_len] at h1
        have := (hsm.item hmem).len.1
        exact ⟨by omega, by omega⟩
      rw [itemD]
      refine ⟨_, asg_listTuple (asgs_cons (asg_name (.inl rfl)) (asgs_cons (asg_name (.inl rfl)) asgs_nil rfl) rfl), ?_⟩
      refine exs_cons (ex_assign (d := .str (T [100])) (ev_ifexp (c := false) (d₁ := .none) (tst_plain (ev_isstr (ev_name rfl rfl) (.inr ⟨_, rfl, rfl⟩) hi hs rfl rfl rfl) tr_bool fun _ => rfl) (fun h => nomatch h) fun _ => ?_) (.inl rfl) rfl (then_next ?_))
      · rw [show T [100] = ("d" : Str) from by decide +kernel]; exact ev_str
      refine exs_cons (ex_assign (d := .str (T (esc5 (rowL its')))) (ev_call (ev_glob gc rfl rfl) (evs_more (ev_ifexp (c := false) (d₁ := .none) (d₂ := .str (T (rowL its'))) ?_ (fun h => nomatch h) fun _ => ev_call (ev_glob gr rfl rfl) (evs_more (ev_name rfl rfl) evs_nil rfl) kr (hrec s its' hmem) rfl rfl) evs_nil rfl) kc (fc (rowL its') hx.2) rfl rfl) (.inl rfl) rfl (then_next ?_))
      · have e : (T [100] == ("t" : Str)) = false := by decide +kernel
        rw [← e]; exact tst_cmp (ev_name rfl rfl) ev_str op_eq_str rfl
      exact tail 100 s (rowL its') _ (by rw [rowI]) (by rw [rowI]) (sub_cons rfl (sub_cons rfl (sub_cons rfl (sub_cons rfl sub_nil))))
  · rw [itemsD_map, List.length_map, List.take_length] at hs
    refine then_next (exs_weaken hs ?_)
    walk_at "ret"
    rfl
theorem fn_row {ac : Addr} (dA : DefAt G a (fdOf (stOf pw 5) doc pm cdv ct) (bodyOf (stOf pw 5))) (hi : nsIn G.K mainGlobals "isinstance" = some none) (hs : nsIn G.K mainGlobals "str" = some none)
    (gc : nsIn G.K mainGlobals "_escape_cdata" = some (some (.ref ac))) (kc : keepIn G.K (.ref ac) = true) (fc : ∀ (m : Nat) (l : List Nat), l.length ≤ 100000 → Fn G (m + 1) ac [.str (T l)] (.str (T (escBy cdataT l))))
    (gr : nsIn G.K mainGlobals "_law_row" = some (some (.ref a))) (kr : keepIn G.K (.ref a) = true) : ∀ (k : Nat) (its : List Item), Small5 its → depL its ≤ k → Fn G (n + 2 + k) a [.list (itemsD its)] (.str (T (rowL its)))
  | 0, its, hsm, hd => fn_rowStep (m := n + 1) dA hi hs gc kc (fc n) gr kr its hsm fun s its' hm => by
      have := depL_mem hm
      rw [depI] at this
      omega
  | k + 1, its, hsm, hd => by
    have hcast : n + 2 + (k + 1) = (n + 2 + k) + 1 := by omega
    rw [hcast]
    refine fn_rowStep (m := n + 2 + k) dA hi hs gc kc ?_ gr kr its hsm fun s its' hm => ?_
    · intro l hl
      have := fc (n + 1 + k) l hl
      rwa [show n + 1 + k + 1 = n + 2 + k from by omega] at this
    · have := depL_mem hm
      rw [depI] at this
      exact fn_row dA hi hs gc kc fc gr kr k its' (hsm.item hm) (by omega)
end
end Mine
end
section
open PySem PySem.W PyProof.Rows
set_option linter.unusedVariables false
set_option maxRecDepth 100000
namespace Mine
local macro_rules | `(tactic| walk_at "ev1") => `(tactic| first
  | exact ev_int | exact ev_str | exact ev_bool | exact ev_none
  | exact ev_name rfl rfl
  | exact evs_nil
  | (apply evs_more; (case hs => exact rfl))
  | apply ev_binop | (apply ev_cmp; (case hm => exact rfl)) | apply ev_sub
  | apply ev_list | apply ev_tuple
  | (apply tst_cmp; (case hm => exact rfl)) | apply tst_not | exact tst_and_nil | exact tst_or_nil
  | exact op_add_int | exact op_sub_int | exact op_iadd_int | exact op_eq_int | exact op_ne_int | exact op_lt_int | exact op_gt_int | exact op_le_int | exact op_ge_int
  | exact op_eq_str | exact op_ne_str | exact op_in_str | exact op_notin_str | exact op_in_dict | exact op_notin_dict | exact op_ne_nil | exact op_eq_nil
  | exact op_fdiv_int (by decide) (PyProof.noPylong_of_log2 (by decide +kernel)) | exact op_mod_int (by decide)
  | apply op_add_str | apply op_iadd_str
  | exact tsts_nil | apply tsts_one)
local macro_rules | `(tactic| walk_at "ev") => `(tactic| repeat' walk_at "ev1")
local macro_rules | `(tactic| walk_at "can") => `(tactic| first | exact Or.inl rfl | exact Or.inr ⟨rfl, rfl, _, rfl⟩)
local macro_rules | `(tactic| walk_at "as") => `(tactic| (refine exs_cons ?_; apply ex_assign; (case hc => walk_at "can"); (case hs => exact rfl); (case' k => refine then_next ?_); (case' h => walk_at "ev")))
local macro_rules | `(tactic| walk_at "aug") => `(tactic| (refine exs_cons ?_; apply ex_aug; (case h₀ => exact rfl); (case hc => walk_at "can"); (case' k => refine then_next ?_); (case' ho => skip); (case' h => walk_at "ev"); (try walk_at "ev")))
local macro_rules | `(tactic| walk_at "if") => `(tactic| (refine exs_cons ?_; apply ex_if; (case' h => walk_at "ev")))
local macro_rules | `(tactic| walk_at "ret") => `(tactic| (refine exs_cons ?_; apply ex_return; (case' h => walk_at "ev")))
local macro_rules | `(tactic| walk_at "params") => `(tactic| (intro x hx; simp only [List.mem_cons, List.not_mem_nil, or_false] at hx; first
  | (subst hx; first | exact .inl rfl | exact .inr ⟨rfl, fun _ => rfl⟩)
  | (rcases hx with hx | hx <;> subst hx <;> first | exact .inl rfl | exact .inr ⟨rfl, fun _ => rfl⟩)
  | (rcases hx with hx | hx | hx <;> subst hx <;> first | exact .inl rfl | exact .inr ⟨rfl, fun _ => rfl⟩)))
local macro_rules | `(tactic| walk_at "esc") => `(tactic| (refine esc_step rfl (by decide +kernel : _ = (⟨#[_]⟩ : Str)) ?_ ?_ ?_ ?_ (by assumption) rfl (by walk_at "can") rfl ?_))
section
variable {G : Gnd} {n : Nat} {doc pm cdv ct : Value} {a : Addr}
set_option maxHeartbeats 4000000
theorem starts3_T (l p : List Nat) (i : Nat) (hi : i ≤ l.length) : Txt.startswith3 (T l) (T p) (i : Int) = p.isPrefixOf (l.drop i) := by
  have hf : fromIndex (T l).length (i : Int) = i := by
    unfold fromIndex
    have : ¬ (i : Int) < 0 := by omega
    simp [this]
  unfold Txt.startswith3
  rw [hf, StrLaws.subAt_eq, T_length, T_length, T_list, T_list, Bool.eq_iff_iff, Bool.and_eq_true, decide_eq_true_eq, beq_iff_eq, List.isPrefixOf_iff_prefix]
  constructor
  · rintro ⟨_, h⟩
    exact ⟨_, by conv => lhs; rw [← h]
                 exact List.take_append_drop _ _⟩
  · rintro ⟨t, h⟩
    have := congrArg List.length h
    rw [List.length_append, List.length_drop] at this
    rw [← h]
    simp
    omega
def kindI : Item → Nat
  | .text _ _ => 116
  | .doc _ _ => 100
def secI : Item → Bool
  | .text s _ => s
  | .doc s _ => s
def bodI : Item → List Nat
  | .text _ x => x
  | .doc _ its => rowL its
theorem rowI_eq (it : Item) : rowI it = one5 (kindI it) (secI it) (esc5 (bodI it)) := by cases it <;> rw [rowI] <;> rfl
theorem kindI_or (it : Item) : kindI it = 116 ∨ kindI it = 100 := by cases it <;> simp [kindI]
theorem len_le_baL : ∀ its : List Item, its.length ≤ baL its
  | [] => Nat.zero_le _
  | j :: r => by
    have ih := len_le_baL r
    rw [baL_cons, List.length_cons]
    have h1 : 1 ≤ baI j := by
      cases j with
      | text s x => rw [baI_text]; cases s <;> simp [gB] <;> omega
      | doc s l => rw [baI_doc]; cases s <;> simp [gB] <;> omega
    omega
theorem fn_itemsStep {m : Nat} {ard : Addr} (dA : DefAt G a (fdOf (stOf pw 7) doc pm cdv ct) (bodyOf (stOf pw 7))) (hlen : nsIn G.K mainGlobals "len" = some none)
    (gd : nsIn G.K mainGlobals "_law_read" = some (some (.ref ard))) (kd : keepIn G.K (.ref ard) = true) (fd : ∀ u : List Nat, u.length ≤ 99990 → (esc5 u).length ≤ 100000 → Fn G m ard [.str (T (esc5 u))] (.str (T u)))
    (gi : nsIn G.K mainGlobals "_law_items" = some (some (.ref a))) (ki : keepIn G.K (.ref a) = true)
    (its : List Item) (hsm : Small5 its) (hrec : ∀ s its', Item.doc s its' ∈ its → Fn G m a [.str (T (rowL its'))] (.list (itemsD its'))) : Fn G (m + 1) a [.str (T (rowL its))] (.list (itemsD its)) := by
  refine fn_of (xs := ["row"]) dA (fun vs h => ?_) rfl ?_ (by decide) fun L => ?_
  · match vs, h with
    | [v], _ => rfl
  · walk_at "params"
  have big : 1000000 ≤ sizeLine := by decide
  obtain ⟨hl0, _⟩ := hsm.len
  refine exs_cons (ex_assign_own evs_nil (by decide) (.inl rfl) (then_next ?_))
  refine exs_cons ?_
  refine ex_whileI (σ := Nat) (fun i => [("row", .val (.str (T (rowL (its.drop i))))), ("items", .own (itemsD (its.take i)))]) (fun i => its.length - i) (fun i => i ≤ its.length) 0 (sub_cons rfl (sub_cons (by rw [List.take_zero, itemsD]; rfl) sub_nil)) (Nat.zero_le _) ?_
  intro i hi
  have hR : (rowL (its.drop i)).length ≤ 99000 := by
    have e : rowL its = rowL (its.take i) ++ rowL (its.drop i) := by rw [← rowL_app, List.take_append_drop]
    have := congrArg List.length e
    rw [List.length_append] at this
    omega
  refine ⟨T (rowL (its.drop i)) != "", tst_cmp (ev_name rfl rfl) ev_str op_ne_str rfl, fun hc => ?_, fun hc ρ' hsub => ?_⟩
  · cases hdi : its.drop i with
    | nil => rw [hdi, rowL] at hc; exact absurd hc (by decide +kernel)
    | cons it rest =>
      have hilt : i < its.length := by
        have := congrArg List.length hdi
        rw [List.length_drop, List.length_cons] at this
        omega
      have hit : its[i]? = some it := by
        have := List.drop_eq_getElem_cons hilt
        rw [hdi] at this
        rw [List.getElem?_eq_getElem hilt, (List.cons.inj this).1]
      have hrest : rest = its.drop (i + 1) := by
        have := List.drop_eq_getElem_cons hilt
        rw [hdi] at this
        exact (List.cons.inj this).2
      have hmem := List.mem_of_getElem? hit
      have hc2 := kindI_or it
      have hRe : rowL (it :: rest) = one5 (kindI it) (secI it) (esc5 (bodI it)) ++ rowL rest := by rw [rowL, rowI_eq]
      rw [hdi, hRe, List.length_append, one5_len] at hR
      have huu : (bodI it).length ≤ 99000 := by
        cases it with
        | text s' x =>
          have h2 := baL_mem hmem
          rw [baI_text] at h2
          have := hsm.ba
          show x.length ≤ _
          omega
        | doc s' its' => exact (hsm.item hmem).len.1
      have happ : itemsD (its.take (i + 1)) = itemsD (its.take i) ++ [itemD it] := by
        rw [List.take_add_one, hit, itemsD_app]
        show _ ++ itemsD [it] = _
        rw [itemsD, itemsD]
      have hds : (itemsD (its.take i)).length ≤ its.length := by rw [itemsD_map, List.length_map, List.length_take]; omega
      have hits : its.length ≤ 1204 := Nat.le_trans (len_le_baL its) hsm.ba
      -- what the last expression gives
      have hlast : ∀ {ρ : Loc} {p1 p2 p3 p4 p5 p6 p7 p8 p9 p10 : Pos} {k1 : Nat}, ρ.lookup ("section" : Str) = some (B.val (.int (sN (secI it)))) → ρ.lookup ("text" : Str) = some (B.val (.str (T (bodI it)))) → ρ.lookup ("name" : Str) = some (B.val (.str (T [kindI it]))) →
          Ev G (callEnvC (fdOf (stOf pw 7) doc pm cdv ct) L a) m ρ (.List [.Name "section" p1, .IfExp (.Compare (.Name "name" p2) [.Eq] [.Constant (.str "t") k1 p3] p4) (.Name "text" p5) (.Call (.Name "_law_items" p6) [.Name "text" p7] [] p8) p9] p10) (itemD it) := by
        intro ρ p1 p2 p3 p4 p5 p6 p7 p8 p9 p10 k1 h1 h2 h3
        cases it with
        | text s' x =>
          rw [itemD]
          refine ev_list (evs_more (ev_name h1 rfl) (evs_more (ev_ifexp (c := true) (d₁ := .str (T x)) (d₂ := .none) ?_ (fun _ => ev_name h2 rfl) fun h => nomatch h) evs_nil rfl) rfl) (by show 2 ≤ sizeLine; omega)
          have e : (T [116] == ("t" : Str)) = true := by decide +kernel
          rw [← e]; exact tst_cmp (ev_name h3 rfl) ev_str op_eq_str rfl
        | doc s' its' =>
          rw [itemD]
          refine ev_list (evs_more (ev_name h1 rfl) (evs_more (ev_ifexp (c := false) (d₁ := .none) (d₂ := .list (itemsD its')) ?_ (fun h => nomatch h) fun _ => ev_call (ev_glob gi rfl rfl) (evs_more (ev_name h2 rfl) evs_nil rfl) ki (hrec s' its' hmem) rfl rfl) evs_nil rfl) rfl) (by show 2 ≤ sizeLine; omega)
          have e : (T [100] == ("t" : Str)) = false := by decide +kernel
          rw [← e]; exact tst_cmp (ev_name h3 rfl) ev_str op_eq_str rfl
      rw [hRe]
      generalize secI it = s at *
      generalize kindI it = c at *
      generalize bodI it = u at *
      have hgb : 7 ≤ gB s ∧ gB s ≤ 19 := by cases s <;> decide
      obtain ⟨n60, n62, _, _⟩ := esc5_facts u
      generalize hq : rowL rest = q at *
      have hsec := sec_of s c (esc5 u) q n60
      have e3 : (one5 c s (esc5 u) ++ q).take 3 = [60, c, 62] := rfl
      have e1 : ((one5 c s (esc5 u) ++ q).take 2).drop 1 = [c] := rfl
      have hRl : (one5 c s (esc5 u) ++ q).length ≤ 99000 := by rw [List.length_append, one5_len]; omega
      have hR12 : s = true → (one5 c s (esc5 u) ++ q).drop 12 = esc5 u ++ cd1 ++ ([60, 47, c, 62] ++ q) := by
        rintro rfl
        show (esc5 u ++ cd1) ++ [60, 47, c, 62] ++ q = _
        rw [List.append_assoc]
      have hR3 : s = false → (one5 c s (esc5 u) ++ q).drop 3 = esc5 u ++ 60 :: ([47, c, 62] ++ q) := by
        rintro rfl
        show esc5 u ++ [60, 47, c, 62] ++ q = _
        simp
      have hRl3 : (3 : Nat) ≤ (one5 c s (esc5 u) ++ q).length := by rw [List.length_append, one5_len]; omega
      generalize hRR : one5 c s (esc5 u) ++ q = R at *
      have ecd0 : ("<![CDATA[" : Str) = T cd0 := by decide +kernel
      have ecd1 : ("]]>" : Str) = T cd1 := by decide +kernel
      have elt : ("<" : Str) = T [60] := by decide +kernel
      have elts : ("</" : Str) = T [60, 47] := by decide +kernel
      have egt : (">" : Str) = T [62] := by decide +kernel
      refine exs_cons (ex_assign (d := .str (T [c])) (by rw [← e1]; exact ev_cut (a := 1) (b := 2) (ev_name rfl rfl) ev_int ev_int (by omega)) (.inl rfl) rfl (then_next ?_))
      have t1 : (!((["<t>", "<d>"] : List Str).any fun z : Str => z == T [60, c, 62])) = false := by
        rcases hc2 with rfl | rfl <;> decide +kernel
      refine exs_cons (ex_if (c := false) ?_ (fun h => nomatch h) fun _ => exs_nil (then_next ?_))
      · rw [← t1, ← e3]
        exact tst_cmp (ev_to (b := 3) (ev_name rfl rfl) ev_int (by omega)) (ev_list (evs_more ev_str (evs_more ev_str evs_nil rfl) rfl) (by show 2 ≤ sizeLine; omega)) (op_notin_strs (xs := ["<t>", "<d>"])) rfl
      refine exs_cons (ex_assign (d := .int (sN s)) ?_ (.inl rfl) rfl (then_next ?_))
      · refine ev_ifint (c := s) (i := 1) (j := 0) ?_ (fun _ => ev_int) fun _ => ev_int
        rw [← hsec, ← starts3_T _ _ _ hRl3]
        refine tst_plain (ev_meth (ds := [.str (T cd0), .int ((3 : Nat) : Int)]) (ev_name rfl rfl) (evs_more ?_ (evs_more ev_int evs_nil rfl) rfl) (getm_str F.slot_str_startswith F.type_str_startswith) bf_startswith3 rfl rfl (by show 2 < 30; decide) rfl) tr_bool fun _ => rfl
        rw [← ecd0]; exact ev_str
      refine exs_if_join [("row", .val (.str (T ([60, 47, c, 62] ++ q)))), ("items", .own (itemsD (its.take i))), ("name", .val (.str (T [c]))), ("section", .val (.int (sN s))), ("written", .val (.str (T (esc5 u))))] (c := sN s == 1) (tst_cmp (ev_name rfl rfl) ev_int op_eq_int rfl) ?_ (fun h1 => ?_) fun h1 => ?_
      · refine exs_cons (ex_assign (ev_call (ev_glob gd rfl rfl) (evs_more (ev_name rfl rfl) evs_nil rfl) kd (fd u (by omega) (by omega)) rfl rfl) (.inl rfl) rfl (then_next ?_))
        have t2 : (false || ((T [60, 47, c, 62] != T (([60, 47] ++ [c]) ++ [62])) || false)) = false := by simp
        refine exs_cons (ex_if (c := false) ?_ (fun h => nomatch h) fun _ => exs_nil (then_next ?_))
        · rw [← t2]
          refine tst_or (tst_cmp (ev_name rfl rfl) ev_none (op_is_none rfl) rfl) fun _ => tst_or (tst_cmp (d₁ := .str (T [60, 47, c, 62])) (ev_to (l := [60, 47, c, 62] ++ q) (b := 4) (ev_name rfl rfl) ev_int (by simp; omega)) (ev_cat (ev_cat ?_ (ev_name rfl rfl) (by simp)) ?_ (by simp)) op_ne_str rfl) fun _ => tst_or_nil
          · rw [← elts]; exact ev_str
          · rw [← egt]; exact ev_str
        refine exs_cons (ex_assign (d := .str (T q)) (ev_from (l := [60, 47, c, 62] ++ q) (a := 4) (ev_name rfl rfl) ev_int (by simp; omega)) (.inl rfl) rfl (then_next ?_))
        refine exs_cons (ex_append (itemD it) rfl (hlast rfl rfl rfl) (by omega) rfl rfl rfl rfl (then_next (exs_nil ⟨i + 1, by show its.length - (i + 1) < its.length - i; omega, hilt, ?_⟩)))
        rw [happ, ← hrest, hq]
        exact sub_cons rfl (sub_cons rfl sub_nil)
      · have hs1 : s = true := by cases s with | true => rfl | false => exact absurd h1 (by decide)
        obtain ⟨c1, c2⟩ := cut_cd (esc5 u) ([60, 47, c, 62] ++ q) n62
        rw [← hR12 hs1] at c1 c2
        have hb := bf_partition (G := G) (l := R.drop 12) (p := cd1) (by decide) (by rw [List.length_drop]; omega)
        rw [c1, c2] at hb
        refine exs_cons (ex_assign_tuple (ev_meth (ds := [.str (T cd1)]) (ev_from (l := R) (a := 12) (ev_name rfl rfl) ev_int (by omega)) (evs_more (by rw [← ecd1]; exact ev_str) evs_nil rfl) (getm_str F.slot_str_partition F.type_str_partition) hb rfl rfl (by show 1 < 30; decide) rfl) (asg_tuple (asgs_cons (asg_name (.inl rfl)) (asgs_cons (asg_name (.inl rfl)) (asgs_cons (asg_name (.inl rfl)) asgs_nil rfl) rfl) rfl)) rfl rfl (then_next (exs_nil (then_next ?_))))
        exact sub_cons rfl (sub_cons rfl (sub_cons rfl (sub_cons rfl (sub_cons rfl sub_nil))))
      · have hs1 : s = false := by cases s with | false => rfl | true => exact absurd h1 (by decide)
        obtain ⟨t, ht⟩ := split_lt (esc5 u) ([47, c, 62] ++ q) n60
        rw [← hR3 hs1] at ht
        have hdr : R.drop (3 + (esc5 u).length) = [60, 47, c, 62] ++ q := by
          rw [← List.drop_drop, hR3 hs1, List.drop_left]; rfl
        refine exs_cons (ex_assign (d := .str (T (esc5 u))) (ev_sub (d₁ := .list (txs ((splitG [60] (R.drop 3)).map T))) ?_ ev_int (sb_list (by decide) (by decide) (by rw [ht]; rfl))) (.inl rfl) rfl (then_next ?_))
        · rw [← split_T _ _ (by decide), ← elt]
          exact ev_meth (ds := [.str "<"]) (ev_from (l := R) (a := 3) (ev_name rfl rfl) ev_int (by omega)) (evs_more ev_str evs_nil rfl) (getm_str F.slot_str_split F.type_str_split) (bf_split (by decide +kernel) (by rw [T_length, List.length_drop]; omega)) rfl rfl (by show 1 < 30; decide) rfl
        refine exs_cons (ex_assign (d := .str (T ([60, 47, c, 62] ++ q))) ?_ (.inl rfl) rfl (then_next (exs_nil (then_next ?_))))
        · rw [← hdr]
          refine ev_from (l := R) (a := 3 + (esc5 u).length) (ev_name rfl rfl) ?_ (by omega)
          rw [Int.natCast_add]
          exact ev_binop ev_int (ev_len (ev_name rfl rfl) (by omega) hlen rfl rfl) op_add_int
        exact sub_cons rfl (sub_cons rfl (sub_cons rfl (sub_cons rfl (sub_cons rfl sub_nil))))
  · have hnil : its.drop i = [] := by
      cases hdi : its.drop i with
      | nil => rfl
      | cons it rest =>
        rw [hdi, rowL, rowI_eq] at hc
        have hne : (T (one5 (kindI it) (secI it) (esc5 (bodI it)) ++ rowL rest) != "") = true := by
          rw [bne_iff_ne]
          intro q
          have := congrArg Str.length q
          rw [T_length, List.length_append, one5_len] at this
          have h0 : (("" : Str)).length = 0 := by decide +kernel
          have hg : 7 ≤ gB (secI it) := by cases secI it <;> decide
          omega
        rw [hne] at hc; cases hc
    have hge : its.length ≤ i := List.drop_eq_nil_iff.mp hnil
    have : i = its.length := by omega
    subst this
    rw [List.take_length] at hsub
    refine then_next (exs_weaken hsub (exs_freeze (x := "items") rfl ?_))
    walk_at "ret"
    rfl
theorem fn_items {ard : Addr} (dA : DefAt G a (fdOf (stOf pw 7) doc pm cdv ct) (bodyOf (stOf pw 7))) (hlen : nsIn G.K mainGlobals "len" = some none)
    (gd : nsIn G.K mainGlobals "_law_read" = some (some (.ref ard))) (kd : keepIn G.K (.ref ard) = true) (fd : ∀ (m : Nat) (u : List Nat), u.length ≤ 99990 → (esc5 u).length ≤ 100000 → Fn G (m + 2) ard [.str (T (esc5 u))] (.str (T u)))
    (gi : nsIn G.K mainGlobals "_law_items" = some (some (.ref a))) (ki : keepIn G.K (.ref a) = true) : ∀ (k : Nat) (its : List Item), Small5 its → depL its ≤ k → Fn G (n + 3 + k) a [.str (T (rowL its))] (.list (itemsD its))
  | 0, its, hsm, hd => fn_itemsStep (m := n + 2) dA hlen gd kd (fd n) gi ki its hsm fun s its' hm => by
      have := depL_mem hm
      rw [depI] at this
      omega
  | k + 1, its, hsm, hd => by
    have hcast : n + 3 + (k + 1) = (n + 3 + k) + 1 := by omega
    rw [hcast]
    refine fn_itemsStep (m := n + 3 + k) dA hlen gd kd ?_ gi ki its hsm fun s its' hm => ?_
    · intro u hu he
      have := fd (n + 1 + k) u hu he
      rwa [show n + 1 + k + 2 = n + 3 + k from by omega] at this
    · have := depL_mem hm
      rw [depI] at this
      exact fn_items dA hlen gd kd fd gi ki k its' (hsm.item hm) (by omega)
end
end Mine
end
section
open PySem PySem.W PyProof.Rows
set_option linter.unusedVariables false
set_option maxRecDepth 100000
namespace Mine
def Hdel (H : Zf) (I : Addr) : Zf := fun a => if a = I then none else H a
theorem Hdel.ne {H : Zf} {I a : Addr} (h : a ≠ I) : Hdel H I a = H a := if_neg h
theorem Hdel.self {H : Zf} {I : Addr} : Hdel H I I = none := if_pos rfl
theorem Zadd.ne {Z : Zf} {I a : Addr} {o : Obj} (h : a ≠ I) : Zadd Z I o a = Z a := if_neg h
section
variable {G : Gnd} {env : Env} {Z Z' H : Zf} {ρ ρ' : Loc} {s s' : Shared} {A : Around} {E : Value → Shared → Prop} {n : Nat} {pos apos : Pos}
/-- a held object changes -/
theorem St.setH {I : Addr} {o o' : Obj} {h' : Heap} {t : Nat} (S : St G env Z H ρ s) (hI : H I = some o) (hB : G.base.get? I = none) (hc : env.cells = []) (hk : ∀ b ob, b ≠ I → s.heap.get? b = some ob → h'.get? b = some ob) (ho : h'.get? I = some o') (ht : s.toks ≤ t) :
    St G env Z (Zadd H I o') ρ { s with heap := h', toks := t } := by
  have hH : H = Zadd H I o := funext fun b => by
    by_cases q : b = I
    · rw [q, Zadd.self, hI]
    · rw [Zadd.ne q]
  have S₀ : St G env Z (Zadd H I o) ρ s := hH ▸ S
  exact S₀.turn hB (fun y c e => by rw [hc] at e; cases e) hk ho ht
/-- a held object is frozen -/
theorem St.toZ {I : Addr} {o : Obj} (S : St G env Z H ρ s) (hI : H I = some o) (hB : G.base.get? I = none) (hc : env.cells = []) : Zle Z (Zadd Z I o) ∧ St G env (Zadd Z I o) (Hdel H I) ρ s := by
  have hZ : Z I = none := by
    cases q : Z I with
    | none => rfl
    | some ob => rw [S.dj I ob q] at hI; cases hI
  have le : Zle Z (Zadd Z I o) := Zadd.le hZ
  have hl : env.locals ≠ I := fun q => by rw [← q, S.lh] at hI; cases hI
  have non : ∀ a, H a = none → Hdel H I a = none := fun a e => by
    by_cases q : a = I
    · rw [q, Hdel.self]
    · rw [Hdel.ne q]; exact e
  refine ⟨le, S.fk, S.gl, S.bl, S.gens, S.os, S.tk, fun a ob e => ?_, fun a ob e => ?_, fun a ob e => ?_, fun a ob e => ?_, S.ns, ?_, non _ S.lh, fun y c e => ?_, S.inj, fun y d e => ?_, ?_⟩
  · by_cases q : a = I
    · rw [q, Zadd.self] at e; cases e; rw [q]; exact S.hin _ _ hI
    · rw [Zadd.ne q] at e; exact S.zin _ _ e
  · by_cases q : a = I
    · rw [q, Hdel.self] at e; cases e
    · rw [Hdel.ne q] at e; exact S.hin _ _ e
  · by_cases q : a = I
    · rw [q, Hdel.self]
    · rw [Zadd.ne q] at e; exact non _ (S.dj _ _ e)
  · rcases S.bas a ob e with h | h
    · exact .inl (le _ _ h)
    · exact .inr (by rw [Hdel.ne (fun q => by rw [q, hB] at e; cases e)]; exact h)
  · rw [Zadd.ne hl]; exact S.lz
  · rw [hc] at e; cases e
  · obtain ⟨v, h, r⟩ := S.vars y d e; exact ⟨v, h, r.mono le⟩
  · obtain ⟨oa, hi, h⟩ := S.owns
    refine ⟨oa, hi, fun y ds e => ?_⟩
    obtain ⟨g1, g2, g3, g4, g5, vs, k, g6, g7⟩ := h y ds e
    exact ⟨g1, by rw [Zadd.ne fun q => by rw [q, hI] at g3; cases g3]; exact g2, non _ g3, g4, g5, vs, k, g6, g7.mono le⟩
/-- less is held -/
theorem St.subH {H₀ : Zf} (S : St G env Z H ρ s) (hs : ∀ a o, H₀ a = some o → H a = some o) (hb : ∀ a o, G.base.get? a = some o → Z a = some o ∨ H₀ a = some o) (hc : env.cells = []) : St G env Z H₀ ρ s := by
  have non : ∀ a, H a = none → H₀ a = none := fun a e => by
    cases q : H₀ a with
    | none => rfl
    | some o => rw [hs a o q] at e; cases e
  refine ⟨S.fk, S.gl, S.bl, S.gens, S.os, S.tk, S.zin, fun a o e => S.hin _ _ (hs a o e), fun a o e => non _ (S.dj a o e), hb, S.ns, S.lz, non _ S.lh, fun y c e => (by rw [hc] at e; cases e), S.inj, S.vars, ?_⟩
  obtain ⟨oa, hi, h⟩ := S.owns
  refine ⟨oa, hi, fun y ds e => ?_⟩
  obtain ⟨g1, g2, g3, g⟩ := h y ds e
  exact ⟨g1, g2, non _ g3, g⟩
/-- a new object is held -/
theorem St.newH {I : Addr} {o : Obj} (S : St G env Z H ρ s) (x : Ext Z s Z s') (hI : s.heap.get? I = none) (ho : s'.heap.get? I = some o) : St G env Z (Zadd H I o) ρ s' ∧ G.base.get? I = none ∧ H I = none ∧ Z I = none := by
  obtain ⟨S₂, hB, hH, hZ, _⟩ := S.hold x hI ho
  exact ⟨S₂, hB, hH, hZ⟩
theorem nameH {x : Str} {d : D} {M : Model} (S : St G env Z H ρ s) (h : ρ.lookup x = some (.val d)) (hd : (x == ("__debug__" : Str)) = false) {Q : Value → Shared → Prop} (k : ∀ v, Rep G Z v d → Q v s) : wpAny M A (eval (.Name x pos) env) Q E s := by
  obtain ⟨v, hv, r⟩ := S.vars x d h
  refine wpAny_Name ?_ hd
  rcases hv with ⟨k', m, n, e⟩ | ⟨k', c, e, n⟩
  · exact wpAny_loadName_local S.fk k' n e (k v r)
  · rcases k' with k' | k'
    · exact wpAny_loadName_cell S.fk k' e n (k v r)
    · exact wpAny_loadName_free S.fk k'.1 e n (k v r) k'.2
/-- x.append(e), x a held list -/
theorem appendH {x : Str} {p pos' : Pos} {e : PySem.Expr} {a : Addr} {vs : List Value} {k : Nat} {Q : Flow → Shared → Prop} (S : St G env Z H ρ s) (hx : ρ.lookup x = some (.val (.fn a))) (ha : H a = some (listOf vs.toArray k)) (hB : G.base.get? a = none) (hc : env.cells = [])
    (hd : (x == ("__debug__" : Str)) = false) (hst : isStarred e = false) (hline : (apos.endLine == pos.line) = true) (hin : interactive env = false) (hsz : vs.length ≤ sizeLine)
    (h : wpAny (model G.prog G.w) A (eval e env) (fun v s₁ => ∃ Z₁ H₁, H₁ a = some (listOf vs.toArray k) ∧ St G env Z₁ H₁ ρ s₁ ∧ ∀ s₂ k', St G env Z₁ (Zadd H₁ a (listOf (vs ++ [v]).toArray k')) ρ s₂ → Q .next s₂) (fun _ _ => False) s) :
    wpAny (model G.prog G.w) A (exec (.Expr (.Call (.Attribute (.Name x p) "append" apos) [e] [] pos) pos') env) Q (fun _ _ => False) s := by
  have hst' : [e].any isStarred = false := by simp [hst]
  refine wpAny_Expr_any ?_ hin rfl
  rw [eval_method rfl hst' (by show 1 < 30; decide) hline]
  refine wpAny_bind (nameH S hx hd fun v r => ?_)
  cases r
  have ho := S.hin _ _ ha
  have hl := isList_of ho
  refine wpAny_bind (wpAny_standAt (wpAny_bind (wpAny_holding ?_)))
  refine getMethod_builtin hl.typeIs F.plainAttrs_list F.slot_list_append F.type_list_append (fun b e => by cases e; exact ⟨_, ho, rfl⟩) ?_
  have he : starEach [e] env = (false, eval e env) :: starEach [] env := by cases e <;> first | rfl | cases hst
  refine Calls.callWith_builtin (starred_none (star_all hst') pos) (wp_evalArgs (starred_none (star_all hst') pos) (spliced_more (wpAny_mono h (fun v s₁ ⟨Z₁, H₁, g1, S₁, g2⟩ => spliced_none ?_) fun _ _ q => q) he))
  have ho₁ := S₁.hin _ _ g1
  refine call_meets F.slot_list_append (isList_of ho₁).typeIs F.entry_list_append (F.args_list_append_2 _ _) (PySem.AutoListH.list_append_list_val_0 a vs.toArray k v (by rw [List.size_toArray]; exact hsz)) ⟨ho₁, ?_⟩
  have hg := PySem.IsL.update (n := k) ho₁ (·.push v)
  rw [show vs.toArray.push v = (vs ++ [v]).toArray by simp] at hg
  exact g2 _ _ (S₁.setH (t := s₁.toks) g1 hB hc (fun b ob hb q => ((Heap.SameBut.update ..).2 b hb).trans q) hg (Nat.le_refl _))
end
end Mine
end
section
open PySem PySem.W PyProof.Rows
set_option linter.unusedVariables false
set_option maxRecDepth 100000
namespace Mine
section
variable {G : Gnd} {env : Env} {Z Z' H : Zf} {ρ ρ' : Loc} {s s' : Shared} {A : Around} {E : Value → Shared → Prop} {n : Nat} {pos apos : Pos}
theorem setItem_nat {prog : Program} {w : World} {l : Addr} {items : Array Value} {m : Nat} {k : Int} {t : Tok} {v : Value} {Q : Unit → Shared → Prop} (ho : s.heap.get? l = some (listOf items m)) (h0 : 0 ≤ k) (hfit : k < 2 ^ 63) (hn : k < items.size)
    (hQ : Q () { s with heap := s.heap.update l (Obj.mapSeq (·.setIfInBounds k.toNat v)) }) : wpAny (model prog w) A (setItem (.ref l) (.int k t) v) Q E s := by
  have hl : s.heap.IsList l items := ⟨_, ho, rfl, m, rfl⟩
  have hd : (listOf items m).data = .seq items m := rfl
  unfold setItem
  refine wpAny_holding ?_
  refine wpAny_bind (wpAny_sequenceKey hl.typeIs (by decide) ?_)
  refine wpAny_bind (wpAny_callSpecial?_slot (name := Str.ofString "__setitem__") hl.typeIs F.slot_list_setitem
    (wpAny_call_entry F.slot_list_setitem hl.typeIs F.entry_list_setitem ?_ (F.args_list_setitem_3 _ _ _)))
  show wpAny _ _ (Builtin.List.listSubscript? (.int k t) >>= _) _ _ s
  refine wpAny_bind (wpAny_listSubscript_int (fitsIndex_of h0 hfit) ?_)
  clear hfit
  obtain ⟨j, rfl⟩ := Int.eq_ofNat_of_zero_le h0
  have hj : j < items.size := by omega
  have hx' : items[j]? = some items[j] := Array.getElem?_eq_getElem hj
  show wpAny _ _ ((seqItemAt l j >>= fun r => pure (r.map (j, ·))) >>= _) _ _ s
  refine wpAny_bind (wpAny_bind (wpAny_seqItemAt ho hd (wpAny_pure ?_)))
  rw [hx']
  show wpAny _ _ (setSeqItemAt l j v >>= _) _ _ s
  refine wpAny_bind (wpAny_setSeqItemAt ho hd ?_)
  first
    | exact wpAny_bind (wpAny_pure (wpAny_pure ⟨.none, rfl, wpAny_pure hQ⟩))
    | exact wpAny_pure ⟨.none, rfl, wpAny_pure hQ⟩
theorem setItem_one {prog : Program} {w : World} {l : Addr} {v0 v1 : Value} {m : Nat} {t : Tok} {v : Value} {Q : Unit → Shared → Prop} (ho : s.heap.get? l = some (listOf [v0, v1].toArray m))
    (hQ : Q () { s with heap := s.heap.update l (Obj.mapSeq (·.setIfInBounds 1 v)) }) : wpAny (model prog w) A (setItem (.ref l) (.int 1 t) v) Q E s :=
  setItem_nat (k := 1) ho (by decide) (by decide) (by simp) hQ
/-- x.pop(), x a held list -/
theorem popH {x : Str} {p pos' : Pos} {a : Addr} {vs : List Value} {y : Value} {k : Nat} {Q : Flow → Shared → Prop} (S : St G env Z H ρ s) (hx : ρ.lookup x = some (.val (.fn a))) (ha : H a = some (listOf (vs ++ [y]).toArray k)) (hB : G.base.get? a = none) (hc : env.cells = [])
    (hd : (x == ("__debug__" : Str)) = false) (hline : (apos.endLine == pos.line) = true) (hin : interactive env = false) (hsz : vs.length + 1 ≤ sizeLine)
    (h : ∀ s₂ k', St G env Z (Zadd H a (listOf vs.toArray k')) ρ s₂ → Q .next s₂) :
    wpAny (model G.prog G.w) A (exec (.Expr (.Call (.Attribute (.Name x p) "pop" apos) [] [] pos) pos') env) Q (fun _ _ => False) s := by
  refine wpAny_Expr_any ?_ hin rfl
  rw [eval_method rfl rfl (by show 0 < 30; decide) hline]
  refine wpAny_bind (nameH S hx hd fun v r => ?_)
  cases r
  have ho := S.hin _ _ ha
  have hl := isList_of ho
  refine wpAny_bind (wpAny_standAt (wpAny_bind (wpAny_holding ?_)))
  refine getMethod_builtin hl.typeIs F.plainAttrs_list F.slot_list_pop F.type_list_pop (fun b e => by cases e; exact ⟨_, ho, rfl⟩) ?_
  refine Calls.callWith_builtin (starred_none rfl pos) (wp_evalArgs (starred_none rfl pos) (spliced_none ?_))
  have hz' : (vs ++ [y]).toArray.size ≤ sizeLine := by simpa using hsz
  have hk : (vs ++ [y]).toArray.size - 1 = vs.length := by simp
  have hy : (vs ++ [y]).toArray[(vs ++ [y]).toArray.size - 1]? = some y := by rw [hk]; simp
  refine call_meets F.slot_list_pop (isList_of ho).typeIs F.entry_list_pop (F.args_list_pop_1 _) (PySem.MeetsSeq.list_pop_last a _ k y hy hz') ⟨ho, ?_⟩
  have hg := PySem.IsL.update (n := k) ho (fun xs => xs.eraseIdxIfInBounds ((vs ++ [y]).toArray.size - 1))
  rw [show (vs ++ [y]).toArray.eraseIdxIfInBounds ((vs ++ [y]).toArray.size - 1) = vs.toArray by rw [hk, kl_erase, List.append_nil]] at hg
  exact h _ _ (S.setH (t := s.toks) ha hB hc (fun b ob hb q => ((Heap.SameBut.update ..).2 b hb).trans q) hg (Nat.le_refl _))
/-- x[-1], x a held list -/
theorem lastH {x : Str} {p q2 : Pos} {a : Addr} {vs : List Value} {y : Value} {k : Nat} {Q : Value → Shared → Prop} {i : PySem.Expr} (S : St G env Z H ρ s) (hx : ρ.lookup x = some (.val (.fn a))) (ha : H a = some (listOf (vs ++ [y]).toArray k)) (hd : (x == ("__debug__" : Str)) = false)
    (hi : Ev G env n ρ i (.int (-1))) (R : Room n A)
    (h : ∀ s', St G env Z H ρ s' → Ext Z s Z s' → Q y s') : wpAny (model G.prog G.w) A (eval (.Subscript (.Name x p) i q2) env) Q (fun _ _ => False) s := by
  refine Subscript_ (nameH S hx hd fun v r => ?_)
  cases r
  refine wp_seq (hi.run A Z H s R S) fun iv s₁ ⟨Z₁, x₁, r₁⟩ => ?_
  cases r₁
  have x₁' := x₁.back S.zin
  have S₁ := S.ext x₁'
  have ho := S₁.hin _ _ ha
  refine tail_all (G := G) (T := "list") (isList_of ho).typeIs slot_list_getitem.lookup (wpAny_getItem_list_neg (isList_of ho) (by decide) (by simp; omega) (by decide) (x := y) (by rw [List.size_toArray, List.length_append, show ((-1 : Int) + ((vs.length + [y].length : Nat) : Int)).toNat = vs.length by simp; omega]; simp) (h _ S₁ x₁'))
/-- x[-1][1], where x[-1] is a held pair -/
theorem last1H {x : Str} {p q2 q3 : Pos} {a q : Addr} {vs : List Value} {v0 v1 : Value} {k k' : Nat} {Q : Value → Shared → Prop} {i j : PySem.Expr} (S : St G env Z H ρ s) (hx : ρ.lookup x = some (.val (.fn a))) (ha : H a = some (listOf (vs ++ [Value.ref q]).toArray k)) (hq : H q = some (listOf [v0, v1].toArray k')) (hd : (x == ("__debug__" : Str)) = false)
    (hi : Ev G env n ρ i (.int (-1))) (hj : Ev G env n ρ j (.int 1)) (R : Room n A)
    (h : ∀ s', St G env Z H ρ s' → Ext Z s Z s' → Q v1 s') : wpAny (model G.prog G.w) A (eval (.Subscript (.Subscript (.Name x p) i q2) j q3) env) Q (fun _ _ => False) s := by
  refine Subscript_ (lastH S hx ha hd hi R fun s₁ S₁ x₁ => ?_)
  refine wp_seq (hj.run A Z H s₁ R S₁) fun iv s₂ ⟨Z₂, x₂, r₂⟩ => ?_
  cases r₂
  have x₂' := x₂.back S₁.zin
  have S₂ := S₁.ext x₂'
  have ho := S₂.hin _ _ hq
  exact tail_all (G := G) (T := "list") (isList_of ho).typeIs slot_list_getitem.lookup (wpAny_getItem_list (isList_of ho) (by decide) (by decide) (x := v1) (by simp) (h _ S₂ (x₁.trans x₂')))
/-- x[-1][1] += e, where x[-1] is a held pair -/
theorem augH {x : Str} {p q2 q3 : Pos} {a q : Addr} {vs : List Value} {v0 v1 : Value} {k k' : Nat} {Q : Flow → Shared → Prop} {i j e : PySem.Expr} {op : Operator} {d₀ d₁ d : D} (S : St G env Z H ρ s) (hx : ρ.lookup x = some (.val (.fn a))) (ha : H a = some (listOf (vs ++ [Value.ref q]).toArray k)) (hq : H q = some (listOf [v0, v1].toArray k'))
    (hB : G.base.get? q = none) (hc : env.cells = []) (hd : (x == ("__debug__" : Str)) = false) (hi : Ev G env n ρ i (.int (-1))) (hj : Ev G env n ρ j (.int 1)) (he : Ev G env n ρ e d₁) (r0 : Rep G Z v1 d₀) (ho : Op2 G (inplaceOp op) d₀ d₁ d) (hat : Atom d = true) (R : Room n A)
    (hs : ∀ ov iv new, augStore j ov iv new = (do holding [new, ov, iv] (setItem ov iv new); release [new, ov, iv] []; pure .next))
    (h : ∀ s' v k'', Rep G Z v d → St G env Z (Zadd H q (listOf [v0, v].toArray k'')) ρ s' → Q .next s') : wpAny (model G.prog G.w) A (exec (.AugAssign (.Subscript (.Subscript (.Name x p) i q2) j q3) op e pos) env) Q (fun _ _ => False) s := by
  refine wpAny_AugAssign_SubscriptAny (lastH S hx ha hd hi R fun s₁ S₁ x₁ => wp_seq (hj.run A Z H s₁ R S₁) fun iv s₂ ⟨Z₂, x₂, r₂⟩ => ?_) hs
  cases r₂
  have x₂' := x₂.back S₁.zin
  have S₂ := S₁.ext x₂'
  refine wpAny_getItem_list (isList_of (S₂.hin _ _ hq)) (by decide) (by decide) (x := v1) (by simp) ?_
  refine wp_seq (he.run A Z H s₂ R S₂) fun v₁ s₃ ⟨Z₃, x₃, r₃⟩ => ?_
  have S₃ := S₂.ext x₃
  refine wp_seq (ho.run A Z₃ s₃ v1 v₁ (R.less (Nat.zero_le _)) S₃.bs (r0.mono x₃.le) r₃) fun v s₄ ⟨Z₄, x₄, r₄⟩ => ?_
  have xx := (x₃.trans x₄).back S₂.zin
  have S₄ := S₂.ext xx
  have ho₄ := S₄.hin _ _ hq
  have hrv : Rep G Z v d := rep_atom hat r₄
  refine setItem_one ho₄ ?_
  obtain ⟨k'', hg⟩ := upd_list ho₄ (·.setIfInBounds 1 v) (its' := [v0, v].toArray) (by simp)
  exact h _ v k'' hrv (S₄.setH (t := s₄.toks) hq hB hc (fun b ob hb q => ((Heap.SameBut.update ..).2 b hb).trans q) hg (Nat.le_refl _))
end
end Mine
end
section
open PySem PySem.W PyProof.Rows
set_option linter.unusedVariables false
set_option maxRecDepth 100000
namespace Mine
def needs (its : List Item) : Bool := match its.getLast? with
  | some (.text _ _) => false
  | _ => true
section
variable {G : Gnd} {env : Env} {Z Z' H H' H₀ : Zf} {ρ ρ' : Loc} {s s' : Shared} {A : Around} {E : Value → Shared → Prop} {n : Nat} {pos apos : Pos}
/-- the levels that stand open, from the inner to the outer -/
inductive Lv (G : Gnd) (Z H : Zf) : List (List Item × Bool) → List Addr → List Addr → Addr → Addr → Prop
  | nil {a : Addr} : Lv G Z H [] [] [] a a
  | cons {a' p a root : Addr} {vs : List Value} {k k' : Nat} {tk : Tok} {t : List Item} {s : Bool} {lv : List (List Item × Bool)} {as own : List Addr} : H a' = some (listOf (vs ++ [Value.ref p]).toArray k) → RepAll G Z vs (itemsD t) → H p = some (listOf [.int (sN s) tk, .ref a].toArray k') →
      Lv G Z H lv as own a' root → Lv G Z H ((t, s) :: lv) (a' :: as) (a' :: p :: own) a root
inductive Tp (G : Gnd) (Z H : Zf) : List Value → List Item → List Addr → Prop
  | froz {vs : List Value} {its : List Item} : RepAll G Z vs (itemsD its) → needs its = true → Tp G Z H vs its []
  | held {ws : List Value} {t : List Item} {q : Addr} {s : Bool} {x : List Nat} {t1 t2 : Tok} {k : Nat} : RepAll G Z ws (itemsD t) → H q = some (listOf [.int (sN s) t1, .str (T x) t2].toArray k) → Tp G Z H (ws ++ [Value.ref q]) (t ++ [.text s x]) [q]
theorem Lv.mono {lv : List (List Item × Bool)} {as own : List Addr} {a root : Addr} (x : Lv G Z H lv as own a root) (le : Zle Z Z') (hH : ∀ I ∈ own, H' I = H I) : Lv G Z' H' lv as own a root := by
  induction x with
  | nil => exact .nil
  | cons h1 h2 h3 _ ih => exact .cons ((hH _ (.head _)).trans h1) (h2.mono le) ((hH _ (.tail _ (.head _))).trans h3) (ih fun I hI => hH I (.tail _ (.tail _ hI)))
theorem Lv.some {lv : List (List Item × Bool)} {as own : List Addr} {a root : Addr} (x : Lv G Z H lv as own a root) : ∀ I ∈ own, ∃ o, H I = some o := by
  induction x with
  | nil => intro I h; cases h
  | cons h1 h2 h3 _ ih =>
    intro I h
    rcases List.mem_cons.mp h with rfl | h
    · exact ⟨_, h1⟩
    · rcases List.mem_cons.mp h with rfl | h
      · exact ⟨_, h3⟩
      · exact ih I h
theorem Lv.len {lv : List (List Item × Bool)} {as own : List Addr} {a root : Addr} (x : Lv G Z H lv as own a root) : as.length = lv.length := by
  induction x with
  | nil => rfl
  | cons _ _ _ _ ih => simp [ih]
theorem Tp.some {vs : List Value} {its : List Item} {qs : List Addr} (x : Tp G Z H vs its qs) : ∀ I ∈ qs, ∃ o, H I = some o := by
  cases x with
  | froz => intro I h; cases h
  | held _ h => intro I hI; rw [List.mem_singleton.mp hI]; exact ⟨_, h⟩
theorem Tp.mono {vs : List Value} {its : List Item} {qs : List Addr} (x : Tp G Z H vs its qs) (le : Zle Z Z') (hH : ∀ I ∈ qs, H' I = H I) : Tp G Z' H' vs its qs := by
  cases x with
  | froz h1 h2 => exact .froz (h1.mono le) h2
  | held h1 h2 => exact .held (h1.mono le) ((hH _ (.head _)).trans h2)
theorem Tp.len {vs : List Value} {its : List Item} {qs : List Addr} (x : Tp G Z H vs its qs) : vs.length = its.length := by
  cases x with
  | froz h1 h2 => rw [h1.length, itemsD_map, List.length_map]
  | held h1 h2 => rw [List.length_append, List.length_append, h1.length, itemsD_map, List.length_map]; rfl
/-- the last text is frozen -/
theorem Tp.freeze {vs : List Value} {its : List Item} {qs : List Addr} (x : Tp G Z H vs its qs) (S : St G env Z H ρ s) (hb : ∀ I ∈ qs, G.base.get? I = none) (hc : env.cells = []) :
    ∃ Z' H', Zle Z Z' ∧ St G env Z' H' ρ s ∧ RepAll G Z' vs (itemsD its) ∧ (∀ I, I ∉ qs → H' I = H I) ∧ ∀ I ∈ qs, H' I = none := by
  cases x with
  | froz h1 h2 => exact ⟨Z, H, Zle.same, S, h1, fun _ _ => rfl, fun I h => by cases h⟩
  | @held ws t q s x t1 t2 k h1 h2 =>
    obtain ⟨le, S'⟩ := S.toZ h2 (hb _ (.head _)) hc
    refine ⟨_, _, le, S', ?_, fun I h => Hdel.ne fun q => h (by rw [q]; exact .head _), fun I h => by rw [List.mem_singleton.mp h]; exact Hdel.self⟩
    rw [itemsD_app, itemsD, itemsD, itemD]
    exact (h1.mono le).append (.cons (.list Zadd.self (.cons (.int _ _) (.cons (.str _ _) .nil))) .nil)
def Inv5 (G : Gnd) (Z H H₀ : Zf) (lv : List (List Item × Bool)) (top : List Item) (b a root : Addr) : Prop :=
  ∃ as own vs qs k kb, Lv G Z H lv as own a root ∧ H a = some (listOf vs.toArray k) ∧ Tp G Z H vs top qs ∧ H b = some (listOf (((a :: as).reverse).map Value.ref).toArray kb) ∧ (b :: a :: (qs ++ own)).Nodup ∧
    (∀ I ∈ b :: a :: (qs ++ own), H₀ I = none ∧ G.base.get? I = none) ∧ (∀ x o, H₀ x = some o → H x = some o)
/-- a name stands for something told more exactly -/
theorem St.reval {x : Str} {d d' : D} (S : St G env Z H ρ s) (hx : ρ.lookup x = some (.val d)) (h : ∀ v, Rep G Z v d → Rep G Z v d') : St G env Z H (upd ρ x (.val d')) s := by
  refine ⟨S.fk, S.gl, S.bl, S.gens, S.os, S.tk, S.zin, S.hin, S.dj, S.bas, S.ns, S.lz, S.lh, S.cells, S.inj, fun y e he => ?_, ?_⟩
  · rw [lookup_upd] at he
    by_cases q : y = x
    · rw [if_pos q] at he; cases he
      obtain ⟨v, h1, h2⟩ := S.vars x d hx
      exact ⟨v, q ▸ h1, h v h2⟩
    · rw [if_neg q] at he; exact S.vars y e he
  · have old : ∀ y ds, (upd ρ x (.val d')).lookup y = some (.own ds) → ρ.lookup y = some (.own ds) := fun y ds e => by
      rw [lookup_upd] at e
      by_cases q : y = x
      · rw [if_pos q] at e; cases e
      · rw [if_neg q] at e; exact e
    obtain ⟨oa, hi, ho⟩ := S.owns
    exact ⟨oa, fun y z ds es ey ez => hi y z ds es (old y ds ey) (old z es ez), fun y ds e => ho y ds (old y ds e)⟩
theorem tstH {Z₁ H₁ : Zf} {ρ₁ : Loc} {e : PySem.Expr} {c : Bool} {Q : Bool → Shared → Prop} (S : St G env Z H ρ s) (S₁ : St G env Z₁ H₁ ρ₁ s) (h : Tst G env n ρ₁ e c) (R : Room n A) (k : ∀ s', St G env Z H ρ s' → Q c s') :
    wpAny (model G.prog G.w) A (isTrue e env (eval e env)) Q (fun _ _ => False) s :=
  wp_seq (h.run A Z₁ H₁ s R S₁) fun c' s' ⟨e, x⟩ => by subst e; exact k s' (S.ext (x.back S.zin))
/-- [e1, e2] as a held list -/
theorem pairH {e1 e2 : PySem.Expr} {d1 d2 : D} {Q : Value → Shared → Prop} (S : St G env Z H ρ s) (R : Room n A) (h1 : Ev G env n ρ e1 d1) (h2 : Ev G env n ρ e2 d2) (a1 : Atom d1 = true) (a2 : Atom d2 = true) (s1 : isStarred e1 = false) (s2 : isStarred e2 = false)
    (k : ∀ q v1 v2 s', Rep G Z v1 d1 → Rep G Z v2 d2 → H q = none → G.base.get? q = none → St G env Z (Zadd H q (listOf [v1, v2].toArray 0)) ρ s' → Q (.ref q) s') :
    wpAny (model G.prog G.w) A (eval (.List [e1, e2] pos) env) Q (fun _ _ => False) s := by
  refine List_ (wp_seq ((evs_more h1 (evs_more h2 evs_nil s2) s1).run A Z H s pos R S) fun vs s₁ ⟨Z₁, x₁, r₁⟩ => ?_)
  cases r₁ with
  | @cons v1 _ _ _ r1 rr =>
    cases rr with
    | @cons v2 _ _ _ r2 rr2 =>
      cases rr2
      have x := x₁.back S.zin
      have S₁ := S.ext x
      refine wpAny_newObj_type ?_ (by show 2 ≤ sizeLine; decide)
      have y : Ext Z s₁ Z { s₁ with heap := s₁.heap.push (listOf [v1, v2].toArray 0) } := ⟨Zle.same, fun b o e => Heap.get?_push_of_some _ e, fun b o e => Heap.get?_push_of_some _ (S₁.zin b o e), fun _ _ h => .inl h, rfl, rfl, Nat.le_refl _⟩
      obtain ⟨S₂, hB, hH, hZ⟩ := S₁.newH y (get?_size_none _) (Heap.get?_push_size _ rfl)
      exact k _ _ _ _ (rep_atom a1 r1) (rep_atom a2 r2) hH hB S₂
/-- [e1, []] as a held list -/
theorem pairDocH {e1 : PySem.Expr} {d1 : D} {Q : Value → Shared → Prop} {p1 : Pos} (S : St G env Z H ρ s) (R : Room n A) (h1 : Ev G env n ρ e1 d1) (a1 : Atom d1 = true) (s1 : starEach [e1, .List [] p1] env = (false, eval e1 env) :: starEach [.List [] p1] env)
    (k : ∀ q a2 v1 s', Rep G Z v1 d1 → H a2 = none → H q = none → q ≠ a2 → G.base.get? a2 = none → G.base.get? q = none → St G env Z (Zadd (Zadd H a2 (listOf [].toArray 0)) q (listOf [v1, .ref a2].toArray 0)) ρ s' → Q (.ref q) s') :
    wpAny (model G.prog G.w) A (eval (.List [e1, .List [] p1] pos) env) Q (fun _ _ => False) s := by
  refine List_ (spliced_more (wp_seq (h1.run A Z H s R S) fun v1 s₁ ⟨Z₁, x₁, r₁⟩ => spliced_more (List_ (spliced_none (wpAny_newObj_type (spliced_none ?_) (by show 0 ≤ sizeLine; decide)))) rfl) s1)
  have x := x₁.back S.zin
  have S₁ := S.ext x
  have y : Ext Z s₁ Z { s₁ with heap := s₁.heap.push (listOf [].toArray 0) } := ⟨Zle.same, fun b o e => Heap.get?_push_of_some _ e, fun b o e => Heap.get?_push_of_some _ (S₁.zin b o e), fun _ _ h => .inl h, rfl, rfl, Nat.le_refl _⟩
  obtain ⟨S₂, hB, hH, hZ⟩ := S₁.newH y (get?_size_none _) (Heap.get?_push_size _ rfl)
  refine wpAny_newObj_type ?_ (by show 2 ≤ sizeLine; decide)
  have z : Ext Z { s₁ with heap := s₁.heap.push (listOf [].toArray 0) } Z { s₁ with heap := (s₁.heap.push (listOf [].toArray 0)).push (listOf [v1, .ref s₁.heap.objs.size].toArray 0) } := ⟨Zle.same, fun b o e => Heap.get?_push_of_some _ e, fun b o e => Heap.get?_push_of_some _ (S₂.zin b o e), fun _ _ h => .inl h, rfl, rfl, Nat.le_refl _⟩
  obtain ⟨S₃, hB₃, hH₃, hZ₃⟩ := S₂.newH z (get?_size_none _) (Heap.get?_push_size _ rfl)
  have hne : (s₁.heap.push (listOf [].toArray 0)).objs.size ≠ s₁.heap.objs.size := by rw [Heap.size_push]; omega
  refine k _ _ _ _ (rep_atom a1 r₁) hH ?_ hne hB hB₃ S₃
  rwa [Zadd.ne hne] at hH₃
end
end Mine
end
section
open PySem PySem.W PyProof.Rows
set_option linter.unusedVariables false
set_option maxRecDepth 100000
namespace Mine
section
variable {G : Gnd} {env : Env} {Z Z' H H' H₀ : Zf} {ρ ρ' : Loc} {s s' : Shared} {A : Around} {E : Value → Shared → Prop} {n : Nat} {pos apos : Pos} {lv : List (List Item × Bool)} {top : List Item} {b a root : Addr}
theorem sN_rep {v : Value} {i : Int} {sec : Bool} (r : Rep G Z v (.int i)) (h : i = sN sec) : ∃ t, v = .int (sN sec) t := by cases r; subst h; exact ⟨_, rfl⟩
/-- items.append([e, '']) -/
theorem opText {p p1 pos' : Pos} {e : PySem.Expr} {i : Int} {sec : Bool} {kk : Nat} {cp : Pos} {Q : Flow → Shared → Prop} (I : Inv5 G Z H H₀ lv top b a root) (S : St G env Z H ρ s) (R : Room n A) (hx : ρ.lookup ("items" : Str) = some (B.val (.fn a))) (hc : env.cells = []) (hline : (apos.endLine == pos.line) = true) (hin : interactive env = false) (hsz : top.length ≤ 1000)
    (he : Ev G env n ρ e (.int i)) (hi : i = sN sec) (hst : isStarred e = false)
    (k : ∀ Z' H' s', Zle Z Z' → Inv5 G Z' H' H₀ lv (top ++ [.text sec []]) b a root → St G env Z' H' ρ s' → Q .next s') :
    wpAny (model G.prog G.w) A (exec (.Expr (.Call (.Attribute (.Name "items" p) "append" apos) [.List [e, .Constant (.str "") kk cp] p1] [] pos) pos') env) Q (fun _ _ => False) s := by
  obtain ⟨as, own, vs, qs, ka, kb, hLv, ha, hTp, hb, hnd, hfr, hH0⟩ := I
  have hbase : ∀ J ∈ b :: a :: (qs ++ own), G.base.get? J = none := fun J hJ => (hfr J hJ).2
  obtain ⟨Z₁, H₁, le₁, S₁, hr, hH₁, hH₁n⟩ := hTp.freeze S (fun J hJ => hbase J (.tail _ (.tail _ (List.mem_append_left _ hJ)))) hc
  rw [List.nodup_cons, List.nodup_cons] at hnd
  obtain ⟨nb, na, nd⟩ := hnd
  have bq : b ∉ qs := fun q => nb (.tail _ (List.mem_append_left _ q))
  have aq : a ∉ qs := fun q => na (List.mem_append_left _ q)
  have ba : b ≠ a := fun q => nb (by rw [q]; exact .head _)
  have oq : ∀ J ∈ own, J ∉ qs := fun J hJ q => (List.nodup_append.mp nd).2.2 J q J hJ rfl
  have ha₁ : H₁ a = some (listOf vs.toArray ka) := (hH₁ a aq).trans ha
  have hb₁ := (hH₁ b bq).trans hb
  have big : 100000 ≤ sizeLine := by decide
  refine appendH S₁ hx ha₁ (hbase a (.tail _ (.head _))) hc (by decide) rfl hline hin (by rw [hTp.len]; omega) ?_
  refine pairH S₁ R he ev_str rfl rfl hst rfl fun q v1 v2 s₂ r1 r2 hq hqB S₂ => ?_
  obtain ⟨t1, rfl⟩ := sN_rep r1 hi
  cases r2 with
  | str _ t2 =>
    have neq : ∀ J o, H₁ J = some o → J ≠ q := fun J o h z => by rw [z, hq] at h; cases h
    refine ⟨Z₁, _, (Zadd.ne (neq a _ ha₁)).trans ha₁, S₂, fun s₃ k' S₃ => k Z₁ _ s₃ le₁ ⟨as, own, vs ++ [.ref q], [q], k', kb, ?_, Zadd.self, ?_, ?_, ?_, ?_, ?_⟩ S₃⟩
    · refine hLv.mono le₁ fun J hJ => ?_
      obtain ⟨o, ho⟩ := hLv.some J hJ
      have hJ₁ := (hH₁ J (oq J hJ)).trans ho
      rw [Zadd.ne fun z => na (by rw [← z]; exact List.mem_append_right _ hJ), Zadd.ne (neq J o hJ₁)]
      exact hH₁ J (oq J hJ)
    · have e0 : ("" : Str) = T [] := by decide +kernel
      rw [e0]
      exact .held hr ((Zadd.ne fun z => neq a _ ha₁ z.symm).trans Zadd.self)
    · rw [Zadd.ne ba, Zadd.ne (neq b _ hb₁)]; exact hb₁
    · rw [List.nodup_cons, List.nodup_cons, List.singleton_append, List.nodup_cons]
      refine ⟨fun z => ?_, fun z => ?_, fun z => ?_, (List.nodup_append.mp nd).2.1⟩
      · rcases List.mem_cons.mp z with z | z
        · exact ba z
        · rcases List.mem_cons.mp z with z | z
          · exact neq b _ hb₁ z
          · exact nb (.tail _ (List.mem_append_right _ z))
      · rcases List.mem_cons.mp z with z | z
        · exact neq a _ ha₁ z
        · exact na (List.mem_append_right _ z)
      · obtain ⟨o, ho⟩ := hLv.some q z
        exact neq q o ((hH₁ q (oq q z)).trans ho) rfl
    · intro J hJ
      rcases List.mem_cons.mp hJ with rfl | hJ
      · exact hfr _ (.head _)
      · rcases List.mem_cons.mp hJ with rfl | hJ
        · exact hfr _ (.tail _ (.head _))
        · rcases List.mem_cons.mp hJ with rfl | hJ
          · refine ⟨?_, hqB⟩
            cases z : H₀ J with
            | none => rfl
            | some o =>
              have z1 := hH0 J o z
              have z2 : J ∉ qs := fun z2 => by rw [(hfr J (.tail _ (.tail _ (List.mem_append_left _ z2)))).1] at z; cases z
              rw [← hH₁ J z2, hq] at z1; cases z1
          · exact hfr J (.tail _ (.tail _ (List.mem_append_right _ hJ)))
    · intro x o hx0
      have z2 : x ∉ qs := fun z2 => by rw [(hfr x (.tail _ (.tail _ (List.mem_append_left _ z2)))).1] at hx0; cases hx0
      have z1 := (hH₁ x z2).trans (hH0 x o hx0)
      rw [Zadd.ne fun z => (by rw [z, (hfr a (.tail _ (.head _))).1] at hx0; cases hx0), Zadd.ne (neq x o z1)]
      exact z1
/-- items[-1][1] += e -/
theorem opAug {p q2 q3 : Pos} {sec : Bool} {x u : List Nat} {i j e : PySem.Expr} {Q : Flow → Shared → Prop} (I : Inv5 G Z H H₀ lv (top ++ [.text sec x]) b a root) (S : St G env Z H ρ s) (R : Room n A) (hx : ρ.lookup ("items" : Str) = some (B.val (.fn a))) (hc : env.cells = [])
    (hi : Ev G env n ρ i (.int (-1))) (hj : Ev G env n ρ j (.int 1)) (he : Ev G env n ρ e (.str (T u))) (hlen : x.length + u.length ≤ 100000)
    (hs : ∀ ov iv new, augStore j ov iv new = (do holding [new, ov, iv] (setItem ov iv new); release [new, ov, iv] []; pure .next))
    (k : ∀ H' s', Inv5 G Z H' H₀ lv (top ++ [.text sec (x ++ u)]) b a root → St G env Z H' ρ s' → Q .next s') :
    wpAny (model G.prog G.w) A (exec (.AugAssign (.Subscript (.Subscript (.Name "items" p) i q2) j q3) .Add e pos) env) Q (fun _ _ => False) s := by
  obtain ⟨as, own, vs, qs, ka, kb, hLv, ha, hTp, hb, hnd, hfr, hH0⟩ := I
  have key : ∃ ws q t1 t2 kq, vs = ws ++ [Value.ref q] ∧ qs = [q] ∧ RepAll G Z ws (itemsD top) ∧ H q = some (listOf [.int (sN sec) t1, .str (T x) t2].toArray kq) := by
    generalize htt : top ++ [Item.text sec x] = tt at hTp
    cases hTp with
    | froz h1 h2 =>
      rw [← htt] at h2
      unfold needs at h2
      rw [List.getLast?_append] at h2
      simp at h2
    | @held ws t q s' x' t1 t2 kq h1 h2 =>
      obtain ⟨e1, e2⟩ := List.append_inj' htt rfl
      simp only [List.cons.injEq, Item.text.injEq, and_true] at e2
      obtain ⟨rfl, rfl⟩ := e2
      subst e1
      exact ⟨ws, q, t1, t2, kq, rfl, rfl, h1, h2⟩
  obtain ⟨ws, q, t1, t2, kq, rfl, rfl, h1, h2⟩ := key
  have big : 100000 ≤ sizeLine := by decide
  rw [List.nodup_cons, List.nodup_cons] at hnd
  obtain ⟨nb, na, nd⟩ := hnd
  have aq : a ≠ q := fun z => na (by rw [z]; exact .head _)
  have bq : b ≠ q := fun z => nb (by rw [z]; exact .tail _ (.head _))
  have oq : ∀ J ∈ own, J ≠ q := fun J hJ z => (List.nodup_append.mp nd).2.2 q (.head _) J hJ z.symm
  refine augH S hx ha h2 (hfr q (.tail _ (.tail _ (.head _)))).2 hc (by decide) hi hj he (.str (T x) t2) (d := .str (T (x ++ u))) (by rw [← T_append]; exact op_iadd_str (by rw [T_length, T_length]; omega)) rfl R hs fun s' v k'' rv S' => ?_
  cases rv with
  | str _ t3 =>
    refine k (Zadd H q (listOf [.int (sN sec) t1, .str (T (x ++ u)) t3].toArray k'')) s' ⟨as, own, _, [q], ka, kb, hLv.mono Zle.same fun J hJ => Zadd.ne (oq J hJ), (Zadd.ne aq).trans ha, .held h1 Zadd.self, (Zadd.ne bq).trans hb, ?_, hfr, fun y o hy => ?_⟩ S'
    · rw [List.nodup_cons, List.nodup_cons]; exact ⟨nb, na, nd⟩
    · rw [Zadd.ne fun z => by rw [z, (hfr q (.tail _ (.tail _ (.head _)))).1] at hy; cases hy]; exact hH0 y o hy
end
end Mine
end
section
open PySem PySem.W PyProof.Rows
set_option linter.unusedVariables false
set_option maxRecDepth 100000
namespace Mine
section
variable {G : Gnd} {env : Env} {Z Z' H H' H₀ : Zf} {ρ ρ' : Loc} {s s' : Shared} {A : Around} {E : Value → Shared → Prop} {n : Nat} {pos apos : Pos} {lv : List (List Item × Bool)} {top : List Item} {b a root : Addr}
/-- items.append([deed, []]); above.append(items[-1][1]) -/
theorem opPush {p p1 p2 pos' bp bpos bapos bpos' p3 q2 q3 : Pos} {e i j : PySem.Expr} {iv : Int} {sec : Bool} {Q : Flow → Shared → Prop} (I : Inv5 G Z H H₀ lv top b a root) (S : St G env Z H ρ s) (R : Room n A) (hx : ρ.lookup ("items" : Str) = some (B.val (.fn a))) (hxb : ρ.lookup ("above" : Str) = some (B.val (.fn b))) (hc : env.cells = [])
    (hline : (apos.endLine == pos.line) = true) (hline2 : (bapos.endLine == bpos.line) = true) (hin : interactive env = false) (hsz : top.length ≤ 1000) (hsz2 : lv.length ≤ 1000)
    (he : Ev G env n ρ e (.int iv)) (hiv : iv = sN sec) (hst : starEach [e, .List [] p2] env = (false, eval e env) :: starEach [.List [] p2] env) (hi : Ev G env n ρ i (.int (-1))) (hj : Ev G env n ρ j (.int 1))
    (k : ∀ Z' H' a' s', Zle Z Z' → Inv5 G Z' H' H₀ ((top, sec) :: lv) [] b a' root → St G env Z' H' ρ s' → Q .next s') :
    wpAny (model G.prog G.w) A (execs [.Expr (.Call (.Attribute (.Name "items" p) "append" apos) [.List [e, .List [] p2] p1] [] pos) pos', .Expr (.Call (.Attribute (.Name "above" bp) "append" bapos) [.Subscript (.Subscript (.Name "items" p3) i q2) j q3] [] bpos) bpos'] env) Q (fun _ _ => False) s := by
  obtain ⟨as, own, vs, qs, ka, kb, hLv, ha, hTp, hb, hnd, hfr, hH0⟩ := I
  have hbase : ∀ J ∈ b :: a :: (qs ++ own), G.base.get? J = none := fun J hJ => (hfr J hJ).2
  obtain ⟨Z₁, H₁, le₁, S₁, hr, hH₁, hH₁n⟩ := hTp.freeze S (fun J hJ => hbase J (.tail _ (.tail _ (List.mem_append_left _ hJ)))) hc
  rw [List.nodup_cons, List.nodup_cons] at hnd
  obtain ⟨nb, na, nd⟩ := hnd
  have bq : b ∉ qs := fun q => nb (.tail _ (List.mem_append_left _ q))
  have aq : a ∉ qs := fun q => na (List.mem_append_left _ q)
  have ba : b ≠ a := fun q => nb (by rw [q]; exact .head _)
  have oq : ∀ J ∈ own, J ∉ qs := fun J hJ q => (List.nodup_append.mp nd).2.2 J q J hJ rfl
  have ob : ∀ J ∈ own, J ≠ b := fun J hJ z => nb (by rw [← z]; exact .tail _ (List.mem_append_right _ hJ))
  have oa : ∀ J ∈ own, J ≠ a := fun J hJ z => na (by rw [← z]; exact List.mem_append_right _ hJ)
  have ha₁ : H₁ a = some (listOf vs.toArray ka) := (hH₁ a aq).trans ha
  have hb₁ := (hH₁ b bq).trans hb
  have big : 100000 ≤ sizeLine := by decide
  have hlas := hLv.len
  refine wpAny_execs_cons (appendH S₁ hx ha₁ (hbase a (.tail _ (.head _))) hc (by decide) rfl hline hin (by rw [hTp.len]; omega) ?_)
  refine pairDocH S₁ R he rfl hst fun q a2 v1 s₂ r1 ha2 hq hqa hB2 hBq S₂ => ?_
  obtain ⟨t1, rfl⟩ := sN_rep r1 hiv
  have neq : ∀ J o, H₁ J = some o → J ≠ q ∧ J ≠ a2 := fun J o h => ⟨fun z => (by rw [z, hq] at h; cases h), fun z => (by rw [z, ha2] at h; cases h)⟩
  have na' := neq a _ ha₁
  have nb' := neq b _ hb₁
  refine ⟨Z₁, _, by rw [Zadd.ne na'.1, Zadd.ne na'.2]; exact ha₁, S₂, fun s₃ k' S₃ => ?_⟩
  refine wpAny_execs_cons (appendH (vs := ((a :: as).reverse).map Value.ref) (k := kb) S₃ hxb ?_ (hbase b (.head _)) hc (by decide) rfl hline2 hin (by simp; omega) ?_)
  · rw [Zadd.ne ba, Zadd.ne nb'.1, Zadd.ne nb'.2]; exact hb₁
  refine last1H S₃ hx Zadd.self (q := q) (v0 := .int (sN sec) t1) (v1 := .ref a2) (k' := 0) ?_ (by decide) hi hj R fun s₄ S₄ x₄ => ?_
  · rw [Zadd.ne (Ne.symm na'.1)]; exact Zadd.self
  refine ⟨Z₁, _, by rw [Zadd.ne ba, Zadd.ne nb'.1, Zadd.ne nb'.2]; exact hb₁, S₄, fun s₅ k5 S₅ => wpAny_execs_nil (k Z₁ _ a2 s₅ le₁ ⟨a :: as, a :: q :: own, [], [], 0, k5, ?_, ?_, .froz (by rw [itemsD]; exact .nil) rfl, ?_, ?_, ?_, ?_⟩ S₅)⟩
  · refine .cons (vs := vs) (p := q) (k := k') (k' := 0) (tk := t1) ?_ hr ?_ (hLv.mono le₁ fun J hJ => ?_)
    · rw [Zadd.ne (Ne.symm ba)]; exact Zadd.self
    · rw [Zadd.ne (Ne.symm nb'.1), Zadd.ne (Ne.symm na'.1)]; exact Zadd.self
    · obtain ⟨o, ho⟩ := hLv.some J hJ
      have hJ₁ := (hH₁ J (oq J hJ)).trans ho
      rw [Zadd.ne (ob J hJ), Zadd.ne (oa J hJ), Zadd.ne (neq J o hJ₁).1, Zadd.ne (neq J o hJ₁).2]
      exact hH₁ J (oq J hJ)
  · rw [Zadd.ne (Ne.symm nb'.2), Zadd.ne (Ne.symm na'.2), Zadd.ne (Ne.symm hqa)]; exact Zadd.self
  · rw [Zadd.self]; simp
  · rw [List.nil_append, List.nodup_cons, List.nodup_cons, List.nodup_cons, List.nodup_cons]
    refine ⟨fun z => ?_, fun z => ?_, fun z => ?_, fun z => ?_, (List.nodup_append.mp nd).2.1⟩
    · rcases List.mem_cons.mp z with z | z
      · exact nb'.2 z
      · rcases List.mem_cons.mp z with z | z
        · exact ba z
        · rcases List.mem_cons.mp z with z | z
          · exact nb'.1 z
          · exact ob b z rfl
    · rcases List.mem_cons.mp z with z | z
      · exact na'.2 z.symm
      · rcases List.mem_cons.mp z with z | z
        · exact hqa z.symm
        · obtain ⟨o, ho⟩ := hLv.some a2 z
          exact (neq a2 o ((hH₁ a2 (oq a2 z)).trans ho)).2 rfl
    · rcases List.mem_cons.mp z with z | z
      · exact na'.1 z
      · exact oa a z rfl
    · obtain ⟨o, ho⟩ := hLv.some q z
      exact (neq q o ((hH₁ q (oq q z)).trans ho)).1 rfl
  · have new : ∀ J, H₁ J = none → H₀ J = none := fun J hJ => by
      cases z : H₀ J with
      | none => rfl
      | some o =>
        have z1 := hH0 J o z
        have z2 : J ∉ qs := fun z2 => by rw [(hfr J (.tail _ (.tail _ (List.mem_append_left _ z2)))).1] at z; cases z
        rw [← hH₁ J z2, hJ] at z1; cases z1
    intro J hJ
    rw [List.nil_append] at hJ
    rcases List.mem_cons.mp hJ with rfl | hJ
    · exact hfr _ (.head _)
    · rcases List.mem_cons.mp hJ with rfl | hJ
      · exact ⟨new _ ha2, hB2⟩
      · rcases List.mem_cons.mp hJ with rfl | hJ
        · exact hfr _ (.tail _ (.head _))
        · rcases List.mem_cons.mp hJ with rfl | hJ
          · exact ⟨new _ hq, hBq⟩
          · exact hfr J (.tail _ (.tail _ (List.mem_append_right _ hJ)))
  · intro x o hx0
    have z2 : x ∉ qs := fun z2 => by rw [(hfr x (.tail _ (.tail _ (List.mem_append_left _ z2)))).1] at hx0; cases hx0
    have z1 := (hH₁ x z2).trans (hH0 x o hx0)
    rw [Zadd.ne fun z => (by rw [z, (hfr b (.head _)).1] at hx0; cases hx0), Zadd.ne fun z => (by rw [z, (hfr a (.tail _ (.head _))).1] at hx0; cases hx0), Zadd.ne (neq x o z1).1, Zadd.ne (neq x o z1).2]
    exact z1
/-- the innermost level is closed -/
theorem closeOne {t : List Item} {sec : Bool} {as own qs : List Addr} {vs : List Value} {ka : Nat} (S : St G env Z H ρ s) (hc : env.cells = []) (hLv : Lv G Z H ((t, sec) :: lv) as own a root) (ha : H a = some (listOf vs.toArray ka)) (hTp : Tp G Z H vs top qs) (hnd : (a :: (qs ++ own)).Nodup) (hb : ∀ J ∈ a :: (qs ++ own), G.base.get? J = none) :
    ∃ Z' H' a' as' own' p vs' k', as = a' :: as' ∧ own = a' :: p :: own' ∧ Zle Z Z' ∧ St G env Z' H' ρ s ∧ Lv G Z' H' lv as' own' a' root ∧ H' a' = some (listOf vs'.toArray k') ∧ RepAll G Z' vs' (itemsD (t ++ [.doc sec top])) ∧ (∀ J, J ∉ a :: p :: qs → H' J = H J) := by
  generalize hlv : (t, sec) :: lv = lv' at hLv
  cases hLv with
  | nil => cases hlv
  | @cons a' p _ _ vs₁ k₁ k₂ tk t' s' lv'' as' own' h1 h2 h3 h4 =>
    injection hlv with e1 e2
    injection e1 with e3 e4
    subst e2 e3 e4
    rw [List.nodup_cons] at hnd
    obtain ⟨na, nd⟩ := hnd
    have hd := List.nodup_append.mp nd
    have hown := hd.2.1
    rw [List.nodup_cons, List.nodup_cons] at hown
    have pq : p ∉ qs := fun z => hd.2.2 p z p (.tail _ (.head _)) rfl
    have aq : a ∉ qs := fun z => na (List.mem_append_left _ z)
    have pa : p ≠ a := fun z => na (by rw [← z]; exact List.mem_append_right _ (.tail _ (.head _)))
    have a'a : a' ≠ a := fun z => na (by rw [← z]; exact List.mem_append_right _ (.head _))
    have a'p : a' ≠ p := fun z => hown.1 (by rw [z]; exact .head _)
    have a'q : a' ∉ qs := fun z => hd.2.2 a' z a' (.head _) rfl
    obtain ⟨Z₁, H₁, le₁, S₁, hr, hH₁, _⟩ := hTp.freeze S (fun J hJ => hb J (.tail _ (List.mem_append_left _ hJ))) hc
    have ha₁ : H₁ a = some (listOf vs.toArray ka) := (hH₁ a aq).trans ha
    obtain ⟨le₂, S₂⟩ := S₁.toZ ha₁ (hb a (.head _)) hc
    have hp₂ : Hdel H₁ a p = some (listOf [.int (sN sec) tk, .ref a].toArray k₂) := (Hdel.ne pa).trans ((hH₁ p pq).trans h3)
    obtain ⟨le₃, S₃⟩ := S₂.toZ hp₂ (hb p (.tail _ (List.mem_append_right _ (.tail _ (.head _))))) hc
    have same : ∀ J, J ∉ a :: p :: qs → Hdel (Hdel H₁ a) p J = H J := fun J hJ => by
      rw [Hdel.ne fun z => hJ (by rw [z]; exact .tail _ (.head _)), Hdel.ne fun z => hJ (by rw [z]; exact .head _)]
      exact hH₁ J fun z => hJ (.tail _ (.tail _ z))
    refine ⟨_, _, a', as', own', p, vs₁ ++ [.ref p], k₁, rfl, rfl, le₁.trans (le₂.trans le₃), S₃, h4.mono (le₁.trans (le₂.trans le₃)) fun J hJ => same J fun z => ?_, ?_, ?_, same⟩
    · rcases List.mem_cons.mp z with z | z
      · exact na (by rw [← z]; exact List.mem_append_right _ (.tail _ (.tail _ hJ)))
      · rcases List.mem_cons.mp z with z | z
        · exact hown.2.1 (by rw [← z]; exact hJ)
        · exact hd.2.2 J z J (.tail _ (.tail _ hJ)) rfl
    · rw [same a' fun z => ?_]
      · exact h1
      rcases List.mem_cons.mp z with z | z
      · exact a'a z
      · rcases List.mem_cons.mp z with z | z
        · exact a'p z
        · exact a'q z
    · rw [itemsD_app, itemsD, itemsD, itemD]
      have hz : Zadd (Zadd Z₁ a (listOf vs.toArray ka)) p (listOf [.int (sN sec) tk, .ref a].toArray k₂) a = some (listOf vs.toArray ka) := (Zadd.ne (Ne.symm pa)).trans Zadd.self
      exact (h2.mono (le₁.trans (le₂.trans le₃))).append (.cons (.list Zadd.self (.cons (.int _ _) (.cons (.list hz (hr.mono (le₂.trans le₃))) .nil))) .nil)
theorem needs_doc (t : List Item) (sec : Bool) (l : List Item) : needs (t ++ [.doc sec l]) = true := by unfold needs; rw [List.getLast?_append]; rfl
/-- above.pop() -/
theorem opPop {t : List Item} {sec : Bool} {bp bpos' : Pos} {Q : Flow → Shared → Prop} (I : Inv5 G Z H H₀ ((t, sec) :: lv) top b a root) (S : St G env Z H ρ s) (hxb : ρ.lookup ("above" : Str) = some (B.val (.fn b))) (hc : env.cells = [])
    (hline : (apos.endLine == pos.line) = true) (hin : interactive env = false) (hsz2 : lv.length ≤ 1000)
    (k : ∀ Z' H' a' s', Zle Z Z' → Inv5 G Z' H' H₀ lv (t ++ [.doc sec top]) b a' root → St G env Z' H' ρ s' → Q .next s') :
    wpAny (model G.prog G.w) A (exec (.Expr (.Call (.Attribute (.Name "above" bp) "pop" apos) [] [] pos) bpos') env) Q (fun _ _ => False) s := by
  obtain ⟨as, own, vs, qs, ka, kb, hLv, ha, hTp, hb, hnd, hfr, hH0⟩ := I
  have big : 100000 ≤ sizeLine := by decide
  have hlas := hLv.len
  rw [List.length_cons] at hlas
  have hb' : H b = some (listOf ((as.reverse).map Value.ref ++ [Value.ref a]).toArray kb) := by rw [hb]; simp
  rw [List.nodup_cons] at hnd
  obtain ⟨nb, nd⟩ := hnd
  refine popH S hxb hb' (hfr b (.head _)).2 hc (by decide) hline hin (by simp; omega) fun s₂ k' S₂ => ?_
  have nbJ : ∀ J ∈ a :: (qs ++ own), J ≠ b := fun J hJ z => nb (by rw [← z]; exact hJ)
  obtain ⟨Z', H', a', as', own', p, vs', k1, ras, rown, le, S', hLv', ha', hr', same⟩ := closeOne S₂ hc (hLv.mono Zle.same fun J hJ => Zadd.ne (nbJ J (.tail _ (List.mem_append_right _ hJ)))) ((Zadd.ne (nbJ a (.head _))).trans ha) (hTp.mono Zle.same fun J hJ => Zadd.ne (nbJ J (.tail _ (List.mem_append_left _ hJ)))) nd fun J hJ => (hfr J (.tail _ hJ)).2
  subst ras rown
  have hd := List.nodup_append.mp (List.nodup_cons.mp nd).2
  have sub : ∀ J ∈ a :: p :: qs, J ∈ a :: (qs ++ a' :: p :: own') := fun J hJ => by
    rcases List.mem_cons.mp hJ with rfl | hJ
    · exact .head _
    · rcases List.mem_cons.mp hJ with rfl | hJ
      · exact .tail _ (List.mem_append_right _ (.tail _ (.head _)))
      · exact .tail _ (List.mem_append_left _ hJ)
  have hown := hd.2.1
  rw [List.nodup_cons, List.nodup_cons] at hown
  refine k Z' H' a' s₂ le ⟨as', own', vs', [], k1, k', hLv', ha', .froz hr' (needs_doc _ _ _), ?_, ?_, fun J hJ => ?_, fun x o hx0 => ?_⟩ S'
  · rw [same b fun z => nbJ b (sub b z) rfl, Zadd.self]
  · rw [List.nil_append, List.nodup_cons, List.nodup_cons]
    refine ⟨fun z => ?_, fun z => hown.1 (.tail _ z), hown.2.2⟩
    rcases List.mem_cons.mp z with z | z
    · exact nbJ a' (.tail _ (List.mem_append_right _ (.head _))) z.symm
    · exact nbJ b (.tail _ (List.mem_append_right _ (.tail _ (.tail _ z)))) rfl
  · rw [List.nil_append] at hJ
    rcases List.mem_cons.mp hJ with rfl | hJ
    · exact hfr _ (.head _)
    · rcases List.mem_cons.mp hJ with rfl | hJ
      · exact hfr _ (.tail _ (.tail _ (List.mem_append_right _ (.head _))))
      · exact hfr _ (.tail _ (.tail _ (List.mem_append_right _ (.tail _ (.tail _ hJ)))))
  · rw [same x fun z => (by rw [(hfr x (.tail _ (sub x z))).1] at hx0; cases hx0), Zadd.ne fun z => (by rw [z, (hfr b (.head _)).1] at hx0; cases hx0)]
    exact hH0 x o hx0
def close5 : List (List Item × Bool) → List Item → List Item
  | [], top => top
  | (t, s) :: r, top => close5 r (t ++ [.doc s top])
/-- in the end all is frozen -/
theorem closeAll : ∀ (lv : List (List Item × Bool)) {Z H : Zf} {top : List Item} {as own qs : List Addr} {vs : List Value} {ka : Nat} {a : Addr}, St G env Z H ρ s → env.cells = [] → Lv G Z H lv as own a root → H a = some (listOf vs.toArray ka) → Tp G Z H vs top qs → (a :: (qs ++ own)).Nodup → (∀ J ∈ a :: (qs ++ own), G.base.get? J = none) →
    ∃ Z' H', Zle Z Z' ∧ St G env Z' H' ρ s ∧ Rep G Z' (.ref root) (.list (itemsD (close5 lv top))) ∧ (∀ J, J ∉ a :: (qs ++ own) → H' J = H J)
  | [], Z, H, top, as, own, qs, vs, ka, a, S, hc, hLv, ha, hTp, hnd, hb => by
    have hroot : a = root := by cases hLv; rfl
    rw [← hroot]
    rw [List.nodup_cons] at hnd
    have aq : a ∉ qs := fun z => hnd.1 (List.mem_append_left _ z)
    obtain ⟨Z₁, H₁, le₁, S₁, hr, hH₁, _⟩ := hTp.freeze S (fun J hJ => hb J (.tail _ (List.mem_append_left _ hJ))) hc
    obtain ⟨le₂, S₂⟩ := S₁.toZ ((hH₁ a aq).trans ha) (hb a (.head _)) hc
    refine ⟨_, _, le₁.trans le₂, S₂, .list Zadd.self (hr.mono le₂), fun J hJ => ?_⟩
    rw [Hdel.ne fun z => hJ (by rw [z]; exact .head _)]
    exact hH₁ J fun z => hJ (.tail _ (List.mem_append_left _ z))
  | (t, sec) :: lv, Z, H, top, as, own, qs, vs, ka, a, S, hc, hLv, ha, hTp, hnd, hb => by
    obtain ⟨Z', H', a', as', own', p, vs', k1, rfl, rfl, le, S', hLv', ha', hr', same⟩ := closeOne S hc hLv ha hTp hnd hb
    have hd := List.nodup_append.mp (List.nodup_cons.mp hnd).2
    have hown := hd.2.1
    rw [List.nodup_cons, List.nodup_cons] at hown
    obtain ⟨Z₂, H₂, le₂, S₂, r₂, same₂⟩ := closeAll lv S' hc hLv' ha' (.froz hr' (needs_doc _ _ _)) (by rw [List.nil_append, List.nodup_cons]; exact ⟨fun z => hown.1 (.tail _ z), hown.2.2⟩) (fun J hJ => hb J (by
      rw [List.nil_append] at hJ
      rcases List.mem_cons.mp hJ with rfl | hJ
      · exact .tail _ (List.mem_append_right _ (.head _))
      · exact .tail _ (List.mem_append_right _ (.tail _ (.tail _ hJ)))))
    refine ⟨Z₂, H₂, le.trans le₂, S₂, r₂, fun J hJ => ?_⟩
    rw [same₂ J fun z => hJ (by
      rw [List.nil_append] at z
      rcases List.mem_cons.mp z with rfl | z
      · exact .tail _ (List.mem_append_right _ (.head _))
      · exact .tail _ (List.mem_append_right _ (.tail _ (.tail _ z)))), same J fun z => hJ (by
      rcases List.mem_cons.mp z with rfl | z
      · exact .head _
      · rcases List.mem_cons.mp z with rfl | z
        · exact .tail _ (List.mem_append_right _ (.tail _ (.head _)))
        · exact .tail _ (List.mem_append_left _ z))]
end
end Mine
end
section
open PySem PySem.W PyProof.Rows
set_option linter.unusedVariables false
set_option linter.unusedSimpArgs false
namespace Mine
abbrev State5 := List (List Item × Bool) × List Item
def pieces5 : List Str := ["]]>", "<![CDATA[", "&", "<", ">", "]", "]]", "amp;", "lt;", "gt;", ";", "</t>", "&amp;", "<d>", "</d>", "#60;"]
def pc5 (x : Int) : List Nat := cs (pieces5.getD ((x.fdiv 6).fmod 16).toNat Str.empty)
def cp5 (x : Int) : List Nat := [(codeOf ((x.fdiv 6).fmod 1112064)).toNat]
def fix5 (top : List Item) : List Item := if needs top = true then top ++ [.text false []] else top
def add5 (top : List Item) (u : List Nat) : List Item := match top.getLast? with
  | some (.text s x) => top.dropLast ++ [.text s (x ++ u)]
  | _ => top
def step5 (st : State5) (x : Int) : State5 :=
  if decide (x.fmod 6 < 2) = true then ((st.2, x.fmod 6 == 1) :: st.1, [])
  else if (x.fmod 6 == 2) = true then (match st.1 with | [] => st | (t, s) :: r => (r, t ++ [.doc s st.2]))
  else if (x.fmod 6 == 3) = true then (st.1, st.2 ++ [.text ((x.fdiv 6).fmod 2 == 1) []])
  else if (x.fmod 6 == 4) = true then (st.1, add5 (fix5 st.2) (pc5 x)) else (st.1, add5 (fix5 st.2) (cp5 x))
def st5 (ns : List Int) : State5 := ns.foldl step5 ([], [.text false []])
def tree5 (ns : List Int) : List Item := close5 (st5 ns).1 (st5 ns).2
theorem needs_false {top : List Item} (h : needs top = false) : ∃ t s x, top = t ++ [.text s x] := by
  unfold needs at h
  cases hl : top.getLast? with
  | none => rw [hl] at h; cases h
  | some it =>
    rw [hl] at h
    cases it with
    | doc s l => cases h
    | text s x =>
      obtain ⟨t, ht⟩ := List.getLast?_eq_some_iff.mp hl
      exact ⟨t, s, x, ht⟩
theorem needs_text (t : List Item) (s : Bool) (x : List Nat) : needs (t ++ [.text s x]) = false := by unfold needs; rw [List.getLast?_append]; rfl
theorem fix5_form (top : List Item) : ∃ t s x, fix5 top = t ++ [.text s x] ∧ ((needs top = true ∧ t = top ∧ s = false ∧ x = []) ∨ (needs top = false ∧ top = t ++ [.text s x])) := by
  unfold fix5
  cases h : needs top with
  | true => exact ⟨top, false, [], by rw [if_pos rfl], .inl ⟨rfl, rfl, rfl, rfl⟩⟩
  | false =>
    obtain ⟨t, s, x, e⟩ := needs_false h
    exact ⟨t, s, x, by rw [if_neg (by decide)]; exact e, .inr ⟨rfl, e⟩⟩
theorem add5_text (t : List Item) (s : Bool) (x u : List Nat) : add5 (t ++ [.text s x]) u = t ++ [.text s (x ++ u)] := by
  unfold add5
  rw [List.getLast?_append]
  simp
-- measures of a state
def msS (f : Bool → List Nat → Nat) (g : Bool → Nat) : List (List Item × Bool) → Nat
  | [] => 0
  | (t, s) :: r => msL f g t + g s + msS f g r
theorem ms_close {f : Bool → List Nat → Nat} {g : Bool → Nat} : ∀ (lv : List (List Item × Bool)) (top : List Item), msL f g (close5 lv top) = msS f g lv + msL f g top
  | [], top => by rw [close5, msS]; omega
  | (t, s) :: r, top => by rw [close5, ms_close r, msS, msL_app, msL, msI, msL]; omega
def bad5 (x : List Nat) : Nat := x.countP fun c => decide (1114112 ≤ c)
def fSp : Bool → List Nat → Nat := fun s x => gS s + nspec x
def fBa : Bool → List Nat → Nat := fun s x => gB s + x.length
structure Ok5 (i : Nat) (st : State5) : Prop where
  sp : msS fSp gS st.1 + msL fSp gS st.2 ≤ 4 + 6 * i
  ba : msS fBa gB st.1 + msL fBa gB st.2 ≤ 7 + 19 * i
  no : msS (fun _ _ => 0) (fun _ => 1) st.1 + msL (fun _ _ => 0) (fun _ => 1) st.2 ≤ i
  bd : msS (fun _ x => bad5 x) (fun _ => 0) st.1 + msL (fun _ x => bad5 x) (fun _ => 0) st.2 = 0
theorem pc5_ok (x : Int) : nspec (pc5 x) ≤ 2 ∧ (pc5 x).length ≤ 9 ∧ bad5 (pc5 x) = 0 := by
  have h := fmod_bounds (a := x.fdiv 6) (m := 16) (by decide)
  have hlt : ((x.fdiv 6).fmod 16).toNat < pieces5.length := by show _ < 16; omega
  have all : pieces5.all (fun y => decide (nspec (cs y) ≤ 2) && (decide ((cs y).length ≤ 9) && decide (bad5 (cs y) = 0))) = true := by decide +kernel
  unfold pc5
  rw [List.getD_eq_getElem?_getD, List.getElem?_eq_getElem hlt]
  have := List.all_eq_true.mp all _ (List.getElem_mem hlt)
  simp only [Bool.and_eq_true, decide_eq_true_eq] at this
  exact this
theorem cp5_ok (x : Int) : nspec (cp5 x) ≤ 2 ∧ (cp5 x).length ≤ 9 ∧ bad5 (cp5 x) = 0 := by
  have hb := codeOf_bounds (x.fdiv 6)
  unfold cp5 nspec bad5
  refine ⟨Nat.le_trans List.countP_le_length (by simp), by simp, ?_⟩
  rw [List.countP_cons, List.countP_nil]
  have : ¬ (1114112 ≤ (codeOf ((x.fdiv 6).fmod 1112064)).toNat) := by omega
  simp [this]
theorem ok5_add {i : Nat} {lv : List (List Item × Bool)} {top : List Item} (h : Ok5 i (lv, top)) {u : List Nat} (hu : nspec u ≤ 2 ∧ u.length ≤ 9 ∧ bad5 u = 0) : Ok5 (i + 1) (lv, add5 (fix5 top) u) := by
  obtain ⟨t, s, x, e1, e2⟩ := fix5_form top
  obtain ⟨u1, u2, u3⟩ := hu
  have h1 := h.sp
  have h2 := h.ba
  have h3 := h.no
  have h4 := h.bd
  dsimp only at h1 h2 h3 h4
  have n1 : nspec (x ++ u) = nspec x + nspec u := List.countP_append
  have n2 : bad5 (x ++ u) = bad5 x + bad5 u := List.countP_append
  have b1 : (x ++ u).length = x.length + u.length := List.length_append
  rw [e1, add5_text]
  rcases e2 with ⟨hn, rfl, rfl, rfl⟩ | ⟨hn, rfl⟩
  · refine ⟨?_, ?_, ?_, ?_⟩ <;> dsimp only <;> rw [msL_app, msL, msI, msL] <;> (try dsimp only [fSp, fBa, gS, gB]) <;> (try simp only [Bool.false_eq_true, if_false, List.nil_append]) <;> omega
  · rw [msL_app, msL, msI, msL] at h1 h2 h3 h4
    dsimp only [fSp, fBa] at h1 h2
    refine ⟨?_, ?_, ?_, ?_⟩ <;> dsimp only <;> rw [msL_app, msL, msI, msL] <;> (try dsimp only [fSp, fBa])
    · rw [n1]; omega
    · rw [b1]; omega
    · omega
    · rw [n2]; omega
theorem ok5_step {i : Nat} {st : State5} (h : Ok5 i st) (x : Int) : Ok5 (i + 1) (step5 st x) := by
  obtain ⟨lv, top⟩ := st
  have h1 := h.sp
  have h2 := h.ba
  have h3 := h.no
  have h4 := h.bd
  dsimp only at h1 h2 h3 h4
  have gs : ∀ s, gS s ≤ 6 := fun s => by cases s <;> decide
  have gb : ∀ s, gB s ≤ 19 := fun s => by cases s <;> decide
  unfold step5
  split
  · have g1 := gs (x.fmod 6 == 1)
    have g2 := gb (x.fmod 6 == 1)
    refine ⟨?_, ?_, ?_, ?_⟩ <;> dsimp only <;> rw [msS, msL] <;> omega
  · split
    · cases lv with
      | nil => exact ⟨by dsimp only; omega, by dsimp only; omega, by dsimp only; omega, h4⟩
      | cons p r =>
        obtain ⟨t, s⟩ := p
        rw [msS] at h1 h2 h3 h4
        refine ⟨?_, ?_, ?_, ?_⟩ <;> dsimp only <;> rw [msL_app, msL, msI, msL] <;> omega
    · split
      · have g1 := gs ((x.fdiv 6).fmod 2 == 1)
        have g2 := gb ((x.fdiv 6).fmod 2 == 1)
        refine ⟨?_, ?_, ?_, ?_⟩ <;> dsimp only <;> rw [msL_app, msL, msI, msL] <;> (try dsimp only [fSp, fBa])
        · show _ + (_ + (_ + 0 + 0)) ≤ _; omega
        · show _ + (_ + (_ + 0 + 0)) ≤ _; omega
        · omega
        · show _ + (_ + (0 + 0)) = _; omega
      · split
        · exact ok5_add h (pc5_ok x)
        · exact ok5_add h (cp5_ok x)
theorem ok5_all : ∀ (ns : List Int) (m : Nat) (st : State5), Ok5 m st → Ok5 (m + ns.length) (ns.foldl step5 st)
  | [], m, st, h => h
  | x :: ns, m, st, h => by
    have := ok5_all ns (m + 1) _ (ok5_step h x)
    rw [List.length_cons, show m + (ns.length + 1) = m + 1 + ns.length from by omega]
    exact this
theorem ok5_st (ns : List Int) : Ok5 ns.length (st5 ns) := by
  have := ok5_all ns 0 ([], [.text false []]) ⟨by decide, by decide, by decide, by decide⟩
  rwa [Nat.zero_add] at this
theorem small5_tree (ns : List Int) (hn : ns.length ≤ 63) : Small5 (tree5 ns) ∧ msL (fun _ x => bad5 x) (fun _ => 0) (tree5 ns) = 0 := by
  have h := ok5_st ns
  have h1 := h.sp
  have h2 := h.ba
  have h3 := h.no
  refine ⟨⟨?_, ?_, ?_⟩, ?_⟩
  · show msL fSp gS (tree5 ns) ≤ 382
    unfold tree5; rw [ms_close]; omega
  · show msL fBa gB (tree5 ns) ≤ 1204
    unfold tree5; rw [ms_close]; omega
  · show msL (fun _ _ => 0) (fun _ => 1) (tree5 ns) ≤ 63
    unfold tree5; rw [ms_close]; omega
  · unfold tree5; rw [ms_close]; exact h.bd
theorem msS_len : ∀ lv : List (List Item × Bool), lv.length ≤ msS (fun _ _ => 0) (fun _ => 1) lv
  | [] => Nat.zero_le _
  | (t, s) :: r => by have := msS_len r; rw [msS, List.length_cons]; omega
end Mine
end
section
open PySem PySem.W PyProof.Rows
set_option linter.unusedVariables false
set_option maxRecDepth 100000
namespace Mine
local macro_rules | `(tactic| walk_at "ev1") => `(tactic| first
  | exact ev_int | exact ev_str | exact ev_bool | exact ev_none
  | exact ev_name rfl rfl
  | exact evs_nil
  | (apply evs_more; (case hs => exact rfl))
  | apply ev_binop | (apply ev_cmp; (case hm => exact rfl)) | apply ev_sub
  | apply ev_list | apply ev_tuple
  | (apply tst_cmp; (case hm => exact rfl)) | apply tst_not | exact tst_and_nil | exact tst_or_nil
  | exact op_add_int | exact op_sub_int | exact op_iadd_int | exact op_eq_int | exact op_ne_int | exact op_lt_int | exact op_gt_int | exact op_le_int | exact op_ge_int
  | exact op_eq_str | exact op_ne_str | exact op_in_str | exact op_notin_str | exact op_in_dict | exact op_notin_dict | exact op_ne_nil | exact op_eq_nil
  | exact op_fdiv_int (by decide) (PyProof.noPylong_of_log2 (by decide +kernel)) | exact op_mod_int (by decide)
  | apply op_add_str | apply op_iadd_str
  | exact tsts_nil | apply tsts_one)
local macro_rules | `(tactic| walk_at "ev") => `(tactic| repeat' walk_at "ev1")
local macro_rules | `(tactic| walk_at "can") => `(tactic| first | exact Or.inl rfl | exact Or.inr ⟨rfl, rfl, _, rfl⟩)
local macro_rules | `(tactic| walk_at "as") => `(tactic| (refine exs_cons ?_; apply ex_assign; (case hc => walk_at "can"); (case hs => exact rfl); (case' k => refine then_next ?_); (case' h => walk_at "ev")))
local macro_rules | `(tactic| walk_at "aug") => `(tactic| (refine exs_cons ?_; apply ex_aug; (case h₀ => exact rfl); (case hc => walk_at "can"); (case' k => refine then_next ?_); (case' ho => skip); (case' h => walk_at "ev"); (try walk_at "ev")))
local macro_rules | `(tactic| walk_at "if") => `(tactic| (refine exs_cons ?_; apply ex_if; (case' h => walk_at "ev")))
local macro_rules | `(tactic| walk_at "ret") => `(tactic| (refine exs_cons ?_; apply ex_return; (case' h => walk_at "ev")))
local macro_rules | `(tactic| walk_at "params") => `(tactic| (intro x hx; simp only [List.mem_cons, List.not_mem_nil, or_false] at hx; first
  | (subst hx; first | exact .inl rfl | exact .inr ⟨rfl, fun _ => rfl⟩)
  | (rcases hx with hx | hx <;> subst hx <;> first | exact .inl rfl | exact .inr ⟨rfl, fun _ => rfl⟩)
  | (rcases hx with hx | hx | hx <;> subst hx <;> first | exact .inl rfl | exact .inr ⟨rfl, fun _ => rfl⟩)))
local macro_rules | `(tactic| walk_at "esc") => `(tactic| (refine esc_step rfl (by decide +kernel : _ = (⟨#[_]⟩ : Str)) ?_ ?_ ?_ ?_ (by assumption) rfl (by walk_at "can") rfl ?_))
section
variable {G : Gnd} {n : Nat} {doc pm cdv ct : Value} {a : Addr}
set_option maxHeartbeats 4000000
theorem ifH {env : Env} {Z H : Zf} {ρ : Loc} {s : Shared} {A : Around} {t : PySem.Expr} {b1 b2 : List Stmt} {c : Bool} {Q : Flow → Shared → Prop} {pos : Pos} (S : St G env Z H ρ s) (R : Room n A) (h : Tst G env n ρ t c)
    (h1 : c = true → ∀ s', St G env Z H ρ s' → wpAny (model G.prog G.w) A (execs b1 env) Q (fun _ _ => False) s') (h2 : c = false → ∀ s', St G env Z H ρ s' → wpAny (model G.prog G.w) A (execs b2 env) Q (fun _ _ => False) s') :
    wpAny (model G.prog G.w) A (exec (.If t b1 b2 pos) env) Q (fun _ _ => False) s :=
  wpAny_If (wp_seq (h.run A Z H s R S) fun c' s' ⟨e, x⟩ => by
    subst e
    cases c' with
    | true => exact h1 rfl s' (S.ext x)
    | false => exact h2 rfl s' (S.ext x))
abbrev body5 : List Stmt := match bodyOf (stOf pw 4) with | _ :: _ :: _ :: .For _ _ b _ _ :: _ => b | _ => []
def ρT (b root : Addr) : Loc := [("pieces", .val (.list (txs pieces5))), ("tree", .val (.fn root)), ("above", .val (.fn b))]
theorem aug_store1 {k : Nat} {p : Pos} : ∀ ov iv new, augStore (.Constant (.int 1) k p) ov iv new = (do holding [new, ov, iv] (setItem ov iv new); release [new, ov, iv] []; pure .next) := fun _ _ _ => rfl
def isText : Item → Bool
  | .text _ _ => true
  | .doc _ _ => false
theorem step5_pop_nil {top : List Item} {x : Int} (h1 : decide (x.fmod 6 < 2) = false) (h2 : (x.fmod 6 == 2) = true) : step5 ([], top) x = ([], top) := by
  unfold step5; rw [if_neg (by rw [h1]; decide), if_pos h2]
theorem step5_pop_cons {top t : List Item} {sec : Bool} {r : List (List Item × Bool)} {x : Int} (h1 : decide (x.fmod 6 < 2) = false) (h2 : (x.fmod 6 == 2) = true) : step5 ((t, sec) :: r, top) x = (r, t ++ [.doc sec top]) := by
  unfold step5; rw [if_neg (by rw [h1]; decide), if_pos h2]
theorem turn5 {a₀ b a root L : Addr} {Z H H₀ : Zf} {ρ : Loc} {s : Shared} {A : Around} {lv : List (List Item × Bool)} {top : List Item} {x : Int} {m : Nat} (hdm : nsIn G.K mainGlobals "divmod" = some none) (hlen : nsIn G.K mainGlobals "len" = some none) (hin : nsIn G.K mainGlobals "isinstance" = some none) (hstr : nsIn G.K mainGlobals "str" = some none) (hch : nsIn G.K mainGlobals "chr" = some none)
    (R : Room n A) (I : Inv5 G Z H H₀ lv top b a root) (S : St G (callEnvC (fdOf (stOf pw 4) doc pm cdv ct) L a₀) Z H (upd (ρT b root) "x" (.val (.int x))) s) (hok : Ok5 m (lv, top)) (hm : m ≤ 63) :
    wpAny (model G.prog G.w) A (execs body5 (callEnvC (fdOf (stOf pw 4) doc pm cdv ct) L a₀)) (fun f s' => f = .next ∧ ∃ Z' H' a' ρ', Zle Z Z' ∧ Inv5 G Z' H' H₀ (step5 (lv, top) x).1 (step5 (lv, top) x).2 b a' root ∧ St G (callEnvC (fdOf (stOf pw 4) doc pm cdv ct) L a₀) Z' H' ρ' s' ∧ Sub (ρT b root) ρ') (fun _ _ => False) s := by
  have hlv : lv.length ≤ 1000 := by
    have := msS_len lv
    have := hok.no
    dsimp only at this
    omega
  have hbaT : msL fBa gB top ≤ 1300 := by have := hok.ba; dsimp only at this; omega
  have htop : top.length ≤ 1000 := by
    have h2 : top.length ≤ 63 * 3 + 200 := by
      have h3 : 7 * top.length ≤ msL fBa gB top := by
        clear hbaT hok
        induction top with
        | nil => exact Nat.zero_le _
        | cons j r ih =>
          have ih' : 7 * r.length ≤ msL fBa gB r := by
            clear ih I
            induction r with
            | nil => exact Nat.zero_le _
            | cons j2 r2 ih2 =>
              rw [msL, List.length_cons]
              have h1 : 7 ≤ msI fBa gB j2 := by
                cases j2 with
                | text s x => rw [msI]; unfold fBa; cases s <;> simp [gB] <;> omega
                | doc s l => rw [msI]; cases s <;> simp [gB] <;> omega
              omega
          rw [msL, List.length_cons]
          have h1 : 7 ≤ msI fBa gB j := by
            cases j with
            | text s x => rw [msI]; unfold fBa; cases s <;> simp [gB] <;> omega
            | doc s l => rw [msI]; cases s <;> simp [gB] <;> omega
          omega
      omega
    omega
  have hmb := fmod_bounds (a := x) (m := 6) (by decide)
  -- rest, deed = divmod(x, 6)
  refine wpAny_execs_cons (wp_seq ((ex_assign_tuple (n := n) (Φ := fun fl ρ' => fl = .next ∧ ρ' = upd (upd (upd (ρT b root) "x" (.val (.int x))) "rest" (.val (.int (x.fdiv 6)))) "deed" (.val (.int (x.fmod 6)))) (ev_bf (evs_more (ev_name rfl rfl) (evs_more ev_int evs_nil rfl) rfl) (bf_divmod (by decide) (PyProof.noPylong_of_log2 (by decide +kernel))) hdm rfl rfl rfl rfl) (asg_tuple (asgs_cons (asg_name (.inl rfl)) (asgs_cons (asg_name (.inl rfl)) asgs_nil rfl) rfl)) rfl rfl ⟨rfl, rfl⟩).run A Z H s R S) fun f s₁ ⟨Z₁, ρ₁, fl, le₁, S₁, hf, hfl, hρ⟩ => ?_)
  subst hfl hρ
  cases hf
  refine wpAny_execs_cons (wp_seq ((ex_assign (n := n) (Φ := fun fl ρ' => fl = .next ∧ ρ' = upd (upd (upd (upd (ρT b root) "x" (.val (.int x))) "rest" (.val (.int (x.fdiv 6)))) "deed" (.val (.int (x.fmod 6)))) "code" (.val (.int ((x.fdiv 6).fmod 1112064)))) (by walk_at "ev") (.inl rfl) rfl ⟨rfl, rfl⟩).run A Z₁ H s₁ R S₁) fun f s₂ ⟨Z₂, ρ₂, fl, le₂, S₂, hf, hfl, hρ⟩ => ?_)
  subst hfl hρ
  cases hf
  have I₂ : Inv5 G Z₂ H H₀ lv top b a root := by
    obtain ⟨as, own, vs, qs, ka, kb, h1, h2, h3, h4⟩ := I
    exact ⟨as, own, vs, qs, ka, kb, h1.mono (le₁.trans le₂) fun _ _ => rfl, h2, h3.mono (le₁.trans le₂) fun _ _ => rfl, h4⟩
  have le02 := le₁.trans le₂
  have hm1 : ∀ {ρ : Loc} {p q : Pos} {k : Nat}, Ev G (callEnvC (fdOf (stOf pw 4) doc pm cdv ct) L a₀) n ρ (.UnaryOp .USub (.Constant (.int 1) k p) q) (.int (-1)) := ev_m1
  -- items = above[-1]
  have hbb : ∃ as kb, H b = some (listOf ((as : List Addr).reverse.map Value.ref ++ [Value.ref a]).toArray kb) := by
    obtain ⟨as, own, vs, qs, ka, kb, h1, h2, h3, h4, _⟩ := I₂
    exact ⟨as, kb, by rw [h4]; simp⟩
  obtain ⟨as, kb, hbb⟩ := hbb
  refine wpAny_execs_cons (wpAny_Assign_Name (lastH S₂ rfl hbb (by decide) hm1 R fun s₃ S₃ x₃ => wp_seq (st_store (d := .fn a) S₃ (.fn a) (.inl rfl)) fun _ s₄ S₄ => ?_) rfl)
  generalize hρ4 : upd (upd (upd (upd (upd (ρT b root) "x" (.val (.int x))) "rest" (.val (.int (x.fdiv 6)))) "deed" (.val (.int (x.fmod 6)))) "code" (.val (.int ((x.fdiv 6).fmod 1112064)))) "items" (.val (.fn a)) = ρ₄ at S₄
  have sub4 : Sub (ρT b root) ρ₄ := by subst hρ4; exact sub_cons rfl (sub_cons rfl (sub_cons rfl sub_nil))
  have l_deed : ρ₄.lookup ("deed" : Str) = some (B.val (.int (x.fmod 6))) := by subst hρ4; rfl
  have l_rest : ρ₄.lookup ("rest" : Str) = some (B.val (.int (x.fdiv 6))) := by subst hρ4; rfl
  have l_code : ρ₄.lookup ("code" : Str) = some (B.val (.int ((x.fdiv 6).fmod 1112064))) := by subst hρ4; rfl
  have l_items : ρ₄.lookup ("items" : Str) = some (B.val (.fn a)) := by subst hρ4; rfl
  have l_above : ρ₄.lookup ("above" : Str) = some (B.val (.fn b)) := by subst hρ4; rfl
  have l_pieces : ρ₄.lookup ("pieces" : Str) = some (B.val (.list (txs pieces5))) := by subst hρ4; rfl
  refine wpAny_execs_cons (ifH S₄ R (c := decide (x.fmod 6 < 2)) (tst_cmp (ev_name l_deed rfl) ev_int op_lt_int rfl) (fun h1 s₅ S₅ => ?_) fun h1 s₅ S₅ => ?_)
  · have e : step5 (lv, top) x = ((top, x.fmod 6 == 1) :: lv, []) := if_pos h1
    rw [e]
    rw [decide_eq_true_eq] at h1
    refine opPush I₂ S₅ R l_items l_above rfl rfl rfl rfl htop hlv (ev_name l_deed rfl) (sec := x.fmod 6 == 1) ?_ rfl hm1 ev_int fun Z' H' a' s' le' I' S' => ?_
    · have : x.fmod 6 = 0 ∨ x.fmod 6 = 1 := by omega
      rcases this with q | q <;> rw [q] <;> rfl
    · exact wpAny_execs_nil ⟨rfl, Z', H', a', ρ₄, le02.trans le', I', S', sub4⟩
  have h1' : ¬ x.fmod 6 < 2 := by simpa using h1
  refine wpAny_execs_cons (ifH S₅ R (c := x.fmod 6 == 2) (tst_cmp (ev_name l_deed rfl) ev_int op_eq_int rfl) (fun h2 s₆ S₆ => ?_) fun h2 s₆ S₆ => ?_)
  · -- len(above) > 1
    have key : ∃ Zq Hq : Zf, St G (callEnvC (fdOf (stOf pw 4) doc pm cdv ct) L a₀) Zq Hq (upd ρ₄ "above" (.val (.list (((as.reverse) ++ [a]).map D.fn)))) s₆ := by
      obtain ⟨as', own, vs, qs, ka, kb', g1, g2, g3, g4, g5, g6, g7⟩ := id I₂
      obtain ⟨lez, Sz⟩ := S₆.toZ hbb (g6 b (.head _)).2 rfl
      refine ⟨_, _, Sz.reval l_above fun v r => ?_⟩
      cases r
      refine .list Zadd.self ?_
      have : ∀ l : List Addr, RepAll G (Zadd Z₂ b (listOf (as.reverse.map Value.ref ++ [Value.ref a]).toArray kb)) (l.map Value.ref) (l.map D.fn) := fun l => by
        induction l with
        | nil => exact .nil
        | cons y l ih => exact .cons (.fn y) ih
      have h := this (as.reverse ++ [a])
      rw [List.map_append] at h
      exact h
    obtain ⟨Zq, Hq, Sq⟩ := key
    have hasl : as.length = lv.length := by
      obtain ⟨as', own, vs, qs, ka, kb', g1, g2, g3, g4, _⟩ := id I₂
      have e1 := g4.symm.trans hbb
      injection e1 with e1
      injection e1 with _ _ e2
      injection e2 with e2
      have e3 := congrArg (fun z : Array Value => z.size) e2
      simp at e3
      rw [← g1.len]; omega
    have hT : Tst G (callEnvC (fdOf (stOf pw 4) doc pm cdv ct) L a₀) n (upd ρ₄ "above" (.val (.list (((as.reverse) ++ [a]).map D.fn)))) (.Compare (.Call (.Name "len" ⟨0, 0, 0, 0⟩) [.Name "above" ⟨0, 0, 0, 0⟩] [] ⟨0, 0, 0, 0⟩) [.Gt] [.Constant (.int 1) 0 ⟨0, 0, 0, 0⟩] ⟨0, 0, 0, 0⟩) (decide ((1 : Int) < ((((as.reverse) ++ [a]).map D.fn).length : Int))) :=
      tst_cmp (ev_lenL (ev_name (by rw [lookup_upd, if_pos rfl]) rfl) (by simp; omega) hlen rfl rfl) ev_int op_gt_int rfl
    refine wpAny_execs_cons (wpAny_If (tstH S₆ Sq (c := decide ((1 : Int) < ((((as.reverse) ++ [a]).map D.fn).length : Int))) (tst_cmp (ev_lenL (ev_name (by rw [lookup_upd, if_pos rfl]) rfl) (by simp; omega) hlen rfl rfl) ev_int op_gt_int rfl) R fun s₇ S₇ => ?_))
    cases lv with
    | nil =>
      have hz : as = [] := List.length_eq_zero_iff.mp hasl
      subst hz
      rw [step5_pop_nil h1 h2]
      exact wpAny_execs_nil (wpAny_execs_nil (wpAny_execs_nil (wpAny_execs_nil ⟨rfl, Z₂, H, a, ρ₄, le02, I₂, S₇, sub4⟩)))
    | cons p r =>
      obtain ⟨t, sec⟩ := p
      rw [if_pos (by rw [decide_eq_true_eq]; simp [hasl]; omega)]
      refine wpAny_execs_cons (opPop I₂ S₇ l_above rfl rfl rfl (by simp at hlv; omega) fun Z' H' a' s' le' I' S' => ?_)
      rw [step5_pop_cons h1 h2]
      exact wpAny_execs_nil (wpAny_execs_nil (wpAny_execs_nil (wpAny_execs_nil ⟨rfl, Z', H', a', ρ₄, le02.trans le', I', S', sub4⟩)))
  have h2' : ¬ x.fmod 6 = 2 := by simpa using h2
  -- a text is laid on the last one
  have addText : ∀ {Z H : Zf} {s : Shared} (t : List Item) (sec : Bool) (y u : List Nat) (e : PySem.Expr) {p1 p2 p3 p4 : Pos} {k1 k2 : Nat} {p5 p6 p7 : Pos} {Q : Flow → Shared → Prop}, Inv5 G Z H H₀ lv (t ++ [.text sec y]) b a root → St G (callEnvC (fdOf (stOf pw 4) doc pm cdv ct) L a₀) Z H ρ₄ s → y.length ≤ 2000 → u.length ≤ 9 →
      Ev G (callEnvC (fdOf (stOf pw 4) doc pm cdv ct) L a₀) n ρ₄ e (.str (T u)) → (∀ H' s', Inv5 G Z H' H₀ lv (t ++ [.text sec (y ++ u)]) b a root → St G (callEnvC (fdOf (stOf pw 4) doc pm cdv ct) L a₀) Z H' ρ₄ s' → Q .next s') →
      wpAny (model G.prog G.w) A (exec (.AugAssign (.Subscript (.Subscript (.Name "items" p1) (.UnaryOp .USub (.Constant (.int 1) k1 p2) p3) p4) (.Constant (.int 1) k2 p5) p6) .Add e p7) (callEnvC (fdOf (stOf pw 4) doc pm cdv ct) L a₀)) Q (fun _ _ => False) s := by
    intro Z H s t sec y u e p1 p2 p3 p4 k1 k2 p5 p6 p7 Q hI hS hy hu he hk
    exact opAug hI hS R l_items rfl hm1 ev_int he (by omega) aug_store1 hk
  have hmsx : ∀ {t : List Item} {sec : Bool} {y : List Nat}, top = t ++ [.text sec y] → y.length ≤ 2000 := fun {t sec y} e => by
    rw [e, msL_app, msL, msI] at hbaT
    dsimp only [fBa] at hbaT
    omega
  have goal3 : x.fmod 6 = 3 → step5 (lv, top) x = (lv, top ++ [.text ((x.fdiv 6).fmod 2 == 1) []]) := fun q => by
    unfold step5; rw [if_neg (by rw [h1]; decide), if_neg (by rw [h2]; decide), if_pos (by rw [q]; rfl)]
  have goal4 : x.fmod 6 = 4 → step5 (lv, top) x = (lv, add5 (fix5 top) (pc5 x)) := fun q => by
    unfold step5; rw [if_neg (by rw [h1]; decide), if_neg (by rw [h2]; decide), if_neg (by rw [q]; decide), if_pos (by rw [q]; rfl)]
  have goal5 : x.fmod 6 = 5 → step5 (lv, top) x = (lv, add5 (fix5 top) (cp5 x)) := fun q => by
    unfold step5; rw [if_neg (by rw [h1]; decide), if_neg (by rw [h2]; decide), if_neg (by rw [q]; decide), if_neg (by rw [q]; decide)]
  -- the second if, where a text stands last
  have second : ∀ {Z' H' : Zf} {s' : Shared} (t : List Item) (sec : Bool) (y : List Nat), Zle Z Z' → Inv5 G Z' H' H₀ lv (t ++ [.text sec y]) b a root → St G (callEnvC (fdOf (stOf pw 4) doc pm cdv ct) L a₀) Z' H' ρ₄ s' → y.length ≤ 2000 →
      ((x.fmod 6 = 3 ∧ step5 (lv, top) x = (lv, t ++ [.text sec y])) ∨ (x.fmod 6 ≠ 3 ∧ t ++ [.text sec y] = fix5 top)) →
      wpAny (model G.prog G.w) A (execs (match body5 with | _ :: _ :: _ :: .If _ _ (.If _ _ o _ :: _) _ :: _ => o.drop 1 | _ => []) (callEnvC (fdOf (stOf pw 4) doc pm cdv ct) L a₀)) (fun f s' => f = .next ∧ ∃ Z' H' a' ρ', Zle Z Z' ∧ Inv5 G Z' H' H₀ (step5 (lv, top) x).1 (step5 (lv, top) x).2 b a' root ∧ St G (callEnvC (fdOf (stOf pw 4) doc pm cdv ct) L a₀) Z' H' ρ' s' ∧ Sub (ρT b root) ρ') (fun _ _ => False) s' := by
    intro Z' H' s' t sec y le' I' S' hy hcase
    refine wpAny_execs_cons (ifH S' R (c := x.fmod 6 == 4) (tst_cmp (ev_name l_deed rfl) ev_int op_eq_int rfl) (fun h4 s₇ S₇ => ?_) fun h4 s₇ S₇ => ?_)
    · have h4' : x.fmod 6 = 4 := by simpa using h4
      rcases hcase with ⟨q, _⟩ | ⟨_, q⟩
      · omega
      rw [goal4 h4', ← q, add5_text]
      have hu := pc5_ok x
      refine wpAny_execs_cons (addText t sec y (pc5 x) _ I' S₇ hy hu.2.1 ?_ fun H'' s'' I'' S'' => wpAny_execs_nil (wpAny_execs_nil ⟨rfl, Z', H'', a, ρ₄, le', I'', S'', sub4⟩))
      rw [show T (pc5 x) = pieces5.getD ((x.fdiv 6).fmod 16).toNat Str.empty from T_of _]
      exact ev_sub (ev_name l_pieces rfl) (ev_binop (ev_name l_rest rfl) ev_int (op_mod_int (by decide))) (sb_menu (xs := pieces5) (m := 16) (by decide) (by decide) (by decide))
    · have h4' : ¬ x.fmod 6 = 4 := by simpa using h4
      refine wpAny_execs_cons (ifH S₇ R (c := x.fmod 6 == 5) (tst_cmp (ev_name l_deed rfl) ev_int op_eq_int rfl) (fun h5 s₈ S₈ => ?_) fun h5 s₈ S₈ => ?_)
      · have h5' : x.fmod 6 = 5 := by simpa using h5
        rcases hcase with ⟨q, _⟩ | ⟨_, q⟩
        · omega
        rw [goal5 h5', ← q, add5_text]
        have hu := cp5_ok x
        refine wpAny_execs_cons (addText t sec y (cp5 x) _ I' S₈ hy hu.2.1 ?_ fun H'' s'' I'' S'' => wpAny_execs_nil (wpAny_execs_nil (wpAny_execs_nil ⟨rfl, Z', H'', a, ρ₄, le', I'', S'', sub4⟩)))
        show Ev _ _ _ _ _ (.str ⟨#[(codeOf ((x.fdiv 6).fmod 1112064)).toNat]⟩)
        refine ev_bf (evs_more (ev_ifint (c := decide ((x.fdiv 6).fmod 1112064 < 55296)) ?_ (fun _ => ev_name l_code rfl) fun _ => ?_) evs_nil rfl) (bf_chr (i := codeOf ((x.fdiv 6).fmod 1112064)) (codeOf_bounds _).1 (codeOf_bounds _).2) hch rfl rfl rfl rfl
        · exact tst_cmp (ev_name l_code rfl) ev_int op_lt_int rfl
        · exact ev_binop (ev_name l_code rfl) ev_int op_add_int
      · have h5' : ¬ x.fmod 6 = 5 := by simpa using h5
        rcases hcase with ⟨q, e⟩ | ⟨q, _⟩
        · refine wpAny_execs_nil (wpAny_execs_nil (wpAny_execs_nil ⟨rfl, Z', H', a, ρ₄, le', ?_, S₈, sub4⟩))
          rw [e]
          exact I'
        · omega
  -- the first if
  refine wpAny_execs_cons (ifH S₆ R (c := x.fmod 6 == 3) (tst_cmp (ev_name l_deed rfl) ev_int op_eq_int rfl) (fun h3 s₇ S₇ => ?_) fun h3 s₇ S₇ => ?_)
  · have h3' : x.fmod 6 = 3 := by simpa using h3
    have hb2 := fmod_bounds (a := x.fdiv 6) (m := 2) (by decide)
    refine wpAny_execs_cons (opText I₂ S₇ R l_items rfl rfl rfl htop (ev_binop (ev_name l_rest rfl) ev_int (op_mod_int (by decide))) (sec := (x.fdiv 6).fmod 2 == 1) ?_ rfl fun Z' H' s' le' I' S' => wpAny_execs_nil ?_)
    · have : (x.fdiv 6).fmod 2 = 0 ∨ (x.fdiv 6).fmod 2 = 1 := by omega
      rcases this with q | q <;> rw [q] <;> rfl
    · exact wpAny_mono (second top _ [] (le02.trans le') I' S' (by simp) (.inl ⟨h3', goal3 h3'⟩)) (fun f s' ⟨e, h⟩ => by subst e; exact wpAny_execs_nil (wpAny_execs_nil ⟨rfl, h⟩)) fun _ _ q => q
  · have h3' : ¬ x.fmod 6 = 3 := by simpa using h3
    -- items == [] or not isinstance(items[-1][1], str)
    have key : ∃ Zq Hq : Zf, St G (callEnvC (fdOf (stOf pw 4) doc pm cdv ct) L a₀) Zq Hq (upd ρ₄ "items" (.val (.list (itemsD top)))) s₇ := by
      obtain ⟨as', own, vs, qs, ka, kb', g1, g2, g3, g4, g5, g6, g7⟩ := id I₂
      obtain ⟨Z₈, H₈, le₈, S₈, hr, hH₈, _⟩ := g3.freeze S₇ (fun J hJ => (g6 J (.tail _ (.tail _ (List.mem_append_left _ hJ)))).2) rfl
      rw [List.nodup_cons, List.nodup_cons] at g5
      have aq : a ∉ qs := fun z => g5.2.1 (List.mem_append_left _ z)
      obtain ⟨le₉, S₉⟩ := S₈.toZ ((hH₈ a aq).trans g2) (g6 a (.tail _ (.head _))).2 rfl
      exact ⟨_, _, S₉.reval l_items fun v r => by cases r; exact .list Zadd.self (hr.mono le₉)⟩
    obtain ⟨Zq, Hq, Sq⟩ := key
    refine wpAny_execs_cons (wpAny_If (tstH S₇ Sq (c := needs top) ?_ R fun s₈ S₈ => ?_))
    · have hlook : (upd ρ₄ ("items" : Str) (.val (.list (itemsD top)))).lookup ("items" : Str) = some (B.val (.list (itemsD top))) := by rw [lookup_upd, if_pos rfl]
      cases htop' : top.getLast? with
      | none =>
        have : top = [] := List.getLast?_eq_none_iff.mp htop'
        subst this
        have e : needs [] = (([] : List D).isEmpty || false) := rfl
        rw [e]
        refine tst_or (b := false) (tst_cmp (ev_name (by rw [hlook, itemsD]) rfl) (ev_list evs_nil (by decide)) op_eq_nil rfl) fun h => nomatch h
      | some it =>
        obtain ⟨t, ht⟩ := List.getLast?_eq_some_iff.mp htop'
        have hD : itemsD top = itemsD t ++ [itemD it] := by rw [ht, itemsD_app, itemsD, itemsD]
        have hne : (itemsD top).isEmpty = false := by rw [hD]; simp
        have e : needs top = ((itemsD top).isEmpty || (!(isText it) || false)) := by
          rw [hne, ht]
          cases it with
          | text s y => rw [needs_text]; rfl
          | doc s l => rw [needs_doc]; rfl
        rw [e]
        refine tst_or (tst_cmp (ev_name hlook rfl) (ev_list evs_nil (by decide)) op_eq_nil rfl) fun _ => tst_or (tst_not ?_) fun _ => tst_or_nil
        have hlast : ∀ {p1 p2 p3 p4 : Pos} {k1 : Nat}, Ev G (callEnvC (fdOf (stOf pw 4) doc pm cdv ct) L a₀) n (upd ρ₄ ("items" : Str) (.val (.list (itemsD top)))) (.Subscript (.Name "items" p1) (.UnaryOp .USub (.Constant (.int 1) k1 p2) p3) p4) (itemD it) := by
          intro p1 p2 p3 p4 k1
          exact ev_last (ds := itemsD t) (ev_name (by rw [hlook, hD]) rfl) hm1
        cases it with
        | text s y =>
          rw [itemD] at hlast
          exact tst_plain (ev_isstr (ev_sub hlast ev_int (sb_list (by decide) (by decide) rfl)) (.inl ⟨_, rfl, rfl⟩) hin hstr rfl rfl rfl) tr_bool fun _ => rfl
        | doc s l =>
          rw [itemD] at hlast
          exact tst_plain (ev_isstr (ev_sub hlast ev_int (sb_list (by decide) (by decide) rfl)) (.inr ⟨_, rfl, rfl⟩) hin hstr rfl rfl rfl) tr_bool fun _ => rfl
    cases hneed : needs top with
    | true =>
      rw [if_pos rfl]
      refine wpAny_execs_cons (opText I₂ S₈ R l_items rfl rfl rfl htop ev_int (sec := false) rfl rfl fun Z' H' s' le' I' S' => wpAny_execs_nil (wpAny_execs_nil ?_))
      refine wpAny_mono (second top false [] (le02.trans le') I' S' (by simp) (.inr ⟨h3', ?_⟩)) (fun f s' ⟨e, h⟩ => by subst e; exact wpAny_execs_nil (wpAny_execs_nil ⟨rfl, h⟩)) fun _ _ q => q
      unfold fix5; rw [hneed, if_pos rfl]
    | false =>
      rw [if_neg (by decide)]
      obtain ⟨t, sec, y, e⟩ := needs_false hneed
      have hy := hmsx e
      rw [e] at I₂
      refine wpAny_execs_nil (wpAny_execs_nil ?_)
      refine wpAny_mono (second t sec y le02 I₂ S₈ hy (.inr ⟨h3', ?_⟩)) (fun f s' ⟨e, h⟩ => by subst e; exact wpAny_execs_nil (wpAny_execs_nil ⟨rfl, h⟩)) fun _ _ q => q
      unfold fix5; rw [hneed, if_neg (by decide), e]
end
end Mine
end
section
open PySem PySem.W PyProof.Rows
set_option linter.unusedVariables false
set_option maxRecDepth 100000
namespace Mine
local macro_rules | `(tactic| walk_at "ev1") => `(tactic| first
  | exact ev_int | exact ev_str | exact ev_bool | exact ev_none
  | exact ev_name rfl rfl
  | exact evs_nil
  | (apply evs_more; (case hs => exact rfl))
  | apply ev_binop | (apply ev_cmp; (case hm => exact rfl)) | apply ev_sub
  | apply ev_list | apply ev_tuple
  | (apply tst_cmp; (case hm => exact rfl)) | apply tst_not | exact tst_and_nil | exact tst_or_nil
  | exact op_add_int | exact op_sub_int | exact op_iadd_int | exact op_eq_int | exact op_ne_int | exact op_lt_int | exact op_gt_int | exact op_le_int | exact op_ge_int
  | exact op_eq_str | exact op_ne_str | exact op_in_str | exact op_notin_str | exact op_in_dict | exact op_notin_dict | exact op_ne_nil | exact op_eq_nil
  | exact op_fdiv_int (by decide) (PyProof.noPylong_of_log2 (by decide +kernel)) | exact op_mod_int (by decide)
  | apply op_add_str | apply op_iadd_str
  | exact tsts_nil | apply tsts_one)
local macro_rules | `(tactic| walk_at "ev") => `(tactic| repeat' walk_at "ev1")
local macro_rules | `(tactic| walk_at "can") => `(tactic| first | exact Or.inl rfl | exact Or.inr ⟨rfl, rfl, _, rfl⟩)
local macro_rules | `(tactic| walk_at "as") => `(tactic| (refine exs_cons ?_; apply ex_assign; (case hc => walk_at "can"); (case hs => exact rfl); (case' k => refine then_next ?_); (case' h => walk_at "ev")))
local macro_rules | `(tactic| walk_at "aug") => `(tactic| (refine exs_cons ?_; apply ex_aug; (case h₀ => exact rfl); (case hc => walk_at "can"); (case' k => refine then_next ?_); (case' ho => skip); (case' h => walk_at "ev"); (try walk_at "ev")))
local macro_rules | `(tactic| walk_at "if") => `(tactic| (refine exs_cons ?_; apply ex_if; (case' h => walk_at "ev")))
local macro_rules | `(tactic| walk_at "ret") => `(tactic| (refine exs_cons ?_; apply ex_return; (case' h => walk_at "ev")))
local macro_rules | `(tactic| walk_at "params") => `(tactic| (intro x hx; simp only [List.mem_cons, List.not_mem_nil, or_false] at hx; first
  | (subst hx; first | exact .inl rfl | exact .inr ⟨rfl, fun _ => rfl⟩)
  | (rcases hx with hx | hx <;> subst hx <;> first | exact .inl rfl | exact .inr ⟨rfl, fun _ => rfl⟩)
  | (rcases hx with hx | hx | hx <;> subst hx <;> first | exact .inl rfl | exact .inr ⟨rfl, fun _ => rfl⟩)))
local macro_rules | `(tactic| walk_at "esc") => `(tactic| (refine esc_step rfl (by decide +kernel : _ = (⟨#[_]⟩ : Str)) ?_ ?_ ?_ ?_ (by assumption) rfl (by walk_at "can") rfl ?_))
section
variable {G : Gnd} {n : Nat} {doc pm cdv ct : Value} {a : Addr}
set_option maxHeartbeats 4000000
theorem inv5_retag {Z H H₀ : Zf} {lv : List (List Item × Bool)} {top : List Item} {b a root I : Addr} {o o' : Obj} (h : Inv5 G Z H (Zadd H₀ I o) lv top b a root) : Inv5 G Z (Zadd H I o') (Zadd H₀ I o') lv top b a root := by
  obtain ⟨as, own, vs, qs, ka, kb, h1, h2, h3, h4, h5, h6, h7⟩ := h
  have ne : ∀ J ∈ b :: a :: (qs ++ own), J ≠ I := fun J hJ z => by
    have := (h6 J hJ).1
    rw [z, Zadd.self] at this; cases this
  refine ⟨as, own, vs, qs, ka, kb, h1.mono Zle.same fun J hJ => Zadd.ne (ne J (.tail _ (.tail _ (List.mem_append_right _ hJ)))), (Zadd.ne (ne a (.tail _ (.head _)))).trans h2, h3.mono Zle.same fun J hJ => Zadd.ne (ne J (.tail _ (.tail _ (List.mem_append_left _ hJ)))), (Zadd.ne (ne b (.head _))).trans h4, h5, fun J hJ => ?_, fun x ob hx => ?_⟩
  · have := h6 J hJ
    rw [Zadd.ne (ne J hJ)] at this ⊢
    exact this
  · by_cases q : x = I
    · rw [q, Zadd.self] at hx ⊢; exact hx
    · rw [Zadd.ne q] at hx ⊢
      exact h7 x ob (by rw [Zadd.ne q]; exact hx)
theorem inv5_drop {Z H H₀ : Zf} {lv : List (List Item × Bool)} {top : List Item} {b a root I : Addr} {o : Obj} (h : Inv5 G Z H (Zadd H₀ I o) lv top b a root) (hI : H₀ I = none) : Inv5 G Z (Hdel H I) H₀ lv top b a root := by
  obtain ⟨as, own, vs, qs, ka, kb, h1, h2, h3, h4, h5, h6, h7⟩ := h
  have ne : ∀ J ∈ b :: a :: (qs ++ own), J ≠ I := fun J hJ z => by
    have := (h6 J hJ).1
    rw [z, Zadd.self] at this; cases this
  refine ⟨as, own, vs, qs, ka, kb, h1.mono Zle.same fun J hJ => Hdel.ne (ne J (.tail _ (.tail _ (List.mem_append_right _ hJ)))), (Hdel.ne (ne a (.tail _ (.head _)))).trans h2, h3.mono Zle.same fun J hJ => Hdel.ne (ne J (.tail _ (.tail _ (List.mem_append_left _ hJ)))), (Hdel.ne (ne b (.head _))).trans h4, h5, fun J hJ => ?_, fun x ob hx => ?_⟩
  · have := h6 J hJ
    rw [Zadd.ne (ne J hJ)] at this
    exact this
  · have q : x ≠ I := fun q => by rw [q, hI] at hx; cases hx
    rw [Hdel.ne q]
    exact h7 x ob (by rw [Zadd.ne q]; exact hx)
theorem inv5_up {Z H H₀ : Zf} {lv : List (List Item × Bool)} {top : List Item} {b a root I : Addr} {o : Obj} (h : Inv5 G Z H H₀ lv top b a root) (hI : H I = none) : Inv5 G Z (Zadd H I o) (Zadd H₀ I o) lv top b a root := by
  obtain ⟨as, own, vs, qs, ka, kb, h1, h2, h3, h4, h5, h6, h7⟩ := h
  have hsome : ∀ J ∈ b :: a :: (qs ++ own), ∃ ob, H J = some ob := fun J hJ => by
    rcases List.mem_cons.mp hJ with rfl | hJ
    · exact ⟨_, h4⟩
    · rcases List.mem_cons.mp hJ with rfl | hJ
      · exact ⟨_, h2⟩
      · rcases List.mem_append.mp hJ with hJ | hJ
        · exact h3.some J hJ
        · exact h1.some J hJ
  have ne : ∀ J ∈ b :: a :: (qs ++ own), J ≠ I := fun J hJ z => by
    obtain ⟨ob, e⟩ := hsome J hJ
    rw [z, hI] at e; cases e
  refine ⟨as, own, vs, qs, ka, kb, h1.mono Zle.same fun J hJ => Zadd.ne (ne J (.tail _ (.tail _ (List.mem_append_right _ hJ)))), (Zadd.ne (ne a (.tail _ (.head _)))).trans h2, h3.mono Zle.same fun J hJ => Zadd.ne (ne J (.tail _ (.tail _ (List.mem_append_left _ hJ)))), (Zadd.ne (ne b (.head _))).trans h4, h5, fun J hJ => ?_, fun x ob hx => ?_⟩
  · rw [Zadd.ne (ne J hJ)]; exact h6 J hJ
  · by_cases q : x = I
    · rw [q, Zadd.self] at hx ⊢; exact hx
    · rw [Zadd.ne q] at hx ⊢; exact h7 x ob hx
theorem fn_tree {a₀ : Addr} (dA : DefAt G a₀ (fdOf (stOf pw 4) doc pm cdv ct) (bodyOf (stOf pw 4))) (hdm : nsIn G.K mainGlobals "divmod" = some none) (hlen : nsIn G.K mainGlobals "len" = some none) (hin : nsIn G.K mainGlobals "isinstance" = some none) (hstr : nsIn G.K mainGlobals "str" = some none) (hch : nsIn G.K mainGlobals "chr" = some none)
    (ns : List Int) (hn : ns.length ≤ 63) : Fn G (n + 1) a₀ [.list (ns.map .int)] (.list (itemsD (tree5 ns))) := by
  refine fn_of (xs := ["script"]) dA (fun vs h => ?_) rfl ?_ (by decide) fun L => ?_
  · match vs, h with
    | [v], _ => rfl
  · walk_at "params"
  have big : 100000 ≤ sizeLine := by decide
  walk_at "as"
  · decide
  constructor
  intro A Z H s R S
  -- tree = [[0, '']]
  refine wpAny_execs_cons (wpAny_Assign_Name (List_ (spliced_more (pairH (d1 := .int 0) (d2 := .str "") S R ev_int ev_str rfl rfl rfl rfl fun q v1 v2 s₁ r1 r2 hq hqB S₁ => spliced_none (wpAny_newObj_type ?_ (by show 1 ≤ sizeLine; decide))) rfl)) rfl)
  have y₁ : Ext Z s₁ Z { s₁ with heap := s₁.heap.push (listOf [.ref q].toArray 0) } := ⟨Zle.same, fun b o e => Heap.get?_push_of_some _ e, fun b o e => Heap.get?_push_of_some _ (S₁.zin b o e), fun _ _ h => .inl h, rfl, rfl, Nat.le_refl _⟩
  obtain ⟨S₂, hB₂, hH₂, hZ₂⟩ := S₁.newH y₁ (get?_size_none _) (Heap.get?_push_size _ rfl)
  generalize hroot : s₁.heap.objs.size = root at *
  refine wp_seq (st_store (x := "tree") (d := .fn root) S₂ (.fn root) (.inl rfl)) fun _ s₃ S₃ => ?_
  -- above = [tree]
  refine wpAny_execs_cons (wpAny_Assign_Name (List_ (spliced_more (nameH S₃ (by rw [lookup_upd, if_pos rfl]) (by decide) fun v r => spliced_none (wpAny_newObj_type ?_ (by show 1 ≤ sizeLine; decide))) rfl)) rfl)
  cases r
  have y₃ : Ext Z s₃ Z { s₃ with heap := s₃.heap.push (listOf [.ref root].toArray 0) } := ⟨Zle.same, fun b o e => Heap.get?_push_of_some _ e, fun b o e => Heap.get?_push_of_some _ (S₃.zin b o e), fun _ _ h => .inl h, rfl, rfl, Nat.le_refl _⟩
  obtain ⟨S₄, hB₄, hH₄, hZ₄⟩ := S₃.newH y₃ (get?_size_none _) (Heap.get?_push_size _ rfl)
  generalize hbb : s₃.heap.objs.size = b at *
  refine wp_seq (st_store (x := "above") (d := .fn b) S₄ (.fn b) (.inl rfl)) fun _ s₅ S₅ => ?_
  have nrq : root ≠ q := fun z => by rw [z, Zadd.self] at hH₂; cases hH₂
  have hHr : H root = none := by rwa [Zadd.ne nrq] at hH₂
  have nbr : b ≠ root := fun z => by rw [z, Zadd.self] at hH₄; cases hH₄
  have nbq : b ≠ q := fun z => by rw [z, Zadd.ne (Ne.symm nrq), Zadd.self] at hH₄; cases hH₄
  have hHb : H b = none := by rwa [Zadd.ne nbr, Zadd.ne nbq] at hH₄
  have e0 : ("" : Str) = T [] := by decide +kernel
  obtain ⟨t1, rfl⟩ := sN_rep (sec := false) r1 rfl
  have I₅ : Inv5 G Z (Zadd (Zadd (Zadd H q (listOf [.int (sN false) t1, v2].toArray 0)) root (listOf [.ref q].toArray 0)) b (listOf [.ref root].toArray 0)) H [] [.text false []] b root root := by
    cases r2 with
    | str _ t2 =>
      refine ⟨[], [], [.ref q], [q], 0, 0, .nil, by rw [Zadd.ne (Ne.symm nbr)]; exact Zadd.self, ?_, Zadd.self, ?_, ?_, fun x o hx => ?_⟩
      · rw [e0]
        exact Tp.held (ws := []) (t := []) (by rw [itemsD]; exact .nil) (by rw [Zadd.ne (Ne.symm nbq), Zadd.ne (Ne.symm nrq)]; exact Zadd.self)
      · simp [nbr, nbq, nrq]
      · intro J hJ
        simp only [List.append_nil, List.mem_cons, List.not_mem_nil, or_false] at hJ
        rcases hJ with rfl | rfl | rfl
        · exact ⟨hHb, hB₄⟩
        · exact ⟨hHr, hB₂⟩
        · exact ⟨hq, hqB⟩
      · rw [Zadd.ne fun z => (by rw [z, hHb] at hx; cases hx), Zadd.ne fun z => (by rw [z, hHr] at hx; cases hx), Zadd.ne fun z => (by rw [z, hq] at hx; cases hx)]
        exact hx
  generalize Zadd (Zadd (Zadd H q (listOf [.int (sN false) t1, v2].toArray 0)) root (listOf [.ref q].toArray 0)) b (listOf [.ref root].toArray 0) = H₅ at S₅ I₅
  -- the loop
  refine wpAny_execs_cons (wpAny_For (nameH S₅ (d := .list (ns.map .int)) (by rfl) (by decide) fun v r => wp_seq ((itr_list (G := G) (ds := ns.map D.int)).run A Z s₅ v (R.less (Nat.zero_le _)) S₅.bs r) fun it s₆ ⟨I, fp, P, W, e, x₆, hI, hW, hfp, hW0, hcls, hP⟩ => ?_) (fun _ => rfl))
  subst e
  have W₀ := hW A R.handled
  obtain ⟨o₆, _, ho₆, _⟩ := hcls 0 _ hW0
  obtain ⟨S₆, hB₆, hH₆, hZ₆⟩ := S₅.newH x₆ hI ho₆
  have hH0I : H I = none := by
    cases z : H I with
    | none => rfl
    | some o => obtain ⟨_, _, _, _, _, _, _, _, _, _, _, _, h7⟩ := id I₅; rw [h7 I o z] at hH₆; cases hH₆
  refine codeAny_forLoop_any (fun m s => ∃ i Zc Hf a' o, m = (ns.map D.int).length - i ∧ i ≤ (ns.map D.int).length ∧ Zle Z Zc ∧ Hf I = some o ∧ St G (callEnvC (fdOf (stOf pw 4) doc pm cdv ct) L a₀) Zc Hf (ρT b root) s ∧ W i s.heap ∧ Inv5 G Zc Hf (Zadd H I o) (st5 (ns.take i)).1 (st5 (ns.take i)).2 b a' root) (fun m s hm => ?_) (ns.map D.int).length ⟨0, Z, _, root, o₆, rfl, Nat.zero_le _, Zle.same, Zadd.self, S₆.weaken (sub_cons rfl (sub_cons rfl (sub_cons rfl sub_nil))), hW0, inv5_up I₅ hH₆⟩
  obtain ⟨i, Zc, Hf, a', o, rfl, hle, lec, hfI, Sc, hWi, hInv⟩ := hm
  by_cases hlt : i < (ns.map D.int).length
  · refine wpAny_with_toks (Nat.le_refl s.toks) (W₀.item i s _ _ hlt Sc.tk hWi fun v h' tk pv hW' hk tok => ?_)
    obtain ⟨d', hd', rv⟩ := hP i v pv
    obtain ⟨x, hx, rfl⟩ := at_map hd'
    obtain ⟨o', T, ho', hcT, hT⟩ := hcls _ _ hW'
    have St' := Sc.setH (t := tk) hfI hB₆ rfl (fun b ob hb e => hk b ob (by simpa using hb) e) ho' tok
    refine wp_letOwned (s := { s with heap := h', toks := tk }) ho' hcT hT ?_
    refine wp_seq ((asg_name (x := "x") (.inl rfl)).run A Zc _ _ v (R.less (Nat.zero_le _)) St' (rv.mono lec)) fun _ s₈ ⟨Z₈, le₈, S₈⟩ => ?_
    have hok := ok5_st (ns.take i)
    have hst : st5 (ns.take (i + 1)) = step5 (st5 (ns.take i)) x := by
      unfold st5
      rw [List.take_add_one, hx, List.foldl_append]
      rfl
    have hInv₈ : Inv5 G Z₈ (Zadd Hf I o') (Zadd H I o') (st5 (ns.take i)).1 (st5 (ns.take i)).2 b a' root := by
      obtain ⟨as, own, vs, qs, ka, kb, h1, h2, h3, h4⟩ := inv5_retag (o' := o') hInv
      exact ⟨as, own, vs, qs, ka, kb, h1.mono le₈ fun _ _ => rfl, h2, h3.mono le₈ fun _ _ => rfl, h4⟩
    refine wp_seq (turn5 (ρ := []) hdm hlen hin hstr hch R hInv₈ S₈ hok (by rw [List.length_take]; omega)) fun f s₉ ⟨ef, Z₉, H₉, a'', ρ₉, le₉, I₉, S₉, hsub₉⟩ => ?_
    subst ef
    have hI9 : H₉ I = some o' := by
      obtain ⟨_, _, _, _, _, _, _, _, _, _, _, _, h7⟩ := id I₉
      exact h7 I o' Zadd.self
    refine ⟨(ns.map D.int).length - (i + 1), by omega, i + 1, Z₉, H₉, a'', o', rfl, by omega, lec.trans (le₈.trans le₉), hI9, S₉.weaken hsub₉, W₀.frame _ _ _ hW' fun bb hbb ob e => ?_, by rw [hst]; exact I₉⟩
    rcases hfp bb hbb with rfl | ⟨oz, hz⟩
    · have e' : h'.get? bb = some ob := e
      rw [ho'] at e'; cases e'
      exact S₉.hin _ _ hI9
    · have e1 := St'.zin bb oz (lec bb oz hz)
      have e' : h'.get? bb = some ob := e
      have e2 : h'.get? bb = some oz := e1
      rw [e'] at e2; cases e2
      exact S₉.zin _ _ (le₉ _ _ (le₈ _ _ (lec _ _ hz)))
  · have hlen' : i = (ns.map D.int).length := by omega
    subst hlen'
    refine wpAny_with_toks (Nat.le_refl s.toks) (W₀.done s _ _ hWi fun h' tk hk tok => ?_)
    refine wpAny_execs_nil ?_
    have hHf : Hf = Zadd (Hdel Hf I) I o := funext fun z => by
      by_cases q : z = I
      · rw [q, Zadd.self, hfI]
      · rw [Zadd.ne q, Hdel.ne q]
    have Sc' : St G (callEnvC (fdOf (stOf pw 4) doc pm cdv ct) L a₀) Zc (Zadd (Hdel Hf I) I o) (ρT b root) s := hHf ▸ Sc
    have Sd := Sc'.drop (t := tk) hB₆ (fun y c e => by cases e) Hdel.self (fun b ob hb e => hk b ob (by simpa using hb) e) tok
    have Id := inv5_drop hInv hH0I
    rw [List.length_map, List.take_length] at Id
    refine wpAny_execs_cons (wpAny_Return_some (nameH Sd (by rfl) (by decide) fun v r => ?_))
    cases r
    obtain ⟨as, own, vs, qs, ka, kb, h1, h2, h3, h4, h5, h6, h7⟩ := Id
    rw [List.nodup_cons] at h5
    obtain ⟨Z', H', le', S', r', same⟩ := closeAll _ Sd rfl h1 h2 h3 h5.2 (fun J hJ => (h6 J (.tail _ hJ)).2)
    refine ⟨Z', ρT b root, .ret _, lec.trans le', S'.subH (fun x ob hx => ?_) (fun x ob hx => ?_) rfl, .ret r', rfl⟩
    · rw [same x fun z => by rw [(h6 x (.tail _ z)).1] at hx; cases hx]
      exact h7 x ob hx
    · rcases S.bas x ob hx with z | z
      · exact .inl (le' _ _ (lec _ _ z))
      · exact .inr z
end
end Mine
end
section
open PySem PySem.W PyProof.Rows
set_option linter.unusedVariables false
set_option maxRecDepth 100000
namespace Mine
local macro_rules | `(tactic| walk_at "ev1") => `(tactic| first
  | exact ev_int | exact ev_str | exact ev_bool | exact ev_none
  | exact ev_name rfl rfl
  | exact evs_nil
  | (apply evs_more; (case hs => exact rfl))
  | apply ev_binop | (apply ev_cmp; (case hm => exact rfl)) | apply ev_sub
  | apply ev_list | apply ev_tuple
  | (apply tst_cmp; (case hm => exact rfl)) | apply tst_not | exact tst_and_nil | exact tst_or_nil
  | exact op_add_int | exact op_sub_int | exact op_iadd_int | exact op_eq_int | exact op_ne_int | exact op_lt_int | exact op_gt_int | exact op_le_int | exact op_ge_int
  | exact op_eq_str | exact op_ne_str | exact op_in_str | exact op_notin_str | exact op_in_dict | exact op_notin_dict | exact op_ne_nil | exact op_eq_nil
  | exact op_fdiv_int (by decide) (PyProof.noPylong_of_log2 (by decide +kernel)) | exact op_mod_int (by decide)
  | apply op_add_str | apply op_iadd_str
  | exact tsts_nil | apply tsts_one)
local macro_rules | `(tactic| walk_at "ev") => `(tactic| repeat' walk_at "ev1")
local macro_rules | `(tactic| walk_at "can") => `(tactic| first | exact Or.inl rfl | exact Or.inr ⟨rfl, rfl, _, rfl⟩)
local macro_rules | `(tactic| walk_at "as") => `(tactic| (refine exs_cons ?_; apply ex_assign; (case hc => walk_at "can"); (case hs => exact rfl); (case' k => refine then_next ?_); (case' h => walk_at "ev")))
local macro_rules | `(tactic| walk_at "aug") => `(tactic| (refine exs_cons ?_; apply ex_aug; (case h₀ => exact rfl); (case hc => walk_at "can"); (case' k => refine then_next ?_); (case' ho => skip); (case' h => walk_at "ev"); (try walk_at "ev")))
local macro_rules | `(tactic| walk_at "if") => `(tactic| (refine exs_cons ?_; apply ex_if; (case' h => walk_at "ev")))
local macro_rules | `(tactic| walk_at "ret") => `(tactic| (refine exs_cons ?_; apply ex_return; (case' h => walk_at "ev")))
local macro_rules | `(tactic| walk_at "params") => `(tactic| (intro x hx; simp only [List.mem_cons, List.not_mem_nil, or_false] at hx; first
  | (subst hx; first | exact .inl rfl | exact .inr ⟨rfl, fun _ => rfl⟩)
  | (rcases hx with hx | hx <;> subst hx <;> first | exact .inl rfl | exact .inr ⟨rfl, fun _ => rfl⟩)
  | (rcases hx with hx | hx | hx <;> subst hx <;> first | exact .inl rfl | exact .inr ⟨rfl, fun _ => rfl⟩)))
local macro_rules | `(tactic| walk_at "esc") => `(tactic| (refine esc_step rfl (by decide +kernel : _ = (⟨#[_]⟩ : Str)) ?_ ?_ ?_ ?_ (by assumption) rfl (by walk_at "can") rfl ?_))
section
variable {G : Gnd} {n : Nat} {doc pm cdv ct : Value} {a : Addr}
set_option maxHeartbeats 4000000
mutual
def pyI : Item → PyData
  | .text s x => .list [.int (sN s), .str (T x)]
  | .doc s its => .list [.int (sN s), .list (pyL its)]
def pyL : List Item → List PyData
  | [] => []
  | i :: r => pyI i :: pyL r
end
section
variable {Z : Zf} {h : Heap}
mutual
theorem reads_I (hz : ∀ a o, Z a = some o → h.get? a = some o) : ∀ (it : Item) {v : Value}, Rep G Z v (itemD it) → ∃ as, Reads h v (pyI it) as
  | .text s x, v, r => by
    rw [itemD] at r
    rw [pyI]
    cases r with
    | list hz' ra =>
      cases ra with
      | cons r1 r2 =>
        cases r1
        cases r2 with
        | cons r2 r3 =>
          cases r2
          cases r3
          exact ⟨_, .list (hz _ _ hz') rfl rfl (.cons (.int _ _) (.cons (.str _ _) .nil))⟩
  | .doc s its, v, r => by
    rw [itemD] at r
    rw [pyI]
    cases r with
    | list hz' ra =>
      cases ra with
      | cons r1 r2 =>
        cases r1
        cases r2 with
        | cons r2 r3 =>
          cases r3
          cases r2 with
          | list hz2 ra2 =>
            obtain ⟨as, h2⟩ := reads_L hz its ra2
            exact ⟨_, .list (hz _ _ hz') rfl rfl (.cons (.int _ _) (.cons (.list (hz _ _ hz2) rfl rfl h2) .nil))⟩
theorem reads_L (hz : ∀ a o, Z a = some o → h.get? a = some o) : ∀ (its : List Item) {vs : List Value}, RepAll G Z vs (itemsD its) → ∃ as, ReadsAll h vs (pyL its) as
  | [], vs, r => by
    rw [itemsD] at r
    rw [pyL]
    cases r
    exact ⟨_, .nil⟩
  | i :: l, vs, r => by
    rw [itemsD] at r
    rw [pyL]
    cases r with
    | cons r1 r2 =>
      obtain ⟨as, h1⟩ := reads_I hz i r1
      obtain ⟨bs, h2⟩ := reads_L hz l r2
      exact ⟨_, .cons h1 h2⟩
end
end
mutual
theorem py_eqI : ∀ it : Item, PyData.eqv (pyI it) (pyI it) = true
  | .text s x => by rw [pyI]; simp [PyData.eqv, PyData.eqvAll]
  | .doc s its => by rw [pyI]; simp [PyData.eqv, PyData.eqvAll, py_eqL its]
theorem py_eqL : ∀ its : List Item, PyData.eqvAll (pyL its) (pyL its) = true
  | [] => by rw [pyL]; simp [PyData.eqvAll]
  | i :: r => by rw [pyL]; simp [PyData.eqvAll, py_eqI i, py_eqL r]
end
theorem ints_of {Z : Zf} : ∀ {vs : List Value} {ns : List Int}, RepAll G Z vs (ns.map .int) → IntsAre vs ns
  | [], [], _ => .nil
  | [], _ :: _, r => by cases r
  | _ :: _, [], r => by cases r
  | v :: vs, n :: ns, r => by
    cases r with
    | cons r1 r2 => cases r1; exact .cons _ _ (ints_of r2)
theorem sb_whole {value slice : PySem.Expr} {ns : List Int} {b : Int} (h0 : 0 ≤ b) (hb : (ns.length : Int) ≤ b) (hn : ns.length ≤ 1000) : Sb G value slice (.list (ns.map .int)) (.slc none (some b)) (.list (ns.map .int)) := Op2.mk fun A Z s v₁ v₂ R bs r₁ r₂ => by
  have big : 100000 ≤ sizeLine := by decide
  cases r₁ with
  | @list x vs k _ hz ra =>
    cases r₂ with
    | @slc y vl vu _ _ hz' pl pu =>
      have hl := isList_of (bs.zin _ _ hz)
      have hlen : vs.length = ns.length := by rw [ra.length, List.length_map]
      refine tail_all hl.typeIs F.slot_list_getitem.lookup ?_
      refine wpAny_getItem_list_slice hl ⟨_, bs.zin _ _ hz', rfl, rfl⟩ pl pu .none (by simp) ?_ (by rw [List.size_toArray, hlen]; omega)
      have hI := slice_ints_uptoW (ints_of ra) h0
      rw [List.take_of_length_le (by omega)] at hI
      have hA : slicePick vs.toArray none (some b) none = (slicePick vs.toArray none (some b) none).toList.toArray := by simp
      rw [hA]
      generalize (slicePick vs.toArray none (some b) none).toList = us at hI
      exact ⟨_, Ext.alloc (o := { cls := .type "list", data := .seq us.toArray }) (t := s.toks) bs.zin rfl (Nat.le_refl _), .list (vs := us) (n := 0) Zadd.self (repAll_ints hI)⟩
theorem strOk_T {x : List Nat} (h : bad5 x = 0) : PyData.strOk (T x) = true := by
  unfold PyData.strOk T
  unfold bad5 at h
  rw [List.countP_eq_zero] at h
  simp only [List.all_toArray, List.all_eq_true, decide_eq_true_eq]
  intro c hc
  have := h c hc
  simp at this
  omega
mutual
theorem py_layI : ∀ it : Item, msI (fun _ x => bad5 x) (fun _ => 0) it = 0 → (pyI it).canLay0 = true
  | .text s x, h => by
    rw [msI] at h
    rw [pyI]
    simp [PyData.canLay0, PyData.canLayAll0, strOk_T h]
  | .doc s its, h => by
    rw [msI] at h
    rw [pyI]
    simp [PyData.canLay0, PyData.canLayAll0, py_layL its (by omega)]
theorem py_layL : ∀ its : List Item, msL (fun _ x => bad5 x) (fun _ => 0) its = 0 → PyData.canLayAll0 (pyL its) = true
  | [], _ => by rw [pyL]; simp [PyData.canLayAll0]
  | i :: r, h => by
    rw [msL] at h
    rw [pyL]
    simp [PyData.canLayAll0, py_layI i (by omega), py_layL r (by omega)]
end
mutual
theorem py_depI : ∀ it : Item, (pyI it).depth ≤ 2 * depI it + 1
  | .text s x => by rw [pyI, depI]; simp [PyData.depth, PyData.depthAll]
  | .doc s its => by
    have := py_depL its
    rw [pyI, depI]
    simp [PyData.depth, PyData.depthAll]
    omega
theorem py_depL : ∀ its : List Item, PyData.depthAll (pyL its) ≤ 2 * depL its + 1
  | [] => by rw [pyL]; simp [PyData.depthAll]
  | i :: r => by
    have := py_depI i
    have := py_depL r
    rw [pyL, depL]
    simp [PyData.depthAll]
    omega
end
theorem fn_law5 {att arw ait : Addr} (dA : DefAt G a (fdOf (stOf pw 8) doc pm cdv ct) (bodyOf (stOf pw 8)))
    (gt : nsIn G.K mainGlobals "_law_tree" = some (some (.ref att))) (kt : keepIn G.K (.ref att) = true) (ft : ∀ ns : List Int, ns.length ≤ 63 → Fn G (n + 80) att [.list (ns.map .int)] (.list (itemsD (tree5 ns))))
    (gr : nsIn G.K mainGlobals "_law_row" = some (some (.ref arw))) (kr : keepIn G.K (.ref arw) = true) (fr : ∀ its : List Item, Small5 its → Fn G (n + 80) arw [.list (itemsD its)] (.str (T (rowL its))))
    (gi : nsIn G.K mainGlobals "_law_items" = some (some (.ref ait))) (ki : keepIn G.K (.ref ait) = true) (fi : ∀ its : List Item, Small5 its → Fn G (n + 80) ait [.str (T (rowL its))] (.list (itemsD its)))
    (ns : List Int) (hn : ns.length ≤ 63) : Fn G (n + 81) a [.list (ns.map .int)] (.bool true) := by
  refine fn_of (xs := ["script"]) dA (fun vs h => ?_) rfl ?_ (by decide) fun L => ?_
  · match vs, h with
    | [v], _ => rfl
  · walk_at "params"
  have big : 100000 ≤ sizeLine := by decide
  obtain ⟨hsm, hbd⟩ := small5_tree ns hn
  refine exs_cons (ex_assign (ev_call (ev_glob gt rfl rfl) (evs_more (d := .list (ns.map .int)) (ev_sub (ev_name rfl rfl) (ev_slice (lo := none) (hi := some 63) trivial ev_int) (sb_whole (b := 63) (by decide) (by omega) (by omega))) evs_nil rfl) kt (ft ns hn) rfl rfl) (.inl rfl) rfl (then_next ?_))
  generalize tree5 ns = tr at hsm hbd
  refine exs_cons (ex_return (d := .bool true) ?_ rfl)
  have hdep := hsm.len.2
  have hpd := py_depL tr
  constructor
  intro A Z H s R S
  refine wpAny_Compare1 (wp_seq ((ev_call (ev_glob gi rfl rfl) (evs_more (ev_call (ev_glob gr rfl rfl) (evs_more (ev_name rfl rfl) evs_nil rfl) kr (fr tr hsm) rfl rfl) evs_nil rfl) ki (fi tr hsm) rfl rfl : Ev G (callEnvC (fdOf (stOf pw 8) doc pm cdv ct) L a) (n + 80) _ _ (.list (itemsD tr))).run A Z H s R S) fun v₁ s₁ ⟨Z₁, x₁, r₁⟩ => ?_) rfl
  have S₁ := S.ext x₁
  refine nameH S₁ (x := "tree") (d := .list (itemsD tr)) rfl (by decide) fun v₂ r₂ => ?_
  cases r₁ with
  | list z1 a1 =>
    cases r₂ with
    | list z2 a2 =>
      obtain ⟨as, q1⟩ := reads_L S₁.zin tr a1
      obtain ⟨bs, q2⟩ := reads_L S₁.zin tr a2
      refine SeqAt.compareEq_reads (da := .list (pyL tr)) (db := .list (pyL tr)) (.list (S₁.zin _ _ z1) rfl rfl q1) (.list (S₁.zin _ _ z2) rfl rfl q2) (by simp [PyData.canLay0, py_layL tr hbd]) (by simp [PyData.canLay0, py_layL tr hbd]) ?_ ?_
      · have hu := R.units
        simp only [PyData.depth, Nat.min_self]
        omega
      · have e : PyData.eqv (.list (pyL tr)) (.list (pyL tr)) = true := by simp [PyData.eqv, py_eqL]
        rw [e]
        exact ⟨Z₁, x₁, .bool true⟩
end
end Mine
end
open PySem PySem.W PySem.W.X PySem.W.ZRun PyProof.Rows
set_option maxRecDepth 100000
set_option maxHeartbeats 0
theorem PySem.Challenge.cw_dn0275_05_holds : PySem.Challenge.rw_dn0275_05.Holds := by
  w_on; o_law; z_head
  (case hw => w_witness2)
  k_fill
  intro w s₀ s₁ mg mb G y fa o pm cd doc dV kV ho hd hcd hD hmg hg args vals as L hpre hlay hrd hwl hlo
  z_open y L KX ZH ZN ZT
  refine Ground.open G ?_
  intro T B D TE TW
  wrow_args hpre hlay hrd hwl hlo
  obtain ⟨hat, hsz⟩ := script_at L
  have htk := script_toks L ZT
  rw [ZN] at hat hsz
  subst hat
  x_fa T KX hmg
  all_lens
  clear hcd hd hD ho
  refine Mine.finish (n := 81) (p := _) KX (topRead_of T) rfl hg (Nat.lt_of_lt_of_le (by decide) htk) (script_obj L (by assumption)) (by assumption) (fun _ => rfl) ?_ (by decide) fun nb => ?_
  · wrow_post
  exact Mine.fn_law5 (n := 0) (doc := _) (pm := _) (cdv := _) (ct := _) ⟨⟨_, rfl, rfl⟩, rfl, rfl, rfl, rfl, rfl, rfl, rfl, rfl⟩
    rfl rfl (fun ns hn => Mine.fn_tree (n := 79) (doc := _) (pm := _) (cdv := _) (ct := _) ⟨⟨_, rfl, rfl⟩, rfl, rfl, rfl, rfl, rfl, rfl, rfl, rfl⟩ rfl rfl rfl rfl rfl ns hn)
    rfl rfl (fun its hs => Mine.fn_row (n := 15) (doc := _) (pm := _) (cdv := _) (ct := _) ⟨⟨_, rfl, rfl⟩, rfl, rfl, rfl, rfl, rfl, rfl, rfl, rfl⟩ rfl rfl rfl rfl (fun m l hl => Mine.fn_cdata (n := m) (doc := _) (pm := _) (cdv := _) (ct := _) ⟨⟨_, rfl, rfl⟩, rfl, rfl, rfl, rfl, rfl, rfl, rfl, rfl⟩ l hl) rfl rfl 63 its hs hs.len.2)
    rfl rfl (fun its hs => Mine.fn_items (n := 14) (doc := _) (pm := _) (cdv := _) (ct := _) ⟨⟨_, rfl, rfl⟩, rfl, rfl, rfl, rfl, rfl, rfl, rfl, rfl⟩ rfl rfl rfl (fun m u hu he => Mine.fn_read5 (n := m) (doc := _) (pm := _) (cdv := _) (ct := _) ⟨⟨_, rfl, rfl⟩, rfl, rfl, rfl, rfl, rfl, rfl, rfl, rfl⟩ u hu he) rfl rfl 63 its hs hs.len.2)
    _ (by omega)
