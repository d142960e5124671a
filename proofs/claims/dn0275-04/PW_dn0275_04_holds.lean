import PyProof.Rows.All
import Wide.All
import OpenK.AllK
import Wide.FinOn
import PySem.Challenge.RW_dn0275_04
set_option Elab.async false
section
open PySem PySem.W PyProof.Rows
namespace Mine

/-- plain Python data -/
inductive D where
  | none
  | bool (b : Bool)
  | int (i : Int)
  | str (x : Str)
  | list (ds : List D)
  | tup (ds : List D)
  | dict (ks : List Str) (ds : List D)
  | fn (a : Addr)
  | rng (a b : Int)
  | slc (lo hi : Option Int)
  | bytes (b : Array UInt8)
  | fstr (x : Str)
  | ostr (x : Str)

abbrev Zf := Addr → Option Obj

/-- what is fixed while the law runs -/
structure Gnd where
  prog : Program
  w : World
  K : Frag
  p : Program
  loose : List Str
  mg : Str → Option Value
  mb : Str → Option Value
  base : Heap
  os : OsState
  X : K.In base
  T : TopRead p loose mg mb base
  nb : NoneBooked base
  t0 : Nat

mutual
/-- the value v is the datum d, as the frozen objects Z tell it -/
inductive Rep (G : Gnd) (Z : Zf) : Value → D → Prop
  | none : Rep G Z .none .none
  | bool (b : Bool) : Rep G Z (.bool b) (.bool b)
  | int (i : Int) (t : Tok) : Rep G Z (.int i t) (.int i)
  | str (x : Str) (t : Tok) : Rep G Z (.str x t) (.str x)
  | list {a : Addr} {vs : List Value} {n : Nat} {ds : List D} : Z a = some (listOf vs.toArray n) → RepAll G Z vs ds → Rep G Z (.ref a) (.list ds)
  | tup {a : Addr} {vs : List Value} {n : Nat} {ds : List D} : Z a = some { cls := .type "tuple", data := .seq vs.toArray n } → RepAll G Z vs ds → Rep G Z (.ref a) (.tup ds)
  | dict {a : Addr} {o : Obj} {kvs : List (Str × Value)} {ds : List D} : Z a = some o → (a == sysModules) = false → o.IsDictOf (strKind G.prog G.w) kvs →
      RepAll G Z (kvs.map (·.2)) ds → Rep G Z (.ref a) (.dict (kvs.map (·.1)) ds)
  | fn (a : Addr) : Rep G Z (.ref a) (.fn a)
  | rng {x : Addr} {a b : Int} {t u v : Tok} : Z x = some { cls := .type "range", data := .fields #[.int a t, .int b u, .int 1 v] } → Rep G Z (.ref x) (.rng a b)
  | slc {x : Addr} {vl vu : Value} {lo hi : Option Int} : Z x = some { cls := .type "slice", data := .fields #[vl, vu, .none] } → IsPart vl lo → IsPart vu hi → Rep G Z (.ref x) (.slc lo hi)
  | bytes (b : Array UInt8) (t : Tok) : Rep G Z (.bytes b t) (.bytes b)
  | fstr (x : Str) (t : Tok) : G.t0 < t → Rep G Z (.str x t) (.fstr x)
  | ostr (x : Str) (t : Tok) : 0 < t → t ≤ G.t0 → Rep G Z (.str x t) (.ostr x)
inductive RepAll (G : Gnd) (Z : Zf) : List Value → List D → Prop
  | nil : RepAll G Z [] []
  | cons {v : Value} {vs : List Value} {d : D} {ds : List D} : Rep G Z v d → RepAll G Z vs ds → RepAll G Z (v :: vs) (d :: ds)
end

def Zle (Z Z' : Zf) : Prop := ∀ a o, Z a = some o → Z' a = some o
theorem Zle.same {Z : Zf} : Zle Z Z := fun _ _ h => h
theorem Zle.trans {Z Z' Z'' : Zf} (a : Zle Z Z') (b : Zle Z' Z'') : Zle Z Z'' := fun x o h => b x o (a x o h)

mutual
theorem Rep.mono {G : Gnd} {Z Z' : Zf} (hz : Zle Z Z') : ∀ {v : Value} {d : D}, Rep G Z v d → Rep G Z' v d
  | _, _, .none => .none
  | _, _, .bool b => .bool b
  | _, _, .int i t => .int i t
  | _, _, .str x t => .str x t
  | _, _, .list h r => .list (hz _ _ h) (RepAll.mono hz r)
  | _, _, .tup h r => .tup (hz _ _ h) (RepAll.mono hz r)
  | _, _, .dict h hs hd r => .dict (hz _ _ h) hs hd (RepAll.mono hz r)
  | _, _, .fn a => .fn a
  | _, _, .rng h => .rng (hz _ _ h)
  | _, _, .slc h p q => .slc (hz _ _ h) p q
  | _, _, .bytes b t => .bytes b t
  | _, _, .fstr x t h => .fstr x t h
  | _, _, .ostr x t h h' => .ostr x t h h'
theorem RepAll.mono {G : Gnd} {Z Z' : Zf} (hz : Zle Z Z') : ∀ {vs : List Value} {ds : List D}, RepAll G Z vs ds → RepAll G Z' vs ds
  | _, _, .nil => .nil
  | _, _, .cons h r => .cons (Rep.mono hz h) (RepAll.mono hz r)
end

section
variable {G : Gnd} {Z : Zf}
theorem RepAll.length : ∀ {vs : List Value} {ds : List D}, RepAll G Z vs ds → vs.length = ds.length
  | _, _, .nil => rfl
  | _, _, .cons _ r => by rw [List.length_cons, List.length_cons, RepAll.length r]
theorem RepAll.append : ∀ {vs ws : List Value} {ds es : List D}, RepAll G Z vs ds → RepAll G Z ws es → RepAll G Z (vs ++ ws) (ds ++ es)
  | _, _, _, _, .nil, k => k
  | _, _, _, _, .cons h r, k => .cons h (RepAll.append r k)
theorem RepAll.get : ∀ {vs : List Value} {ds : List D}, RepAll G Z vs ds → ∀ {i : Nat} {d : D}, ds[i]? = some d → ∃ v, vs[i]? = some v ∧ Rep G Z v d
  | _, _, .nil, _, _, h => by simp at h
  | _, _, .cons h r, 0, _, e => by simp at e; subst e; exact ⟨_, rfl, h⟩
  | _, _, .cons _ r, i + 1, _, e => by simp at e; simpa using RepAll.get r e
theorem RepAll.drop : ∀ {vs : List Value} {ds : List D}, RepAll G Z vs ds → ∀ n, RepAll G Z (vs.drop n) (ds.drop n)
  | _, _, r, 0 => by simpa using r
  | _, _, .nil, _ + 1 => .nil
  | _, _, .cons _ r, n + 1 => by simpa using RepAll.drop r n
theorem RepAll.take : ∀ {vs : List Value} {ds : List D}, RepAll G Z vs ds → ∀ n, RepAll G Z (vs.take n) (ds.take n)
  | _, _, _, 0 => by simpa using RepAll.nil
  | _, _, .nil, _ + 1 => .nil
  | _, _, .cons h r, n + 1 => by simpa using RepAll.cons h (RepAll.take r n)
end

/-- from Z, s to Z', s': nothing that stood is changed, what is newly frozen is new -/
structure Ext (Z : Zf) (s : Shared) (Z' : Zf) (s' : Shared) : Prop where
  le : Zle Z Z'
  keep : ∀ a o, s.heap.get? a = some o → s'.heap.get? a = some o
  zin : ∀ a o, Z' a = some o → s'.heap.get? a = some o
  new : ∀ a o, Z' a = some o → Z a = some o ∨ s.heap.get? a = none
  gens : s'.gens = s.gens
  os : s'.os = s.os
  tk : s.toks ≤ s'.toks

theorem Ext.same {Z : Zf} {s : Shared} (hz : ∀ a o, Z a = some o → s.heap.get? a = some o) : Ext Z s Z s := ⟨Zle.same, fun _ _ h => h, hz, fun _ _ h => .inl h, Eq.refl _, Eq.refl _, Nat.le_refl _⟩
theorem Ext.tok {Z : Zf} {s : Shared} (hz : ∀ a o, Z a = some o → s.heap.get? a = some o) {t : Nat} (ht : s.toks ≤ t) : Ext Z s Z { s with toks := t } := ⟨Zle.same, fun _ _ h => h, hz, fun _ _ h => .inl h, Eq.refl _, Eq.refl _, ht⟩
theorem Ext.trans {Z Z' Z'' : Zf} {s s' s'' : Shared} (x : Ext Z s Z' s') (y : Ext Z' s' Z'' s'') : Ext Z s Z'' s'' where
  le := x.le.trans y.le
  keep := fun a o h => y.keep a o (x.keep a o h)
  zin := y.zin
  new := fun a o h => by
    rcases y.new a o h with h | h
    · exact x.new a o h
    · cases q : s.heap.get? a with
      | none => exact .inr (Eq.refl _)
      | some ob => rw [x.keep a ob q] at h; cases h
  gens := y.gens.trans x.gens
  os := y.os.trans x.os
  tk := Nat.le_trans x.tk y.tk
/-- only the heap's keeping counts: Z stays -/
theorem Ext.back {Z Z₁ Z' : Zf} {s s' : Shared} (x : Ext Z₁ s Z' s') (hz : ∀ a o, Z a = some o → s.heap.get? a = some o) : Ext Z s Z s' :=
  ⟨Zle.same, x.keep, fun a o h => x.keep a o (hz a o h), fun _ _ h => .inl h, x.gens, x.os, x.tk⟩

def Zadd (Z : Zf) (a : Addr) (o : Obj) : Zf := fun b => if b = a then some o else Z b
theorem Zadd.self {Z : Zf} {a : Addr} {o : Obj} : Zadd Z a o a = some o := if_pos rfl
theorem Zadd.le {Z : Zf} {a : Addr} {o : Obj} (h : Z a = none) : Zle Z (Zadd Z a o) := fun b ob e => by
  unfold Zadd
  by_cases q : b = a
  · subst q; rw [h] at e; cases e
  · rw [if_neg q]; exact e

theorem get?_size_none (h : Heap) : h.get? h.objs.size = none := by
  cases q : h.get? h.objs.size with
  | none => rfl
  | some o => exact absurd (Heap.lt_size q) (Nat.lt_irrefl _)

/-- a new object, frozen at once -/
theorem Ext.alloc {Z : Zf} {s : Shared} {o : Obj} {t : Nat} (hz : ∀ a o, Z a = some o → s.heap.get? a = some o) (hf : o.isFreed = false) (ht : s.toks ≤ t) :
    Ext Z s (Zadd Z s.heap.objs.size o) { s with heap := s.heap.push o, toks := t } where
  le := Zadd.le (by
    cases q : Z s.heap.objs.size with
    | none => rfl
    | some ob => exact absurd (hz _ _ q) (by rw [get?_size_none]; intro h; cases h))
  keep := fun a ob h => Heap.get?_push_of_some _ h
  zin := fun a ob h => by
    unfold Zadd at h
    by_cases q : a = s.heap.objs.size
    · subst q; rw [if_pos rfl] at h; cases h; exact Heap.get?_push_size _ hf
    · rw [if_neg q] at h; exact Heap.get?_push_of_some _ (hz _ _ h)
  new := fun a ob h => by
    unfold Zadd at h
    by_cases q : a = s.heap.objs.size
    · subst q; exact .inr (get?_size_none _)
    · rw [if_neg q] at h; exact .inl h
  gens := rfl
  os := rfl
  tk := ht

end Mine
end
section
open PySem PySem.W PyProof.Rows
namespace Mine

/-- what a name stands for: a datum, or a list that the frame alone holds -/
inductive B where
  | val (d : D)
  | own (ds : List D)

abbrev Loc := List (Str × B)

abbrev upd (ρ : Loc) (x : Str) (b : B) : Loc := (x, b) :: ρ

theorem lookup_upd (ρ : Loc) (x z : Str) (b : B) : (upd ρ x b).lookup z = if z = x then some b else ρ.lookup z := by
  show List.lookup z ((x, b) :: ρ) = _
  rw [List.lookup_cons]
  by_cases h : z = x
  · rw [beq_iff_eq.mpr h, if_pos h]
  · rw [beq_eq_false_iff_ne.mpr h, if_neg h]

def Has (env : Env) (h : Heap) (x : Str) (v : Value) : Prop :=
  (env.kindOf x = some .local ∧ ∃ m, h.Ns env.locals m ∧ m x = some v) ∨
  ((env.kindOf x = some .cell ∨ (env.kindOf x = some .free ∧ (x == ("__classdict__" : Str)) = false)) ∧ ∃ c, env.cells.lookup x = some c ∧ h.IsCell c (some v))

theorem Has.keeps {env : Env} {h h' : Heap} {x : Str} {v : Value} (H : Has env h x v) (hk : ∀ b o, h.get? b = some o → h'.get? b = some o) : Has env h' x v := by
  rcases H with ⟨k, m, n, e⟩ | ⟨k, c, e, n⟩
  · exact .inl ⟨k, m, n.keeps hk, e⟩
  · exact .inr ⟨k, c, e, n.keeps hk⟩

theorem ns_uniq {h : Heap} {a : Addr} {m m' : Str → Option Value} (x : h.Ns a m) (y : h.Ns a m') : m = m' := by
  obtain ⟨o, es, ep, ho, hd, hk, hf⟩ := x
  obtain ⟨o', es', ep', ho', hd', hk', hf'⟩ := y
  rw [ho] at ho'; cases ho'
  rw [hd] at hd'; cases hd'
  funext n
  rw [← hf, ← hf']

/-- the state, as the frame sees it -/
structure St (G : Gnd) (env : Env) (Z H : Zf) (ρ : Loc) (s : Shared) : Prop where
  fk : env.scope.kind = .function
  gl : env.globals = mainGlobals
  bl : env.builtins = builtinsNs
  gens : s.gens = #[]
  os : s.os = G.os
  tk : G.t0 < s.toks
  zin : ∀ a o, Z a = some o → s.heap.get? a = some o
  hin : ∀ a o, H a = some o → s.heap.get? a = some o
  dj : ∀ a o, Z a = some o → H a = none
  bas : ∀ a o, G.base.get? a = some o → Z a = some o ∨ H a = some o
  ns : ∃ m, s.heap.Ns env.locals m
  lz : Z env.locals = none
  lh : H env.locals = none
  cells : ∀ x c, env.cells.lookup x = some c → c ≠ env.locals ∧ (env.func.isSome = true → Z c = none ∧ H c = none ∧ ∃ v, s.heap.IsCell c v) ∧ (env.func.isSome = false → ∃ o, H c = some o)
  inj : ∀ x y c, env.cells.lookup x = some c → env.cells.lookup y = some c → x = y
  vars : ∀ x d, ρ.lookup x = some (.val d) → ∃ v, Has env s.heap x v ∧ Rep G Z v d
  owns : ∃ oa : Str → Addr, (∀ x y ds es, ρ.lookup x = some (.own ds) → ρ.lookup y = some (.own es) → oa x = oa y → x = y) ∧
    ∀ x ds, ρ.lookup x = some (.own ds) → Has env s.heap x (.ref (oa x)) ∧ Z (oa x) = none ∧ H (oa x) = none ∧ oa x ≠ env.locals ∧ (∀ y c, env.cells.lookup y = some c → oa x ≠ c) ∧
      ∃ vs n, s.heap.get? (oa x) = some (listOf vs.toArray n) ∧ RepAll G Z vs ds

section
variable {G : Gnd} {env : Env} {Z Z' H : Zf} {ρ : Loc} {s s' : Shared}

theorem St.keepBase (S : St G env Z H ρ s) : ∀ a o, G.base.get? a = some o → s.heap.get? a = some o := fun a o h =>
  (S.bas a o h).elim (S.zin a o) (S.hin a o)
theorem St.X (S : St G env Z H ρ s) : G.K.In s.heap := fun a o h => S.keepBase a o (G.X a o h)
theorem St.T (S : St G env Z H ρ s) : TopRead G.p G.loose G.mg G.mb s.heap := G.T.keeps S.keepBase

theorem ext_none {a : Addr} (x : Ext Z s Z' s') (hz : Z a = none) (ho : ∃ o, s.heap.get? a = some o) : Z' a = none := by
  cases q : Z' a with
  | none => rfl
  | some o =>
    rcases x.new a o q with h | h
    · rw [hz] at h; cases h
    · obtain ⟨ob, e⟩ := ho; rw [h] at e; cases e

theorem St.ext (S : St G env Z H ρ s) (x : Ext Z s Z' s') : St G env Z' H ρ s' where
  fk := S.fk
  gl := S.gl
  bl := S.bl
  gens := x.gens.trans S.gens
  os := x.os.trans S.os
  tk := Nat.lt_of_lt_of_le S.tk x.tk
  zin := x.zin
  hin := fun a o h => x.keep a o (S.hin a o h)
  dj := fun a o h => by
    rcases x.new a o h with h | h
    · exact S.dj a o h
    · cases q : H a with
      | none => rfl
      | some ob => rw [S.hin a ob q] at h; cases h
  bas := fun a o h => (S.bas a o h).elim (fun h => .inl (x.le a o h)) .inr
  ns := let ⟨m, n⟩ := S.ns; ⟨m, n.keeps x.keep⟩
  lz := ext_none x S.lz (let ⟨_, o, _, _, h, _⟩ := S.ns; ⟨o, h⟩)
  lh := S.lh
  cells := fun y c e => by
    obtain ⟨hl, h⟩ := S.cells y c e
    refine ⟨hl, fun hf => ?_, h.2⟩
    obtain ⟨h1, h2, v, h3⟩ := h.1 hf
    exact ⟨ext_none x h1 (let ⟨o, ho, _⟩ := h3; ⟨o, ho⟩), h2, v, h3.keeps x.keep⟩
  inj := S.inj
  vars := fun y d e => by
    obtain ⟨v, h, r⟩ := S.vars y d e
    exact ⟨v, h.keeps x.keep, r.mono x.le⟩
  owns := by
    obtain ⟨oa, hi, h⟩ := S.owns
    refine ⟨oa, hi, fun y ds e => ?_⟩
    obtain ⟨h1, h2, h3, h4, h5, vs, n, h6, h7⟩ := h y ds e
    exact ⟨h1.keeps x.keep, ext_none x h2 ⟨_, h6⟩, h3, h4, h5, vs, n, x.keep _ _ h6, h7.mono x.le⟩

theorem St.same (S : St G env Z H ρ s) : Ext Z s Z s := Ext.same S.zin

/-- the tree t ends in the datum d, and changes nothing that stood -/
def Yields (G : Gnd) (A : Around) (t : Sem Value) (Z : Zf) (d : D) (s : Shared) : Prop :=
  wpAny (model G.prog G.w) A t (fun v s' => ∃ Z', Ext Z s Z' s' ∧ Rep G Z' v d) (fun _ _ => False) s

/-- room for n more frames -/
structure Room (n : Nat) (A : Around) : Prop where
  handled : A.handled = none
  depth : A.depth + n < recursionLimit
  units : A.units + 8 * n < cLine
  guards : A.guards = some []
theorem Room.in1 {n : Nat} {A : Around} (r : Room (n + 1) A) : Room n A.in1 := ⟨r.handled, by have := r.depth; show A.depth + n < _; omega, by have := r.units; show A.units + 1 + 8 * n < _; omega, r.guards⟩
theorem Room.deeper {n : Nat} {A : Around} {env : Env} (r : Room (n + 1) A) : Room n (A.deeper env) := ⟨r.handled, by have := r.depth; show A.depth + 1 + n < _; omega, by have := r.units; show A.units + 3 + 8 * n < _; omega, r.guards⟩
theorem Room.less {n m : Nat} {A : Around} (r : Room n A) (h : m ≤ n) : Room m A := ⟨r.handled, by have := r.depth; omega, by have := r.units; omega, r.guards⟩

/-- the expression e is the datum d where the names are ρ -/
structure Ev (G : Gnd) (env : Env) (n : Nat) (ρ : Loc) (e : PySem.Expr) (d : D) : Prop where
  run : ∀ A Z H s, Room n A → St G env Z H ρ s → Yields G A (eval e env) Z d s

/-- a test -/
structure Tst (G : Gnd) (env : Env) (n : Nat) (ρ : Loc) (e : PySem.Expr) (b : Bool) : Prop where
  run : ∀ A Z H s, Room n A → St G env Z H ρ s → wpAny (model G.prog G.w) A (isTrue e env (eval e env)) (fun b' s' => b' = b ∧ Ext Z s Z s') (fun _ _ => False) s

variable {A : Around} {E : Value → Shared → Prop} {n : Nat}

theorem wp_seq {α : Type} {M : Model} {t : Sem α} {P Q : α → Shared → Prop} (h : wpAny M A t P (fun _ _ => False) s) (hq : ∀ v s', P v s' → Q v s') : wpAny M A t Q E s :=
  wpAny_mono h hq fun _ _ x => x.elim

/-- tokens only grow -/
theorem wp_tok {α : Type} {M : Model} {t : Sem α} {Q : α → Shared → Prop} (h : wpAny M A t (fun a s' => s.toks ≤ s'.toks → Q a s') (fun _ _ => False) s) : wpAny M A t Q (fun _ _ => False) s :=
  wpAny_with_toks (Nat.le_refl _) (wpAny_mono h (fun _ _ x => x) fun _ _ x => x.elim)

/-- a name -/
theorem ev_name {x : Str} {pos : Pos} {d : D} (h : ρ.lookup x = some (.val d)) (hd : (x == ("__debug__" : Str)) = false) : Ev G env n ρ (.Name x pos) d := by
  constructor
  intro A Z H s _ S
  obtain ⟨v, hv, r⟩ := S.vars x d h
  refine wpAny_Name ?_ hd
  rcases hv with ⟨k, m, n, e⟩ | ⟨k, c, e, n⟩
  · exact wpAny_loadName_local S.fk k n e ⟨Z, S.same, r⟩
  · rcases k with k | k
    · exact wpAny_loadName_cell S.fk k e n ⟨Z, S.same, r⟩
    · exact wpAny_loadName_free S.fk k.1 e n ⟨Z, S.same, r⟩ k.2

end
end Mine
end
section
open PySem PySem.W PyProof.Rows
namespace Mine

section
variable {G : Gnd} {env : Env} {Z Z' H : Zf} {ρ ρ' : Loc} {s s' : Shared} {A : Around} {E : Value → Shared → Prop}

theorem Has.store_local {h h' : Heap} {x y : Str} {v u : Value} {m : Str → Option Value} (hn : h.Ns env.locals m) (hn' : h'.Ns env.locals (fun y => if y = x then some v else m y))
    (hs : Heap.SameBut env.locals h h') (hcl : ∀ y c, env.cells.lookup y = some c → c ≠ env.locals) (hy : y ≠ x) (q : Has env h y u) : Has env h' y u := by
  rcases q with ⟨k, m₂, n, e⟩ | ⟨k, c, e, n⟩
  · rw [ns_uniq n hn] at e
    exact .inl ⟨k, _, hn', by simpa [hy] using e⟩
  · exact .inr ⟨k, c, e, n.sameBut hs (hcl y c e)⟩

theorem Has.store_cell {h h' : Heap} {x y : Str} {u : Value} {c : Addr} (hs : Heap.SameBut c h h') (hc : env.cells.lookup x = some c)
    (inj : ∀ x y c, env.cells.lookup x = some c → env.cells.lookup y = some c → x = y) (hcl : c ≠ env.locals) (hy : y ≠ x) (q : Has env h y u) : Has env h' y u := by
  rcases q with ⟨k, m₂, n, e⟩ | ⟨k, c', e, n⟩
  · exact .inl ⟨k, m₂, n.sameBut hs (Ne.symm hcl), e⟩
  · exact .inr ⟨k, c', e, n.sameBut hs fun q => hy (inj y x c (q ▸ e) hc)⟩

/-- a change at an address that is neither frozen nor held -/
theorem St.put (S : St G env Z H ρ s) {a : Addr} {h' : Heap} {t : Nat} (ht : s.toks ≤ t) (hs : Heap.SameBut a s.heap h') (hz : Z a = none) (hh : H a = none) (hns : ∃ m, h'.Ns env.locals m)
    (hce : ∀ y c, env.cells.lookup y = some c → env.func.isSome = true → ∃ v, h'.IsCell c v)
    (hvars : ∀ y d, ρ'.lookup y = some (.val d) → ∃ v, Has env h' y v ∧ Rep G Z v d)
    (howns : ∃ oa : Str → Addr, (∀ x y ds es, ρ'.lookup x = some (.own ds) → ρ'.lookup y = some (.own es) → oa x = oa y → x = y) ∧
      ∀ x ds, ρ'.lookup x = some (.own ds) → Has env h' x (.ref (oa x)) ∧ Z (oa x) = none ∧ H (oa x) = none ∧ oa x ≠ env.locals ∧ (∀ y c, env.cells.lookup y = some c → oa x ≠ c) ∧
        ∃ vs n, h'.get? (oa x) = some (listOf vs.toArray n) ∧ RepAll G Z vs ds) :
    St G env Z H ρ' { s with heap := h', toks := t } where
  fk := S.fk
  gl := S.gl
  bl := S.bl
  gens := S.gens
  os := S.os
  tk := Nat.lt_of_lt_of_le S.tk ht
  zin := fun b o h => (hs.2 b fun q => by rw [q, hz] at h; cases h).trans (S.zin b o h)
  hin := fun b o h => (hs.2 b fun q => by rw [q, hh] at h; cases h).trans (S.hin b o h)
  dj := S.dj
  bas := S.bas
  ns := hns
  lz := S.lz
  lh := S.lh
  cells := fun y c e => by
    obtain ⟨hl, h⟩ := S.cells y c e
    refine ⟨hl, fun hf => ?_, h.2⟩
    obtain ⟨h1, h2, _⟩ := h.1 hf
    exact ⟨h1, h2, hce y c e hf⟩
  inj := S.inj
  vars := hvars
  owns := howns

/-- where a name may be stored -/
def Can (env : Env) (x : Str) : Prop := env.kindOf x = some .local ∨ (env.kindOf x = some .cell ∧ env.func.isSome = true ∧ ∃ c, env.cells.lookup x = some c)

/-- the heaps behind a store of x: all other names stand -/
theorem wp_storeName {x : Str} {v : Value} {Q : Unit → Shared → Prop} (S : St G env Z H ρ s) (hc : Can env x)
    (h : ∀ a h' t, s.toks ≤ t → Z a = none → H a = none → Heap.SameBut a s.heap h' → (∃ m, h'.Ns env.locals m) → (∀ y c, env.cells.lookup y = some c → env.func.isSome = true → ∃ v, h'.IsCell c v) →
      Has env h' x v → (∀ y u, y ≠ x → Has env s.heap y u → Has env h' y u) → (∀ b, s.heap.get? b ≠ none → b ≠ env.locals → (∀ y c, env.cells.lookup y = some c → b ≠ c) → b ≠ a) → Q () { s with heap := h', toks := t }) :
    wpAny (model G.prog G.w) A (storeName env x v) Q E s := by
  rcases hc with k | ⟨k, hf, c, e⟩
  · obtain ⟨m, hn⟩ := S.ns
    refine wpAny_storeName_local k hn (fun h' hn' hs => ?_) (by rw [S.fk]; rfl)
    refine h env.locals h' _ (Nat.le_succ _) S.lz S.lh hs ⟨_, hn'⟩ (fun y c e hf => ?_) (.inl ⟨k, _, hn', by simp⟩) (fun y u hy q => q.store_local hn hn' hs (fun y c e => (S.cells y c e).1) hy) fun b _ hb _ => hb
    obtain ⟨hl, h1, _⟩ := S.cells y c e
    obtain ⟨_, _, v', hv⟩ := h1 hf
    exact ⟨v', hv.sameBut hs hl⟩
  · obtain ⟨hl, h1, _⟩ := S.cells x c e
    obtain ⟨hz, hh, v₀, hv⟩ := h1 hf
    refine wpAny_storeName_cell S.fk k e hv fun h' hv' hs => ?_
    refine h c h' s.toks (Nat.le_refl _) hz hh hs (let ⟨m, hn⟩ := S.ns; ⟨m, hn.sameBut hs (Ne.symm hl)⟩) (fun y c' e' hf' => ?_) (.inr ⟨.inl k, c, e, hv'⟩) (fun y u hy q => q.store_cell hs e S.inj hl hy) fun b _ _ hb => hb x c e
    by_cases q : c' = c
    · subst q; exact ⟨_, hv'⟩
    · obtain ⟨_, h2, _⟩ := S.cells y c' e'
      obtain ⟨_, _, v', hv''⟩ := h2 hf'
      exact ⟨v', hv''.sameBut hs q⟩

theorem st_store {x : Str} {v : Value} {d : D} (S : St G env Z H ρ s) (r : Rep G Z v d) (hc : Can env x) :
    wpAny (model G.prog G.w) A (storeName env x v) (fun _ s' => St G env Z H (upd ρ x (.val d)) s') E s := by
  refine wp_storeName S hc fun a h' t ht hz hh hs hns hce hx hy hb => S.put ht hs hz hh hns hce ?_ ?_
  · intro y d' e
    rw [lookup_upd] at e
    by_cases q : y = x
    · subst q; rw [if_pos rfl] at e; cases e; exact ⟨v, hx, r⟩
    · rw [if_neg q] at e
      obtain ⟨u, hu, ru⟩ := S.vars y d' e
      exact ⟨u, hy y u q hu, ru⟩
  · obtain ⟨oa, hi, ho⟩ := S.owns
    have old : ∀ y ds, (upd ρ x (.val d)).lookup y = some (.own ds) → y ≠ x ∧ ρ.lookup y = some (.own ds) := fun y ds e => by
      rw [lookup_upd] at e
      by_cases q : y = x
      · rw [if_pos q] at e; cases e
      · rw [if_neg q] at e; exact ⟨q, e⟩
    refine ⟨oa, fun y z ds es ey ez => hi y z ds es (old y ds ey).2 (old z es ez).2, fun y ds e => ?_⟩
    obtain ⟨q, e⟩ := old y ds e
    obtain ⟨h1, h2, h3, h4, h5, vs, n, h6, h7⟩ := ho y ds e
    exact ⟨hy y _ q h1, h2, h3, h4, h5, vs, n, (hs.2 _ (hb _ (by rw [h6]; intro z; cases z) h4 h5)).trans h6, h7⟩

/-- a list that none but the frame holds is stored -/
theorem st_storeOwn {x : Str} {a : Addr} {vs : List Value} {n : Nat} {ds : List D} (S : St G env Z H ρ s) (hz : Z a = none) (hh : H a = none) (hl : a ≠ env.locals)
    (hcs : ∀ y c, env.cells.lookup y = some c → a ≠ c) (hoa : ∀ y es v, ρ.lookup y = some (.own es) → Has env s.heap y v → v ≠ .ref a) (ho : s.heap.get? a = some (listOf vs.toArray n)) (r : RepAll G Z vs ds)
    (hc : Can env x) :
    wpAny (model G.prog G.w) A (storeName env x (.ref a)) (fun _ s' => St G env Z H (upd ρ x (.own ds)) s') E s := by
  refine wp_storeName S hc fun b h' t ht hz' hh' hs hns hce hx hy hb => S.put ht hs hz' hh' hns hce ?_ ?_
  · intro y d' e
    rw [lookup_upd] at e
    by_cases q : y = x
    · subst q; rw [if_pos rfl] at e; cases e
    · rw [if_neg q] at e
      obtain ⟨u, hu, ru⟩ := S.vars y d' e
      exact ⟨u, hy y u q hu, ru⟩
  · obtain ⟨oa, hi, ho'⟩ := S.owns
    have old : ∀ y es, y ≠ x → (upd ρ x (.own ds)).lookup y = some (.own es) → ρ.lookup y = some (.own es) := fun y es q e => by
      rw [lookup_upd, if_neg q] at e; exact e
    refine ⟨fun y => if y = x then a else oa y, fun y z es es' ey ez q => ?_, fun y es e => ?_⟩
    · by_cases hy : y = x <;> by_cases hz : z = x
      · rw [hy, hz]
      · simp only [hy, hz, if_true, if_false] at q
        exact absurd rfl (q ▸ hoa z _ _ (old z _ hz ez) (ho' z _ (old z _ hz ez)).1)
      · simp only [hy, hz, if_true, if_false] at q
        exact absurd (by rw [q]) (hoa y _ _ (old y _ hy ey) (ho' y _ (old y _ hy ey)).1)
      · simp only [hy, hz, if_false] at q
        exact hi y z _ _ (old y _ hy ey) (old z _ hz ez) q
    · by_cases q : y = x
      · subst q
        rw [lookup_upd, if_pos rfl] at e; cases e
        simp only [if_true]
        exact ⟨hx, hz, hh, hl, hcs, vs, n, (hs.2 _ (hb _ (by rw [ho]; intro z; cases z) hl hcs)).trans ho, r⟩
      · simp only [q, if_false]
        obtain ⟨h1, h2, h3, h4, h5, vs, n, h6, h7⟩ := ho' y es (old y es q e)
        exact ⟨hy y _ q h1, h2, h3, h4, h5, vs, n, (hs.2 _ (hb _ (by rw [h6]; intro z; cases z) h4 h5)).trans h6, h7⟩

/-- an owned list is frozen -/
theorem St.freeze {x : Str} {ds : List D} (S : St G env Z H ρ s) (hx : ρ.lookup x = some (.own ds)) : ∃ Z', Zle Z Z' ∧ St G env Z' H (upd ρ x (.val (.list ds))) s ∧
    (∀ a o, Z' a = some o → Z a = some o ∨ ∃ v, Has env s.heap x v ∧ v = .ref a) := by
  obtain ⟨oa, hi, ho⟩ := S.owns
  obtain ⟨h1, h2, h3, h4, h5, vs, n, h6, h7⟩ := ho x ds hx
  have le : Zle Z (Zadd Z (oa x) (listOf vs.toArray n)) := Zadd.le h2
  have ne : ∀ b, b ≠ oa x → Zadd Z (oa x) (listOf vs.toArray n) b = Z b := fun b hb => if_neg hb
  refine ⟨Zadd Z (oa x) (listOf vs.toArray n), le, ?_, ?_⟩
  · refine ⟨S.fk, S.gl, S.bl, S.gens, S.os, S.tk, fun b o e => ?_, S.hin, fun b o e => ?_, fun b o e => (S.bas b o e).elim (fun h => .inl (le _ _ h)) .inr, S.ns, ?_, S.lh, fun y c e => ?_, S.inj, fun y d e => ?_, ?_⟩
    · by_cases q : b = oa x
      · subst q; rw [Zadd.self] at e; cases e; exact h6
      · rw [ne b q] at e; exact S.zin b o e
    · by_cases q : b = oa x
      · subst q; exact h3
      · rw [ne b q] at e; exact S.dj b o e
    · rw [ne _ (Ne.symm h4)]; exact S.lz
    · obtain ⟨hl, h, h'⟩ := S.cells y c e
      refine ⟨hl, fun hf => ?_, h'⟩
      obtain ⟨g1, g2⟩ := h hf
      exact ⟨by rw [ne _ (Ne.symm (h5 y c e))]; exact g1, g2⟩
    · rw [lookup_upd] at e
      by_cases q : y = x
      · subst q; rw [if_pos rfl] at e; cases e
        exact ⟨_, h1, .list Zadd.self (h7.mono le)⟩
      · rw [if_neg q] at e
        obtain ⟨u, hu, ru⟩ := S.vars y d e
        exact ⟨u, hu, ru.mono le⟩
    · have old : ∀ y es, (upd ρ x (.val (.list ds))).lookup y = some (.own es) → y ≠ x ∧ ρ.lookup y = some (.own es) := fun y es e => by
        rw [lookup_upd] at e
        by_cases q : y = x
        · rw [if_pos q] at e; cases e
        · rw [if_neg q] at e; exact ⟨q, e⟩
      refine ⟨oa, fun y z es es' ey ez => hi y z es es' (old y es ey).2 (old z es' ez).2, fun y es e => ?_⟩
      obtain ⟨q, e⟩ := old y es e
      obtain ⟨g1, g2, g3, g4, g5, vs', n', g6, g7⟩ := ho y es e
      exact ⟨g1, by rw [ne _ fun z => q (hi y x _ _ e hx z)]; exact g2, g3, g4, g5, vs', n', g6, g7.mono le⟩
  · intro b o e
    by_cases q : b = oa x
    · subst q; exact .inr ⟨_, h1, rfl⟩
    · rw [ne b q] at e; exact .inl e

end
end Mine
end
section
open PySem PySem.W PyProof.Rows
set_option linter.unusedVariables false
namespace Mine

/-- the state, as a callee sees it -/
structure Bs (G : Gnd) (Z : Zf) (s : Shared) : Prop where
  gens : s.gens = #[]
  os : s.os = G.os
  tk : G.t0 < s.toks
  zin : ∀ a o, Z a = some o → s.heap.get? a = some o
  bas : ∀ a o, G.base.get? a = some o → s.heap.get? a = some o

section
variable {G : Gnd} {env : Env} {Z Z' H : Zf} {ρ ρ' : Loc} {s s' : Shared} {A : Around} {E : Value → Shared → Prop} {n : Nat} {pos apos : Pos}

theorem St.bs (S : St G env Z H ρ s) : Bs G Z s := ⟨S.gens, S.os, S.tk, S.zin, S.keepBase⟩
theorem Bs.ext (b : Bs G Z s) (x : Ext Z s Z' s') : Bs G Z' s' := ⟨x.gens.trans b.gens, x.os.trans b.os, Nat.lt_of_lt_of_le b.tk x.tk, x.zin, fun a o h => x.keep a o (b.bas a o h)⟩
theorem Bs.X (b : Bs G Z s) : G.K.In s.heap := fun a o h => b.bas a o (G.X a o h)
theorem Bs.T (b : Bs G Z s) : TopRead G.p G.loose G.mg G.mb s.heap := G.T.keeps b.bas
theorem Bs.nb (b : Bs G Z s) : NoneBooked s.heap := let ⟨mc, h, e⟩ := G.nb; ⟨mc, h.keeps b.bas, e⟩
theorem Bs.same (b : Bs G Z s) : Ext Z s Z s := Ext.same b.zin
theorem Bs.nolimit (b : Bs G Z s) : s.heap.NoLimit := b.T.nolimit

structure Op2 (G : Gnd) (f : Value → Value → Sem Value) (d₁ d₂ d : D) : Prop where
  run : ∀ A Z s v₁ v₂, Room 0 A → Bs G Z s → Rep G Z v₁ d₁ → Rep G Z v₂ d₂ → Yields G A (f v₁ v₂) Z d s
/-- a built-in function, or a method with its object ahead -/
structure BF (G : Gnd) (id : String) (ds : List D) (d : D) : Prop where
  run : ∀ A Z s vs, Room 0 A → Bs G Z s → RepAll G Z vs ds → Yields G A (call (.builtin id) vs) Z d s
/-- a def of the text's -/
structure Fn (G : Gnd) (n : Nat) (f : Addr) (ds : List D) (d : D) : Prop where
  run : ∀ A Z s vs, Room n A → Bs G Z s → RepAll G Z vs ds → Yields G A (call (.ref f) vs) Z d s
theorem ev_int {i : Int} {k : Nat} : Ev G env n ρ (.Constant (.int i) k pos) (.int i) := Ev.mk fun _ Z _ _ _ S => wpAny_Constant_int ⟨Z, Ext.tok S.zin (Nat.le_succ _), .int _ _⟩
theorem ev_str {x : Str} {k : Nat} : Ev G env n ρ (.Constant (.str x) k pos) (.str x) := Ev.mk fun _ Z _ _ _ S => Calls.Constant_str ⟨Z, Ext.tok S.zin (Nat.le_succ _), .str _ _⟩
theorem ev_bool {b : Bool} {k : Nat} : Ev G env n ρ (.Constant (.bool b) k pos) (.bool b) := Ev.mk fun _ Z _ _ _ S => wpAny_pure ⟨Z, S.same, .bool _⟩
theorem ev_none {k : Nat} : Ev G env n ρ (.Constant .none k pos) .none := Ev.mk fun _ Z _ _ _ S => wpAny_pure ⟨Z, S.same, .none⟩

theorem ev_glob {x : Str} {a : Addr} (e : nsIn G.K mainGlobals x = some (some (.ref a))) (hx : env.kindOf x = some .globalImplicit) (hd : (x == ("__debug__" : Str)) = false) : Ev G env n ρ (.Name x pos) (.fn a) :=
  Ev.mk fun _ Z _ _ _ S => Calls.Name_function_global S.fk hx (Calls.loadGlobal_global (by rw [S.gl]; exact S.T.g) (mg_of G.X G.T.g e) ⟨Z, S.same, .fn _⟩) hd

theorem wp_builtinName {x : Str} {v : Value} {M : Model} {Q : Value → Shared → Prop} (S : St G env Z H ρ s) (e : nsIn G.K mainGlobals x = some none) (hv : bootBuiltins x = some v) (hn : x ≠ "__name__") (hx : env.kindOf x = some .globalImplicit)
    (hd : (x == ("__debug__" : Str)) = false) (h : Q v s) : wpAny M A (eval (.Name x pos) env) Q E s :=
  Calls.Name_function_global S.fk hx (Calls.loadGlobal_builtin (by rw [S.gl]; exact S.T.g) (mg_none_of G.X G.T.g e) (by rw [S.bl]; exact S.T.b) ((G.T.builtins x hn).trans hv) h) hd

theorem ev_binop {l r : PySem.Expr} {op : Operator} {d₁ d₂ d : D} (h₁ : Ev G env n ρ l d₁) (h₂ : Ev G env n ρ r d₂) (h₃ : Op2 G (binaryOp op) d₁ d₂ d) : Ev G env n ρ (.BinOp l op r pos) d :=
  Ev.mk fun A Z H s R S => wpAny_BinOp (wp_seq (h₁.run A Z H s R S) fun v₁ s₁ ⟨Z₁, x₁, r₁⟩ => wp_seq (h₂.run A Z₁ H s₁ R (S.ext x₁)) fun v₂ s₂ ⟨Z₂, x₂, r₂⟩ =>
    wp_seq (h₃.run A Z₂ s₂ v₁ v₂ (R.less (Nat.zero_le _)) ((S.ext x₁).ext x₂).bs (r₁.mono x₂.le) r₂) fun _ _ ⟨Z₃, x₃, r₃⟩ => ⟨Z₃, x₁.trans (x₂.trans x₃), r₃⟩)

theorem ev_cmp {l r : PySem.Expr} {op : CmpOp} {d₁ d₂ d : D} (h₁ : Ev G env n ρ l d₁) (h₂ : Ev G env n ρ r d₂) (h₃ : Op2 G (compareOp op) d₁ d₂ d) (hm : behindInMarks op r = false) : Ev G env n ρ (.Compare l [op] [r] pos) d :=
  Ev.mk fun A Z H s R S => wpAny_Compare1 (wp_seq (h₁.run A Z H s R S) fun v₁ s₁ ⟨Z₁, x₁, r₁⟩ => wp_seq (h₂.run A Z₁ H s₁ R (S.ext x₁)) fun v₂ s₂ ⟨Z₂, x₂, r₂⟩ =>
    wp_seq (h₃.run A Z₂ s₂ v₁ v₂ (R.less (Nat.zero_le _)) ((S.ext x₁).ext x₂).bs (r₁.mono x₂.le) r₂) fun _ _ ⟨Z₃, x₃, r₃⟩ => ⟨Z₃, x₁.trans (x₂.trans x₃), r₃⟩) hm

theorem tst_cmp {l r : PySem.Expr} {op : CmpOp} {d₁ d₂ : D} {b : Bool} (h₁ : Ev G env n ρ l d₁) (h₂ : Ev G env n ρ r d₂) (h₃ : Op2 G (compareOp op) d₁ d₂ (.bool b)) (hm : behindInMarks op r = false) : Tst G env n ρ (.Compare l [op] [r] pos) b :=
  Tst.mk fun A Z H s R S => wpAny_isTrue_Compare1 (wp_seq (h₁.run A Z H s R S) fun v₁ s₁ ⟨Z₁, x₁, r₁⟩ => wp_seq (h₂.run A Z₁ H s₁ R (S.ext x₁)) fun v₂ s₂ ⟨Z₂, x₂, r₂⟩ =>
    wp_seq (h₃.run A Z₂ s₂ v₁ v₂ (R.less (Nat.zero_le _)) ((S.ext x₁).ext x₂).bs (r₁.mono x₂.le) r₂) fun _ _ ⟨Z₃, x₃, r₃⟩ => by cases r₃; exact wpAny_truthy_bool ⟨rfl, (x₁.trans (x₂.trans x₃)).back S.zin⟩) hm

theorem tst_not {x : PySem.Expr} {b : Bool} (h : Tst G env n ρ x b) : Tst G env n ρ (.UnaryOp .Not x pos) (!b) :=
  Tst.mk fun A Z H s R S => isTrue_not (wp_seq (h.run A Z H s R S) fun _ _ ⟨e, x⟩ => ⟨by rw [e], x⟩)
theorem tst_and_nil : Tst G env n ρ (.BoolOp .And [] pos) true := Tst.mk fun _ _ _ _ _ S => isTrue_and_nil ⟨rfl, S.same⟩
theorem tst_or_nil : Tst G env n ρ (.BoolOp .Or [] pos) false := Tst.mk fun _ _ _ _ _ S => isTrue_or_nil ⟨rfl, S.same⟩
/-- several expressions in a row -/
structure Evs (G : Gnd) (env : Env) (n : Nat) (ρ : Loc) (es : List PySem.Expr) (ds : List D) : Prop where
  run : ∀ A Z H s pos, Room n A → St G env Z H ρ s → wpAny (model G.prog G.w) A (spliced (backTo pos (starEach es env))) (fun vs s' => ∃ Z', Ext Z s Z' s' ∧ RepAll G Z' vs ds) (fun _ _ => False) s
theorem evs_nil : Evs G env n ρ [] [] := Evs.mk fun _ Z _ _ _ _ S => spliced_none ⟨Z, S.same, .nil⟩
theorem evs_cons {e : PySem.Expr} {es : List PySem.Expr} {d : D} {ds : List D} (h : Ev G env n ρ e d) (h' : Evs G env n ρ es ds) (he : starEach (e :: es) env = (false, eval e env) :: starEach es env) : Evs G env n ρ (e :: es) (d :: ds) :=
  Evs.mk fun A Z H s pos R S => spliced_more (wp_seq (h.run A Z H s R S) fun v s₁ ⟨Z₁, x₁, r₁⟩ => wp_seq (h'.run A Z₁ H s₁ pos R (S.ext x₁)) fun vs s₂ ⟨Z₂, x₂, r₂⟩ => ⟨Z₂, x₁.trans x₂, .cons (r₁.mono x₂.le) r₂⟩) he

theorem wp_newTuple {vs : List Value} {ds : List D} (b : Bs G Z s) (r : RepAll G Z vs ds) (hsz : ds.length ≤ sizeLine) : Yields G A (newTuple vs) Z (.tup ds) s :=
  wpAny_newObj_type ⟨_, Ext.alloc b.zin rfl (Nat.le_refl _), .tup Zadd.self (r.mono (Ext.alloc (s := s) (t := s.toks) b.zin rfl (Nat.le_refl _)).le)⟩ (by show vs.toArray.size ≤ sizeLine; rw [List.size_toArray, r.length]; exact hsz)
theorem wp_newList {vs : List Value} {ds : List D} (b : Bs G Z s) (r : RepAll G Z vs ds) (hsz : ds.length ≤ sizeLine) : Yields G A (newList vs) Z (.list ds) s :=
  wpAny_newObj_type ⟨_, Ext.alloc b.zin rfl (Nat.le_refl _), .list Zadd.self (r.mono (Ext.alloc (s := s) (t := s.toks) b.zin rfl (Nat.le_refl _)).le)⟩ (by show vs.toArray.size ≤ sizeLine; rw [List.size_toArray, r.length]; exact hsz)

theorem ev_tuple {es : List PySem.Expr} {ds : List D} {k : Nat} (h : Evs G env n ρ es ds) (hsz : ds.length ≤ sizeLine) : Ev G env n ρ (.Tuple es k pos) (.tup ds) :=
  Ev.mk fun A Z H s R S => Tuple_ (wp_seq (h.run A Z H s pos R S) fun vs s₁ ⟨Z₁, x₁, r₁⟩ => wp_seq (wp_newTuple (S.ext x₁).bs r₁ hsz) fun _ _ ⟨Z₂, x₂, r₂⟩ => ⟨Z₂, x₁.trans x₂, r₂⟩)
theorem ev_list {es : List PySem.Expr} {ds : List D} (h : Evs G env n ρ es ds) (hsz : ds.length ≤ sizeLine) : Ev G env n ρ (.List es pos) (.list ds) :=
  Ev.mk fun A Z H s R S => List_ (wp_seq (h.run A Z H s pos R S) fun vs s₁ ⟨Z₁, x₁, r₁⟩ => wp_seq (wp_newList (S.ext x₁).bs r₁ hsz) fun _ _ ⟨Z₂, x₂, r₂⟩ => ⟨Z₂, x₁.trans x₂, r₂⟩)

theorem starred_none {es : List PySem.Expr} (h : (starEach es env).any (·.1) = false) (pos : Pos) : (backTo pos (starEach es env)).any (·.1) = false := by
  unfold backTo
  rw [List.any_map]
  exact h

theorem wp_evalArgs {M : Model} {f : Value} {args : List (Bool × Sem Value)} {Q : Args → Shared → Prop} (hp : args.any (·.1) = false)
    (h : wpAny M A (spliced args) (fun vs s₁ => Q ⟨vs, []⟩ s₁) E s) : wpAny M A (evalArgs f true args []) Q E s := by
  match args, hp, h with
  | [], _, h =>
    unfold evalArgs
    show wpAny M A (spliced [] >>= _) Q E s
    refine wpAny_bind (wpAny_mono h (fun vs s' h' => ?_) fun _ _ x => x)
    refine wpAny_bind (wpAny_pure (wpAny_holding ?_))
    exact wpAny_bind (wpAny_pure (wpAny_bind (wpAny_pure (wpAny_pure h'))))
  | (false, t) :: r, _, h => exact Calls.evalArgs_plain h
  | (true, t) :: r, hp, _ => simp at hp

/-- a call of one of the text's defs, by whatever expression it is reached -/
theorem ev_callFn {f : PySem.Expr} {es : List PySem.Expr} {a : Addr} {ds : List D} {d : D} (hf : Ev G env n ρ f (.fn a)) (h : Evs G env n ρ es ds) (hk : keepIn G.K (.ref a) = true) (hc : Fn G n a ds d)
    (hp : (starEach es env).any (·.1) = false)
    (he : eval (.Call f es [] pos) env = (do callWith pos (← eval f env) [] (backTo pos (starEach es env)) [])) : Ev G env n ρ (.Call f es [] pos) d := by
  constructor
  intro A Z H s R S
  unfold Yields
  rw [he]
  refine wpAny_bind (wp_seq (hf.run A Z H s R S) fun v s₁ ⟨Z₁, x₁, r₁⟩ => ?_)
  cases r₁
  have S₁ := S.ext x₁
  refine callWith_of (P := fun h => G.K.In h) (by rw [starred_none hp]; rfl) (keeps_K hk) (wp_evalArgs (starred_none hp pos) (wp_seq (h.run A Z₁ H s₁ pos R S₁) fun vs s₂ ⟨Z₂, x₂, r₂⟩ => ⟨(S₁.ext x₂).X, ?_⟩))
  exact wp_seq (hc.run A Z₂ s₂ vs R (S₁.ext x₂).bs r₂) fun _ _ ⟨Z₃, x₃, r₃⟩ => ⟨Z₃, x₁.trans (x₂.trans x₃), r₃⟩

/-- a call of a built-in function by its name -/
theorem ev_callBF {x : Str} {p : Pos} {id : String} {es : List PySem.Expr} {ds : List D} {d : D} (h : Evs G env n ρ es ds) (hc : BF G id ds d)
    (e : nsIn G.K mainGlobals x = some none) (hv : bootBuiltins x = some (.builtin id)) (hn : x ≠ "__name__") (hx : env.kindOf x = some .globalImplicit) (hd : (x == ("__debug__" : Str)) = false)
    (hp : (starEach es env).any (·.1) = false)
    (he : eval (.Call (.Name x p) es [] pos) env = (do callWith pos (← eval (.Name x p) env) [] (backTo pos (starEach es env)) [])) : Ev G env n ρ (.Call (.Name x p) es [] pos) d := by
  constructor
  intro A Z H s R S
  unfold Yields
  rw [he]
  refine wpAny_bind (wp_builtinName S e hv hn hx hd ?_)
  refine Calls.callWith_builtin (starred_none hp pos) (wp_evalArgs (starred_none hp pos) (wp_seq (h.run A Z H s pos R S) fun vs s₂ ⟨Z₂, x₂, r₂⟩ => ?_))
  exact wp_seq (hc.run A Z₂ s₂ vs (R.less (Nat.zero_le _)) (S.ext x₂).bs r₂) fun _ _ ⟨Z₃, x₃, r₃⟩ => ⟨Z₃, x₂.trans x₃, r₃⟩

/-- an item -/
def Sb (G : Gnd) (value slice : PySem.Expr) (d₁ d₂ d : D) : Prop := Op2 G (subscriptTail value slice) d₁ d₂ d
theorem ev_sub {value slice : PySem.Expr} {d₁ d₂ d : D} (h₁ : Ev G env n ρ value d₁) (h₂ : Ev G env n ρ slice d₂) (h₃ : Sb G value slice d₁ d₂ d) : Ev G env n ρ (.Subscript value slice pos) d :=
  Ev.mk fun A Z H s R S => Subscript_ (wp_seq (h₁.run A Z H s R S) fun v₁ s₁ ⟨Z₁, x₁, r₁⟩ => wp_seq (h₂.run A Z₁ H s₁ R (S.ext x₁)) fun v₂ s₂ ⟨Z₂, x₂, r₂⟩ =>
    wp_seq (h₃.run A Z₂ s₂ v₁ v₂ (R.less (Nat.zero_le _)) ((S.ext x₁).ext x₂).bs (r₁.mono x₂.le) r₂) fun _ _ ⟨Z₃, x₃, r₃⟩ => ⟨Z₃, x₁.trans (x₂.trans x₃), r₃⟩)

end
end Mine
end
section
open PySem PySem.W PyProof.Rows
set_option linter.unusedVariables false
namespace Mine

section
variable {G : Gnd} {env : Env} {Z Z' H : Zf} {ρ ρ' : Loc} {s s' : Shared} {A : Around} {E : Value → Shared → Prop} {n : Nat} {pos apos : Pos}

/-- how a block ends -/
inductive Fl where
  | next | brk | cont
  | ret (d : D)

inductive FlRep (G : Gnd) (Z : Zf) : Flow → Fl → Prop
  | next : FlRep G Z .next .next
  | brk : FlRep G Z .brk .brk
  | cont : FlRep G Z .cont .cont
  | ret {v : Value} {d : D} : Rep G Z v d → FlRep G Z (.ret v) (.ret d)
theorem FlRep.mono {f : Flow} {fl : Fl} (hz : Zle Z Z') (h : FlRep G Z f fl) : FlRep G Z' f fl := by
  cases h with
  | next => exact .next
  | brk => exact .brk
  | cont => exact .cont
  | ret r => exact .ret (r.mono hz)

def ExPost (G : Gnd) (env : Env) (Z H : Zf) (Φ : Fl → Loc → Prop) (f : Flow) (s' : Shared) : Prop := ∃ Z' ρ' fl, Zle Z Z' ∧ St G env Z' H ρ' s' ∧ FlRep G Z' f fl ∧ Φ fl ρ'
/-- a statement -/
structure Ex (G : Gnd) (env : Env) (n : Nat) (ρ : Loc) (st : Stmt) (Φ : Fl → Loc → Prop) : Prop where
  run : ∀ A Z H s, Room n A → St G env Z H ρ s → wpAny (model G.prog G.w) A (exec st env) (ExPost G env Z H Φ) (fun _ _ => False) s
/-- statements in a row -/
structure Exs (G : Gnd) (env : Env) (n : Nat) (ρ : Loc) (sts : List Stmt) (Φ : Fl → Loc → Prop) : Prop where
  run : ∀ A Z H s, Room n A → St G env Z H ρ s → wpAny (model G.prog G.w) A (execs sts env) (ExPost G env Z H Φ) (fun _ _ => False) s

def Then (Φ : Fl → Loc → Prop) (K : Loc → Prop) : Fl → Loc → Prop
  | .next, ρ => K ρ
  | fl, ρ => Φ fl ρ

theorem exs_nil {Φ : Fl → Loc → Prop} (h : Φ .next ρ) : Exs G env n ρ [] Φ := Exs.mk fun A Z H s _ S => wpAny_execs_nil ⟨Z, ρ, .next, Zle.same, S, .next, h⟩
theorem exs_cons {st : Stmt} {rest : List Stmt} {Φ : Fl → Loc → Prop} (h : Ex G env n ρ st (Then Φ fun ρ' => Exs G env n ρ' rest Φ)) : Exs G env n ρ (st :: rest) Φ := by
  constructor
  intro A Z H s R S
  refine wpAny_execs_cons (wp_seq (h.run A Z H s R S) fun f s' ⟨Z', ρ', fl, le, S', hf, hΦ⟩ => ?_)
  cases hf with
  | next => exact wp_seq (hΦ.run A Z' H s' R S') fun f s'' ⟨Z'', ρ'', fl, le', S'', hf, h⟩ => ⟨Z'', ρ'', fl, le.trans le', S'', hf, h⟩
  | brk => exact ⟨Z', ρ', _, le, S', .brk, hΦ⟩
  | cont => exact ⟨Z', ρ', _, le, S', .cont, hΦ⟩
  | ret r => exact ⟨Z', ρ', _, le, S', .ret r, hΦ⟩
theorem exs_mono {sts : List Stmt} {Φ Ψ : Fl → Loc → Prop} (h : Exs G env n ρ sts Φ) (hΦ : ∀ fl ρ', Φ fl ρ' → Ψ fl ρ') : Exs G env n ρ sts Ψ :=
  Exs.mk fun A Z H s R S => wp_seq (h.run A Z H s R S) fun _ _ ⟨Z', ρ', fl, le, S', hf, h⟩ => ⟨Z', ρ', fl, le, S', hf, hΦ _ _ h⟩
theorem ex_assign {x : Str} {p : Pos} {e : PySem.Expr} {d : D} {Φ : Fl → Loc → Prop} (h : Ev G env n ρ e d) (hc : Can env x) (hs : swapsWith e (some (.Name x p)) pos.line env = pure false) (k : Φ .next (upd ρ x (.val d))) :
    Ex G env n ρ (.Assign [.Name x p] e pos) Φ :=
  Ex.mk fun A Z H s R S => wpAny_Assign_Name (wp_seq (h.run A Z H s R S) fun v s₁ ⟨Z₁, x₁, r₁⟩ => wp_seq (st_store (S.ext x₁) r₁ hc) fun _ s₂ S₂ => ⟨Z₁, _, _, x₁.le, S₂, .next, k⟩) hs

theorem ex_return {e : PySem.Expr} {d : D} {Φ : Fl → Loc → Prop} (h : Ev G env n ρ e d) (k : Φ (.ret d) ρ) : Ex G env n ρ (.Return (some e) pos) Φ :=
  Ex.mk fun A Z H s R S => wpAny_Return_some (wp_seq (h.run A Z H s R S) fun v s₁ ⟨Z₁, x₁, r₁⟩ => ⟨Z₁, _, _, x₁.le, S.ext x₁, .ret r₁, k⟩)
theorem ex_if {t : PySem.Expr} {body orelse : List Stmt} {c : Bool} {Φ : Fl → Loc → Prop} (h : Tst G env n ρ t c) (h₁ : c = true → Exs G env n ρ body Φ) (h₂ : c = false → Exs G env n ρ orelse Φ) : Ex G env n ρ (.If t body orelse pos) Φ :=
  Ex.mk fun A Z H s R S => wpAny_If (wp_seq (h.run A Z H s R S) fun c' s' ⟨e, x⟩ => by
    subst e
    cases c' with
    | true => exact (h₁ rfl).run A Z H s' R (S.ext x)
    | false => exact (h₂ rfl).run A Z H s' R (S.ext x))

/-- x op= e -/
theorem ex_aug {x : Str} {p : Pos} {op : Operator} {e : PySem.Expr} {d₀ d₁ d : D} {Φ : Fl → Loc → Prop} (h₀ : ρ.lookup x = some (.val d₀)) (h : Ev G env n ρ e d₁) (ho : Op2 G (inplaceOp op) d₀ d₁ d) (hc : Can env x) (k : Φ .next (upd ρ x (.val d))) :
    Ex G env n ρ (.AugAssign (.Name x p) op e pos) Φ := by
  constructor
  intro A Z H s R S
  refine wpAny_AugAssign_Name ?_
  obtain ⟨v, hv, r⟩ := S.vars x d₀ h₀
  have go : wpAny (model G.prog G.w) A (eval e env) (fun v₁ s₂ => wpAny (model G.prog G.w) A (inplaceOp op v v₁) (fun r s₃ => wpAny (model G.prog G.w) A (storeName env x r) (fun _ => ExPost G env Z H Φ .next) (fun _ _ => False) s₃) (fun _ _ => False) s₂) (fun _ _ => False) s :=
    wp_seq (h.run A Z H s R S) fun v₁ s₂ ⟨Z₁, x₁, r₁⟩ => wp_seq (ho.run A Z₁ s₂ v v₁ (R.less (Nat.zero_le _)) (S.ext x₁).bs (r.mono x₁.le) r₁) fun v₂ s₃ ⟨Z₂, x₂, r₂⟩ =>
      wp_seq (st_store ((S.ext x₁).ext x₂) r₂ hc) fun _ s₄ S₄ => ⟨Z₂, _, _, x₁.le.trans x₂.le, S₄, .next, k⟩
  rcases hv with ⟨k, m, n, e⟩ | ⟨k, c, e, n⟩
  · exact wpAny_loadName_local S.fk k n e go
  · rcases k with k | k
    · exact wpAny_loadName_cell S.fk k e n go
    · exact wpAny_loadName_free S.fk k.1 e n go k.2

/-- an object more is held -/
theorem St.hold {I : Addr} {o : Obj} (S : St G env Z H ρ s) (x : Ext Z s Z s') (hI : s.heap.get? I = none) (ho : s'.heap.get? I = some o) :
    St G env Z (Zadd H I o) ρ s' ∧ G.base.get? I = none ∧ H I = none ∧ Z I = none ∧ ∀ y c, env.cells.lookup y = some c → c ≠ I := by
  have S' := S.ext x
  have old : ∀ a ob, s.heap.get? a = some ob → a ≠ I := fun a ob h q => by rw [q, hI] at h; cases h
  have hH : H I = none := by
    cases q : H I with
    | none => rfl
    | some ob => exact absurd rfl (old I ob (S.hin I ob q))
  have hZ : Z I = none := by
    cases q : Z I with
    | none => rfl
    | some ob => exact absurd rfl (old I ob (S.zin I ob q))
  have hB : G.base.get? I = none := by
    cases q : G.base.get? I with
    | none => rfl
    | some ob => exact absurd rfl (old I ob (S.keepBase I ob q))
  have hC : ∀ y c, env.cells.lookup y = some c → c ≠ I := fun y c e => by
    obtain ⟨_, h1, h2⟩ := S.cells y c e
    cases hf : env.func.isSome with
    | true => obtain ⟨_, _, v, ob, hob, _⟩ := h1 hf; exact old c ob hob
    | false => obtain ⟨ob, hob⟩ := h2 hf; exact old c ob (S.hin c ob hob)
  have le := Zadd.le (o := o) hH
  have ne : ∀ b, b ≠ I → Zadd H I o b = H b := fun b hb => if_neg hb
  obtain ⟨oL, _, _, hoL, _⟩ := S.ns.choose_spec
  refine ⟨⟨S'.fk, S'.gl, S'.bl, S'.gens, S'.os, S'.tk, S'.zin, fun a ob h => ?_, fun a ob h => ?_, fun a ob h => (S'.bas a ob h).elim .inl (fun h => .inr (le _ _ h)), S'.ns, S'.lz, ?_, fun y c e => ?_, S'.inj, S'.vars, ?_⟩, hB, hH, hZ, hC⟩
  · by_cases q : a = I
    · subst q; rw [Zadd.self] at h; cases h; exact ho
    · rw [ne a q] at h; exact S'.hin a ob h
  · rw [ne a fun q => by rw [q, hZ] at h; cases h]; exact S'.dj a ob h
  · rw [ne _ (old _ _ hoL)]; exact S'.lh
  · obtain ⟨h0, h1, h2⟩ := S'.cells y c e
    refine ⟨h0, fun hf => ?_, fun hf => ?_⟩
    · obtain ⟨a, b, c'⟩ := h1 hf
      exact ⟨a, by rw [ne _ (hC y c e)]; exact b, c'⟩
    · obtain ⟨ob, h⟩ := h2 hf
      exact ⟨ob, le _ _ h⟩
  · obtain ⟨oa, hi, h⟩ := S.owns
    obtain ⟨oa', hi', h'⟩ := S'.owns
    refine ⟨oa, hi, fun y ds e => ?_⟩
    obtain ⟨g1, g2, g3, g4, g5, vs, k, g6, g7⟩ := h y ds e
    exact ⟨g1.keeps x.keep, g2, by rw [ne _ (old _ _ g6)]; exact g3, g4, g5, vs, k, x.keep _ _ g6, g7⟩

/-- a held object is changed -/
theorem St.turn {I : Addr} {o o' : Obj} {h' : Heap} {t : Nat} (S : St G env Z (Zadd H I o) ρ s) (hB : G.base.get? I = none) (hC : ∀ y c, env.cells.lookup y = some c → c ≠ I)
    (hk : ∀ b ob, b ≠ I → s.heap.get? b = some ob → h'.get? b = some ob) (ho : h'.get? I = some o') (ht : s.toks ≤ t) : St G env Z (Zadd H I o') ρ { s with heap := h', toks := t } := by
  have self : Zadd H I o I = some o := Zadd.self
  have ne : ∀ b, b ≠ I → Zadd H I o' b = Zadd H I o b := fun b hb => by unfold Zadd; rw [if_neg hb, if_neg hb]
  have zI : ∀ a ob, Z a = some ob → a ≠ I := fun a ob h q => by have := S.dj a ob h; rw [q, self] at this; cases this
  have nI : ∀ a, Zadd H I o a = none → a ≠ I := fun a h q => by rw [q, self] at h; cases h
  have lI := nI _ S.lh
  have has : ∀ y v, Has env s.heap y v → Has env h' y v := fun y v q => by
    rcases q with ⟨k, m, ⟨ob, es, ep, e1, e2⟩, e⟩ | ⟨k, c, e, ob, e1, e2⟩
    · exact .inl ⟨k, m, ⟨ob, es, ep, hk _ _ lI e1, e2⟩, e⟩
    · exact .inr ⟨k, c, e, ob, hk _ _ (hC y c e) e1, e2⟩
  refine ⟨S.fk, S.gl, S.bl, S.gens, S.os, Nat.lt_of_lt_of_le S.tk ht, fun a ob h => hk _ _ (zI a ob h) (S.zin a ob h), fun a ob h => ?_, fun a ob h => ?_, fun a ob h => ?_, ?_, S.lz, ?_, fun y c e => ?_, S.inj, fun y d e => ?_, ?_⟩
  · by_cases q : a = I
    · subst q; rw [Zadd.self] at h; cases h; exact ho
    · rw [ne a q] at h; exact hk _ _ q (S.hin a ob h)
  · rw [ne a (zI a ob h)]; exact S.dj a ob h
  · refine (S.bas a ob h).elim .inl fun q => .inr ?_
    rw [ne a fun z => by rw [z, hB] at h; cases h]; exact q
  · obtain ⟨m, ob, es, ep, e1, e2⟩ := S.ns; exact ⟨m, ob, es, ep, hk _ _ lI e1, e2⟩
  · rw [ne _ lI]; exact S.lh
  · obtain ⟨h0, h1, h2⟩ := S.cells y c e
    refine ⟨h0, fun hf => ?_, fun hf => ?_⟩
    · obtain ⟨a, b, v, ob, e1, e2⟩ := h1 hf
      exact ⟨a, by rw [ne _ (hC y c e)]; exact b, v, ob, hk _ _ (hC y c e) e1, e2⟩
    · obtain ⟨ob, h⟩ := h2 hf
      exact ⟨ob, by rw [ne _ (hC y c e)]; exact h⟩
  · obtain ⟨v, h, r⟩ := S.vars y d e; exact ⟨v, has y v h, r⟩
  · obtain ⟨oa, hi, h⟩ := S.owns
    refine ⟨oa, hi, fun y ds e => ?_⟩
    obtain ⟨g1, g2, g3, g4, g5, vs, k, g6, g7⟩ := h y ds e
    exact ⟨has _ _ g1, g2, by rw [ne _ (nI _ g3)]; exact g3, g4, g5, vs, k, hk _ _ (nI _ g3) g6, g7⟩

/-- it is held no more -/
theorem St.unhold {I : Addr} {o : Obj} (S : St G env Z (Zadd H I o) ρ s) (hB : G.base.get? I = none) (hC : ∀ y c, env.cells.lookup y = some c → c ≠ I) (hH : H I = none) : St G env Z H ρ s := by
  have self : Zadd H I o I = some o := Zadd.self
  have le := Zadd.le (o := o) hH
  have ne : ∀ b, b ≠ I → Zadd H I o b = H b := fun b hb => if_neg hb
  have none_of : ∀ a, Zadd H I o a = none → H a = none := fun a h => by
    cases q : H a with
    | none => rfl
    | some ob => rw [le _ _ q] at h; cases h
  refine ⟨S.fk, S.gl, S.bl, S.gens, S.os, S.tk, S.zin, fun a ob h => S.hin a ob (le _ _ h), fun a ob h => none_of a (S.dj a ob h), fun a ob h => ?_, S.ns, S.lz, none_of _ S.lh, fun y c e => ?_, S.inj, S.vars, ?_⟩
  · refine (S.bas a ob h).elim .inl fun q => .inr ?_
    rwa [ne a fun z => by rw [z, hB] at h; cases h] at q
  · obtain ⟨h0, h1, h2⟩ := S.cells y c e
    refine ⟨h0, fun hf => ?_, fun hf => ?_⟩
    · obtain ⟨a, b, v⟩ := h1 hf
      exact ⟨a, none_of _ b, v⟩
    · obtain ⟨ob, h⟩ := h2 hf
      rw [ne _ (hC y c e)] at h
      exact ⟨ob, h⟩
  · obtain ⟨oa, hi, h⟩ := S.owns
    refine ⟨oa, hi, fun y ds e => ?_⟩
    obtain ⟨g1, g2, g3, g4⟩ := h y ds e
    exact ⟨g1, g2, none_of _ g3, g4⟩

/-- a held object is let go, whatever becomes of it -/
theorem St.drop {I : Addr} {o : Obj} {h' : Heap} {t : Nat} (S : St G env Z (Zadd H I o) ρ s) (hB : G.base.get? I = none) (hC : ∀ y c, env.cells.lookup y = some c → c ≠ I) (hH : H I = none)
    (hk : ∀ b ob, b ≠ I → s.heap.get? b = some ob → h'.get? b = some ob) (ht : s.toks ≤ t) : St G env Z H ρ { s with heap := h', toks := t } := by
  have self : Zadd H I o I = some o := Zadd.self
  have le := Zadd.le (o := o) hH
  have ne : ∀ b, b ≠ I → Zadd H I o b = H b := fun b hb => if_neg hb
  have none_of : ∀ a, Zadd H I o a = none → H a = none := fun a h => by
    cases q : H a with
    | none => rfl
    | some ob => rw [le _ _ q] at h; cases h
  have zI : ∀ a ob, Z a = some ob → a ≠ I := fun a ob h q => by have := S.dj a ob h; rw [q, self] at this; cases this
  have nI : ∀ a, Zadd H I o a = none → a ≠ I := fun a h q => by rw [q, self] at h; cases h
  have hI : ∀ a ob, H a = some ob → a ≠ I := fun a ob h q => by rw [q, hH] at h; cases h
  have lI := nI _ S.lh
  have has : ∀ y v, Has env s.heap y v → Has env h' y v := fun y v q => by
    rcases q with ⟨k, m, ⟨ob, es, ep, e1, e2⟩, e⟩ | ⟨k, c, e, ob, e1, e2⟩
    · exact .inl ⟨k, m, ⟨ob, es, ep, hk _ _ lI e1, e2⟩, e⟩
    · exact .inr ⟨k, c, e, ob, hk _ _ (hC y c e) e1, e2⟩
  refine ⟨S.fk, S.gl, S.bl, S.gens, S.os, Nat.lt_of_lt_of_le S.tk ht, fun a ob h => hk _ _ (zI a ob h) (S.zin a ob h), fun a ob h => hk _ _ (hI a ob h) (S.hin a ob (le _ _ h)), fun a ob h => none_of a (S.dj a ob h), fun a ob h => ?_, ?_, S.lz, none_of _ S.lh, fun y c e => ?_, S.inj, fun y d e => ?_, ?_⟩
  · refine (S.bas a ob h).elim .inl fun q => .inr ?_
    rwa [ne a fun z => by rw [z, hB] at h; cases h] at q
  · obtain ⟨m, ob, es, ep, e1, e2⟩ := S.ns; exact ⟨m, ob, es, ep, hk _ _ lI e1, e2⟩
  · obtain ⟨h0, h1, h2⟩ := S.cells y c e
    refine ⟨h0, fun hf => ?_, fun hf => ?_⟩
    · obtain ⟨a, b, v, ob, e1, e2⟩ := h1 hf
      exact ⟨a, none_of _ b, v, ob, hk _ _ (hC y c e) e1, e2⟩
    · obtain ⟨ob, h⟩ := h2 hf
      rw [ne _ (hC y c e)] at h
      exact ⟨ob, h⟩
  · obtain ⟨v, h, r⟩ := S.vars y d e; exact ⟨v, has y v h, r⟩
  · obtain ⟨oa, hi, h⟩ := S.owns
    refine ⟨oa, hi, fun y ds e => ?_⟩
    obtain ⟨g1, g2, g3, g4, g5, vs, k, g6, g7⟩ := h y ds e
    exact ⟨has _ _ g1, g2, none_of _ g3, g4, g5, vs, k, hk _ _ (nI _ g3) g6, g7⟩

end
end Mine
end
section
open PySem PySem.W PyProof.Rows
set_option linter.unusedVariables false
namespace Mine

section
variable {G : Gnd} {env : Env} {Z Z' H : Zf} {ρ ρ' : Loc} {s s' : Shared} {A : Around} {E : Value → Shared → Prop} {n : Nat} {pos apos : Pos}

def ownsTuples (T : String) : Bool := ["enumerate", "zip", "dict_itemiterator", "dict_reverseitemiterator", "odict_iterator", "itertools.zip_longest", "itertools.pairwise"].contains T

/-- an iterator's turns, at times when the counter is behind G.t0 -/
structure WalksG (G : Gnd) (A : Around) (I : Addr) (fp wr : List Addr) (n : Nat) (P : Nat → Value → Prop) (St : Nat → Heap → Prop) : Prop where
  sub : ∀ b ∈ wr, b ∈ fp
  frame : ∀ i h h', St i h → (∀ b ∈ fp, ∀ o, h.get? b = some o → h'.get? b = some o) → St i h'
  item : ∀ i (s : Shared) (Q : Option Value → Shared → Prop) (E : Value → Shared → Prop), i < n → G.t0 < s.toks → St i s.heap →
    (∀ v h' tk, P i v → St (i + 1) h' → (∀ b o, b ∉ wr → s.heap.get? b = some o → h'.get? b = some o) → Q (some v) { s with heap := h', toks := tk }) → wpAny (model G.prog G.w) A (pyNext (.ref I)) Q E s
  done : ∀ (s : Shared) (Q : Option Value → Shared → Prop) (E : Value → Shared → Prop), St n s.heap →
    (∀ h' tk, (∀ b o, b ∉ wr → s.heap.get? b = some o → h'.get? b = some o) → Q none { s with heap := h', toks := tk }) → wpAny (model G.prog G.w) A (pyNext (.ref I)) Q E s
  self : ∀ i (s : Shared) (Q : Value → Shared → Prop) (E : Value → Shared → Prop), St i s.heap → Q (.ref I) s → wpAny (model G.prog G.w) A (pyIter (.ref I)) Q E s
theorem toWG {I : Addr} {fp wr : List Addr} {n : Nat} {P : Nat → Value → Prop} {St : Nat → Heap → Prop} (W : Walks G.prog G.w A I fp wr n P St) : WalksG G A I fp wr n P St :=
  ⟨W.sub, W.frame, fun i s Q E hi _ st h => W.item i s Q E hi st h, W.done, W.self⟩

/-- an iterator that is new, and the data that it will give -/
def ItrAt (G : Gnd) (Z : Zf) (ds : List D) (s s' : Shared) (it : Value) : Prop :=
  ∃ (I : Addr) (fp : List Addr) (P : Nat → Value → Prop) (W : Nat → Heap → Prop), it = .ref I ∧ Ext Z s Z s' ∧ s.heap.get? I = none ∧ (∀ A' : Around, A'.handled = none → WalksG G A' I fp [I] ds.length P W) ∧
    (∀ b ∈ fp, b = I ∨ ∃ o, Z b = some o) ∧ W 0 s'.heap ∧ (∀ i h, W i h → ∃ o T, h.get? I = some o ∧ o.cls = .type T ∧ ownsTuples T = false) ∧ (∀ i v, P i v → ∃ d, ds[i]? = some d ∧ Rep G Z v d)
structure Itr (G : Gnd) (d : D) (ds : List D) : Prop where
  run : ∀ A Z s v, Room 0 A → Bs G Z s → Rep G Z v d → wpAny (model G.prog G.w) A (pyIter v) (fun it s' => ItrAt G Z ds s s' it) (fun _ _ => False) s

/-- a target takes a datum -/
structure Asg (G : Gnd) (env : Env) (tgt : PySem.Expr) (d : D) (ρ ρ' : Loc) : Prop where
  run : ∀ A Z H s v, Room 0 A → St G env Z H ρ s → Rep G Z v d → wpAny (model G.prog G.w) A (assign tgt env v) (fun _ s' => ∃ Z', Zle Z Z' ∧ St G env Z' H ρ' s') (fun _ _ => False) s
theorem asg_name {x : Str} {p : Pos} {d : D} (hc : Can env x) : Asg G env (.Name x p) d ρ (upd ρ x (.val d)) :=
  Asg.mk fun A Z H s v R S r => wpAny_assign_Name (wp_seq (st_store S r hc) fun _ _ S' => ⟨Z, Zle.same, S'⟩)

theorem wp_letOwned {tgt : PySem.Expr} {I : Addr} {v : Value} {o : Obj} {T : String} {M : Model} {Q : Unit → Shared → Prop} (ho : s.heap.get? I = some o) (hc : o.cls = .type T) (hT : ownsTuples T = false) (h : Q () s) :
    wpAny M A (letOwnedTupleGo tgt (.ref I) v) Q E s := by
  have go : wpAny M A (match (Value.ref I, v) with
    | (.ref r, .ref a) => do
      let o ← load r
      match o.cls, o.data with
      | .type n, .fields vs =>
        if ["enumerate", "zip", "dict_itemiterator", "dict_reverseitemiterator", "odict_iterator", "itertools.zip_longest", "itertools.pairwise"].contains n && vs[0]? == some (rawInt a) then
          rule "for.unpacks-the-owned-tuple"
          updateField r 0 .none
      | _, _ => pure ()
    | _ => pure ()) Q E s := by
    cases v with
    | ref a =>
      refine wpAny_bind (wpAny_load ho ?_)
      rw [hc]
      cases o.data <;> first | exact wpAny_pure h | skip
      rename_i vs
      unfold ownsTuples at hT
      dsimp only
      rw [hT]
      exact wpAny_pure h
    | _ => exact wpAny_pure h
  unfold letOwnedTupleGo
  cases tgt <;> first | exact wpAny_pure h | exact go

def LoopPost (Φ : Fl → Loc → Prop) (K : Loc → Prop) : Fl → Loc → Prop
  | .next, ρ => K ρ
  | .cont, ρ => K ρ
  | .brk, ρ => Φ .next ρ
  | .ret d, ρ => Φ (.ret d) ρ

theorem ex_for {tgt iter : PySem.Expr} {body : List Stmt} {d : D} {ds : List D} {Φ : Fl → Loc → Prop} (P : Nat → Loc → Prop) (h : Ev G env n ρ iter d) (hi : Itr G d ds) (h0 : P 0 ρ)
    (turn : ∀ i d ρ', ds[i]? = some d → P i ρ' → ∃ ρ'', Asg G env tgt d ρ' ρ'' ∧ Exs G env n ρ'' body (LoopPost Φ (P (i + 1))))
    (done : ∀ ρ', P ds.length ρ' → Φ .next ρ') (hs : ∀ x, foldedSetIterable iter env x = pure x) : Ex G env n ρ (.For tgt iter body [] pos) Φ := by
  constructor
  intro A Z H s R S
  refine wpAny_For (wp_seq (h.run A Z H s R S) fun v s₁ ⟨Z₁, x₁, r₁⟩ => wp_seq (hi.run A Z₁ s₁ v (R.less (Nat.zero_le _)) (S.ext x₁).bs r₁) fun it s₂ ⟨I, fp, P', W, e, x₂, hI, hW, hfp, hW0, hcls, hP⟩ => ?_) hs
  subst e
  have W₀ := hW A R.handled
  obtain ⟨o₂, _, ho₂, _⟩ := hcls 0 _ hW0
  obtain ⟨S₂, hB, hH, hZ, hC⟩ := (S.ext x₁).hold x₂ hI ho₂
  refine codeAny_forLoop_any (fun m s => ∃ i Zc ρc o, m = ds.length - i ∧ i ≤ ds.length ∧ Zle Z₁ Zc ∧ St G env Zc (Zadd H I o) ρc s ∧ W i s.heap ∧ P i ρc) (fun m s hm => ?_) ds.length ⟨0, Z₁, ρ, o₂, rfl, Nat.zero_le _, Zle.same, S₂, hW0, h0⟩
  obtain ⟨i, Zc, ρc, o, rfl, hle, lec, Sc, hWi, hPi⟩ := hm
  by_cases hlt : i < ds.length
  · refine wpAny_with_toks (Nat.le_refl s.toks) (W₀.item i s _ _ hlt Sc.tk hWi fun v h' tk pv hW' hk tok => ?_)
    obtain ⟨d', hd', rv⟩ := hP i v pv
    obtain ⟨o', T, ho', hcT, hT⟩ := hcls _ _ hW'
    have St' := Sc.turn (t := tk) hB hC (fun b ob hb e => hk b ob (by simpa using hb) e) ho' tok
    refine wp_letOwned (s := { s with heap := h', toks := tk }) ho' hcT hT ?_
    obtain ⟨ρ'', ha, hb⟩ := turn i d' ρc hd' hPi
    refine wp_seq (ha.run A Zc _ _ v (R.less (Nat.zero_le _)) St' (rv.mono lec)) fun _ s₄ ⟨Z₄, le₄, S₄⟩ => ?_
    refine wp_seq (hb.run A Z₄ _ s₄ R S₄) fun f s₅ ⟨Z₅, ρ₅, fl, le₅, S₅, hf, hΦ⟩ => ?_
    have les : Zle Z Z₅ := x₁.le.trans (lec.trans (le₄.trans le₅))
    have nx : P (i + 1) ρ₅ → ∃ m, m < ds.length - i ∧ ∃ i Zc ρc o, m = ds.length - i ∧ i ≤ ds.length ∧ Zle Z₁ Zc ∧ St G env Zc (Zadd H I o) ρc s₅ ∧ W i s₅.heap ∧ P i ρc := fun hp => by
      refine ⟨ds.length - (i + 1), by omega, i + 1, Z₅, ρ₅, o', rfl, by omega, lec.trans (le₄.trans le₅), S₅, W₀.frame _ _ _ hW' fun b hb ob e => ?_, hp⟩
      rcases hfp b hb with rfl | ⟨oz, hz⟩
      · have e' : h'.get? b = some ob := e
        rw [ho'] at e'; cases e'
        exact S₅.hin _ _ Zadd.self
      · have e1 := St'.zin b oz (lec b oz hz)
        have e' : h'.get? b = some ob := e
        have e2 : h'.get? b = some oz := e1
        rw [e'] at e2; cases e2
        exact S₅.zin _ _ (le₅ _ _ (le₄ _ _ (lec _ _ hz)))
    cases hf with
    | next => exact nx hΦ
    | cont => exact nx hΦ
    | brk => exact ⟨Z₅, ρ₅, .next, les, S₅.unhold hB hC hH, .next, hΦ⟩
    | ret r => exact ⟨Z₅, ρ₅, .ret _, les, S₅.unhold hB hC hH, .ret r, hΦ⟩
  · have hlen : i = ds.length := by omega
    subst hlen
    refine wpAny_with_toks (Nat.le_refl s.toks) (W₀.done s _ _ hWi fun h' tk hk tok => ?_)
    refine wpAny_execs_nil ?_
    exact ⟨Zc, ρc, .next, x₁.le.trans lec, Sc.drop (t := tk) hB hC hH (fun b ob hb e => hk b ob (by simpa using hb) e) tok, .next, done _ hPi⟩

/-- a while, by a measure -/
theorem ex_while {t : PySem.Expr} {body : List Stmt} {Φ : Fl → Loc → Prop} (P : Nat → Loc → Prop) {m : Nat} (h0 : P m ρ)
    (turn : ∀ m ρ', P m ρ' → ∃ c, Tst G env n ρ' t c ∧ (c = true → Exs G env n ρ' body (LoopPost Φ fun ρ'' => ∃ k, k < m ∧ P k ρ'')) ∧ (c = false → Φ .next ρ')) : Ex G env n ρ (.While t body [] pos) Φ := by
  constructor
  intro A Z H s R S
  refine wpAny_While ?_
  refine codeAny_whileLoop (fun m s => ∃ Zc ρc, Zle Z Zc ∧ St G env Zc H ρc s ∧ P m ρc) (fun m s hm => ?_) m ⟨Z, ρ, Zle.same, S, h0⟩
  obtain ⟨Zc, ρc, lec, Sc, hp⟩ := hm
  obtain ⟨c, ht, h1, h2⟩ := turn m ρc hp
  refine wp_seq (ht.run A Zc H s R Sc) fun c' s₁ ⟨e, x⟩ => ?_
  subst e
  cases c' with
  | false => exact wpAny_execs_nil ⟨Zc, ρc, .next, lec, Sc.ext x, .next, h2 rfl⟩
  | true =>
    refine wp_seq ((h1 rfl).run A Zc H s₁ R (Sc.ext x)) fun f s₂ ⟨Z₂, ρ₂, fl, le₂, S₂, hf, hΦ⟩ => ?_
    cases hf with
    | next => obtain ⟨k, hk, hp⟩ := hΦ; exact ⟨k, hk, Z₂, ρ₂, lec.trans le₂, S₂, hp⟩
    | cont => obtain ⟨k, hk, hp⟩ := hΦ; exact ⟨k, hk, Z₂, ρ₂, lec.trans le₂, S₂, hp⟩
    | brk => exact ⟨Z₂, ρ₂, .next, lec.trans le₂, S₂, .next, hΦ⟩
    | ret r => exact ⟨Z₂, ρ₂, .ret _, lec.trans le₂, S₂, .ret r, hΦ⟩

/-- the text's def at an address -/
structure DefAt (G : Gnd) (a : Addr) (fd : FuncData) (body : List Stmt) : Prop where
  obj : ∃ o, G.K.lookup a = some o ∧ o.data = .func fd
  code : codeIn G.K fd.code fd.qualname = true
  body : fd.body = .stmts body
  closure : fd.closure = []
  gl : fd.globals = mainGlobals
  bl : fd.builtins = builtinsNs
  co : fd.scope.isCoroutine = false
  gen : fd.scope.isGenerator = false
  kind : fd.scope.kind = .function

theorem DefAt.keep {a : Addr} {fd : FuncData} {body : List Stmt} (D : DefAt G a fd body) : keepIn G.K (.ref a) = true := by
  obtain ⟨⟨oc, od, odt, osl⟩, h, e⟩ := D.obj
  unfold keepIn
  cases e
  simp only [h]

/-- the names that the parameters are, at the start -/
def startLoc : List Str → List D → Loc
  | x :: xs, d :: ds => (x, .val d) :: startLoc xs ds
  | _, _ => []

end
end Mine
end
section
open PySem PySem.W PyProof.Rows
set_option linter.unusedVariables false
namespace Mine

section
variable {G : Gnd} {env : Env} {Z Z' H : Zf} {ρ ρ' : Loc} {s s' : Shared} {A : Around} {E : Value → Shared → Prop} {n : Nat} {pos apos : Pos}

theorem bindL_skip {k : Str → Option NameKind} {x : Str} : ∀ {bs : List (Str × Value)} {m : Str → Option Value}, x ∉ bs.map (·.1) → bindL k bs m x = m x
  | [], _, _ => rfl
  | (y, v) :: r, m, h => by
    simp only [List.map_cons, List.mem_cons, not_or] at h
    unfold bindL
    rw [bindL_skip h.2]
    split
    · exact if_neg h.1
    · rfl
theorem bindL_get {k : Str → Option NameKind} {x : Str} {v : Value} (hk : k x = some .local) : ∀ {bs : List (Str × Value)} {m : Str → Option Value}, (bs.map (·.1)).Nodup → (x, v) ∈ bs → bindL k bs m x = some v
  | (y, w) :: r, m, hn, h => by
    simp only [List.map_cons, List.nodup_cons] at hn
    unfold bindL
    rcases List.mem_cons.mp h with e | h
    · cases e
      rw [bindL_skip hn.1, if_pos hk, if_pos rfl]
    · exact bindL_get hk hn.2 h
theorem bindC_skip {k : Str → Option NameKind} {x : Str} : ∀ {bs : List (Str × Value)} {m : Str → Option Value}, x ∉ bs.map (·.1) → bindC k bs m x = m x
  | [], _, _ => rfl
  | (y, v) :: r, m, h => by
    simp only [List.map_cons, List.mem_cons, not_or] at h
    unfold bindC
    rw [bindC_skip h.2]
    split
    · rfl
    · exact if_neg h.1
theorem bindC_get {k : Str → Option NameKind} {x : Str} {v : Value} (hk : k x = some .cell) : ∀ {bs : List (Str × Value)} {m : Str → Option Value}, (bs.map (·.1)).Nodup → (x, v) ∈ bs → bindC k bs m x = some v
  | (y, w) :: r, m, hn, h => by
    simp only [List.map_cons, List.nodup_cons] at hn
    unfold bindC
    rcases List.mem_cons.mp h with e | h
    · cases e
      rw [bindC_skip hn.1, if_neg (by rw [hk]; decide), if_pos rfl]
    · exact bindC_get hk hn.2 h

theorem startLoc_lookup {b : B} : ∀ {xs : List Str} {ds : List D} {vs : List Value} {x : Str}, RepAll G Z vs ds → xs.length = ds.length → (startLoc xs ds).lookup x = some b → ∃ v d, b = .val d ∧ (x, v) ∈ xs.zip vs ∧ Rep G Z v d
  | [], _, _, _, _, _, h => by simp [startLoc] at h
  | y :: xs, [], _, _, _, hl, _ => by simp at hl
  | y :: xs, d :: ds, v :: vs, x, .cons r rs, hl, h => by
    unfold startLoc at h
    rw [List.lookup_cons] at h
    by_cases q : x = y
    · subst q
      simp at h
      subst h
      exact ⟨v, d, rfl, by simp, r⟩
    · rw [beq_eq_false_iff_ne.mpr q] at h
      obtain ⟨v', d', e, hm, r'⟩ := startLoc_lookup rs (by simpa using hl) h
      exact ⟨v', d', e, by simp [hm], r'⟩

/-- what a call leaves, once its frame is gone -/
theorem ext_of_frame (b : Bs G Z s) (hZ' : Zle Z Z') (S : St G env Z' (fun a => if Z a = none then s.heap.get? a else none) ρ s') (ht : s.toks ≤ s'.toks) : Ext Z s Z' s' where
  le := hZ'
  keep := fun a o h => by
    cases q : Z a with
    | some o' =>
      have := b.zin a o' q
      rw [h] at this; cases this
      exact S.zin _ _ (hZ' _ _ q)
    | none => exact S.hin a o (by simp [q, h])
  zin := S.zin
  new := fun a o h => by
    cases q : Z a with
    | some o' => left; have := hZ' _ _ q; rw [h] at this; cases this; rfl
    | none =>
      right
      have := S.dj a o h
      simpa [q] using this
  gens := S.gens.trans b.gens.symm
  os := S.os.trans b.os.symm
  tk := ht

def RetPost (d : D) : Fl → Loc → Prop
  | .ret d', _ => d' = d
  | .next, _ => d = .none
  | _, _ => False

theorem fn_of {a : Addr} {fd : FuncData} {body : List Stmt} {xs : List Str} {ds : List D} {d : D} (D : DefAt G a fd body) (hb : ∀ vs : List Value, vs.length = xs.length → bindArgs fd ⟨vs, []⟩ = pure (xs.zip vs)) (hlen : xs.length = ds.length)
    (hx : ∀ x ∈ xs, fd.scope.names.lookup x = some .local ∨ (fd.scope.names.lookup x = some .cell ∧ ∀ k, ((cellsFrom k fd.scope.names []).lookup x).isSome = true)) (hnd : xs.Nodup)
    (h : ∀ L, Exs G (callEnvC fd L a) n (startLoc xs ds) body (RetPost d)) : Fn G (n + 1) a ds d := by
  constructor
  intro A Z s vs R b r
  obtain ⟨o, ho, hd⟩ := D.obj
  have hvl : vs.length = xs.length := r.length.trans hlen.symm
  have hmap : (xs.zip vs).map (·.1) = xs := by rw [List.map_fst_zip]; omega
  have hnd' : ((xs.zip vs).map (·.1)).Nodup := by rw [hmap]; exact hnd
  refine wp_tok ?_
  refine wpAny_call ?_
  refine codeAny_call_function (by have := R.depth; omega) (b.X _ _ ho) hd D.co D.gen D.body (codeRec_of b.X D.code) ?_
  rw [hb vs hvl, D.closure]
  refine wpAny_pure (wpAny_with_toks (Nat.le_refl s.toks) (wpAny_newFunctionEnv_cells D.kind (fun x hm => ?_) fun env he s₁ x tok => ?_))
  · have : x.1 ∈ xs := by rw [← hmap]; exact List.mem_map_of_mem hm
    rcases hx _ this with q | ⟨q, q'⟩
    · exact .inl q
    · exact .inr ⟨q, q' _⟩
  subst he
  have hcall := x.toInCall
  obtain ⟨h₁, tk, rfl, hk₁⟩ := x.done
  refine ⟨b.nolimit.keeps hcall.keep, codeAny_func ?_⟩
  have HZ : ∀ a' o', (if Z a' = none then s.heap.get? a' else none) = some o' → Z a' = none ∧ s.heap.get? a' = some o' := fun a' o' e => by
    split at e
    · rename_i q; exact ⟨q, e⟩
    · cases e
  have hLnone : s.heap.get? s.heap.objs.size = none := get?_size_none _
  have nz : ∀ c, s.heap.objs.size ≤ c → s.heap.get? c = none := fun c hc => by
    cases q : s.heap.get? c with
    | none => rfl
    | some ob => exact absurd (Heap.lt_size q) (Nat.not_lt.mpr hc)
  have nzZ : ∀ c, s.heap.objs.size ≤ c → Z c = none := fun c hc => by
    cases q : Z c with
    | none => rfl
    | some ob => have := b.zin c ob q; rw [nz c hc] at this; cases this
  have S₁ : St G (callEnvC fd s.heap.objs.size a) Z (fun a => if Z a = none then s.heap.get? a else none) (startLoc xs ds) { s with heap := h₁, toks := tk } := by
    refine ⟨D.kind, D.gl, D.bl, b.gens, b.os, Nat.lt_of_lt_of_le b.tk tok, fun a' o' e => hk₁ _ _ (b.zin _ _ e), fun a' o' e => hk₁ _ _ (HZ _ _ e).2, fun a' o' e => by simp [e], fun a' o' e => ?_, ⟨_, hcall.ns⟩, nzZ _ (Nat.le_refl _), ?_, fun y c e => ⟨?_, fun _ => ?_, fun hf => by cases hf⟩, ?_, fun y d' e => ?_, ?_⟩
    · have e' := b.bas _ _ e
      cases q : Z a' with
      | none => right; simp [q, e']
      | some ob => left; have := b.zin _ _ q; rw [e'] at this; cases this; rfl
    · show (if Z s.heap.objs.size = none then s.heap.get? s.heap.objs.size else none) = none
      rw [nzZ _ (Nat.le_refl _), if_pos rfl]; exact hLnone
    · exact Nat.ne_of_gt (x.above y c (mem_of_lookup e))
    · have hc : s.heap.objs.size ≤ c := Nat.le_of_lt (x.above y c (mem_of_lookup e))
      refine ⟨nzZ c hc, ?_, _, x.cell y c e⟩
      show (if Z c = none then s.heap.get? c else none) = none
      rw [nzZ c hc, if_pos rfl]; exact nz c hc
    · exact fun y z c e e' => name_of_addr x.apart (mem_of_lookup e) (mem_of_lookup e')
    · obtain ⟨v, d'', e', hm, r'⟩ := startLoc_lookup r hlen e
      cases e'
      have hxm : y ∈ xs := by rw [← hmap]; exact List.mem_map_of_mem hm
      refine ⟨v, ?_, r'⟩
      rcases hx y hxm with q | ⟨q, q'⟩
      · exact .inl ⟨q, _, hcall.ns, bindL_get (k := (callEnvC fd s.heap.objs.size a).kindOf) q hnd' hm⟩
      · obtain ⟨c, hc⟩ := Option.isSome_iff_exists.mp (q' (s.heap.objs.size + 1))
        refine .inr ⟨.inl q, c, hc, ?_⟩
        have := x.cell y c hc
        exact (bindC_get (k := (callEnvC fd s.heap.objs.size a).kindOf) q hnd' hm) ▸ this
    · refine ⟨fun _ => 0, fun y z es es' e => ?_, fun y es e => ?_⟩
      · obtain ⟨_, _, e', _⟩ := startLoc_lookup r hlen e; cases e'
      · obtain ⟨_, _, e', _⟩ := startLoc_lookup r hlen e; cases e'
  refine wp_seq ((h s.heap.objs.size).run _ Z _ _ R.deeper S₁) fun f s₂ ⟨Z₂, ρ₂, fl, le₂, S₂, hf, hΦ⟩ tok₂ => ?_
  cases hf with
  | next => cases hΦ; exact ⟨Z₂, ext_of_frame b le₂ S₂ tok₂, .none⟩
  | brk => exact hΦ.elim
  | cont => exact hΦ.elim
  | ret r' => cases hΦ; exact ⟨Z₂, ext_of_frame b le₂ S₂ tok₂, r'⟩

end
end Mine
end
section
open PySem PySem.W PyProof.Rows
set_option linter.unusedVariables false
namespace Mine

section
variable {G : Gnd} {env : Env} {Z Z' H H' : Zf} {ρ ρ' : Loc} {s s' : Shared} {A : Around} {E : Value → Shared → Prop} {n : Nat} {pos apos : Pos}

/-- what is known is forgotten -/
def Sub (ρ ρ' : Loc) : Prop := ∀ x b, ρ.lookup x = some b → ρ'.lookup x = some b
theorem St.weaken (S : St G env Z H ρ' s) (h : Sub ρ ρ') : St G env Z H ρ s :=
  { S with
    vars := fun x d e => S.vars x d (h x _ e)
    owns := let ⟨oa, hi, ho⟩ := S.owns; ⟨oa, fun x y ds es ex ey => hi x y ds es (h x _ ex) (h y _ ey), fun x ds e => ho x ds (h x _ e)⟩ }
theorem Sub.same : Sub ρ ρ := fun _ _ h => h
theorem Sub.trans {ρ'' : Loc} (a : Sub ρ ρ') (b : Sub ρ' ρ'') : Sub ρ ρ'' := fun x b' h => b x b' (a x b' h)
theorem sub_upd {x : Str} {b : B} (h : ρ.lookup x = none) : Sub ρ (upd ρ x b) := fun y c e => by
  rw [lookup_upd]
  rw [if_neg fun q => by rw [q, h] at e; cases e]
  exact e

/-- held objects are changed, or held anew, or no more -/
theorem St.shift (S : St G env Z H ρ s) {h' : Heap} {t : Nat} (T : Addr → Prop) (hT : ∀ a, T a → G.base.get? a = none ∧ (∀ y c, env.cells.lookup y = some c → c ≠ a) ∧ ((∃ o, H a = some o) ∨ s.heap.get? a = none))
    (hk : ∀ b ob, ¬ T b → s.heap.get? b = some ob → h'.get? b = some ob) (hH : ∀ b, ¬ T b → H' b = H b) (hH' : ∀ a o, T a → H' a = some o → h'.get? a = some o) (ht : s.toks ≤ t) : St G env Z H' ρ { s with heap := h', toks := t } := by
  have zT : ∀ a ob, Z a = some ob → ¬ T a := fun a ob h q => by
    rcases (hT a q).2.2 with ⟨o, e⟩ | e
    · have := S.dj a ob h; rw [e] at this; cases this
    · have := S.zin a ob h; rw [e] at this; cases this
  have nT : ∀ a ob, s.heap.get? a = some ob → H a = none → ¬ T a := fun a ob h hn q => by
    rcases (hT a q).2.2 with ⟨o, e⟩ | e
    · rw [hn] at e; cases e
    · rw [h] at e; cases e
  obtain ⟨m, oL, es, ep, eL, eL'⟩ := S.ns
  have lT := nT _ _ eL S.lh
  have cT : ∀ y c, env.cells.lookup y = some c → ¬ T c := fun y c e q => (hT c q).2.1 y c e rfl
  have has : ∀ y v, Has env s.heap y v → Has env h' y v := fun y v q => by
    rcases q with ⟨k, m, ⟨ob, es, ep, e1, e2⟩, e⟩ | ⟨k, c, e, ob, e1, e2⟩
    · exact .inl ⟨k, m, ⟨ob, es, ep, hk _ _ lT e1, e2⟩, e⟩
    · exact .inr ⟨k, c, e, ob, hk _ _ (cT y c e) e1, e2⟩
  refine ⟨S.fk, S.gl, S.bl, S.gens, S.os, Nat.lt_of_lt_of_le S.tk ht, fun a ob h => hk _ _ (zT a ob h) (S.zin a ob h), fun a ob h => ?_, fun a ob h => ?_, fun a ob h => ?_, ⟨m, oL, es, ep, hk _ _ lT eL, eL'⟩, S.lz, ?_, fun y c e => ?_, S.inj, fun y d e => ?_, ?_⟩
  · by_cases q : T a
    · exact hH' a ob q h
    · rw [hH a q] at h; exact hk _ _ q (S.hin a ob h)
  · rw [hH a (zT a ob h)]; exact S.dj a ob h
  · refine (S.bas a ob h).elim .inl fun q => .inr ?_
    rw [hH a fun z => by rw [(hT a z).1] at h; cases h]; exact q
  · rw [hH _ lT]; exact S.lh
  · obtain ⟨h0, h1, h2⟩ := S.cells y c e
    refine ⟨h0, fun hf => ?_, fun hf => ?_⟩
    · obtain ⟨a, b, v, ob, e1, e2⟩ := h1 hf
      exact ⟨a, by rw [hH _ (cT y c e)]; exact b, v, ob, hk _ _ (cT y c e) e1, e2⟩
    · obtain ⟨ob, h⟩ := h2 hf
      exact ⟨ob, by rw [hH _ (cT y c e)]; exact h⟩
  · obtain ⟨v, h, r⟩ := S.vars y d e; exact ⟨v, has y v h, r⟩
  · obtain ⟨oa, hi, h⟩ := S.owns
    refine ⟨oa, hi, fun y ds e => ?_⟩
    obtain ⟨g1, g2, g3, g4, g5, vs, k, g6, g7⟩ := h y ds e
    exact ⟨has _ _ g1, g2, by rw [hH _ (nT _ _ g6 g3)]; exact g3, g4, g5, vs, k, hk _ _ (nT _ _ g6 g3) g6, g7⟩

structure Tsts (G : Gnd) (env : Env) (n : Nat) (ρ : Loc) (ifs : List PySem.Expr) (ok : Bool) : Prop where
  run : ∀ A Z H s, Room n A → St G env Z H ρ s → wpAny (model G.prog G.w) A (forIn ifs true fun c r => if r = true then do let ok ← isTrue c env (eval c env); pure (ForInStep.yield ok) else pure (ForInStep.yield r)) (fun b s' => b = ok ∧ Ext Z s Z s') (fun _ _ => False) s
theorem tsts_nil : Tsts G env n ρ [] true := Tsts.mk fun A Z H s R S => wpAny_tests_nil ⟨rfl, S.same⟩
theorem tsts_one {c : PySem.Expr} {ok : Bool} (h : Tst G env n ρ c ok) : Tsts G env n ρ [c] ok := Tsts.mk fun A Z H s R S => wpAny_tests_one (h.run A Z H s R S)

/-- what stands while a comprehension's loop runs: its iterator and its list are held -/
structure CRun (G : Gnd) (env : Env) (n : Nat) (e : PySem.Expr) (k : Nat) (ρ : Loc) (ds : List D) (out : List D) : Prop where
  run : ∀ A Z H s I D fp P W vs m outs o, Room n A → St G env Z H ρ s → H I = some o → H D = some (listOf vs.toArray m) → I ≠ D → RepAll G Z vs outs → outs.length + out.length ≤ sizeLine →
    G.base.get? I = none → G.base.get? D = none → (∀ y c, env.cells.lookup y = some c → c ≠ I ∧ c ≠ D) →
    (∀ A' : Around, A'.handled = none → WalksG G A' I fp [I] ds.length P W) → (∀ b ∈ fp, b = I ∨ ∃ o, Z b = some o) → W 0 s.heap → (∀ i h, W i h → ∃ o T, h.get? I = some o ∧ o.cls = .type T ∧ ownsTuples T = false) →
    (∀ i v, P i v → ∃ d, ds[i]? = some d ∧ Rep G Z v d) →
    codeAny (model G.prog G.w) A (.compLoop e k (.ref I) (.ref D) env) (fun r s' => r = .ok .next ∧ ∃ Z' H' vs' m', Zle Z Z' ∧ (∀ b, b ≠ I → b ≠ D → H' b = H b) ∧ H' I = none ∧ H' D = some (listOf vs'.toArray m') ∧
      St G env Z' H' ρ s' ∧ RepAll G Z' vs' (outs ++ out)) s

theorem comp_start {elt : PySem.Expr} {gens : List Comprehension} {g : Comprehension} {scope : Scope} {k : Nat} {it acc : Value} {R : Result → Shared → Prop} {prog : Program} {w : World} (hg : gens[k]? = some g) (ha : g.is_async = 0)
    (h0 : codeAny (model prog w) A (.compLoop (.ListComp elt gens scope pos) k it acc env) R s)
    (h : wpAny (model prog w) A (pyIter it) (fun it' s' => codeAny (model prog w) A (.compLoop (.ListComp elt gens scope pos) k it' acc env) R s') (notedBy (model prog w) A env fun x s' => R (.error x) s') s) :
    codeAny (model prog w) A (.compStart (.ListComp elt gens scope pos) k it acc env) R s := by
  refine codeAny_of_tree ?_
  show wpAny _ _ ((compStart (.ListComp elt gens scope pos) k it acc env).onRaise (fun x => do noteFrame x env; standAt theWindowsPlace)) _ _ s
  refine wpAny_notedAt ?_
  unfold compStart
  simp only [clausesOf, hg, Option.elim_some, ha]
  show wpAny _ _ (ask >>= _) _ _ s
  refine wpAny_bind (wpAny_askSetting (wpAny_ite ?_))
  split
  · exact wpAny_pure (And.intro rfl h0)
  · exact wpAny_bind (wpAny_rule (wpAny_bind (wpAny_standAt (wpAny_bind (wpAny_mono h (fun it' s' h' => wpAny_pure (And.intro rfl h')) fun _ _ x => x)))))

def CInv (G : Gnd) (env : Env) (ρ : Loc) (Z H : Zf) (I D : Addr) {α : Type} (xs : List α) (F : α → List Mine.D) (outs : List Mine.D) (W : Nat → Heap → Prop) (j : Nat) (s : Shared) : Prop :=
  ∃ (i : Nat) (Zc Hc : Zf) (vs : List Value) (m : Nat) (o : Obj), j = xs.length - i ∧ i ≤ xs.length ∧ Zle Z Zc ∧ (∀ b, b ≠ I → b ≠ D → Hc b = H b) ∧ Hc I = some o ∧ Hc D = some (listOf vs.toArray m) ∧ St G env Zc Hc ρ s ∧ W i s.heap ∧
    RepAll G Zc vs (outs ++ (xs.take i).flatMap F)
/-- the last clause of a comprehension -/
theorem comp_last {elt tgt iter : PySem.Expr} {ifs : List PySem.Expr} {gens : List Comprehension} {scope : Scope} {k : Nat} {α : Type} {xs : List α} {mk : α → D} {F : α → List D}
    (he : ∀ it acc, compTurn (.ListComp elt gens scope pos) k it acc env = (do
      standAt iter.pos
      match ← pyNext it with
      | none => pure (.done .next)
      | some v =>
        letOwnedTupleGo tgt it v
        assign tgt env v
        let mut ok := true
        for c in ifs do
          if ok then ok ← isTrue c env (eval c env)
        if ok then
          (do let _ ← call (.builtin "list.append") [acc, ← eval elt env])
        again (.compLoop (.ListComp elt gens scope pos) k it acc env)))
    (item : ∀ a ∈ xs, ∃ ρ₁ ok, Asg G env tgt (mk a) ρ ρ₁ ∧ Sub ρ ρ₁ ∧ Tsts G env n ρ₁ ifs ok ∧ (ok = false → F a = []) ∧ (ok = true → ∃ x, Ev G env n ρ₁ elt x ∧ F a = [x])) :
    CRun G env n (.ListComp elt gens scope pos) k ρ (xs.map mk) (xs.flatMap F) := by
  constructor
  intro A Z H s I D fp P W vs m outs o R S hI hD hID hv hsz hBI hBD hC hW hfp hW0 hcls hP
  have W₀ := hW A R.handled
  refine codeAny_loop rfl (CInv G env ρ Z H I D xs F outs W) (fun j s hj => ?_) xs.length ⟨0, Z, H, vs, m, o, rfl, Nat.zero_le _, Zle.same, fun _ _ _ => rfl, hI, hD, S, hW0, by simpa using hv⟩
  obtain ⟨i, Zc, Hc, vs, m, o, rfl, hle, lec, hHc, hI, hD, Sc, hWi, hv⟩ := hj
  show wpAny _ A ((compTurn (.ListComp elt gens scope pos) k (.ref I) (.ref D) env).onRaise (fun x => do noteFrame x env; theTreesLotGoes x)) _ _ s
  refine wpAny_noted ?_
  rw [he]
  have len : (xs.map mk).length = xs.length := List.length_map ..
  by_cases hlt : i < xs.length
  · refine wpAny_bind (wpAny_standAt (wpAny_bind (wpAny_with_toks (Nat.le_refl s.toks) (W₀.item i s _ _ (by omega) Sc.tk hWi fun v h' tk pv hW' hk tok => ?_))))
    obtain ⟨d', hd', rv⟩ := hP i v pv
    obtain ⟨o', T, ho', hcT, hTT⟩ := hcls _ _ hW'
    obtain ⟨a, ha⟩ : ∃ a, xs[i]? = some a := ⟨xs[i], by simp [hlt]⟩
    have hd'' : d' = mk a := by rw [List.getElem?_map, ha] at hd'; simpa using hd'.symm
    subst hd''
    have S₁ : St G env Zc (Zadd Hc I o') ρ { s with heap := h', toks := tk } := Sc.shift (fun b => b = I) (fun b q => by subst q; exact ⟨hBI, fun y c e => (hC y c e).1, .inl ⟨_, hI⟩⟩) (fun b ob hb e => hk b ob (by simpa using hb) e)
      (fun b hb => if_neg hb) (fun b ob q e => by subst q; rw [Zadd.self] at e; cases e; exact ho') tok
    have hD₁ : Zadd Hc I o' D = some (listOf vs.toArray m) := by rw [show Zadd Hc I o' D = Hc D from if_neg (Ne.symm hID)]; exact hD
    refine wpAny_bind (wp_letOwned (s := { s with heap := h', toks := tk }) ho' hcT hTT ?_)
    obtain ⟨ρ₁, ok, hasg, hsub, htst, hno, hyes⟩ := item a (List.mem_of_getElem? ha)
    refine wpAny_bind (wp_seq (hasg.run A Zc _ _ v (R.less (Nat.zero_le _)) S₁ (rv.mono lec)) fun _ s₂ ⟨Z₂, le₂, S₂⟩ => ?_)
    refine wpAny_bind (wp_seq (htst.run A Z₂ _ s₂ R S₂) fun ok' s₃ ⟨eo, x₃⟩ => ?_)
    subst eo
    have S₃ := S₂.ext x₃
    have take_succ : (xs.take (i + 1)).flatMap F = (xs.take i).flatMap F ++ F a := by rw [List.take_add_one, ha]; simp
    have nextW : ∀ (Z₄ H₄ : Zf) (s₄ : Shared) (ρ₄ : Loc), Zle Zc Z₄ → H₄ I = some o' → St G env Z₄ H₄ ρ₄ s₄ → W (i + 1) s₄.heap := fun Z₄ H₄ s₄ ρ₄ le₄ hI₄ S₄ => W₀.frame _ _ _ hW' fun b hb ob e => by
      rcases hfp b hb with rfl | ⟨oz, hz⟩
      · rw [ho'] at e; cases e; exact S₄.hin _ _ hI₄
      · have e2 : h'.get? b = some oz := S₁.zin b oz (lec b oz hz)
        rw [e] at e2; cases e2
        exact S₄.zin _ _ (le₄ _ _ (lec _ _ hz))
    cases ok' with
    | false =>
      refine wpAny_pure ⟨rfl, xs.length - (i + 1), by omega, i + 1, Z₂, Zadd Hc I o', vs, m, o', rfl, by omega, lec.trans le₂, fun b h1 h2 => ?_, Zadd.self, hD₁, S₃.weaken hsub, nextW Z₂ _ s₃ ρ₁ le₂ Zadd.self S₃, ?_⟩
      · rw [show Zadd Hc I o' b = Hc b from if_neg h1]; exact hHc b h1 h2
      · rw [take_succ, hno rfl, List.append_nil]; exact hv.mono le₂
    | true =>
      obtain ⟨x, hx, hFx⟩ := hyes rfl
      refine wpAny_bind (wpAny_bind (wp_seq (hx.run A Z₂ _ s₃ R S₃) fun y s₄ ⟨Z₄, x₄, r₄⟩ => wpAny_bind ?_))
      have S₄ := S₃.ext x₄
      have oD := S₄.hin _ _ hD₁
      have hlenv : vs.length ≤ sizeLine := by
        have h1 := hv.length
        rw [List.length_append] at h1
        have h2 : ((xs.take i).flatMap F).length ≤ (xs.flatMap F).length := by
          conv => rhs; rw [← List.take_append_drop i xs, List.flatMap_append, List.length_append]
          omega
        omega
      refine append_at oD (fun h₅ hs₅ ho₅ => ?_) (by simpa using hlenv)
      have S₅ : St G env Z₄ (Zadd (Zadd Hc I o') D (listOf (vs ++ [y]).toArray (m + 1))) ρ₁ { s₄ with heap := h₅ } := S₄.shift (fun b => b = D) (fun b q => by subst q; exact ⟨hBD, fun y c e => (hC y c e).2, .inl ⟨_, hD₁⟩⟩)
        (fun b ob hb e => (hs₅.2 b hb).trans e) (fun b hb => if_neg hb) (fun b ob q e => by subst q; rw [Zadd.self] at e; cases e; rw [ho₅]; simp) (Nat.le_refl _)
      have hI₅ : Zadd (Zadd Hc I o') D (listOf (vs ++ [y]).toArray (m + 1)) I = some o' := by rw [show Zadd (Zadd Hc I o') D (listOf (vs ++ [y]).toArray (m + 1)) I = Zadd Hc I o' I from if_neg hID]; exact Zadd.self
      refine wpAny_pure (wpAny_pure ⟨rfl, xs.length - (i + 1), by omega, i + 1, Z₄, _, vs ++ [y], m + 1, o', rfl, by omega, lec.trans (le₂.trans x₄.le), fun b h1 h2 => ?_, hI₅, Zadd.self, S₅.weaken hsub, nextW Z₄ _ _ ρ₁ (le₂.trans x₄.le) hI₅ S₅, ?_⟩)
      · rw [show Zadd (Zadd Hc I o') D (listOf (vs ++ [y]).toArray (m + 1)) b = Zadd Hc I o' b from if_neg h2, show Zadd Hc I o' b = Hc b from if_neg h1]; exact hHc b h1 h2
      · rw [take_succ, hFx, ← List.append_assoc]; exact (hv.mono (le₂.trans x₄.le)).append (.cons r₄ .nil)
  · have hlen : i = xs.length := by omega
    subst hlen
    refine wpAny_bind (wpAny_standAt (wpAny_bind (wpAny_with_toks (Nat.le_refl s.toks) (W₀.done s _ _ (by rw [len]; exact hWi) fun h' tk hk tok => ?_))))
    refine wpAny_pure ⟨rfl, Zc, fun b => if b = I then none else Hc b, vs, m, lec, fun b h1 h2 => ?_, if_pos rfl, ?_, ?_, ?_⟩
    · exact (if_neg h1).trans (hHc b h1 h2)
    · exact (if_neg (Ne.symm hID)).trans hD
    · exact Sc.shift (fun b => b = I) (fun b q => by subst q; exact ⟨hBI, fun y c e => (hC y c e).1, .inl ⟨_, hI⟩⟩) (fun b ob hb e => hk b ob (by simpa using hb) e) (fun b hb => if_neg hb) (fun b ob q e => by have e' : (if b = I then none else Hc b) = some ob := e; rw [if_pos q] at e'; cases e') tok
    · rwa [List.take_length] at hv

end
end Mine
end
section
open PySem PySem.W PyProof.Rows
set_option linter.unusedVariables false
namespace Mine

section
variable {G : Gnd} {env : Env} {Z Z' H H' : Zf} {ρ ρ' ρc : Loc} {s s' : Shared} {A : Around} {E : Value → Shared → Prop} {n : Nat} {pos apos : Pos}

/-- what must be so of a comprehension's scope, seen from the frame around -/
structure Scoped (env : Env) (scope : Scope) (cl : List (Str × Addr)) (ρ ρc : Loc) : Prop where
  kind : scope.kind = .function
  names : ∀ x ∈ scope.names, x.2 = .local → scope.names.lookup x.1 = some .local
  nocell : ∀ y ∈ scope.names, y.2 ≠ .cell
  clos : closureFor scope env = pure cl
  cells : ∀ x c, cl.lookup x = some c → env.cells.lookup x = some c
  cap : ∀ x b, ρc.lookup x = some b → (∃ d, b = .val d) ∧ ρ.lookup x = some b ∧ env.kindOf x ≠ some .local ∧ (∃ c, cl.lookup x = some c) ∧ ((relabel scope env).names.lookup x = some .cell ∨ ((relabel scope env).names.lookup x = some .free ∧ (x == ("__classdict__" : Str)) = false))

def CompPost (G : Gnd) (Z : Zf) (s : Shared) (out : List D) (acc : Value) (C : Addr) (r : Result) (s' : Shared) : Prop :=
  r = .ok .next ∧ ∃ Z', Ext Z s Z' s' ∧ Rep G Z' acc (.list out) ∧ s.heap.get? C = none ∧ Z' C = none ∧ ∃ m, s'.heap.Ns C m

theorem comp_core {elt : PySem.Expr} {g : Comprehension} {gs : List Comprehension} {scope : Scope} {cl : List (Str × Addr)} {d : D} {ds out : List D} (R : Room n A) (S : St G env Z H ρ s) (K : Scoped env scope cl ρ ρc) (ha : g.is_async = 0)
    (h : Ev G env n ρ g.iter d) (hi : Itr G d ds) (run : ∀ C, CRun G (compEnvC scope cl C env) n (.ListComp elt (g :: gs) scope pos) 0 ρc ds out) (hsz : out.length ≤ sizeLine) :
    wpAny (model G.prog G.w) A (eval g.iter env) (fun x s₁ => wpAny (model G.prog G.w) A (pyIter x) (fun it s₂ => wpAny (model G.prog G.w) A (newList []) (fun acc s₃ =>
      wpAny (model G.prog G.w) A (newFunctionEnv scope env.globals cl [] env.qual none .none (some env)) (fun cenv s₄ =>
        codeAny (model G.prog G.w) A (.compStart (.ListComp elt (g :: gs) scope pos) 0 it acc { cenv with scope := relabel scope env }) (CompPost G Z s out acc cenv.locals) s₄) E s₃) E s₂) E s₁) E s := by
  refine wp_seq (h.run A Z H s R S) fun v s₁ ⟨Z₁, x₁, r₁⟩ => ?_
  have S₁ := S.ext x₁
  refine wp_seq (hi.run A Z₁ s₁ v (R.less (Nat.zero_le _)) S₁.bs r₁) fun it s₂ ⟨I, fp, P, W, e, x₂, hI, hW, hfp, hW0, hcls, hP⟩ => ?_
  subst e
  have S₂ := S₁.ext x₂
  refine wpAny_newObj_type (wpAny_newFunctionEnv K.nocell (by intro y hy; simp at hy) (fun h₁ hns₁ hsb₁ => ?_) K.kind)
  dsimp only at hns₁ hsb₁ ⊢
  generalize hH2 : s₂.heap.push { cls := .type "list", dict := none, data := .seq ([] : List Value).toArray } = H2 at hns₁ hsb₁ ⊢
  have hC : H2.objs.size = s₂.heap.objs.size + 1 := by rw [← hH2, Heap.size_push]
  have oldC : ∀ b ob, s₂.heap.get? b = some ob → b ≠ H2.objs.size ∧ b ≠ s₂.heap.objs.size := fun b ob e => by
    have := Heap.lt_size e
    rw [hC]
    exact ⟨Nat.ne_of_lt (Nat.lt_succ_of_lt this), Nat.ne_of_lt this⟩
  have old : ∀ b o, s₂.heap.get? b = some o → h₁.get? b = some o := fun b o e => hsb₁.extBut b o (oldC b o e).1 (Heap.get?_push_of_some _ (hH2 ▸ Heap.get?_push_of_some _ e))
  have hDC : s₂.heap.objs.size ≠ H2.objs.size := by rw [hC]; exact Nat.ne_of_lt (Nat.lt_succ_self _)
  have hDo : h₁.get? s₂.heap.objs.size = some (listOf ([] : List Value).toArray 0) := hsb₁.extBut _ _ hDC (Heap.get?_push_of_some _ (hH2 ▸ Heap.get?_push_size _ rfl))
  have hCn : s₂.heap.get? H2.objs.size = none := by
    cases q : s₂.heap.get? H2.objs.size with
    | none => rfl
    | some ob => exact absurd rfl (oldC _ ob q).1
  have hDn : s₂.heap.get? s₂.heap.objs.size = none := get?_size_none _
  obtain ⟨oI, _, hoI, _⟩ := hcls 0 _ hW0
  have zn : ∀ b, s₂.heap.get? b = none → Z₁ b = none := fun b e => by
    cases q : Z₁ b with
    | none => rfl
    | some ob => have := S₂.zin b ob q; rw [e] at this; cases this
  have hIn : Z₁ I = none := by
    cases q : Z₁ I with
    | none => rfl
    | some ob => have := S₁.zin I ob q; rw [hI] at this; cases this
  let HH : Zf := fun b => if Z₁ b = none then (if b = H2.objs.size then none else h₁.get? b) else none
  have HHof : ∀ b ob, HH b = some ob → Z₁ b = none ∧ b ≠ H2.objs.size ∧ h₁.get? b = some ob := fun b ob e => by
    have e' : (if Z₁ b = none then (if b = H2.objs.size then none else h₁.get? b) else none) = some ob := e
    split at e'
    · rename_i q
      split at e'
      · cases e'
      · rename_i q'; exact ⟨q, q', e'⟩
    · cases e'
  have HHto : ∀ b ob, Z₁ b = none → b ≠ H2.objs.size → h₁.get? b = some ob → HH b = some ob := fun b ob q q' e => by
    show (if Z₁ b = none then (if b = H2.objs.size then none else h₁.get? b) else none) = some ob
    rw [if_pos q, if_neg q']; exact e
  have cellNew : ∀ x c, cl.lookup x = some c → Z₁ c = none ∧ ∃ ob, s₂.heap.get? c = some ob := fun x c e => by
    obtain ⟨_, h1, h2⟩ := S₂.cells x c (K.cells x c e)
    cases hf : env.func.isSome with
    | true => obtain ⟨a, _, v, ob, e1, _⟩ := h1 hf; exact ⟨a, ob, e1⟩
    | false =>
      obtain ⟨ob, e1⟩ := h2 hf
      refine ⟨?_, ob, S₂.hin c ob e1⟩
      cases q : Z₁ c with
      | none => rfl
      | some oz => have := S₂.dj c oz q; rw [e1] at this; cases this
  have SC : St G (compEnvC scope cl H2.objs.size env) Z₁ HH ρc { s₂ with heap := h₁, toks := s₂.toks + ([] : List (Str × Value)).length } := by
    refine ⟨K.kind, S₂.gl, S₂.bl, S₂.gens, S₂.os, S₂.tk, fun b ob e => old b ob (S₂.zin b ob e), fun b ob e => (HHof b ob e).2.2, fun b ob e => ?_, fun b ob e => ?_, ⟨_, hns₁⟩, zn _ hCn, ?_, fun x c e => ⟨?_, fun hf => (by cases hf), fun _ => ?_⟩, fun x y c e e' => S₂.inj x y c (K.cells x c e) (K.cells y c e'), fun x d' e => ?_, ?_⟩
    · show (if Z₁ b = none then (if b = H2.objs.size then none else h₁.get? b) else none) = none
      rw [if_neg (by rw [e]; intro q; cases q)]
    · have e2 := S₂.keepBase b ob e
      cases q : Z₁ b with
      | none => exact .inr (HHto b ob q (oldC b ob e2).1 (old b ob e2))
      | some oz => left; have := S₂.zin b oz q; rw [e2] at this; cases this; rfl
    · show (if Z₁ H2.objs.size = none then (if H2.objs.size = H2.objs.size then none else h₁.get? H2.objs.size) else none) = none
      rw [if_pos (zn _ hCn), if_pos rfl]
    · obtain ⟨_, ob, e1⟩ := cellNew x c e
      exact (oldC c ob e1).1
    · obtain ⟨hz, ob, e1⟩ := cellNew x c e
      exact ⟨ob, HHto c ob hz (oldC c ob e1).1 (old c ob e1)⟩
    · obtain ⟨_, e1, hk, ⟨c, hc⟩, hkd⟩ := K.cap x _ e
      obtain ⟨u, hu, ru⟩ := S₂.vars x d' e1
      refine ⟨u, ?_, ru⟩
      rcases hu with ⟨k, _⟩ | ⟨_, c', e2, n2⟩
      · exact absurd k hk
      · rw [K.cells x c hc] at e2; cases e2
        refine .inr ⟨hkd, c, hc, n2.keeps old⟩
    · refine ⟨fun _ => 0, fun x y es es' e => ?_, fun x es e => ?_⟩
      · obtain ⟨⟨_, e'⟩, _⟩ := K.cap x _ e; cases e'
      · obtain ⟨⟨_, e'⟩, _⟩ := K.cap x _ e; cases e'
  have nIC := (oldC I oI hoI).1
  have nID := (oldC I oI hoI).2
  have bn : ∀ b, s₁.heap.get? b = none → G.base.get? b = none := fun b e => by
    cases q : G.base.get? b with
    | none => rfl
    | some ob => have := S₁.keepBase b ob q; rw [e] at this; cases this
  have hDn₁ : s₁.heap.get? s₂.heap.objs.size = none := by
    cases q : s₁.heap.get? s₂.heap.objs.size with
    | none => rfl
    | some ob => rw [x₂.keep _ _ q] at hDn; cases hDn
  have loop := (run H2.objs.size).run A Z₁ HH _ I s₂.heap.objs.size fp P W [] 0 [] oI R SC (HHto I oI hIn nIC (old I oI hoI)) (HHto _ _ (zn _ hDn) hDC hDo) nID .nil (by simpa using hsz) (bn _ hI) (bn _ hDn₁)
    (fun x c e => by
      obtain ⟨hz, ob, e1⟩ := cellNew x c e
      refine ⟨fun q => ?_, (oldC c ob e1).2⟩
      obtain ⟨_, h1, h2⟩ := S₁.cells x c (K.cells x c e)
      cases hf : env.func.isSome with
      | true => obtain ⟨_, _, v, ob', e2, _⟩ := h1 hf; rw [q, hI] at e2; cases e2
      | false => obtain ⟨ob', e2⟩ := h2 hf; have := S₁.hin _ _ e2; rw [q, hI] at this; cases this)
    hW hfp ((hW A R.handled).frame _ _ _ hW0 fun b _ ob e => old b ob e) hcls hP
  have fin : ∀ (r : Result) (s' : Shared), (s₂.toks ≤ s'.toks ∧ r = .ok .next ∧ ∃ Z' H' vs' m', Zle Z₁ Z' ∧ (∀ b, b ≠ I → b ≠ s₂.heap.objs.size → H' b = HH b) ∧ H' I = none ∧ H' s₂.heap.objs.size = some (listOf vs'.toArray m') ∧
      St G (compEnvC scope cl H2.objs.size env) Z' H' ρc s' ∧ RepAll G Z' vs' ([] ++ out)) → CompPost G Z s out (.ref s₂.heap.objs.size) H2.objs.size r s' := by
    rintro r s' ⟨tok, rfl, Z', H', vs', m', le', hH', hI', hD', S', hv'⟩
    have hDz : Z' s₂.heap.objs.size = none := by
      cases q : Z' s₂.heap.objs.size with
      | none => rfl
      | some ob => have := S'.dj _ ob q; rw [hD'] at this; cases this
    have le := Zadd.le (o := listOf vs'.toArray m') hDz
    have keep : ∀ b ob, s₁.heap.get? b = some ob → b ≠ I ∧ b ≠ s₂.heap.objs.size ∧ b ≠ H2.objs.size := fun b ob e => by
      have e2 := x₂.keep b ob e
      exact ⟨fun q => (by rw [q, hI] at e; cases e), (oldC b ob e2).2, (oldC b ob e2).1⟩
    refine ⟨rfl, Zadd Z' s₂.heap.objs.size (listOf vs'.toArray m'), x₁.trans ⟨le'.trans le, fun b ob e => ?_, fun b ob e => ?_, fun b ob e => ?_, S'.gens.trans S₁.gens.symm, S'.os.trans S₁.os.symm, Nat.le_trans x₂.tk tok⟩, .list Zadd.self (hv'.mono le), ?_, ?_, S'.ns⟩
    · obtain ⟨q1, q2, q3⟩ := keep b ob e
      cases q : Z₁ b with
      | none => exact S'.hin b ob (by rw [hH' b q1 q2]; exact HHto b ob q q3 (old b ob (x₂.keep b ob e)))
      | some oz => have := S₁.zin b oz q; rw [e] at this; cases this; exact S'.zin b ob (le' b ob q)
    · by_cases q : b = s₂.heap.objs.size
      · subst q; rw [Zadd.self] at e; cases e; exact S'.hin _ _ hD'
      · rw [show Zadd Z' s₂.heap.objs.size (listOf vs'.toArray m') b = Z' b from if_neg q] at e
        exact S'.zin b ob e
    · by_cases q : b = s₂.heap.objs.size
      · subst q; exact .inr hDn₁
      · rw [show Zadd Z' s₂.heap.objs.size (listOf vs'.toArray m') b = Z' b from if_neg q] at e
        cases q1 : s₁.heap.get? b with
        | none => exact .inr rfl
        | some o1 =>
          left
          obtain ⟨p1, p2, p3⟩ := keep b o1 q1
          cases q2 : Z₁ b with
          | some oz => have := le' b oz q2; rw [e] at this; cases this; rfl
          | none =>
            have h1 := HHto b o1 q2 p3 (old b o1 (x₂.keep b o1 q1))
            have := S'.dj b ob e
            rw [hH' b p1 p2, h1] at this; cases this
    · cases q : s.heap.get? H2.objs.size with
      | none => rfl
      | some ob => have := x₂.keep _ _ (x₁.keep _ _ q); rw [hCn] at this; cases this
    · rw [show Zadd Z' s₂.heap.objs.size (listOf vs'.toArray m') H2.objs.size = Z' H2.objs.size from if_neg (Ne.symm hDC)]
      exact S'.lz
  have loop' := codeAny_mono (codeAny_toks_of (n := s₂.toks) (by exact Nat.le_add_right _ _) loop) fin
  exact comp_start rfl ha loop' ((hW A R.handled).self 0 _ _ _ ((hW A R.handled).frame _ _ _ hW0 fun b _ ob e => old b ob e) loop')

theorem eval_ListComp' (elt : PySem.Expr) (g : Comprehension) (gs : List Comprehension) (scope : Scope) (pos : Pos) (ha : g.is_async = 0) (use : Option (Value → Sem Unit)) :
    comprehension (.ListComp elt (g :: gs) scope pos) scope env (firstIterPos (g :: gs) pos) (newList []) (firstAsync (g :: gs)) (firstIter (g :: gs) env) use =
      comprehension (.ListComp elt (g :: gs) scope pos) scope env (firstIterPos (g :: gs) pos) (newList []) false (eval g.iter env) use := by
  obtain ⟨t, i, f, a⟩ := g
  subst ha
  rfl

/-- y = [.. for .. in ..] on one line -/
theorem ex_assign_comp {y : Str} {py spos : Pos} {elt : PySem.Expr} {g : Comprehension} {gs : List Comprehension} {scope : Scope} {cl : List (Str × Addr)} {d : D} {ds out : List D} {Φ : Fl → Loc → Prop} (K : Scoped env scope cl ρ ρc) (ha : g.is_async = 0) (hs : ∀ x, foldedSetIterable g.iter env x = pure x)
    (hsw : swapsWith (.ListComp elt (g :: gs) scope pos) (some (.Name y py)) spos.line env = pure true)
    (h : Ev G env n ρ g.iter d) (hi : Itr G d ds) (run : ∀ C, CRun G (compEnvC scope cl C env) n (.ListComp elt (g :: gs) scope pos) 0 ρc ds out) (hsz : out.length ≤ sizeLine)
    (hc : Can env y) (k : Φ .next (upd ρ y (.val (.list out)))) : Ex G env n ρ (.Assign [.Name y py] (.ListComp elt (g :: gs) scope pos) spos) Φ := by
  constructor
  intro A Z H s R S
  rw [exec_Assign_Name_used _ _ _ _ hsw]
  refine wpAny_bind (wpAny_standAt (wpAny_bind ?_))
  show wpAny _ A (do let _ ← comprehension (.ListComp elt (g :: gs) scope pos) scope env (firstIterPos (g :: gs) pos) (newList []) (firstAsync (g :: gs)) (firstIter (g :: gs) env) (some (assign (.Name y py) env))) _ _ s
  rw [eval_ListComp' elt g gs scope pos ha (some (assign (.Name y py) env))]
  refine wpAny_bind (wpAny_mono (wpAny_comprehension_free (use := some (assign (.Name y py) env)) (Q := fun _ s' => ExPost G env Z H Φ .next s') rfl hs K.clos K.kind K.names
    (wpAny_mono (comp_core R S K ha h hi run hsz) (fun x s₁ h₁ => wpAny_mono h₁ (fun it s₂ h₂ => wpAny_mono h₂ (fun acc s₃ h₃ => wpAny_mono h₃ (fun cenv s₄ h₄ => codeAny_mono h₄ fun r s' hr => ?_) fun _ _ e => e) fun _ _ e => e) fun _ _ e => e) fun _ _ e => e)) (fun _ s' hq => wpAny_pure (wpAny_pure hq)) fun _ _ e => e)
  obtain ⟨rfl, Z', x, r, hC, hZC, m, hm⟩ := hr
  show wpAny _ A (assign (.Name y py) env acc) _ _ s'
  obtain ⟨oC, es, ep, hoC, hm'⟩ := id hm
  have S' := S.ext x
  have hB : G.base.get? cenv.locals = none := by
    cases q : G.base.get? cenv.locals with
    | none => rfl
    | some ob => have := S.keepBase _ ob q; rw [hC] at this; cases this
  have hH : H cenv.locals = none := by
    cases q : H cenv.locals with
    | none => rfl
    | some ob => have := S.hin _ ob q; rw [hC] at this; cases this
  have hCc : ∀ z c, env.cells.lookup z = some c → c ≠ cenv.locals := fun z c e q => by
    obtain ⟨_, h1, h2⟩ := S.cells z c e
    cases hf : env.func.isSome with
    | true => obtain ⟨_, _, v, ob', e2, _⟩ := h1 hf; rw [q, hC] at e2; cases e2
    | false => obtain ⟨ob', e2⟩ := h2 hf; have := S.hin _ _ e2; rw [q, hC] at this; cases this
  have hL : env.locals ≠ cenv.locals := fun q => by
    obtain ⟨m₀, o₀, _, _, e0, _⟩ := S.ns
    rw [q, hC] at e0; cases e0
  have SH : St G env Z' (Zadd H cenv.locals oC) ρ s' := by
    have ne : ∀ b, b ≠ cenv.locals → Zadd H cenv.locals oC b = H b := fun b hb => if_neg hb
    refine ⟨S'.fk, S'.gl, S'.bl, S'.gens, S'.os, S'.tk, S'.zin, fun a ob e => ?_, fun a ob e => ?_, fun a ob e => (S'.bas a ob e).elim .inl (fun q => .inr (Zadd.le hH _ _ q)), S'.ns, S'.lz, ?_, fun z c e => ?_, S'.inj, S'.vars, ?_⟩
    · by_cases q : a = cenv.locals
      · subst q; rw [Zadd.self] at e; cases e; exact hoC
      · rw [ne a q] at e; exact S'.hin a ob e
    · rw [ne a fun q => by rw [q, hZC] at e; cases e]; exact S'.dj a ob e
    · rw [ne _ hL]; exact S'.lh
    · obtain ⟨h0, h1, h2⟩ := S'.cells z c e
      refine ⟨h0, fun hf => ?_, fun hf => ?_⟩
      · obtain ⟨a, b, c'⟩ := h1 hf
        exact ⟨a, by rw [ne _ (hCc z c e)]; exact b, c'⟩
      · obtain ⟨ob, h⟩ := h2 hf
        exact ⟨ob, Zadd.le hH _ _ h⟩
    · obtain ⟨oa, hi, ho⟩ := S.owns
      refine ⟨oa, hi, fun z es e => ?_⟩
      obtain ⟨g1, g2, g3, g4, g5, vs, k, g6, g7⟩ := ho z es e
      exact ⟨g1.keeps x.keep, ext_none x g2 ⟨_, g6⟩, by rw [ne _ fun q => by rw [q, hC] at g6; cases g6]; exact g3, g4, g5, vs, k, x.keep _ _ g6, g7.mono x.le⟩
  refine wpAny_assign_Name (wp_seq (st_store SH r hc) fun _ s₅ S₅ => ?_)
  refine ⟨m, ⟨oC, es, ep, S₅.hin _ _ Zadd.self, hm'⟩, fun h₆ hs₆ => ?_⟩
  exact ⟨Z', _, .next, x.le, S₅.drop (t := s₅.toks) hB hCc hH (fun b ob hb e => (hs₆.2 b hb).trans e) (Nat.le_refl _), .next, k⟩

end
end Mine
end
section
open PySem PySem.W PyProof.Rows
set_option linter.unusedVariables false
namespace Mine

section
variable {G : Gnd} {env : Env} {Z Z' H H' : Zf} {ρ ρ' ρc : Loc} {s s' : Shared} {A : Around} {E : Value → Shared → Prop} {n : Nat} {pos apos : Pos}

theorem Bs.y {v : Value} {d : D} {t : Nat} (b : Bs G Z s) (ht : s.toks ≤ t) (r : Rep G Z v d) : ∃ Z', Ext Z s Z' { s with toks := t } ∧ Rep G Z' v d := ⟨Z, Ext.tok b.zin ht, r⟩

-- whole numbers
theorem op_add_int {a b : Int} : Op2 G (binaryOp .Add) (.int a) (.int b) (.int (a + b)) := Op2.mk fun A Z s v₁ v₂ R b r₁ r₂ => by cases r₁; cases r₂; exact add_int (b.y (Nat.le_succ _) (.int _ _))
theorem op_sub_int {a b : Int} : Op2 G (binaryOp .Sub) (.int a) (.int b) (.int (a - b)) := Op2.mk fun A Z s v₁ v₂ R b r₁ r₂ => by cases r₁; cases r₂; exact sub_int (b.y (Nat.le_succ _) (.int _ _))
theorem op_fdiv_int {a b : Int} (hb : b ≠ 0) (hp : Builtin.divisionGoesByPylong a b = false) : Op2 G (binaryOp .FloorDiv) (.int a) (.int b) (.int (a.fdiv b)) := Op2.mk fun A Z s v₁ v₂ R b r₁ r₂ => by cases r₁; cases r₂; exact floordiv_int hb (b.y (Nat.le_succ _) (.int _ _)) (.inl hp)
theorem op_mod_int {a b : Int} (hb : b ≠ 0) : Op2 G (binaryOp .Mod) (.int a) (.int b) (.int (a.fmod b)) := Op2.mk fun A Z s v₁ v₂ R b r₁ r₂ => by cases r₁; cases r₂; exact mod_int' hb (b.y (Nat.le_succ _) (.int _ _))
theorem op_iadd_int {a b : Int} : Op2 G (inplaceOp .Add) (.int a) (.int b) (.int (a + b)) := Op2.mk fun A Z s v₁ v₂ R b r₁ r₂ => by cases r₁; cases r₂; exact iadd_int (b.y (Nat.le_succ _) (.int _ _))
theorem op_eq_int {a b : Int} : Op2 G (compareOp .Eq) (.int a) (.int b) (.bool (a == b)) := Op2.mk fun A Z s v₁ v₂ R b r₁ r₂ => by cases r₁; cases r₂; exact eq_int ⟨Z, b.same, .bool _⟩
theorem op_ne_int {a b : Int} : Op2 G (compareOp .NotEq) (.int a) (.int b) (.bool (a != b)) := Op2.mk fun A Z s v₁ v₂ R b r₁ r₂ => by cases r₁; cases r₂; exact ne_int ⟨Z, b.same, .bool _⟩
theorem op_lt_int {a b : Int} : Op2 G (compareOp .Lt) (.int a) (.int b) (.bool (decide (a < b))) := Op2.mk fun A Z s v₁ v₂ R b r₁ r₂ => by cases r₁; cases r₂; exact lt_int ⟨Z, b.same, .bool _⟩
theorem op_gt_int {a b : Int} : Op2 G (compareOp .Gt) (.int a) (.int b) (.bool (decide (b < a))) := Op2.mk fun A Z s v₁ v₂ R b r₁ r₂ => by cases r₁; cases r₂; exact gt_int ⟨Z, b.same, .bool _⟩
theorem op_le_int {a b : Int} : Op2 G (compareOp .LtE) (.int a) (.int b) (.bool (decide (a ≤ b))) := Op2.mk fun A Z s v₁ v₂ R b r₁ r₂ => by cases r₁; cases r₂; exact le_int ⟨Z, b.same, .bool _⟩
theorem op_ge_int {a b : Int} : Op2 G (compareOp .GtE) (.int a) (.int b) (.bool (decide (b ≤ a))) := Op2.mk fun A Z s v₁ v₂ R b r₁ r₂ => by cases r₁; cases r₂; exact ge_int ⟨Z, b.same, .bool _⟩

-- texts
theorem op_add_str {x y : Str} (h : x.length + y.length ≤ sizeLine) : Op2 G (binaryOp .Add) (.str x) (.str y) (.str (x ++ y)) := Op2.mk fun A Z s v₁ v₂ R b r₁ r₂ => by cases r₁; cases r₂; exact wp_tok (add_str (fun t k tok => b.y tok (.str _ _)) h)
theorem op_iadd_str {x y : Str} (h : x.length + y.length ≤ sizeLine) : Op2 G (inplaceOp .Add) (.str x) (.str y) (.str (x ++ y)) := Op2.mk fun A Z s v₁ v₂ R b r₁ r₂ => by cases r₁; cases r₂; exact wp_tok (iadd_str (fun t k tok => b.y tok (.str _ _)) h)
theorem op_eq_str {x y : Str} : Op2 G (compareOp .Eq) (.str x) (.str y) (.bool (x == y)) := Op2.mk fun A Z s v₁ v₂ R b r₁ r₂ => by cases r₁; cases r₂; exact eq_str ⟨Z, b.same, .bool _⟩
theorem op_ne_str {x y : Str} : Op2 G (compareOp .NotEq) (.str x) (.str y) (.bool (x != y)) := Op2.mk fun A Z s v₁ v₂ R b r₁ r₂ => by cases r₁; cases r₂; exact ne_str ⟨Z, b.same, .bool _⟩
/-- is the one text in the other -/
def tin (y x : Str) : Bool := !(Builtin.Str.occurrences x y 0 x.length 1).isEmpty
theorem op_in_str {x y : Str} : Op2 G (compareOp .In) (.str y) (.str x) (.bool (tin y x)) := Op2.mk fun A Z s v₁ v₂ R b r₁ r₂ => by cases r₁; cases r₂; exact PyProof.Rows.in_str ⟨Z, b.same, .bool _⟩
theorem op_notin_str {x y : Str} : Op2 G (compareOp .NotIn) (.str y) (.str x) (.bool (!tin y x)) := Op2.mk fun A Z s v₁ v₂ R b r₁ r₂ => by cases r₁; cases r₂; exact notIn_str ⟨Z, b.same, .bool _⟩

theorem bf_len_str {x : Str} (h : x.length ≤ sizeLine) : BF G "len" [.str x] (.int x.length) := BF.mk fun A Z s vs R b r => by
  cases r with | cons r rs => cases rs; cases r; exact SBL.len (by rw [sizeLine_eq] at h; omega) (b.y (by omega) (.int _ _))
theorem isList_of {a : Addr} {vs : List Value} {k : Nat} {h : Heap} (e : h.get? a = some (listOf vs.toArray k)) : h.IsList a vs.toArray := ⟨_, e, rfl, _, rfl⟩
theorem isTuple_of {a : Addr} {vs : List Value} {k : Nat} {h : Heap} (e : h.get? a = some { cls := .type "tuple", data := .seq vs.toArray k }) : h.IsTuple a vs.toArray := ⟨_, e, rfl, _, rfl⟩
theorem bf_len_list {ds : List D} (h : ds.length ≤ sizeLine) : BF G "len" [.list ds] (.int ds.length) := BF.mk fun A Z s vs R b r => by
  cases r with
  | cons r rs =>
    cases rs
    cases r with
    | list hz ra => exact len_list (isList_of (b.zin _ _ hz)) (by rw [List.size_toArray, ra.length]; rw [sizeLine_eq] at h; omega) (b.y (by omega) (by rw [List.size_toArray, ra.length]; exact .int _ _))
theorem bf_chr {i : Int} (h0 : 0 ≤ i) (h1 : i ≤ 1114111) : BF G "chr" [.int i] (.str ⟨#[i.toNat]⟩) := BF.mk fun A Z s vs R b r => by
  cases r with | cons r rs => cases rs; cases r; exact chr_of_range h0 h1 (b.y (Nat.le_succ _) (.str _ _))

-- truth
-- items
theorem slOk (slice : PySem.Expr) (o i : Value) : ∃ ops, subscripted slice false o i = operate ops (getItem o i) := by
  unfold subscripted
  split
  · exact ⟨_, rfl⟩
  · rename_i h; cases h
  · exact ⟨_, rfl⟩
theorem tail_all {value slice : PySem.Expr} {o i : Value} {T id : String} {Q : Value → Shared → Prop} (hT : s.TypeIs o T) (hl : typeLookup (.type T) "__getitem__" = pure (some (.builtin id))) (hg : wpAny (model G.prog G.w) A (getItem o i) Q E s) :
    wpAny (model G.prog G.w) A (subscriptTail value slice o i) Q E s := let ⟨_, e⟩ := slOk slice o i; tail_any hT hl hg e

theorem sb_str {value slice : PySem.Expr} {x : Str} {i : Int} {c : Nat} (h0 : 0 ≤ i) (hb : i < 2 ^ 63) (hc : x.cps[i.toNat]? = some c) : Sb G value slice (.str x) (.int i) (.str ⟨#[c]⟩) := Op2.mk fun A Z s v₁ v₂ R b r₁ r₂ => by
  cases r₁; cases r₂
  have hlt : i.toNat < x.cps.size := (Array.getElem?_eq_some_iff.mp hc).1
  have hl : x.length = x.cps.size := rfl
  refine tail_all (typeIs_str _ _ _) F.slot_str_getitem.lookup (PyProof.Rows.getItem_str (by simp; omega) ?_ (b.y (Nat.le_succ _) (.str _ _)))
  have e : seqIndex? i x.length = some i.toNat := by
    unfold seqIndex?
    have h1 : ¬ i < 0 := by omega
    have h2 : i < (x.length : Int) := by rw [hl]; omega
    simp [h1, h0, h2]
  rw [e]; exact hc
theorem sb_list {value slice : PySem.Expr} {ds : List D} {i : Int} {d : D} (h0 : 0 ≤ i) (h1 : i < 2 ^ 63) (hd : ds[i.toNat]? = some d) : Sb G value slice (.list ds) (.int i) d := Op2.mk fun A Z s v₁ v₂ R b r₁ r₂ => by
  cases r₂
  cases r₁ with
  | list hz ra =>
    obtain ⟨v, hv, rv⟩ := ra.get hd
    have hl := isList_of (b.zin _ _ hz)
    exact tail_all hl.typeIs slot_list_getitem.lookup (wpAny_getItem_list hl h0 h1 (by simpa using hv) ⟨Z, b.same, rv⟩)
theorem sb_tup {value slice : PySem.Expr} {ds : List D} {i : Int} {j : Nat} {d : D} (hlo : -(2 ^ 63) ≤ i) (hhi : i < 2 ^ 63) (hj : seqIndex? i ds.length = some j) (hd : ds[j]? = some d) : Sb G value slice (.tup ds) (.int i) d := Op2.mk fun A Z s v₁ v₂ R b r₁ r₂ => by
  cases r₂
  cases r₁ with
  | tup hz ra =>
    obtain ⟨v, hv, rv⟩ := ra.get hd
    have hl : IsTup s.heap _ _ := isTuple_of (b.zin _ _ hz)
    exact tail_all hl.typeIs slot_tuple_getitem.lookup (getItem_tuple hl hlo hhi (by rw [List.size_toArray, ra.length]; exact hj) (by simpa using hv) ⟨Z, b.same, rv⟩)

-- tables
def dget (ks : List Str) (ds : List D) (x : Str) : Option D := (ks.zip ds).lookup x
theorem dget_some : ∀ {kvs : List (Str × Value)} {ds : List D} {x : Str} {d : D}, RepAll G Z (kvs.map (·.2)) ds → dget (kvs.map (·.1)) ds x = some d → ∃ v, valueAt kvs x = some v ∧ Rep G Z v d
  | [], _, _, _, _, h => by simp [dget] at h
  | (k, v) :: kvs, _, x, d, .cons r rs, h => by
    unfold dget at h
    simp only [List.map_cons, List.zip_cons_cons, List.lookup_cons] at h
    by_cases q : x = k
    · subst q; simp at h; subst h; exact ⟨v, by simp [valueAt], r⟩
    · rw [beq_eq_false_iff_ne.mpr q] at h
      obtain ⟨w, e, rw'⟩ := dget_some rs h
      exact ⟨w, by simpa [valueAt, Ne.symm q] using e, rw'⟩
theorem dget_none : ∀ {kvs : List (Str × Value)} {ds : List D} {x : Str}, RepAll G Z (kvs.map (·.2)) ds → dget (kvs.map (·.1)) ds x = none → valueAt kvs x = none
  | [], _, _, _, _ => rfl
  | (k, v) :: kvs, _, x, .cons r rs, h => by
    unfold dget at h
    simp only [List.map_cons, List.zip_cons_cons, List.lookup_cons] at h
    by_cases q : x = k
    · subst q; simp at h
    · rw [beq_eq_false_iff_ne.mpr q] at h
      simpa [valueAt, Ne.symm q] using dget_none rs h
theorem dget_isSome {kvs : List (Str × Value)} {ds : List D} {x : Str} (r : RepAll G Z (kvs.map (·.2)) ds) : (valueAt kvs x).isSome = (dget (kvs.map (·.1)) ds x).isSome := by
  cases h : dget (kvs.map (·.1)) ds x with
  | none => rw [dget_none r h]; rfl
  | some d => obtain ⟨v, e, _⟩ := dget_some r h; rw [e]; rfl
theorem dictOf_of {a : Addr} {o : Obj} {h : Heap} {kvs : List (Str × Value)} (e : h.get? a = some o) (hd : o.IsDictOf (strKind G.prog G.w) kvs) : h.DictOf (strKind G.prog G.w) a kvs := Heap.dictOf_iff.mpr ⟨o, e, hd⟩
theorem op_in_dict {ks : List Str} {ds : List D} {x : Str} : Op2 G (compareOp .In) (.str x) (.dict ks ds) (.bool (dget ks ds x).isSome) := Op2.mk fun A Z s v₁ v₂ R b r₁ r₂ => by
  cases r₁
  cases r₂ with
  | dict hz hs hd ra => exact wpAny_in_of (strKind_is _ _ _ _) hs (dictOf_of (b.zin _ _ hz) hd).mapOf (b.y (Nat.le_succ _) (by rw [dget_isSome ra]; exact .bool _))
theorem op_notin_dict {ks : List Str} {ds : List D} {x : Str} : Op2 G (compareOp .NotIn) (.str x) (.dict ks ds) (.bool (!(dget ks ds x).isSome)) := Op2.mk fun A Z s v₁ v₂ R b r₁ r₂ => by
  cases r₁
  cases r₂ with
  | dict hz hs hd ra => exact wpAny_notIn_of (strKind_is _ _ _ _) hs (dictOf_of (b.zin _ _ hz) hd).mapOf (b.y (Nat.le_succ _) (by rw [dget_isSome ra]; exact .bool _))
theorem sb_dict {value slice : PySem.Expr} {ks : List Str} {ds : List D} {x : Str} {d : D} (h : dget ks ds x = some d) : Sb G value slice (.dict ks ds) (.str x) d := Op2.mk fun A Z s v₁ v₂ R b r₁ r₂ => by
  cases r₂
  cases r₁ with
  | dict hz hs hd ra =>
    obtain ⟨v, e, rv⟩ := dget_some ra h
    have hm := dictOf_of (b.zin _ _ hz) hd
    exact tail_all hm.typeIs slot_dict_getitem.lookup (wpAny_getItem_of (strKind_is _ _ _ _) hm.mapOf e (b.y (Nat.le_succ _) rv))
/-- a written table of texts -/
inductive ConstPairs : List (Option PySem.Expr) → List PySem.Expr → List (Str × Str) → Prop
  | nil : ConstPairs [] [] []
  | cons {k v : Str} {c c' : Nat} {p p' : Pos} {ks : List (Option PySem.Expr)} {vs : List PySem.Expr} {r : List (Str × Str)} : ConstPairs ks vs r → ConstPairs (some (.Constant (.str k) c p) :: ks) (.Constant (.str v) c' p' :: vs) ((k, v) :: r)
theorem const_shape {ks : List (Option PySem.Expr)} {vs : List PySem.Expr} {r : List (Str × Str)} (h : ConstPairs ks vs r) : ∃ pairs : List (Sem Value × Sem Value), pairs.length = r.length ∧ (pairs = [] → r = []) ∧
    (evalEachOpt ks env).zip ((evalEach vs env).map fun v => do let x ← v; standAt pos; pure x) = pairs.map (fun p => (some p.1, p.2)) ∧
    ∀ (M : Model) (prog : Program) (w : World) (A : Around) (E : Value → Shared → Prop) (s : Shared) (Q : List (Value × Value) → Shared → Prop),
      (∀ (us : List (Value × Value)) (kvs : List (Str × Value)) (t : Nat), s.toks ≤ t → Carries (strKind prog w) us kvs → kvs.map (·.1) = r.map (·.1) → (∀ Z, RepAll G Z (kvs.map (·.2)) (r.map fun p => .str p.2)) → us.length = r.length → Q us { s with toks := t }) →
      wpAny (model prog w) A (evalPairs pairs) Q E s := by
  induction h with
  | nil => exact ⟨[], rfl, fun _ => rfl, rfl, fun M prog w A E s Q h => evalPairs_nil (h [] [] s.toks (Nat.le_refl _) trivial rfl (fun _ => .nil) rfl)⟩
  | @cons k v c c' p p' ks vs r _ ih =>
    obtain ⟨pairs, hl, _, he, hw⟩ := ih
    refine ⟨(eval (.Constant (.str k) c p) env, (do let x ← eval (.Constant (.str v) c' p') env; standAt pos; pure x)) :: pairs, by simp [hl], fun h => (by cases h), ?_, fun M prog w A E s Q h => ?_⟩
    · show ((some (eval (.Constant (.str k) c p) env), _) :: _) = _
      rw [List.map_cons, ← he]
      rfl
    · refine evalPairs_cons (Calls.Constant_str (wpAny_bind (Calls.Constant_str (wpAny_bind (wpAny_standAt (wpAny_pure ?_))))))
      refine hw M prog w A E _ _ fun us kvs t ht hc hk hr hus => ?_
      refine h _ ((k, .str v (s.toks + 1)) :: kvs) t (by have : s.toks + 1 + 1 ≤ t := ht; omega) ⟨strKind_is _ _ _ _, rfl, hc⟩ (by simp [hk]) (fun Z => .cons (.str _ _) (hr Z)) (by simp [hus])

theorem merged_new {K : Type} [DecidableEq K] : ∀ (more acc : List (K × Value)), ((acc ++ more).map (·.1)).Nodup → merged acc more = acc ++ more
  | [], acc, _ => by simp [merged]
  | (k, v) :: more, acc, h => by
    have hk : acc.any (fun kv => kv.1 = k) = false := by
      rw [List.any_eq_false]
      intro kv hkv
      simp only [decide_eq_true_eq]
      intro q
      rw [List.map_append, List.nodup_append] at h
      exact h.2.2 kv.1 (List.mem_map_of_mem hkv) k (by simp) q
    have e : merged acc ((k, v) :: more) = merged (acc ++ [(k, v)]) more := by
      show merged (stored acc k v) more = _
      unfold stored
      rw [hk]; rfl
    rw [e, merged_new more (acc ++ [(k, v)]) (by simpa using h)]
    simp

theorem ev_dict {ks : List (Option PySem.Expr)} {vs : List PySem.Expr} {r : List (Str × Str)} (h : ConstPairs ks vs r) (h0 : r ≠ []) (hl : r.length ≤ 15) (hn : (r.map (·.1)).Nodup) : Ev G env n ρ (.Dict ks vs pos) (.dict (r.map (·.1)) (r.map fun p => .str p.2)) := by
  constructor
  intro A Z H s R S
  obtain ⟨pairs, hp, hp0, he, hw⟩ := const_shape (G := G) (env := env) (pos := pos) h
  refine wp_tok (wpAny_Dict_pairs (knd := strKind G.prog G.w) he (fun q => h0 (hp0 q)) (by omega) (hw ⟨denote table, G.prog, G.w⟩ G.prog G.w A _ _ _ fun us kvs t ht hc hk hr hus => ⟨kvs, hc, ?_, fun h' hd hs tok => ?_⟩))
  · exact Heap.dictOf_iff.mpr ⟨_, Heap.get?_push_size _ rfl, #[], 0, ⟨rfl, rfl, rfl⟩, rfl, fun e he => by simp at he, .nil, List.nodup_nil⟩
  · have hm : merged [] kvs = kvs := by rw [merged_new kvs [] (by simpa [hk] using hn)]; rfl
    rw [hm] at hd
    obtain ⟨o, ho, hod⟩ := Heap.dictOf_iff.mp hd
    have hlow : (s.heap.objs.size == sysModules) = false := by
      have := modules_low S.bs.nolimit
      rw [beq_eq_false_iff_ne]; exact Nat.ne_of_gt this
    have hZn : Z s.heap.objs.size = none := by
      cases q : Z s.heap.objs.size with
      | none => rfl
      | some ob => have := S.zin _ _ q; rw [get?_size_none] at this; cases this
    have le := Zadd.le (o := o) hZn
    have keep : ∀ b ob, s.heap.get? b = some ob → h'.get? b = some ob := fun b ob e => hs.extBut b ob (Nat.ne_of_lt (Heap.lt_size e)) (Heap.get?_push_of_some _ e)
    refine ⟨Zadd Z s.heap.objs.size o, ⟨le, keep, fun b ob e => ?_, fun b ob e => ?_, rfl, rfl, tok⟩, ?_⟩
    · by_cases q : b = s.heap.objs.size
      · subst q; rw [Zadd.self] at e; cases e; exact ho
      · rw [show Zadd Z s.heap.objs.size o b = Z b from if_neg q] at e; exact keep _ _ (S.zin _ _ e)
    · by_cases q : b = s.heap.objs.size
      · subst q; exact .inr (get?_size_none _)
      · rw [show Zadd Z s.heap.objs.size o b = Z b from if_neg q] at e; exact .inl e
    · rw [← hk]; exact .dict Zadd.self hlow hod (hr _)

end
end Mine
end
section
open PySem PySem.W PyProof.Rows
set_option linter.unusedVariables false
namespace Mine

section
variable {G : Gnd} {env : Env} {Z Z' H H' : Zf} {ρ ρ' ρc : Loc} {s s' : Shared} {A : Around} {E : Value → Shared → Prop} {n : Nat} {pos apos : Pos}

/-- an object is made that is not frozen -/
theorem Ext.push {o : Obj} {t : Nat} (hz : ∀ a o, Z a = some o → s.heap.get? a = some o) (ht : s.toks ≤ t) : Ext Z s Z { s with heap := s.heap.push o, toks := t } :=
  ⟨Zle.same, fun a ob h => Heap.get?_push_of_some _ h, fun a ob h => Heap.get?_push_of_some _ (hz a ob h), fun _ _ h => .inl h, rfl, rfl, ht⟩

-- what is gone through
theorem itr_list {ds : List D} : Itr G (.list ds) ds := Itr.mk fun A Z s v R b r => by
  cases r with
  | @list a vs k _ hz ra =>
    have hl := isList_of (b.zin _ _ hz)
    refine wpAny_pyIter_list hl ⟨s.heap.objs.size, [s.heap.objs.size, a], fun i v => vs.toArray[i]? = some v, fun i h => h.IsListIter s.heap.objs.size a i ∧ h.IsList a vs.toArray, rfl, Ext.push (t := s.toks) b.zin (Nat.le_refl _), get?_size_none _, fun A' hA => ?_, ?_, ?_, ?_, ?_⟩
    · have := Walks.list (prog := G.prog) (w := G.w) hA s.heap.objs.size a (fun q => by have := b.zin _ _ hz; rw [q, get?_size_none] at this; cases this) vs.toArray
      have e : vs.toArray.size = ds.length := by rw [List.size_toArray, ra.length]
      rw [e] at this; exact toWG this
    · intro c hc
      rcases List.mem_cons.mp hc with rfl | hc
      · exact .inl rfl
      · rw [List.mem_singleton] at hc; subst hc; exact .inr ⟨_, hz⟩
    · exact ⟨⟨_, Heap.get?_push_size _ rfl, rfl, rfl⟩, hl.push _⟩
    · rintro i h ⟨⟨o, ho, hc, _⟩, _⟩
      exact ⟨o, _, ho, hc, by decide⟩
    · intro i v hv
      have hv' : vs[i]? = some v := by simpa using hv
      have hlt : i < ds.length := by rw [← ra.length]; exact (List.getElem?_eq_some_iff.mp hv').1
      obtain ⟨w, hw, rw'⟩ := ra.get (i := i) (d := ds[i]) (by simp [hlt])
      rw [hv'] at hw; cases hw
      exact ⟨ds[i], by simp [hlt], rw'⟩

def charsOf (x : Str) : List D := x.cps.toList.map fun c => .str ⟨#[c]⟩
theorem itr_str {x : Str} : Itr G (.str x) (charsOf x) := Itr.mk fun A Z s v R b r => by
  cases r with
  | str x t =>
    have hlen : (charsOf x).length = x.cps.size := by simp [charsOf]
    have hP : ∀ i v, SignAt x i v → ∃ d, (charsOf x)[i]? = some d ∧ Rep G Z v d := by
      rintro i v ⟨c, u, hc, rfl⟩
      exact ⟨.str ⟨#[c]⟩, by simp [charsOf, hc], .str _ _⟩
    cases ha : x.cps.all (· < 128)
    · refine wpAny_pyIter_wide ha ⟨s.heap.objs.size, [s.heap.objs.size], SignAt x, fun i h => h.IsStrIter s.heap.objs.size "str_iterator" x t i, rfl, Ext.push (t := s.toks) b.zin (Nat.le_refl _), get?_size_none _, fun A' hA => ?_, fun c hc => .inl (by simpa using hc), ⟨_, Heap.get?_push_size _ rfl, rfl, rfl⟩, ?_, hP⟩
      · rw [hlen]; exact toWG (Walks.strWide hA _ x t)
      · rintro i h ⟨o, ho, hc, _⟩; exact ⟨o, _, ho, hc, by decide⟩
    · refine wpAny_pyIter_ascii ha ⟨s.heap.objs.size, [s.heap.objs.size], SignAt x, fun i h => h.IsStrIter s.heap.objs.size "str_ascii_iterator" x t i, rfl, Ext.push (t := s.toks) b.zin (Nat.le_refl _), get?_size_none _, fun A' hA => ?_, fun c hc => .inl (by simpa using hc), ⟨_, Heap.get?_push_size _ rfl, rfl, rfl⟩, ?_, hP⟩
      · rw [hlen]; exact toWG (Walks.strAscii hA _ x t)
      · rintro i h ⟨o, ho, hc, _⟩; exact ⟨o, _, ho, hc, by decide⟩

-- cuts
theorem ev_slice {l u : Option PySem.Expr} {lo hi : Option Int} (hl : match l, lo with | none, none => True | some e, some i => Ev G env n ρ e (.int i) | _, _ => False)
    (hu : match u, hi with | none, none => True | some e, some i => Ev G env n ρ e (.int i) | _, _ => False) : Ev G env n ρ (.Slice l u none pos) (.slc lo hi) := by
  constructor
  intro A Z H s R S
  have part : ∀ (e : Option PySem.Expr) (i : Option Int), (match e, i with | none, none => True | some e, some i => Ev G env n ρ e (.int i) | _, _ => False) → ∀ Z₁ s₁, St G env Z₁ H ρ s₁ →
      wpAny (model G.prog G.w) A (valueOrNone (evalOpt e env)) (fun v s' => ∃ Z', Ext Z₁ s₁ Z' s' ∧ IsPart v i) (fun _ _ => False) s₁ := by
    intro e i h Z₁ s₁ S₁
    cases e <;> cases i <;> first | exact h.elim | skip
    · exact wpAny_pure ⟨Z₁, S₁.same, .none⟩
    · exact wp_seq (h.run A Z₁ H s₁ R S₁) fun v s' ⟨Z', x, r⟩ => by cases r; exact ⟨Z', x, .int _ _⟩
  show wpAny _ _ (do
    let l ← valueOrNone (evalOpt l env)
    let u ← holding [l] (valueOrNone (evalOpt u env))
    let s ← holding [l, u] (valueOrNone (evalOpt none env))
    newFields "slice" [l, u, s]) _ _ _
  refine wpAny_bind (wp_seq (part l lo hl Z s S) fun vl s₁ ⟨Z₁, x₁, p₁⟩ => wpAny_bind (wpAny_holding (wp_seq (part u hi hu Z₁ s₁ (S.ext x₁)) fun vu s₂ ⟨Z₂, x₂, p₂⟩ => wpAny_bind (wpAny_holding (wpAny_pure ?_)))))
  refine wpAny_newObj_type ⟨_, x₁.trans (x₂.trans (Ext.alloc (t := s₂.toks) ((S.ext x₁).ext x₂).zin rfl (Nat.le_refl _))), .slc Zadd.self p₁ p₂⟩

theorem sb_slice_str {value slice : PySem.Expr} {x : Str} {lo hi : Option Int} (hn : x.length ≤ sizeLine) : Sb G value slice (.str x) (.slc lo hi) (.str (Txt.slice x lo hi)) := Op2.mk fun A Z s v₁ v₂ R b r₁ r₂ => by
  cases r₁ with
  | str x t =>
    cases r₂ with
    | @slc a vl vu _ _ hz pl pu =>
      have go : ∀ (l u : Option (Int × Tok)), vl = partValue l → vu = partValue u → lo = l.map (·.1) → hi = u.map (·.1) → wpAny (model G.prog G.w) A (getItem (.str x t) (.ref a)) (fun v s' => ∃ Z', Ext Z s Z' s' ∧ Rep G Z' v (.str (Txt.slice x lo hi))) (fun _ _ => False) s := by
        rintro l u rfl rfl rfl rfl
        exact wp_tok (wpAny_getItem_str_slice (st := none) ⟨_, b.zin _ _ hz, rfl, rfl⟩ rfl (post_val_or_str ⟨Nat.le_trans (Txt.slice_le x _ _) hn, fun t' k tok => b.y tok (.str _ _)⟩))
      refine tail_all (typeIs_str _ _ _) F.slot_str_getitem.lookup ?_
      cases pl with
      | none => cases pu with
        | none => exact go none none rfl rfl rfl rfl
        | int j u => exact go none (some (j, u)) rfl rfl rfl rfl
      | int i t' => cases pu with
        | none => exact go (some (i, t')) none rfl rfl rfl rfl
        | int j u => exact go (some (i, t')) (some (j, u)) rfl rfl rfl rfl

end
end Mine
end
section
open PySem PySem.W PyProof.Rows PySem.Builtin PySem.Builtin.Str
set_option linter.unusedVariables false
set_option maxRecDepth 100000
namespace Mine

section
variable {G : Gnd} {env : Env} {Z Z' H H' : Zf} {ρ ρ' ρc : Loc} {s s' : Shared} {A : Around} {E : Value → Shared → Prop} {n : Nat} {pos apos : Pos}

-- rows of texts
abbrev txs (xs : List Str) : List D := xs.map .str
-- methods of texts
/-- x.replace('..', '..') with two written texts -/
theorem ev_replace {o : PySem.Expr} {x y z : Str} {c c' : Nat} {p p' : Pos} {pl : Sem Bool} (ho : Ev G env n ρ o (.str x)) (hb : x.length + (x.length + 1) * z.length ≤ 16777216)
    (he : eval (.Call (.Attribute o "replace" apos) [.Constant (.str y) c p, .Constant (.str z) c' p'] [] pos) env = (do
      let ov ← eval o env
      standAt apos.atName
      let (f, first) ← holding [ov] (getMethod ov "replace" pl)
      callWith pos f first (backTo pos (starEach [.Constant (.str y) c p, .Constant (.str z) c' p'] env)) [])) :
    Ev G env n ρ (.Call (.Attribute o "replace" apos) [.Constant (.str y) c p, .Constant (.str z) c' p'] [] pos) (.str (Txt.replace x y z)) := by
  constructor
  intro A Z H s R S
  refine MethodCall_ (wp_seq (ho.run A Z H s R S) fun v s₁ ⟨Z₁, x₁, r₁⟩ => ?_) he
  have S₁ := S.ext x₁
  cases r₁ with
  | str x t =>
    refine getMethod_builtin (typeIs_str _ _ _) F.plainAttrs_str F.slot_str_replace F.type_str_replace (fun a e => (by cases e)) ?_
    refine Calls.callWith_builtin rfl (wp_evalArgs rfl (spliced_more (Calls.Constant_str (spliced_more (Calls.Constant_str (spliced_none ?_))))))
    have tk := S₁.tk
    refine wpAny_with_toks (n := s₁.toks) (by show s₁.toks ≤ s₁.toks + 1 + 1; omega) (SC.replaceA (s := { s₁ with toks := s₁.toks + 1 + 1 }) (by show s₁.toks ≠ 0; omega) (by show s₁.toks + 1 ≠ 0; omega) (by show s₁.toks ≠ s₁.toks + 1; omega) hb (fun t' k tok => ⟨Z₁, x₁.trans (Ext.tok S₁.zin tok), .str _ _⟩) S₁.bs.nb)

/-- try, where nothing is raised -/
theorem ex_try {body : List Stmt} {h₀ : ExceptHandler} {hs : List ExceptHandler} {Φ : Fl → Loc → Prop} (h : Exs G env n ρ body Φ) : Ex G env n ρ (.Try body (h₀ :: hs) [] [] pos) Φ :=
  Ex.mk fun A Z H s R S => wpAny_Try_except (wpAny_mono (h.run A Z H s R S) (fun f s₁ h₁ => by
    cases f with
    | next => exact wpAny_execs_nil h₁
    | _ => exact h₁) fun _ _ x => x.elim)

-- rows compared
open PySem.SeqAt in
theorem op_eq_nil {ds : List D} : Op2 G (compareOp .Eq) (.list ds) (.list []) (.bool ds.isEmpty) := Op2.mk fun A Z s v₁ v₂ R b r₁ r₂ => by
  cases r₁ with
  | list hz ra =>
    cases r₂ with
    | list hz' ra' =>
      cases ra'
      have hl := isList_of (b.zin _ _ hz)
      have hl' := isList_of (b.zin _ _ hz')
      cases ra with
      | nil => exact eq_listAt (e := fun _ => true) hl hl' rfl (by have := R.units; omega) (fun j h1 _ => absurd h1 (by simp)) ⟨Z, b.same, .bool _⟩
      | cons r rs => exact eq_list_lengthsAt hl hl' (by simp) (by have := R.units; omega) ⟨Z, b.same, .bool _⟩
open PySem.SeqAt in
theorem op_ne_nil {ds : List D} : Op2 G (compareOp .NotEq) (.list ds) (.list []) (.bool (!ds.isEmpty)) := Op2.mk fun A Z s v₁ v₂ R b r₁ r₂ => by
  cases r₁ with
  | list hz ra =>
    cases r₂ with
    | list hz' ra' =>
      cases ra'
      have hl := isList_of (b.zin _ _ hz)
      have hl' := isList_of (b.zin _ _ hz')
      cases ra with
      | nil => exact RcNeAt.lists (e := fun _ => true) hl hl' rfl (by have := R.units; omega) (fun j h1 _ => absurd h1 (by simp)) G.prog G.w _ _ ⟨Z, b.same, .bool _⟩
      | cons r rs => exact RcNeAt.lists_lengths hl hl' (by simp) (by have := R.units; omega) G.prog G.w _ _ ⟨Z, b.same, .bool _⟩

end
end Mine
end
section
open PySem PySem.W PyProof.Rows
set_option linter.unusedVariables false
set_option maxRecDepth 100000
namespace Mine
def stOf (p : Program) (i : Nat) : Stmt := p.main.body.getD i (.Pass ⟨0, 0, 0, 0⟩)
def bodyOf : Stmt → List Stmt
  | .FunctionDef _ _ b _ _ _ _ _ _ _ => b
  | _ => []
def fdOf (st : Stmt) (doc pm cdv ct : Value) : FuncData := match st with
  | .FunctionDef name args body _ _ _ scope _ _ _ => fnX name name args body scope [] .none .none doc pm none cdv ct
  | _ => default

section
variable {G : Gnd} {env : Env} {Z Z' H H' : Zf} {ρ ρ' ρc : Loc} {s s' : Shared} {A : Around} {E : Value → Shared → Prop} {n : Nat} {pos apos : Pos}

theorem sub_nil : Sub [] ρ := fun x b h => by simp at h
theorem sub_cons {x : Str} {b : B} (h : ρ'.lookup x = some b) (hs : Sub ρ ρ') : Sub ((x, b) :: ρ) ρ' := fun y c e => by
  rw [List.lookup_cons] at e
  by_cases q : y = x
  · subst q; simp at e; subst e; exact h
  · rw [beq_eq_false_iff_ne.mpr q] at e; exact hs y c e
theorem exs_weaken {sts : List Stmt} {Φ : Fl → Loc → Prop} (hs : Sub ρ ρ') (h : Exs G env n ρ sts Φ) : Exs G env n ρ' sts Φ := Exs.mk fun A Z H s R S => h.run A Z H s R (S.weaken hs)
theorem asg_weaken {e : PySem.Expr} {d : D} {ρ'' : Loc} (hs : Sub ρ ρ') (h : Asg G env e d ρ ρ'') : Asg G env e d ρ' ρ'' := Asg.mk fun A Z H s v R S r => h.run A Z H s v R (S.weaken hs) r

/-- a for, by what is known of the names at each turn -/
theorem ex_forI {tgt iter : PySem.Expr} {body : List Stmt} {d : D} {ds : List D} {Φ : Fl → Loc → Prop} (I : Nat → Loc) (h : Ev G env n ρ iter d) (hi : Itr G d ds) (h0 : Sub (I 0) ρ)
    (turn : ∀ i d, ds[i]? = some d → ∃ ρ'', Asg G env tgt d (I i) ρ'' ∧ Exs G env n ρ'' body (LoopPost Φ (Sub (I (i + 1)))))
    (done : ∀ ρ', Sub (I ds.length) ρ' → Φ .next ρ') (hs : ∀ x, foldedSetIterable iter env x = pure x) : Ex G env n ρ (.For tgt iter body [] pos) Φ :=
  ex_for (fun i ρ' => Sub (I i) ρ') h hi h0 (fun i d ρ' hd hsub => by
    obtain ⟨ρ'', ha, hb⟩ := turn i d hd
    exact ⟨ρ'', asg_weaken hsub ha, hb⟩) done hs

/-- a while, by what is known of the names at each turn -/
theorem ex_whileI {t : PySem.Expr} {body : List Stmt} {Φ : Fl → Loc → Prop} {σ : Type} (I : σ → Loc) (m : σ → Nat) (P : σ → Prop) (c₀ : σ) (h0 : Sub (I c₀) ρ) (hp : P c₀)
    (turn : ∀ c, P c → ∃ b, Tst G env n (I c) t b ∧ (b = true → Exs G env n (I c) body (LoopPost Φ fun ρ' => ∃ c', m c' < m c ∧ P c' ∧ Sub (I c') ρ')) ∧ (b = false → ∀ ρ', Sub (I c) ρ' → Φ .next ρ')) : Ex G env n ρ (.While t body [] pos) Φ := by
  refine ex_while (fun k ρ' => ∃ c, k = m c ∧ P c ∧ Sub (I c) ρ') ⟨c₀, rfl, hp, h0⟩ ?_
  rintro k ρ' ⟨c, rfl, hpc, hsub⟩
  obtain ⟨b, ht, h1, h2⟩ := turn c hpc
  refine ⟨b, Tst.mk fun A Z H s R S => ht.run A Z H s R (S.weaken hsub), fun hb => ?_, fun hb => h2 hb ρ' hsub⟩
  refine exs_mono (exs_weaken hsub (h1 hb)) ?_
  rintro fl ρ'' h
  cases fl with
  | next => obtain ⟨c', hl, hp', hs'⟩ := h; exact ⟨m c', hl, c', rfl, hp', hs'⟩
  | cont => obtain ⟨c', hl, hp', hs'⟩ := h; exact ⟨m c', hl, c', rfl, hp', hs'⟩
  | brk => exact h
  | ret d => exact h

theorem then_next {Φ : Fl → Loc → Prop} {K : Loc → Prop} (h : K ρ) : Then Φ K .next ρ := h


-- cheap looks at the text
theorem star_cons {e : PySem.Expr} {es : List PySem.Expr} (h : isStarred e = false) : starEach (e :: es) env = (false, eval e env) :: starEach es env := by
  cases e <;> first | rfl | cases h
theorem star_all : ∀ {es : List PySem.Expr}, es.any isStarred = false → (starEach es env).any (·.1) = false
  | [], _ => rfl
  | e :: es, h => by
    rw [List.any_cons, Bool.or_eq_false_iff] at h
    rw [star_cons h.1, List.any_cons, star_all h.2]; rfl
theorem evs_more {e : PySem.Expr} {es : List PySem.Expr} {d : D} {ds : List D} (h : Ev G env n ρ e d) (h' : Evs G env n ρ es ds) (hs : isStarred e = false) : Evs G env n ρ (e :: es) (d :: ds) := evs_cons h h' (star_cons hs)
def isAttr : PySem.Expr → Bool
  | .Attribute .. => true
  | _ => false
theorem eval_call {f : PySem.Expr} {es : List PySem.Expr} (h : isAttr f = false) : eval (.Call f es [] pos) env = (do callWith pos (← eval f env) [] (backTo pos (starEach es env)) []) := by
  cases f <;> first | rfl | cases h
def isNameCall : PySem.Expr → Bool
  | .Call (.Name ..) [] [] _ => true
  | _ => false
theorem base_same {o : PySem.Expr} {name : Str} {t : Sem Value} (h : isNameCall o = false) : attributeBase o name env t = t := by
  unfold attributeBase
  split
  · rename_i h'; cases h
  · rfl
theorem form_all : ∀ {es : List PySem.Expr}, es.any isStarred = false → (backTo pos (starEach es env)).all (fun x => !x.1) = true
  | [], _ => rfl
  | e :: es, h => by
    rw [List.any_cons, Bool.or_eq_false_iff] at h
    rw [star_cons h.1]
    show (!false && (backTo pos (starEach es env)).all (fun x => !x.1)) = true
    rw [form_all h.2]; rfl
theorem eval_method {o : PySem.Expr} {name : Str} {es : List PySem.Expr} (hb : isNameCall o = false) (hst : es.any isStarred = false) (hlen : es.length < 30) (hline : (apos.endLine == pos.line) = true) :
    eval (.Call (.Attribute o name apos) es [] pos) env = (do
      let ov ← eval o env
      standAt apos.atName
      let (f, first) ← holding [ov] (getMethod ov name (do return (← importBound o env).getD true))
      callWith pos f first (backTo pos (starEach es env)) []) := by
  have hform : methodCallForm (es.length + ([] : List Keyword).length) (backTo pos (starEach es env)) (backToKw pos (keywordEach [] env)) = true := by
    unfold methodCallForm
    rw [form_all hst]
    have e : backToKw pos (keywordEach [] env) = [] := rfl
    rw [e]
    simpa using hlen
  show (do
    let ov ← attributeBase o name env (eval o env)
    standAt apos.atName
    methodCall o name apos pos env ov (es.length + ([] : List Keyword).length) (backTo pos (starEach es env)) (backToKw pos (keywordEach [] env))) = _
  rw [base_same hb]
  unfold methodCall calleeOf
  simp only [hform, if_true]
  have hp : methodCallPos true o env apos pos = pure pos := by unfold methodCallPos; simp [hline]
  simp only [hp, pure_bind]
  rfl

theorem ev_call {f : PySem.Expr} {es : List PySem.Expr} {a : Addr} {ds : List D} {d : D} (hf : Ev G env n ρ f (.fn a)) (h : Evs G env n ρ es ds) (hk : keepIn G.K (.ref a) = true) (hc : Fn G n a ds d) (hst : es.any isStarred = false) (ha : isAttr f = false) : Ev G env n ρ (.Call f es [] pos) d :=
  ev_callFn hf h hk hc (star_all hst) (eval_call ha)
theorem ev_bf {x : Str} {p : Pos} {id : String} {es : List PySem.Expr} {ds : List D} {d : D} (h : Evs G env n ρ es ds) (hc : BF G id ds d) (e : nsIn G.K mainGlobals x = some none) (hv : bootBuiltins x = some (.builtin id)) (hx : env.kindOf x = some .globalImplicit)
    (hd : ((x == ("__debug__" : Str)) || (x == ("__name__" : Str))) = false) (hst : es.any isStarred = false) : Ev G env n ρ (.Call (.Name x p) es [] pos) d :=
  ev_callBF h hc e hv (by rw [Bool.or_eq_false_iff] at hd; exact beq_eq_false_iff_ne.mp hd.2) hx (by rw [Bool.or_eq_false_iff] at hd; exact hd.1) (star_all hst) (eval_call rfl)
theorem ev_repl {o : PySem.Expr} {x y z : Str} {c c' : Nat} {p p' : Pos} (ho : Ev G env n ρ o (.str x)) (hb : x.length + (x.length + 1) * z.length ≤ 16777216) (hn : isNameCall o = false) (hline : (apos.endLine == pos.line) = true) :
    Ev G env n ρ (.Call (.Attribute o "replace" apos) [.Constant (.str y) c p, .Constant (.str z) c' p'] [] pos) (.str (Txt.replace x y z)) :=
  ev_replace ho hb (eval_method hn rfl (by show 2 < 30; decide) hline)

end
end Mine
end
section
open PySem PySem.W PyProof.Rows PySem.Builtin PySem.Builtin.Str
set_option linter.unusedVariables false
namespace Mine

/-- a text of code points -/
def T (l : List Nat) : Str := ⟨l.toArray⟩
theorem T_list (l : List Nat) : (T l).cps.toList = l := rfl
theorem T_length (l : List Nat) : (T l).length = l.length := by show l.toArray.size = _; simp
theorem T_of (x : Str) : T x.cps.toList = x := by cases x; simp [T]
theorem T_append (a b : List Nat) : T a ++ T b = T (a ++ b) := by
  show (⟨a.toArray ++ b.toArray⟩ : Str) = _
  simp [T]
theorem T_inj {a b : List Nat} (h : T a = T b) : a = b := by simpa [T_list] using congrArg (fun x => x.cps.toList) h
theorem T_one (c : Nat) : T [c] = ⟨#[c]⟩ := rfl
theorem T_beq (a b : List Nat) : (T a == T b) = decide (a = b) := by
  rw [Bool.eq_iff_iff]
  simp only [beq_iff_eq, decide_eq_true_eq]
  exact ⟨T_inj, fun h => by rw [h]⟩

/-- each sign c becomes z -/
def sub1 (c : Nat) (z l : List Nat) : List Nat := l.flatMap fun k => if k = c then z else [k]
theorem sub1_append (c : Nat) (z a b : List Nat) : sub1 c z (a ++ b) = sub1 c z a ++ sub1 c z b := by simp [sub1]
theorem sub1_free (c : Nat) (z : List Nat) : ∀ {l : List Nat}, c ∉ l → sub1 c z l = l
  | [], _ => rfl
  | k :: r, h => by
    simp only [List.mem_cons, not_or] at h
    have ih := sub1_free c z h.2
    unfold sub1 at ih ⊢
    rw [List.flatMap_cons, ih, if_neg (Ne.symm h.1)]
    rfl
theorem join_list (z : List Nat) : ∀ parts : List (List Nat), (Str.join (T z) (parts.map T)) = T ((parts.intersperse z).flatten)
  | [] => rfl
  | [a] => by simp [Str.join]
  | a :: b :: r => by
    have ih := join_list z (b :: r)
    simp only [List.map_cons] at ih ⊢
    show T a ++ T z ++ Str.join (T z) (T b :: r.map T) = _
    rw [ih, T_append, T_append]
    simp [List.intersperse]
theorem sub1_join (c : Nat) (z : List Nat) : ∀ parts : List (List Nat), (∀ p ∈ parts, c ∉ p) → sub1 c z ((parts.intersperse [c]).flatten) = (parts.intersperse z).flatten
  | [], _ => rfl
  | [a], h => by simpa using sub1_free c z (h a (by simp))
  | a :: b :: r, h => by
    have ih := sub1_join c z (b :: r) fun p hp => h p (List.mem_cons_of_mem _ hp)
    have e1 : ((a :: b :: r).intersperse [c]).flatten = a ++ ([c] ++ ((b :: r).intersperse [c]).flatten) := by simp [List.intersperse]
    have e2 : ((a :: b :: r).intersperse z).flatten = a ++ (z ++ ((b :: r).intersperse z).flatten) := by simp [List.intersperse]
    rw [e1, e2, sub1_append, sub1_append, ih, sub1_free c z (h a (by simp))]
    simp [sub1]

theorem split_lists (l : List Nat) (c : Nat) : ∃ parts : List (List Nat), Txt.split (T l) ⟨#[c]⟩ = parts.map T ∧ (∀ p ∈ parts, c ∉ p) ∧ l = (parts.intersperse [c]).flatten := by
  refine ⟨(Txt.split (T l) ⟨#[c]⟩).map (fun x => x.cps.toList), ?_, ?_, ?_⟩
  · rw [List.map_map]
    conv => lhs; rw [← List.map_id (Txt.split (T l) ⟨#[c]⟩)]
    exact List.map_congr_left fun x _ => (T_of x).symm
  · intro p hp
    obtain ⟨x, hx, rfl⟩ := List.mem_map.mp hp
    exact StrLaws.split_free (T l) c x hx
  · have h := StrLaws.join_split (T l) ⟨#[c]⟩
    have e : Txt.split (T l) ⟨#[c]⟩ = ((Txt.split (T l) ⟨#[c]⟩).map (fun x => x.cps.toList)).map T := by
      rw [List.map_map]
      conv => lhs; rw [← List.map_id (Txt.split (T l) ⟨#[c]⟩)]
      exact List.map_congr_left fun x _ => (T_of x).symm
    rw [e, ← T_one, join_list] at h
    exact (T_inj h).symm

theorem repl_T (l z : List Nat) (c : Nat) : Txt.replace (T l) ⟨#[c]⟩ (T z) = T (sub1 c z l) := by
  obtain ⟨parts, h1, h2, h3⟩ := split_lists l c
  rw [StrLaws.replace_one, h1, join_list]
  conv => rhs; rw [h3]
  rw [sub1_join c z parts h2]

theorem tin_T (l : List Nat) (c : Nat) : tin ⟨#[c]⟩ (T l) = decide (c ∈ l) := StrLaws.found_one (T l) c

end Mine
end
section
open PySem PySem.W PyProof.Rows PySem.Builtin PySem.Builtin.Str
set_option linter.unusedVariables false
namespace Mine

abbrev Tbl := List (Nat × List Nat)
def spell (t : Tbl) (k : Nat) : List Nat := (t.lookup k).getD [k]
def escBy (t : Tbl) (l : List Nat) : List Nat := l.flatMap (spell t)
theorem escBy_nil (l : List Nat) : escBy [] l = l := by
  induction l with
  | nil => rfl
  | cons k r ih =>
    show [k] ++ escBy [] r = _
    rw [ih]; rfl
theorem escBy_cons (t : Tbl) (k : Nat) (r : List Nat) : escBy t (k :: r) = spell t k ++ escBy t r := by simp [escBy]
def okFor (t : Tbl) (c : Nat) : Bool := t.all fun p => !(p.2.contains c) && !(p.1 == c)
theorem lookup_snoc (t : Tbl) (c k : Nat) (z : List Nat) : (t ++ [(c, z)]).lookup k = (t.lookup k).or (if k = c then some z else none) := by
  rw [List.lookup_append]
  congr 1
  by_cases h : k = c
  · subst h; simp
  · rw [List.lookup_cons, beq_eq_false_iff_ne.mpr h, if_neg h]; rfl
theorem sub1_spell {t : Tbl} {c : Nat} {z : List Nat} (h : okFor t c = true) (k : Nat) : sub1 c z (spell t k) = spell (t ++ [(c, z)]) k := by
  unfold spell
  rw [lookup_snoc]
  cases hk : t.lookup k with
  | none =>
    by_cases q : k = c
    · subst q; simp [sub1]
    · simp [sub1, q]
  | some y =>
    have hm : (k, y) ∈ t := by
      clear h
      induction t with
      | nil => simp at hk
      | cons p r ih =>
        obtain ⟨a, b⟩ := p
        rw [List.lookup_cons] at hk
        by_cases q : k = a
        · subst q; simp at hk; subst hk; exact List.mem_cons_self
        · rw [beq_eq_false_iff_ne.mpr q] at hk; exact List.mem_cons_of_mem _ (ih hk)
    have := (List.all_eq_true.mp h) (k, y) hm
    simp only [Bool.and_eq_true, Bool.not_eq_true', List.contains_eq_mem, decide_eq_false_iff_not] at this
    simpa using sub1_free c z this.1
theorem sub1_esc {t : Tbl} {c : Nat} {z : List Nat} (h : okFor t c = true) (l : List Nat) : sub1 c z (escBy t l) = escBy (t ++ [(c, z)]) l := by
  induction l with
  | nil => rfl
  | cons k r ih => rw [escBy_cons, escBy_cons, sub1_append, ih, sub1_spell h]
theorem spell_le {t : Tbl} {m : Nat} (hm : 1 ≤ m) (h : t.all (fun p => decide (p.2.length ≤ m)) = true) (k : Nat) : (spell t k).length ≤ m := by
  unfold spell
  induction t with
  | nil => simpa using hm
  | cons p r ih =>
    obtain ⟨a, b⟩ := p
    simp only [List.all_cons, Bool.and_eq_true, decide_eq_true_eq] at h
    rw [List.lookup_cons]
    cases q : k == a with
    | true => exact h.1
    | false => exact ih h.2
theorem esc_le {t : Tbl} {m : Nat} (hm : 1 ≤ m) (h : t.all (fun p => decide (p.2.length ≤ m)) = true) (l : List Nat) : (escBy t l).length ≤ m * l.length := by
  induction l with
  | nil => simp [escBy]
  | cons k r ih =>
    rw [escBy_cons, List.length_append, List.length_cons, Nat.mul_succ]
    have := spell_le hm h k
    omega

section
variable {G : Gnd} {env : Env} {ρ : Loc} {n : Nat}
/-- one row of an escape -/
theorem esc_step {l : List Nat} {t : Tbl} {c : Nat} {z : List Nat} {x cs zs : Str} {i1 i2 i3 : Nat} {p1 p2 p3 p4 p5 apos pos spos pos' : Pos} {rest : List Stmt} {Φ : Fl → Loc → Prop}
    (hl : ρ.lookup x = some (.val (.str (T (escBy t l))))) (hcs : cs = ⟨#[c]⟩) (hzs : zs = T z) (hok : okFor t c = true) (hm : t.all (fun p => decide (p.2.length ≤ 8)) = true) (hz : z.length ≤ 8) (hsz : l.length ≤ 100000)
    (hd : (x == ("__debug__" : Str)) = false) (hc : Can env x) (hline : (apos.endLine == pos.line) = true)
    (k : Exs G env n (upd ρ x (.val (.str (T (escBy (t ++ [(c, z)]) l))))) rest Φ) :
    Exs G env n ρ (.If (.Compare (.Constant (.str cs) i1 p1) [.In] [.Name x p2] p3) [.Assign [.Name x p4] (.Call (.Attribute (.Name x p5) "replace" apos) [.Constant (.str cs) i2 p1', .Constant (.str zs) i3 p2'] [] pos) spos] [] pos' :: rest) Φ := by
  have hb : (T (escBy t l)).length + ((T (escBy t l)).length + 1) * zs.length ≤ 16777216 := by
    have h1 := esc_le (m := 8) (by decide) hm l
    rw [hzs, T_length, T_length]
    have h2 : ((escBy t l).length + 1) * z.length ≤ (8 * l.length + 1) * 8 := Nat.mul_le_mul (by omega) hz
    omega
  have hr : Txt.replace (T (escBy t l)) cs zs = T (escBy (t ++ [(c, z)]) l) := by rw [hcs, hzs, repl_T, sub1_esc hok]
  refine exs_cons (ex_if (tst_cmp ev_str (ev_name hl hd) op_in_str rfl) (fun _ => ?_) fun hf => ?_)
  · refine exs_cons (ex_assign (ev_repl (ev_name hl hd) hb rfl hline) hc rfl ?_)
    refine exs_nil ?_
    rw [hr]
    exact k
  · refine exs_nil ?_
    refine exs_weaken ?_ k
    have : T (escBy (t ++ [(c, z)]) l) = T (escBy t l) := by
      rw [hcs, tin_T, decide_eq_false_iff_not] at hf
      rw [← sub1_esc hok, sub1_free c z hf]
    rw [this]
    intro y b e
    rw [lookup_upd] at e
    by_cases q : y = x
    · subst q; rw [if_pos rfl] at e; cases e; exact hl
    · rw [if_neg q] at e; exact e
end
end Mine
end
section
open PySem PySem.W PyProof.Rows
set_option linter.unusedVariables false
namespace Mine

theorem ns_none_of {K : Frag} {h : Heap} {a : Addr} {mc : Str → Option Value} {n : Str} (X : K.In h) (G : h.Ns a mc) (e : nsIn K a n = some none) : mc n = none := by
  obtain ⟨o, es, ep, ho, hd, _, hf⟩ := G
  unfold nsIn at e
  split at e
  · rename_i c dd es' ep' sl hk
    have := X _ _ hk
    rw [ho] at this
    cases this
    cases hd
    split at e
    · cases e
    · rename_i hfind
      rw [← hf]
      unfold nsFind findBy
      rw [← Array.find?_toList, hfind]
      rfl
  · cases e

theorem repAll_ints {G : Gnd} {Z : Zf} : ∀ {vs : List Value} {ns : List Int}, IntsAre vs ns → RepAll G Z vs (ns.map .int)
  | _, _, .nil => .nil
  | _, _, .cons n t r => .cons (.int n t) (repAll_ints r)

end Mine
end
section
open PySem PySem.W PyProof.Rows
set_option linter.unusedVariables false
set_option maxRecDepth 100000
namespace Mine
section
variable {G : Gnd} {env : Env} {Z Z' H : Zf} {ρ ρ' : Loc} {s s' : Shared} {A : Around} {E : Value → Shared → Prop} {n : Nat} {pos apos : Pos}

/-- data that need no heap -/
def Atom : D → Bool
  | .none | .bool _ | .int _ | .str _ | .bytes _ => true
  | _ => false
theorem rep_atom {v : Value} {d : D} (h : Atom d = true) (r : Rep G Z v d) : Rep G Z' v d := by
  cases r <;> first | exact .none | exact .bool _ | exact .int _ _ | exact .str _ _ | exact .bytes _ _ | cases h

/-- an owned list is read, and stays owned -/
theorem ev_peek {x : Str} {ds : List D} {e : PySem.Expr} {d : D} (hx : ρ.lookup x = some (.own ds)) (h : Ev G env n (upd ρ x (.val (.list ds))) e d) (ha : Atom d = true) : Ev G env n ρ e d :=
  Ev.mk fun A Z H s R S => by
    obtain ⟨Z', le, S', _⟩ := S.freeze hx
    exact wp_seq (h.run A Z' H s R S') fun v s₁ ⟨Z₁, x₁, r₁⟩ => ⟨Z, x₁.back S.zin, rep_atom ha r₁⟩
/-- an owned list is frozen for good -/
theorem exs_freeze {x : Str} {ds : List D} {sts : List Stmt} {Φ : Fl → Loc → Prop} (hx : ρ.lookup x = some (.own ds)) (h : Exs G env n (upd ρ x (.val (.list ds))) sts Φ) : Exs G env n ρ sts Φ :=
  Exs.mk fun A Z H s R S => by
    obtain ⟨Z', le, S', _⟩ := S.freeze hx
    exact wp_seq (h.run A Z' H s R S') fun f s₁ ⟨Z₁, ρ₁, fl, le₁, S₁, hf, hΦ⟩ => ⟨Z₁, ρ₁, fl, le.trans le₁, S₁, hf, hΦ⟩

theorem Has.uniq {h : Heap} {x : Str} {u v : Value} (a : Has env h x u) (b : Has env h x v) : u = v := by
  rcases a with ⟨k, m, hn, e⟩ | ⟨k, c, e, hn⟩ <;> rcases b with ⟨k', m', hn', e'⟩ | ⟨k', c', e', hn'⟩
  · rw [ns_uniq hn hn', e'] at e; exact (Option.some.inj e).symm
  · rcases k' with k' | k' <;> simp_all
  · rcases k with k | k <;> simp_all
  · rw [e] at e'; cases e'
    obtain ⟨o, ho1, ho2⟩ := hn
    obtain ⟨o', ho1', ho2'⟩ := hn'
    rw [ho1] at ho1'; cases ho1'
    rw [ho2] at ho2'
    simpa using ho2'

/-- x = [..], a list that the frame alone holds -/
theorem ex_assign_own {x : Str} {p q : Pos} {es : List PySem.Expr} {ds : List D} {Φ : Fl → Loc → Prop} (h : Evs G env n ρ es ds) (hsz : ds.length ≤ sizeLine) (hc : Can env x) (k : Φ .next (upd ρ x (.own ds))) :
    Ex G env n ρ (.Assign [.Name x p] (.List es q) pos) Φ := by
  constructor
  intro A Z H s R S
  refine wpAny_Assign_Name (List_ (wp_seq (h.run A Z H s q R S) fun vs s₁ ⟨Z₁, x₁, r₁⟩ => ?_)) rfl
  have S₁ := S.ext x₁
  refine wpAny_newObj_type ?_ (by show vs.toArray.size ≤ sizeLine; rw [List.size_toArray, r₁.length]; exact hsz)
  have S₂ := S₁.ext (Ext.push (o := { cls := .type "list", data := .seq vs.toArray }) (t := s₁.toks) S₁.zin (Nat.le_refl _))
  have hn : s₁.heap.get? s₁.heap.objs.size = none := get?_size_none _
  have new : ∀ {b : Addr} {o : Obj}, s₁.heap.get? b = some o → s₁.heap.objs.size ≠ b := fun e q => by rw [q, e] at hn; cases hn
  refine wp_seq (st_storeOwn (a := s₁.heap.objs.size) (vs := vs) (n := 0) (ds := ds) S₂ ?_ ?_ ?_ ?_ ?_ (Heap.get?_push_size _ rfl) r₁ hc) fun _ s₃ S₃ => ⟨Z₁, _, _, x₁.le, S₃, .next, k⟩
  · cases q : Z₁ s₁.heap.objs.size with
    | none => rfl
    | some o => exact absurd rfl (new (S₁.zin _ _ q))
  · cases q : H s₁.heap.objs.size with
    | none => rfl
    | some o => exact absurd rfl (new (S₁.hin _ _ q))
  · obtain ⟨m, o, _, _, e, _⟩ := S₁.ns
    exact new e
  · intro y c e
    obtain ⟨_, h1, h2⟩ := S₁.cells y c e
    cases hf : env.func.isSome with
    | true => obtain ⟨_, _, v, ob, e2, _⟩ := h1 hf; exact new e2
    | false => obtain ⟨ob, e2⟩ := h2 hf; exact new (S₁.hin _ _ e2)
  · intro y es v hy hv
    obtain ⟨oa, _, ho⟩ := S₁.owns
    obtain ⟨h1, _, _, _, _, vs', k', h6, _⟩ := ho y es hy
    have h1' := h1.keeps (h' := (s₁.heap.push { cls := .type "list", data := .seq vs.toArray })) fun b o e => Heap.get?_push_of_some _ e
    have : v = .ref (oa y) := hv.uniq h1'
    subst this
    intro q
    exact absurd (Value.ref.inj q).symm (new h6)

/-- what a method does to a list -/
structure Mut (G : Gnd) (id : String) (ds args : List D) (ds' : List D) : Prop where
  run : ∀ A Z s a vs k args', Room 0 A → Bs G Z s → Z a = none → s.heap.get? a = some (listOf vs.toArray k) → RepAll G Z vs ds → RepAll G Z args' args →
    wpAny (model G.prog G.w) A (call (.builtin id) (.ref a :: args')) (fun r s' => ∃ vs' k', s'.heap.get? a = some (listOf vs'.toArray k') ∧ RepAll G Z vs' ds' ∧ (∃ h' t, s' = { s with heap := h', toks := t } ∧ s.toks ≤ t ∧ Heap.SameBut a s.heap h')) (fun _ _ => False) s

theorem St.mutate {x : Str} {ds' : List D} {h' : Heap} {t : Nat} {vs' : List Value} {k' : Nat} (S : St G env Z H ρ s) (oa : Str → Addr) (hi : ∀ x y ds es, ρ.lookup x = some (.own ds) → ρ.lookup y = some (.own es) → oa x = oa y → x = y)
    (ho : ∀ x ds, ρ.lookup x = some (.own ds) → Has env s.heap x (.ref (oa x)) ∧ Z (oa x) = none ∧ H (oa x) = none ∧ oa x ≠ env.locals ∧ (∀ y c, env.cells.lookup y = some c → oa x ≠ c) ∧
      ∃ vs n, s.heap.get? (oa x) = some (listOf vs.toArray n) ∧ RepAll G Z vs ds) {ds : List D} (hx : ρ.lookup x = some (.own ds)) (hg : h'.get? (oa x) = some (listOf vs'.toArray k')) (hr : RepAll G Z vs' ds') (ht : s.toks ≤ t) (hs : Heap.SameBut (oa x) s.heap h') :
    St G env Z H (upd ρ x (.own ds')) { s with heap := h', toks := t } := by
  obtain ⟨h1, h2, h3, h4, h5, vs, k, h6, h7⟩ := ho x ds hx
  have has : ∀ y v, Has env s.heap y v → Has env h' y v := fun y v q => by
    rcases q with ⟨k, m, hn, e⟩ | ⟨k, c, e, hn⟩
    · exact .inl ⟨k, m, hn.sameBut hs (Ne.symm h4), e⟩
    · exact .inr ⟨k, c, e, hn.sameBut hs (Ne.symm (h5 y c e))⟩
  refine S.put ht hs h2 h3 (let ⟨m, hn⟩ := S.ns; ⟨m, hn.sameBut hs (Ne.symm h4)⟩) (fun y c e hf => ?_) (fun y d e => ?_) ⟨oa, ?_, ?_⟩
  · obtain ⟨_, g1, _⟩ := S.cells y c e
    obtain ⟨_, _, v, hv⟩ := g1 hf
    exact ⟨v, hv.sameBut hs (Ne.symm (h5 y c e))⟩
  · rw [lookup_upd] at e
    by_cases q : y = x
    · rw [if_pos q] at e; cases e
    · rw [if_neg q] at e
      obtain ⟨v, hv, r⟩ := S.vars y d e
      exact ⟨v, has y v hv, r⟩
  · intro y z es es' ey ez q
    rw [lookup_upd] at ey ez
    by_cases qy : y = x <;> by_cases qz : z = x
    · rw [qy, qz]
    · rw [if_neg qz] at ez; rw [qy] at q ⊢; exact hi x z _ _ hx ez q
    · rw [if_neg qy] at ey; rw [qz] at q ⊢; exact hi y x _ _ ey hx q
    · rw [if_neg qy] at ey; rw [if_neg qz] at ez; exact hi y z _ _ ey ez q
  · intro y es e
    rw [lookup_upd] at e
    by_cases q : y = x
    · subst q
      rw [if_pos rfl] at e; cases e
      exact ⟨has _ _ h1, h2, h3, h4, h5, vs', k', hg, hr⟩
    · rw [if_neg q] at e
      obtain ⟨g1, g2, g3, g4, g5, us, j, g6, g7⟩ := ho y es e
      exact ⟨has _ _ g1, g2, g3, g4, g5, us, j, (hs.2 _ fun z => q (hi y x _ _ e hx z)).trans g6, g7⟩

theorem wp_own {x : Str} {p : Pos} {a : Addr} {Q : Value → Shared → Prop} {M : Model} (S : St G env Z H ρ s) (hv : Has env s.heap x (.ref a)) (hd : (x == ("__debug__" : Str)) = false) (h : Q (.ref a) s) : wpAny M A (eval (.Name x p) env) Q E s := by
  refine wpAny_Name ?_ hd
  rcases hv with ⟨k, m, n, e⟩ | ⟨k, c, e, n⟩
  · exact wpAny_loadName_local S.fk k n e h
  · rcases k with k | k
    · exact wpAny_loadName_cell S.fk k e n h
    · exact wpAny_loadName_free S.fk k.1 e n h k.2

/-- x.method(..) of an owned list, as a statement -/
theorem ex_mut {x name : Str} {p pos' : Pos} {id : String} {es : List PySem.Expr} {ds args ds' : List D} {Φ : Fl → Loc → Prop} (hx : ρ.lookup x = some (.own ds)) (slot : Slot "list" name id) (hty : typeOf (.builtin id) = pure (.type "method_descriptor"))
    (h : Evs G env n ρ es args) (hm : Mut G id ds args ds') (hd : (x == ("__debug__" : Str)) = false) (hst : es.any isStarred = false) (hlen : es.length < 30) (hline : (apos.endLine == pos.line) = true) (hin : interactive env = false)
    (k : Φ .next (upd ρ x (.own ds'))) : Ex G env n ρ (.Expr (.Call (.Attribute (.Name x p) name apos) es [] pos) pos') Φ := by
  constructor
  intro A Z H s R S
  refine wpAny_Expr_any ?_ hin rfl
  rw [eval_method rfl hst hlen hline]
  obtain ⟨oa, hi, ho⟩ := S.owns
  obtain ⟨h1, h2, h3, h4, h5, vs, j, h6, h7⟩ := ho x ds hx
  refine wpAny_bind (wp_own S h1 hd (wpAny_bind (wpAny_standAt (wpAny_bind (wpAny_holding ?_)))))
  have hl := isList_of h6
  refine getMethod_builtin hl.typeIs F.plainAttrs_list slot hty (fun a e => by cases e; exact ⟨_, h6, rfl⟩) ?_
  refine Calls.callWith_builtin (starred_none (star_all hst) pos) (wp_evalArgs (starred_none (star_all hst) pos) (wp_seq (h.run A Z H s pos R S) fun us s₂ ⟨Z₂, x₂, r₂⟩ => ?_))
  have S₂ := S.ext x₂
  have n2 : ∀ y es, ρ.lookup y = some (.own es) → Has env s₂.heap y (.ref (oa y)) ∧ Z₂ (oa y) = none ∧ H (oa y) = none ∧ oa y ≠ env.locals ∧ (∀ z c, env.cells.lookup z = some c → oa y ≠ c) ∧
      ∃ vs n, s₂.heap.get? (oa y) = some (listOf vs.toArray n) ∧ RepAll G Z₂ vs es := fun y es e => by
    obtain ⟨g1, g2, g3, g4, g5, us, j, g6, g7⟩ := ho y es e
    exact ⟨g1.keeps x₂.keep, ext_none x₂ g2 ⟨_, g6⟩, g3, g4, g5, us, j, x₂.keep _ _ g6, g7.mono x₂.le⟩
  refine wp_seq (hm.run A Z₂ s₂ (oa x) vs j us (R.less (Nat.zero_le _)) S₂.bs (n2 x ds hx).2.1 (x₂.keep _ _ h6) (h7.mono x₂.le) r₂) fun r s₃ ⟨vs', k', e1, e2, h', t, e3, e4, e5⟩ => ?_
  subst e3
  exact ⟨Z₂, _, .next, x₂.le, S₂.mutate oa hi n2 hx e1 e2 e4 e5, .next, k⟩

theorem upd_list {h : Heap} {l : Addr} {its its' : Array Value} {k : Nat} (x : h.get? l = some (listOf its k)) (f : Array Value → Array Value) (e : f its = its') : ∃ k', (h.update l (Obj.mapSeq f)).get? l = some (listOf its' k') := by
  subst e
  exact ⟨_, PySem.IsL.update (n := k) x f⟩
theorem mut_insert {ds : List D} {d : D} {i : Int} (h0 : 0 ≤ i) (hi : i.toNat ≤ ds.length) (hsz : ds.length ≤ sizeLine) : Mut G "list.insert" ds [.int i, d] (ds.take i.toNat ++ d :: ds.drop i.toNat) := Mut.mk fun A Z s a vs k args R b hz ho r ra => by
  cases ra with
  | cons ri rr =>
    cases rr with
    | @cons v _ _ _ rv rr =>
      cases rr
      cases ri with
      | int _ t =>
        have hl : vs.length = ds.length := r.length
        have hfit : ¬ (!Builtin.List.listFitsIndex i) = true := by
          have : sizeLine < 2 ^ 63 := by decide
          unfold Builtin.List.listFitsIndex
          simp
          omega
        refine call_meets F.slot_list_insert (isList_of ho).typeIs F.entry_list_insert (F.args_list_insert_3 _ _ _) (PySem.AutoListH.list_insert_list_int_val_1 a vs.toArray k i t v hfit (by rw [List.size_toArray, hl]; exact hsz)) ⟨ho, ?_⟩
        obtain ⟨k', hg⟩ := upd_list ho (fun xs => have k := if i < 0 then (i + ((xs.size : Nat) : Int)).toNat else min i.toNat xs.size; (xs.extract 0 k).push v ++ xs.extract k) (its' := (vs.take i.toNat ++ v :: vs.drop i.toNat).toArray) (by
          have h1 : ¬ i < 0 := by omega
          have h2 : min i.toNat vs.length = i.toNat := by omega
          apply Array.ext'
          simp [h1, h2]
          exact List.take_of_length_le (by rw [List.length_drop]; omega))
        exact ⟨vs.take i.toNat ++ v :: vs.drop i.toNat, _, hg, (r.take _).append (.cons rv (r.drop _)), _, _, rfl, Nat.le_refl _, Heap.SameBut.update ..⟩

-- several targets
structure Asgs (G : Gnd) (env : Env) (ts : List PySem.Expr) (ds : List D) (ρ ρ' : Loc) : Prop where
  run : ∀ A Z H s vs, Room 0 A → St G env Z H ρ s → RepAll G Z vs ds → wpAny (model G.prog G.w) A (assignInOrder ((assignEach ts env).map (·.2)) vs) (fun _ s' => ∃ Z', Zle Z Z' ∧ St G env Z' H ρ' s') (fun _ _ => False) s
  len : (assignEach ts env).length = ds.length
  star : (assignEach ts env).findIdx? (·.1) = none
theorem asgs_nil : Asgs G env [] [] ρ ρ := ⟨fun A Z H s vs R S r => wpAny_pure ⟨Z, Zle.same, S⟩, rfl, rfl⟩
theorem asgs_cons {t : PySem.Expr} {ts : List PySem.Expr} {d : D} {ds : List D} {ρ'' : Loc} (h : Asg G env t d ρ ρ') (hs : Asgs G env ts ds ρ' ρ'') (hst : isStarred t = false) : Asgs G env (t :: ts) (d :: ds) ρ ρ'' := by
  have e : assignEach (t :: ts) env = (false, assign t env) :: assignEach ts env := by cases t <;> first | rfl | cases hst
  refine ⟨fun A Z H s vs R S r => ?_, ?_, ?_⟩
  · cases r with
    | cons r rs =>
      rw [e]
      refine assignInOrder_cons (wp_seq (h.run A Z H s _ R S r) fun _ s₁ ⟨Z₁, le₁, S₁⟩ => ?_)
      exact wp_seq (hs.run A Z₁ H s₁ _ R S₁ (rs.mono le₁)) fun _ s₂ ⟨Z₂, le₂, S₂⟩ => ⟨Z₂, le₁.trans le₂, S₂⟩
  · rw [e, List.length_cons, List.length_cons, hs.len]
  · rw [e, List.findIdx?_cons, hs.star]; rfl
theorem asg_tuple {ts : List PySem.Expr} {ds : List D} {k : Nat} (h : Asgs G env ts ds ρ ρ') : Asg G env (.Tuple ts k pos) (.tup ds) ρ ρ' := Asg.mk fun A Z H s v R S r => by
  cases r with
  | @tup a vs j _ hz ra =>
    have ht := isTuple_of (S.zin _ _ hz)
    refine wpAny_assign_Tuple R.handled ht (by rw [h.len, List.size_toArray, ra.length]) h.star fun h' he => ?_
    have x : Ext Z s Z { s with heap := h' } := ⟨Zle.same, fun b o e => he b o (fun q => by rw [q, get?_size_none] at e; cases e) e, fun b o e => he b o (fun q => by have := S.zin b o e; rw [q, get?_size_none] at this; cases this) (S.zin b o e), fun _ _ h => .inl h, rfl, rfl, Nat.le_refl _⟩
    exact h.run A Z H _ vs R (S.ext x) ra

end
end Mine
end
section
open PySem PySem.W PyProof.Rows PySem.Builtin PySem.Builtin.Str PySem.StrLaws
set_option linter.unusedVariables false
namespace Mine

/-- p cannot begin in u, whatever stands behind u -/
def apart (p u : List Nat) : Bool := (List.range u.length).all fun j => !(p.isPrefixOf (u.drop j)) && !((u.drop j).isPrefixOf p)
def cs (x : Str) : List Nat := x.cps.toList
end Mine
end
section
open PySem PySem.W PyProof.Rows PySem.Builtin PySem.Builtin.Str
set_option linter.unusedVariables false
set_option maxRecDepth 100000
namespace Mine
section
variable {G : Gnd} {env : Env} {Z Z' H : Zf} {ρ ρ' ρc : Loc} {s s' : Shared} {A : Around} {E : Value → Shared → Prop} {n : Nat} {pos apos : Pos}

theorem fmod_bounds {a m : Int} (hm : 0 < m) : 0 ≤ a.fmod m ∧ a.fmod m < m := ⟨Int.fmod_nonneg_of_pos a hm, Int.fmod_lt_of_pos a hm⟩
/-- one of a row of texts, by a remainder -/
theorem sb_menu {value slice : PySem.Expr} {xs : List Str} {a m : Int} (hm : m = (xs.length : Int)) (h0 : 0 < xs.length) (hb : xs.length < 1000000) : Sb G value slice (.list (txs xs)) (.int (a.fmod m)) (.str (xs.getD (a.fmod m).toNat Str.empty)) := by
  have := fmod_bounds (a := a) (m := m) (by omega)
  refine sb_list this.1 (by omega) ?_
  rw [List.getElem?_map]
  have hlt : (a.fmod m).toNat < xs.length := by omega
  rw [List.getElem?_eq_getElem hlt, List.getD_eq_getElem?_getD, List.getElem?_eq_getElem hlt]
  rfl
theorem comp1 {elt tgt iter : PySem.Expr} {ifs : List PySem.Expr} {scope : Scope} {α : Type} {xs : List α} {mk : α → D} {F : α → List D}
    (item : ∀ a ∈ xs, ∃ ρ₁ ok, Asg G env tgt (mk a) ρ ρ₁ ∧ Sub ρ ρ₁ ∧ Tsts G env n ρ₁ ifs ok ∧ (ok = false → F a = []) ∧ (ok = true → ∃ x, Ev G env n ρ₁ elt x ∧ F a = [x])) :
    CRun G env n (.ListComp elt [⟨tgt, iter, ifs, 0⟩] scope pos) 0 ρ (xs.map mk) (xs.flatMap F) := comp_last (iter := iter) (fun _ _ => rfl) item
end
end Mine
end
section
open PySem PySem.W PyProof.Rows PySem.Builtin PySem.Builtin.Str PySem.StrLaws
set_option linter.unusedVariables false
set_option maxRecDepth 100000
namespace Mine
section
variable {G : Gnd} {env : Env} {Z Z' H : Zf} {ρ ρ' ρc : Loc} {s s' : Shared} {A : Around} {E : Value → Shared → Prop} {n : Nat} {pos apos : Pos}

theorem ind_clip {a b len : Nat} : strSliceIndices (some (a : Int)) (some (b : Int)) 1 len = strSliceIndices (some ((min a len : Nat) : Int)) (some ((max (min a len) (min b len) : Nat) : Int)) 1 len := by
  have h1 : ¬ ((a : Int) < 0) := by omega
  have h2 : ¬ ((b : Int) < 0) := by omega
  have h3 : ¬ (((min a len : Nat) : Int) < 0) := by omega
  have h4 : ¬ (((max (min a len) (min b len) : Nat) : Int) < 0) := by omega
  have e1 : max (0 : Int) (min (a : Int) (len : Int)) = ((min a len : Nat) : Int) := by omega
  have e2 : max (0 : Int) (min (b : Int) (len : Int)) = ((min b len : Nat) : Int) := by omega
  have e3 : max (0 : Int) (min (((min a len : Nat) : Int)) (len : Int)) = ((min a len : Nat) : Int) := by omega
  have e4 : max (0 : Int) (min (((max (min a len) (min b len) : Nat) : Int)) (len : Int)) = ((max (min a len) (min b len) : Nat) : Int) := by omega
  simp only [strSliceIndices, sliceRange, h1, h2, h3, h4, if_false, e1, e2, e3, e4, show ((1 : Int) > 0) = True from by simp, if_true]
  by_cases hlt : ((min a len : Nat) : Int) < ((min b len : Nat) : Int)
  · have : max (min a len) (min b len) = min b len := by omega
    rw [this]
  · have h5 : ¬ (((min a len : Nat) : Int) < ((max (min a len) (min b len) : Nat) : Int)) := by omega
    rw [if_neg hlt, if_neg h5]
theorem slice_ab (l : List Nat) (a b : Nat) : Txt.slice (T l) (some (a : Int)) (some (b : Int)) = T ((l.take b).drop a) := by
  unfold Txt.slice
  rw [ind_clip, T_length]
  have hp := strSliceIndices_plain (a := min a l.length) (b := max (min a l.length) (min b l.length)) (len := l.length) (by omega) (by omega)
  have hs := sliced_plain (T l) (a := min a l.length) (b := max (min a l.length) (min b l.length)) (by omega) (by rw [T_length]; omega)
  rw [T_length, T_list] at hs
  have hres : (l.drop (min a l.length)).take (max (min a l.length) (min b l.length) - min a l.length) = (l.take b).drop a := by
    rw [List.drop_take]
    by_cases h : a ≤ l.length
    · rw [Nat.min_eq_left h]
      by_cases hb : b ≤ l.length
      · rw [Nat.min_eq_left hb]; congr 1; omega
      · rw [Nat.min_eq_right (by omega), List.take_of_length_le (by rw [List.length_drop]; omega), List.take_of_length_le (by rw [List.length_drop]; omega)]
    · rw [Nat.min_eq_right (by omega), List.drop_of_length_le (Nat.le_refl _), List.drop_of_length_le (by omega)]; simp
  split
  · rename_i hw
    simp only [BEq.rfl, Bool.true_and, beq_iff_eq] at hw
    rw [hp, List.length_map, List.length_range] at hw
    congr 1
    have h1 : min a l.length = 0 ∨ l.length = 0 := by omega
    have : (l.drop (min a l.length)).take (max (min a l.length) (min b l.length) - min a l.length) = l := by
      rcases h1 with h1 | h1
      · rw [hw, h1]; simp
      · have : l = [] := List.length_eq_zero_iff.mp h1
        subst this; simp
    rw [← hres, this]
  · rw [hs, hres]; rfl
theorem slice_from (l : List Nat) (a : Nat) : Txt.slice (T l) (some (a : Int)) none = T (l.drop a) := by
  have := slice_ab l a l.length
  rw [List.take_length] at this
  rw [← this]
  have e : max (0 : Int) (min (l.length : Int) (l.length : Int)) = l.length := by omega
  have h2 : ¬ ((l.length : Int) < 0) := by omega
  unfold Txt.slice
  rw [T_length]
  simp only [strSliceIndices, h2, if_false, e, show ((1 : Int) > 0) = True from by simp, if_true]
theorem slice_to (l : List Nat) (b : Nat) : Txt.slice (T l) none (some (b : Int)) = T (l.take b) := by
  have := slice_ab l 0 b
  rw [List.drop_zero] at this
  rw [← this]
  have e : max (0 : Int) (min ((0 : Nat) : Int) (l.length : Int)) = 0 := by omega
  have h2 : ¬ (((0 : Nat) : Int) < 0) := by omega
  unfold Txt.slice
  rw [T_length]
  simp only [strSliceIndices, h2, if_false, e, show ((1 : Int) > 0) = True from by simp, if_true]
/-- a, b = .. -/
theorem ex_assign_tuple {ts : List PySem.Expr} {k : Nat} {tpos : Pos} {e : PySem.Expr} {d : D} {Φ : Fl → Loc → Prop} (h : Ev G env n ρ e d) (ha : Asg G env (.Tuple ts k tpos) d ρ ρ') (hs : swapsWithSole [.Tuple ts k tpos] e pos.line env = pure false)
    (hw : swappedStores [.Tuple ts k tpos] e env = pure none) (hk : Φ .next ρ') : Ex G env n ρ (.Assign [.Tuple ts k tpos] e pos) Φ :=
  Ex.mk fun A Z H s R S => Assign_Tuple (wp_seq (h.run A Z H s R S) fun v s₁ ⟨Z₁, x₁, r₁⟩ => wp_seq (ha.run A Z₁ H s₁ v (R.less (Nat.zero_le _)) (S.ext x₁) r₁) fun _ s₂ ⟨Z₂, le₂, S₂⟩ => ⟨Z₂, _, .next, x₁.le.trans le₂, S₂, .next, hk⟩) hs hw
end
end Mine
end
section
open PySem PySem.W PyProof.Rows
set_option maxRecDepth 100000
namespace Mine
section
variable {G : Gnd} {env : Env} {Z Z' H : Zf} {ρ ρ' ρc : Loc} {s s' : Shared} {A : Around} {E : Value → Shared → Prop} {n : Nat} {pos apos : Pos}
def CellsIn (env : Env) (cl : List (Str × Addr)) : Prop := ∀ x c, cl.lookup x = some c → env.cells.lookup x = some c
theorem cells_nil : CellsIn env [] := fun _ _ h => nomatch h
theorem cells_cons {x : Str} {c : Addr} {cl : List (Str × Addr)} (h : env.cells.lookup x = some c) (r : CellsIn env cl) : CellsIn env ((x, c) :: cl) := fun y d e => by
  rw [List.lookup_cons] at e
  split at e
  · cases e; rename_i q; rw [beq_iff_eq] at q; subst q; exact h
  · exact r y d e
def CapIn (env : Env) (scope : Scope) (cl : List (Str × Addr)) (ρ ρc : Loc) : Prop :=
  ∀ x b, ρc.lookup x = some b → (∃ d, b = .val d) ∧ ρ.lookup x = some b ∧ env.kindOf x ≠ some .local ∧ (∃ c, cl.lookup x = some c) ∧ ((relabel scope env).names.lookup x = some .cell ∨ ((relabel scope env).names.lookup x = some .free ∧ (x == ("__classdict__" : Str)) = false))
theorem cap_nil {scope : Scope} {cl : List (Str × Addr)} : CapIn env scope cl ρ [] := fun _ _ h => nomatch h
theorem cap_cons {scope : Scope} {cl : List (Str × Addr)} {x : Str} {d : D} {c : Addr} (h1 : ρ.lookup x = some (.val d)) (h2 : env.kindOf x = some .cell) (h3 : cl.lookup x = some c) (h4 : (relabel scope env).names.lookup x = some .cell) (r : CapIn env scope cl ρ ρc) :
    CapIn env scope cl ρ ((x, .val d) :: ρc) := fun y b e => by
  rw [List.lookup_cons] at e
  split at e
  · cases e; rename_i q; rw [beq_iff_eq] at q; subst q
    exact ⟨⟨_, rfl⟩, h1, by rw [h2]; decide, ⟨_, h3⟩, .inl h4⟩
  · exact r y b e
theorem at_map {α : Type} {f : α → D} {l : List α} {i : Nat} {d : D} (h : (l.map f)[i]? = some d) : ∃ x, l[i]? = some x ∧ d = f x := by
  rw [List.getElem?_map] at h
  cases e : l[i]? with
  | none => rw [e] at h; cases h
  | some x => rw [e] at h; exact ⟨x, rfl, by simpa using h.symm⟩
end
end Mine
end
section
open PySem PySem.W PyProof.Rows PySem.Builtin PySem.Builtin.Str PySem.StrLaws
set_option linter.unusedVariables false
namespace Mine

/-- no spelling begins another one -/
def pcode (t : Tbl) : Bool := t.all (fun p => p.2.head? == some 38 && (t.lookup p.1 == some p.2) && t.all (fun q => q.1 == p.1 || (!(p.2.isPrefixOf q.2) && !(q.2.isPrefixOf p.2))) && p.2.tail.all (fun c => !(t.any fun q => q.1 == c)) && decide (p.2.length ≤ 8)) && (t.any fun q => q.1 == 38)
theorem mem_look {t : Tbl} {k : Nat} {z : List Nat} (h : t.lookup k = some z) : (k, z) ∈ t := by
  induction t with
  | nil => cases h
  | cons p r ih =>
    obtain ⟨a, b⟩ := p
    rw [List.lookup_cons] at h
    split at h
    · rename_i q; rw [beq_iff_eq] at q; subst q; cases h; exact List.mem_cons_self
    · exact List.mem_cons_of_mem _ (ih h)
theorem look_none {t : Tbl} {k : Nat} : t.lookup k = none ↔ (t.any fun q => q.1 == k) = false := by
  induction t with
  | nil => simp
  | cons p r ih =>
    obtain ⟨a, b⟩ := p
    rw [List.lookup_cons, List.any_cons, Bool.or_eq_false_iff, ← ih]
    by_cases h : k = a
    · subst h; simp
    · have h1 : (k == a) = false := beq_eq_false_iff_ne.mpr h
      have h2 : (a == k) = false := beq_eq_false_iff_ne.mpr (Ne.symm h)
      rw [h1]
      simp [h2]
structure PC (t : Tbl) : Prop where
  ok : pcode t = true
section
variable {t : Tbl}
theorem PC.at (h : PC t) {k : Nat} {z : List Nat} (hk : t.lookup k = some z) : ∃ y, z = 38 :: y ∧ (∀ q ∈ t, q.1 = k ∨ (¬ z <+: q.2 ∧ ¬ q.2 <+: z)) ∧ (∀ c ∈ y, t.lookup c = none) ∧ y.length ≤ 7 := by
  have h0 := h.ok
  unfold pcode at h0
  rw [Bool.and_eq_true] at h0
  have h1 := List.all_eq_true.mp h0.1 _ (mem_look hk)
  simp only [Bool.and_eq_true, beq_iff_eq, decide_eq_true_eq] at h1
  obtain ⟨⟨⟨⟨a1, a2⟩, a3⟩, a4⟩, a5⟩ := h1
  cases z with
  | nil => cases a1
  | cons c y =>
    have : c = 38 := by simpa using a1
    subst this
    refine ⟨y, rfl, fun q hq => ?_, fun c hc => ?_, by simpa using a5⟩
    · have := List.all_eq_true.mp a3 q hq
      rw [Bool.or_eq_true, beq_iff_eq, Bool.and_eq_true, Bool.not_eq_true', Bool.not_eq_true'] at this
      rcases this with e | ⟨e1, e2⟩
      · exact .inl e
      · refine .inr ⟨fun q => ?_, fun q => ?_⟩
        · rw [List.isPrefixOf_iff_prefix.mpr q] at e1; cases e1
        · rw [List.isPrefixOf_iff_prefix.mpr q] at e2; cases e2
    · have := List.all_eq_true.mp a4 c hc
      exact look_none.mpr (by simpa using this)
theorem PC.amp (h : PC t) {k : Nat} (hk : t.lookup k = none) : k ≠ 38 := by
  have h0 := h.ok
  unfold pcode at h0
  rw [Bool.and_eq_true] at h0
  intro e
  subst e
  rw [look_none.mp hk] at h0
  cases h0.2
theorem spell_some {k : Nat} {z : List Nat} (h : t.lookup k = some z) : spell t k = z := by unfold spell; rw [h]; rfl
theorem spell_none {k : Nat} (h : t.lookup k = none) : spell t k = [k] := by unfold spell; rw [h]; rfl
end

end Mine
end
section
open PySem PySem.W PyProof.Rows
set_option linter.unusedVariables false
set_option maxRecDepth 100000
namespace Mine
section
abbrev dD (t : Tbl) : D := .dict (t.map fun p => T [p.1]) (t.map fun p => .str (T p.2))
theorem dget_tb {tb : Tbl} (k : Nat) : dget (tb.map fun p => T [p.1]) (tb.map fun p => D.str (T p.2)) ⟨#[k]⟩ = (tb.lookup k).map fun t => .str (T t) := by
  unfold dget
  induction tb with
  | nil => rfl
  | cons p r ih =>
    obtain ⟨a, b⟩ := p
    simp only [List.map_cons, List.zip_cons_cons, List.lookup_cons]
    have e : ((⟨#[k]⟩ : Str) == T [a]) = (k == a) := by
      rw [← T_one, T_beq]
      simp
      by_cases h : k = a <;> simp [h]
    rw [e]
    cases k == a with
    | true => rfl
    | false => exact ih
theorem cut_prefix (so l : List Nat) (i : Nat) : (T ((l.take (i + so.length)).drop i) == T so) = so.isPrefixOf (l.drop i) := by
  rw [T_beq, Bool.eq_iff_iff, decide_eq_true_eq, List.isPrefixOf_iff_prefix, List.drop_take, Nat.add_sub_cancel_left]
  constructor
  · intro h; conv => lhs; rw [← h]
    exact List.take_prefix _ _
  · rintro ⟨r, h⟩; rw [← h, List.take_left]
abbrev strDict (t : List (Str × Str)) : D := .dict (t.map (·.1)) (t.map fun p => .str p.2)
theorem strDict_eq {t : List (Str × Str)} {tb : Tbl} (h : t = tb.map fun p => (T [p.1], T p.2)) : strDict t = dD tb := by
  rw [h]
  show D.dict _ _ = D.dict _ _
  rw [List.map_map, List.map_map]
  rfl
end
end Mine
end
section
open PySem PySem.W PyProof.Rows PySem.Builtin PySem.Builtin.Str
set_option linter.unusedVariables false
set_option maxRecDepth 100000
namespace Mine
section
variable {G : Gnd} {env : Env} {Z Z' H : Zf} {ρ ρ' ρc : Loc} {s s' : Shared} {A : Around} {E : Value → Shared → Prop} {n : Nat} {pos apos sp : Pos}
theorem big_line : 100000 ≤ sizeLine := by decide
/-- l[:b] -/
theorem ev_to {v e : PySem.Expr} {l : List Nat} {b : Nat} (hv : Ev G env n ρ v (.str (T l))) (he : Ev G env n ρ e (.int (b : Int))) (hl : l.length ≤ 100000) : Ev G env n ρ (.Subscript v (.Slice none (some e) none sp) pos) (.str (T (l.take b))) := by
  rw [← slice_to]
  exact ev_sub hv (ev_slice (lo := none) (hi := some (b : Int)) trivial he) (sb_slice_str (by rw [T_length]; have := big_line; omega))
/-- l[a:] -/
theorem ev_from {v e : PySem.Expr} {l : List Nat} {a : Nat} (hv : Ev G env n ρ v (.str (T l))) (he : Ev G env n ρ e (.int (a : Int))) (hl : l.length ≤ 100000) : Ev G env n ρ (.Subscript v (.Slice (some e) none none sp) pos) (.str (T (l.drop a))) := by
  rw [← slice_from]
  exact ev_sub hv (ev_slice (lo := some (a : Int)) (hi := none) he trivial) (sb_slice_str (by rw [T_length]; have := big_line; omega))
/-- l[a:b] -/
theorem ev_cut {v e e' : PySem.Expr} {l : List Nat} {a b : Nat} (hv : Ev G env n ρ v (.str (T l))) (he : Ev G env n ρ e (.int (a : Int))) (he' : Ev G env n ρ e' (.int (b : Int))) (hl : l.length ≤ 100000) : Ev G env n ρ (.Subscript v (.Slice (some e) (some e') none sp) pos) (.str (T ((l.take b).drop a))) := by
  rw [← slice_ab]
  exact ev_sub hv (ev_slice (lo := some (a : Int)) (hi := some (b : Int)) he he') (sb_slice_str (by rw [T_length]; have := big_line; omega))
/-- l[i] -/
theorem ev_at {v e : PySem.Expr} {l : List Nat} {i c : Nat} (hv : Ev G env n ρ v (.str (T l))) (he : Ev G env n ρ e (.int (i : Int))) (hc : l[i]? = some c) (hl : l.length ≤ 100000) : Ev G env n ρ (.Subscript v e pos) (.str ⟨#[c]⟩) := by
  have hlt := (List.getElem?_eq_some_iff.mp hc).1
  exact ev_sub hv he (sb_str (by omega) (by omega) (by show (l.toArray)[(i : Int).toNat]? = _; simpa using hc))
theorem ev_plus1 {e : PySem.Expr} {a m : Nat} {k : Nat} (he : Ev G env n ρ e (.int (a : Int))) : Ev G env n ρ (.BinOp e .Add (.Constant (.int (m : Int)) k sp) pos) (.int ((a + m : Nat) : Int)) := by
  rw [Int.natCast_add]
  exact ev_binop he ev_int op_add_int
theorem ev_cat {e e' : PySem.Expr} {x y : List Nat} (h : Ev G env n ρ e (.str (T x))) (h' : Ev G env n ρ e' (.str (T y))) (hl : x.length + y.length ≤ 100000) : Ev G env n ρ (.BinOp e .Add e' pos) (.str (T (x ++ y))) := by
  rw [← T_append]
  exact ev_binop h h' (op_add_str (by rw [T_length, T_length]; have := big_line; omega))
theorem lenT' (l : List Nat) (h : l.length ≤ 100000) : BF G "len" [.str (T l)] (.int (l.length : Int)) := by
  rw [← T_length]
  exact bf_len_str (by rw [T_length]; have := big_line; omega)
end
end Mine
end
section
open PySem PySem.W PyProof.Rows
set_option linter.unusedVariables false
set_option maxRecDepth 100000
namespace Mine
section
variable {G : Gnd} {env : Env} {Z Z' H : Zf} {ρ ρ' ρc : Loc} {s s' : Shared} {A : Around} {E : Value → Shared → Prop} {n : Nat} {pos apos sp : Pos}
theorem execs_append (env : Env) : ∀ (a b : List Stmt), execs (a ++ b) env = (do match ← execs a env with | .next => execs b env | f => pure f)
  | [], b => by rw [execs_nil, pure_bind]; rfl
  | st :: a, b => by
    rw [List.cons_append, execs_cons, execs_cons, bind_assoc]
    congr 1
    funext f
    cases f
    · exact execs_append env a b
    all_goals rw [pure_bind]
end
end Mine
end
section
open PySem PySem.W PyProof.Rows PySem.Builtin PySem.Builtin.Str
set_option linter.unusedVariables false
set_option maxRecDepth 100000
namespace Mine
section
variable {G : Gnd} {env : Env} {Z Z' H : Zf} {ρ ρ' ρc : Loc} {s s' : Shared} {A : Around} {E : Value → Shared → Prop} {n : Nat} {pos apos sp : Pos}
theorem ev_len {e : PySem.Expr} {p : Pos} {l : List Nat} (h : Ev G env n ρ e (.str (T l))) (hl : l.length ≤ 100000) (hg : nsIn G.K mainGlobals "len" = some none) (hx : env.kindOf "len" = some .globalImplicit) (hst : isStarred e = false) : Ev G env n ρ (.Call (.Name "len" p) [e] [] pos) (.int (l.length : Int)) :=
  ev_bf (evs_more h evs_nil hst) (lenT' l hl) hg rfl hx rfl (by simp [hst])
theorem ev_lenL {e : PySem.Expr} {p : Pos} {ds : List D} (h : Ev G env n ρ e (.list ds)) (hl : ds.length ≤ 100000) (hg : nsIn G.K mainGlobals "len" = some none) (hx : env.kindOf "len" = some .globalImplicit) (hst : isStarred e = false) : Ev G env n ρ (.Call (.Name "len" p) [e] [] pos) (.int (ds.length : Int)) :=
  ev_bf (evs_more h evs_nil hst) (bf_len_list (by have := big_line; omega)) hg rfl hx rfl (by simp [hst])
end
end Mine
end
section
open PySem PySem.W PyProof.Rows
set_option linter.unusedVariables false
set_option linter.unusedSimpArgs false
namespace Mine
def rAmp : List Nat := [38, 97, 109, 112, 59]
def rGt : List Nat := [38, 103, 116, 59]
def rQuot : List Nat := [38, 113, 117, 111, 116, 59]
def htmlT : Tbl := [(38, rAmp), (62, rGt), (34, rQuot)]
abbrev Row := List Nat × Nat
def rowD (r : Row) : D := .tup [.str (T r.1), .str ⟨#[r.2]⟩]
def fit (rows : List Row) (w : List Nat) : List Row := rows.filter fun r => r.1.isPrefixOf w
def read04 (rows : List Row) : List Nat → List Nat
  | [] => []
  | c :: w => if c = 38 then (match fit rows w with | [] => c :: read04 rows w | r :: _ => r.2 :: read04 rows (w.drop r.1.length)) else c :: read04 rows w
termination_by w => w.length
decreasing_by all_goals (simp; try omega)
def refT : Tbl := [(38, [97, 109, 112, 59]), (62, [103, 116, 59]), (34, [113, 117, 111, 116, 59])]
def due1 (rows : List Row) (c : Nat) : List Nat := match refT.lookup c with
  | none => [c]
  | some b => match fit rows b with | [] => b | r :: _ => r.2 :: b.drop r.1.length
def due04 (rows : List Row) (l : List Nat) : List Nat := l.flatMap (due1 rows)
def base3 : List Row := [([97, 109, 112, 59], 38), ([103, 116, 59], 62), ([113, 117, 111, 116, 59], 34)]
structure GoodR (rows : List Row) : Prop where
  free : ∀ r ∈ rows, r ∈ base3 ∨ 59 ∉ r.1
  base : ∀ r ∈ base3, r ∈ rows
theorem ref_cases {c : Nat} {b : List Nat} (h : refT.lookup c = some b) : (b, c) ∈ base3 := by
  have hm := mem_look h
  simp only [refT, List.mem_cons, List.not_mem_nil, or_false, Prod.mk.injEq] at hm
  rcases hm with ⟨rfl, rfl⟩ | ⟨rfl, rfl⟩ | ⟨rfl, rfl⟩ <;> decide
theorem base_cases {r : Row} (h : r ∈ base3) : r = ([97, 109, 112, 59], 38) ∨ r = ([103, 116, 59], 62) ∨ r = ([113, 117, 111, 116, 59], 34) := by
  simpa [base3] using h
theorem html_look (c : Nat) : htmlT.lookup c = (refT.lookup c).map (38 :: ·) := by
  unfold htmlT refT
  simp only [List.lookup]
  cases c == 38 <;> cases c == 62 <;> cases c == 34 <;> rfl
theorem base_pre {b : List Nat} {c : Nat} (hb : (b, c) ∈ base3) {r : Row} (hr : r ∈ base3) (h : b <+: r.1) : r = (b, c) := by
  rcases base_cases hb with e | e | e <;> cases e <;> rcases base_cases hr with rfl | rfl | rfl <;> first | rfl | (exfalso; revert h; decide)
theorem fit_ext {rows : List Row} (G : GoodR rows) {b : List Nat} {c : Nat} (hb : (b, c) ∈ base3) (w : List Nat) : fit rows (b ++ w) = fit rows b := by
  unfold fit
  refine List.filter_congr fun r hr => ?_
  rw [Bool.eq_iff_iff, List.isPrefixOf_iff_prefix, List.isPrefixOf_iff_prefix]
  constructor
  · intro h
    rcases List.prefix_or_prefix_of_prefix h (List.prefix_append b w) with q | q
    · exact q
    · have h59 : 59 ∈ b := by rcases base_cases hb with e | e | e <;> cases e <;> decide
      rcases G.free r hr with hr' | hr'
      · rw [base_pre hb hr' q]; exact List.prefix_refl _
      · exact absurd (q.subset h59) hr'
  · intro h
    exact h.trans (List.prefix_append b w)
theorem fit_some {rows : List Row} (G : GoodR rows) {b : List Nat} {c : Nat} (hb : (b, c) ∈ base3) : ∃ r t, fit rows b = r :: t ∧ r.1 <+: b ∧ r ∈ rows := by
  have hm : (b, c) ∈ fit rows b := List.mem_filter.mpr ⟨G.base _ hb, by simp⟩
  cases q : fit rows b with
  | nil => rw [q] at hm; cases hm
  | cons r t =>
    have : r ∈ fit rows b := by rw [q]; exact .head _
    rw [fit, List.mem_filter, List.isPrefixOf_iff_prefix] at this
    exact ⟨r, t, rfl, this.2, this.1⟩
theorem read_free (rows : List Row) : ∀ (u w : List Nat), 38 ∉ u → read04 rows (u ++ w) = u ++ read04 rows w
  | [], w, _ => rfl
  | c :: u, w, h => by
    have hc : ¬ c = 38 := fun q => h (by rw [q]; exact .head _)
    rw [List.cons_append, read04, if_neg hc, read_free rows u w fun q => h (.tail _ q)]
    rfl
theorem read_esc {rows : List Row} (G : GoodR rows) : ∀ l : List Nat, read04 rows (escBy htmlT l) = due04 rows l
  | [] => by rw [show escBy htmlT [] = [] from rfl, read04]; rfl
  | c :: l => by
    have ih := read_esc G l
    unfold due04 at ih ⊢
    rw [escBy_cons, List.flatMap_cons, ← ih]
    have hl := html_look c
    cases hk : refT.lookup c with
    | none =>
      rw [hk] at hl
      have hl' : htmlT.lookup c = none := hl
      have hc : ¬ c = 38 := fun q => by rw [q] at hk; revert hk; decide
      rw [spell_none hl', show due1 rows c = [c] from by unfold due1; rw [hk], List.singleton_append, read04, if_neg hc]
      rfl
    | some b =>
      rw [hk] at hl
      have hl' : htmlT.lookup c = some (38 :: b) := hl
      have hb := ref_cases hk
      obtain ⟨r, t, hf, hp, _⟩ := fit_some G hb
      have h38 : 38 ∉ b := by rcases base_cases hb with e | e | e <;> cases e <;> decide
      rw [spell_some hl', show due1 rows c = r.2 :: b.drop r.1.length from by unfold due1; rw [hk]; dsimp only; rw [hf], List.cons_append, read04, if_pos rfl, fit_ext G hb, hf]
      dsimp only
      obtain ⟨u, rfl⟩ := hp
      rw [List.append_assoc, List.drop_left, List.drop_left, read_free rows u _ fun q => h38 (List.mem_append_right _ q)]
      rfl
theorem due_sorted {rows rows' : List Row} (G : GoodR rows) (hp : rows'.Perm rows) (hs : rows'.Pairwise fun x y => y.1.length ≤ x.1.length) (l : List Nat) : due04 rows' l = l := by
  have G' : GoodR rows' := ⟨fun r hr => G.free r (hp.mem_iff.mp hr), fun r hr => hp.mem_iff.mpr (G.base r hr)⟩
  unfold due04
  have : ∀ c, due1 rows' c = [c] := fun c => by
    unfold due1
    cases hk : refT.lookup c with
    | none => rfl
    | some b =>
      have hb := ref_cases hk
      obtain ⟨r, t, hf, hpre, hr⟩ := fit_some G' hb
      have hm : (b, c) ∈ r :: t := by rw [← hf]; exact List.mem_filter.mpr ⟨G'.base _ hb, by simp⟩
      have hsub : (r :: t).Pairwise fun x y => y.1.length ≤ x.1.length := by rw [← hf]; exact hs.sublist List.filter_sublist
      have hlen : b.length ≤ r.1.length := by
        rcases List.mem_cons.mp hm with q | q
        · rw [← q]; exact Nat.le_refl _
        · exact (List.pairwise_cons.mp hsub).1 _ q
      have hrb : r.1 = b := hpre.eq_of_length (Nat.le_antisymm hpre.length_le hlen)
      have h59 : 59 ∈ b := by rcases base_cases hb with e | e | e <;> cases e <;> decide
      have hrr : r = (b, c) := by
        rcases G'.free r hr with q | q
        · exact base_pre hb q (by rw [hrb]; exact List.prefix_refl _)
        · exact absurd (hrb ▸ h59) q
      dsimp only
      rw [hf]
      dsimp only
      rw [hrr]
      simp
  rw [show due1 rows' = fun c => [c] from funext this]
  induction l with
  | nil => rfl
  | cons c l ih => rw [List.flatMap_cons, ih]; rfl
theorem goodR_insert {rows : List Row} (G : GoodR rows) {r : Row} (hr : 59 ∉ r.1) (i : Nat) : GoodR (rows.take i ++ r :: rows.drop i) := by
  refine ⟨fun q hq => ?_, fun q hq => ?_⟩
  · rcases List.mem_append.mp hq with h | h
    · exact G.free q (List.mem_of_mem_take h)
    · rcases List.mem_cons.mp h with rfl | h
      · exact .inr hr
      · exact G.free q (List.mem_of_mem_drop h)
  · have := G.base q hq
    rw [← List.take_append_drop i rows] at this
    rcases List.mem_append.mp this with h | h
    · exact List.mem_append_left _ h
    · exact List.mem_append_right _ (.tail _ h)
theorem goodR_base : GoodR base3 := ⟨fun _ h => .inl h, fun _ h => h⟩
end Mine
end
section
open PySem PySem.W PyProof.Rows
set_option linter.unusedVariables false
set_option maxRecDepth 100000
namespace Mine
local macro_rules | `(tactic| walk_at "ev1") => `(tactic| first
  | exact ev_int | exact ev_str | exact ev_bool | exact ev_none
  | exact ev_name rfl rfl
  | exact evs_nil
  | (apply evs_more; (case hs => exact rfl))
  | apply ev_binop | (apply ev_cmp; (case hm => exact rfl)) | apply ev_sub
  | apply ev_list | apply ev_tuple
  | (apply tst_cmp; (case hm => exact rfl)) | apply tst_not | exact tst_and_nil | exact tst_or_nil
  | exact op_add_int | exact op_sub_int | exact op_iadd_int | exact op_eq_int | exact op_ne_int | exact op_lt_int | exact op_gt_int | exact op_le_int | exact op_ge_int
  | exact op_eq_str | exact op_ne_str | exact op_in_str | exact op_notin_str | exact op_in_dict | exact op_notin_dict | exact op_ne_nil | exact op_eq_nil
  | exact op_fdiv_int (by decide) (PyProof.noPylong_of_log2 (by decide +kernel)) | exact op_mod_int (by decide)
  | apply op_add_str | apply op_iadd_str
  | exact tsts_nil | apply tsts_one)
local macro_rules | `(tactic| walk_at "ev") => `(tactic| repeat' walk_at "ev1")
local macro_rules | `(tactic| walk_at "can") => `(tactic| first | exact Or.inl rfl | exact Or.inr ⟨rfl, rfl, _, rfl⟩)
local macro_rules | `(tactic| walk_at "as") => `(tactic| (refine exs_cons ?_; apply ex_assign; (case hc => walk_at "can"); (case hs => exact rfl); (case' k => refine then_next ?_); (case' h => walk_at "ev")))
local macro_rules | `(tactic| walk_at "aug") => `(tactic| (refine exs_cons ?_; apply ex_aug; (case h₀ => exact rfl); (case hc => walk_at "can"); (case' k => refine then_next ?_); (case' ho => skip); (case' h => walk_at "ev"); (try walk_at "ev")))
local macro_rules | `(tactic| walk_at "if") => `(tactic| (refine exs_cons ?_; apply ex_if; (case' h => walk_at "ev")))
local macro_rules | `(tactic| walk_at "ret") => `(tactic| (refine exs_cons ?_; apply ex_return; (case' h => walk_at "ev")))
local macro_rules | `(tactic| walk_at "params") => `(tactic| (intro x hx; simp only [List.mem_cons, List.not_mem_nil, or_false] at hx; first
  | (subst hx; first | exact .inl rfl | exact .inr ⟨rfl, fun _ => rfl⟩)
  | (rcases hx with hx | hx <;> subst hx <;> first | exact .inl rfl | exact .inr ⟨rfl, fun _ => rfl⟩)
  | (rcases hx with hx | hx | hx <;> subst hx <;> first | exact .inl rfl | exact .inr ⟨rfl, fun _ => rfl⟩)))
local macro_rules | `(tactic| walk_at "esc") => `(tactic| (refine esc_step rfl (by decide +kernel : _ = (⟨#[_]⟩ : Str)) ?_ ?_ ?_ ?_ (by assumption) rfl (by walk_at "can") rfl ?_))
abbrev pw := PySem.Challenge.pw_dn0275_04
section
variable {G : Gnd} {n : Nat} {doc pm cdv ct : Value} {a : Addr}
set_option maxHeartbeats 4000000
theorem fn_html (D : DefAt G a (fdOf (stOf pw 2) doc pm cdv ct) (bodyOf (stOf pw 2))) (l : List Nat) (hl : l.length ≤ 100000) : Fn G (n + 1) a [.str (T l)] (.str (T (escBy htmlT l))) := by
  refine fn_of (xs := ["text"]) D (fun vs h => ?_) rfl ?_ (by decide) fun L => ?_
  · match vs, h with
    | [v], _ => rfl
  · walk_at "params"
  rw [show T l = T (escBy [] l) from by rw [escBy_nil]]
  refine exs_cons (ex_try ?_)
  refine esc_step (c := 38) (z := rAmp) rfl (by decide +kernel) (by decide +kernel) (by decide) (by decide) (by decide) hl rfl (.inl rfl) rfl ?_
  refine esc_step (c := 62) (z := rGt) rfl (by decide +kernel) (by decide +kernel) (by decide) (by decide) (by decide) hl rfl (.inl rfl) rfl ?_
  refine esc_step (c := 34) (z := rQuot) rfl (by decide +kernel) (by decide +kernel) (by decide) (by decide) (by decide) hl rfl (.inl rfl) rfl ?_
  walk_at "ret"
  rfl
theorem read_len (rows : List Row) : ∀ (k : Nat) (w : List Nat), w.length ≤ k → (read04 rows w).length ≤ w.length
  | _, [], _ => by rw [read04]; exact Nat.le_refl _
  | k + 1, c :: w, h => by
    rw [List.length_cons] at h
    have ih := fun (u : List Nat) (hu : u.length ≤ w.length) => read_len rows k u (by omega)
    rw [read04]
    split
    · split
      · simp only [List.length_cons]; have := ih w (Nat.le_refl _); omega
      · rename_i r t _
        simp only [List.length_cons]
        have := ih (w.drop r.1.length) (by simp)
        have : (w.drop r.1.length).length ≤ w.length := by simp
        omega
    · simp only [List.length_cons]; have := ih w (Nat.le_refl _); omega
theorem fit_flat (rows : List Row) (w : List Nat) : (fit rows w).map rowD = rows.flatMap fun r => if r.1.isPrefixOf w = true then [rowD r] else [] := by
  unfold fit
  induction rows with
  | nil => rfl
  | cons r rest ih =>
    rw [List.filter_cons, List.flatMap_cons, ← ih]
    cases r.1.isPrefixOf w <;> rfl
theorem sb_row0 {value slice : PySem.Expr} {r : Row} : Sb G value slice (rowD r) (.int 0) (.str (T r.1)) := sb_tup (j := 0) (by decide) (by decide) rfl rfl
theorem sb_row1 {value slice : PySem.Expr} {r : Row} : Sb G value slice (rowD r) (.int 1) (.str ⟨#[r.2]⟩) := sb_tup (j := 1) (by decide) (by decide) rfl rfl
theorem fn_read04 (dA : DefAt G a (fdOf (stOf pw 4) doc pm cdv ct) (bodyOf (stOf pw 4))) (hlen : nsIn G.K mainGlobals "len" = some none) (rows : List Row) (hrows : rows.length ≤ 12) (hnm : ∀ r ∈ rows, r.1.length ≤ 10) (W : List Nat) (hW : W.length ≤ 50000) :
    Fn G (n + 2) a [.str (T W), .list (rows.map rowD)] (.str (T (read04 rows W))) := by
  refine fn_of (xs := ["writing", "table"]) dA (fun vs h => ?_) rfl ?_ (by decide) fun L => ?_
  · match vs, h with
    | [v, u], _ => rfl
  · walk_at "params"
  have big : 100000 ≤ sizeLine := by decide
  refine exs_cons (ex_assign_tuple (ev_tuple (evs_more ev_str (evs_more ev_int evs_nil rfl) rfl) (by decide)) (asg_tuple (asgs_cons (asg_name (by walk_at "can")) (asgs_cons (asg_name (by walk_at "can")) asgs_nil rfl) rfl)) rfl rfl (then_next ?_))
  refine exs_cons ?_
  refine ex_whileI (σ := List Nat × Nat) (fun c => [("writing", .val (.str (T W))), ("table", .val (.list (rows.map rowD))), ("read", .val (.str (T c.1))), ("at", .val (.int (c.2 : Int)))]) (fun c => W.length - c.2) (fun c => c.1 ++ read04 rows (W.drop c.2) = read04 rows W ∧ c.2 ≤ W.length) ([], 0) (sub_cons rfl (sub_cons rfl (sub_cons rfl (sub_cons rfl sub_nil)))) ⟨rfl, Nat.zero_le _⟩ ?_
  rintro ⟨acc, i⟩ ⟨hacc, hi⟩
  dsimp only at hacc hi ⊢
  have hal : acc.length ≤ W.length := by
    have h1 := congrArg List.length hacc
    rw [List.length_append] at h1
    have h2 := read_len rows _ W (Nat.le_refl _)
    omega
  refine ⟨decide ((i : Int) < (W.length : Int)), tst_cmp (ev_name rfl rfl) (ev_len (ev_name rfl rfl) (by omega) hlen rfl rfl) op_lt_int rfl, fun hc => ?_, fun hc ρ' hsub => ?_⟩
  · rw [decide_eq_true_eq] at hc
    have hilt : i < W.length := by omega
    have hsig : W[i]? = some W[i] := List.getElem?_eq_getElem hilt
    have hdrop : W.drop i = W[i] :: W.drop (i + 1) := List.drop_eq_getElem_cons hilt
    generalize W[i] = c at hsig hdrop
    rw [hdrop, read04] at hacc
    have hamp : ("&" : Str) = T [38] := by decide +kernel
    -- one sign is taken as it is
    have plain : acc ++ c :: read04 rows (W.drop (i + 1)) = read04 rows W → ∀ ρ : Loc, Sub [("writing", .val (.str (T W))), ("table", .val (.list (rows.map rowD))), ("read", .val (.str (T acc))), ("at", .val (.int (i : Int))), ("fits", .val (.list []))] ρ →
        Exs G (callEnvC (fdOf (stOf pw 4) doc pm cdv ct) L a) (n + 1) ρ (match bodyOf (stOf pw 4) with | _ :: .While _ b _ _ :: _ => b.drop 2 | _ => []) (LoopPost (Then (RetPost (.str (T (read04 rows W)))) fun ρ' => Exs G (callEnvC (fdOf (stOf pw 4) doc pm cdv ct) L a) (n + 1) ρ' ((bodyOf (stOf pw 4)).drop 2) (RetPost (.str (T (read04 rows W)))))
          fun ρ' => ∃ c' : List Nat × Nat, W.length - c'.2 < W.length - i ∧ (c'.1 ++ read04 rows (W.drop c'.2) = read04 rows W ∧ c'.2 ≤ W.length) ∧ Sub [("writing", .val (.str (T W))), ("table", .val (.list (rows.map rowD))), ("read", .val (.str (T c'.1))), ("at", .val (.int (c'.2 : Int)))] ρ') := by
      intro hp ρ hs
      refine exs_weaken hs ?_
      refine exs_cons (ex_if (c := ([] : List D).isEmpty) (tst_cmp (ev_name rfl rfl) (ev_list evs_nil (by decide)) op_eq_nil rfl) (fun _ => ?_) fun h => nomatch h)
      refine exs_cons (ex_aug (d₀ := .str (T acc)) (d₁ := .str ⟨#[c]⟩) (d := .str (T (acc ++ [c]))) rfl (ev_at (ev_name rfl rfl) (ev_name rfl rfl) hsig (by omega)) ?_ (by walk_at "can") (then_next ?_))
      · rw [← T_append, T_one]
        exact op_iadd_str (by rw [T_length]; show _ + 1 ≤ _; omega)
      refine exs_cons (ex_aug (d := .int ((i + 1 : Nat) : Int)) rfl ev_int (by rw [Int.natCast_add]; exact op_iadd_int) (by walk_at "can") (then_next (exs_nil (then_next (exs_nil ?_)))))
      exact ⟨(acc ++ [c], i + 1), by show W.length - (i + 1) < W.length - i; omega, ⟨by rw [List.append_assoc]; exact hp, hilt⟩, sub_cons rfl (sub_cons rfl (sub_cons rfl (sub_cons rfl sub_nil)))⟩
    walk_at "as"
    · decide
    have hb : ((⟨#[c]⟩ : Str) == "&") = decide (c = 38) := by
      rw [hamp, ← T_one, T_beq]
      simp
    by_cases h38 : c = 38
    · rw [if_pos h38] at hacc
      refine exs_cons (ex_if (c := (⟨#[c]⟩ : Str) == "&") (tst_cmp (ev_at (ev_name rfl rfl) (ev_name rfl rfl) hsig (by omega)) ev_str op_eq_str rfl) (fun _ => ?_) fun h => ?_)
      · refine exs_cons (ex_assign_comp (ρc := [("writing", .val (.str (T W))), ("at", .val (.int (i : Int)))]) (cl := [("writing", _), ("at", _)]) (d := .list (rows.map rowD)) (ds := rows.map rowD) (out := (fit rows (W.drop (i + 1))).map rowD) ⟨rfl, by decide, by decide, rfl, cells_cons rfl (cells_cons rfl cells_nil), cap_cons rfl rfl rfl rfl (cap_cons rfl rfl rfl rfl cap_nil)⟩ rfl (fun _ => rfl) rfl (ev_name rfl rfl) itr_list ?_ ?_ (.inl rfl) (then_next (exs_nil (then_next ?_))))
        · intro C
          rw [fit_flat]
          refine comp1 (xs := rows) (mk := rowD) (F := fun r => if r.1.isPrefixOf (W.drop (i + 1)) = true then [rowD r] else []) fun r hr => ⟨_, r.1.isPrefixOf (W.drop (i + 1)), asg_name (.inl rfl), sub_upd rfl, tsts_one ?_, (fun h => if_neg (by rw [h]; decide)), fun h => ⟨_, ev_name rfl rfl, if_pos h⟩⟩
          have hr10 := hnm r hr
          rw [← cut_prefix]
          refine tst_cmp (ev_cut (b := i + 1 + r.1.length) (ev_name rfl rfl) (ev_plus1 (m := 1) (ev_name rfl rfl)) ?_ (by omega)) (ev_sub (ev_name rfl rfl) ev_int sb_row0) op_eq_str rfl
          rw [Int.natCast_add]
          exact ev_binop (ev_plus1 (m := 1) (ev_name rfl rfl)) (ev_len (ev_sub (ev_name rfl rfl) ev_int sb_row0) (by omega) hlen rfl rfl) op_add_int
        · rw [List.length_map]
          have : (fit rows (W.drop (i + 1))).length ≤ rows.length := List.length_filter_le _ _
          omega
        · cases hf : fit rows (W.drop (i + 1)) with
          | nil =>
            rw [hf] at hacc
            subst h38
            exact plain hacc _ (sub_cons rfl (sub_cons rfl (sub_cons rfl (sub_cons rfl (sub_cons rfl sub_nil)))))
          | cons r t =>
            rw [hf] at hacc
            dsimp only at hacc
            have hrm : r ∈ fit rows (W.drop (i + 1)) := by rw [hf]; exact .head _
            rw [fit, List.mem_filter, List.isPrefixOf_iff_prefix] at hrm
            have hr10 := hnm r hrm.1
            have hrl : i + 1 + r.1.length ≤ W.length := by
              have := hrm.2.length_le
              rw [List.length_drop] at this
              omega
            have sub0 : ∀ {v s : PySem.Expr}, Sb G v s (.list ((r :: t).map rowD)) (.int 0) (rowD r) := sb_list (by decide) (by decide) rfl
            refine exs_cons (ex_if (c := ((r :: t).map rowD).isEmpty) (tst_cmp (ev_name rfl rfl) (ev_list evs_nil (by decide)) op_eq_nil rfl) (fun h => nomatch h) fun _ => ?_)
            refine exs_cons (ex_aug (d₀ := .str (T acc)) (d₁ := .str ⟨#[r.2]⟩) (d := .str (T (acc ++ [r.2]))) rfl (ev_sub (ev_sub (ev_name rfl rfl) ev_int sub0) ev_int sb_row1) ?_ (by walk_at "can") (then_next ?_))
            · rw [← T_append, T_one]
              exact op_iadd_str (by rw [T_length]; show _ + 1 ≤ _; omega)
            refine exs_cons (ex_aug (d₁ := .int ((1 + r.1.length : Nat) : Int)) (d := .int ((i + (1 + r.1.length) : Nat) : Int)) rfl ?_ (by rw [Int.natCast_add]; exact op_iadd_int) (by walk_at "can") (then_next (exs_nil (then_next (exs_nil ?_)))))
            · rw [Int.natCast_add]
              exact ev_binop ev_int (ev_len (ev_sub (ev_sub (ev_name rfl rfl) ev_int sub0) ev_int sb_row0) (by omega) hlen rfl rfl) op_add_int
            refine ⟨(acc ++ [r.2], i + (1 + r.1.length)), by show W.length - (i + (1 + r.1.length)) < W.length - i; omega, ⟨?_, by show i + (1 + r.1.length) ≤ W.length; omega⟩, sub_cons rfl (sub_cons rfl (sub_cons rfl (sub_cons rfl sub_nil)))⟩
            rw [← hacc, List.append_assoc, List.drop_drop]
            show acc ++ (r.2 :: read04 rows (W.drop (i + (1 + r.1.length)))) = _
            rw [show i + (1 + r.1.length) = i + 1 + r.1.length from by omega]
      · rw [hb] at h; simp [h38] at h
    · rw [if_neg h38] at hacc
      refine exs_cons (ex_if (c := (⟨#[c]⟩ : Str) == "&") (tst_cmp (ev_at (ev_name rfl rfl) (ev_name rfl rfl) hsig (by omega)) ev_str op_eq_str rfl) (fun h => ?_) fun _ => exs_nil (then_next ?_))
      · rw [hb] at h; simp [h38] at h
      · exact plain hacc _ (sub_cons rfl (sub_cons rfl (sub_cons rfl (sub_cons rfl (sub_cons rfl sub_nil)))))
  · rw [decide_eq_false_iff_not] at hc
    have : i = W.length := by omega
    subst this
    rw [List.drop_length, read04, List.append_nil] at hacc
    subst hacc
    refine then_next (exs_weaken hsub ?_)
    walk_at "ret"
    rfl
end
end Mine
end
section
open PySem PySem.W PyProof.Rows
set_option linter.unusedVariables false
set_option maxRecDepth 100000
namespace Mine
local macro_rules | `(tactic| walk_at "ev1") => `(tactic| first
  | exact ev_int | exact ev_str | exact ev_bool | exact ev_none
  | exact ev_name rfl rfl
  | exact evs_nil
  | (apply evs_more; (case hs => exact rfl))
  | apply ev_binop | (apply ev_cmp; (case hm => exact rfl)) | apply ev_sub
  | apply ev_list | apply ev_tuple
  | (apply tst_cmp; (case hm => exact rfl)) | apply tst_not | exact tst_and_nil | exact tst_or_nil
  | exact op_add_int | exact op_sub_int | exact op_iadd_int | exact op_eq_int | exact op_ne_int | exact op_lt_int | exact op_gt_int | exact op_le_int | exact op_ge_int
  | exact op_eq_str | exact op_ne_str | exact op_in_str | exact op_notin_str | exact op_in_dict | exact op_notin_dict | exact op_ne_nil | exact op_eq_nil
  | exact op_fdiv_int (by decide) (PyProof.noPylong_of_log2 (by decide +kernel)) | exact op_mod_int (by decide)
  | apply op_add_str | apply op_iadd_str
  | exact tsts_nil | apply tsts_one)
local macro_rules | `(tactic| walk_at "ev") => `(tactic| repeat' walk_at "ev1")
local macro_rules | `(tactic| walk_at "can") => `(tactic| first | exact Or.inl rfl | exact Or.inr ⟨rfl, rfl, _, rfl⟩)
local macro_rules | `(tactic| walk_at "as") => `(tactic| (refine exs_cons ?_; apply ex_assign; (case hc => walk_at "can"); (case hs => exact rfl); (case' k => refine then_next ?_); (case' h => walk_at "ev")))
local macro_rules | `(tactic| walk_at "aug") => `(tactic| (refine exs_cons ?_; apply ex_aug; (case h₀ => exact rfl); (case hc => walk_at "can"); (case' k => refine then_next ?_); (case' ho => skip); (case' h => walk_at "ev"); (try walk_at "ev")))
local macro_rules | `(tactic| walk_at "if") => `(tactic| (refine exs_cons ?_; apply ex_if; (case' h => walk_at "ev")))
local macro_rules | `(tactic| walk_at "ret") => `(tactic| (refine exs_cons ?_; apply ex_return; (case' h => walk_at "ev")))
local macro_rules | `(tactic| walk_at "params") => `(tactic| (intro x hx; simp only [List.mem_cons, List.not_mem_nil, or_false] at hx; first
  | (subst hx; first | exact .inl rfl | exact .inr ⟨rfl, fun _ => rfl⟩)
  | (rcases hx with hx | hx <;> subst hx <;> first | exact .inl rfl | exact .inr ⟨rfl, fun _ => rfl⟩)
  | (rcases hx with hx | hx | hx <;> subst hx <;> first | exact .inl rfl | exact .inr ⟨rfl, fun _ => rfl⟩)))
local macro_rules | `(tactic| walk_at "esc") => `(tactic| (refine esc_step rfl (by decide +kernel : _ = (⟨#[_]⟩ : Str)) ?_ ?_ ?_ ?_ (by assumption) rfl (by walk_at "can") rfl ?_))
section
variable {G : Gnd} {n : Nat} {doc pm cdv ct : Value} {a : Addr}
set_option maxHeartbeats 4000000
def s04 : List (Str × Str) := [("&", "amp;"), (">", "gt;"), ("\"", "quot;")]
theorem due1_le {rows : List Row} (G : GoodR rows) (c : Nat) : (due1 rows c).length ≤ 6 := by
  unfold due1
  cases hk : refT.lookup c with
  | none => simp
  | some b =>
    have hb := ref_cases hk
    have hl : b.length ≤ 5 := by rcases base_cases hb with e | e | e <;> cases e <;> decide
    obtain ⟨r, t, hf, _, _⟩ := fit_some G hb
    dsimp only
    rw [hf]
    simp only [List.length_cons, List.length_drop]
    omega
theorem due_le {rows : List Row} (G : GoodR rows) (l : List Nat) : (due04 rows l).length ≤ 6 * l.length := by
  induction l with
  | nil => simp [due04]
  | cons c r ih =>
    unfold due04 at ih ⊢
    rw [List.flatMap_cons, List.length_append, List.length_cons]
    have := due1_le G c
    omega
theorem chars_T (l : List Nat) : charsOf (T l) = l.map fun c => D.str ⟨#[c]⟩ := by unfold charsOf; rw [T_list]
theorem take_prefix (so l : List Nat) : (T (l.take so.length) == T so) = so.isPrefixOf l := by
  have := cut_prefix so l 0
  simpa using this
theorem fn_due04 (dA : DefAt G a (fdOf (stOf pw 5) doc pm cdv ct) (bodyOf (stOf pw 5))) (hlen : nsIn G.K mainGlobals "len" = some none) (rows : List Row) (GR : GoodR rows) (hrows : rows.length ≤ 12) (hnm : ∀ r ∈ rows, r.1.length ≤ 10) (l : List Nat) (hl : l.length ≤ 5000) :
    Fn G (n + 2) a [.str (T l), .list (rows.map rowD)] (.str (T (due04 rows l))) := by
  refine fn_of (xs := ["text", "table"]) dA (fun vs h => ?_) rfl ?_ (by decide) fun L => ?_
  · match vs, h with
    | [v, u], _ => rfl
  · walk_at "params"
  have big : 100000 ≤ sizeLine := by decide
  have eD : strDict s04 = dD refT := strDict_eq (by decide +kernel)
  refine exs_cons (ex_assign (d := strDict s04) (ev_dict (r := s04) (by repeat' constructor) (by decide) (by decide) (by decide +kernel)) (.inl rfl) rfl (then_next ?_))
  rw [eD]
  walk_at "as"
  refine exs_cons ?_
  refine ex_forI (d := .str (T l)) (ds := l.map fun c => D.str ⟨#[c]⟩) (fun i => [("table", .val (.list (rows.map rowD))), ("references", .val (dD refT)), ("due", .val (.str (T (due04 rows (l.take i)))))]) (ev_name rfl rfl) ?_ (sub_cons rfl (sub_cons rfl (sub_cons rfl sub_nil))) (fun i d hd => ?_) (fun ρ' hs => ?_) fun _ => rfl
  · rw [← chars_T]; exact itr_str
  · obtain ⟨c, hc, rfl⟩ := at_map hd
    have hdl := due_le GR (l.take i)
    rw [List.length_take] at hdl
    have htk : due04 rows (l.take (i + 1)) = due04 rows (l.take i) ++ due1 rows c := by
      unfold due04
      rw [List.take_add_one, hc, List.flatMap_append]
      simp
    rw [htk]
    have hd1 := due1_le GR c
    refine ⟨_, asg_name (.inl rfl), ?_⟩
    refine exs_cons (ex_if (c := (dget (refT.map fun p => T [p.1]) (refT.map fun p => D.str (T p.2)) ⟨#[c]⟩).isSome) (tst_cmp (ev_name rfl rfl) (ev_name rfl rfl) op_in_dict rfl) (fun h => ?_) fun h => ?_)
    · rw [dget_tb] at h
      cases hk : refT.lookup c with
      | none => rw [hk] at h; cases h
      | some b =>
        have hb := ref_cases hk
        have hbl : b.length ≤ 5 := by rcases base_cases hb with e | e | e <;> cases e <;> decide
        obtain ⟨r, t, hf, hp, hr⟩ := fit_some GR hb
        have hr10 := hnm r hr
        have e1 : due1 rows c = [r.2] ++ b.drop r.1.length := by unfold due1; rw [hk]; dsimp only; rw [hf]; rfl
        refine exs_cons (ex_assign (d := .str (T b)) (ev_sub (ev_name rfl rfl) (ev_name rfl rfl) (sb_dict (by rw [dget_tb, hk]; rfl))) (by walk_at "can") rfl (then_next ?_))
        refine exs_cons (ex_assign_comp (ρc := [("behind", .val (.str (T b)))]) (cl := [("behind", _)]) (d := .list (rows.map rowD)) (ds := rows.map rowD) (out := (fit rows b).map rowD) ⟨rfl, by decide, by decide, rfl, cells_cons rfl cells_nil, cap_cons rfl rfl rfl rfl cap_nil⟩ rfl (fun _ => rfl) rfl (ev_name rfl rfl) itr_list ?_ ?_ (.inl rfl) (then_next ?_))
        · intro C
          rw [fit_flat]
          refine comp1 (xs := rows) (mk := rowD) (F := fun r => if r.1.isPrefixOf b = true then [rowD r] else []) fun r hr => ⟨_, r.1.isPrefixOf b, asg_name (.inl rfl), sub_upd rfl, tsts_one ?_, (fun h => if_neg (by rw [h]; decide)), fun h => ⟨_, ev_name rfl rfl, if_pos h⟩⟩
          have hr10 := hnm r hr
          rw [← take_prefix]
          exact tst_cmp (ev_to (ev_name rfl rfl) (ev_len (ev_sub (ev_name rfl rfl) ev_int sb_row0) (by omega) hlen rfl rfl) (by omega)) (ev_sub (ev_name rfl rfl) ev_int sb_row0) op_eq_str rfl
        · rw [List.length_map]
          have : (fit rows b).length ≤ rows.length := List.length_filter_le _ _
          omega
        rw [hf]
        have sub0 : ∀ {v s : PySem.Expr}, Sb G v s (.list ((r :: t).map rowD)) (.int 0) (rowD r) := sb_list (by decide) (by decide) rfl
        refine exs_cons (ex_aug (d₀ := .str (T (due04 rows (l.take i)))) (d₁ := .str (T (due1 rows c))) (d := .str (T (due04 rows (l.take i) ++ due1 rows c))) rfl ?_ ?_ (.inl rfl) (then_next (exs_nil (then_next (exs_nil (sub_cons rfl (sub_cons rfl (sub_cons rfl sub_nil))))))))
        · rw [e1]
          refine ev_cat (x := [r.2]) ?_ (ev_from (ev_name rfl rfl) (ev_len (ev_sub (ev_sub (ev_name rfl rfl) ev_int sub0) ev_int sb_row0) (by omega) hlen rfl rfl) (by omega)) (by simp; omega)
          rw [T_one]
          exact ev_sub (ev_sub (ev_name rfl rfl) ev_int sub0) ev_int sb_row1
        · rw [← T_append]
          exact op_iadd_str (by rw [T_length, T_length]; omega)
    · rw [dget_tb] at h
      cases hk : refT.lookup c with
      | some b => rw [hk] at h; cases h
      | none =>
        have e1 : due1 rows c = [c] := by unfold due1; rw [hk]
        rw [e1]
        refine exs_cons (ex_aug (d₀ := .str (T (due04 rows (l.take i)))) (d₁ := .str ⟨#[c]⟩) (d := .str (T (due04 rows (l.take i) ++ [c]))) rfl (ev_name rfl rfl) ?_ (.inl rfl) (then_next (exs_nil (then_next (exs_nil (sub_cons rfl (sub_cons rfl (sub_cons rfl sub_nil))))))))
        rw [← T_append, T_one]
        exact op_iadd_str (by rw [T_length]; show _ + 1 ≤ _; omega)
  · rw [List.length_map, List.take_length] at hs
    refine then_next (exs_weaken hs ?_)
    walk_at "ret"
    rfl
end
end Mine
end
section
open PySem PySem.W PyProof.Rows
set_option linter.unusedVariables false
set_option maxRecDepth 100000
namespace Mine
section
variable {G : Gnd} {env : Env} {Z Z' H : Zf} {ρ ρ' : Loc} {s s' : Shared} {A : Around} {E : Value → Shared → Prop} {n : Nat} {pos apos : Pos}
/-- lambda row: 0 - len(row[0]), of a row whose first item is a text -/
theorem lam_run {f c' ra : Addr} {name qual : Str} {params : Arguments} {scope : Scope} {pm ctv : Value} {nm : Str} {tn : Tok} {rest : List Value} {kk : Nat} {p1 p2 p3 p4 p5 p6 p7 : Pos} {k1 k2 : Nat} {Q : Value → Shared → Prop}
    (hroom : A.depth < recursionLimit) (hT : TopRead G.p G.loose G.mg G.mb s.heap) (hlen : nsIn G.K mainGlobals "len" = some none)
    (ho : s.heap.get? f = some (kla_obj name qual params (.BinOp (.Constant (.int 0) k1 p1) .Sub (.Call (.Name "len" p2) [.Subscript (.Name "row" p3) (.Constant (.int 0) k2 p4) p5] [] p6) p7) scope [] pm c' ctv))
    (hcd : s.heap.CodeRec (.ref c') qual)
    (hbind : ∀ v, bindArgs (kla_fn name qual params (.BinOp (.Constant (.int 0) k1 p1) .Sub (.Call (.Name "len" p2) [.Subscript (.Name "row" p3) (.Constant (.int 0) k2 p4) p5] [] p6) p7) scope [] pm (.ref c') ctv) ⟨[v], []⟩ = pure [(("row" : Str), v)])
    (hsc : scope.kind = .function) (hco : scope.isCoroutine = false) (hgen : scope.isGenerator = false) (hcell : ∀ x ∈ scope.names, x.2 ≠ .cell) (hrow : scope.names.lookup ("row" : Str) = some .local) (hkl : scope.names.lookup ("len" : Str) = some .globalImplicit)
    (htup : s.heap.get? ra = some { cls := .type "tuple", data := .seq (.str nm tn :: rest).toArray kk }) (hnm : nm.length ≤ 1000)
    (h : ∀ h' tk t', (∀ b o, s.heap.get? b = some o → h'.get? b = some o) → Q (.int (0 - (nm.length : Int)) t') { s with heap := h', toks := tk }) :
    wpAny (model G.prog G.w) A (call (.ref f) [.ref ra]) Q E s := by
  refine wpAny_call (kla_callFunE hroom ho rfl hco hgen rfl hcd ?_)
  rw [hbind]
  refine wpAny_pure (wpAny_newFunctionEnv hcell (fun x hx => by rw [List.mem_singleton.mp hx]; exact hrow) (fun h₁ hns hsb => ⟨(hT.nolimit).fresh _ hsb, ?_⟩) hsc)
  show codeAny _ _ (.expr _ (envX qual scope s.heap.objs.size f (.ref c') [])) _ _
  have hk₁ : ∀ b o, s.heap.get? b = some o → h₁.get? b = some o := fun b o e => hsb.extBut b o (Nat.ne_of_lt (Heap.lt_size e)) (Heap.get?_push_of_some _ e)
  have T₁ : TopRead G.p G.loose G.mg G.mb h₁ := hT.keeps hk₁
  refine kla_codeExpr (wpAny_BinOp (wpAny_Constant_int ?_))
  rw [eval_call rfl]
  refine wpAny_bind (Calls.Name_function_global hsc hkl (Calls.loadGlobal_builtin T₁.g (mg_none_of G.X G.T.g hlen) T₁.b ((G.T.builtins _ (by decide)).trans (by rfl : bootBuiltins "len" = some (.builtin "len"))) ?_) (by decide))
  refine Calls.callWith_builtin (starred_none rfl p6) (wp_evalArgs (starred_none rfl p6) (spliced_more (Subscript_ (wpAny_Name (wpAny_loadName_local hsc hrow hns (by simp; rfl) (wpAny_Constant_int ?_)) (by decide))) rfl))
  have hl : IsTup h₁ ra (.str nm tn :: rest).toArray := isTuple_of (hk₁ _ _ htup)
  refine tail_all (G := G) (T := "tuple") hl.typeIs slot_tuple_getitem.lookup (getItem_tuple hl (by decide) (by decide) (j := 0) (by simp [seqIndex?]) (by simp; rfl) (spliced_none ?_))
  refine SBL.len (by omega) ?_
  refine sub_int ?_
  exact h h₁ _ _ hk₁
end
end Mine
end
section
open PySem PySem.W PyProof.Rows
set_option linter.unusedVariables false
set_option maxRecDepth 100000
namespace Mine
theorem perm_of_map {α β : Type} (g : α → β) {ps qs : List β} (h : ps.Perm qs) : ∀ l : List α, l.map g = qs → ∃ l' : List α, l'.Perm l ∧ l'.map g = ps := by
  induction h with
  | nil => intro l e; exact ⟨l, .refl _, e⟩
  | cons x _ ih =>
    intro l e
    cases l with
    | nil => cases e
    | cons a l =>
      rw [List.map_cons, List.cons.injEq] at e
      obtain ⟨l', hp, hm⟩ := ih l e.2
      exact ⟨a :: l', hp.cons a, by rw [List.map_cons, hm, e.1]⟩
  | swap x y r =>
    intro l e
    match l, e with
    | a :: b :: l, e =>
      simp only [List.map_cons, List.cons.injEq] at e
      exact ⟨b :: a :: l, .swap a b l, by simp [e.1, e.2.1, e.2.2]⟩
  | trans _ _ ih1 ih2 =>
    intro l e
    obtain ⟨l', hp, hm⟩ := ih2 l e
    obtain ⟨l'', hp', hm'⟩ := ih1 l' hm
    exact ⟨l'', hp'.trans hp, hm'⟩
/-- the heap up to an address -/
def cutAt (h : Heap) (L : Addr) : Heap := { h with objs := h.objs.extract 0 L }
theorem cutAt_size (h : Heap) (L : Addr) : (cutAt h L).objs.size ≤ L := by
  unfold cutAt; simp; omega
theorem cutAt_get {h : Heap} {L a : Addr} (ha : a < L) : (cutAt h L).get? a = h.get? a := by
  unfold cutAt Heap.get?
  have : (h.objs.extract 0 L)[a]? = h.objs[a]? := by
    have ha' : (a : Nat) < (L : Nat) := ha
    rw [Array.getElem?_extract]
    simp only [Nat.zero_add, Nat.sub_zero]
    by_cases q : (a : Nat) < h.objs.size
    · rw [if_pos (Nat.lt_min.mpr ⟨ha', q⟩)]
    · rw [if_neg (fun z => q (Nat.lt_min.mp z).2), Array.getElem?_eq_none (Nat.le_of_not_lt q)]
  dsimp only
  rw [this]
theorem cutAt_none {h : Heap} {L a : Addr} (ha : L ≤ a) : (cutAt h L).get? a = none := Heap.get?_none_of_le (Nat.le_trans (cutAt_size h L) ha)
def above (h : Heap) (L : Addr) : List (Addr × Obj) := (List.range h.objs.size).filterMap fun a => if L < a then (h.get? a).map fun o => (a, o) else none
theorem mem_above {h : Heap} {L a : Addr} {o : Obj} : (a, o) ∈ above h L ↔ L < a ∧ h.get? a = some o := by
  unfold above
  rw [List.mem_filterMap]
  constructor
  · rintro ⟨b, hb, e⟩
    by_cases q : L < b
    · rw [if_pos q] at e
      cases hg : h.get? b with
      | none => rw [hg] at e; cases e
      | some ob => rw [hg] at e; cases e; exact ⟨q, hg⟩
    · rw [if_neg q] at e; cases e
  · rintro ⟨q, hg⟩
    exact ⟨a, List.mem_range.mpr (Heap.lt_size hg), by rw [if_pos q, hg]; rfl⟩
section
variable {G : Gnd} {env : Env} {Z Z' H : Zf} {ρ ρ' : Loc} {s s' : Shared} {A : Around} {E : Value → Shared → Prop} {n : Nat} {pos apos : Pos}
/-- all stands but the frame's own object, which reads as it did; what is newly frozen is new -/
theorem St.grow (S : St G env Z H ρ s) (le : Zle Z Z') (hk : ∀ a o, a ≠ env.locals → s.heap.get? a = some o → s'.heap.get? a = some o) (hn : ∀ m, s.heap.Ns env.locals m → s'.heap.Ns env.locals m) (zin : ∀ a o, Z' a = some o → s'.heap.get? a = some o)
    (new : ∀ a o, Z' a = some o → Z a = some o ∨ s.heap.get? a = none) (hg : s'.gens = s.gens) (hos : s'.os = s.os) (ht : s.toks ≤ s'.toks) : St G env Z' H ρ s' := by
  have znone : ∀ a, Z a = none → (∃ o, s.heap.get? a = some o) → Z' a = none := fun a hz ⟨o, ho⟩ => by
    cases q : Z' a with
    | none => rfl
    | some o' =>
      rcases new a o' q with h | h
      · rw [hz] at h; cases h
      · rw [ho] at h; cases h
  have hl : ∀ a o, H a = some o → a ≠ env.locals := fun a o e q => by rw [q, S.lh] at e; cases e
  have has : ∀ y v, Has env s.heap y v → Has env s'.heap y v := fun y v q => by
    rcases q with ⟨k, m, hm, e⟩ | ⟨k, c, e, ob, e1, e2⟩
    · exact .inl ⟨k, m, hn m hm, e⟩
    · exact .inr ⟨k, c, e, ob, hk _ _ (S.cells y c e).1 e1, e2⟩
  refine ⟨S.fk, S.gl, S.bl, hg.trans S.gens, hos.trans S.os, Nat.lt_of_lt_of_le S.tk ht, zin, fun a o e => hk a o (hl a o e) (S.hin a o e), fun a o e => ?_, fun a o e => (S.bas a o e).elim (fun h => .inl (le _ _ h)) .inr, ?_, ?_, S.lh, fun y c e => ?_, S.inj, fun y d e => ?_, ?_⟩
  · rcases new a o e with h | h
    · exact S.dj a o h
    · cases q : H a with
      | none => rfl
      | some ob => rw [S.hin a ob q] at h; cases h
  · obtain ⟨m, hm⟩ := S.ns; exact ⟨m, hn m hm⟩
  · exact znone _ S.lz (let ⟨_, o, _, _, h, _⟩ := S.ns; ⟨o, h⟩)
  · obtain ⟨h0, h1, h2⟩ := S.cells y c e
    refine ⟨h0, fun hf => ?_, h2⟩
    obtain ⟨a, b, v, ob, e1, e2⟩ := h1 hf
    exact ⟨znone _ a ⟨ob, e1⟩, b, v, ob, hk _ _ h0 e1, e2⟩
  · obtain ⟨v, h, r⟩ := S.vars y d e; exact ⟨v, has y v h, r.mono le⟩
  · obtain ⟨oa, hi, h⟩ := S.owns
    refine ⟨oa, hi, fun y ds e => ?_⟩
    obtain ⟨g1, g2, g3, g4, g5, vs, k, g6, g7⟩ := h y ds e
    exact ⟨has _ _ g1, znone _ g2 ⟨_, g6⟩, g3, g4, g5, vs, k, hk _ _ g4 g6, g7.mono le⟩
theorem repAll_zip {vs : List Value} {ds : List D} (r : RepAll G Z vs ds) : ∀ p ∈ ds.zip vs, Rep G Z p.2 p.1 := by
  induction vs generalizing ds with
  | nil => cases r; intro p hp; cases hp
  | cons v vs ih =>
    cases r with
    | cons h r =>
      intro p hp
      rw [List.zip_cons_cons] at hp
      rcases List.mem_cons.mp hp with rfl | hp
      · exact h
      · exact ih r p hp
theorem repAll_of {α : Type} {f : α → D} : ∀ (qs : List (α × Value)), (∀ p ∈ qs, Rep G Z p.2 (f p.1)) → RepAll G Z (qs.map Prod.snd) ((qs.map Prod.fst).map f)
  | [], _ => .nil
  | p :: qs, h => .cons (h p (.head _)) (repAll_of qs fun q hq => h q (.tail _ hq))
/-- sorted(table, key=lambda row: 0 - len(row[0])) -/
theorem sorted_run {f c' : Addr} {rows : List Row} {name qual : Str} {params : Arguments} {scope : Scope} {pm ctv : Value} {p1 p2 p3 p4 p5 p6 p7 : Pos} {k1 k2 : Nat} {v : Value}
    (R : Room 2 A) (S : St G env Z H ρ s) (hlen : nsIn G.K mainGlobals "len" = some none) (hrows : rows.length < 64) (hnm : ∀ r ∈ rows, r.1.length ≤ 10) (r : Rep G Z v (.list (rows.map rowD)))
    (ho : s.heap.get? f = some (kla_obj name qual params (.BinOp (.Constant (.int 0) k1 p1) .Sub (.Call (.Name "len" p2) [.Subscript (.Name "row" p3) (.Constant (.int 0) k2 p4) p5] [] p6) p7) scope [] pm c' ctv)) (hfL : f ≠ env.locals)
    (hcd : ∃ oc vs t, c' ≠ env.locals ∧ s.heap.get? c' = some oc ∧ oc.data = .fields vs ∧ vs[1]? = some (.str qual t))
    (hbind : ∀ v, bindArgs (kla_fn name qual params (.BinOp (.Constant (.int 0) k1 p1) .Sub (.Call (.Name "len" p2) [.Subscript (.Name "row" p3) (.Constant (.int 0) k2 p4) p5] [] p6) p7) scope [] pm (.ref c') ctv) ⟨[v], []⟩ = pure [(("row" : Str), v)])
    (hsc : scope.kind = .function) (hco : scope.isCoroutine = false) (hgen : scope.isGenerator = false) (hcell : ∀ x ∈ scope.names, x.2 ≠ .cell) (hrow : scope.names.lookup ("row" : Str) = some .local) (hkl : scope.names.lookup ("len" : Str) = some .globalImplicit) :
    wpAny (model G.prog G.w) A (call (.builtin "sorted") [v] [(Str.ofString "key", .ref f)])
      (fun u s' => ∃ (rows' : List Row) (Z' : Zf), rows'.Perm rows ∧ rows'.Pairwise (fun x y => y.1.length ≤ x.1.length) ∧ Zle Z Z' ∧ St G env Z' H ρ s' ∧ Rep G Z' u (.list (rows'.map rowD)) ∧ (∀ a o, a ≠ env.locals → s.heap.get? a = some o → s'.heap.get? a = some o)) (fun _ _ => False) s := by
  cases r with
  | @list l vs kv ds hz ra =>
    obtain ⟨m, hm⟩ := S.ns
    have hvl : vs.length = rows.length := by rw [ra.length, List.length_map]
    refine wpAny_with_toks (Nat.le_refl s.toks) ?_
    have F : Fr (cutAt s.heap env.locals) env.locals s.heap m := by
      refine ⟨hm, fun b o e => ?_, cutAt_size _ _⟩
      by_cases q : b < env.locals
      · rwa [cutAt_get q] at e
      · rw [cutAt_none (Nat.le_of_not_lt q)] at e; cases e
    have N : News (cutAt s.heap env.locals) env.locals s.heap (above s.heap env.locals) := fun p hp => by
      obtain ⟨a, o⟩ := p
      obtain ⟨h1, h2⟩ := mem_above.mp hp
      exact ⟨h2, Nat.ne_of_gt h1, cutAt_none (Nat.le_of_lt h1)⟩
    have kept : ∀ {h : Heap} {own : List (Addr × Obj)}, Fr (cutAt s.heap env.locals) env.locals h m → News (cutAt s.heap env.locals) env.locals h own → (∀ p ∈ above s.heap env.locals, p ∈ own) → ∀ a o, a ≠ env.locals → s.heap.get? a = some o → h.get? a = some o := by
      intro h own F' N' sub a o ha e
      rcases Nat.lt_or_gt_of_ne ha with q | q
      · exact F'.keep a o (by rw [cutAt_get q]; exact e)
      · exact (N' (a, o) (sub _ (mem_above.mpr ⟨q, e⟩))).1
    refine ksk_sorted (b := false) (kz := rows.map fun r => 0 - (r.1.length : Int)) (f := .ref f) F N (isList_of (S.zin _ _ hz)) (by rw [List.length_map, hvl]) (by omega) (ksk_s1 _ _) (fun x => ksk_l1 _ _) (fun x => ksk_t1 f x) (fun i v k hv hk h tk own F' N' => ?_) fun D h' tk out c F' N' l1 ko htok => ?_
    · have kk := kept F' N' fun p hp => List.mem_append_left _ hp
      rw [List.getElem?_map] at hk
      cases hr : rows[i]? with
      | none => rw [hr] at hk; cases hk
      | some row =>
        rw [hr] at hk
        cases hk
        obtain ⟨v', hv', rv⟩ := ra.get (i := i) (d := rowD row) (by rw [List.getElem?_map, hr]; rfl)
        rw [hv] at hv'
        cases hv'
        have hrm := List.mem_of_getElem? hr
        have h10 := hnm row hrm
        unfold rowD at rv
        cases rv with
        | @tup ra' vs' kt ds' hzt rat =>
          cases rat with
          | cons r1 r2 =>
            cases r1
            have neL : ∀ a o, Z a = some o → a ≠ env.locals := fun a o e q => by rw [q, S.lz] at e; cases e
            have Tk : TopRead G.p G.loose G.mg G.mb h := G.T.keeps fun b o e => kk b o (fun q => by
              rcases S.bas b o e with z | z
              · rw [q, S.lz] at z; cases z
              · rw [q, S.lh] at z; cases z) (S.keepBase b o e)
            obtain ⟨oc, cvs, ct, hcl, hc1, hc2, hc3⟩ := hcd
            refine lam_run (s := { s with heap := h, toks := tk }) (by have := R.depth; show A.in1.in1.depth < _; show A.depth < _; omega) Tk hlen (kk _ _ hfL ho) ⟨c', oc, cvs, ct, rfl, kk _ _ hcl hc1, hc2, hc3⟩ hbind hsc hco hgen hcell hrow hkl (kk _ _ (neL _ _ hzt) (S.zin _ _ hzt)) (by rw [T_length]; omega) fun h'' tk'' t'' hkk => ?_
            rw [T_length]
            exact ⟨h'', tk'', t'', rfl, rfl, ⟨F'.ns.keeps hkk, fun b o e => hkk _ _ (F'.keep b o e), F'.above⟩, fun p hp => ⟨hkk _ _ (N' p hp).1, (N' p hp).2⟩⟩
    · obtain ⟨ps, hp, hout, hpair⟩ := ko
      have kk := kept F' N' fun p hp => .tail _ hp
      have hD := N' (D, seqObj "list" out c) (.head _)
      have hDn : s.heap.get? D = none := by
        cases q : s.heap.get? D with
        | none => rfl
        | some o =>
          rcases Nat.lt_or_gt_of_ne hD.2.1 with z | z
          · have := hD.2.2
            rw [show (D, seqObj "list" out c).1 = D from rfl, cutAt_get z, q] at this
            cases this
          · exact absurd (l1 (D, o) (mem_above.mpr ⟨z, q⟩)) (Nat.lt_irrefl _)
      have hZD : Z D = none := by
        cases q : Z D with
        | none => rfl
        | some o => rw [S.zin _ _ q] at hDn; cases hDn
      obtain ⟨qs, hq1, hq2⟩ := perm_of_map (fun p : Row × Value => (0 - (p.1.1.length : Int), p.2)) hp (rows.zip vs) (by
        rw [List.zip_map_left]; exact List.map_congr_left fun ⟨x, y⟩ _ => rfl)
      have hrep : ∀ p ∈ qs, Rep G Z p.2 (rowD p.1) := fun p hp => by
        have h1 := hq1.mem_iff.mp hp
        have h2 := repAll_zip ra (rowD p.1, p.2) (by
          rw [List.zip_map_left]
          exact List.mem_map.mpr ⟨p, h1, rfl⟩)
        exact h2
      have hvs : out.toList = qs.map Prod.snd := by rw [hout, ← hq2, List.map_map]; rfl
      refine ⟨qs.map Prod.fst, Zadd Z D (seqObj "list" out c), ?_, ?_, Zadd.le hZD, ?_, ?_, kk⟩
      · have := hq1.map Prod.fst
        rwa [List.map_fst_zip (by omega)] at this
      · rw [List.pairwise_map]
        rw [← hq2, List.pairwise_map] at hpair
        refine hpair.imp fun {p q} hpq => ?_
        simp only [Bool.false_eq_true, if_false] at hpq
        omega
      · refine S.grow (s' := { s with heap := h', toks := tk }) (Zadd.le hZD) kk (fun m' hm' => by rw [ns_uniq hm' hm]; exact F'.ns) (fun a o e => ?_) (fun a o e => ?_) rfl rfl htok
        · by_cases q : a = D
          · subst q; rw [Zadd.self] at e; cases e; exact hD.1
          · unfold Zadd at e; rw [if_neg q] at e
            exact kk a o (fun z => by rw [z, S.lz] at e; cases e) (S.zin a o e)
        · by_cases q : a = D
          · subst q; exact .inr hDn
          · unfold Zadd at e; rw [if_neg q] at e; exact .inl e
      · have hzl : Zadd Z D (seqObj "list" out c) D = some (listOf (qs.map Prod.snd).toArray c) := by
          rw [Zadd.self, ← hvs, Array.toArray_toList]
        exact .list hzl (RepAll.mono (Zadd.le hZD) (repAll_of qs hrep))
end
end Mine
end
section
open PySem PySem.W PyProof.Rows
set_option linter.unusedVariables false
set_option maxRecDepth 100000
namespace Mine
section
variable {G : Gnd} {env : Env} {Z Z' H : Zf} {ρ ρ' : Loc} {s s' : Shared} {A : Around} {E : Value → Shared → Prop} {n : Nat} {pos apos : Pos}
theorem name_run' {x : Str} {d : D} {M : Model} (S : St G env Z H ρ s) (h : ρ.lookup x = some (.val d)) (hd : (x == ("__debug__" : Str)) = false) {Q : Value → Shared → Prop} (k : ∀ v, Rep G Z v d → Q v s) : wpAny M A (eval (.Name x pos) env) Q E s := by
  obtain ⟨v, hv, r⟩ := S.vars x d h
  refine wpAny_Name ?_ hd
  rcases hv with ⟨k', m, n, e⟩ | ⟨k', c, e, n⟩
  · exact wpAny_loadName_local S.fk k' n e (k v r)
  · rcases k' with k' | k'
    · exact wpAny_loadName_cell S.fk k' e n (k v r)
    · exact wpAny_loadName_free S.fk k'.1 e n (k v r) k'.2
theorem builtinsAt_keeps {h h' : Heap} {mg : Str → Option Value} {P : Addr} (x : h.BuiltinsAt mg P) (k : ∀ b o, h.get? b = some o → h'.get? b = some o) : h'.BuiltinsAt mg P := by
  obtain ⟨bm, o, h1, h2, h3, h4, h5, h6⟩ := x
  exact ⟨bm, o, h1, h2, h3, h4, k _ _ h5, h6⟩
theorem last04 {c P ar : Addr} {rows : List Row} {W l : List Nat} {scope : Scope} {params : Arguments} {q1 q2 q3 q4 q5 q6 q7 q8 q9 : Pos} {p1 p2 p3 p4 p5 p6 p7 : Pos} {k1 k2 : Nat}
    (R : Room n A) (hn : 2 ≤ n) (S : St G env Z H ρ s) (hHP : H P = some (tabObj #[])) (hB : G.base.get? P = none) (hcode : env.code = .ref c) (C : CodeHd G.base c P) (hbm : G.base.BuiltinsAt G.mg P) (hcells : env.cells = []) (hfun : env.func.isSome = true)
    (hW : ρ.lookup ("writing" : Str) = some (B.val (.str (T W)))) (ht : ρ.lookup ("table" : Str) = some (B.val (.list (rows.map rowD)))) (hx : ρ.lookup ("text" : Str) = some (B.val (.str (T l))))
    (hlen : nsIn G.K mainGlobals "len" = some none) (hso : nsIn G.K mainGlobals "sorted" = some none) (hkso : env.kindOf "sorted" = some .globalImplicit)
    (gr : nsIn G.K mainGlobals "_law_read" = some (some (.ref ar))) (hkr : env.kindOf "_law_read" = some .globalImplicit) (kr : keepIn G.K (.ref ar) = true) (hrows : rows.length < 64) (hnm : ∀ r ∈ rows, r.1.length ≤ 10)
    (fr : ∀ rows' : List Row, rows'.Perm rows → rows'.Pairwise (fun x y => y.1.length ≤ x.1.length) → Fn G n ar [.str (T W), .list (rows'.map rowD)] (.str (T l)))
    (hdef : defaultsOf params env = ([], [])) (hcl : closureFor scope env = pure [])
    (hbind : ∀ nm ql pm cd ctv v, bindArgs (kla_fn nm ql params (.BinOp (.Constant (.int 0) k1 p1) .Sub (.Call (.Name "len" p2) [.Subscript (.Name "row" p3) (.Constant (.int 0) k2 p4) p5] [] p6) p7) scope [] pm cd ctv) ⟨[v], []⟩ = pure [(("row" : Str), v)])
    (hsc : scope.kind = .function) (hco : scope.isCoroutine = false) (hgen : scope.isGenerator = false) (hcell : ∀ x ∈ scope.names, x.2 ≠ .cell) (hrow : scope.names.lookup ("row" : Str) = some .local) (hkl : scope.names.lookup ("len" : Str) = some .globalImplicit) :
    wpAny (model G.prog G.w) A (exec (.Return (some (.Compare (.Call (.Name "_law_read" q1) [.Name "writing" q2, .Call (.Name "sorted" q3) [.Name "table" q4] [⟨some "key", .Lambda params (.BinOp (.Constant (.int 0) k1 p1) .Sub (.Call (.Name "len" p2) [.Subscript (.Name "row" p3) (.Constant (.int 0) k2 p4) p5] [] p6) p7) scope q5, q6⟩] q7] [] q8) [.Eq] [.Name "text" q9] pos)) apos) env)
      (fun f s' => f = .ret (.bool true) ∧ ∃ Z' more, Zle Z Z' ∧ St G env Z' (Zadd H P (tabObj more)) ρ s') (fun _ _ => False) s := by
  have hPg : mainGlobals ≠ P := fun q => by
    obtain ⟨o, _, _, e, _⟩ := G.T.g
    rw [q, hB] at e; cases e
  refine wpAny_Return_some (wpAny_Compare1 ?_ rfl)
  rw [eval_call rfl]
  refine wpAny_bind (Calls.Name_function_global S.fk hkr (Calls.loadGlobal_global (by rw [S.gl]; exact S.T.g) (mg_of G.X G.T.g gr) ?_) (by decide))
  refine callWith_of (P := fun h => G.K.In h) (by rw [starred_none (env := env) rfl]; rfl) (keeps_K kr) (wp_evalArgs (starred_none rfl q8) (spliced_more (name_run' S hW (by decide) fun vW rW => spliced_more ?_ rfl) rfl))
  show wpAny _ _ (do callWith q7 (← eval (.Name "sorted" q3) env) [] (backTo q7 (starEach [.Name "table" q4] env)) (backToKw q7 (keywordEach _ env))) _ _ _
  refine wpAny_bind (wp_builtinName S hso (by rfl : bootBuiltins "sorted" = some (.builtin "sorted")) (by decide) hkso (by decide) ?_)
  refine callWith_kw (spliced_more (name_run' S ht (by decide) fun vt rt => spliced_none (kws_cons (kla_eval hdef ?_))) rfl)
  refine wpAny_with_toks (Nat.le_refl s.toks) ?_
  refine kla_makeFunction (mg := G.mg) hcl S.gl S.T.g hcode (C.keeps S.keepBase) (S.hin _ _ hHP) trivial rfl hPg (builtinsAt_keeps hbm S.keepBase) fun c' ctv h' tk hxb hge hlt hrec htb htok => ?_
  have hlocs : env.locals < s.heap.objs.size := let ⟨_, hm⟩ := S.ns; hm.lt
  have hH : H = Zadd H P (tabObj #[]) := funext fun b => by
    unfold Zadd
    by_cases q : b = P
    · rw [if_pos q, q, hHP]
    · rw [if_neg q]
  have S₀ : St G env Z (Zadd H P (tabObj #[])) ρ s := hH ▸ S
  have S₁ := S₀.turn (o' := tabObj (#[] ++ #[rawInt q5.line, rawInt q5.col, .ref c'])) (h' := h'.push (kla_obj "<lambda>" (env.qual ++ "<lambda>") params (.BinOp (.Constant (.int 0) k1 p1) .Sub (.Call (.Name "len" p2) [.Subscript (.Name "row" p3) (.Constant (.int 0) k2 p4) p5] [] p6) p7) scope [] ((G.mg "__name__").getD .none) c' ctv)) (t := tk) hB (fun y c e => by rw [hcells] at e; cases e)
    (fun b ob hb e => Heap.get?_push_of_some _ (hxb b ob hb e)) (Heap.get?_push_of_some _ htb) htok
  refine kws_nil ?_
  obtain ⟨cc, oc, cvs, ct, hcc, hc1, hc2, hc3⟩ := hrec
  cases hcc
  refine wpAny_mono (sorted_run (R.less hn) S₁ hlen hrows hnm rt (Heap.get?_push_size _ rfl) (Nat.ne_of_gt (Nat.lt_of_lt_of_le hlocs (Nat.le_trans hge (Nat.le_of_lt hlt)))) ⟨oc, cvs, ct, Nat.ne_of_gt (Nat.lt_of_lt_of_le hlocs hge), Heap.get?_push_of_some _ hc1, hc2, hc3⟩ (hbind _ _ _ _ _) hsc hco hgen hcell hrow hkl) (fun u s₂ h₂ => ?_) fun _ _ q => q.elim
  obtain ⟨rows', Z₂, hp, hpw, le₂, S₂, ru, _⟩ := h₂
  refine spliced_none ⟨S₂.X, ?_⟩
  refine wp_seq ((fr rows' hp hpw).run A Z₂ s₂ [vW, u] R S₂.bs (.cons (rW.mono le₂) (.cons ru .nil))) fun v₃ s₃ ⟨Z₃, x₃, r₃⟩ => ?_
  have S₃ := S₂.ext x₃
  refine name_run' S₃ hx (by decide) fun v₄ r₄ => ?_
  have op : Op2 G (compareOp .Eq) (.str (T l)) (.str (T l)) (.bool (T l == T l)) := op_eq_str
  refine wp_seq (op.run A Z₃ s₃ v₃ v₄ (R.less (Nat.zero_le _)) S₃.bs r₃ r₄) fun v₅ s₅ ⟨Z₅, x₅, r₅⟩ => ?_
  rw [beq_self_eq_true] at r₅
  cases r₅
  exact ⟨rfl, Z₅, _, le₂.trans (x₃.le.trans x₅.le), S₃.ext x₅⟩
end
end Mine
end
section
open PySem PySem.W PyProof.Rows
set_option linter.unusedVariables false
set_option maxRecDepth 100000
namespace Mine
section
variable {G : Gnd} {env : Env} {Z Z' H : Zf} {ρ ρ' : Loc} {s s' : Shared} {A : Around} {E : Value → Shared → Prop} {n : Nat} {pos apos : Pos}
/-- a def whose last statement writes into one table of codes -/
theorem fn_two {a P : Addr} {fd : FuncData} {body pre : List Stmt} {last : Stmt} {xs : List Str} {ds : List D} {v : Value} {ρ₁ : Loc} (D : DefAt G a fd body) (hbody : body = pre ++ [last]) (hb : ∀ vs : List Value, vs.length = xs.length → bindArgs fd ⟨vs, []⟩ = pure (xs.zip vs)) (hlen : xs.length = ds.length)
    (hx : ∀ x ∈ xs, fd.scope.names.lookup x = some .local ∨ (fd.scope.names.lookup x = some .cell ∧ ∀ k, ((cellsFrom k fd.scope.names []).lookup x).isSome = true)) (hnd : xs.Nodup)
    (hpre : ∀ L, Exs G (callEnvC fd L a) n (startLoc xs ds) pre fun fl ρ' => fl = .next ∧ Sub ρ₁ ρ')
    (hlast : ∀ L A Z H s, Room n A → St G (callEnvC fd L a) Z H ρ₁ s → H P = some (tabObj #[]) → wpAny (model G.prog G.w) A (exec last (callEnvC fd L a)) (fun f s' => f = .ret v ∧ ∃ Z' more, Zle Z Z' ∧ St G (callEnvC fd L a) Z' (Zadd H P (tabObj more)) ρ₁ s') (fun _ _ => False) s)
    {vs : List Value} (R : Room (n + 1) A) (b : Bs G Z s) (r : RepAll G Z vs ds) (hZP : Z P = none) (hP : s.heap.get? P = some (tabObj #[])) :
    wpAny (model G.prog G.w) A (call (.ref a) vs) (fun u s' => u = v ∧ (∀ b o, s.heap.get? b = some o → b ≠ P → s'.heap.get? b = some o) ∧ (∃ more, s'.heap.get? P = some (tabObj more)) ∧ s'.gens = s.gens ∧ s'.os = s.os) (fun _ _ => False) s := by
  obtain ⟨o, ho, hd⟩ := D.obj
  have hvl : vs.length = xs.length := r.length.trans hlen.symm
  have hmap : (xs.zip vs).map (·.1) = xs := by rw [List.map_fst_zip]; omega
  have hnd' : ((xs.zip vs).map (·.1)).Nodup := by rw [hmap]; exact hnd
  refine wpAny_call ?_
  refine codeAny_call_function (by have := R.depth; omega) (b.X _ _ ho) hd D.co D.gen D.body (codeRec_of b.X D.code) ?_
  rw [hb vs hvl, D.closure]
  refine wpAny_pure (wpAny_with_toks (Nat.le_refl s.toks) (wpAny_newFunctionEnv_cells D.kind (fun x hm => ?_) fun env he s₁ x tok => ?_))
  · have : x.1 ∈ xs := by rw [← hmap]; exact List.mem_map_of_mem hm
    rcases hx _ this with q | ⟨q, q'⟩
    · exact .inl q
    · exact .inr ⟨q, q' _⟩
  subst he
  have hcall := x.toInCall
  obtain ⟨h₁, tk, rfl, hk₁⟩ := x.done
  refine ⟨b.nolimit.keeps hcall.keep, codeAny_func ?_⟩
  have HZ : ∀ a' o', (if Z a' = none then s.heap.get? a' else none) = some o' → Z a' = none ∧ s.heap.get? a' = some o' := fun a' o' e => by
    split at e
    · rename_i q; exact ⟨q, e⟩
    · cases e
  have hLnone : s.heap.get? s.heap.objs.size = none := get?_size_none _
  have nz : ∀ c, s.heap.objs.size ≤ c → s.heap.get? c = none := fun c hc => by
    cases q : s.heap.get? c with
    | none => rfl
    | some ob => exact absurd (Heap.lt_size q) (Nat.not_lt.mpr hc)
  have nzZ : ∀ c, s.heap.objs.size ≤ c → Z c = none := fun c hc => by
    cases q : Z c with
    | none => rfl
    | some ob => have := b.zin c ob q; rw [nz c hc] at this; cases this
  have S₁ : St G (callEnvC fd s.heap.objs.size a) Z (fun a => if Z a = none then s.heap.get? a else none) (startLoc xs ds) { s with heap := h₁, toks := tk } := by
    refine ⟨D.kind, D.gl, D.bl, b.gens, b.os, Nat.lt_of_lt_of_le b.tk tok, fun a' o' e => hk₁ _ _ (b.zin _ _ e), fun a' o' e => hk₁ _ _ (HZ _ _ e).2, fun a' o' e => by simp [e], fun a' o' e => ?_, ⟨_, hcall.ns⟩, nzZ _ (Nat.le_refl _), ?_, fun y c e => ⟨?_, fun _ => ?_, fun hf => by cases hf⟩, ?_, fun y d' e => ?_, ?_⟩
    · have e' := b.bas _ _ e
      cases q : Z a' with
      | none => right; simp [q, e']
      | some ob => left; have := b.zin _ _ q; rw [e'] at this; cases this; rfl
    · show (if Z s.heap.objs.size = none then s.heap.get? s.heap.objs.size else none) = none
      rw [nzZ _ (Nat.le_refl _), if_pos rfl]; exact hLnone
    · exact Nat.ne_of_gt (x.above y c (mem_of_lookup e))
    · have hc : s.heap.objs.size ≤ c := Nat.le_of_lt (x.above y c (mem_of_lookup e))
      refine ⟨nzZ c hc, ?_, _, x.cell y c e⟩
      show (if Z c = none then s.heap.get? c else none) = none
      rw [nzZ c hc, if_pos rfl]; exact nz c hc
    · exact fun y z c e e' => name_of_addr x.apart (mem_of_lookup e) (mem_of_lookup e')
    · obtain ⟨v, d'', e', hm, r'⟩ := startLoc_lookup r hlen e
      cases e'
      have hxm : y ∈ xs := by rw [← hmap]; exact List.mem_map_of_mem hm
      refine ⟨v, ?_, r'⟩
      rcases hx y hxm with q | ⟨q, q'⟩
      · exact .inl ⟨q, _, hcall.ns, bindL_get (k := (callEnvC fd s.heap.objs.size a).kindOf) q hnd' hm⟩
      · obtain ⟨c, hc⟩ := Option.isSome_iff_exists.mp (q' (s.heap.objs.size + 1))
        refine .inr ⟨.inl q, c, hc, ?_⟩
        have := x.cell y c hc
        exact (bindC_get (k := (callEnvC fd s.heap.objs.size a).kindOf) q hnd' hm) ▸ this
    · refine ⟨fun _ => 0, fun y z es es' e => ?_, fun y es e => ?_⟩
      · obtain ⟨_, _, e', _⟩ := startLoc_lookup r hlen e; cases e'
      · obtain ⟨_, _, e', _⟩ := startLoc_lookup r hlen e; cases e'
  rw [hbody, execs_append]
  refine wpAny_bind (wp_seq ((hpre s.heap.objs.size).run _ Z _ _ R.deeper S₁) fun f s₂ ⟨Z₂, ρ₂, fl, le₂, S₂, hf, hfl, hsub⟩ => ?_)
  subst hfl
  cases hf
  refine wpAny_execs_cons (wp_seq (hlast s.heap.objs.size _ Z₂ _ s₂ R.deeper (S₂.weaken hsub) (by show (if Z P = none then s.heap.get? P else none) = _; rw [if_pos hZP]; exact hP)) fun f s₃ ⟨ef, Z₃, more, le₃, S₃⟩ => ?_)
  subst ef
  refine ⟨rfl, fun b' o e hb' => ?_, ⟨more, S₃.hin _ _ Zadd.self⟩, S₃.gens.trans b.gens.symm, S₃.os.trans b.os.symm⟩
  cases q : Z b' with
  | some o' =>
    have := b.zin _ _ q
    rw [e] at this; cases this
    exact S₃.zin _ _ (le₃ _ _ (le₂ _ _ q))
  | none =>
    refine S₃.hin _ _ ?_
    unfold Zadd
    rw [if_neg hb']; show (if Z b' = none then s.heap.get? b' else none) = _; rw [if_pos q]; exact e
/-- a row of objects without one -/
def Kless (K : Frag) (P : Addr) : Frag := K.filter fun p => p.1 != P
theorem kless_look : ∀ (K : Frag) (P a : Addr) (o : Obj), (Kless K P).lookup a = some o → a ≠ P ∧ K.lookup a = some o
  | [], P, a, o, h => by cases h
  | (b, ob) :: K, P, a, o, h => by
    unfold Kless at h
    rw [List.filter_cons] at h
    by_cases q : b = P
    · rw [if_neg (by simp [q])] at h
      obtain ⟨h1, h2⟩ := kless_look K P a o h
      refine ⟨h1, ?_⟩
      rw [List.lookup_cons, beq_eq_false_iff_ne.mpr (by rw [q]; exact h1)]
      exact h2
    · rw [if_pos (by simp [q]), List.lookup_cons] at h
      rw [List.lookup_cons]
      by_cases z : a = b
      · rw [beq_iff_eq.mpr z] at h ⊢
        exact ⟨by rw [z]; exact q, h⟩
      · rw [beq_eq_false_iff_ne.mpr z] at h ⊢
        exact kless_look K P a o h
theorem hide_get {h : Heap} {P a : Addr} {o : Obj} (e : h.get? a = some o) (ha : a ≠ P) : (h.hide P).get? a = some o := (Heap.hide_ne h ha).trans e
theorem ns_hide {h : Heap} {P a : Addr} {m : Str → Option Value} (x : h.Ns a m) (ha : a ≠ P) : (h.hide P).Ns a m := by
  obtain ⟨o, es, ep, e, r⟩ := x
  exact ⟨o, es, ep, hide_get e ha, r⟩
theorem finish04 {prog : Program} {w : World} {K : Frag} {p : Program} {loose : List Str} {mg mb : Str → Option Value} {s₁ : Shared} {f a c P : Addr} {vs : List Value} {ns : List Int} {k n : Nat} {c' : ClaimW} {cl : Str → Option Addr} {mean mean' : ExcName → Option Value} {args : List WData}
    (KX : K.In s₁.heap) (T : Top p loose mean' mg mb s₁.heap) (hst : nsIn K cStatics sharingNotToldKey = some none) (hg : s₁.gens = #[]) (htk : 0 < s₁.toks) (ho : s₁.heap.get? a = some (listOf vs.toArray k)) (hI : IntsAre vs ns)
    (hn : ∀ cls, c'.raises args cls = false) (hp : c'.post args (.bool true) args = true) (hr : n ≤ 100) (hP : s₁.heap.get? P = some (tabObj #[])) (C : CodeHd s₁.heap c P)
    (h : ∀ X' TR nb, (s₁.heap.hide P).get? P = none → CodeHd (s₁.heap.hide P) c P → (s₁.heap.hide P).BuiltinsAt mg P → ∀ A Z s vs, Room n A → Bs ⟨prog, w, Kless K P, p, loose, mg, mb, s₁.heap.hide P, s₁.os, X', TR, nb, 0⟩ Z s → RepAll ⟨prog, w, Kless K P, p, loose, mg, mb, s₁.heap.hide P, s₁.os, X', TR, nb, 0⟩ Z vs [.list (ns.map .int)] → Z P = none → s.heap.get? P = some (tabObj #[]) →
      wpAny (model prog w) A (call (.ref f) vs) (fun u s' => u = .bool true ∧ (∀ b o, s.heap.get? b = some o → b ≠ P → s'.heap.get? b = some o) ∧ (∃ more, s'.heap.get? P = some (tabObj more)) ∧ s'.gens = s.gens ∧ s'.os = s.os) (fun _ _ => False) s) :
    wpAny (model prog w) callerA (call (.ref f) [.ref a]) (fun v s' => GoodWG c' cl mean args s₁ (.ok (.ret v)) s') (fun e s' => GoodWG c' cl mean args s₁ (.error e) s') s₁ := by
  have notP : ∀ b o, s₁.heap.get? b = some o → (∀ ws, o.data ≠ .fields ws) → b ≠ P := fun b o e hd q => by
    rw [q, hP] at e; cases e; exact hd _ rfl
  have nsP : ∀ b m, s₁.heap.Ns b m → b ≠ P := fun b m ⟨o, es, ep, e, hd, _⟩ => notP b o e fun ws q => by rw [hd] at q; cases q
  obtain ⟨mc, hmc, hlim⟩ := T.nolimit
  have hsP := nsP _ _ hmc
  have TR : TopRead p loose mg mb (s₁.heap.hide P) := ⟨ns_hide T.g (nsP _ _ T.g), ns_hide T.b (nsP _ _ T.b), ⟨mc, ns_hide hmc hsP, hlim⟩, T.builtins, T.free⟩
  have nb : NoneBooked (s₁.heap.hide P) := ⟨mc, ns_hide hmc hsP, ns_none_of KX hmc hst⟩
  have X' : (Kless K P).In (s₁.heap.hide P) := fun b o e => by
    obtain ⟨h1, h2⟩ := kless_look K P b o e
    exact hide_get (KX b o h2) h1
  obtain ⟨co, cvs, file, tf, flags, tg, inF, text, tt, c1, c2, c3, c4, c5, c6, c7, c8, c9, c10⟩ := id C
  have C' : CodeHd (s₁.heap.hide P) c P := ⟨co, cvs, file, tf, flags, tg, inF, text, tt, hide_get c1 c10, c2, c3, c4, c5, c6, c7, c8, c9, c10⟩
  obtain ⟨bm, bo, b1, b2, b3, b4, b5, b6⟩ := T.bmain
  have hbG : bm ≠ mainGlobals := fun q => by
    obtain ⟨o, es, ep, e, hd, _⟩ := T.g
    rw [q, e] at b3; cases b3; rw [hd] at b6; cases b6
  have hbP : bm ≠ P := notP bm bo b3 fun ws q => by rw [b6] at q; cases q
  have BA : (s₁.heap.hide P).BuiltinsAt mg P := ⟨bm, bo, b1, b2, hbG, hbP, hide_get b3 hbP, b4, b5, b6⟩
  have haP : a ≠ P := notP a _ ho fun ws q => by cases q
  have hself : (s₁.heap.hide P).get? P = none := Heap.hide_self _ _
  refine wpAny_mono (h X' TR nb hself C' BA callerA (fun b => if b = a then some (listOf vs.toArray k) else none) s₁ [.ref a] ⟨rfl, ?_, ?_, rfl⟩ ⟨hg, rfl, htk, fun b o e => ?_, fun b o e => Heap.of_hide e⟩ (.cons (.list (if_pos rfl) (repAll_ints hI)) .nil) (if_neg (Ne.symm haP)) hP) (fun v s' h' => ?_) fun _ _ q => q.elim
  · show 1 + claimMargin + n < recursionLimit
    have : claimMargin = 300 := rfl
    have : recursionLimit = 1000 := rfl
    omega
  · show 4 + 8 * n < cLine
    have : cLine = 9900 := rfl
    omega
  · by_cases q : b = a
    · subst q; rw [if_pos rfl] at e; cases e; exact ho
    · rw [if_neg q] at e; cases e
  · obtain ⟨rfl, hk, ⟨more, hm⟩, hg', hos⟩ := h'
    refine ⟨.inl ⟨_, _, [], rfl, hn, .bool true, hp, unshared_nil⟩, ⟨fun b o e => ?_, fun b o e => ?_⟩, hos, .of_eq (hg'.trans hg)⟩
    · by_cases q : b = P
      · subst q
        rw [hP] at e; cases e
        exact .inr (.inl ⟨⟨c, co, cvs, c1, c2, c3, c4⟩, rfl, #[], more, rfl, by rw [hm]; simp⟩)
      · exact .inl (hk b o e q)
    · by_cases q : b = P
      · subst q; exact ⟨_, hm⟩
      · exact ⟨o, hk b o e q⟩
end
end Mine
end
section
open PySem PySem.W PyProof.Rows
set_option linter.unusedVariables false
set_option maxRecDepth 100000
namespace Mine
local macro_rules | `(tactic| walk_at "ev1") => `(tactic| first
  | exact ev_int | exact ev_str | exact ev_bool | exact ev_none
  | exact ev_name rfl rfl
  | exact evs_nil
  | (apply evs_more; (case hs => exact rfl))
  | apply ev_binop | (apply ev_cmp; (case hm => exact rfl)) | apply ev_sub
  | apply ev_list | apply ev_tuple
  | (apply tst_cmp; (case hm => exact rfl)) | apply tst_not | exact tst_and_nil | exact tst_or_nil
  | exact op_add_int | exact op_sub_int | exact op_iadd_int | exact op_eq_int | exact op_ne_int | exact op_lt_int | exact op_gt_int | exact op_le_int | exact op_ge_int
  | exact op_eq_str | exact op_ne_str | exact op_in_str | exact op_notin_str | exact op_in_dict | exact op_notin_dict | exact op_ne_nil | exact op_eq_nil
  | exact op_fdiv_int (by decide) (PyProof.noPylong_of_log2 (by decide +kernel)) | exact op_mod_int (by decide)
  | apply op_add_str | apply op_iadd_str
  | exact tsts_nil | apply tsts_one)
local macro_rules | `(tactic| walk_at "ev") => `(tactic| repeat' walk_at "ev1")
local macro_rules | `(tactic| walk_at "can") => `(tactic| first | exact Or.inl rfl | exact Or.inr ⟨rfl, rfl, _, rfl⟩)
local macro_rules | `(tactic| walk_at "as") => `(tactic| (refine exs_cons ?_; apply ex_assign; (case hc => walk_at "can"); (case hs => exact rfl); (case' k => refine then_next ?_); (case' h => walk_at "ev")))
local macro_rules | `(tactic| walk_at "aug") => `(tactic| (refine exs_cons ?_; apply ex_aug; (case h₀ => exact rfl); (case hc => walk_at "can"); (case' k => refine then_next ?_); (case' ho => skip); (case' h => walk_at "ev"); (try walk_at "ev")))
local macro_rules | `(tactic| walk_at "if") => `(tactic| (refine exs_cons ?_; apply ex_if; (case' h => walk_at "ev")))
local macro_rules | `(tactic| walk_at "ret") => `(tactic| (refine exs_cons ?_; apply ex_return; (case' h => walk_at "ev")))
local macro_rules | `(tactic| walk_at "params") => `(tactic| (intro x hx; simp only [List.mem_cons, List.not_mem_nil, or_false] at hx; first
  | (subst hx; first | exact .inl rfl | exact .inr ⟨rfl, fun _ => rfl⟩)
  | (rcases hx with hx | hx <;> subst hx <;> first | exact .inl rfl | exact .inr ⟨rfl, fun _ => rfl⟩)
  | (rcases hx with hx | hx | hx <;> subst hx <;> first | exact .inl rfl | exact .inr ⟨rfl, fun _ => rfl⟩)))
local macro_rules | `(tactic| walk_at "esc") => `(tactic| (refine esc_step rfl (by decide +kernel : _ = (⟨#[_]⟩ : Str)) ?_ ?_ ?_ ?_ (by assumption) rfl (by walk_at "can") rfl ?_))
section
variable {G : Gnd} {n : Nat} {doc pm cdv ct : Value} {a : Addr}
set_option maxHeartbeats 4000000
def laid04 : List Str := ["&", ">", "\"", "<", "amp", ";", "gt;", "quot;", "&a", "&amp;", "&q", "g"]
def names04 : List Str := ["a", "am", "amp", "g", "gt", "q", "qu", "quo", "quot", "m", "ap", "ampa", "gta", "t"]
def lay04 (x : Int) : List Nat := cs (laid04.getD ((x.fdiv 4).fmod 12).toNat Str.empty)
def nam04 (x : Int) : List Nat := cs (names04.getD ((x.fdiv 4).fmod 14).toNat Str.empty)
def ix04 (x : Int) (n : Nat) : Nat := (((x.fdiv 4).fdiv 14).fmod ((n : Int) + 1)).toNat
def step04 (st : List Nat × List Row) (x : Int) : List Nat × List Row :=
  if decide (x.fmod 4 < 3) = true then (st.1 ++ lay04 x, st.2)
  else if decide ((st.2.length : Int) < 12) = true then (st.1, st.2.take (ix04 x st.2.length) ++ (nam04 x, 65 + st.2.length) :: st.2.drop (ix04 x st.2.length)) else st
def st04 (ns : List Int) : List Nat × List Row := ns.foldl step04 ([34, 62, 38], base3)
structure Ok04 (m : Nat) (st : List Nat × List Row) : Prop where
  len : st.1.length ≤ 3 + 5 * m
  rows : st.2.length ≤ 12
  nm : ∀ r ∈ st.2, r.1.length ≤ 10
  good : GoodR st.2
theorem lay04_le (x : Int) : (lay04 x).length ≤ 5 := by
  have h := fmod_bounds (a := x.fdiv 4) (m := 12) (by decide)
  have hlt : ((x.fdiv 4).fmod 12).toNat < laid04.length := by show _ < 12; omega
  have all : laid04.all (fun y => decide ((cs y).length ≤ 5)) = true := by decide +kernel
  unfold lay04
  rw [List.getD_eq_getElem?_getD, List.getElem?_eq_getElem hlt]
  exact of_decide_eq_true (List.all_eq_true.mp all _ (List.getElem_mem hlt))
theorem nam04_ok (x : Int) : (nam04 x).length ≤ 10 ∧ 59 ∉ nam04 x := by
  have h := fmod_bounds (a := x.fdiv 4) (m := 14) (by decide)
  have hlt : ((x.fdiv 4).fmod 14).toNat < names04.length := by show _ < 14; omega
  have all : names04.all (fun y => decide ((cs y).length ≤ 10) && !(cs y).contains 59) = true := by decide +kernel
  unfold nam04
  rw [List.getD_eq_getElem?_getD, List.getElem?_eq_getElem hlt]
  have := List.all_eq_true.mp all _ (List.getElem_mem hlt)
  rw [Bool.and_eq_true, decide_eq_true_eq] at this
  exact ⟨this.1, by simpa using this.2⟩
theorem ix04_le (x : Int) (n : Nat) : ix04 x n ≤ n := by
  have := fmod_bounds (a := (x.fdiv 4).fdiv 14) (m := (n : Int) + 1) (by omega)
  unfold ix04
  omega
theorem ok04 {m : Nat} {st : List Nat × List Row} (h : Ok04 m st) (x : Int) : Ok04 (m + 1) (step04 st x) := by
  unfold step04
  split
  · refine ⟨?_, h.rows, h.nm, h.good⟩
    have := lay04_le x
    have := h.len
    simp only [List.length_append]
    omega
  · split
    · rename_i h2
      rw [decide_eq_true_eq] at h2
      have hi := ix04_le x st.2.length
      refine ⟨by have := h.len; show st.1.length ≤ _; omega, ?_, fun r hr => ?_, goodR_insert h.good (nam04_ok x).2 _⟩
      · simp only [List.length_append, List.length_cons, List.length_take, List.length_drop]
        omega
      · rcases List.mem_append.mp hr with q | q
        · exact h.nm r (List.mem_of_mem_take q)
        · rcases List.mem_cons.mp q with rfl | q
          · exact (nam04_ok x).1
          · exact h.nm r (List.mem_of_mem_drop q)
    · exact ⟨by have := h.len; omega, h.rows, h.nm, h.good⟩
theorem ok04_all : ∀ (ns : List Int) (m : Nat) (st : List Nat × List Row), Ok04 m st → Ok04 (m + ns.length) (ns.foldl step04 st)
  | [], m, st, h => h
  | x :: ns, m, st, h => by
    have := ok04_all ns (m + 1) _ (ok04 h x)
    rw [List.length_cons, show m + (ns.length + 1) = m + 1 + ns.length from by omega]
    exact this
theorem ok04_st (ns : List Int) : Ok04 ns.length (st04 ns) := by
  have := ok04_all ns 0 ([34, 62, 38], base3) ⟨by decide, by decide, by decide, goodR_base⟩
  rwa [Nat.zero_add] at this
theorem base3_eq : [D.tup [.str "amp;", .str "&"], D.tup [.str "gt;", .str ">"], D.tup [.str "quot;", .str "\""]] = base3.map rowD := by
  have e1 : ("amp;" : Str) = T [97, 109, 112, 59] := by decide +kernel
  have e2 : ("gt;" : Str) = T [103, 116, 59] := by decide +kernel
  have e3 : ("quot;" : Str) = T [113, 117, 111, 116, 59] := by decide +kernel
  have e4 : ("&" : Str) = ⟨#[38]⟩ := by decide +kernel
  have e5 : (">" : Str) = ⟨#[62]⟩ := by decide +kernel
  have e6 : ("\"" : Str) = ⟨#[34]⟩ := by decide +kernel
  rw [e1, e2, e3, e4, e5, e6]
  rfl
theorem pre04 {ar ad ah : Addr} (L : Addr) (hlen : nsIn G.K mainGlobals "len" = some none) (hch : nsIn G.K mainGlobals "chr" = some none)
    (gh : nsIn G.K mainGlobals "_escape_attrib_html" = some (some (.ref ah))) (kh : keepIn G.K (.ref ah) = true) (fh : ∀ l : List Nat, l.length ≤ 100000 → Fn G (n + 2) ah [.str (T l)] (.str (T (escBy htmlT l))))
    (gr : nsIn G.K mainGlobals "_law_read" = some (some (.ref ar))) (kr : keepIn G.K (.ref ar) = true) (fr : ∀ rows : List Row, rows.length ≤ 12 → (∀ r ∈ rows, r.1.length ≤ 10) → ∀ W : List Nat, W.length ≤ 50000 → Fn G (n + 2) ar [.str (T W), .list (rows.map rowD)] (.str (T (read04 rows W))))
    (gd : nsIn G.K mainGlobals "_law_due" = some (some (.ref ad))) (kd : keepIn G.K (.ref ad) = true) (fd : ∀ rows : List Row, GoodR rows → rows.length ≤ 12 → (∀ r ∈ rows, r.1.length ≤ 10) → ∀ l : List Nat, l.length ≤ 5000 → Fn G (n + 2) ad [.str (T l), .list (rows.map rowD)] (.str (T (due04 rows l))))
    (ns : List Int) (hn : ns.length ≤ 63) :
    Exs G (callEnvC (fdOf (stOf pw 6) doc pm cdv ct) L a) (n + 2) (startLoc ["script"] [.list (ns.map .int)]) ((bodyOf (stOf pw 6)).take 7) fun fl ρ' => fl = .next ∧ Sub [("writing", .val (.str (T (escBy htmlT (st04 ns).1)))), ("table", .val (.list ((st04 ns).2.map rowD))), ("text", .val (.str (T (st04 ns).1)))] ρ' := by
  have big : 100000 ≤ sizeLine := by decide
  walk_at "as"
  · decide
  walk_at "as"
  · decide
  walk_at "as"
  refine exs_cons (ex_assign_own (ds := base3.map rowD) ?_ (by decide) (.inl rfl) (then_next ?_))
  · rw [← base3_eq]
    exact evs_more (ev_tuple (evs_more ev_str (evs_more ev_str evs_nil rfl) rfl) (by decide)) (evs_more (ev_tuple (evs_more ev_str (evs_more ev_str evs_nil rfl) rfl) (by decide)) (evs_more (ev_tuple (evs_more ev_str (evs_more ev_str evs_nil rfl) rfl) (by decide)) evs_nil rfl) rfl) rfl
  refine exs_cons ?_
  refine ex_forI (d := .list (ns.map .int)) (ds := ns.map .int) (fun i => [("laid", .val (.list (txs laid04))), ("names", .val (.list (txs names04))), ("text", .val (.str (T (st04 (ns.take i)).1))), ("table", .own ((st04 (ns.take i)).2.map rowD))]) (ev_name rfl rfl) itr_list ?_ (fun i d hd => ?_) (fun ρ' hs => ?_) fun _ => rfl
  · have e : ("\">&" : Str) = T (st04 (ns.take 0)).1 := by
      rw [List.take_zero]; show _ = T [34, 62, 38]; decide +kernel
    have e2 : base3 = (st04 (ns.take 0)).2 := by rw [List.take_zero]; rfl
    rw [e, ← e2]
    exact sub_cons rfl (sub_cons rfl (sub_cons rfl (sub_cons rfl sub_nil)))
  · obtain ⟨x, hx, rfl⟩ := at_map hd
    have hok := ok04_st (ns.take i)
    have hil : (ns.take i).length ≤ 63 := by rw [List.length_take]; omega
    have hst : st04 (ns.take (i + 1)) = step04 (st04 (ns.take i)) x := by
      unfold st04
      rw [List.take_add_one, hx, List.foldl_append]
      rfl
    rw [hst]
    generalize st04 (ns.take i) = st at hok
    have hl := hok.len
    have hr := hok.rows
    refine ⟨_, asg_name (.inl rfl), ?_⟩
    walk_at "as"
    refine exs_cons (ex_if (c := decide (x.fmod 4 < 3)) (by walk_at "ev") (fun h => ?_) fun h => ?_)
    · have e : step04 st x = (st.1 ++ lay04 x, st.2) := if_pos h
      rw [e]
      refine exs_cons (ex_aug (d₀ := .str (T st.1)) (d₁ := .str (T (lay04 x))) (d := .str (T (st.1 ++ lay04 x))) rfl ?_ ?_ (.inl rfl) (then_next (exs_nil (then_next (exs_nil (sub_cons rfl (sub_cons rfl (sub_cons rfl (sub_cons rfl sub_nil)))))))))
      · rw [show T (lay04 x) = laid04.getD ((x.fdiv 4).fmod 12).toNat Str.empty from T_of _]
        exact ev_sub (ev_name rfl rfl) (by walk_at "ev") (sb_menu (xs := laid04) (m := 12) (by decide) (by decide) (by decide))
      · rw [← T_append]
        have := lay04_le x
        exact op_iadd_str (by rw [T_length, T_length]; omega)
    · have e : step04 st x = (if decide ((st.2.length : Int) < 12) = true then (st.1, st.2.take (ix04 x st.2.length) ++ (nam04 x, 65 + st.2.length) :: st.2.drop (ix04 x st.2.length)) else st) := if_neg (by rw [h]; decide)
      rw [e]
      have lenT : ∀ {ρ : Loc} {p q r : Pos}, ρ.lookup ("table" : Str) = some (B.own (st.2.map rowD)) → Ev G (callEnvC (fdOf (stOf pw 6) doc pm cdv ct) L a) (n + 2) ρ (.Call (.Name "len" p) [.Name "table" q] [] r) (.int (st.2.length : Int)) := fun {ρ p q r} hρ => by
        have e : (st.2.length : Int) = ((st.2.map rowD).length : Int) := by rw [List.length_map]
        rw [e]
        exact ev_peek hρ (ev_lenL (ev_name (by rw [lookup_upd, if_pos rfl]) rfl) (by rw [List.length_map]; omega) hlen rfl rfl) rfl
      refine exs_cons (ex_if (c := decide ((st.2.length : Int) < 12)) (tst_cmp (lenT rfl) ev_int op_lt_int rfl) (fun h2 => ?_) fun h2 => ?_)
      · rw [if_pos h2]
        have hi := ix04_le x st.2.length
        have hib := fmod_bounds (a := (x.fdiv 4).fdiv 14) (m := (st.2.length : Int) + 1) (by omega)
        rw [decide_eq_true_eq] at h2
        have emap : (st.2.take (ix04 x st.2.length) ++ (nam04 x, 65 + st.2.length) :: st.2.drop (ix04 x st.2.length)).map rowD = (st.2.map rowD).take (ix04 x st.2.length) ++ rowD (nam04 x, 65 + st.2.length) :: (st.2.map rowD).drop (ix04 x st.2.length) := by
          rw [List.map_append, List.map_cons, List.map_take, List.map_drop]
        dsimp only
        rw [emap]
        refine exs_cons (ex_mut (ds := st.2.map rowD) (args := [.int (((x.fdiv 4).fdiv 14).fmod ((st.2.length : Int) + 1)), rowD (nam04 x, 65 + st.2.length)]) rfl F.slot_list_insert F.type_list_insert ?_ (mut_insert hib.1 (by rw [List.length_map]; exact hi) (by rw [List.length_map]; omega)) rfl rfl (by show 2 < 30; decide) rfl rfl (then_next (exs_nil (then_next (exs_nil (then_next (exs_nil (sub_cons rfl (sub_cons rfl (sub_cons rfl (sub_cons rfl sub_nil)))))))))))
        refine evs_more (ev_binop (ev_binop (ev_name rfl rfl) ev_int (op_fdiv_int (by decide) (PyProof.noPylong_of_log2 (by decide +kernel)))) (ev_binop (lenT rfl) ev_int op_add_int) (op_mod_int (by omega))) (evs_more (ev_tuple (evs_more ?_ (evs_more ?_ evs_nil rfl) rfl) (by show 2 ≤ sizeLine; decide)) evs_nil rfl) rfl
        · rw [show T (nam04 x) = names04.getD ((x.fdiv 4).fmod 14).toNat Str.empty from T_of _]
          exact ev_sub (ev_name rfl rfl) (by walk_at "ev") (sb_menu (xs := names04) (m := 14) (by decide) (by decide) (by decide))
        · have ec : (65 + st.2.length : Nat) = (65 + (st.2.length : Int)).toNat := by omega
          show Ev _ _ _ _ _ (.str ⟨#[65 + st.2.length]⟩)
          rw [ec]
          exact ev_bf (evs_more (ev_binop ev_int (lenT rfl) op_add_int) evs_nil rfl) (bf_chr (by omega) (by omega)) hch rfl rfl rfl rfl
      · rw [if_neg (by rw [h2]; decide)]
        exact exs_nil (then_next (exs_nil (then_next (exs_nil (sub_cons rfl (sub_cons rfl (sub_cons rfl (sub_cons rfl sub_nil))))))))
  · rw [List.length_map, List.take_length] at hs
    have hok := ok04_st ns
    refine then_next (exs_weaken hs ?_)
    generalize st04 ns = st at hok
    have hl := hok.len
    have hel := esc_le (t := htmlT) (m := 8) (by decide) (by decide) st.1
    refine exs_freeze (x := "table") rfl ?_
    refine exs_cons (ex_assign (ev_call (ev_glob gh rfl rfl) (evs_more (ev_name rfl rfl) evs_nil rfl) kh (fh st.1 (by omega)) rfl rfl) (.inl rfl) rfl (then_next ?_))
    refine exs_cons (ex_if (c := T (read04 st.2 (escBy htmlT st.1)) != T (due04 st.2 st.1)) (tst_cmp (ev_call (ev_glob gr rfl rfl) (evs_more (ev_name rfl rfl) (evs_more (ev_name rfl rfl) evs_nil rfl) rfl) kr (fr st.2 hok.rows hok.nm _ (by omega)) rfl rfl) (ev_call (ev_glob gd rfl rfl) (evs_more (ev_name rfl rfl) (evs_more (ev_name rfl rfl) evs_nil rfl) rfl) kd (fd st.2 hok.good hok.rows hok.nm _ (by omega)) rfl rfl) op_ne_str rfl) (fun h => ?_) fun _ => exs_nil (then_next (exs_nil ⟨rfl, sub_cons rfl (sub_cons rfl (sub_cons rfl sub_nil))⟩)))
    rw [read_esc hok.good] at h
    simp at h
end
end Mine
end
section
open PySem PySem.W PyProof.Rows
set_option linter.unusedVariables false
set_option maxRecDepth 100000
namespace Mine
local macro_rules | `(tactic| walk_at "ev1") => `(tactic| first
  | exact ev_int | exact ev_str | exact ev_bool | exact ev_none
  | exact ev_name rfl rfl
  | exact evs_nil
  | (apply evs_more; (case hs => exact rfl))
  | apply ev_binop | (apply ev_cmp; (case hm => exact rfl)) | apply ev_sub
  | apply ev_list | apply ev_tuple
  | (apply tst_cmp; (case hm => exact rfl)) | apply tst_not | exact tst_and_nil | exact tst_or_nil
  | exact op_add_int | exact op_sub_int | exact op_iadd_int | exact op_eq_int | exact op_ne_int | exact op_lt_int | exact op_gt_int | exact op_le_int | exact op_ge_int
  | exact op_eq_str | exact op_ne_str | exact op_in_str | exact op_notin_str | exact op_in_dict | exact op_notin_dict | exact op_ne_nil | exact op_eq_nil
  | exact op_fdiv_int (by decide) (PyProof.noPylong_of_log2 (by decide +kernel)) | exact op_mod_int (by decide)
  | apply op_add_str | apply op_iadd_str
  | exact tsts_nil | apply tsts_one)
local macro_rules | `(tactic| walk_at "ev") => `(tactic| repeat' walk_at "ev1")
local macro_rules | `(tactic| walk_at "can") => `(tactic| first | exact Or.inl rfl | exact Or.inr ⟨rfl, rfl, _, rfl⟩)
local macro_rules | `(tactic| walk_at "as") => `(tactic| (refine exs_cons ?_; apply ex_assign; (case hc => walk_at "can"); (case hs => exact rfl); (case' k => refine then_next ?_); (case' h => walk_at "ev")))
local macro_rules | `(tactic| walk_at "aug") => `(tactic| (refine exs_cons ?_; apply ex_aug; (case h₀ => exact rfl); (case hc => walk_at "can"); (case' k => refine then_next ?_); (case' ho => skip); (case' h => walk_at "ev"); (try walk_at "ev")))
local macro_rules | `(tactic| walk_at "if") => `(tactic| (refine exs_cons ?_; apply ex_if; (case' h => walk_at "ev")))
local macro_rules | `(tactic| walk_at "ret") => `(tactic| (refine exs_cons ?_; apply ex_return; (case' h => walk_at "ev")))
local macro_rules | `(tactic| walk_at "params") => `(tactic| (intro x hx; simp only [List.mem_cons, List.not_mem_nil, or_false] at hx; first
  | (subst hx; first | exact .inl rfl | exact .inr ⟨rfl, fun _ => rfl⟩)
  | (rcases hx with hx | hx <;> subst hx <;> first | exact .inl rfl | exact .inr ⟨rfl, fun _ => rfl⟩)
  | (rcases hx with hx | hx | hx <;> subst hx <;> first | exact .inl rfl | exact .inr ⟨rfl, fun _ => rfl⟩)))
local macro_rules | `(tactic| walk_at "esc") => `(tactic| (refine esc_step rfl (by decide +kernel : _ = (⟨#[_]⟩ : Str)) ?_ ?_ ?_ ?_ (by assumption) rfl (by walk_at "can") rfl ?_))
section
variable {G : Gnd} {n : Nat} {doc pm cdv ct : Value} {a : Addr}
set_option maxHeartbeats 4000000
theorem law04 {ar ad ah c P : Addr} (dA : DefAt G a (fdOf (stOf pw 6) doc pm (.ref c) ct) (bodyOf (stOf pw 6))) (hlen : nsIn G.K mainGlobals "len" = some none) (hch : nsIn G.K mainGlobals "chr" = some none) (hso : nsIn G.K mainGlobals "sorted" = some none)
    (hB : G.base.get? P = none) (C : CodeHd G.base c P) (hbm : G.base.BuiltinsAt G.mg P)
    (gh : nsIn G.K mainGlobals "_escape_attrib_html" = some (some (.ref ah))) (kh : keepIn G.K (.ref ah) = true) (fh : ∀ l : List Nat, l.length ≤ 100000 → Fn G (n + 2) ah [.str (T l)] (.str (T (escBy htmlT l))))
    (gr : nsIn G.K mainGlobals "_law_read" = some (some (.ref ar))) (kr : keepIn G.K (.ref ar) = true) (fr : ∀ rows : List Row, rows.length ≤ 12 → (∀ r ∈ rows, r.1.length ≤ 10) → ∀ W : List Nat, W.length ≤ 50000 → Fn G (n + 2) ar [.str (T W), .list (rows.map rowD)] (.str (T (read04 rows W))))
    (gd : nsIn G.K mainGlobals "_law_due" = some (some (.ref ad))) (kd : keepIn G.K (.ref ad) = true) (fd : ∀ rows : List Row, GoodR rows → rows.length ≤ 12 → (∀ r ∈ rows, r.1.length ≤ 10) → ∀ l : List Nat, l.length ≤ 5000 → Fn G (n + 2) ad [.str (T l), .list (rows.map rowD)] (.str (T (due04 rows l))))
    (ns : List Int) (hn : ns.length ≤ 63) (A : Around) (Z : Zf) (s : Shared) (vs : List Value) (R : Room (n + 3) A) (b : Bs G Z s) (r : RepAll G Z vs [.list (ns.map .int)]) (hZP : Z P = none) (hP : s.heap.get? P = some (tabObj #[])) :
    wpAny (model G.prog G.w) A (call (.ref a) vs) (fun u s' => u = .bool true ∧ (∀ b o, s.heap.get? b = some o → b ≠ P → s'.heap.get? b = some o) ∧ (∃ more, s'.heap.get? P = some (tabObj more)) ∧ s'.gens = s.gens ∧ s'.os = s.os) (fun _ _ => False) s := by
  have hok := ok04_st ns
  have hl := hok.len
  have hel := esc_le (t := htmlT) (m := 8) (by decide) (by decide) (st04 ns).1
  refine fn_two (xs := ["script"]) (pre := (bodyOf (stOf pw 6)).take 7) (last := (bodyOf (stOf pw 6))[7]!) dA rfl (fun vs h => ?_) rfl ?_ (by decide) (fun L => pre04 L hlen hch gh kh fh gr kr fr gd kd fd ns hn) (fun L A Z H s R S hHP => ?_) R b r hZP hP
  · match vs, h with
    | [v], _ => rfl
  · walk_at "params"
  refine last04 (rows := (st04 ns).2) (W := escBy htmlT (st04 ns).1) (l := (st04 ns).1) R (by omega) S hHP hB rfl C hbm rfl rfl rfl rfl rfl hlen hso rfl gr rfl kr (by have := hok.rows; omega) hok.nm (fun rows' hp hpw => ?_) rfl rfl (fun _ _ _ _ _ _ => rfl) rfl rfl rfl (by decide) rfl rfl
  have hperm := hp.length_eq
  have G' : GoodR rows' := ⟨fun r hr => hok.good.free r (hp.mem_iff.mp hr), fun r hr => hp.mem_iff.mpr (hok.good.base r hr)⟩
  have h := fr rows' (by have := hok.rows; omega) (fun r hr => hok.nm r (hp.mem_iff.mp hr)) (escBy htmlT (st04 ns).1) (by omega)
  rw [read_esc G', due_sorted hok.good hp hpw] at h
  exact h
end
end Mine
end
open PySem PySem.W PySem.W.X PySem.W.ZRun PyProof.Rows
set_option maxRecDepth 100000
set_option maxHeartbeats 0
theorem PySem.Challenge.cw_dn0275_04_holds : PySem.Challenge.rw_dn0275_04.Holds := by
  w_on; o_law; z_head
  (case hw => w_witness2)
  k_fill
  intro w s₀ s₁ mg mb G y fa o pm cd doc dV kV ho hd hcd hD hmg hg args vals as L hpre hlay hrd hwl hlo
  z_open y L KX ZH ZN ZT
  refine Ground.open G ?_
  intro T B D TE TW
  wrow_args hpre hlay hrd hwl hlo
  obtain ⟨hat, hsz⟩ := script_at L
  have htk := script_toks L ZT
  rw [ZN] at hat hsz
  subst hat
  x_fa T KX hmg
  all_lens
  clear hcd hd hD ho
  refine Mine.finish04 (n := 3) (c := 44) (P := 40) (p := _) KX T rfl hg (Nat.lt_of_lt_of_le (by decide) htk) (script_obj L (by assumption)) (by assumption) (fun _ => rfl) ?_ (by decide) (KX _ _ rfl) ⟨_, _, _, _, _, _, _, _, _, KX _ _ rfl, rfl, rfl, rfl, rfl, rfl, rfl, rfl, rfl, by decide⟩ fun X' TR nb hB hC hBA => ?_
  · wrow_post
  exact Mine.law04 (n := 0) (doc := _) (pm := _) (ct := _) ⟨⟨_, rfl, rfl⟩, rfl, rfl, rfl, rfl, rfl, rfl, rfl, rfl⟩ rfl rfl rfl hB hC hBA
    rfl rfl (fun l hl => Mine.fn_html (n := 1) (doc := _) (pm := _) (cdv := _) (ct := _) ⟨⟨_, rfl, rfl⟩, rfl, rfl, rfl, rfl, rfl, rfl, rfl, rfl⟩ l hl)
    rfl rfl (fun rows hr hnm W hW => Mine.fn_read04 (n := 0) (doc := _) (pm := _) (cdv := _) (ct := _) ⟨⟨_, rfl, rfl⟩, rfl, rfl, rfl, rfl, rfl, rfl, rfl, rfl⟩ rfl rows hr hnm W hW)
    rfl rfl (fun rows hg hr hnm l hl => Mine.fn_due04 (n := 0) (doc := _) (pm := _) (cdv := _) (ct := _) ⟨⟨_, rfl, rfl⟩, rfl, rfl, rfl, rfl, rfl, rfl, rfl, rfl⟩ rfl rows hg hr hnm l hl)
    _ (by omega)
