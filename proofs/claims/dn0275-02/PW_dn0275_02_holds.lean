import PyProof.Rows.All
import Wide.All
import OpenK.AllK
import Wide.FinOn
import PySem.Challenge.RW_dn0275_02
set_option Elab.async false
section
open PySem PySem.W PyProof.Rows
namespace Mine

/-- plain Python data -/
inductive D where
  | none
  | bool (b : Bool)
  | int (i : Int)
  | str (x : Str)
  | list (ds : List D)
  | tup (ds : List D)
  | dict (ks : List Str) (ds : List D)
  | fn (a : Addr)
  | rng (a b : Int)
  | slc (lo hi : Option Int)
  | bytes (b : Array UInt8)
  | fstr (x : Str)
  | ostr (x : Str)

abbrev Zf := Addr → Option Obj

/-- what is fixed while the law runs -/
structure Gnd where
  prog : Program
  w : World
  K : Frag
  p : Program
  loose : List Str
  mg : Str → Option Value
  mb : Str → Option Value
  base : Heap
  os : OsState
  X : K.In base
  T : TopRead p loose mg mb base
  nb : NoneBooked base
  t0 : Nat

mutual
/-- the value v is the datum d, as the frozen objects Z tell it -/
inductive Rep (G : Gnd) (Z : Zf) : Value → D → Prop
  | none : Rep G Z .none .none
  | bool (b : Bool) : Rep G Z (.bool b) (.bool b)
  | int (i : Int) (t : Tok) : Rep G Z (.int i t) (.int i)
  | str (x : Str) (t : Tok) : Rep G Z (.str x t) (.str x)
  | list {a : Addr} {vs : List Value} {n : Nat} {ds : List D} : Z a = some (listOf vs.toArray n) → RepAll G Z vs ds → Rep G Z (.ref a) (.list ds)
  | tup {a : Addr} {vs : List Value} {n : Nat} {ds : List D} : Z a = some { cls := .type "tuple", data := .seq vs.toArray n } → RepAll G Z vs ds → Rep G Z (.ref a) (.tup ds)
  | dict {a : Addr} {o : Obj} {kvs : List (Str × Value)} {ds : List D} : Z a = some o → (a == sysModules) = false → o.IsDictOf (strKind G.prog G.w) kvs →
      RepAll G Z (kvs.map (·.2)) ds → Rep G Z (.ref a) (.dict (kvs.map (·.1)) ds)
  | fn (a : Addr) : Rep G Z (.ref a) (.fn a)
  | rng {x : Addr} {a b : Int} {t u v : Tok} : Z x = some { cls := .type "range", data := .fields #[.int a t, .int b u, .int 1 v] } → Rep G Z (.ref x) (.rng a b)
  | slc {x : Addr} {vl vu : Value} {lo hi : Option Int} : Z x = some { cls := .type "slice", data := .fields #[vl, vu, .none] } → IsPart vl lo → IsPart vu hi → Rep G Z (.ref x) (.slc lo hi)
  | bytes (b : Array UInt8) (t : Tok) : Rep G Z (.bytes b t) (.bytes b)
  | fstr (x : Str) (t : Tok) : G.t0 < t → Rep G Z (.str x t) (.fstr x)
  | ostr (x : Str) (t : Tok) : 0 < t → t ≤ G.t0 → Rep G Z (.str x t) (.ostr x)
inductive RepAll (G : Gnd) (Z : Zf) : List Value → List D → Prop
  | nil : RepAll G Z [] []
  | cons {v : Value} {vs : List Value} {d : D} {ds : List D} : Rep G Z v d → RepAll G Z vs ds → RepAll G Z (v :: vs) (d :: ds)
end

def Zle (Z Z' : Zf) : Prop := ∀ a o, Z a = some o → Z' a = some o
theorem Zle.same {Z : Zf} : Zle Z Z := fun _ _ h => h
theorem Zle.trans {Z Z' Z'' : Zf} (a : Zle Z Z') (b : Zle Z' Z'') : Zle Z Z'' := fun x o h => b x o (a x o h)

mutual
theorem Rep.mono {G : Gnd} {Z Z' : Zf} (hz : Zle Z Z') : ∀ {v : Value} {d : D}, Rep G Z v d → Rep G Z' v d
  | _, _, .none => .none
  | _, _, .bool b => .bool b
  | _, _, .int i t => .int i t
  | _, _, .str x t => .str x t
  | _, _, .list h r => .list (hz _ _ h) (RepAll.mono hz r)
  | _, _, .tup h r => .tup (hz _ _ h) (RepAll.mono hz r)
  | _, _, .dict h hs hd r => .dict (hz _ _ h) hs hd (RepAll.mono hz r)
  | _, _, .fn a => .fn a
  | _, _, .rng h => .rng (hz _ _ h)
  | _, _, .slc h p q => .slc (hz _ _ h) p q
  | _, _, .bytes b t => .bytes b t
  | _, _, .fstr x t h => .fstr x t h
  | _, _, .ostr x t h h' => .ostr x t h h'
theorem RepAll.mono {G : Gnd} {Z Z' : Zf} (hz : Zle Z Z') : ∀ {vs : List Value} {ds : List D}, RepAll G Z vs ds → RepAll G Z' vs ds
  | _, _, .nil => .nil
  | _, _, .cons h r => .cons (Rep.mono hz h) (RepAll.mono hz r)
end

section
variable {G : Gnd} {Z : Zf}
theorem RepAll.length : ∀ {vs : List Value} {ds : List D}, RepAll G Z vs ds → vs.length = ds.length
  | _, _, .nil => rfl
  | _, _, .cons _ r => by rw [List.length_cons, List.length_cons, RepAll.length r]
theorem RepAll.append : ∀ {vs ws : List Value} {ds es : List D}, RepAll G Z vs ds → RepAll G Z ws es → RepAll G Z (vs ++ ws) (ds ++ es)
  | _, _, _, _, .nil, k => k
  | _, _, _, _, .cons h r, k => .cons h (RepAll.append r k)
theorem RepAll.get : ∀ {vs : List Value} {ds : List D}, RepAll G Z vs ds → ∀ {i : Nat} {d : D}, ds[i]? = some d → ∃ v, vs[i]? = some v ∧ Rep G Z v d
  | _, _, .nil, _, _, h => by simp at h
  | _, _, .cons h r, 0, _, e => by simp at e; subst e; exact ⟨_, rfl, h⟩
  | _, _, .cons _ r, i + 1, _, e => by simp at e; simpa using RepAll.get r e
theorem RepAll.drop : ∀ {vs : List Value} {ds : List D}, RepAll G Z vs ds → ∀ n, RepAll G Z (vs.drop n) (ds.drop n)
  | _, _, r, 0 => by simpa using r
  | _, _, .nil, _ + 1 => .nil
  | _, _, .cons _ r, n + 1 => by simpa using RepAll.drop r n
theorem RepAll.take : ∀ {vs : List Value} {ds : List D}, RepAll G Z vs ds → ∀ n, RepAll G Z (vs.take n) (ds.take n)
  | _, _, _, 0 => by simpa using RepAll.nil
  | _, _, .nil, _ + 1 => .nil
  | _, _, .cons h r, n + 1 => by simpa using RepAll.cons h (RepAll.take r n)
end

/-- from Z, s to Z', s': nothing that stood is changed, what is newly frozen is new -/
structure Ext (Z : Zf) (s : Shared) (Z' : Zf) (s' : Shared) : Prop where
  le : Zle Z Z'
  keep : ∀ a o, s.heap.get? a = some o → s'.heap.get? a = some o
  zin : ∀ a o, Z' a = some o → s'.heap.get? a = some o
  new : ∀ a o, Z' a = some o → Z a = some o ∨ s.heap.get? a = none
  gens : s'.gens = s.gens
  os : s'.os = s.os
  tk : s.toks ≤ s'.toks

theorem Ext.same {Z : Zf} {s : Shared} (hz : ∀ a o, Z a = some o → s.heap.get? a = some o) : Ext Z s Z s := ⟨Zle.same, fun _ _ h => h, hz, fun _ _ h => .inl h, Eq.refl _, Eq.refl _, Nat.le_refl _⟩
theorem Ext.tok {Z : Zf} {s : Shared} (hz : ∀ a o, Z a = some o → s.heap.get? a = some o) {t : Nat} (ht : s.toks ≤ t) : Ext Z s Z { s with toks := t } := ⟨Zle.same, fun _ _ h => h, hz, fun _ _ h => .inl h, Eq.refl _, Eq.refl _, ht⟩
theorem Ext.trans {Z Z' Z'' : Zf} {s s' s'' : Shared} (x : Ext Z s Z' s') (y : Ext Z' s' Z'' s'') : Ext Z s Z'' s'' where
  le := x.le.trans y.le
  keep := fun a o h => y.keep a o (x.keep a o h)
  zin := y.zin
  new := fun a o h => by
    rcases y.new a o h with h | h
    · exact x.new a o h
    · cases q : s.heap.get? a with
      | none => exact .inr (Eq.refl _)
      | some ob => rw [x.keep a ob q] at h; cases h
  gens := y.gens.trans x.gens
  os := y.os.trans x.os
  tk := Nat.le_trans x.tk y.tk
/-- only the heap's keeping counts: Z stays -/
theorem Ext.back {Z Z₁ Z' : Zf} {s s' : Shared} (x : Ext Z₁ s Z' s') (hz : ∀ a o, Z a = some o → s.heap.get? a = some o) : Ext Z s Z s' :=
  ⟨Zle.same, x.keep, fun a o h => x.keep a o (hz a o h), fun _ _ h => .inl h, x.gens, x.os, x.tk⟩

def Zadd (Z : Zf) (a : Addr) (o : Obj) : Zf := fun b => if b = a then some o else Z b
theorem Zadd.self {Z : Zf} {a : Addr} {o : Obj} : Zadd Z a o a = some o := if_pos rfl
theorem Zadd.le {Z : Zf} {a : Addr} {o : Obj} (h : Z a = none) : Zle Z (Zadd Z a o) := fun b ob e => by
  unfold Zadd
  by_cases q : b = a
  · subst q; rw [h] at e; cases e
  · rw [if_neg q]; exact e

theorem get?_size_none (h : Heap) : h.get? h.objs.size = none := by
  cases q : h.get? h.objs.size with
  | none => rfl
  | some o => exact absurd (Heap.lt_size q) (Nat.lt_irrefl _)

/-- a new object, frozen at once -/
theorem Ext.alloc {Z : Zf} {s : Shared} {o : Obj} {t : Nat} (hz : ∀ a o, Z a = some o → s.heap.get? a = some o) (hf : o.isFreed = false) (ht : s.toks ≤ t) :
    Ext Z s (Zadd Z s.heap.objs.size o) { s with heap := s.heap.push o, toks := t } where
  le := Zadd.le (by
    cases q : Z s.heap.objs.size with
    | none => rfl
    | some ob => exact absurd (hz _ _ q) (by rw [get?_size_none]; intro h; cases h))
  keep := fun a ob h => Heap.get?_push_of_some _ h
  zin := fun a ob h => by
    unfold Zadd at h
    by_cases q : a = s.heap.objs.size
    · subst q; rw [if_pos rfl] at h; cases h; exact Heap.get?_push_size _ hf
    · rw [if_neg q] at h; exact Heap.get?_push_of_some _ (hz _ _ h)
  new := fun a ob h => by
    unfold Zadd at h
    by_cases q : a = s.heap.objs.size
    · subst q; exact .inr (get?_size_none _)
    · rw [if_neg q] at h; exact .inl h
  gens := rfl
  os := rfl
  tk := ht

end Mine
end
section
open PySem PySem.W PyProof.Rows
namespace Mine

/-- what a name stands for: a datum, or a list that the frame alone holds -/
inductive B where
  | val (d : D)
  | own (ds : List D)

abbrev Loc := List (Str × B)

abbrev upd (ρ : Loc) (x : Str) (b : B) : Loc := (x, b) :: ρ

theorem lookup_upd (ρ : Loc) (x z : Str) (b : B) : (upd ρ x b).lookup z = if z = x then some b else ρ.lookup z := by
  show List.lookup z ((x, b) :: ρ) = _
  rw [List.lookup_cons]
  by_cases h : z = x
  · rw [beq_iff_eq.mpr h, if_pos h]
  · rw [beq_eq_false_iff_ne.mpr h, if_neg h]

def Has (env : Env) (h : Heap) (x : Str) (v : Value) : Prop :=
  (env.kindOf x = some .local ∧ ∃ m, h.Ns env.locals m ∧ m x = some v) ∨
  ((env.kindOf x = some .cell ∨ (env.kindOf x = some .free ∧ (x == ("__classdict__" : Str)) = false)) ∧ ∃ c, env.cells.lookup x = some c ∧ h.IsCell c (some v))

theorem Has.keeps {env : Env} {h h' : Heap} {x : Str} {v : Value} (H : Has env h x v) (hk : ∀ b o, h.get? b = some o → h'.get? b = some o) : Has env h' x v := by
  rcases H with ⟨k, m, n, e⟩ | ⟨k, c, e, n⟩
  · exact .inl ⟨k, m, n.keeps hk, e⟩
  · exact .inr ⟨k, c, e, n.keeps hk⟩

theorem ns_uniq {h : Heap} {a : Addr} {m m' : Str → Option Value} (x : h.Ns a m) (y : h.Ns a m') : m = m' := by
  obtain ⟨o, es, ep, ho, hd, hk, hf⟩ := x
  obtain ⟨o', es', ep', ho', hd', hk', hf'⟩ := y
  rw [ho] at ho'; cases ho'
  rw [hd] at hd'; cases hd'
  funext n
  rw [← hf, ← hf']

/-- the state, as the frame sees it -/
structure St (G : Gnd) (env : Env) (Z H : Zf) (ρ : Loc) (s : Shared) : Prop where
  fk : env.scope.kind = .function
  gl : env.globals = mainGlobals
  bl : env.builtins = builtinsNs
  gens : s.gens = #[]
  os : s.os = G.os
  tk : G.t0 < s.toks
  zin : ∀ a o, Z a = some o → s.heap.get? a = some o
  hin : ∀ a o, H a = some o → s.heap.get? a = some o
  dj : ∀ a o, Z a = some o → H a = none
  bas : ∀ a o, G.base.get? a = some o → Z a = some o ∨ H a = some o
  ns : ∃ m, s.heap.Ns env.locals m
  lz : Z env.locals = none
  lh : H env.locals = none
  cells : ∀ x c, env.cells.lookup x = some c → c ≠ env.locals ∧ (env.func.isSome = true → Z c = none ∧ H c = none ∧ ∃ v, s.heap.IsCell c v) ∧ (env.func.isSome = false → ∃ o, H c = some o)
  inj : ∀ x y c, env.cells.lookup x = some c → env.cells.lookup y = some c → x = y
  vars : ∀ x d, ρ.lookup x = some (.val d) → ∃ v, Has env s.heap x v ∧ Rep G Z v d
  owns : ∃ oa : Str → Addr, (∀ x y ds es, ρ.lookup x = some (.own ds) → ρ.lookup y = some (.own es) → oa x = oa y → x = y) ∧
    ∀ x ds, ρ.lookup x = some (.own ds) → Has env s.heap x (.ref (oa x)) ∧ Z (oa x) = none ∧ H (oa x) = none ∧ oa x ≠ env.locals ∧ (∀ y c, env.cells.lookup y = some c → oa x ≠ c) ∧
      ∃ vs n, s.heap.get? (oa x) = some (listOf vs.toArray n) ∧ RepAll G Z vs ds

section
variable {G : Gnd} {env : Env} {Z Z' H : Zf} {ρ : Loc} {s s' : Shared}

theorem St.keepBase (S : St G env Z H ρ s) : ∀ a o, G.base.get? a = some o → s.heap.get? a = some o := fun a o h =>
  (S.bas a o h).elim (S.zin a o) (S.hin a o)
theorem St.X (S : St G env Z H ρ s) : G.K.In s.heap := fun a o h => S.keepBase a o (G.X a o h)
theorem St.T (S : St G env Z H ρ s) : TopRead G.p G.loose G.mg G.mb s.heap := G.T.keeps S.keepBase

theorem ext_none {a : Addr} (x : Ext Z s Z' s') (hz : Z a = none) (ho : ∃ o, s.heap.get? a = some o) : Z' a = none := by
  cases q : Z' a with
  | none => rfl
  | some o =>
    rcases x.new a o q with h | h
    · rw [hz] at h; cases h
    · obtain ⟨ob, e⟩ := ho; rw [h] at e; cases e

theorem St.ext (S : St G env Z H ρ s) (x : Ext Z s Z' s') : St G env Z' H ρ s' where
  fk := S.fk
  gl := S.gl
  bl := S.bl
  gens := x.gens.trans S.gens
  os := x.os.trans S.os
  tk := Nat.lt_of_lt_of_le S.tk x.tk
  zin := x.zin
  hin := fun a o h => x.keep a o (S.hin a o h)
  dj := fun a o h => by
    rcases x.new a o h with h | h
    · exact S.dj a o h
    · cases q : H a with
      | none => rfl
      | some ob => rw [S.hin a ob q] at h; cases h
  bas := fun a o h => (S.bas a o h).elim (fun h => .inl (x.le a o h)) .inr
  ns := let ⟨m, n⟩ := S.ns; ⟨m, n.keeps x.keep⟩
  lz := ext_none x S.lz (let ⟨_, o, _, _, h, _⟩ := S.ns; ⟨o, h⟩)
  lh := S.lh
  cells := fun y c e => by
    obtain ⟨hl, h⟩ := S.cells y c e
    refine ⟨hl, fun hf => ?_, h.2⟩
    obtain ⟨h1, h2, v, h3⟩ := h.1 hf
    exact ⟨ext_none x h1 (let ⟨o, ho, _⟩ := h3; ⟨o, ho⟩), h2, v, h3.keeps x.keep⟩
  inj := S.inj
  vars := fun y d e => by
    obtain ⟨v, h, r⟩ := S.vars y d e
    exact ⟨v, h.keeps x.keep, r.mono x.le⟩
  owns := by
    obtain ⟨oa, hi, h⟩ := S.owns
    refine ⟨oa, hi, fun y ds e => ?_⟩
    obtain ⟨h1, h2, h3, h4, h5, vs, n, h6, h7⟩ := h y ds e
    exact ⟨h1.keeps x.keep, ext_none x h2 ⟨_, h6⟩, h3, h4, h5, vs, n, x.keep _ _ h6, h7.mono x.le⟩

theorem St.same (S : St G env Z H ρ s) : Ext Z s Z s := Ext.same S.zin

/-- the tree t ends in the datum d, and changes nothing that stood -/
def Yields (G : Gnd) (A : Around) (t : Sem Value) (Z : Zf) (d : D) (s : Shared) : Prop :=
  wpAny (model G.prog G.w) A t (fun v s' => ∃ Z', Ext Z s Z' s' ∧ Rep G Z' v d) (fun _ _ => False) s

/-- room for n more frames -/
structure Room (n : Nat) (A : Around) : Prop where
  handled : A.handled = none
  depth : A.depth + n < recursionLimit
  units : A.units + 8 * n < cLine
  guards : A.guards = some []
theorem Room.in1 {n : Nat} {A : Around} (r : Room (n + 1) A) : Room n A.in1 := ⟨r.handled, by have := r.depth; show A.depth + n < _; omega, by have := r.units; show A.units + 1 + 8 * n < _; omega, r.guards⟩
theorem Room.deeper {n : Nat} {A : Around} {env : Env} (r : Room (n + 1) A) : Room n (A.deeper env) := ⟨r.handled, by have := r.depth; show A.depth + 1 + n < _; omega, by have := r.units; show A.units + 3 + 8 * n < _; omega, r.guards⟩
theorem Room.less {n m : Nat} {A : Around} (r : Room n A) (h : m ≤ n) : Room m A := ⟨r.handled, by have := r.depth; omega, by have := r.units; omega, r.guards⟩

/-- the expression e is the datum d where the names are ρ -/
structure Ev (G : Gnd) (env : Env) (n : Nat) (ρ : Loc) (e : PySem.Expr) (d : D) : Prop where
  run : ∀ A Z H s, Room n A → St G env Z H ρ s → Yields G A (eval e env) Z d s

/-- a test -/
structure Tst (G : Gnd) (env : Env) (n : Nat) (ρ : Loc) (e : PySem.Expr) (b : Bool) : Prop where
  run : ∀ A Z H s, Room n A → St G env Z H ρ s → wpAny (model G.prog G.w) A (isTrue e env (eval e env)) (fun b' s' => b' = b ∧ Ext Z s Z s') (fun _ _ => False) s

variable {A : Around} {E : Value → Shared → Prop} {n : Nat}

theorem wp_seq {α : Type} {M : Model} {t : Sem α} {P Q : α → Shared → Prop} (h : wpAny M A t P (fun _ _ => False) s) (hq : ∀ v s', P v s' → Q v s') : wpAny M A t Q E s :=
  wpAny_mono h hq fun _ _ x => x.elim

/-- tokens only grow -/
theorem wp_tok {α : Type} {M : Model} {t : Sem α} {Q : α → Shared → Prop} (h : wpAny M A t (fun a s' => s.toks ≤ s'.toks → Q a s') (fun _ _ => False) s) : wpAny M A t Q (fun _ _ => False) s :=
  wpAny_with_toks (Nat.le_refl _) (wpAny_mono h (fun _ _ x => x) fun _ _ x => x.elim)

/-- a name -/
theorem ev_name {x : Str} {pos : Pos} {d : D} (h : ρ.lookup x = some (.val d)) (hd : (x == ("__debug__" : Str)) = false) : Ev G env n ρ (.Name x pos) d := by
  constructor
  intro A Z H s _ S
  obtain ⟨v, hv, r⟩ := S.vars x d h
  refine wpAny_Name ?_ hd
  rcases hv with ⟨k, m, n, e⟩ | ⟨k, c, e, n⟩
  · exact wpAny_loadName_local S.fk k n e ⟨Z, S.same, r⟩
  · rcases k with k | k
    · exact wpAny_loadName_cell S.fk k e n ⟨Z, S.same, r⟩
    · exact wpAny_loadName_free S.fk k.1 e n ⟨Z, S.same, r⟩ k.2

end
end Mine
end
section
open PySem PySem.W PyProof.Rows
namespace Mine

section
variable {G : Gnd} {env : Env} {Z Z' H : Zf} {ρ ρ' : Loc} {s s' : Shared} {A : Around} {E : Value → Shared → Prop}

theorem Has.store_local {h h' : Heap} {x y : Str} {v u : Value} {m : Str → Option Value} (hn : h.Ns env.locals m) (hn' : h'.Ns env.locals (fun y => if y = x then some v else m y))
    (hs : Heap.SameBut env.locals h h') (hcl : ∀ y c, env.cells.lookup y = some c → c ≠ env.locals) (hy : y ≠ x) (q : Has env h y u) : Has env h' y u := by
  rcases q with ⟨k, m₂, n, e⟩ | ⟨k, c, e, n⟩
  · rw [ns_uniq n hn] at e
    exact .inl ⟨k, _, hn', by simpa [hy] using e⟩
  · exact .inr ⟨k, c, e, n.sameBut hs (hcl y c e)⟩

theorem Has.store_cell {h h' : Heap} {x y : Str} {u : Value} {c : Addr} (hs : Heap.SameBut c h h') (hc : env.cells.lookup x = some c)
    (inj : ∀ x y c, env.cells.lookup x = some c → env.cells.lookup y = some c → x = y) (hcl : c ≠ env.locals) (hy : y ≠ x) (q : Has env h y u) : Has env h' y u := by
  rcases q with ⟨k, m₂, n, e⟩ | ⟨k, c', e, n⟩
  · exact .inl ⟨k, m₂, n.sameBut hs (Ne.symm hcl), e⟩
  · exact .inr ⟨k, c', e, n.sameBut hs fun q => hy (inj y x c (q ▸ e) hc)⟩

/-- a change at an address that is neither frozen nor held -/
theorem St.put (S : St G env Z H ρ s) {a : Addr} {h' : Heap} {t : Nat} (ht : s.toks ≤ t) (hs : Heap.SameBut a s.heap h') (hz : Z a = none) (hh : H a = none) (hns : ∃ m, h'.Ns env.locals m)
    (hce : ∀ y c, env.cells.lookup y = some c → env.func.isSome = true → ∃ v, h'.IsCell c v)
    (hvars : ∀ y d, ρ'.lookup y = some (.val d) → ∃ v, Has env h' y v ∧ Rep G Z v d)
    (howns : ∃ oa : Str → Addr, (∀ x y ds es, ρ'.lookup x = some (.own ds) → ρ'.lookup y = some (.own es) → oa x = oa y → x = y) ∧
      ∀ x ds, ρ'.lookup x = some (.own ds) → Has env h' x (.ref (oa x)) ∧ Z (oa x) = none ∧ H (oa x) = none ∧ oa x ≠ env.locals ∧ (∀ y c, env.cells.lookup y = some c → oa x ≠ c) ∧
        ∃ vs n, h'.get? (oa x) = some (listOf vs.toArray n) ∧ RepAll G Z vs ds) :
    St G env Z H ρ' { s with heap := h', toks := t } where
  fk := S.fk
  gl := S.gl
  bl := S.bl
  gens := S.gens
  os := S.os
  tk := Nat.lt_of_lt_of_le S.tk ht
  zin := fun b o h => (hs.2 b fun q => by rw [q, hz] at h; cases h).trans (S.zin b o h)
  hin := fun b o h => (hs.2 b fun q => by rw [q, hh] at h; cases h).trans (S.hin b o h)
  dj := S.dj
  bas := S.bas
  ns := hns
  lz := S.lz
  lh := S.lh
  cells := fun y c e => by
    obtain ⟨hl, h⟩ := S.cells y c e
    refine ⟨hl, fun hf => ?_, h.2⟩
    obtain ⟨h1, h2, _⟩ := h.1 hf
    exact ⟨h1, h2, hce y c e hf⟩
  inj := S.inj
  vars := hvars
  owns := howns

/-- where a name may be stored -/
def Can (env : Env) (x : Str) : Prop := env.kindOf x = some .local ∨ (env.kindOf x = some .cell ∧ env.func.isSome = true ∧ ∃ c, env.cells.lookup x = some c)

/-- the heaps behind a store of x: all other names stand -/
theorem wp_storeName {x : Str} {v : Value} {Q : Unit → Shared → Prop} (S : St G env Z H ρ s) (hc : Can env x)
    (h : ∀ a h' t, s.toks ≤ t → Z a = none → H a = none → Heap.SameBut a s.heap h' → (∃ m, h'.Ns env.locals m) → (∀ y c, env.cells.lookup y = some c → env.func.isSome = true → ∃ v, h'.IsCell c v) →
      Has env h' x v → (∀ y u, y ≠ x → Has env s.heap y u → Has env h' y u) → (∀ b, s.heap.get? b ≠ none → b ≠ env.locals → (∀ y c, env.cells.lookup y = some c → b ≠ c) → b ≠ a) → Q () { s with heap := h', toks := t }) :
    wpAny (model G.prog G.w) A (storeName env x v) Q E s := by
  rcases hc with k | ⟨k, hf, c, e⟩
  · obtain ⟨m, hn⟩ := S.ns
    refine wpAny_storeName_local k hn (fun h' hn' hs => ?_) (by rw [S.fk]; rfl)
    refine h env.locals h' _ (Nat.le_succ _) S.lz S.lh hs ⟨_, hn'⟩ (fun y c e hf => ?_) (.inl ⟨k, _, hn', by simp⟩) (fun y u hy q => q.store_local hn hn' hs (fun y c e => (S.cells y c e).1) hy) fun b _ hb _ => hb
    obtain ⟨hl, h1, _⟩ := S.cells y c e
    obtain ⟨_, _, v', hv⟩ := h1 hf
    exact ⟨v', hv.sameBut hs hl⟩
  · obtain ⟨hl, h1, _⟩ := S.cells x c e
    obtain ⟨hz, hh, v₀, hv⟩ := h1 hf
    refine wpAny_storeName_cell S.fk k e hv fun h' hv' hs => ?_
    refine h c h' s.toks (Nat.le_refl _) hz hh hs (let ⟨m, hn⟩ := S.ns; ⟨m, hn.sameBut hs (Ne.symm hl)⟩) (fun y c' e' hf' => ?_) (.inr ⟨.inl k, c, e, hv'⟩) (fun y u hy q => q.store_cell hs e S.inj hl hy) fun b _ _ hb => hb x c e
    by_cases q : c' = c
    · subst q; exact ⟨_, hv'⟩
    · obtain ⟨_, h2, _⟩ := S.cells y c' e'
      obtain ⟨_, _, v', hv''⟩ := h2 hf'
      exact ⟨v', hv''.sameBut hs q⟩

theorem st_store {x : Str} {v : Value} {d : D} (S : St G env Z H ρ s) (r : Rep G Z v d) (hc : Can env x) :
    wpAny (model G.prog G.w) A (storeName env x v) (fun _ s' => St G env Z H (upd ρ x (.val d)) s') E s := by
  refine wp_storeName S hc fun a h' t ht hz hh hs hns hce hx hy hb => S.put ht hs hz hh hns hce ?_ ?_
  · intro y d' e
    rw [lookup_upd] at e
    by_cases q : y = x
    · subst q; rw [if_pos rfl] at e; cases e; exact ⟨v, hx, r⟩
    · rw [if_neg q] at e
      obtain ⟨u, hu, ru⟩ := S.vars y d' e
      exact ⟨u, hy y u q hu, ru⟩
  · obtain ⟨oa, hi, ho⟩ := S.owns
    have old : ∀ y ds, (upd ρ x (.val d)).lookup y = some (.own ds) → y ≠ x ∧ ρ.lookup y = some (.own ds) := fun y ds e => by
      rw [lookup_upd] at e
      by_cases q : y = x
      · rw [if_pos q] at e; cases e
      · rw [if_neg q] at e; exact ⟨q, e⟩
    refine ⟨oa, fun y z ds es ey ez => hi y z ds es (old y ds ey).2 (old z es ez).2, fun y ds e => ?_⟩
    obtain ⟨q, e⟩ := old y ds e
    obtain ⟨h1, h2, h3, h4, h5, vs, n, h6, h7⟩ := ho y ds e
    exact ⟨hy y _ q h1, h2, h3, h4, h5, vs, n, (hs.2 _ (hb _ (by rw [h6]; intro z; cases z) h4 h5)).trans h6, h7⟩

end
end Mine
end
section
open PySem PySem.W PyProof.Rows
set_option linter.unusedVariables false
namespace Mine

/-- the state, as a callee sees it -/
structure Bs (G : Gnd) (Z : Zf) (s : Shared) : Prop where
  gens : s.gens = #[]
  os : s.os = G.os
  tk : G.t0 < s.toks
  zin : ∀ a o, Z a = some o → s.heap.get? a = some o
  bas : ∀ a o, G.base.get? a = some o → s.heap.get? a = some o

section
variable {G : Gnd} {env : Env} {Z Z' H : Zf} {ρ ρ' : Loc} {s s' : Shared} {A : Around} {E : Value → Shared → Prop} {n : Nat} {pos apos : Pos}

theorem St.bs (S : St G env Z H ρ s) : Bs G Z s := ⟨S.gens, S.os, S.tk, S.zin, S.keepBase⟩
theorem Bs.ext (b : Bs G Z s) (x : Ext Z s Z' s') : Bs G Z' s' := ⟨x.gens.trans b.gens, x.os.trans b.os, Nat.lt_of_lt_of_le b.tk x.tk, x.zin, fun a o h => x.keep a o (b.bas a o h)⟩
theorem Bs.X (b : Bs G Z s) : G.K.In s.heap := fun a o h => b.bas a o (G.X a o h)
theorem Bs.T (b : Bs G Z s) : TopRead G.p G.loose G.mg G.mb s.heap := G.T.keeps b.bas
theorem Bs.nb (b : Bs G Z s) : NoneBooked s.heap := let ⟨mc, h, e⟩ := G.nb; ⟨mc, h.keeps b.bas, e⟩
theorem Bs.same (b : Bs G Z s) : Ext Z s Z s := Ext.same b.zin
theorem Bs.nolimit (b : Bs G Z s) : s.heap.NoLimit := b.T.nolimit

structure Op2 (G : Gnd) (f : Value → Value → Sem Value) (d₁ d₂ d : D) : Prop where
  run : ∀ A Z s v₁ v₂, Room 0 A → Bs G Z s → Rep G Z v₁ d₁ → Rep G Z v₂ d₂ → Yields G A (f v₁ v₂) Z d s
/-- what truth a value has -/
structure Tr (G : Gnd) (d : D) (b : Bool) : Prop where
  run : ∀ A Z s v, Room 0 A → Bs G Z s → Rep G Z v d → wpAny (model G.prog G.w) A (truthy v) (fun b' s' => b' = b ∧ Ext Z s Z s') (fun _ _ => False) s
/-- a built-in function, or a method with its object ahead -/
structure BF (G : Gnd) (id : String) (ds : List D) (d : D) : Prop where
  run : ∀ A Z s vs, Room 0 A → Bs G Z s → RepAll G Z vs ds → Yields G A (call (.builtin id) vs) Z d s
/-- a def of the text's -/
structure Fn (G : Gnd) (n : Nat) (f : Addr) (ds : List D) (d : D) : Prop where
  run : ∀ A Z s vs, Room n A → Bs G Z s → RepAll G Z vs ds → Yields G A (call (.ref f) vs) Z d s
structure GetM (G : Gnd) (name : Str) (d : D) (id : String) : Prop where
  run : ∀ M A pl Z s v Q E, (∀ a o, Z a = some o → s.heap.get? a = some o) → Rep G Z v d → Q (Value.builtin id, [v]) s → wpAny M A (getMethod v name pl) Q E s

theorem ev_int {i : Int} {k : Nat} : Ev G env n ρ (.Constant (.int i) k pos) (.int i) := Ev.mk fun _ Z _ _ _ S => wpAny_Constant_int ⟨Z, Ext.tok S.zin (Nat.le_succ _), .int _ _⟩
theorem ev_str {x : Str} {k : Nat} : Ev G env n ρ (.Constant (.str x) k pos) (.str x) := Ev.mk fun _ Z _ _ _ S => Calls.Constant_str ⟨Z, Ext.tok S.zin (Nat.le_succ _), .str _ _⟩
theorem ev_bool {b : Bool} {k : Nat} : Ev G env n ρ (.Constant (.bool b) k pos) (.bool b) := Ev.mk fun _ Z _ _ _ S => wpAny_pure ⟨Z, S.same, .bool _⟩
theorem ev_none {k : Nat} : Ev G env n ρ (.Constant .none k pos) .none := Ev.mk fun _ Z _ _ _ S => wpAny_pure ⟨Z, S.same, .none⟩

theorem ev_glob {x : Str} {a : Addr} (e : nsIn G.K mainGlobals x = some (some (.ref a))) (hx : env.kindOf x = some .globalImplicit) (hd : (x == ("__debug__" : Str)) = false) : Ev G env n ρ (.Name x pos) (.fn a) :=
  Ev.mk fun _ Z _ _ _ S => Calls.Name_function_global S.fk hx (Calls.loadGlobal_global (by rw [S.gl]; exact S.T.g) (mg_of G.X G.T.g e) ⟨Z, S.same, .fn _⟩) hd

theorem wp_builtinName {x : Str} {v : Value} {M : Model} {Q : Value → Shared → Prop} (S : St G env Z H ρ s) (e : nsIn G.K mainGlobals x = some none) (hv : bootBuiltins x = some v) (hn : x ≠ "__name__") (hx : env.kindOf x = some .globalImplicit)
    (hd : (x == ("__debug__" : Str)) = false) (h : Q v s) : wpAny M A (eval (.Name x pos) env) Q E s :=
  Calls.Name_function_global S.fk hx (Calls.loadGlobal_builtin (by rw [S.gl]; exact S.T.g) (mg_none_of G.X G.T.g e) (by rw [S.bl]; exact S.T.b) ((G.T.builtins x hn).trans hv) h) hd

theorem ev_binop {l r : PySem.Expr} {op : Operator} {d₁ d₂ d : D} (h₁ : Ev G env n ρ l d₁) (h₂ : Ev G env n ρ r d₂) (h₃ : Op2 G (binaryOp op) d₁ d₂ d) : Ev G env n ρ (.BinOp l op r pos) d :=
  Ev.mk fun A Z H s R S => wpAny_BinOp (wp_seq (h₁.run A Z H s R S) fun v₁ s₁ ⟨Z₁, x₁, r₁⟩ => wp_seq (h₂.run A Z₁ H s₁ R (S.ext x₁)) fun v₂ s₂ ⟨Z₂, x₂, r₂⟩ =>
    wp_seq (h₃.run A Z₂ s₂ v₁ v₂ (R.less (Nat.zero_le _)) ((S.ext x₁).ext x₂).bs (r₁.mono x₂.le) r₂) fun _ _ ⟨Z₃, x₃, r₃⟩ => ⟨Z₃, x₁.trans (x₂.trans x₃), r₃⟩)

theorem ev_cmp {l r : PySem.Expr} {op : CmpOp} {d₁ d₂ d : D} (h₁ : Ev G env n ρ l d₁) (h₂ : Ev G env n ρ r d₂) (h₃ : Op2 G (compareOp op) d₁ d₂ d) (hm : behindInMarks op r = false) : Ev G env n ρ (.Compare l [op] [r] pos) d :=
  Ev.mk fun A Z H s R S => wpAny_Compare1 (wp_seq (h₁.run A Z H s R S) fun v₁ s₁ ⟨Z₁, x₁, r₁⟩ => wp_seq (h₂.run A Z₁ H s₁ R (S.ext x₁)) fun v₂ s₂ ⟨Z₂, x₂, r₂⟩ =>
    wp_seq (h₃.run A Z₂ s₂ v₁ v₂ (R.less (Nat.zero_le _)) ((S.ext x₁).ext x₂).bs (r₁.mono x₂.le) r₂) fun _ _ ⟨Z₃, x₃, r₃⟩ => ⟨Z₃, x₁.trans (x₂.trans x₃), r₃⟩) hm

theorem tst_cmp {l r : PySem.Expr} {op : CmpOp} {d₁ d₂ : D} {b : Bool} (h₁ : Ev G env n ρ l d₁) (h₂ : Ev G env n ρ r d₂) (h₃ : Op2 G (compareOp op) d₁ d₂ (.bool b)) (hm : behindInMarks op r = false) : Tst G env n ρ (.Compare l [op] [r] pos) b :=
  Tst.mk fun A Z H s R S => wpAny_isTrue_Compare1 (wp_seq (h₁.run A Z H s R S) fun v₁ s₁ ⟨Z₁, x₁, r₁⟩ => wp_seq (h₂.run A Z₁ H s₁ R (S.ext x₁)) fun v₂ s₂ ⟨Z₂, x₂, r₂⟩ =>
    wp_seq (h₃.run A Z₂ s₂ v₁ v₂ (R.less (Nat.zero_le _)) ((S.ext x₁).ext x₂).bs (r₁.mono x₂.le) r₂) fun _ _ ⟨Z₃, x₃, r₃⟩ => by cases r₃; exact wpAny_truthy_bool ⟨rfl, (x₁.trans (x₂.trans x₃)).back S.zin⟩) hm

theorem tst_not {x : PySem.Expr} {b : Bool} (h : Tst G env n ρ x b) : Tst G env n ρ (.UnaryOp .Not x pos) (!b) :=
  Tst.mk fun A Z H s R S => isTrue_not (wp_seq (h.run A Z H s R S) fun _ _ ⟨e, x⟩ => ⟨by rw [e], x⟩)
theorem tst_and_nil : Tst G env n ρ (.BoolOp .And [] pos) true := Tst.mk fun _ _ _ _ _ S => isTrue_and_nil ⟨rfl, S.same⟩
theorem tst_or_nil : Tst G env n ρ (.BoolOp .Or [] pos) false := Tst.mk fun _ _ _ _ _ S => isTrue_or_nil ⟨rfl, S.same⟩
theorem tst_and {x : PySem.Expr} {rest : List PySem.Expr} {c b : Bool} (h : Tst G env n ρ x c) (h' : c = true → Tst G env n ρ (.BoolOp .And rest pos) b) : Tst G env n ρ (.BoolOp .And (x :: rest) pos) (c && b) :=
  Tst.mk fun A Z H s R S => isTrue_and (wp_seq (h.run A Z H s R S) fun c' s' ⟨e, x⟩ => by
    subst e
    cases c' with
    | false => exact ⟨rfl, x⟩
    | true => exact wp_seq ((h' rfl).run A Z H s' R (S.ext x)) fun _ _ ⟨e, y⟩ => ⟨e, x.trans y⟩)
theorem tst_or {x : PySem.Expr} {rest : List PySem.Expr} {c b : Bool} (h : Tst G env n ρ x c) (h' : c = false → Tst G env n ρ (.BoolOp .Or rest pos) b) : Tst G env n ρ (.BoolOp .Or (x :: rest) pos) (c || b) :=
  Tst.mk fun A Z H s R S => isTrue_or (wp_seq (h.run A Z H s R S) fun c' s' ⟨e, x⟩ => by
    subst e
    cases c' with
    | true => exact ⟨rfl, x⟩
    | false => exact wp_seq ((h' rfl).run A Z H s' R (S.ext x)) fun _ _ ⟨e, y⟩ => ⟨e, x.trans y⟩)
/-- a test by a value's truth -/
theorem tst_plain {e : PySem.Expr} {d : D} {b : Bool} (h : Ev G env n ρ e d) (t : Tr G d b) (he : ∀ whole, isTrue e env whole = (do let v ← whole; standAt e.pos; holding [v] (truthy v))) : Tst G env n ρ e b :=
  Tst.mk fun A Z H s R S => isTrue_plain (wp_seq (h.run A Z H s R S) fun v s₁ ⟨Z₁, x₁, r₁⟩ => wp_seq (t.run A Z₁ s₁ v (R.less (Nat.zero_le _)) (S.ext x₁).bs r₁) fun _ _ ⟨e, y⟩ => ⟨e, (x₁.trans y).back S.zin⟩) (he _)
theorem ev_ifexp {t b o : PySem.Expr} {c : Bool} {d₁ d₂ : D} (h : Tst G env n ρ t c) (h₁ : c = true → Ev G env n ρ b d₁) (h₂ : c = false → Ev G env n ρ o d₂) : Ev G env n ρ (.IfExp t b o pos) (if c then d₁ else d₂) :=
  Ev.mk fun A Z H s R S => IfExp_ (wp_seq (h.run A Z H s R S) fun c' s' ⟨e, x⟩ => by
    subst e
    cases c' with
    | true => exact wp_seq ((h₁ rfl).run A Z H s' R (S.ext x)) fun _ _ ⟨Z₁, y, r⟩ => ⟨Z₁, x.trans y, r⟩
    | false => exact wp_seq ((h₂ rfl).run A Z H s' R (S.ext x)) fun _ _ ⟨Z₁, y, r⟩ => ⟨Z₁, x.trans y, r⟩)

/-- several expressions in a row -/
structure Evs (G : Gnd) (env : Env) (n : Nat) (ρ : Loc) (es : List PySem.Expr) (ds : List D) : Prop where
  run : ∀ A Z H s pos, Room n A → St G env Z H ρ s → wpAny (model G.prog G.w) A (spliced (backTo pos (starEach es env))) (fun vs s' => ∃ Z', Ext Z s Z' s' ∧ RepAll G Z' vs ds) (fun _ _ => False) s
theorem evs_nil : Evs G env n ρ [] [] := Evs.mk fun _ Z _ _ _ _ S => spliced_none ⟨Z, S.same, .nil⟩
theorem evs_cons {e : PySem.Expr} {es : List PySem.Expr} {d : D} {ds : List D} (h : Ev G env n ρ e d) (h' : Evs G env n ρ es ds) (he : starEach (e :: es) env = (false, eval e env) :: starEach es env) : Evs G env n ρ (e :: es) (d :: ds) :=
  Evs.mk fun A Z H s pos R S => spliced_more (wp_seq (h.run A Z H s R S) fun v s₁ ⟨Z₁, x₁, r₁⟩ => wp_seq (h'.run A Z₁ H s₁ pos R (S.ext x₁)) fun vs s₂ ⟨Z₂, x₂, r₂⟩ => ⟨Z₂, x₁.trans x₂, .cons (r₁.mono x₂.le) r₂⟩) he

theorem wp_newTuple {vs : List Value} {ds : List D} (b : Bs G Z s) (r : RepAll G Z vs ds) (hsz : ds.length ≤ sizeLine) : Yields G A (newTuple vs) Z (.tup ds) s :=
  wpAny_newObj_type ⟨_, Ext.alloc b.zin rfl (Nat.le_refl _), .tup Zadd.self (r.mono (Ext.alloc (s := s) (t := s.toks) b.zin rfl (Nat.le_refl _)).le)⟩ (by show vs.toArray.size ≤ sizeLine; rw [List.size_toArray, r.length]; exact hsz)
theorem wp_newList {vs : List Value} {ds : List D} (b : Bs G Z s) (r : RepAll G Z vs ds) (hsz : ds.length ≤ sizeLine) : Yields G A (newList vs) Z (.list ds) s :=
  wpAny_newObj_type ⟨_, Ext.alloc b.zin rfl (Nat.le_refl _), .list Zadd.self (r.mono (Ext.alloc (s := s) (t := s.toks) b.zin rfl (Nat.le_refl _)).le)⟩ (by show vs.toArray.size ≤ sizeLine; rw [List.size_toArray, r.length]; exact hsz)

theorem ev_tuple {es : List PySem.Expr} {ds : List D} {k : Nat} (h : Evs G env n ρ es ds) (hsz : ds.length ≤ sizeLine) : Ev G env n ρ (.Tuple es k pos) (.tup ds) :=
  Ev.mk fun A Z H s R S => Tuple_ (wp_seq (h.run A Z H s pos R S) fun vs s₁ ⟨Z₁, x₁, r₁⟩ => wp_seq (wp_newTuple (S.ext x₁).bs r₁ hsz) fun _ _ ⟨Z₂, x₂, r₂⟩ => ⟨Z₂, x₁.trans x₂, r₂⟩)
theorem ev_list {es : List PySem.Expr} {ds : List D} (h : Evs G env n ρ es ds) (hsz : ds.length ≤ sizeLine) : Ev G env n ρ (.List es pos) (.list ds) :=
  Ev.mk fun A Z H s R S => List_ (wp_seq (h.run A Z H s pos R S) fun vs s₁ ⟨Z₁, x₁, r₁⟩ => wp_seq (wp_newList (S.ext x₁).bs r₁ hsz) fun _ _ ⟨Z₂, x₂, r₂⟩ => ⟨Z₂, x₁.trans x₂, r₂⟩)

theorem starred_none {es : List PySem.Expr} (h : (starEach es env).any (·.1) = false) (pos : Pos) : (backTo pos (starEach es env)).any (·.1) = false := by
  unfold backTo
  rw [List.any_map]
  exact h

theorem wp_evalArgs {M : Model} {f : Value} {args : List (Bool × Sem Value)} {Q : Args → Shared → Prop} (hp : args.any (·.1) = false)
    (h : wpAny M A (spliced args) (fun vs s₁ => Q ⟨vs, []⟩ s₁) E s) : wpAny M A (evalArgs f true args []) Q E s := by
  match args, hp, h with
  | [], _, h =>
    unfold evalArgs
    show wpAny M A (spliced [] >>= _) Q E s
    refine wpAny_bind (wpAny_mono h (fun vs s' h' => ?_) fun _ _ x => x)
    refine wpAny_bind (wpAny_pure (wpAny_holding ?_))
    exact wpAny_bind (wpAny_pure (wpAny_bind (wpAny_pure (wpAny_pure h'))))
  | (false, t) :: r, _, h => exact Calls.evalArgs_plain h
  | (true, t) :: r, hp, _ => simp at hp

/-- a call of one of the text's defs, by whatever expression it is reached -/
theorem ev_callFn {f : PySem.Expr} {es : List PySem.Expr} {a : Addr} {ds : List D} {d : D} (hf : Ev G env n ρ f (.fn a)) (h : Evs G env n ρ es ds) (hk : keepIn G.K (.ref a) = true) (hc : Fn G n a ds d)
    (hp : (starEach es env).any (·.1) = false)
    (he : eval (.Call f es [] pos) env = (do callWith pos (← eval f env) [] (backTo pos (starEach es env)) [])) : Ev G env n ρ (.Call f es [] pos) d := by
  constructor
  intro A Z H s R S
  unfold Yields
  rw [he]
  refine wpAny_bind (wp_seq (hf.run A Z H s R S) fun v s₁ ⟨Z₁, x₁, r₁⟩ => ?_)
  cases r₁
  have S₁ := S.ext x₁
  refine callWith_of (P := fun h => G.K.In h) (by rw [starred_none hp]; rfl) (keeps_K hk) (wp_evalArgs (starred_none hp pos) (wp_seq (h.run A Z₁ H s₁ pos R S₁) fun vs s₂ ⟨Z₂, x₂, r₂⟩ => ⟨(S₁.ext x₂).X, ?_⟩))
  exact wp_seq (hc.run A Z₂ s₂ vs R (S₁.ext x₂).bs r₂) fun _ _ ⟨Z₃, x₃, r₃⟩ => ⟨Z₃, x₁.trans (x₂.trans x₃), r₃⟩

/-- a call of a built-in function by its name -/
theorem ev_callBF {x : Str} {p : Pos} {id : String} {es : List PySem.Expr} {ds : List D} {d : D} (h : Evs G env n ρ es ds) (hc : BF G id ds d)
    (e : nsIn G.K mainGlobals x = some none) (hv : bootBuiltins x = some (.builtin id)) (hn : x ≠ "__name__") (hx : env.kindOf x = some .globalImplicit) (hd : (x == ("__debug__" : Str)) = false)
    (hp : (starEach es env).any (·.1) = false)
    (he : eval (.Call (.Name x p) es [] pos) env = (do callWith pos (← eval (.Name x p) env) [] (backTo pos (starEach es env)) [])) : Ev G env n ρ (.Call (.Name x p) es [] pos) d := by
  constructor
  intro A Z H s R S
  unfold Yields
  rw [he]
  refine wpAny_bind (wp_builtinName S e hv hn hx hd ?_)
  refine Calls.callWith_builtin (starred_none hp pos) (wp_evalArgs (starred_none hp pos) (wp_seq (h.run A Z H s pos R S) fun vs s₂ ⟨Z₂, x₂, r₂⟩ => ?_))
  exact wp_seq (hc.run A Z₂ s₂ vs (R.less (Nat.zero_le _)) (S.ext x₂).bs r₂) fun _ _ ⟨Z₃, x₃, r₃⟩ => ⟨Z₃, x₂.trans x₃, r₃⟩

/-- a call of a method of a built-in class -/
theorem ev_method {o : PySem.Expr} {name : Str} {id : String} {es : List PySem.Expr} {d₀ : D} {ds : List D} {d : D} {pl : Sem Bool} (ho : Ev G env n ρ o d₀) (g : GetM G name d₀ id) (h : Evs G env n ρ es ds) (hc : BF G id (d₀ :: ds) d)
    (hp : (starEach es env).any (·.1) = false)
    (he : eval (.Call (.Attribute o name apos) es [] pos) env = (do
      let ov ← eval o env
      standAt apos.atName
      let (f, first) ← holding [ov] (getMethod ov name pl)
      callWith pos f first (backTo pos (starEach es env)) [])) : Ev G env n ρ (.Call (.Attribute o name apos) es [] pos) d := by
  constructor
  intro A Z H s R S
  refine MethodCall_ (wp_seq (ho.run A Z H s R S) fun v s₁ ⟨Z₁, x₁, r₁⟩ => ?_) he
  have S₁ := S.ext x₁
  refine g.run _ A pl Z₁ s₁ v _ _ S₁.zin r₁ ?_
  refine Calls.callWith_builtin (starred_none hp pos) (wp_evalArgs (starred_none hp pos) (wp_seq (h.run A Z₁ H s₁ pos R S₁) fun vs s₂ ⟨Z₂, x₂, r₂⟩ => ?_))
  exact wp_seq (hc.run A Z₂ s₂ (v :: vs) (R.less (Nat.zero_le _)) (S₁.ext x₂).bs (.cons (r₁.mono x₂.le) r₂)) fun _ _ ⟨Z₃, x₃, r₃⟩ => ⟨Z₃, x₁.trans (x₂.trans x₃), r₃⟩

/-- an item -/
def Sb (G : Gnd) (value slice : PySem.Expr) (d₁ d₂ d : D) : Prop := Op2 G (subscriptTail value slice) d₁ d₂ d
theorem ev_sub {value slice : PySem.Expr} {d₁ d₂ d : D} (h₁ : Ev G env n ρ value d₁) (h₂ : Ev G env n ρ slice d₂) (h₃ : Sb G value slice d₁ d₂ d) : Ev G env n ρ (.Subscript value slice pos) d :=
  Ev.mk fun A Z H s R S => Subscript_ (wp_seq (h₁.run A Z H s R S) fun v₁ s₁ ⟨Z₁, x₁, r₁⟩ => wp_seq (h₂.run A Z₁ H s₁ R (S.ext x₁)) fun v₂ s₂ ⟨Z₂, x₂, r₂⟩ =>
    wp_seq (h₃.run A Z₂ s₂ v₁ v₂ (R.less (Nat.zero_le _)) ((S.ext x₁).ext x₂).bs (r₁.mono x₂.le) r₂) fun _ _ ⟨Z₃, x₃, r₃⟩ => ⟨Z₃, x₁.trans (x₂.trans x₃), r₃⟩)

end
end Mine
end
section
open PySem PySem.W PyProof.Rows
set_option linter.unusedVariables false
namespace Mine

section
variable {G : Gnd} {env : Env} {Z Z' H : Zf} {ρ ρ' : Loc} {s s' : Shared} {A : Around} {E : Value → Shared → Prop} {n : Nat} {pos apos : Pos}

/-- how a block ends -/
inductive Fl where
  | next | brk | cont
  | ret (d : D)

inductive FlRep (G : Gnd) (Z : Zf) : Flow → Fl → Prop
  | next : FlRep G Z .next .next
  | brk : FlRep G Z .brk .brk
  | cont : FlRep G Z .cont .cont
  | ret {v : Value} {d : D} : Rep G Z v d → FlRep G Z (.ret v) (.ret d)
theorem FlRep.mono {f : Flow} {fl : Fl} (hz : Zle Z Z') (h : FlRep G Z f fl) : FlRep G Z' f fl := by
  cases h with
  | next => exact .next
  | brk => exact .brk
  | cont => exact .cont
  | ret r => exact .ret (r.mono hz)

def ExPost (G : Gnd) (env : Env) (Z H : Zf) (Φ : Fl → Loc → Prop) (f : Flow) (s' : Shared) : Prop := ∃ Z' ρ' fl, Zle Z Z' ∧ St G env Z' H ρ' s' ∧ FlRep G Z' f fl ∧ Φ fl ρ'
/-- a statement -/
structure Ex (G : Gnd) (env : Env) (n : Nat) (ρ : Loc) (st : Stmt) (Φ : Fl → Loc → Prop) : Prop where
  run : ∀ A Z H s, Room n A → St G env Z H ρ s → wpAny (model G.prog G.w) A (exec st env) (ExPost G env Z H Φ) (fun _ _ => False) s
/-- statements in a row -/
structure Exs (G : Gnd) (env : Env) (n : Nat) (ρ : Loc) (sts : List Stmt) (Φ : Fl → Loc → Prop) : Prop where
  run : ∀ A Z H s, Room n A → St G env Z H ρ s → wpAny (model G.prog G.w) A (execs sts env) (ExPost G env Z H Φ) (fun _ _ => False) s

def Then (Φ : Fl → Loc → Prop) (K : Loc → Prop) : Fl → Loc → Prop
  | .next, ρ => K ρ
  | fl, ρ => Φ fl ρ

theorem exs_nil {Φ : Fl → Loc → Prop} (h : Φ .next ρ) : Exs G env n ρ [] Φ := Exs.mk fun A Z H s _ S => wpAny_execs_nil ⟨Z, ρ, .next, Zle.same, S, .next, h⟩
theorem exs_cons {st : Stmt} {rest : List Stmt} {Φ : Fl → Loc → Prop} (h : Ex G env n ρ st (Then Φ fun ρ' => Exs G env n ρ' rest Φ)) : Exs G env n ρ (st :: rest) Φ := by
  constructor
  intro A Z H s R S
  refine wpAny_execs_cons (wp_seq (h.run A Z H s R S) fun f s' ⟨Z', ρ', fl, le, S', hf, hΦ⟩ => ?_)
  cases hf with
  | next => exact wp_seq (hΦ.run A Z' H s' R S') fun f s'' ⟨Z'', ρ'', fl, le', S'', hf, h⟩ => ⟨Z'', ρ'', fl, le.trans le', S'', hf, h⟩
  | brk => exact ⟨Z', ρ', _, le, S', .brk, hΦ⟩
  | cont => exact ⟨Z', ρ', _, le, S', .cont, hΦ⟩
  | ret r => exact ⟨Z', ρ', _, le, S', .ret r, hΦ⟩
theorem exs_mono {sts : List Stmt} {Φ Ψ : Fl → Loc → Prop} (h : Exs G env n ρ sts Φ) (hΦ : ∀ fl ρ', Φ fl ρ' → Ψ fl ρ') : Exs G env n ρ sts Ψ :=
  Exs.mk fun A Z H s R S => wp_seq (h.run A Z H s R S) fun _ _ ⟨Z', ρ', fl, le, S', hf, h⟩ => ⟨Z', ρ', fl, le, S', hf, hΦ _ _ h⟩
theorem ex_assign {x : Str} {p : Pos} {e : PySem.Expr} {d : D} {Φ : Fl → Loc → Prop} (h : Ev G env n ρ e d) (hc : Can env x) (hs : swapsWith e (some (.Name x p)) pos.line env = pure false) (k : Φ .next (upd ρ x (.val d))) :
    Ex G env n ρ (.Assign [.Name x p] e pos) Φ :=
  Ex.mk fun A Z H s R S => wpAny_Assign_Name (wp_seq (h.run A Z H s R S) fun v s₁ ⟨Z₁, x₁, r₁⟩ => wp_seq (st_store (S.ext x₁) r₁ hc) fun _ s₂ S₂ => ⟨Z₁, _, _, x₁.le, S₂, .next, k⟩) hs

theorem ex_return {e : PySem.Expr} {d : D} {Φ : Fl → Loc → Prop} (h : Ev G env n ρ e d) (k : Φ (.ret d) ρ) : Ex G env n ρ (.Return (some e) pos) Φ :=
  Ex.mk fun A Z H s R S => wpAny_Return_some (wp_seq (h.run A Z H s R S) fun v s₁ ⟨Z₁, x₁, r₁⟩ => ⟨Z₁, _, _, x₁.le, S.ext x₁, .ret r₁, k⟩)
theorem ex_if {t : PySem.Expr} {body orelse : List Stmt} {c : Bool} {Φ : Fl → Loc → Prop} (h : Tst G env n ρ t c) (h₁ : c = true → Exs G env n ρ body Φ) (h₂ : c = false → Exs G env n ρ orelse Φ) : Ex G env n ρ (.If t body orelse pos) Φ :=
  Ex.mk fun A Z H s R S => wpAny_If (wp_seq (h.run A Z H s R S) fun c' s' ⟨e, x⟩ => by
    subst e
    cases c' with
    | true => exact (h₁ rfl).run A Z H s' R (S.ext x)
    | false => exact (h₂ rfl).run A Z H s' R (S.ext x))

/-- x op= e -/
theorem ex_aug {x : Str} {p : Pos} {op : Operator} {e : PySem.Expr} {d₀ d₁ d : D} {Φ : Fl → Loc → Prop} (h₀ : ρ.lookup x = some (.val d₀)) (h : Ev G env n ρ e d₁) (ho : Op2 G (inplaceOp op) d₀ d₁ d) (hc : Can env x) (k : Φ .next (upd ρ x (.val d))) :
    Ex G env n ρ (.AugAssign (.Name x p) op e pos) Φ := by
  constructor
  intro A Z H s R S
  refine wpAny_AugAssign_Name ?_
  obtain ⟨v, hv, r⟩ := S.vars x d₀ h₀
  have go : wpAny (model G.prog G.w) A (eval e env) (fun v₁ s₂ => wpAny (model G.prog G.w) A (inplaceOp op v v₁) (fun r s₃ => wpAny (model G.prog G.w) A (storeName env x r) (fun _ => ExPost G env Z H Φ .next) (fun _ _ => False) s₃) (fun _ _ => False) s₂) (fun _ _ => False) s :=
    wp_seq (h.run A Z H s R S) fun v₁ s₂ ⟨Z₁, x₁, r₁⟩ => wp_seq (ho.run A Z₁ s₂ v v₁ (R.less (Nat.zero_le _)) (S.ext x₁).bs (r.mono x₁.le) r₁) fun v₂ s₃ ⟨Z₂, x₂, r₂⟩ =>
      wp_seq (st_store ((S.ext x₁).ext x₂) r₂ hc) fun _ s₄ S₄ => ⟨Z₂, _, _, x₁.le.trans x₂.le, S₄, .next, k⟩
  rcases hv with ⟨k, m, n, e⟩ | ⟨k, c, e, n⟩
  · exact wpAny_loadName_local S.fk k n e go
  · rcases k with k | k
    · exact wpAny_loadName_cell S.fk k e n go
    · exact wpAny_loadName_free S.fk k.1 e n go k.2

/-- an object more is held -/
theorem St.hold {I : Addr} {o : Obj} (S : St G env Z H ρ s) (x : Ext Z s Z s') (hI : s.heap.get? I = none) (ho : s'.heap.get? I = some o) :
    St G env Z (Zadd H I o) ρ s' ∧ G.base.get? I = none ∧ H I = none ∧ Z I = none ∧ ∀ y c, env.cells.lookup y = some c → c ≠ I := by
  have S' := S.ext x
  have old : ∀ a ob, s.heap.get? a = some ob → a ≠ I := fun a ob h q => by rw [q, hI] at h; cases h
  have hH : H I = none := by
    cases q : H I with
    | none => rfl
    | some ob => exact absurd rfl (old I ob (S.hin I ob q))
  have hZ : Z I = none := by
    cases q : Z I with
    | none => rfl
    | some ob => exact absurd rfl (old I ob (S.zin I ob q))
  have hB : G.base.get? I = none := by
    cases q : G.base.get? I with
    | none => rfl
    | some ob => exact absurd rfl (old I ob (S.keepBase I ob q))
  have hC : ∀ y c, env.cells.lookup y = some c → c ≠ I := fun y c e => by
    obtain ⟨_, h1, h2⟩ := S.cells y c e
    cases hf : env.func.isSome with
    | true => obtain ⟨_, _, v, ob, hob, _⟩ := h1 hf; exact old c ob hob
    | false => obtain ⟨ob, hob⟩ := h2 hf; exact old c ob (S.hin c ob hob)
  have le := Zadd.le (o := o) hH
  have ne : ∀ b, b ≠ I → Zadd H I o b = H b := fun b hb => if_neg hb
  obtain ⟨oL, _, _, hoL, _⟩ := S.ns.choose_spec
  refine ⟨⟨S'.fk, S'.gl, S'.bl, S'.gens, S'.os, S'.tk, S'.zin, fun a ob h => ?_, fun a ob h => ?_, fun a ob h => (S'.bas a ob h).elim .inl (fun h => .inr (le _ _ h)), S'.ns, S'.lz, ?_, fun y c e => ?_, S'.inj, S'.vars, ?_⟩, hB, hH, hZ, hC⟩
  · by_cases q : a = I
    · subst q; rw [Zadd.self] at h; cases h; exact ho
    · rw [ne a q] at h; exact S'.hin a ob h
  · rw [ne a fun q => by rw [q, hZ] at h; cases h]; exact S'.dj a ob h
  · rw [ne _ (old _ _ hoL)]; exact S'.lh
  · obtain ⟨h0, h1, h2⟩ := S'.cells y c e
    refine ⟨h0, fun hf => ?_, fun hf => ?_⟩
    · obtain ⟨a, b, c'⟩ := h1 hf
      exact ⟨a, by rw [ne _ (hC y c e)]; exact b, c'⟩
    · obtain ⟨ob, h⟩ := h2 hf
      exact ⟨ob, le _ _ h⟩
  · obtain ⟨oa, hi, h⟩ := S.owns
    obtain ⟨oa', hi', h'⟩ := S'.owns
    refine ⟨oa, hi, fun y ds e => ?_⟩
    obtain ⟨g1, g2, g3, g4, g5, vs, k, g6, g7⟩ := h y ds e
    exact ⟨g1.keeps x.keep, g2, by rw [ne _ (old _ _ g6)]; exact g3, g4, g5, vs, k, x.keep _ _ g6, g7⟩

/-- a held object is changed -/
theorem St.turn {I : Addr} {o o' : Obj} {h' : Heap} {t : Nat} (S : St G env Z (Zadd H I o) ρ s) (hB : G.base.get? I = none) (hC : ∀ y c, env.cells.lookup y = some c → c ≠ I)
    (hk : ∀ b ob, b ≠ I → s.heap.get? b = some ob → h'.get? b = some ob) (ho : h'.get? I = some o') (ht : s.toks ≤ t) : St G env Z (Zadd H I o') ρ { s with heap := h', toks := t } := by
  have self : Zadd H I o I = some o := Zadd.self
  have ne : ∀ b, b ≠ I → Zadd H I o' b = Zadd H I o b := fun b hb => by unfold Zadd; rw [if_neg hb, if_neg hb]
  have zI : ∀ a ob, Z a = some ob → a ≠ I := fun a ob h q => by have := S.dj a ob h; rw [q, self] at this; cases this
  have nI : ∀ a, Zadd H I o a = none → a ≠ I := fun a h q => by rw [q, self] at h; cases h
  have lI := nI _ S.lh
  have has : ∀ y v, Has env s.heap y v → Has env h' y v := fun y v q => by
    rcases q with ⟨k, m, ⟨ob, es, ep, e1, e2⟩, e⟩ | ⟨k, c, e, ob, e1, e2⟩
    · exact .inl ⟨k, m, ⟨ob, es, ep, hk _ _ lI e1, e2⟩, e⟩
    · exact .inr ⟨k, c, e, ob, hk _ _ (hC y c e) e1, e2⟩
  refine ⟨S.fk, S.gl, S.bl, S.gens, S.os, Nat.lt_of_lt_of_le S.tk ht, fun a ob h => hk _ _ (zI a ob h) (S.zin a ob h), fun a ob h => ?_, fun a ob h => ?_, fun a ob h => ?_, ?_, S.lz, ?_, fun y c e => ?_, S.inj, fun y d e => ?_, ?_⟩
  · by_cases q : a = I
    · subst q; rw [Zadd.self] at h; cases h; exact ho
    · rw [ne a q] at h; exact hk _ _ q (S.hin a ob h)
  · rw [ne a (zI a ob h)]; exact S.dj a ob h
  · refine (S.bas a ob h).elim .inl fun q => .inr ?_
    rw [ne a fun z => by rw [z, hB] at h; cases h]; exact q
  · obtain ⟨m, ob, es, ep, e1, e2⟩ := S.ns; exact ⟨m, ob, es, ep, hk _ _ lI e1, e2⟩
  · rw [ne _ lI]; exact S.lh
  · obtain ⟨h0, h1, h2⟩ := S.cells y c e
    refine ⟨h0, fun hf => ?_, fun hf => ?_⟩
    · obtain ⟨a, b, v, ob, e1, e2⟩ := h1 hf
      exact ⟨a, by rw [ne _ (hC y c e)]; exact b, v, ob, hk _ _ (hC y c e) e1, e2⟩
    · obtain ⟨ob, h⟩ := h2 hf
      exact ⟨ob, by rw [ne _ (hC y c e)]; exact h⟩
  · obtain ⟨v, h, r⟩ := S.vars y d e; exact ⟨v, has y v h, r⟩
  · obtain ⟨oa, hi, h⟩ := S.owns
    refine ⟨oa, hi, fun y ds e => ?_⟩
    obtain ⟨g1, g2, g3, g4, g5, vs, k, g6, g7⟩ := h y ds e
    exact ⟨has _ _ g1, g2, by rw [ne _ (nI _ g3)]; exact g3, g4, g5, vs, k, hk _ _ (nI _ g3) g6, g7⟩

/-- it is held no more -/
theorem St.unhold {I : Addr} {o : Obj} (S : St G env Z (Zadd H I o) ρ s) (hB : G.base.get? I = none) (hC : ∀ y c, env.cells.lookup y = some c → c ≠ I) (hH : H I = none) : St G env Z H ρ s := by
  have self : Zadd H I o I = some o := Zadd.self
  have le := Zadd.le (o := o) hH
  have ne : ∀ b, b ≠ I → Zadd H I o b = H b := fun b hb => if_neg hb
  have none_of : ∀ a, Zadd H I o a = none → H a = none := fun a h => by
    cases q : H a with
    | none => rfl
    | some ob => rw [le _ _ q] at h; cases h
  refine ⟨S.fk, S.gl, S.bl, S.gens, S.os, S.tk, S.zin, fun a ob h => S.hin a ob (le _ _ h), fun a ob h => none_of a (S.dj a ob h), fun a ob h => ?_, S.ns, S.lz, none_of _ S.lh, fun y c e => ?_, S.inj, S.vars, ?_⟩
  · refine (S.bas a ob h).elim .inl fun q => .inr ?_
    rwa [ne a fun z => by rw [z, hB] at h; cases h] at q
  · obtain ⟨h0, h1, h2⟩ := S.cells y c e
    refine ⟨h0, fun hf => ?_, fun hf => ?_⟩
    · obtain ⟨a, b, v⟩ := h1 hf
      exact ⟨a, none_of _ b, v⟩
    · obtain ⟨ob, h⟩ := h2 hf
      rw [ne _ (hC y c e)] at h
      exact ⟨ob, h⟩
  · obtain ⟨oa, hi, h⟩ := S.owns
    refine ⟨oa, hi, fun y ds e => ?_⟩
    obtain ⟨g1, g2, g3, g4⟩ := h y ds e
    exact ⟨g1, g2, none_of _ g3, g4⟩

/-- a held object is let go, whatever becomes of it -/
theorem St.drop {I : Addr} {o : Obj} {h' : Heap} {t : Nat} (S : St G env Z (Zadd H I o) ρ s) (hB : G.base.get? I = none) (hC : ∀ y c, env.cells.lookup y = some c → c ≠ I) (hH : H I = none)
    (hk : ∀ b ob, b ≠ I → s.heap.get? b = some ob → h'.get? b = some ob) (ht : s.toks ≤ t) : St G env Z H ρ { s with heap := h', toks := t } := by
  have self : Zadd H I o I = some o := Zadd.self
  have le := Zadd.le (o := o) hH
  have ne : ∀ b, b ≠ I → Zadd H I o b = H b := fun b hb => if_neg hb
  have none_of : ∀ a, Zadd H I o a = none → H a = none := fun a h => by
    cases q : H a with
    | none => rfl
    | some ob => rw [le _ _ q] at h; cases h
  have zI : ∀ a ob, Z a = some ob → a ≠ I := fun a ob h q => by have := S.dj a ob h; rw [q, self] at this; cases this
  have nI : ∀ a, Zadd H I o a = none → a ≠ I := fun a h q => by rw [q, self] at h; cases h
  have hI : ∀ a ob, H a = some ob → a ≠ I := fun a ob h q => by rw [q, hH] at h; cases h
  have lI := nI _ S.lh
  have has : ∀ y v, Has env s.heap y v → Has env h' y v := fun y v q => by
    rcases q with ⟨k, m, ⟨ob, es, ep, e1, e2⟩, e⟩ | ⟨k, c, e, ob, e1, e2⟩
    · exact .inl ⟨k, m, ⟨ob, es, ep, hk _ _ lI e1, e2⟩, e⟩
    · exact .inr ⟨k, c, e, ob, hk _ _ (hC y c e) e1, e2⟩
  refine ⟨S.fk, S.gl, S.bl, S.gens, S.os, Nat.lt_of_lt_of_le S.tk ht, fun a ob h => hk _ _ (zI a ob h) (S.zin a ob h), fun a ob h => hk _ _ (hI a ob h) (S.hin a ob (le _ _ h)), fun a ob h => none_of a (S.dj a ob h), fun a ob h => ?_, ?_, S.lz, none_of _ S.lh, fun y c e => ?_, S.inj, fun y d e => ?_, ?_⟩
  · refine (S.bas a ob h).elim .inl fun q => .inr ?_
    rwa [ne a fun z => by rw [z, hB] at h; cases h] at q
  · obtain ⟨m, ob, es, ep, e1, e2⟩ := S.ns; exact ⟨m, ob, es, ep, hk _ _ lI e1, e2⟩
  · obtain ⟨h0, h1, h2⟩ := S.cells y c e
    refine ⟨h0, fun hf => ?_, fun hf => ?_⟩
    · obtain ⟨a, b, v, ob, e1, e2⟩ := h1 hf
      exact ⟨a, none_of _ b, v, ob, hk _ _ (hC y c e) e1, e2⟩
    · obtain ⟨ob, h⟩ := h2 hf
      rw [ne _ (hC y c e)] at h
      exact ⟨ob, h⟩
  · obtain ⟨v, h, r⟩ := S.vars y d e; exact ⟨v, has y v h, r⟩
  · obtain ⟨oa, hi, h⟩ := S.owns
    refine ⟨oa, hi, fun y ds e => ?_⟩
    obtain ⟨g1, g2, g3, g4, g5, vs, k, g6, g7⟩ := h y ds e
    exact ⟨has _ _ g1, g2, none_of _ g3, g4, g5, vs, k, hk _ _ (nI _ g3) g6, g7⟩

end
end Mine
end
section
open PySem PySem.W PyProof.Rows
set_option linter.unusedVariables false
namespace Mine

section
variable {G : Gnd} {env : Env} {Z Z' H : Zf} {ρ ρ' : Loc} {s s' : Shared} {A : Around} {E : Value → Shared → Prop} {n : Nat} {pos apos : Pos}

def ownsTuples (T : String) : Bool := ["enumerate", "zip", "dict_itemiterator", "dict_reverseitemiterator", "odict_iterator", "itertools.zip_longest", "itertools.pairwise"].contains T

/-- an iterator's turns, at times when the counter is behind G.t0 -/
structure WalksG (G : Gnd) (A : Around) (I : Addr) (fp wr : List Addr) (n : Nat) (P : Nat → Value → Prop) (St : Nat → Heap → Prop) : Prop where
  sub : ∀ b ∈ wr, b ∈ fp
  frame : ∀ i h h', St i h → (∀ b ∈ fp, ∀ o, h.get? b = some o → h'.get? b = some o) → St i h'
  item : ∀ i (s : Shared) (Q : Option Value → Shared → Prop) (E : Value → Shared → Prop), i < n → G.t0 < s.toks → St i s.heap →
    (∀ v h' tk, P i v → St (i + 1) h' → (∀ b o, b ∉ wr → s.heap.get? b = some o → h'.get? b = some o) → Q (some v) { s with heap := h', toks := tk }) → wpAny (model G.prog G.w) A (pyNext (.ref I)) Q E s
  done : ∀ (s : Shared) (Q : Option Value → Shared → Prop) (E : Value → Shared → Prop), St n s.heap →
    (∀ h' tk, (∀ b o, b ∉ wr → s.heap.get? b = some o → h'.get? b = some o) → Q none { s with heap := h', toks := tk }) → wpAny (model G.prog G.w) A (pyNext (.ref I)) Q E s
  self : ∀ i (s : Shared) (Q : Value → Shared → Prop) (E : Value → Shared → Prop), St i s.heap → Q (.ref I) s → wpAny (model G.prog G.w) A (pyIter (.ref I)) Q E s
theorem toWG {I : Addr} {fp wr : List Addr} {n : Nat} {P : Nat → Value → Prop} {St : Nat → Heap → Prop} (W : Walks G.prog G.w A I fp wr n P St) : WalksG G A I fp wr n P St :=
  ⟨W.sub, W.frame, fun i s Q E hi _ st h => W.item i s Q E hi st h, W.done, W.self⟩

/-- an iterator that is new, and the data that it will give -/
def ItrAt (G : Gnd) (Z : Zf) (ds : List D) (s s' : Shared) (it : Value) : Prop :=
  ∃ (I : Addr) (fp : List Addr) (P : Nat → Value → Prop) (W : Nat → Heap → Prop), it = .ref I ∧ Ext Z s Z s' ∧ s.heap.get? I = none ∧ (∀ A' : Around, A'.handled = none → WalksG G A' I fp [I] ds.length P W) ∧
    (∀ b ∈ fp, b = I ∨ ∃ o, Z b = some o) ∧ W 0 s'.heap ∧ (∀ i h, W i h → ∃ o T, h.get? I = some o ∧ o.cls = .type T ∧ ownsTuples T = false) ∧ (∀ i v, P i v → ∃ d, ds[i]? = some d ∧ Rep G Z v d)
structure Itr (G : Gnd) (d : D) (ds : List D) : Prop where
  run : ∀ A Z s v, Room 0 A → Bs G Z s → Rep G Z v d → wpAny (model G.prog G.w) A (pyIter v) (fun it s' => ItrAt G Z ds s s' it) (fun _ _ => False) s

/-- a target takes a datum -/
structure Asg (G : Gnd) (env : Env) (tgt : PySem.Expr) (d : D) (ρ ρ' : Loc) : Prop where
  run : ∀ A Z H s v, Room 0 A → St G env Z H ρ s → Rep G Z v d → wpAny (model G.prog G.w) A (assign tgt env v) (fun _ s' => ∃ Z', Zle Z Z' ∧ St G env Z' H ρ' s') (fun _ _ => False) s
theorem asg_name {x : Str} {p : Pos} {d : D} (hc : Can env x) : Asg G env (.Name x p) d ρ (upd ρ x (.val d)) :=
  Asg.mk fun A Z H s v R S r => wpAny_assign_Name (wp_seq (st_store S r hc) fun _ _ S' => ⟨Z, Zle.same, S'⟩)

theorem wp_letOwned {tgt : PySem.Expr} {I : Addr} {v : Value} {o : Obj} {T : String} {M : Model} {Q : Unit → Shared → Prop} (ho : s.heap.get? I = some o) (hc : o.cls = .type T) (hT : ownsTuples T = false) (h : Q () s) :
    wpAny M A (letOwnedTupleGo tgt (.ref I) v) Q E s := by
  have go : wpAny M A (match (Value.ref I, v) with
    | (.ref r, .ref a) => do
      let o ← load r
      match o.cls, o.data with
      | .type n, .fields vs =>
        if ["enumerate", "zip", "dict_itemiterator", "dict_reverseitemiterator", "odict_iterator", "itertools.zip_longest", "itertools.pairwise"].contains n && vs[0]? == some (rawInt a) then
          rule "for.unpacks-the-owned-tuple"
          updateField r 0 .none
      | _, _ => pure ()
    | _ => pure ()) Q E s := by
    cases v with
    | ref a =>
      refine wpAny_bind (wpAny_load ho ?_)
      rw [hc]
      cases o.data <;> first | exact wpAny_pure h | skip
      rename_i vs
      unfold ownsTuples at hT
      dsimp only
      rw [hT]
      exact wpAny_pure h
    | _ => exact wpAny_pure h
  unfold letOwnedTupleGo
  cases tgt <;> first | exact wpAny_pure h | exact go

def LoopPost (Φ : Fl → Loc → Prop) (K : Loc → Prop) : Fl → Loc → Prop
  | .next, ρ => K ρ
  | .cont, ρ => K ρ
  | .brk, ρ => Φ .next ρ
  | .ret d, ρ => Φ (.ret d) ρ

theorem ex_for {tgt iter : PySem.Expr} {body : List Stmt} {d : D} {ds : List D} {Φ : Fl → Loc → Prop} (P : Nat → Loc → Prop) (h : Ev G env n ρ iter d) (hi : Itr G d ds) (h0 : P 0 ρ)
    (turn : ∀ i d ρ', ds[i]? = some d → P i ρ' → ∃ ρ'', Asg G env tgt d ρ' ρ'' ∧ Exs G env n ρ'' body (LoopPost Φ (P (i + 1))))
    (done : ∀ ρ', P ds.length ρ' → Φ .next ρ') (hs : ∀ x, foldedSetIterable iter env x = pure x) : Ex G env n ρ (.For tgt iter body [] pos) Φ := by
  constructor
  intro A Z H s R S
  refine wpAny_For (wp_seq (h.run A Z H s R S) fun v s₁ ⟨Z₁, x₁, r₁⟩ => wp_seq (hi.run A Z₁ s₁ v (R.less (Nat.zero_le _)) (S.ext x₁).bs r₁) fun it s₂ ⟨I, fp, P', W, e, x₂, hI, hW, hfp, hW0, hcls, hP⟩ => ?_) hs
  subst e
  have W₀ := hW A R.handled
  obtain ⟨o₂, _, ho₂, _⟩ := hcls 0 _ hW0
  obtain ⟨S₂, hB, hH, hZ, hC⟩ := (S.ext x₁).hold x₂ hI ho₂
  refine codeAny_forLoop_any (fun m s => ∃ i Zc ρc o, m = ds.length - i ∧ i ≤ ds.length ∧ Zle Z₁ Zc ∧ St G env Zc (Zadd H I o) ρc s ∧ W i s.heap ∧ P i ρc) (fun m s hm => ?_) ds.length ⟨0, Z₁, ρ, o₂, rfl, Nat.zero_le _, Zle.same, S₂, hW0, h0⟩
  obtain ⟨i, Zc, ρc, o, rfl, hle, lec, Sc, hWi, hPi⟩ := hm
  by_cases hlt : i < ds.length
  · refine wpAny_with_toks (Nat.le_refl s.toks) (W₀.item i s _ _ hlt Sc.tk hWi fun v h' tk pv hW' hk tok => ?_)
    obtain ⟨d', hd', rv⟩ := hP i v pv
    obtain ⟨o', T, ho', hcT, hT⟩ := hcls _ _ hW'
    have St' := Sc.turn (t := tk) hB hC (fun b ob hb e => hk b ob (by simpa using hb) e) ho' tok
    refine wp_letOwned (s := { s with heap := h', toks := tk }) ho' hcT hT ?_
    obtain ⟨ρ'', ha, hb⟩ := turn i d' ρc hd' hPi
    refine wp_seq (ha.run A Zc _ _ v (R.less (Nat.zero_le _)) St' (rv.mono lec)) fun _ s₄ ⟨Z₄, le₄, S₄⟩ => ?_
    refine wp_seq (hb.run A Z₄ _ s₄ R S₄) fun f s₅ ⟨Z₅, ρ₅, fl, le₅, S₅, hf, hΦ⟩ => ?_
    have les : Zle Z Z₅ := x₁.le.trans (lec.trans (le₄.trans le₅))
    have nx : P (i + 1) ρ₅ → ∃ m, m < ds.length - i ∧ ∃ i Zc ρc o, m = ds.length - i ∧ i ≤ ds.length ∧ Zle Z₁ Zc ∧ St G env Zc (Zadd H I o) ρc s₅ ∧ W i s₅.heap ∧ P i ρc := fun hp => by
      refine ⟨ds.length - (i + 1), by omega, i + 1, Z₅, ρ₅, o', rfl, by omega, lec.trans (le₄.trans le₅), S₅, W₀.frame _ _ _ hW' fun b hb ob e => ?_, hp⟩
      rcases hfp b hb with rfl | ⟨oz, hz⟩
      · have e' : h'.get? b = some ob := e
        rw [ho'] at e'; cases e'
        exact S₅.hin _ _ Zadd.self
      · have e1 := St'.zin b oz (lec b oz hz)
        have e' : h'.get? b = some ob := e
        have e2 : h'.get? b = some oz := e1
        rw [e'] at e2; cases e2
        exact S₅.zin _ _ (le₅ _ _ (le₄ _ _ (lec _ _ hz)))
    cases hf with
    | next => exact nx hΦ
    | cont => exact nx hΦ
    | brk => exact ⟨Z₅, ρ₅, .next, les, S₅.unhold hB hC hH, .next, hΦ⟩
    | ret r => exact ⟨Z₅, ρ₅, .ret _, les, S₅.unhold hB hC hH, .ret r, hΦ⟩
  · have hlen : i = ds.length := by omega
    subst hlen
    refine wpAny_with_toks (Nat.le_refl s.toks) (W₀.done s _ _ hWi fun h' tk hk tok => ?_)
    refine wpAny_execs_nil ?_
    exact ⟨Zc, ρc, .next, x₁.le.trans lec, Sc.drop (t := tk) hB hC hH (fun b ob hb e => hk b ob (by simpa using hb) e) tok, .next, done _ hPi⟩

/-- a while, by a measure -/
theorem ex_while {t : PySem.Expr} {body : List Stmt} {Φ : Fl → Loc → Prop} (P : Nat → Loc → Prop) {m : Nat} (h0 : P m ρ)
    (turn : ∀ m ρ', P m ρ' → ∃ c, Tst G env n ρ' t c ∧ (c = true → Exs G env n ρ' body (LoopPost Φ fun ρ'' => ∃ k, k < m ∧ P k ρ'')) ∧ (c = false → Φ .next ρ')) : Ex G env n ρ (.While t body [] pos) Φ := by
  constructor
  intro A Z H s R S
  refine wpAny_While ?_
  refine codeAny_whileLoop (fun m s => ∃ Zc ρc, Zle Z Zc ∧ St G env Zc H ρc s ∧ P m ρc) (fun m s hm => ?_) m ⟨Z, ρ, Zle.same, S, h0⟩
  obtain ⟨Zc, ρc, lec, Sc, hp⟩ := hm
  obtain ⟨c, ht, h1, h2⟩ := turn m ρc hp
  refine wp_seq (ht.run A Zc H s R Sc) fun c' s₁ ⟨e, x⟩ => ?_
  subst e
  cases c' with
  | false => exact wpAny_execs_nil ⟨Zc, ρc, .next, lec, Sc.ext x, .next, h2 rfl⟩
  | true =>
    refine wp_seq ((h1 rfl).run A Zc H s₁ R (Sc.ext x)) fun f s₂ ⟨Z₂, ρ₂, fl, le₂, S₂, hf, hΦ⟩ => ?_
    cases hf with
    | next => obtain ⟨k, hk, hp⟩ := hΦ; exact ⟨k, hk, Z₂, ρ₂, lec.trans le₂, S₂, hp⟩
    | cont => obtain ⟨k, hk, hp⟩ := hΦ; exact ⟨k, hk, Z₂, ρ₂, lec.trans le₂, S₂, hp⟩
    | brk => exact ⟨Z₂, ρ₂, .next, lec.trans le₂, S₂, .next, hΦ⟩
    | ret r => exact ⟨Z₂, ρ₂, .ret _, lec.trans le₂, S₂, .ret r, hΦ⟩

/-- the text's def at an address -/
structure DefAt (G : Gnd) (a : Addr) (fd : FuncData) (body : List Stmt) : Prop where
  obj : ∃ o, G.K.lookup a = some o ∧ o.data = .func fd
  code : codeIn G.K fd.code fd.qualname = true
  body : fd.body = .stmts body
  closure : fd.closure = []
  gl : fd.globals = mainGlobals
  bl : fd.builtins = builtinsNs
  co : fd.scope.isCoroutine = false
  gen : fd.scope.isGenerator = false
  kind : fd.scope.kind = .function

theorem DefAt.keep {a : Addr} {fd : FuncData} {body : List Stmt} (D : DefAt G a fd body) : keepIn G.K (.ref a) = true := by
  obtain ⟨⟨oc, od, odt, osl⟩, h, e⟩ := D.obj
  unfold keepIn
  cases e
  simp only [h]

/-- the names that the parameters are, at the start -/
def startLoc : List Str → List D → Loc
  | x :: xs, d :: ds => (x, .val d) :: startLoc xs ds
  | _, _ => []

end
end Mine
end
section
open PySem PySem.W PyProof.Rows
set_option linter.unusedVariables false
namespace Mine

section
variable {G : Gnd} {env : Env} {Z Z' H : Zf} {ρ ρ' : Loc} {s s' : Shared} {A : Around} {E : Value → Shared → Prop} {n : Nat} {pos apos : Pos}

theorem bindL_skip {k : Str → Option NameKind} {x : Str} : ∀ {bs : List (Str × Value)} {m : Str → Option Value}, x ∉ bs.map (·.1) → bindL k bs m x = m x
  | [], _, _ => rfl
  | (y, v) :: r, m, h => by
    simp only [List.map_cons, List.mem_cons, not_or] at h
    unfold bindL
    rw [bindL_skip h.2]
    split
    · exact if_neg h.1
    · rfl
theorem bindL_get {k : Str → Option NameKind} {x : Str} {v : Value} (hk : k x = some .local) : ∀ {bs : List (Str × Value)} {m : Str → Option Value}, (bs.map (·.1)).Nodup → (x, v) ∈ bs → bindL k bs m x = some v
  | (y, w) :: r, m, hn, h => by
    simp only [List.map_cons, List.nodup_cons] at hn
    unfold bindL
    rcases List.mem_cons.mp h with e | h
    · cases e
      rw [bindL_skip hn.1, if_pos hk, if_pos rfl]
    · exact bindL_get hk hn.2 h
theorem bindC_skip {k : Str → Option NameKind} {x : Str} : ∀ {bs : List (Str × Value)} {m : Str → Option Value}, x ∉ bs.map (·.1) → bindC k bs m x = m x
  | [], _, _ => rfl
  | (y, v) :: r, m, h => by
    simp only [List.map_cons, List.mem_cons, not_or] at h
    unfold bindC
    rw [bindC_skip h.2]
    split
    · rfl
    · exact if_neg h.1
theorem bindC_get {k : Str → Option NameKind} {x : Str} {v : Value} (hk : k x = some .cell) : ∀ {bs : List (Str × Value)} {m : Str → Option Value}, (bs.map (·.1)).Nodup → (x, v) ∈ bs → bindC k bs m x = some v
  | (y, w) :: r, m, hn, h => by
    simp only [List.map_cons, List.nodup_cons] at hn
    unfold bindC
    rcases List.mem_cons.mp h with e | h
    · cases e
      rw [bindC_skip hn.1, if_neg (by rw [hk]; decide), if_pos rfl]
    · exact bindC_get hk hn.2 h

theorem startLoc_lookup {b : B} : ∀ {xs : List Str} {ds : List D} {vs : List Value} {x : Str}, RepAll G Z vs ds → xs.length = ds.length → (startLoc xs ds).lookup x = some b → ∃ v d, b = .val d ∧ (x, v) ∈ xs.zip vs ∧ Rep G Z v d
  | [], _, _, _, _, _, h => by simp [startLoc] at h
  | y :: xs, [], _, _, _, hl, _ => by simp at hl
  | y :: xs, d :: ds, v :: vs, x, .cons r rs, hl, h => by
    unfold startLoc at h
    rw [List.lookup_cons] at h
    by_cases q : x = y
    · subst q
      simp at h
      subst h
      exact ⟨v, d, rfl, by simp, r⟩
    · rw [beq_eq_false_iff_ne.mpr q] at h
      obtain ⟨v', d', e, hm, r'⟩ := startLoc_lookup rs (by simpa using hl) h
      exact ⟨v', d', e, by simp [hm], r'⟩

/-- what a call leaves, once its frame is gone -/
theorem ext_of_frame (b : Bs G Z s) (hZ' : Zle Z Z') (S : St G env Z' (fun a => if Z a = none then s.heap.get? a else none) ρ s') (ht : s.toks ≤ s'.toks) : Ext Z s Z' s' where
  le := hZ'
  keep := fun a o h => by
    cases q : Z a with
    | some o' =>
      have := b.zin a o' q
      rw [h] at this; cases this
      exact S.zin _ _ (hZ' _ _ q)
    | none => exact S.hin a o (by simp [q, h])
  zin := S.zin
  new := fun a o h => by
    cases q : Z a with
    | some o' => left; have := hZ' _ _ q; rw [h] at this; cases this; rfl
    | none =>
      right
      have := S.dj a o h
      simpa [q] using this
  gens := S.gens.trans b.gens.symm
  os := S.os.trans b.os.symm
  tk := ht

def RetPost (d : D) : Fl → Loc → Prop
  | .ret d', _ => d' = d
  | .next, _ => d = .none
  | _, _ => False

theorem fn_of {a : Addr} {fd : FuncData} {body : List Stmt} {xs : List Str} {ds : List D} {d : D} (D : DefAt G a fd body) (hb : ∀ vs : List Value, vs.length = xs.length → bindArgs fd ⟨vs, []⟩ = pure (xs.zip vs)) (hlen : xs.length = ds.length)
    (hx : ∀ x ∈ xs, fd.scope.names.lookup x = some .local ∨ (fd.scope.names.lookup x = some .cell ∧ ∀ k, ((cellsFrom k fd.scope.names []).lookup x).isSome = true)) (hnd : xs.Nodup)
    (h : ∀ L, Exs G (callEnvC fd L a) n (startLoc xs ds) body (RetPost d)) : Fn G (n + 1) a ds d := by
  constructor
  intro A Z s vs R b r
  obtain ⟨o, ho, hd⟩ := D.obj
  have hvl : vs.length = xs.length := r.length.trans hlen.symm
  have hmap : (xs.zip vs).map (·.1) = xs := by rw [List.map_fst_zip]; omega
  have hnd' : ((xs.zip vs).map (·.1)).Nodup := by rw [hmap]; exact hnd
  refine wp_tok ?_
  refine wpAny_call ?_
  refine codeAny_call_function (by have := R.depth; omega) (b.X _ _ ho) hd D.co D.gen D.body (codeRec_of b.X D.code) ?_
  rw [hb vs hvl, D.closure]
  refine wpAny_pure (wpAny_with_toks (Nat.le_refl s.toks) (wpAny_newFunctionEnv_cells D.kind (fun x hm => ?_) fun env he s₁ x tok => ?_))
  · have : x.1 ∈ xs := by rw [← hmap]; exact List.mem_map_of_mem hm
    rcases hx _ this with q | ⟨q, q'⟩
    · exact .inl q
    · exact .inr ⟨q, q' _⟩
  subst he
  have hcall := x.toInCall
  obtain ⟨h₁, tk, rfl, hk₁⟩ := x.done
  refine ⟨b.nolimit.keeps hcall.keep, codeAny_func ?_⟩
  have HZ : ∀ a' o', (if Z a' = none then s.heap.get? a' else none) = some o' → Z a' = none ∧ s.heap.get? a' = some o' := fun a' o' e => by
    split at e
    · rename_i q; exact ⟨q, e⟩
    · cases e
  have hLnone : s.heap.get? s.heap.objs.size = none := get?_size_none _
  have nz : ∀ c, s.heap.objs.size ≤ c → s.heap.get? c = none := fun c hc => by
    cases q : s.heap.get? c with
    | none => rfl
    | some ob => exact absurd (Heap.lt_size q) (Nat.not_lt.mpr hc)
  have nzZ : ∀ c, s.heap.objs.size ≤ c → Z c = none := fun c hc => by
    cases q : Z c with
    | none => rfl
    | some ob => have := b.zin c ob q; rw [nz c hc] at this; cases this
  have S₁ : St G (callEnvC fd s.heap.objs.size a) Z (fun a => if Z a = none then s.heap.get? a else none) (startLoc xs ds) { s with heap := h₁, toks := tk } := by
    refine ⟨D.kind, D.gl, D.bl, b.gens, b.os, Nat.lt_of_lt_of_le b.tk tok, fun a' o' e => hk₁ _ _ (b.zin _ _ e), fun a' o' e => hk₁ _ _ (HZ _ _ e).2, fun a' o' e => by simp [e], fun a' o' e => ?_, ⟨_, hcall.ns⟩, nzZ _ (Nat.le_refl _), ?_, fun y c e => ⟨?_, fun _ => ?_, fun hf => by cases hf⟩, ?_, fun y d' e => ?_, ?_⟩
    · have e' := b.bas _ _ e
      cases q : Z a' with
      | none => right; simp [q, e']
      | some ob => left; have := b.zin _ _ q; rw [e'] at this; cases this; rfl
    · show (if Z s.heap.objs.size = none then s.heap.get? s.heap.objs.size else none) = none
      rw [nzZ _ (Nat.le_refl _), if_pos rfl]; exact hLnone
    · exact Nat.ne_of_gt (x.above y c (mem_of_lookup e))
    · have hc : s.heap.objs.size ≤ c := Nat.le_of_lt (x.above y c (mem_of_lookup e))
      refine ⟨nzZ c hc, ?_, _, x.cell y c e⟩
      show (if Z c = none then s.heap.get? c else none) = none
      rw [nzZ c hc, if_pos rfl]; exact nz c hc
    · exact fun y z c e e' => name_of_addr x.apart (mem_of_lookup e) (mem_of_lookup e')
    · obtain ⟨v, d'', e', hm, r'⟩ := startLoc_lookup r hlen e
      cases e'
      have hxm : y ∈ xs := by rw [← hmap]; exact List.mem_map_of_mem hm
      refine ⟨v, ?_, r'⟩
      rcases hx y hxm with q | ⟨q, q'⟩
      · exact .inl ⟨q, _, hcall.ns, bindL_get (k := (callEnvC fd s.heap.objs.size a).kindOf) q hnd' hm⟩
      · obtain ⟨c, hc⟩ := Option.isSome_iff_exists.mp (q' (s.heap.objs.size + 1))
        refine .inr ⟨.inl q, c, hc, ?_⟩
        have := x.cell y c hc
        exact (bindC_get (k := (callEnvC fd s.heap.objs.size a).kindOf) q hnd' hm) ▸ this
    · refine ⟨fun _ => 0, fun y z es es' e => ?_, fun y es e => ?_⟩
      · obtain ⟨_, _, e', _⟩ := startLoc_lookup r hlen e; cases e'
      · obtain ⟨_, _, e', _⟩ := startLoc_lookup r hlen e; cases e'
  refine wp_seq ((h s.heap.objs.size).run _ Z _ _ R.deeper S₁) fun f s₂ ⟨Z₂, ρ₂, fl, le₂, S₂, hf, hΦ⟩ tok₂ => ?_
  cases hf with
  | next => cases hΦ; exact ⟨Z₂, ext_of_frame b le₂ S₂ tok₂, .none⟩
  | brk => exact hΦ.elim
  | cont => exact hΦ.elim
  | ret r' => cases hΦ; exact ⟨Z₂, ext_of_frame b le₂ S₂ tok₂, r'⟩

end
end Mine
end
section
open PySem PySem.W PyProof.Rows
set_option linter.unusedVariables false
namespace Mine

section
variable {G : Gnd} {env : Env} {Z Z' H H' : Zf} {ρ ρ' : Loc} {s s' : Shared} {A : Around} {E : Value → Shared → Prop} {n : Nat} {pos apos : Pos}

/-- what is known is forgotten -/
def Sub (ρ ρ' : Loc) : Prop := ∀ x b, ρ.lookup x = some b → ρ'.lookup x = some b
theorem St.weaken (S : St G env Z H ρ' s) (h : Sub ρ ρ') : St G env Z H ρ s :=
  { S with
    vars := fun x d e => S.vars x d (h x _ e)
    owns := let ⟨oa, hi, ho⟩ := S.owns; ⟨oa, fun x y ds es ex ey => hi x y ds es (h x _ ex) (h y _ ey), fun x ds e => ho x ds (h x _ e)⟩ }
theorem Sub.same : Sub ρ ρ := fun _ _ h => h
theorem Sub.trans {ρ'' : Loc} (a : Sub ρ ρ') (b : Sub ρ' ρ'') : Sub ρ ρ'' := fun x b' h => b x b' (a x b' h)
theorem sub_upd {x : Str} {b : B} (h : ρ.lookup x = none) : Sub ρ (upd ρ x b) := fun y c e => by
  rw [lookup_upd]
  rw [if_neg fun q => by rw [q, h] at e; cases e]
  exact e

/-- held objects are changed, or held anew, or no more -/
theorem St.shift (S : St G env Z H ρ s) {h' : Heap} {t : Nat} (T : Addr → Prop) (hT : ∀ a, T a → G.base.get? a = none ∧ (∀ y c, env.cells.lookup y = some c → c ≠ a) ∧ ((∃ o, H a = some o) ∨ s.heap.get? a = none))
    (hk : ∀ b ob, ¬ T b → s.heap.get? b = some ob → h'.get? b = some ob) (hH : ∀ b, ¬ T b → H' b = H b) (hH' : ∀ a o, T a → H' a = some o → h'.get? a = some o) (ht : s.toks ≤ t) : St G env Z H' ρ { s with heap := h', toks := t } := by
  have zT : ∀ a ob, Z a = some ob → ¬ T a := fun a ob h q => by
    rcases (hT a q).2.2 with ⟨o, e⟩ | e
    · have := S.dj a ob h; rw [e] at this; cases this
    · have := S.zin a ob h; rw [e] at this; cases this
  have nT : ∀ a ob, s.heap.get? a = some ob → H a = none → ¬ T a := fun a ob h hn q => by
    rcases (hT a q).2.2 with ⟨o, e⟩ | e
    · rw [hn] at e; cases e
    · rw [h] at e; cases e
  obtain ⟨m, oL, es, ep, eL, eL'⟩ := S.ns
  have lT := nT _ _ eL S.lh
  have cT : ∀ y c, env.cells.lookup y = some c → ¬ T c := fun y c e q => (hT c q).2.1 y c e rfl
  have has : ∀ y v, Has env s.heap y v → Has env h' y v := fun y v q => by
    rcases q with ⟨k, m, ⟨ob, es, ep, e1, e2⟩, e⟩ | ⟨k, c, e, ob, e1, e2⟩
    · exact .inl ⟨k, m, ⟨ob, es, ep, hk _ _ lT e1, e2⟩, e⟩
    · exact .inr ⟨k, c, e, ob, hk _ _ (cT y c e) e1, e2⟩
  refine ⟨S.fk, S.gl, S.bl, S.gens, S.os, Nat.lt_of_lt_of_le S.tk ht, fun a ob h => hk _ _ (zT a ob h) (S.zin a ob h), fun a ob h => ?_, fun a ob h => ?_, fun a ob h => ?_, ⟨m, oL, es, ep, hk _ _ lT eL, eL'⟩, S.lz, ?_, fun y c e => ?_, S.inj, fun y d e => ?_, ?_⟩
  · by_cases q : T a
    · exact hH' a ob q h
    · rw [hH a q] at h; exact hk _ _ q (S.hin a ob h)
  · rw [hH a (zT a ob h)]; exact S.dj a ob h
  · refine (S.bas a ob h).elim .inl fun q => .inr ?_
    rw [hH a fun z => by rw [(hT a z).1] at h; cases h]; exact q
  · rw [hH _ lT]; exact S.lh
  · obtain ⟨h0, h1, h2⟩ := S.cells y c e
    refine ⟨h0, fun hf => ?_, fun hf => ?_⟩
    · obtain ⟨a, b, v, ob, e1, e2⟩ := h1 hf
      exact ⟨a, by rw [hH _ (cT y c e)]; exact b, v, ob, hk _ _ (cT y c e) e1, e2⟩
    · obtain ⟨ob, h⟩ := h2 hf
      exact ⟨ob, by rw [hH _ (cT y c e)]; exact h⟩
  · obtain ⟨v, h, r⟩ := S.vars y d e; exact ⟨v, has y v h, r⟩
  · obtain ⟨oa, hi, h⟩ := S.owns
    refine ⟨oa, hi, fun y ds e => ?_⟩
    obtain ⟨g1, g2, g3, g4, g5, vs, k, g6, g7⟩ := h y ds e
    exact ⟨has _ _ g1, g2, by rw [hH _ (nT _ _ g6 g3)]; exact g3, g4, g5, vs, k, hk _ _ (nT _ _ g6 g3) g6, g7⟩

structure Tsts (G : Gnd) (env : Env) (n : Nat) (ρ : Loc) (ifs : List PySem.Expr) (ok : Bool) : Prop where
  run : ∀ A Z H s, Room n A → St G env Z H ρ s → wpAny (model G.prog G.w) A (forIn ifs true fun c r => if r = true then do let ok ← isTrue c env (eval c env); pure (ForInStep.yield ok) else pure (ForInStep.yield r)) (fun b s' => b = ok ∧ Ext Z s Z s') (fun _ _ => False) s
theorem tsts_nil : Tsts G env n ρ [] true := Tsts.mk fun A Z H s R S => wpAny_tests_nil ⟨rfl, S.same⟩
theorem tsts_one {c : PySem.Expr} {ok : Bool} (h : Tst G env n ρ c ok) : Tsts G env n ρ [c] ok := Tsts.mk fun A Z H s R S => wpAny_tests_one (h.run A Z H s R S)

/-- what stands while a comprehension's loop runs: its iterator and its list are held -/
structure CRun (G : Gnd) (env : Env) (n : Nat) (e : PySem.Expr) (k : Nat) (ρ : Loc) (ds : List D) (out : List D) : Prop where
  run : ∀ A Z H s I D fp P W vs m outs o, Room n A → St G env Z H ρ s → H I = some o → H D = some (listOf vs.toArray m) → I ≠ D → RepAll G Z vs outs → outs.length + out.length ≤ sizeLine →
    G.base.get? I = none → G.base.get? D = none → (∀ y c, env.cells.lookup y = some c → c ≠ I ∧ c ≠ D) →
    (∀ A' : Around, A'.handled = none → WalksG G A' I fp [I] ds.length P W) → (∀ b ∈ fp, b = I ∨ ∃ o, Z b = some o) → W 0 s.heap → (∀ i h, W i h → ∃ o T, h.get? I = some o ∧ o.cls = .type T ∧ ownsTuples T = false) →
    (∀ i v, P i v → ∃ d, ds[i]? = some d ∧ Rep G Z v d) →
    codeAny (model G.prog G.w) A (.compLoop e k (.ref I) (.ref D) env) (fun r s' => r = .ok .next ∧ ∃ Z' H' vs' m', Zle Z Z' ∧ (∀ b, b ≠ I → b ≠ D → H' b = H b) ∧ H' I = none ∧ H' D = some (listOf vs'.toArray m') ∧
      St G env Z' H' ρ s' ∧ RepAll G Z' vs' (outs ++ out)) s

theorem comp_start {elt : PySem.Expr} {gens : List Comprehension} {g : Comprehension} {scope : Scope} {k : Nat} {it acc : Value} {R : Result → Shared → Prop} {prog : Program} {w : World} (hg : gens[k]? = some g) (ha : g.is_async = 0)
    (h0 : codeAny (model prog w) A (.compLoop (.ListComp elt gens scope pos) k it acc env) R s)
    (h : wpAny (model prog w) A (pyIter it) (fun it' s' => codeAny (model prog w) A (.compLoop (.ListComp elt gens scope pos) k it' acc env) R s') (notedBy (model prog w) A env fun x s' => R (.error x) s') s) :
    codeAny (model prog w) A (.compStart (.ListComp elt gens scope pos) k it acc env) R s := by
  refine codeAny_of_tree ?_
  show wpAny _ _ ((compStart (.ListComp elt gens scope pos) k it acc env).onRaise (fun x => do noteFrame x env; standAt theWindowsPlace)) _ _ s
  refine wpAny_notedAt ?_
  unfold compStart
  simp only [clausesOf, hg, Option.elim_some, ha]
  show wpAny _ _ (ask >>= _) _ _ s
  refine wpAny_bind (wpAny_askSetting (wpAny_ite ?_))
  split
  · exact wpAny_pure (And.intro rfl h0)
  · exact wpAny_bind (wpAny_rule (wpAny_bind (wpAny_standAt (wpAny_bind (wpAny_mono h (fun it' s' h' => wpAny_pure (And.intro rfl h')) fun _ _ x => x)))))

def CInv (G : Gnd) (env : Env) (ρ : Loc) (Z H : Zf) (I D : Addr) {α : Type} (xs : List α) (F : α → List Mine.D) (outs : List Mine.D) (W : Nat → Heap → Prop) (j : Nat) (s : Shared) : Prop :=
  ∃ (i : Nat) (Zc Hc : Zf) (vs : List Value) (m : Nat) (o : Obj), j = xs.length - i ∧ i ≤ xs.length ∧ Zle Z Zc ∧ (∀ b, b ≠ I → b ≠ D → Hc b = H b) ∧ Hc I = some o ∧ Hc D = some (listOf vs.toArray m) ∧ St G env Zc Hc ρ s ∧ W i s.heap ∧
    RepAll G Zc vs (outs ++ (xs.take i).flatMap F)
/-- the last clause of a comprehension -/
theorem comp_last {elt tgt iter : PySem.Expr} {ifs : List PySem.Expr} {gens : List Comprehension} {scope : Scope} {k : Nat} {α : Type} {xs : List α} {mk : α → D} {F : α → List D}
    (he : ∀ it acc, compTurn (.ListComp elt gens scope pos) k it acc env = (do
      standAt iter.pos
      match ← pyNext it with
      | none => pure (.done .next)
      | some v =>
        letOwnedTupleGo tgt it v
        assign tgt env v
        let mut ok := true
        for c in ifs do
          if ok then ok ← isTrue c env (eval c env)
        if ok then
          (do let _ ← call (.builtin "list.append") [acc, ← eval elt env])
        again (.compLoop (.ListComp elt gens scope pos) k it acc env)))
    (item : ∀ a ∈ xs, ∃ ρ₁ ok, Asg G env tgt (mk a) ρ ρ₁ ∧ Sub ρ ρ₁ ∧ Tsts G env n ρ₁ ifs ok ∧ (ok = false → F a = []) ∧ (ok = true → ∃ x, Ev G env n ρ₁ elt x ∧ F a = [x])) :
    CRun G env n (.ListComp elt gens scope pos) k ρ (xs.map mk) (xs.flatMap F) := by
  constructor
  intro A Z H s I D fp P W vs m outs o R S hI hD hID hv hsz hBI hBD hC hW hfp hW0 hcls hP
  have W₀ := hW A R.handled
  refine codeAny_loop rfl (CInv G env ρ Z H I D xs F outs W) (fun j s hj => ?_) xs.length ⟨0, Z, H, vs, m, o, rfl, Nat.zero_le _, Zle.same, fun _ _ _ => rfl, hI, hD, S, hW0, by simpa using hv⟩
  obtain ⟨i, Zc, Hc, vs, m, o, rfl, hle, lec, hHc, hI, hD, Sc, hWi, hv⟩ := hj
  show wpAny _ A ((compTurn (.ListComp elt gens scope pos) k (.ref I) (.ref D) env).onRaise (fun x => do noteFrame x env; theTreesLotGoes x)) _ _ s
  refine wpAny_noted ?_
  rw [he]
  have len : (xs.map mk).length = xs.length := List.length_map ..
  by_cases hlt : i < xs.length
  · refine wpAny_bind (wpAny_standAt (wpAny_bind (wpAny_with_toks (Nat.le_refl s.toks) (W₀.item i s _ _ (by omega) Sc.tk hWi fun v h' tk pv hW' hk tok => ?_))))
    obtain ⟨d', hd', rv⟩ := hP i v pv
    obtain ⟨o', T, ho', hcT, hTT⟩ := hcls _ _ hW'
    obtain ⟨a, ha⟩ : ∃ a, xs[i]? = some a := ⟨xs[i], by simp [hlt]⟩
    have hd'' : d' = mk a := by rw [List.getElem?_map, ha] at hd'; simpa using hd'.symm
    subst hd''
    have S₁ : St G env Zc (Zadd Hc I o') ρ { s with heap := h', toks := tk } := Sc.shift (fun b => b = I) (fun b q => by subst q; exact ⟨hBI, fun y c e => (hC y c e).1, .inl ⟨_, hI⟩⟩) (fun b ob hb e => hk b ob (by simpa using hb) e)
      (fun b hb => if_neg hb) (fun b ob q e => by subst q; rw [Zadd.self] at e; cases e; exact ho') tok
    have hD₁ : Zadd Hc I o' D = some (listOf vs.toArray m) := by rw [show Zadd Hc I o' D = Hc D from if_neg (Ne.symm hID)]; exact hD
    refine wpAny_bind (wp_letOwned (s := { s with heap := h', toks := tk }) ho' hcT hTT ?_)
    obtain ⟨ρ₁, ok, hasg, hsub, htst, hno, hyes⟩ := item a (List.mem_of_getElem? ha)
    refine wpAny_bind (wp_seq (hasg.run A Zc _ _ v (R.less (Nat.zero_le _)) S₁ (rv.mono lec)) fun _ s₂ ⟨Z₂, le₂, S₂⟩ => ?_)
    refine wpAny_bind (wp_seq (htst.run A Z₂ _ s₂ R S₂) fun ok' s₃ ⟨eo, x₃⟩ => ?_)
    subst eo
    have S₃ := S₂.ext x₃
    have take_succ : (xs.take (i + 1)).flatMap F = (xs.take i).flatMap F ++ F a := by rw [List.take_add_one, ha]; simp
    have nextW : ∀ (Z₄ H₄ : Zf) (s₄ : Shared) (ρ₄ : Loc), Zle Zc Z₄ → H₄ I = some o' → St G env Z₄ H₄ ρ₄ s₄ → W (i + 1) s₄.heap := fun Z₄ H₄ s₄ ρ₄ le₄ hI₄ S₄ => W₀.frame _ _ _ hW' fun b hb ob e => by
      rcases hfp b hb with rfl | ⟨oz, hz⟩
      · rw [ho'] at e; cases e; exact S₄.hin _ _ hI₄
      · have e2 : h'.get? b = some oz := S₁.zin b oz (lec b oz hz)
        rw [e] at e2; cases e2
        exact S₄.zin _ _ (le₄ _ _ (lec _ _ hz))
    cases ok' with
    | false =>
      refine wpAny_pure ⟨rfl, xs.length - (i + 1), by omega, i + 1, Z₂, Zadd Hc I o', vs, m, o', rfl, by omega, lec.trans le₂, fun b h1 h2 => ?_, Zadd.self, hD₁, S₃.weaken hsub, nextW Z₂ _ s₃ ρ₁ le₂ Zadd.self S₃, ?_⟩
      · rw [show Zadd Hc I o' b = Hc b from if_neg h1]; exact hHc b h1 h2
      · rw [take_succ, hno rfl, List.append_nil]; exact hv.mono le₂
    | true =>
      obtain ⟨x, hx, hFx⟩ := hyes rfl
      refine wpAny_bind (wpAny_bind (wp_seq (hx.run A Z₂ _ s₃ R S₃) fun y s₄ ⟨Z₄, x₄, r₄⟩ => wpAny_bind ?_))
      have S₄ := S₃.ext x₄
      have oD := S₄.hin _ _ hD₁
      have hlenv : vs.length ≤ sizeLine := by
        have h1 := hv.length
        rw [List.length_append] at h1
        have h2 : ((xs.take i).flatMap F).length ≤ (xs.flatMap F).length := by
          conv => rhs; rw [← List.take_append_drop i xs, List.flatMap_append, List.length_append]
          omega
        omega
      refine append_at oD (fun h₅ hs₅ ho₅ => ?_) (by simpa using hlenv)
      have S₅ : St G env Z₄ (Zadd (Zadd Hc I o') D (listOf (vs ++ [y]).toArray (m + 1))) ρ₁ { s₄ with heap := h₅ } := S₄.shift (fun b => b = D) (fun b q => by subst q; exact ⟨hBD, fun y c e => (hC y c e).2, .inl ⟨_, hD₁⟩⟩)
        (fun b ob hb e => (hs₅.2 b hb).trans e) (fun b hb => if_neg hb) (fun b ob q e => by subst q; rw [Zadd.self] at e; cases e; rw [ho₅]; simp) (Nat.le_refl _)
      have hI₅ : Zadd (Zadd Hc I o') D (listOf (vs ++ [y]).toArray (m + 1)) I = some o' := by rw [show Zadd (Zadd Hc I o') D (listOf (vs ++ [y]).toArray (m + 1)) I = Zadd Hc I o' I from if_neg hID]; exact Zadd.self
      refine wpAny_pure (wpAny_pure ⟨rfl, xs.length - (i + 1), by omega, i + 1, Z₄, _, vs ++ [y], m + 1, o', rfl, by omega, lec.trans (le₂.trans x₄.le), fun b h1 h2 => ?_, hI₅, Zadd.self, S₅.weaken hsub, nextW Z₄ _ _ ρ₁ (le₂.trans x₄.le) hI₅ S₅, ?_⟩)
      · rw [show Zadd (Zadd Hc I o') D (listOf (vs ++ [y]).toArray (m + 1)) b = Zadd Hc I o' b from if_neg h2, show Zadd Hc I o' b = Hc b from if_neg h1]; exact hHc b h1 h2
      · rw [take_succ, hFx, ← List.append_assoc]; exact (hv.mono (le₂.trans x₄.le)).append (.cons r₄ .nil)
  · have hlen : i = xs.length := by omega
    subst hlen
    refine wpAny_bind (wpAny_standAt (wpAny_bind (wpAny_with_toks (Nat.le_refl s.toks) (W₀.done s _ _ (by rw [len]; exact hWi) fun h' tk hk tok => ?_))))
    refine wpAny_pure ⟨rfl, Zc, fun b => if b = I then none else Hc b, vs, m, lec, fun b h1 h2 => ?_, if_pos rfl, ?_, ?_, ?_⟩
    · exact (if_neg h1).trans (hHc b h1 h2)
    · exact (if_neg (Ne.symm hID)).trans hD
    · exact Sc.shift (fun b => b = I) (fun b q => by subst q; exact ⟨hBI, fun y c e => (hC y c e).1, .inl ⟨_, hI⟩⟩) (fun b ob hb e => hk b ob (by simpa using hb) e) (fun b hb => if_neg hb) (fun b ob q e => by have e' : (if b = I then none else Hc b) = some ob := e; rw [if_pos q] at e'; cases e') tok
    · rwa [List.take_length] at hv

end
end Mine
end
section
open PySem PySem.W PyProof.Rows
set_option linter.unusedVariables false
namespace Mine

section
variable {G : Gnd} {env : Env} {Z Z' H H' : Zf} {ρ ρ' ρc : Loc} {s s' : Shared} {A : Around} {E : Value → Shared → Prop} {n : Nat} {pos apos : Pos}

/-- what must be so of a comprehension's scope, seen from the frame around -/
structure Scoped (env : Env) (scope : Scope) (cl : List (Str × Addr)) (ρ ρc : Loc) : Prop where
  kind : scope.kind = .function
  names : ∀ x ∈ scope.names, x.2 = .local → scope.names.lookup x.1 = some .local
  nocell : ∀ y ∈ scope.names, y.2 ≠ .cell
  clos : closureFor scope env = pure cl
  cells : ∀ x c, cl.lookup x = some c → env.cells.lookup x = some c
  cap : ∀ x b, ρc.lookup x = some b → (∃ d, b = .val d) ∧ ρ.lookup x = some b ∧ env.kindOf x ≠ some .local ∧ (∃ c, cl.lookup x = some c) ∧ ((relabel scope env).names.lookup x = some .cell ∨ ((relabel scope env).names.lookup x = some .free ∧ (x == ("__classdict__" : Str)) = false))

def CompPost (G : Gnd) (Z : Zf) (s : Shared) (out : List D) (acc : Value) (C : Addr) (r : Result) (s' : Shared) : Prop :=
  r = .ok .next ∧ ∃ Z', Ext Z s Z' s' ∧ Rep G Z' acc (.list out) ∧ s.heap.get? C = none ∧ Z' C = none ∧ ∃ m, s'.heap.Ns C m

theorem comp_core {elt : PySem.Expr} {g : Comprehension} {gs : List Comprehension} {scope : Scope} {cl : List (Str × Addr)} {d : D} {ds out : List D} (R : Room n A) (S : St G env Z H ρ s) (K : Scoped env scope cl ρ ρc) (ha : g.is_async = 0)
    (h : Ev G env n ρ g.iter d) (hi : Itr G d ds) (run : ∀ C, CRun G (compEnvC scope cl C env) n (.ListComp elt (g :: gs) scope pos) 0 ρc ds out) (hsz : out.length ≤ sizeLine) :
    wpAny (model G.prog G.w) A (eval g.iter env) (fun x s₁ => wpAny (model G.prog G.w) A (pyIter x) (fun it s₂ => wpAny (model G.prog G.w) A (newList []) (fun acc s₃ =>
      wpAny (model G.prog G.w) A (newFunctionEnv scope env.globals cl [] env.qual none .none (some env)) (fun cenv s₄ =>
        codeAny (model G.prog G.w) A (.compStart (.ListComp elt (g :: gs) scope pos) 0 it acc { cenv with scope := relabel scope env }) (CompPost G Z s out acc cenv.locals) s₄) E s₃) E s₂) E s₁) E s := by
  refine wp_seq (h.run A Z H s R S) fun v s₁ ⟨Z₁, x₁, r₁⟩ => ?_
  have S₁ := S.ext x₁
  refine wp_seq (hi.run A Z₁ s₁ v (R.less (Nat.zero_le _)) S₁.bs r₁) fun it s₂ ⟨I, fp, P, W, e, x₂, hI, hW, hfp, hW0, hcls, hP⟩ => ?_
  subst e
  have S₂ := S₁.ext x₂
  refine wpAny_newObj_type (wpAny_newFunctionEnv K.nocell (by intro y hy; simp at hy) (fun h₁ hns₁ hsb₁ => ?_) K.kind)
  dsimp only at hns₁ hsb₁ ⊢
  generalize hH2 : s₂.heap.push { cls := .type "list", dict := none, data := .seq ([] : List Value).toArray } = H2 at hns₁ hsb₁ ⊢
  have hC : H2.objs.size = s₂.heap.objs.size + 1 := by rw [← hH2, Heap.size_push]
  have oldC : ∀ b ob, s₂.heap.get? b = some ob → b ≠ H2.objs.size ∧ b ≠ s₂.heap.objs.size := fun b ob e => by
    have := Heap.lt_size e
    rw [hC]
    exact ⟨Nat.ne_of_lt (Nat.lt_succ_of_lt this), Nat.ne_of_lt this⟩
  have old : ∀ b o, s₂.heap.get? b = some o → h₁.get? b = some o := fun b o e => hsb₁.extBut b o (oldC b o e).1 (Heap.get?_push_of_some _ (hH2 ▸ Heap.get?_push_of_some _ e))
  have hDC : s₂.heap.objs.size ≠ H2.objs.size := by rw [hC]; exact Nat.ne_of_lt (Nat.lt_succ_self _)
  have hDo : h₁.get? s₂.heap.objs.size = some (listOf ([] : List Value).toArray 0) := hsb₁.extBut _ _ hDC (Heap.get?_push_of_some _ (hH2 ▸ Heap.get?_push_size _ rfl))
  have hCn : s₂.heap.get? H2.objs.size = none := by
    cases q : s₂.heap.get? H2.objs.size with
    | none => rfl
    | some ob => exact absurd rfl (oldC _ ob q).1
  have hDn : s₂.heap.get? s₂.heap.objs.size = none := get?_size_none _
  obtain ⟨oI, _, hoI, _⟩ := hcls 0 _ hW0
  have zn : ∀ b, s₂.heap.get? b = none → Z₁ b = none := fun b e => by
    cases q : Z₁ b with
    | none => rfl
    | some ob => have := S₂.zin b ob q; rw [e] at this; cases this
  have hIn : Z₁ I = none := by
    cases q : Z₁ I with
    | none => rfl
    | some ob => have := S₁.zin I ob q; rw [hI] at this; cases this
  let HH : Zf := fun b => if Z₁ b = none then (if b = H2.objs.size then none else h₁.get? b) else none
  have HHof : ∀ b ob, HH b = some ob → Z₁ b = none ∧ b ≠ H2.objs.size ∧ h₁.get? b = some ob := fun b ob e => by
    have e' : (if Z₁ b = none then (if b = H2.objs.size then none else h₁.get? b) else none) = some ob := e
    split at e'
    · rename_i q
      split at e'
      · cases e'
      · rename_i q'; exact ⟨q, q', e'⟩
    · cases e'
  have HHto : ∀ b ob, Z₁ b = none → b ≠ H2.objs.size → h₁.get? b = some ob → HH b = some ob := fun b ob q q' e => by
    show (if Z₁ b = none then (if b = H2.objs.size then none else h₁.get? b) else none) = some ob
    rw [if_pos q, if_neg q']; exact e
  have cellNew : ∀ x c, cl.lookup x = some c → Z₁ c = none ∧ ∃ ob, s₂.heap.get? c = some ob := fun x c e => by
    obtain ⟨_, h1, h2⟩ := S₂.cells x c (K.cells x c e)
    cases hf : env.func.isSome with
    | true => obtain ⟨a, _, v, ob, e1, _⟩ := h1 hf; exact ⟨a, ob, e1⟩
    | false =>
      obtain ⟨ob, e1⟩ := h2 hf
      refine ⟨?_, ob, S₂.hin c ob e1⟩
      cases q : Z₁ c with
      | none => rfl
      | some oz => have := S₂.dj c oz q; rw [e1] at this; cases this
  have SC : St G (compEnvC scope cl H2.objs.size env) Z₁ HH ρc { s₂ with heap := h₁, toks := s₂.toks + ([] : List (Str × Value)).length } := by
    refine ⟨K.kind, S₂.gl, S₂.bl, S₂.gens, S₂.os, S₂.tk, fun b ob e => old b ob (S₂.zin b ob e), fun b ob e => (HHof b ob e).2.2, fun b ob e => ?_, fun b ob e => ?_, ⟨_, hns₁⟩, zn _ hCn, ?_, fun x c e => ⟨?_, fun hf => (by cases hf), fun _ => ?_⟩, fun x y c e e' => S₂.inj x y c (K.cells x c e) (K.cells y c e'), fun x d' e => ?_, ?_⟩
    · show (if Z₁ b = none then (if b = H2.objs.size then none else h₁.get? b) else none) = none
      rw [if_neg (by rw [e]; intro q; cases q)]
    · have e2 := S₂.keepBase b ob e
      cases q : Z₁ b with
      | none => exact .inr (HHto b ob q (oldC b ob e2).1 (old b ob e2))
      | some oz => left; have := S₂.zin b oz q; rw [e2] at this; cases this; rfl
    · show (if Z₁ H2.objs.size = none then (if H2.objs.size = H2.objs.size then none else h₁.get? H2.objs.size) else none) = none
      rw [if_pos (zn _ hCn), if_pos rfl]
    · obtain ⟨_, ob, e1⟩ := cellNew x c e
      exact (oldC c ob e1).1
    · obtain ⟨hz, ob, e1⟩ := cellNew x c e
      exact ⟨ob, HHto c ob hz (oldC c ob e1).1 (old c ob e1)⟩
    · obtain ⟨_, e1, hk, ⟨c, hc⟩, hkd⟩ := K.cap x _ e
      obtain ⟨u, hu, ru⟩ := S₂.vars x d' e1
      refine ⟨u, ?_, ru⟩
      rcases hu with ⟨k, _⟩ | ⟨_, c', e2, n2⟩
      · exact absurd k hk
      · rw [K.cells x c hc] at e2; cases e2
        refine .inr ⟨hkd, c, hc, n2.keeps old⟩
    · refine ⟨fun _ => 0, fun x y es es' e => ?_, fun x es e => ?_⟩
      · obtain ⟨⟨_, e'⟩, _⟩ := K.cap x _ e; cases e'
      · obtain ⟨⟨_, e'⟩, _⟩ := K.cap x _ e; cases e'
  have nIC := (oldC I oI hoI).1
  have nID := (oldC I oI hoI).2
  have bn : ∀ b, s₁.heap.get? b = none → G.base.get? b = none := fun b e => by
    cases q : G.base.get? b with
    | none => rfl
    | some ob => have := S₁.keepBase b ob q; rw [e] at this; cases this
  have hDn₁ : s₁.heap.get? s₂.heap.objs.size = none := by
    cases q : s₁.heap.get? s₂.heap.objs.size with
    | none => rfl
    | some ob => rw [x₂.keep _ _ q] at hDn; cases hDn
  have loop := (run H2.objs.size).run A Z₁ HH _ I s₂.heap.objs.size fp P W [] 0 [] oI R SC (HHto I oI hIn nIC (old I oI hoI)) (HHto _ _ (zn _ hDn) hDC hDo) nID .nil (by simpa using hsz) (bn _ hI) (bn _ hDn₁)
    (fun x c e => by
      obtain ⟨hz, ob, e1⟩ := cellNew x c e
      refine ⟨fun q => ?_, (oldC c ob e1).2⟩
      obtain ⟨_, h1, h2⟩ := S₁.cells x c (K.cells x c e)
      cases hf : env.func.isSome with
      | true => obtain ⟨_, _, v, ob', e2, _⟩ := h1 hf; rw [q, hI] at e2; cases e2
      | false => obtain ⟨ob', e2⟩ := h2 hf; have := S₁.hin _ _ e2; rw [q, hI] at this; cases this)
    hW hfp ((hW A R.handled).frame _ _ _ hW0 fun b _ ob e => old b ob e) hcls hP
  have fin : ∀ (r : Result) (s' : Shared), (s₂.toks ≤ s'.toks ∧ r = .ok .next ∧ ∃ Z' H' vs' m', Zle Z₁ Z' ∧ (∀ b, b ≠ I → b ≠ s₂.heap.objs.size → H' b = HH b) ∧ H' I = none ∧ H' s₂.heap.objs.size = some (listOf vs'.toArray m') ∧
      St G (compEnvC scope cl H2.objs.size env) Z' H' ρc s' ∧ RepAll G Z' vs' ([] ++ out)) → CompPost G Z s out (.ref s₂.heap.objs.size) H2.objs.size r s' := by
    rintro r s' ⟨tok, rfl, Z', H', vs', m', le', hH', hI', hD', S', hv'⟩
    have hDz : Z' s₂.heap.objs.size = none := by
      cases q : Z' s₂.heap.objs.size with
      | none => rfl
      | some ob => have := S'.dj _ ob q; rw [hD'] at this; cases this
    have le := Zadd.le (o := listOf vs'.toArray m') hDz
    have keep : ∀ b ob, s₁.heap.get? b = some ob → b ≠ I ∧ b ≠ s₂.heap.objs.size ∧ b ≠ H2.objs.size := fun b ob e => by
      have e2 := x₂.keep b ob e
      exact ⟨fun q => (by rw [q, hI] at e; cases e), (oldC b ob e2).2, (oldC b ob e2).1⟩
    refine ⟨rfl, Zadd Z' s₂.heap.objs.size (listOf vs'.toArray m'), x₁.trans ⟨le'.trans le, fun b ob e => ?_, fun b ob e => ?_, fun b ob e => ?_, S'.gens.trans S₁.gens.symm, S'.os.trans S₁.os.symm, Nat.le_trans x₂.tk tok⟩, .list Zadd.self (hv'.mono le), ?_, ?_, S'.ns⟩
    · obtain ⟨q1, q2, q3⟩ := keep b ob e
      cases q : Z₁ b with
      | none => exact S'.hin b ob (by rw [hH' b q1 q2]; exact HHto b ob q q3 (old b ob (x₂.keep b ob e)))
      | some oz => have := S₁.zin b oz q; rw [e] at this; cases this; exact S'.zin b ob (le' b ob q)
    · by_cases q : b = s₂.heap.objs.size
      · subst q; rw [Zadd.self] at e; cases e; exact S'.hin _ _ hD'
      · rw [show Zadd Z' s₂.heap.objs.size (listOf vs'.toArray m') b = Z' b from if_neg q] at e
        exact S'.zin b ob e
    · by_cases q : b = s₂.heap.objs.size
      · subst q; exact .inr hDn₁
      · rw [show Zadd Z' s₂.heap.objs.size (listOf vs'.toArray m') b = Z' b from if_neg q] at e
        cases q1 : s₁.heap.get? b with
        | none => exact .inr rfl
        | some o1 =>
          left
          obtain ⟨p1, p2, p3⟩ := keep b o1 q1
          cases q2 : Z₁ b with
          | some oz => have := le' b oz q2; rw [e] at this; cases this; rfl
          | none =>
            have h1 := HHto b o1 q2 p3 (old b o1 (x₂.keep b o1 q1))
            have := S'.dj b ob e
            rw [hH' b p1 p2, h1] at this; cases this
    · cases q : s.heap.get? H2.objs.size with
      | none => rfl
      | some ob => have := x₂.keep _ _ (x₁.keep _ _ q); rw [hCn] at this; cases this
    · rw [show Zadd Z' s₂.heap.objs.size (listOf vs'.toArray m') H2.objs.size = Z' H2.objs.size from if_neg (Ne.symm hDC)]
      exact S'.lz
  have loop' := codeAny_mono (codeAny_toks_of (n := s₂.toks) (by exact Nat.le_add_right _ _) loop) fin
  exact comp_start rfl ha loop' ((hW A R.handled).self 0 _ _ _ ((hW A R.handled).frame _ _ _ hW0 fun b _ ob e => old b ob e) loop')

theorem eval_ListComp' (elt : PySem.Expr) (g : Comprehension) (gs : List Comprehension) (scope : Scope) (pos : Pos) (ha : g.is_async = 0) (use : Option (Value → Sem Unit)) :
    comprehension (.ListComp elt (g :: gs) scope pos) scope env (firstIterPos (g :: gs) pos) (newList []) (firstAsync (g :: gs)) (firstIter (g :: gs) env) use =
      comprehension (.ListComp elt (g :: gs) scope pos) scope env (firstIterPos (g :: gs) pos) (newList []) false (eval g.iter env) use := by
  obtain ⟨t, i, f, a⟩ := g
  subst ha
  rfl

/-- y = [.. for .. in ..] on one line -/
theorem ex_assign_comp {y : Str} {py spos : Pos} {elt : PySem.Expr} {g : Comprehension} {gs : List Comprehension} {scope : Scope} {cl : List (Str × Addr)} {d : D} {ds out : List D} {Φ : Fl → Loc → Prop} (K : Scoped env scope cl ρ ρc) (ha : g.is_async = 0) (hs : ∀ x, foldedSetIterable g.iter env x = pure x)
    (hsw : swapsWith (.ListComp elt (g :: gs) scope pos) (some (.Name y py)) spos.line env = pure true)
    (h : Ev G env n ρ g.iter d) (hi : Itr G d ds) (run : ∀ C, CRun G (compEnvC scope cl C env) n (.ListComp elt (g :: gs) scope pos) 0 ρc ds out) (hsz : out.length ≤ sizeLine)
    (hc : Can env y) (k : Φ .next (upd ρ y (.val (.list out)))) : Ex G env n ρ (.Assign [.Name y py] (.ListComp elt (g :: gs) scope pos) spos) Φ := by
  constructor
  intro A Z H s R S
  rw [exec_Assign_Name_used _ _ _ _ hsw]
  refine wpAny_bind (wpAny_standAt (wpAny_bind ?_))
  show wpAny _ A (do let _ ← comprehension (.ListComp elt (g :: gs) scope pos) scope env (firstIterPos (g :: gs) pos) (newList []) (firstAsync (g :: gs)) (firstIter (g :: gs) env) (some (assign (.Name y py) env))) _ _ s
  rw [eval_ListComp' elt g gs scope pos ha (some (assign (.Name y py) env))]
  refine wpAny_bind (wpAny_mono (wpAny_comprehension_free (use := some (assign (.Name y py) env)) (Q := fun _ s' => ExPost G env Z H Φ .next s') rfl hs K.clos K.kind K.names
    (wpAny_mono (comp_core R S K ha h hi run hsz) (fun x s₁ h₁ => wpAny_mono h₁ (fun it s₂ h₂ => wpAny_mono h₂ (fun acc s₃ h₃ => wpAny_mono h₃ (fun cenv s₄ h₄ => codeAny_mono h₄ fun r s' hr => ?_) fun _ _ e => e) fun _ _ e => e) fun _ _ e => e) fun _ _ e => e)) (fun _ s' hq => wpAny_pure (wpAny_pure hq)) fun _ _ e => e)
  obtain ⟨rfl, Z', x, r, hC, hZC, m, hm⟩ := hr
  show wpAny _ A (assign (.Name y py) env acc) _ _ s'
  obtain ⟨oC, es, ep, hoC, hm'⟩ := id hm
  have S' := S.ext x
  have hB : G.base.get? cenv.locals = none := by
    cases q : G.base.get? cenv.locals with
    | none => rfl
    | some ob => have := S.keepBase _ ob q; rw [hC] at this; cases this
  have hH : H cenv.locals = none := by
    cases q : H cenv.locals with
    | none => rfl
    | some ob => have := S.hin _ ob q; rw [hC] at this; cases this
  have hCc : ∀ z c, env.cells.lookup z = some c → c ≠ cenv.locals := fun z c e q => by
    obtain ⟨_, h1, h2⟩ := S.cells z c e
    cases hf : env.func.isSome with
    | true => obtain ⟨_, _, v, ob', e2, _⟩ := h1 hf; rw [q, hC] at e2; cases e2
    | false => obtain ⟨ob', e2⟩ := h2 hf; have := S.hin _ _ e2; rw [q, hC] at this; cases this
  have hL : env.locals ≠ cenv.locals := fun q => by
    obtain ⟨m₀, o₀, _, _, e0, _⟩ := S.ns
    rw [q, hC] at e0; cases e0
  have SH : St G env Z' (Zadd H cenv.locals oC) ρ s' := by
    have ne : ∀ b, b ≠ cenv.locals → Zadd H cenv.locals oC b = H b := fun b hb => if_neg hb
    refine ⟨S'.fk, S'.gl, S'.bl, S'.gens, S'.os, S'.tk, S'.zin, fun a ob e => ?_, fun a ob e => ?_, fun a ob e => (S'.bas a ob e).elim .inl (fun q => .inr (Zadd.le hH _ _ q)), S'.ns, S'.lz, ?_, fun z c e => ?_, S'.inj, S'.vars, ?_⟩
    · by_cases q : a = cenv.locals
      · subst q; rw [Zadd.self] at e; cases e; exact hoC
      · rw [ne a q] at e; exact S'.hin a ob e
    · rw [ne a fun q => by rw [q, hZC] at e; cases e]; exact S'.dj a ob e
    · rw [ne _ hL]; exact S'.lh
    · obtain ⟨h0, h1, h2⟩ := S'.cells z c e
      refine ⟨h0, fun hf => ?_, fun hf => ?_⟩
      · obtain ⟨a, b, c'⟩ := h1 hf
        exact ⟨a, by rw [ne _ (hCc z c e)]; exact b, c'⟩
      · obtain ⟨ob, h⟩ := h2 hf
        exact ⟨ob, Zadd.le hH _ _ h⟩
    · obtain ⟨oa, hi, ho⟩ := S.owns
      refine ⟨oa, hi, fun z es e => ?_⟩
      obtain ⟨g1, g2, g3, g4, g5, vs, k, g6, g7⟩ := ho z es e
      exact ⟨g1.keeps x.keep, ext_none x g2 ⟨_, g6⟩, by rw [ne _ fun q => by rw [q, hC] at g6; cases g6]; exact g3, g4, g5, vs, k, x.keep _ _ g6, g7.mono x.le⟩
  refine wpAny_assign_Name (wp_seq (st_store SH r hc) fun _ s₅ S₅ => ?_)
  refine ⟨m, ⟨oC, es, ep, S₅.hin _ _ Zadd.self, hm'⟩, fun h₆ hs₆ => ?_⟩
  exact ⟨Z', _, .next, x.le, S₅.drop (t := s₅.toks) hB hCc hH (fun b ob hb e => (hs₆.2 b hb).trans e) (Nat.le_refl _), .next, k⟩

end
end Mine
end
section
open PySem PySem.W PyProof.Rows
set_option linter.unusedVariables false
namespace Mine

section
variable {G : Gnd} {env : Env} {Z Z' H H' : Zf} {ρ ρ' ρc : Loc} {s s' : Shared} {A : Around} {E : Value → Shared → Prop} {n : Nat} {pos apos : Pos}

theorem Bs.y {v : Value} {d : D} {t : Nat} (b : Bs G Z s) (ht : s.toks ≤ t) (r : Rep G Z v d) : ∃ Z', Ext Z s Z' { s with toks := t } ∧ Rep G Z' v d := ⟨Z, Ext.tok b.zin ht, r⟩

-- whole numbers
theorem op_add_int {a b : Int} : Op2 G (binaryOp .Add) (.int a) (.int b) (.int (a + b)) := Op2.mk fun A Z s v₁ v₂ R b r₁ r₂ => by cases r₁; cases r₂; exact add_int (b.y (Nat.le_succ _) (.int _ _))
theorem op_sub_int {a b : Int} : Op2 G (binaryOp .Sub) (.int a) (.int b) (.int (a - b)) := Op2.mk fun A Z s v₁ v₂ R b r₁ r₂ => by cases r₁; cases r₂; exact sub_int (b.y (Nat.le_succ _) (.int _ _))
theorem op_mul_int {a b : Int} (h : IntMulOk a b) : Op2 G (binaryOp .Mult) (.int a) (.int b) (.int (a * b)) := Op2.mk fun A Z s v₁ v₂ R b r₁ r₂ => by cases r₁; cases r₂; exact mul_int (b.y (Nat.le_succ _) (.int _ _)) h
theorem op_fdiv_int {a b : Int} (hb : b ≠ 0) (hp : Builtin.divisionGoesByPylong a b = false) : Op2 G (binaryOp .FloorDiv) (.int a) (.int b) (.int (a.fdiv b)) := Op2.mk fun A Z s v₁ v₂ R b r₁ r₂ => by cases r₁; cases r₂; exact floordiv_int hb (b.y (Nat.le_succ _) (.int _ _)) (.inl hp)
theorem op_mod_int {a b : Int} (hb : b ≠ 0) : Op2 G (binaryOp .Mod) (.int a) (.int b) (.int (a.fmod b)) := Op2.mk fun A Z s v₁ v₂ R b r₁ r₂ => by cases r₁; cases r₂; exact mod_int' hb (b.y (Nat.le_succ _) (.int _ _))
theorem op_iadd_int {a b : Int} : Op2 G (inplaceOp .Add) (.int a) (.int b) (.int (a + b)) := Op2.mk fun A Z s v₁ v₂ R b r₁ r₂ => by cases r₁; cases r₂; exact iadd_int (b.y (Nat.le_succ _) (.int _ _))
theorem op_eq_int {a b : Int} : Op2 G (compareOp .Eq) (.int a) (.int b) (.bool (a == b)) := Op2.mk fun A Z s v₁ v₂ R b r₁ r₂ => by cases r₁; cases r₂; exact eq_int ⟨Z, b.same, .bool _⟩
theorem op_ne_int {a b : Int} : Op2 G (compareOp .NotEq) (.int a) (.int b) (.bool (a != b)) := Op2.mk fun A Z s v₁ v₂ R b r₁ r₂ => by cases r₁; cases r₂; exact ne_int ⟨Z, b.same, .bool _⟩
theorem op_lt_int {a b : Int} : Op2 G (compareOp .Lt) (.int a) (.int b) (.bool (decide (a < b))) := Op2.mk fun A Z s v₁ v₂ R b r₁ r₂ => by cases r₁; cases r₂; exact lt_int ⟨Z, b.same, .bool _⟩
theorem op_gt_int {a b : Int} : Op2 G (compareOp .Gt) (.int a) (.int b) (.bool (decide (b < a))) := Op2.mk fun A Z s v₁ v₂ R b r₁ r₂ => by cases r₁; cases r₂; exact gt_int ⟨Z, b.same, .bool _⟩
theorem op_le_int {a b : Int} : Op2 G (compareOp .LtE) (.int a) (.int b) (.bool (decide (a ≤ b))) := Op2.mk fun A Z s v₁ v₂ R b r₁ r₂ => by cases r₁; cases r₂; exact le_int ⟨Z, b.same, .bool _⟩
theorem op_ge_int {a b : Int} : Op2 G (compareOp .GtE) (.int a) (.int b) (.bool (decide (b ≤ a))) := Op2.mk fun A Z s v₁ v₂ R b r₁ r₂ => by cases r₁; cases r₂; exact ge_int ⟨Z, b.same, .bool _⟩

-- texts
theorem op_add_str {x y : Str} (h : x.length + y.length ≤ sizeLine) : Op2 G (binaryOp .Add) (.str x) (.str y) (.str (x ++ y)) := Op2.mk fun A Z s v₁ v₂ R b r₁ r₂ => by cases r₁; cases r₂; exact wp_tok (add_str (fun t k tok => b.y tok (.str _ _)) h)
theorem op_iadd_str {x y : Str} (h : x.length + y.length ≤ sizeLine) : Op2 G (inplaceOp .Add) (.str x) (.str y) (.str (x ++ y)) := Op2.mk fun A Z s v₁ v₂ R b r₁ r₂ => by cases r₁; cases r₂; exact wp_tok (iadd_str (fun t k tok => b.y tok (.str _ _)) h)
theorem op_eq_str {x y : Str} : Op2 G (compareOp .Eq) (.str x) (.str y) (.bool (x == y)) := Op2.mk fun A Z s v₁ v₂ R b r₁ r₂ => by cases r₁; cases r₂; exact eq_str ⟨Z, b.same, .bool _⟩
theorem op_ne_str {x y : Str} : Op2 G (compareOp .NotEq) (.str x) (.str y) (.bool (x != y)) := Op2.mk fun A Z s v₁ v₂ R b r₁ r₂ => by cases r₁; cases r₂; exact ne_str ⟨Z, b.same, .bool _⟩
/-- is the one text in the other -/
def tin (y x : Str) : Bool := !(Builtin.Str.occurrences x y 0 x.length 1).isEmpty
theorem op_in_str {x y : Str} : Op2 G (compareOp .In) (.str y) (.str x) (.bool (tin y x)) := Op2.mk fun A Z s v₁ v₂ R b r₁ r₂ => by cases r₁; cases r₂; exact PyProof.Rows.in_str ⟨Z, b.same, .bool _⟩
theorem op_notin_str {x y : Str} : Op2 G (compareOp .NotIn) (.str y) (.str x) (.bool (!tin y x)) := Op2.mk fun A Z s v₁ v₂ R b r₁ r₂ => by cases r₁; cases r₂; exact notIn_str ⟨Z, b.same, .bool _⟩

theorem bf_len_str {x : Str} (h : x.length ≤ sizeLine) : BF G "len" [.str x] (.int x.length) := BF.mk fun A Z s vs R b r => by
  cases r with | cons r rs => cases rs; cases r; exact SBL.len (by rw [sizeLine_eq] at h; omega) (b.y (by omega) (.int _ _))
theorem isList_of {a : Addr} {vs : List Value} {k : Nat} {h : Heap} (e : h.get? a = some (listOf vs.toArray k)) : h.IsList a vs.toArray := ⟨_, e, rfl, _, rfl⟩
theorem bf_len_list {ds : List D} (h : ds.length ≤ sizeLine) : BF G "len" [.list ds] (.int ds.length) := BF.mk fun A Z s vs R b r => by
  cases r with
  | cons r rs =>
    cases rs
    cases r with
    | list hz ra => exact len_list (isList_of (b.zin _ _ hz)) (by rw [List.size_toArray, ra.length]; rw [sizeLine_eq] at h; omega) (b.y (by omega) (by rw [List.size_toArray, ra.length]; exact .int _ _))
theorem bf_chr {i : Int} (h0 : 0 ≤ i) (h1 : i ≤ 1114111) : BF G "chr" [.int i] (.str ⟨#[i.toNat]⟩) := BF.mk fun A Z s vs R b r => by
  cases r with | cons r rs => cases rs; cases r; exact chr_of_range h0 h1 (b.y (Nat.le_succ _) (.str _ _))

-- truth
theorem tr_bool {b : Bool} : Tr G (.bool b) b := Tr.mk fun A Z s v R b r => by cases r; exact wpAny_truthy_bool ⟨rfl, b.same⟩

-- items
theorem slOk (slice : PySem.Expr) (o i : Value) : ∃ ops, subscripted slice false o i = operate ops (getItem o i) := by
  unfold subscripted
  split
  · exact ⟨_, rfl⟩
  · rename_i h; cases h
  · exact ⟨_, rfl⟩
theorem tail_all {value slice : PySem.Expr} {o i : Value} {T id : String} {Q : Value → Shared → Prop} (hT : s.TypeIs o T) (hl : typeLookup (.type T) "__getitem__" = pure (some (.builtin id))) (hg : wpAny (model G.prog G.w) A (getItem o i) Q E s) :
    wpAny (model G.prog G.w) A (subscriptTail value slice o i) Q E s := let ⟨_, e⟩ := slOk slice o i; tail_any hT hl hg e

theorem sb_str {value slice : PySem.Expr} {x : Str} {i : Int} {c : Nat} (h0 : 0 ≤ i) (hb : i < 2 ^ 63) (hc : x.cps[i.toNat]? = some c) : Sb G value slice (.str x) (.int i) (.str ⟨#[c]⟩) := Op2.mk fun A Z s v₁ v₂ R b r₁ r₂ => by
  cases r₁; cases r₂
  have hlt : i.toNat < x.cps.size := (Array.getElem?_eq_some_iff.mp hc).1
  have hl : x.length = x.cps.size := rfl
  refine tail_all (typeIs_str _ _ _) F.slot_str_getitem.lookup (PyProof.Rows.getItem_str (by simp; omega) ?_ (b.y (Nat.le_succ _) (.str _ _)))
  have e : seqIndex? i x.length = some i.toNat := by
    unfold seqIndex?
    have h1 : ¬ i < 0 := by omega
    have h2 : i < (x.length : Int) := by rw [hl]; omega
    simp [h1, h0, h2]
  rw [e]; exact hc
theorem sb_list {value slice : PySem.Expr} {ds : List D} {i : Int} {d : D} (h0 : 0 ≤ i) (h1 : i < 2 ^ 63) (hd : ds[i.toNat]? = some d) : Sb G value slice (.list ds) (.int i) d := Op2.mk fun A Z s v₁ v₂ R b r₁ r₂ => by
  cases r₂
  cases r₁ with
  | list hz ra =>
    obtain ⟨v, hv, rv⟩ := ra.get hd
    have hl := isList_of (b.zin _ _ hz)
    exact tail_all hl.typeIs slot_list_getitem.lookup (wpAny_getItem_list hl h0 h1 (by simpa using hv) ⟨Z, b.same, rv⟩)
-- tables
def dget (ks : List Str) (ds : List D) (x : Str) : Option D := (ks.zip ds).lookup x
theorem dget_some : ∀ {kvs : List (Str × Value)} {ds : List D} {x : Str} {d : D}, RepAll G Z (kvs.map (·.2)) ds → dget (kvs.map (·.1)) ds x = some d → ∃ v, valueAt kvs x = some v ∧ Rep G Z v d
  | [], _, _, _, _, h => by simp [dget] at h
  | (k, v) :: kvs, _, x, d, .cons r rs, h => by
    unfold dget at h
    simp only [List.map_cons, List.zip_cons_cons, List.lookup_cons] at h
    by_cases q : x = k
    · subst q; simp at h; subst h; exact ⟨v, by simp [valueAt], r⟩
    · rw [beq_eq_false_iff_ne.mpr q] at h
      obtain ⟨w, e, rw'⟩ := dget_some rs h
      exact ⟨w, by simpa [valueAt, Ne.symm q] using e, rw'⟩
theorem dget_none : ∀ {kvs : List (Str × Value)} {ds : List D} {x : Str}, RepAll G Z (kvs.map (·.2)) ds → dget (kvs.map (·.1)) ds x = none → valueAt kvs x = none
  | [], _, _, _, _ => rfl
  | (k, v) :: kvs, _, x, .cons r rs, h => by
    unfold dget at h
    simp only [List.map_cons, List.zip_cons_cons, List.lookup_cons] at h
    by_cases q : x = k
    · subst q; simp at h
    · rw [beq_eq_false_iff_ne.mpr q] at h
      simpa [valueAt, Ne.symm q] using dget_none rs h
theorem dget_isSome {kvs : List (Str × Value)} {ds : List D} {x : Str} (r : RepAll G Z (kvs.map (·.2)) ds) : (valueAt kvs x).isSome = (dget (kvs.map (·.1)) ds x).isSome := by
  cases h : dget (kvs.map (·.1)) ds x with
  | none => rw [dget_none r h]; rfl
  | some d => obtain ⟨v, e, _⟩ := dget_some r h; rw [e]; rfl
theorem dictOf_of {a : Addr} {o : Obj} {h : Heap} {kvs : List (Str × Value)} (e : h.get? a = some o) (hd : o.IsDictOf (strKind G.prog G.w) kvs) : h.DictOf (strKind G.prog G.w) a kvs := Heap.dictOf_iff.mpr ⟨o, e, hd⟩
theorem op_in_dict {ks : List Str} {ds : List D} {x : Str} : Op2 G (compareOp .In) (.str x) (.dict ks ds) (.bool (dget ks ds x).isSome) := Op2.mk fun A Z s v₁ v₂ R b r₁ r₂ => by
  cases r₁
  cases r₂ with
  | dict hz hs hd ra => exact wpAny_in_of (strKind_is _ _ _ _) hs (dictOf_of (b.zin _ _ hz) hd).mapOf (b.y (Nat.le_succ _) (by rw [dget_isSome ra]; exact .bool _))
theorem op_notin_dict {ks : List Str} {ds : List D} {x : Str} : Op2 G (compareOp .NotIn) (.str x) (.dict ks ds) (.bool (!(dget ks ds x).isSome)) := Op2.mk fun A Z s v₁ v₂ R b r₁ r₂ => by
  cases r₁
  cases r₂ with
  | dict hz hs hd ra => exact wpAny_notIn_of (strKind_is _ _ _ _) hs (dictOf_of (b.zin _ _ hz) hd).mapOf (b.y (Nat.le_succ _) (by rw [dget_isSome ra]; exact .bool _))
theorem sb_dict {value slice : PySem.Expr} {ks : List Str} {ds : List D} {x : Str} {d : D} (h : dget ks ds x = some d) : Sb G value slice (.dict ks ds) (.str x) d := Op2.mk fun A Z s v₁ v₂ R b r₁ r₂ => by
  cases r₂
  cases r₁ with
  | dict hz hs hd ra =>
    obtain ⟨v, e, rv⟩ := dget_some ra h
    have hm := dictOf_of (b.zin _ _ hz) hd
    exact tail_all hm.typeIs slot_dict_getitem.lookup (wpAny_getItem_of (strKind_is _ _ _ _) hm.mapOf e (b.y (Nat.le_succ _) rv))
/-- a written table of texts -/
inductive ConstPairs : List (Option PySem.Expr) → List PySem.Expr → List (Str × Str) → Prop
  | nil : ConstPairs [] [] []
  | cons {k v : Str} {c c' : Nat} {p p' : Pos} {ks : List (Option PySem.Expr)} {vs : List PySem.Expr} {r : List (Str × Str)} : ConstPairs ks vs r → ConstPairs (some (.Constant (.str k) c p) :: ks) (.Constant (.str v) c' p' :: vs) ((k, v) :: r)
theorem const_shape {ks : List (Option PySem.Expr)} {vs : List PySem.Expr} {r : List (Str × Str)} (h : ConstPairs ks vs r) : ∃ pairs : List (Sem Value × Sem Value), pairs.length = r.length ∧ (pairs = [] → r = []) ∧
    (evalEachOpt ks env).zip ((evalEach vs env).map fun v => do let x ← v; standAt pos; pure x) = pairs.map (fun p => (some p.1, p.2)) ∧
    ∀ (M : Model) (prog : Program) (w : World) (A : Around) (E : Value → Shared → Prop) (s : Shared) (Q : List (Value × Value) → Shared → Prop),
      (∀ (us : List (Value × Value)) (kvs : List (Str × Value)) (t : Nat), s.toks ≤ t → Carries (strKind prog w) us kvs → kvs.map (·.1) = r.map (·.1) → (∀ Z, RepAll G Z (kvs.map (·.2)) (r.map fun p => .str p.2)) → us.length = r.length → Q us { s with toks := t }) →
      wpAny (model prog w) A (evalPairs pairs) Q E s := by
  induction h with
  | nil => exact ⟨[], rfl, fun _ => rfl, rfl, fun M prog w A E s Q h => evalPairs_nil (h [] [] s.toks (Nat.le_refl _) trivial rfl (fun _ => .nil) rfl)⟩
  | @cons k v c c' p p' ks vs r _ ih =>
    obtain ⟨pairs, hl, _, he, hw⟩ := ih
    refine ⟨(eval (.Constant (.str k) c p) env, (do let x ← eval (.Constant (.str v) c' p') env; standAt pos; pure x)) :: pairs, by simp [hl], fun h => (by cases h), ?_, fun M prog w A E s Q h => ?_⟩
    · show ((some (eval (.Constant (.str k) c p) env), _) :: _) = _
      rw [List.map_cons, ← he]
      rfl
    · refine evalPairs_cons (Calls.Constant_str (wpAny_bind (Calls.Constant_str (wpAny_bind (wpAny_standAt (wpAny_pure ?_))))))
      refine hw M prog w A E _ _ fun us kvs t ht hc hk hr hus => ?_
      refine h _ ((k, .str v (s.toks + 1)) :: kvs) t (by have : s.toks + 1 + 1 ≤ t := ht; omega) ⟨strKind_is _ _ _ _, rfl, hc⟩ (by simp [hk]) (fun Z => .cons (.str _ _) (hr Z)) (by simp [hus])

theorem merged_new {K : Type} [DecidableEq K] : ∀ (more acc : List (K × Value)), ((acc ++ more).map (·.1)).Nodup → merged acc more = acc ++ more
  | [], acc, _ => by simp [merged]
  | (k, v) :: more, acc, h => by
    have hk : acc.any (fun kv => kv.1 = k) = false := by
      rw [List.any_eq_false]
      intro kv hkv
      simp only [decide_eq_true_eq]
      intro q
      rw [List.map_append, List.nodup_append] at h
      exact h.2.2 kv.1 (List.mem_map_of_mem hkv) k (by simp) q
    have e : merged acc ((k, v) :: more) = merged (acc ++ [(k, v)]) more := by
      show merged (stored acc k v) more = _
      unfold stored
      rw [hk]; rfl
    rw [e, merged_new more (acc ++ [(k, v)]) (by simpa using h)]
    simp

theorem ev_dict {ks : List (Option PySem.Expr)} {vs : List PySem.Expr} {r : List (Str × Str)} (h : ConstPairs ks vs r) (h0 : r ≠ []) (hl : r.length ≤ 15) (hn : (r.map (·.1)).Nodup) : Ev G env n ρ (.Dict ks vs pos) (.dict (r.map (·.1)) (r.map fun p => .str p.2)) := by
  constructor
  intro A Z H s R S
  obtain ⟨pairs, hp, hp0, he, hw⟩ := const_shape (G := G) (env := env) (pos := pos) h
  refine wp_tok (wpAny_Dict_pairs (knd := strKind G.prog G.w) he (fun q => h0 (hp0 q)) (by omega) (hw ⟨denote table, G.prog, G.w⟩ G.prog G.w A _ _ _ fun us kvs t ht hc hk hr hus => ⟨kvs, hc, ?_, fun h' hd hs tok => ?_⟩))
  · exact Heap.dictOf_iff.mpr ⟨_, Heap.get?_push_size _ rfl, #[], 0, ⟨rfl, rfl, rfl⟩, rfl, fun e he => by simp at he, .nil, List.nodup_nil⟩
  · have hm : merged [] kvs = kvs := by rw [merged_new kvs [] (by simpa [hk] using hn)]; rfl
    rw [hm] at hd
    obtain ⟨o, ho, hod⟩ := Heap.dictOf_iff.mp hd
    have hlow : (s.heap.objs.size == sysModules) = false := by
      have := modules_low S.bs.nolimit
      rw [beq_eq_false_iff_ne]; exact Nat.ne_of_gt this
    have hZn : Z s.heap.objs.size = none := by
      cases q : Z s.heap.objs.size with
      | none => rfl
      | some ob => have := S.zin _ _ q; rw [get?_size_none] at this; cases this
    have le := Zadd.le (o := o) hZn
    have keep : ∀ b ob, s.heap.get? b = some ob → h'.get? b = some ob := fun b ob e => hs.extBut b ob (Nat.ne_of_lt (Heap.lt_size e)) (Heap.get?_push_of_some _ e)
    refine ⟨Zadd Z s.heap.objs.size o, ⟨le, keep, fun b ob e => ?_, fun b ob e => ?_, rfl, rfl, tok⟩, ?_⟩
    · by_cases q : b = s.heap.objs.size
      · subst q; rw [Zadd.self] at e; cases e; exact ho
      · rw [show Zadd Z s.heap.objs.size o b = Z b from if_neg q] at e; exact keep _ _ (S.zin _ _ e)
    · by_cases q : b = s.heap.objs.size
      · subst q; exact .inr (get?_size_none _)
      · rw [show Zadd Z s.heap.objs.size o b = Z b from if_neg q] at e; exact .inl e
    · rw [← hk]; exact .dict Zadd.self hlow hod (hr _)

end
end Mine
end
section
open PySem PySem.W PyProof.Rows
set_option linter.unusedVariables false
namespace Mine

section
variable {G : Gnd} {env : Env} {Z Z' H H' : Zf} {ρ ρ' ρc : Loc} {s s' : Shared} {A : Around} {E : Value → Shared → Prop} {n : Nat} {pos apos : Pos}

/-- an object is made that is not frozen -/
theorem Ext.push {o : Obj} {t : Nat} (hz : ∀ a o, Z a = some o → s.heap.get? a = some o) (ht : s.toks ≤ t) : Ext Z s Z { s with heap := s.heap.push o, toks := t } :=
  ⟨Zle.same, fun a ob h => Heap.get?_push_of_some _ h, fun a ob h => Heap.get?_push_of_some _ (hz a ob h), fun _ _ h => .inl h, rfl, rfl, ht⟩

-- what is gone through
theorem itr_list {ds : List D} : Itr G (.list ds) ds := Itr.mk fun A Z s v R b r => by
  cases r with
  | @list a vs k _ hz ra =>
    have hl := isList_of (b.zin _ _ hz)
    refine wpAny_pyIter_list hl ⟨s.heap.objs.size, [s.heap.objs.size, a], fun i v => vs.toArray[i]? = some v, fun i h => h.IsListIter s.heap.objs.size a i ∧ h.IsList a vs.toArray, rfl, Ext.push (t := s.toks) b.zin (Nat.le_refl _), get?_size_none _, fun A' hA => ?_, ?_, ?_, ?_, ?_⟩
    · have := Walks.list (prog := G.prog) (w := G.w) hA s.heap.objs.size a (fun q => by have := b.zin _ _ hz; rw [q, get?_size_none] at this; cases this) vs.toArray
      have e : vs.toArray.size = ds.length := by rw [List.size_toArray, ra.length]
      rw [e] at this; exact toWG this
    · intro c hc
      rcases List.mem_cons.mp hc with rfl | hc
      · exact .inl rfl
      · rw [List.mem_singleton] at hc; subst hc; exact .inr ⟨_, hz⟩
    · exact ⟨⟨_, Heap.get?_push_size _ rfl, rfl, rfl⟩, hl.push _⟩
    · rintro i h ⟨⟨o, ho, hc, _⟩, _⟩
      exact ⟨o, _, ho, hc, by decide⟩
    · intro i v hv
      have hv' : vs[i]? = some v := by simpa using hv
      have hlt : i < ds.length := by rw [← ra.length]; exact (List.getElem?_eq_some_iff.mp hv').1
      obtain ⟨w, hw, rw'⟩ := ra.get (i := i) (d := ds[i]) (by simp [hlt])
      rw [hv'] at hw; cases hw
      exact ⟨ds[i], by simp [hlt], rw'⟩

theorem itr_dict {ks : List Str} {ds : List D} : Itr G (.dict ks ds) (ks.map .str) := Itr.mk fun A Z s v R b r => by
  cases r with
  | @dict a o kvs _ hz hs hd ra =>
    have hd' := hd
    obtain ⟨es, ep, hx, hdat, hk, hp, hn⟩ := hd'
    have hm : s.heap.DictAt (strKind G.prog G.w) a kvs ep := ⟨o, es, b.zin _ _ hz, hx, hdat, hk, hp, hn⟩
    refine wpAny_pyIter_dict hs hm ⟨s.heap.objs.size, [s.heap.objs.size, a], fun i v => ∃ k x, kvs[i]? = some (k, x) ∧ (strKind G.prog G.w).is k v = true, fun i h => h.IsKeyIter s.heap.objs.size a i kvs.length ep ∧ h.DictAt (strKind G.prog G.w) a kvs ep, rfl, Ext.push (t := s.toks) b.zin (Nat.le_refl _), get?_size_none _, fun A' hA => ?_, ?_, ?_, ?_, ?_⟩
    · have := Walks.dictKeys (prog := G.prog) (w := G.w) (knd := strKind G.prog G.w) hA s.heap.objs.size a (fun q => by have := b.zin _ _ hz; rw [q, get?_size_none] at this; cases this) kvs ep
      exact toWG (by simpa using this)
    · intro c hc
      rcases List.mem_cons.mp hc with rfl | hc
      · exact .inl rfl
      · rw [List.mem_singleton] at hc; subst hc; exact .inr ⟨_, hz⟩
    · exact ⟨⟨_, Heap.get?_push_size _ rfl, rfl, rfl⟩, ⟨o, es, Heap.get?_push_of_some _ (b.zin _ _ hz), hx, hdat, hk, hp, hn⟩⟩
    · rintro i h ⟨⟨o, ho, hc, _⟩, _⟩
      exact ⟨o, _, ho, hc, by decide⟩
    · rintro i v ⟨k, x, hkx, hv⟩
      obtain ⟨t, rfl⟩ := Value.isStrOf_shape hv
      exact ⟨.str k, by simp [hkx], .str _ _⟩


-- cuts
end
end Mine
end
section
open PySem PySem.W PyProof.Rows PySem.Builtin PySem.Builtin.Str
set_option linter.unusedVariables false
set_option maxRecDepth 100000
namespace Mine

section
variable {G : Gnd} {env : Env} {Z Z' H H' : Zf} {ρ ρ' ρc : Loc} {s s' : Shared} {A : Around} {E : Value → Shared → Prop} {n : Nat} {pos apos : Pos}

-- rows of texts
abbrev txs (xs : List Str) : List D := xs.map .str
theorem strs_of_repAll : ∀ {vs : List Value} {xs : List Str}, RepAll G Z vs (txs xs) → ∃ l, strValues l = vs ∧ l.map (·.1) = xs
  | [], [], _ => ⟨[], rfl, rfl⟩
  | v :: vs, x :: xs, .cons r rs => by
    obtain ⟨l, e1, e2⟩ := strs_of_repAll rs
    cases r with
    | str _ t => exact ⟨(x, t) :: l, by rw [← e1]; rfl, by rw [← e2]; rfl⟩
-- methods of texts
theorem getm_str {name : Str} {id : String} {x : Str} (slot : Slot "str" name id) (hty : typeOf (.builtin id) = pure (.type "method_descriptor")) : GetM G name (.str x) id :=
  GetM.mk fun M A pl Z s v Q E hz r h => by cases r; exact getMethod_builtin (typeIs_str _ _ _) F.plainAttrs_str slot hty (fun a e => (by cases e)) h

theorem bf_count {x y : Str} : BF G "str.count" [.str x, .str y] (.int (Txt.count x y)) := BF.mk fun A Z s vs R b r => by
  cases r with | cons r rs => cases rs with | cons r₂ rs => cases rs; cases r; cases r₂; exact SC.count (b.y (Nat.le_succ _) (.int _ _))
theorem bf_startswith3 {x y : Str} {i : Int} : BF G "str.startswith" [.str x, .str y, .int i] (.bool (Txt.startswith3 x y i)) := BF.mk fun A Z s vs R b r => by
  cases r with | cons r rs => cases rs with | cons r₂ rs => cases rs with | cons r₃ rs => cases rs; cases r; cases r₂; cases r₃; exact SC.startswith3 ⟨Z, b.same, .bool _⟩
/-- x.replace('..', '..') with two written texts -/
theorem ev_replace {o : PySem.Expr} {x y z : Str} {c c' : Nat} {p p' : Pos} {pl : Sem Bool} (ho : Ev G env n ρ o (.str x)) (hb : x.length + (x.length + 1) * z.length ≤ 16777216)
    (he : eval (.Call (.Attribute o "replace" apos) [.Constant (.str y) c p, .Constant (.str z) c' p'] [] pos) env = (do
      let ov ← eval o env
      standAt apos.atName
      let (f, first) ← holding [ov] (getMethod ov "replace" pl)
      callWith pos f first (backTo pos (starEach [.Constant (.str y) c p, .Constant (.str z) c' p'] env)) [])) :
    Ev G env n ρ (.Call (.Attribute o "replace" apos) [.Constant (.str y) c p, .Constant (.str z) c' p'] [] pos) (.str (Txt.replace x y z)) := by
  constructor
  intro A Z H s R S
  refine MethodCall_ (wp_seq (ho.run A Z H s R S) fun v s₁ ⟨Z₁, x₁, r₁⟩ => ?_) he
  have S₁ := S.ext x₁
  cases r₁ with
  | str x t =>
    refine getMethod_builtin (typeIs_str _ _ _) F.plainAttrs_str F.slot_str_replace F.type_str_replace (fun a e => (by cases e)) ?_
    refine Calls.callWith_builtin rfl (wp_evalArgs rfl (spliced_more (Calls.Constant_str (spliced_more (Calls.Constant_str (spliced_none ?_))))))
    have tk := S₁.tk
    refine wpAny_with_toks (n := s₁.toks) (by show s₁.toks ≤ s₁.toks + 1 + 1; omega) (SC.replaceA (s := { s₁ with toks := s₁.toks + 1 + 1 }) (by show s₁.toks ≠ 0; omega) (by show s₁.toks + 1 ≠ 0; omega) (by show s₁.toks ≠ s₁.toks + 1; omega) hb (fun t' k tok => ⟨Z₁, x₁.trans (Ext.tok S₁.zin tok), .str _ _⟩) S₁.bs.nb)

/-- try, where nothing is raised -/
theorem ex_try {body : List Stmt} {h₀ : ExceptHandler} {hs : List ExceptHandler} {Φ : Fl → Loc → Prop} (h : Exs G env n ρ body Φ) : Ex G env n ρ (.Try body (h₀ :: hs) [] [] pos) Φ :=
  Ex.mk fun A Z H s R S => wpAny_Try_except (wpAny_mono (h.run A Z H s R S) (fun f s₁ h₁ => by
    cases f with
    | next => exact wpAny_execs_nil h₁
    | _ => exact h₁) fun _ _ x => x.elim)

-- rows compared
open PySem.SeqAt in
theorem op_eq_nil {ds : List D} : Op2 G (compareOp .Eq) (.list ds) (.list []) (.bool ds.isEmpty) := Op2.mk fun A Z s v₁ v₂ R b r₁ r₂ => by
  cases r₁ with
  | list hz ra =>
    cases r₂ with
    | list hz' ra' =>
      cases ra'
      have hl := isList_of (b.zin _ _ hz)
      have hl' := isList_of (b.zin _ _ hz')
      cases ra with
      | nil => exact eq_listAt (e := fun _ => true) hl hl' rfl (by have := R.units; omega) (fun j h1 _ => absurd h1 (by simp)) ⟨Z, b.same, .bool _⟩
      | cons r rs => exact eq_list_lengthsAt hl hl' (by simp) (by have := R.units; omega) ⟨Z, b.same, .bool _⟩
open PySem.SeqAt in
theorem op_ne_nil {ds : List D} : Op2 G (compareOp .NotEq) (.list ds) (.list []) (.bool (!ds.isEmpty)) := Op2.mk fun A Z s v₁ v₂ R b r₁ r₂ => by
  cases r₁ with
  | list hz ra =>
    cases r₂ with
    | list hz' ra' =>
      cases ra'
      have hl := isList_of (b.zin _ _ hz)
      have hl' := isList_of (b.zin _ _ hz')
      cases ra with
      | nil => exact RcNeAt.lists (e := fun _ => true) hl hl' rfl (by have := R.units; omega) (fun j h1 _ => absurd h1 (by simp)) G.prog G.w _ _ ⟨Z, b.same, .bool _⟩
      | cons r rs => exact RcNeAt.lists_lengths hl hl' (by simp) (by have := R.units; omega) G.prog G.w _ _ ⟨Z, b.same, .bool _⟩

end
end Mine
end
section
open PySem PySem.W PyProof.Rows
set_option linter.unusedVariables false
set_option maxRecDepth 100000
namespace Mine
def stOf (p : Program) (i : Nat) : Stmt := p.main.body.getD i (.Pass ⟨0, 0, 0, 0⟩)
def bodyOf : Stmt → List Stmt
  | .FunctionDef _ _ b _ _ _ _ _ _ _ => b
  | _ => []
def fdOf (st : Stmt) (doc pm cdv ct : Value) : FuncData := match st with
  | .FunctionDef name args body _ _ _ scope _ _ _ => fnX name name args body scope [] .none .none doc pm none cdv ct
  | _ => default

section
variable {G : Gnd} {env : Env} {Z Z' H H' : Zf} {ρ ρ' ρc : Loc} {s s' : Shared} {A : Around} {E : Value → Shared → Prop} {n : Nat} {pos apos : Pos}

theorem sub_nil : Sub [] ρ := fun x b h => by simp at h
theorem sub_cons {x : Str} {b : B} (h : ρ'.lookup x = some b) (hs : Sub ρ ρ') : Sub ((x, b) :: ρ) ρ' := fun y c e => by
  rw [List.lookup_cons] at e
  by_cases q : y = x
  · subst q; simp at e; subst e; exact h
  · rw [beq_eq_false_iff_ne.mpr q] at e; exact hs y c e
theorem exs_weaken {sts : List Stmt} {Φ : Fl → Loc → Prop} (hs : Sub ρ ρ') (h : Exs G env n ρ sts Φ) : Exs G env n ρ' sts Φ := Exs.mk fun A Z H s R S => h.run A Z H s R (S.weaken hs)
theorem asg_weaken {e : PySem.Expr} {d : D} {ρ'' : Loc} (hs : Sub ρ ρ') (h : Asg G env e d ρ ρ'') : Asg G env e d ρ' ρ'' := Asg.mk fun A Z H s v R S r => h.run A Z H s v R (S.weaken hs) r

/-- a for, by what is known of the names at each turn -/
theorem ex_forI {tgt iter : PySem.Expr} {body : List Stmt} {d : D} {ds : List D} {Φ : Fl → Loc → Prop} (I : Nat → Loc) (h : Ev G env n ρ iter d) (hi : Itr G d ds) (h0 : Sub (I 0) ρ)
    (turn : ∀ i d, ds[i]? = some d → ∃ ρ'', Asg G env tgt d (I i) ρ'' ∧ Exs G env n ρ'' body (LoopPost Φ (Sub (I (i + 1)))))
    (done : ∀ ρ', Sub (I ds.length) ρ' → Φ .next ρ') (hs : ∀ x, foldedSetIterable iter env x = pure x) : Ex G env n ρ (.For tgt iter body [] pos) Φ :=
  ex_for (fun i ρ' => Sub (I i) ρ') h hi h0 (fun i d ρ' hd hsub => by
    obtain ⟨ρ'', ha, hb⟩ := turn i d hd
    exact ⟨ρ'', asg_weaken hsub ha, hb⟩) done hs

/-- a while, by what is known of the names at each turn -/
theorem ex_whileI {t : PySem.Expr} {body : List Stmt} {Φ : Fl → Loc → Prop} {σ : Type} (I : σ → Loc) (m : σ → Nat) (P : σ → Prop) (c₀ : σ) (h0 : Sub (I c₀) ρ) (hp : P c₀)
    (turn : ∀ c, P c → ∃ b, Tst G env n (I c) t b ∧ (b = true → Exs G env n (I c) body (LoopPost Φ fun ρ' => ∃ c', m c' < m c ∧ P c' ∧ Sub (I c') ρ')) ∧ (b = false → ∀ ρ', Sub (I c) ρ' → Φ .next ρ')) : Ex G env n ρ (.While t body [] pos) Φ := by
  refine ex_while (fun k ρ' => ∃ c, k = m c ∧ P c ∧ Sub (I c) ρ') ⟨c₀, rfl, hp, h0⟩ ?_
  rintro k ρ' ⟨c, rfl, hpc, hsub⟩
  obtain ⟨b, ht, h1, h2⟩ := turn c hpc
  refine ⟨b, Tst.mk fun A Z H s R S => ht.run A Z H s R (S.weaken hsub), fun hb => ?_, fun hb => h2 hb ρ' hsub⟩
  refine exs_mono (exs_weaken hsub (h1 hb)) ?_
  rintro fl ρ'' h
  cases fl with
  | next => obtain ⟨c', hl, hp', hs'⟩ := h; exact ⟨m c', hl, c', rfl, hp', hs'⟩
  | cont => obtain ⟨c', hl, hp', hs'⟩ := h; exact ⟨m c', hl, c', rfl, hp', hs'⟩
  | brk => exact h
  | ret d => exact h

theorem then_next {Φ : Fl → Loc → Prop} {K : Loc → Prop} (h : K ρ) : Then Φ K .next ρ := h


-- cheap looks at the text
theorem star_cons {e : PySem.Expr} {es : List PySem.Expr} (h : isStarred e = false) : starEach (e :: es) env = (false, eval e env) :: starEach es env := by
  cases e <;> first | rfl | cases h
theorem star_all : ∀ {es : List PySem.Expr}, es.any isStarred = false → (starEach es env).any (·.1) = false
  | [], _ => rfl
  | e :: es, h => by
    rw [List.any_cons, Bool.or_eq_false_iff] at h
    rw [star_cons h.1, List.any_cons, star_all h.2]; rfl
theorem evs_more {e : PySem.Expr} {es : List PySem.Expr} {d : D} {ds : List D} (h : Ev G env n ρ e d) (h' : Evs G env n ρ es ds) (hs : isStarred e = false) : Evs G env n ρ (e :: es) (d :: ds) := evs_cons h h' (star_cons hs)
def isAttr : PySem.Expr → Bool
  | .Attribute .. => true
  | _ => false
theorem eval_call {f : PySem.Expr} {es : List PySem.Expr} (h : isAttr f = false) : eval (.Call f es [] pos) env = (do callWith pos (← eval f env) [] (backTo pos (starEach es env)) []) := by
  cases f <;> first | rfl | cases h
def isNameCall : PySem.Expr → Bool
  | .Call (.Name ..) [] [] _ => true
  | _ => false
theorem base_same {o : PySem.Expr} {name : Str} {t : Sem Value} (h : isNameCall o = false) : attributeBase o name env t = t := by
  unfold attributeBase
  split
  · rename_i h'; cases h
  · rfl
theorem form_all : ∀ {es : List PySem.Expr}, es.any isStarred = false → (backTo pos (starEach es env)).all (fun x => !x.1) = true
  | [], _ => rfl
  | e :: es, h => by
    rw [List.any_cons, Bool.or_eq_false_iff] at h
    rw [star_cons h.1]
    show (!false && (backTo pos (starEach es env)).all (fun x => !x.1)) = true
    rw [form_all h.2]; rfl
theorem eval_method {o : PySem.Expr} {name : Str} {es : List PySem.Expr} (hb : isNameCall o = false) (hst : es.any isStarred = false) (hlen : es.length < 30) (hline : (apos.endLine == pos.line) = true) :
    eval (.Call (.Attribute o name apos) es [] pos) env = (do
      let ov ← eval o env
      standAt apos.atName
      let (f, first) ← holding [ov] (getMethod ov name (do return (← importBound o env).getD true))
      callWith pos f first (backTo pos (starEach es env)) []) := by
  have hform : methodCallForm (es.length + ([] : List Keyword).length) (backTo pos (starEach es env)) (backToKw pos (keywordEach [] env)) = true := by
    unfold methodCallForm
    rw [form_all hst]
    have e : backToKw pos (keywordEach [] env) = [] := rfl
    rw [e]
    simpa using hlen
  show (do
    let ov ← attributeBase o name env (eval o env)
    standAt apos.atName
    methodCall o name apos pos env ov (es.length + ([] : List Keyword).length) (backTo pos (starEach es env)) (backToKw pos (keywordEach [] env))) = _
  rw [base_same hb]
  unfold methodCall calleeOf
  simp only [hform, if_true]
  have hp : methodCallPos true o env apos pos = pure pos := by unfold methodCallPos; simp [hline]
  simp only [hp, pure_bind]
  rfl

theorem ev_call {f : PySem.Expr} {es : List PySem.Expr} {a : Addr} {ds : List D} {d : D} (hf : Ev G env n ρ f (.fn a)) (h : Evs G env n ρ es ds) (hk : keepIn G.K (.ref a) = true) (hc : Fn G n a ds d) (hst : es.any isStarred = false) (ha : isAttr f = false) : Ev G env n ρ (.Call f es [] pos) d :=
  ev_callFn hf h hk hc (star_all hst) (eval_call ha)
theorem ev_bf {x : Str} {p : Pos} {id : String} {es : List PySem.Expr} {ds : List D} {d : D} (h : Evs G env n ρ es ds) (hc : BF G id ds d) (e : nsIn G.K mainGlobals x = some none) (hv : bootBuiltins x = some (.builtin id)) (hx : env.kindOf x = some .globalImplicit)
    (hd : ((x == ("__debug__" : Str)) || (x == ("__name__" : Str))) = false) (hst : es.any isStarred = false) : Ev G env n ρ (.Call (.Name x p) es [] pos) d :=
  ev_callBF h hc e hv (by rw [Bool.or_eq_false_iff] at hd; exact beq_eq_false_iff_ne.mp hd.2) hx (by rw [Bool.or_eq_false_iff] at hd; exact hd.1) (star_all hst) (eval_call rfl)
theorem ev_meth {o : PySem.Expr} {name : Str} {id : String} {es : List PySem.Expr} {d₀ : D} {ds : List D} {d : D} (ho : Ev G env n ρ o d₀) (h : Evs G env n ρ es ds) (g : GetM G name d₀ id) (hc : BF G id (d₀ :: ds) d)
    (hb : isNameCall o = false) (hst : es.any isStarred = false) (hlen : es.length < 30) (hline : (apos.endLine == pos.line) = true) : Ev G env n ρ (.Call (.Attribute o name apos) es [] pos) d :=
  ev_method ho g h hc (star_all hst) (eval_method hb hst hlen hline)
theorem ev_repl {o : PySem.Expr} {x y z : Str} {c c' : Nat} {p p' : Pos} (ho : Ev G env n ρ o (.str x)) (hb : x.length + (x.length + 1) * z.length ≤ 16777216) (hn : isNameCall o = false) (hline : (apos.endLine == pos.line) = true) :
    Ev G env n ρ (.Call (.Attribute o "replace" apos) [.Constant (.str y) c p, .Constant (.str z) c' p'] [] pos) (.str (Txt.replace x y z)) :=
  ev_replace ho hb (eval_method hn rfl (by show 2 < 30; decide) hline)

end
end Mine
end
section
open PySem PySem.W PyProof.Rows PySem.Builtin PySem.Builtin.Str
set_option linter.unusedVariables false
namespace Mine

/-- a text of code points -/
def T (l : List Nat) : Str := ⟨l.toArray⟩
theorem T_list (l : List Nat) : (T l).cps.toList = l := rfl
theorem T_length (l : List Nat) : (T l).length = l.length := by show l.toArray.size = _; simp
theorem T_of (x : Str) : T x.cps.toList = x := by cases x; simp [T]
theorem T_append (a b : List Nat) : T a ++ T b = T (a ++ b) := by
  show (⟨a.toArray ++ b.toArray⟩ : Str) = _
  simp [T]
theorem T_inj {a b : List Nat} (h : T a = T b) : a = b := by simpa [T_list] using congrArg (fun x => x.cps.toList) h
theorem T_one (c : Nat) : T [c] = ⟨#[c]⟩ := rfl
theorem T_beq (a b : List Nat) : (T a == T b) = decide (a = b) := by
  rw [Bool.eq_iff_iff]
  simp only [beq_iff_eq, decide_eq_true_eq]
  exact ⟨T_inj, fun h => by rw [h]⟩

/-- each sign c becomes z -/
def sub1 (c : Nat) (z l : List Nat) : List Nat := l.flatMap fun k => if k = c then z else [k]
theorem sub1_append (c : Nat) (z a b : List Nat) : sub1 c z (a ++ b) = sub1 c z a ++ sub1 c z b := by simp [sub1]
theorem sub1_free (c : Nat) (z : List Nat) : ∀ {l : List Nat}, c ∉ l → sub1 c z l = l
  | [], _ => rfl
  | k :: r, h => by
    simp only [List.mem_cons, not_or] at h
    have ih := sub1_free c z h.2
    unfold sub1 at ih ⊢
    rw [List.flatMap_cons, ih, if_neg (Ne.symm h.1)]
    rfl
theorem join_list (z : List Nat) : ∀ parts : List (List Nat), (Str.join (T z) (parts.map T)) = T ((parts.intersperse z).flatten)
  | [] => rfl
  | [a] => by simp [Str.join]
  | a :: b :: r => by
    have ih := join_list z (b :: r)
    simp only [List.map_cons] at ih ⊢
    show T a ++ T z ++ Str.join (T z) (T b :: r.map T) = _
    rw [ih, T_append, T_append]
    simp [List.intersperse]
theorem sub1_join (c : Nat) (z : List Nat) : ∀ parts : List (List Nat), (∀ p ∈ parts, c ∉ p) → sub1 c z ((parts.intersperse [c]).flatten) = (parts.intersperse z).flatten
  | [], _ => rfl
  | [a], h => by simpa using sub1_free c z (h a (by simp))
  | a :: b :: r, h => by
    have ih := sub1_join c z (b :: r) fun p hp => h p (List.mem_cons_of_mem _ hp)
    have e1 : ((a :: b :: r).intersperse [c]).flatten = a ++ ([c] ++ ((b :: r).intersperse [c]).flatten) := by simp [List.intersperse]
    have e2 : ((a :: b :: r).intersperse z).flatten = a ++ (z ++ ((b :: r).intersperse z).flatten) := by simp [List.intersperse]
    rw [e1, e2, sub1_append, sub1_append, ih, sub1_free c z (h a (by simp))]
    simp [sub1]

theorem split_lists (l : List Nat) (c : Nat) : ∃ parts : List (List Nat), Txt.split (T l) ⟨#[c]⟩ = parts.map T ∧ (∀ p ∈ parts, c ∉ p) ∧ l = (parts.intersperse [c]).flatten := by
  refine ⟨(Txt.split (T l) ⟨#[c]⟩).map (fun x => x.cps.toList), ?_, ?_, ?_⟩
  · rw [List.map_map]
    conv => lhs; rw [← List.map_id (Txt.split (T l) ⟨#[c]⟩)]
    exact List.map_congr_left fun x _ => (T_of x).symm
  · intro p hp
    obtain ⟨x, hx, rfl⟩ := List.mem_map.mp hp
    exact StrLaws.split_free (T l) c x hx
  · have h := StrLaws.join_split (T l) ⟨#[c]⟩
    have e : Txt.split (T l) ⟨#[c]⟩ = ((Txt.split (T l) ⟨#[c]⟩).map (fun x => x.cps.toList)).map T := by
      rw [List.map_map]
      conv => lhs; rw [← List.map_id (Txt.split (T l) ⟨#[c]⟩)]
      exact List.map_congr_left fun x _ => (T_of x).symm
    rw [e, ← T_one, join_list] at h
    exact (T_inj h).symm

theorem repl_T (l z : List Nat) (c : Nat) : Txt.replace (T l) ⟨#[c]⟩ (T z) = T (sub1 c z l) := by
  obtain ⟨parts, h1, h2, h3⟩ := split_lists l c
  rw [StrLaws.replace_one, h1, join_list]
  conv => rhs; rw [h3]
  rw [sub1_join c z parts h2]

theorem tin_T (l : List Nat) (c : Nat) : tin ⟨#[c]⟩ (T l) = decide (c ∈ l) := StrLaws.found_one (T l) c

theorem count_join (c : Nat) : ∀ parts : List (List Nat), (∀ p ∈ parts, c ∉ p) → ((parts.intersperse [c]).flatten).count c = parts.length - 1
  | [], _ => rfl
  | [a], h => by simpa using List.count_eq_zero_of_not_mem (h a (by simp))
  | a :: b :: r, h => by
    have ih := count_join c (b :: r) fun p hp => h p (List.mem_cons_of_mem _ hp)
    have e1 : ((a :: b :: r).intersperse [c]).flatten = a ++ ([c] ++ ((b :: r).intersperse [c]).flatten) := by simp [List.intersperse]
    rw [e1, List.count_append, List.count_append, ih, List.count_eq_zero_of_not_mem (h a (by simp))]
    simp
    omega

theorem count_T (l : List Nat) (c : Nat) : Txt.count (T l) ⟨#[c]⟩ = (l.count c : Int) := by
  obtain ⟨parts, h1, h2, h3⟩ := split_lists l c
  have hc : l.count c = parts.length - 1 := by conv => lhs; rw [h3]
                                               exact count_join c parts h2
  have hnone : c ∉ l → occurrences (T l) ⟨#[c]⟩ 0 (T l).length ((T l).length + 1) = [] := fun hn => by
    cases ho : occurrences (T l) ⟨#[c]⟩ 0 (T l).length ((T l).length + 1) with
    | nil => rfl
    | cons i r =>
      obtain ⟨f, h⟩ := StrLaws.occ_chain (T l) ⟨#[c]⟩ ((T l).length + 1)
      rw [ho] at h
      exact absurd (List.mem_of_getElem? ((StrLaws.subAt_one (T l) c i).mp h.2.1)) hn
  unfold Txt.count
  rw [hc]
  have hp : parts.length = (Txt.split (T l) ⟨#[c]⟩).length := by rw [h1, List.length_map]
  unfold Txt.split at hp
  split at hp
  · rename_i hx
    have : c ∉ l := by
      have := StrLaws.split_free (T l) c (T l) (by unfold Txt.split; rw [if_pos hx]; exact List.mem_singleton.mpr rfl)
      exact this
    rw [hnone this, hp]; rfl
  · split at hp
    · rename_i hx he
      rw [hp, List.isEmpty_iff.mp he]; rfl
    · rw [length_partsBetween] at hp
      rw [hp]; simp

end Mine
end
section
open PySem PySem.W PyProof.Rows PySem.Builtin PySem.Builtin.Str
set_option linter.unusedVariables false
namespace Mine

abbrev Tbl := List (Nat × List Nat)
def spell (t : Tbl) (k : Nat) : List Nat := (t.lookup k).getD [k]
def escBy (t : Tbl) (l : List Nat) : List Nat := l.flatMap (spell t)
theorem escBy_nil (l : List Nat) : escBy [] l = l := by
  induction l with
  | nil => rfl
  | cons k r ih =>
    show [k] ++ escBy [] r = _
    rw [ih]; rfl
theorem escBy_append (t : Tbl) (a b : List Nat) : escBy t (a ++ b) = escBy t a ++ escBy t b := by simp [escBy]
theorem escBy_cons (t : Tbl) (k : Nat) (r : List Nat) : escBy t (k :: r) = spell t k ++ escBy t r := by simp [escBy]
def okFor (t : Tbl) (c : Nat) : Bool := t.all fun p => !(p.2.contains c) && !(p.1 == c)
theorem lookup_snoc (t : Tbl) (c k : Nat) (z : List Nat) : (t ++ [(c, z)]).lookup k = (t.lookup k).or (if k = c then some z else none) := by
  rw [List.lookup_append]
  congr 1
  by_cases h : k = c
  · subst h; simp
  · rw [List.lookup_cons, beq_eq_false_iff_ne.mpr h, if_neg h]; rfl
theorem sub1_spell {t : Tbl} {c : Nat} {z : List Nat} (h : okFor t c = true) (k : Nat) : sub1 c z (spell t k) = spell (t ++ [(c, z)]) k := by
  unfold spell
  rw [lookup_snoc]
  cases hk : t.lookup k with
  | none =>
    by_cases q : k = c
    · subst q; simp [sub1]
    · simp [sub1, q]
  | some y =>
    have hm : (k, y) ∈ t := by
      clear h
      induction t with
      | nil => simp at hk
      | cons p r ih =>
        obtain ⟨a, b⟩ := p
        rw [List.lookup_cons] at hk
        by_cases q : k = a
        · subst q; simp at hk; subst hk; exact List.mem_cons_self
        · rw [beq_eq_false_iff_ne.mpr q] at hk; exact List.mem_cons_of_mem _ (ih hk)
    have := (List.all_eq_true.mp h) (k, y) hm
    simp only [Bool.and_eq_true, Bool.not_eq_true', List.contains_eq_mem, decide_eq_false_iff_not] at this
    simpa using sub1_free c z this.1
theorem sub1_esc {t : Tbl} {c : Nat} {z : List Nat} (h : okFor t c = true) (l : List Nat) : sub1 c z (escBy t l) = escBy (t ++ [(c, z)]) l := by
  induction l with
  | nil => rfl
  | cons k r ih => rw [escBy_cons, escBy_cons, sub1_append, ih, sub1_spell h]
theorem spell_le {t : Tbl} {m : Nat} (hm : 1 ≤ m) (h : t.all (fun p => decide (p.2.length ≤ m)) = true) (k : Nat) : (spell t k).length ≤ m := by
  unfold spell
  induction t with
  | nil => simpa using hm
  | cons p r ih =>
    obtain ⟨a, b⟩ := p
    simp only [List.all_cons, Bool.and_eq_true, decide_eq_true_eq] at h
    rw [List.lookup_cons]
    cases q : k == a with
    | true => exact h.1
    | false => exact ih h.2
theorem esc_le {t : Tbl} {m : Nat} (hm : 1 ≤ m) (h : t.all (fun p => decide (p.2.length ≤ m)) = true) (l : List Nat) : (escBy t l).length ≤ m * l.length := by
  induction l with
  | nil => simp [escBy]
  | cons k r ih =>
    rw [escBy_cons, List.length_append, List.length_cons, Nat.mul_succ]
    have := spell_le hm h k
    omega

section
variable {G : Gnd} {env : Env} {ρ : Loc} {n : Nat}
/-- one row of an escape -/
theorem esc_step {l : List Nat} {t : Tbl} {c : Nat} {z : List Nat} {x cs zs : Str} {i1 i2 i3 : Nat} {p1 p2 p3 p4 p5 apos pos spos pos' : Pos} {rest : List Stmt} {Φ : Fl → Loc → Prop}
    (hl : ρ.lookup x = some (.val (.str (T (escBy t l))))) (hcs : cs = ⟨#[c]⟩) (hzs : zs = T z) (hok : okFor t c = true) (hm : t.all (fun p => decide (p.2.length ≤ 8)) = true) (hz : z.length ≤ 8) (hsz : l.length ≤ 100000)
    (hd : (x == ("__debug__" : Str)) = false) (hc : Can env x) (hline : (apos.endLine == pos.line) = true)
    (k : Exs G env n (upd ρ x (.val (.str (T (escBy (t ++ [(c, z)]) l))))) rest Φ) :
    Exs G env n ρ (.If (.Compare (.Constant (.str cs) i1 p1) [.In] [.Name x p2] p3) [.Assign [.Name x p4] (.Call (.Attribute (.Name x p5) "replace" apos) [.Constant (.str cs) i2 p1', .Constant (.str zs) i3 p2'] [] pos) spos] [] pos' :: rest) Φ := by
  have hb : (T (escBy t l)).length + ((T (escBy t l)).length + 1) * zs.length ≤ 16777216 := by
    have h1 := esc_le (m := 8) (by decide) hm l
    rw [hzs, T_length, T_length]
    have h2 : ((escBy t l).length + 1) * z.length ≤ (8 * l.length + 1) * 8 := Nat.mul_le_mul (by omega) hz
    omega
  have hr : Txt.replace (T (escBy t l)) cs zs = T (escBy (t ++ [(c, z)]) l) := by rw [hcs, hzs, repl_T, sub1_esc hok]
  refine exs_cons (ex_if (tst_cmp ev_str (ev_name hl hd) op_in_str rfl) (fun _ => ?_) fun hf => ?_)
  · refine exs_cons (ex_assign (ev_repl (ev_name hl hd) hb rfl hline) hc rfl ?_)
    refine exs_nil ?_
    rw [hr]
    exact k
  · refine exs_nil ?_
    refine exs_weaken ?_ k
    have : T (escBy (t ++ [(c, z)]) l) = T (escBy t l) := by
      rw [hcs, tin_T, decide_eq_false_iff_not] at hf
      rw [← sub1_esc hok, sub1_free c z hf]
    rw [this]
    intro y b e
    rw [lookup_upd] at e
    by_cases q : y = x
    · subst q; rw [if_pos rfl] at e; cases e; exact hl
    · rw [if_neg q] at e; exact e
end
end Mine
end
section
open PySem PySem.W PyProof.Rows
set_option linter.unusedVariables false
namespace Mine

theorem ns_none_of {K : Frag} {h : Heap} {a : Addr} {mc : Str → Option Value} {n : Str} (X : K.In h) (G : h.Ns a mc) (e : nsIn K a n = some none) : mc n = none := by
  obtain ⟨o, es, ep, ho, hd, _, hf⟩ := G
  unfold nsIn at e
  split at e
  · rename_i c dd es' ep' sl hk
    have := X _ _ hk
    rw [ho] at this
    cases this
    cases hd
    split at e
    · cases e
    · rename_i hfind
      rw [← hf]
      unfold nsFind findBy
      rw [← Array.find?_toList, hfind]
      rfl
  · cases e

theorem repAll_ints {G : Gnd} {Z : Zf} : ∀ {vs : List Value} {ns : List Int}, IntsAre vs ns → RepAll G Z vs (ns.map .int)
  | _, _, .nil => .nil
  | _, _, .cons n t r => .cons (.int n t) (repAll_ints r)

end Mine
end
section
open PySem PySem.W PyProof.Rows PySem.Builtin PySem.Builtin.Str PySem.StrLaws
set_option linter.unusedVariables false
namespace Mine

/-- p cannot begin in u, whatever stands behind u -/
def apart (p u : List Nat) : Bool := (List.range u.length).all fun j => !(p.isPrefixOf (u.drop j)) && !((u.drop j).isPrefixOf p)
def cs (x : Str) : List Nat := x.cps.toList
end Mine
end
section
open PySem PySem.W PyProof.Rows PySem.Builtin PySem.Builtin.Str
set_option linter.unusedVariables false
set_option maxRecDepth 100000
namespace Mine
section
variable {G : Gnd} {env : Env} {Z Z' H : Zf} {ρ ρ' ρc : Loc} {s s' : Shared} {A : Around} {E : Value → Shared → Prop} {n : Nat} {pos apos : Pos}

theorem fmod_bounds {a m : Int} (hm : 0 < m) : 0 ≤ a.fmod m ∧ a.fmod m < m := ⟨Int.fmod_nonneg_of_pos a hm, Int.fmod_lt_of_pos a hm⟩
/-- one of a row of texts, by a remainder -/
theorem sb_menu {value slice : PySem.Expr} {xs : List Str} {a m : Int} (hm : m = (xs.length : Int)) (h0 : 0 < xs.length) (hb : xs.length < 1000000) : Sb G value slice (.list (txs xs)) (.int (a.fmod m)) (.str (xs.getD (a.fmod m).toNat Str.empty)) := by
  have := fmod_bounds (a := a) (m := m) (by omega)
  refine sb_list this.1 (by omega) ?_
  rw [List.getElem?_map]
  have hlt : (a.fmod m).toNat < xs.length := by omega
  rw [List.getElem?_eq_getElem hlt, List.getD_eq_getElem?_getD, List.getElem?_eq_getElem hlt]
  rfl
theorem ev_ifint {t b o : PySem.Expr} {c : Bool} {i j : Int} (h : Tst G env n ρ t c) (h₁ : c = true → Ev G env n ρ b (.int i)) (h₂ : c = false → Ev G env n ρ o (.int j)) : Ev G env n ρ (.IfExp t b o pos) (.int (if c then i else j)) := by
  have := ev_ifexp (pos := pos) h h₁ h₂
  cases c <;> exact this
def codeOf (i : Int) : Int := if decide (i < 55296) = true then i else i + 2048
theorem codeOf_bounds (a : Int) : 0 ≤ codeOf (a.fmod 1112064) ∧ codeOf (a.fmod 1112064) ≤ 1114111 := by
  have := fmod_bounds (a := a) (m := 1112064) (by decide)
  unfold codeOf
  split <;> omega
theorem comp1 {elt tgt iter : PySem.Expr} {ifs : List PySem.Expr} {scope : Scope} {α : Type} {xs : List α} {mk : α → D} {F : α → List D}
    (item : ∀ a ∈ xs, ∃ ρ₁ ok, Asg G env tgt (mk a) ρ ρ₁ ∧ Sub ρ ρ₁ ∧ Tsts G env n ρ₁ ifs ok ∧ (ok = false → F a = []) ∧ (ok = true → ∃ x, Ev G env n ρ₁ elt x ∧ F a = [x])) :
    CRun G env n (.ListComp elt [⟨tgt, iter, ifs, 0⟩] scope pos) 0 ρ (xs.map mk) (xs.flatMap F) := comp_last (iter := iter) (fun _ _ => rfl) item
end
end Mine
end
section
open PySem PySem.W PyProof.Rows
set_option maxRecDepth 100000
namespace Mine
section
variable {G : Gnd} {env : Env} {Z Z' H : Zf} {ρ ρ' ρc : Loc} {s s' : Shared} {A : Around} {E : Value → Shared → Prop} {n : Nat} {pos apos : Pos}
def CellsIn (env : Env) (cl : List (Str × Addr)) : Prop := ∀ x c, cl.lookup x = some c → env.cells.lookup x = some c
theorem cells_nil : CellsIn env [] := fun _ _ h => nomatch h
theorem cells_cons {x : Str} {c : Addr} {cl : List (Str × Addr)} (h : env.cells.lookup x = some c) (r : CellsIn env cl) : CellsIn env ((x, c) :: cl) := fun y d e => by
  rw [List.lookup_cons] at e
  split at e
  · cases e; rename_i q; rw [beq_iff_eq] at q; subst q; exact h
  · exact r y d e
def CapIn (env : Env) (scope : Scope) (cl : List (Str × Addr)) (ρ ρc : Loc) : Prop :=
  ∀ x b, ρc.lookup x = some b → (∃ d, b = .val d) ∧ ρ.lookup x = some b ∧ env.kindOf x ≠ some .local ∧ (∃ c, cl.lookup x = some c) ∧ ((relabel scope env).names.lookup x = some .cell ∨ ((relabel scope env).names.lookup x = some .free ∧ (x == ("__classdict__" : Str)) = false))
theorem cap_nil {scope : Scope} {cl : List (Str × Addr)} : CapIn env scope cl ρ [] := fun _ _ h => nomatch h
theorem cap_cons {scope : Scope} {cl : List (Str × Addr)} {x : Str} {d : D} {c : Addr} (h1 : ρ.lookup x = some (.val d)) (h2 : env.kindOf x = some .cell) (h3 : cl.lookup x = some c) (h4 : (relabel scope env).names.lookup x = some .cell) (r : CapIn env scope cl ρ ρc) :
    CapIn env scope cl ρ ((x, .val d) :: ρc) := fun y b e => by
  rw [List.lookup_cons] at e
  split at e
  · cases e; rename_i q; rw [beq_iff_eq] at q; subst q
    exact ⟨⟨_, rfl⟩, h1, by rw [h2]; decide, ⟨_, h3⟩, .inl h4⟩
  · exact r y b e
theorem at_map {α : Type} {f : α → D} {l : List α} {i : Nat} {d : D} (h : (l.map f)[i]? = some d) : ∃ x, l[i]? = some x ∧ d = f x := by
  rw [List.getElem?_map] at h
  cases e : l[i]? with
  | none => rw [e] at h; cases h
  | some x => rw [e] at h; exact ⟨x, rfl, by simpa using h.symm⟩
end
end Mine
end
section
open PySem PySem.W PyProof.Rows PySem.Builtin PySem.Builtin.Str PySem.StrLaws
set_option linter.unusedVariables false
namespace Mine

/-- no spelling begins another one -/
def pcode (t : Tbl) : Bool := t.all (fun p => p.2.head? == some 38 && (t.lookup p.1 == some p.2) && t.all (fun q => q.1 == p.1 || (!(p.2.isPrefixOf q.2) && !(q.2.isPrefixOf p.2))) && p.2.tail.all (fun c => !(t.any fun q => q.1 == c)) && decide (p.2.length ≤ 8)) && (t.any fun q => q.1 == 38)
theorem mem_look {t : Tbl} {k : Nat} {z : List Nat} (h : t.lookup k = some z) : (k, z) ∈ t := by
  induction t with
  | nil => cases h
  | cons p r ih =>
    obtain ⟨a, b⟩ := p
    rw [List.lookup_cons] at h
    split at h
    · rename_i q; rw [beq_iff_eq] at q; subst q; cases h; exact List.mem_cons_self
    · exact List.mem_cons_of_mem _ (ih h)
theorem look_none {t : Tbl} {k : Nat} : t.lookup k = none ↔ (t.any fun q => q.1 == k) = false := by
  induction t with
  | nil => simp
  | cons p r ih =>
    obtain ⟨a, b⟩ := p
    rw [List.lookup_cons, List.any_cons, Bool.or_eq_false_iff, ← ih]
    by_cases h : k = a
    · subst h; simp
    · have h1 : (k == a) = false := beq_eq_false_iff_ne.mpr h
      have h2 : (a == k) = false := beq_eq_false_iff_ne.mpr (Ne.symm h)
      rw [h1]
      simp [h2]
structure PC (t : Tbl) : Prop where
  ok : pcode t = true
section
variable {t : Tbl}
theorem PC.at (h : PC t) {k : Nat} {z : List Nat} (hk : t.lookup k = some z) : ∃ y, z = 38 :: y ∧ (∀ q ∈ t, q.1 = k ∨ (¬ z <+: q.2 ∧ ¬ q.2 <+: z)) ∧ (∀ c ∈ y, t.lookup c = none) ∧ y.length ≤ 7 := by
  have h0 := h.ok
  unfold pcode at h0
  rw [Bool.and_eq_true] at h0
  have h1 := List.all_eq_true.mp h0.1 _ (mem_look hk)
  simp only [Bool.and_eq_true, beq_iff_eq, decide_eq_true_eq] at h1
  obtain ⟨⟨⟨⟨a1, a2⟩, a3⟩, a4⟩, a5⟩ := h1
  cases z with
  | nil => cases a1
  | cons c y =>
    have : c = 38 := by simpa using a1
    subst this
    refine ⟨y, rfl, fun q hq => ?_, fun c hc => ?_, by simpa using a5⟩
    · have := List.all_eq_true.mp a3 q hq
      rw [Bool.or_eq_true, beq_iff_eq, Bool.and_eq_true, Bool.not_eq_true', Bool.not_eq_true'] at this
      rcases this with e | ⟨e1, e2⟩
      · exact .inl e
      · refine .inr ⟨fun q => ?_, fun q => ?_⟩
        · rw [List.isPrefixOf_iff_prefix.mpr q] at e1; cases e1
        · rw [List.isPrefixOf_iff_prefix.mpr q] at e2; cases e2
    · have := List.all_eq_true.mp a4 c hc
      exact look_none.mpr (by simpa using this)
theorem PC.amp (h : PC t) {k : Nat} (hk : t.lookup k = none) : k ≠ 38 := by
  have h0 := h.ok
  unfold pcode at h0
  rw [Bool.and_eq_true] at h0
  intro e
  subst e
  rw [look_none.mp hk] at h0
  cases h0.2
theorem spell_some {k : Nat} {z : List Nat} (h : t.lookup k = some z) : spell t k = z := by unfold spell; rw [h]; rfl
theorem spell_none {k : Nat} (h : t.lookup k = none) : spell t k = [k] := by unfold spell; rw [h]; rfl
theorem spell_ne (h : PC t) (k : Nat) : spell t k ≠ [] := by
  cases hk : t.lookup k with
  | none => rw [spell_none hk]; simp
  | some z => obtain ⟨y, e, _⟩ := h.at hk; rw [spell_some hk, e]; simp
end

end Mine
end
section
open PySem PySem.W PyProof.Rows
set_option linter.unusedVariables false
set_option maxRecDepth 100000
namespace Mine
section
abbrev strDict (t : List (Str × Str)) : D := .dict (t.map (·.1)) (t.map fun p => .str p.2)
end
end Mine
end
section
open PySem PySem.W PyProof.Rows PySem.Builtin PySem.Builtin.Str
set_option linter.unusedVariables false
set_option maxRecDepth 100000
namespace Mine
section
variable {G : Gnd} {env : Env} {Z Z' H : Zf} {ρ ρ' ρc : Loc} {s s' : Shared} {A : Around} {E : Value → Shared → Prop} {n : Nat} {pos apos sp : Pos}
theorem big_line : 100000 ≤ sizeLine := by decide
/-- l[i] -/
theorem ev_at {v e : PySem.Expr} {l : List Nat} {i c : Nat} (hv : Ev G env n ρ v (.str (T l))) (he : Ev G env n ρ e (.int (i : Int))) (hc : l[i]? = some c) (hl : l.length ≤ 100000) : Ev G env n ρ (.Subscript v e pos) (.str ⟨#[c]⟩) := by
  have hlt := (List.getElem?_eq_some_iff.mp hc).1
  exact ev_sub hv he (sb_str (by omega) (by omega) (by show (l.toArray)[(i : Int).toNat]? = _; simpa using hc))
theorem lenT' (l : List Nat) (h : l.length ≤ 100000) : BF G "len" [.str (T l)] (.int (l.length : Int)) := by
  rw [← T_length]
  exact bf_len_str (by rw [T_length]; have := big_line; omega)
theorem mulOk_small_int {a b : Int} (h : decide (Builtin.Int.intBits a > shortFactorBits) = false) : IntMulOk a b := by
  unfold IntMulOk
  rw [h]
  simp
end
end Mine
end
section
open PySem PySem.W PyProof.Rows PySem.Builtin PySem.Builtin.Str
set_option linter.unusedVariables false
set_option maxRecDepth 100000
namespace Mine
section
variable {G : Gnd} {env : Env} {Z Z' H : Zf} {ρ ρ' ρc : Loc} {s s' : Shared} {A : Around} {E : Value → Shared → Prop} {n : Nat} {pos apos sp : Pos}
theorem ev_len {e : PySem.Expr} {p : Pos} {l : List Nat} (h : Ev G env n ρ e (.str (T l))) (hl : l.length ≤ 100000) (hg : nsIn G.K mainGlobals "len" = some none) (hx : env.kindOf "len" = some .globalImplicit) (hst : isStarred e = false) : Ev G env n ρ (.Call (.Name "len" p) [e] [] pos) (.int (l.length : Int)) :=
  ev_bf (evs_more h evs_nil hst) (lenT' l hl) hg rfl hx rfl (by simp [hst])
theorem ev_lenL {e : PySem.Expr} {p : Pos} {ds : List D} (h : Ev G env n ρ e (.list ds)) (hl : ds.length ≤ 100000) (hg : nsIn G.K mainGlobals "len" = some none) (hx : env.kindOf "len" = some .globalImplicit) (hst : isStarred e = false) : Ev G env n ρ (.Call (.Name "len" p) [e] [] pos) (.int (ds.length : Int)) :=
  ev_bf (evs_more h evs_nil hst) (bf_len_list (by have := big_line; omega)) hg rfl hx rfl (by simp [hst])
end
end Mine
end
section
open PySem PySem.W PyProof.Rows PySem.Builtin PySem.Builtin.Str
set_option linter.unusedVariables false
set_option maxRecDepth 100000
namespace Mine
section
variable {G : Gnd} {env : Env} {Z Z' H : Zf} {ρ ρ' ρc : Loc} {s s' : Shared} {A : Around} {E : Value → Shared → Prop} {n : Nat} {pos apos sp : Pos}
theorem op_in_strs {xs : List Str} {x : Str} : Op2 G (compareOp .In) (.str x) (.list (txs xs)) (.bool (xs.any (· == x))) := Op2.mk fun A Z s v₁ v₂ R b r₁ r₂ => by
  cases r₁
  cases r₂ with
  | list hz ra =>
    obtain ⟨l, e1, e2⟩ := strs_of_repAll ra
    subst e1 e2
    exact in_list_strs (isList_of (b.zin _ _ hz)) (strsAre_of_values l) ⟨Z, b.same, .bool _⟩
-- and, or of truth values, as values
end
end Mine
end
section
open PySem PySem.W PyProof.Rows
set_option linter.unusedVariables false
namespace Mine
section
variable {G : Gnd} {env : Env} {Z Z' H : Zf} {ρ ρ' : Loc} {s s' : Shared} {A : Around} {E : Value → Shared → Prop} {n : Nat} {pos apos : Pos}
/-- statements, at one place in the run -/
structure ExsAt (G : Gnd) (A : Around) (env : Env) (n : Nat) (ρ : Loc) (sts : List Stmt) (Φ : Fl → Loc → Prop) : Prop where
  run : ∀ Z H s, Room n A → St G env Z H ρ s → wpAny (model G.prog G.w) A (execs sts env) (ExPost G env Z H Φ) (fun _ _ => False) s
structure ExAt (G : Gnd) (A : Around) (env : Env) (n : Nat) (ρ : Loc) (st : Stmt) (Φ : Fl → Loc → Prop) : Prop where
  run : ∀ Z H s, Room n A → St G env Z H ρ s → wpAny (model G.prog G.w) A (exec st env) (ExPost G env Z H Φ) (fun _ _ => False) s
structure FnAt (G : Gnd) (A : Around) (n : Nat) (f : Addr) (ds : List D) (d : D) : Prop where
  run : ∀ Z s vs, Room n A → Bs G Z s → RepAll G Z vs ds → Yields G A (call (.ref f) vs) Z d s
theorem Ex.at {st : Stmt} {Φ : Fl → Loc → Prop} (h : Ex G env n ρ st Φ) : ExAt G A env n ρ st Φ := ⟨fun Z H s R S => h.run A Z H s R S⟩
theorem Exs.at {sts : List Stmt} {Φ : Fl → Loc → Prop} (h : Exs G env n ρ sts Φ) : ExsAt G A env n ρ sts Φ := ⟨fun Z H s R S => h.run A Z H s R S⟩
theorem exsAt_cons {st : Stmt} {rest : List Stmt} {Φ : Fl → Loc → Prop} (h : ExAt G A env n ρ st (Then Φ fun ρ' => ExsAt G A env n ρ' rest Φ)) : ExsAt G A env n ρ (st :: rest) Φ := by
  constructor
  intro Z H s R S
  refine wpAny_execs_cons (wp_seq (h.run Z H s R S) fun f s' ⟨Z', ρ', fl, le, S', hf, hΦ⟩ => ?_)
  cases hf with
  | next => exact wp_seq (hΦ.run Z' H s' R S') fun f s'' ⟨Z'', ρ'', fl, le', S'', hf, h⟩ => ⟨Z'', ρ'', fl, le.trans le', S'', hf, h⟩
  | brk => exact ⟨Z', ρ', _, le, S', .brk, hΦ⟩
  | cont => exact ⟨Z', ρ', _, le, S', .cont, hΦ⟩
  | ret r => exact ⟨Z', ρ', _, le, S', .ret r, hΦ⟩
theorem exsAt_nil {Φ : Fl → Loc → Prop} (h : Φ .next ρ) : ExsAt G A env n ρ [] Φ := (exs_nil h).at
theorem exsAt_weaken {sts : List Stmt} {Φ : Fl → Loc → Prop} (hs : Sub ρ ρ') (h : ExsAt G A env n ρ sts Φ) : ExsAt G A env n ρ' sts Φ := ⟨fun Z H s R S => h.run Z H s R (S.weaken hs)⟩
theorem exAt_if {t : PySem.Expr} {body orelse : List Stmt} {c : Bool} {Φ : Fl → Loc → Prop} (h : Tst G env n ρ t c) (h₁ : c = true → ExsAt G A env n ρ body Φ) (h₂ : c = false → ExsAt G A env n ρ orelse Φ) : ExAt G A env n ρ (.If t body orelse pos) Φ :=
  ⟨fun Z H s R S => wpAny_If (wp_seq (h.run A Z H s R S) fun c' s' ⟨e, x⟩ => by
    subst e
    cases c' with
    | true => exact wp_seq ((h₁ rfl).run Z H s' R (S.ext x)) fun _ _ q => q
    | false => exact wp_seq ((h₂ rfl).run Z H s' R (S.ext x)) fun _ _ q => q)⟩
theorem fn_ofAt {a : Addr} {fd : FuncData} {body : List Stmt} {xs : List Str} {ds : List D} {d : D} (D : DefAt G a fd body) (hb : ∀ vs : List Value, vs.length = xs.length → bindArgs fd ⟨vs, []⟩ = pure (xs.zip vs)) (hlen : xs.length = ds.length)
    (hx : ∀ x ∈ xs, fd.scope.names.lookup x = some .local ∨ (fd.scope.names.lookup x = some .cell ∧ ∀ k, ((cellsFrom k fd.scope.names []).lookup x).isSome = true)) (hnd : xs.Nodup)
    (h : ∀ L, ExsAt G (A.deeper (callEnvC fd L a)) (callEnvC fd L a) n (startLoc xs ds) body (RetPost d)) : FnAt G A (n + 1) a ds d := by
  constructor
  intro Z s vs R b r
  obtain ⟨o, ho, hd⟩ := D.obj
  have hvl : vs.length = xs.length := r.length.trans hlen.symm
  have hmap : (xs.zip vs).map (·.1) = xs := by rw [List.map_fst_zip]; omega
  have hnd' : ((xs.zip vs).map (·.1)).Nodup := by rw [hmap]; exact hnd
  refine wp_tok ?_
  refine wpAny_call ?_
  refine codeAny_call_function (by have := R.depth; omega) (b.X _ _ ho) hd D.co D.gen D.body (codeRec_of b.X D.code) ?_
  rw [hb vs hvl, D.closure]
  refine wpAny_pure (wpAny_with_toks (Nat.le_refl s.toks) (wpAny_newFunctionEnv_cells D.kind (fun x hm => ?_) fun env he s₁ x tok => ?_))
  · have : x.1 ∈ xs := by rw [← hmap]; exact List.mem_map_of_mem hm
    rcases hx _ this with q | ⟨q, q'⟩
    · exact .inl q
    · exact .inr ⟨q, q' _⟩
  subst he
  have hcall := x.toInCall
  obtain ⟨h₁, tk, rfl, hk₁⟩ := x.done
  refine ⟨b.nolimit.keeps hcall.keep, codeAny_func ?_⟩
  have HZ : ∀ a' o', (if Z a' = none then s.heap.get? a' else none) = some o' → Z a' = none ∧ s.heap.get? a' = some o' := fun a' o' e => by
    split at e
    · rename_i q; exact ⟨q, e⟩
    · cases e
  have hLnone : s.heap.get? s.heap.objs.size = none := get?_size_none _
  have nz : ∀ c, s.heap.objs.size ≤ c → s.heap.get? c = none := fun c hc => by
    cases q : s.heap.get? c with
    | none => rfl
    | some ob => exact absurd (Heap.lt_size q) (Nat.not_lt.mpr hc)
  have nzZ : ∀ c, s.heap.objs.size ≤ c → Z c = none := fun c hc => by
    cases q : Z c with
    | none => rfl
    | some ob => have := b.zin c ob q; rw [nz c hc] at this; cases this
  have S₁ : St G (callEnvC fd s.heap.objs.size a) Z (fun a => if Z a = none then s.heap.get? a else none) (startLoc xs ds) { s with heap := h₁, toks := tk } := by
    refine ⟨D.kind, D.gl, D.bl, b.gens, b.os, Nat.lt_of_lt_of_le b.tk tok, fun a' o' e => hk₁ _ _ (b.zin _ _ e), fun a' o' e => hk₁ _ _ (HZ _ _ e).2, fun a' o' e => by simp [e], fun a' o' e => ?_, ⟨_, hcall.ns⟩, nzZ _ (Nat.le_refl _), ?_, fun y c e => ⟨?_, fun _ => ?_, fun hf => by cases hf⟩, ?_, fun y d' e => ?_, ?_⟩
    · have e' := b.bas _ _ e
      cases q : Z a' with
      | none => right; simp [q, e']
      | some ob => left; have := b.zin _ _ q; rw [e'] at this; cases this; rfl
    · show (if Z s.heap.objs.size = none then s.heap.get? s.heap.objs.size else none) = none
      rw [nzZ _ (Nat.le_refl _), if_pos rfl]; exact hLnone
    · exact Nat.ne_of_gt (x.above y c (mem_of_lookup e))
    · have hc : s.heap.objs.size ≤ c := Nat.le_of_lt (x.above y c (mem_of_lookup e))
      refine ⟨nzZ c hc, ?_, _, x.cell y c e⟩
      show (if Z c = none then s.heap.get? c else none) = none
      rw [nzZ c hc, if_pos rfl]; exact nz c hc
    · exact fun y z c e e' => name_of_addr x.apart (mem_of_lookup e) (mem_of_lookup e')
    · obtain ⟨v, d'', e', hm, r'⟩ := startLoc_lookup r hlen e
      cases e'
      have hxm : y ∈ xs := by rw [← hmap]; exact List.mem_map_of_mem hm
      refine ⟨v, ?_, r'⟩
      rcases hx y hxm with q | ⟨q, q'⟩
      · exact .inl ⟨q, _, hcall.ns, bindL_get (k := (callEnvC fd s.heap.objs.size a).kindOf) q hnd' hm⟩
      · obtain ⟨c, hc⟩ := Option.isSome_iff_exists.mp (q' (s.heap.objs.size + 1))
        refine .inr ⟨.inl q, c, hc, ?_⟩
        have := x.cell y c hc
        exact (bindC_get (k := (callEnvC fd s.heap.objs.size a).kindOf) q hnd' hm) ▸ this
    · refine ⟨fun _ => 0, fun y z es es' e => ?_, fun y es e => ?_⟩
      · obtain ⟨_, _, e', _⟩ := startLoc_lookup r hlen e; cases e'
      · obtain ⟨_, _, e', _⟩ := startLoc_lookup r hlen e; cases e'
  refine wp_seq ((h s.heap.objs.size).run Z _ _ R.deeper S₁) fun f s₂ ⟨Z₂, ρ₂, fl, le₂, S₂, hf, hΦ⟩ tok₂ => ?_
  cases hf with
  | next => cases hΦ; exact ⟨Z₂, ext_of_frame b le₂ S₂ tok₂, .none⟩
  | brk => exact hΦ.elim
  | cont => exact hΦ.elim
  | ret r' => cases hΦ; exact ⟨Z₂, ext_of_frame b le₂ S₂ tok₂, r'⟩

theorem finishAt {prog : Program} {w : World} {K : Frag} {p : Program} {loose : List Str} {mg mb : Str → Option Value} {s₁ : Shared} {f a : Addr} {vs : List Value} {ns : List Int} {k n : Nat} {c : ClaimW} {cl : Str → Option Addr} {mean : ExcName → Option Value} {args : List WData}
    (KX : K.In s₁.heap) (T : TopRead p loose mg mb s₁.heap) (hst : nsIn K cStatics sharingNotToldKey = some none) (hg : s₁.gens = #[]) (htk : 0 < s₁.toks) (ho : s₁.heap.get? a = some (listOf vs.toArray k)) (hI : IntsAre vs ns)
    (hn : ∀ cls, c.raises args cls = false) (hp : c.post args (.bool true) args = true) (hr : n ≤ 100)
    (h : ∀ nb, FnAt ⟨prog, w, K, p, loose, mg, mb, s₁.heap, s₁.os, KX, T, nb, 0⟩ callerA n f [.list (ns.map .int)] (.bool true)) :
    wpAny (model prog w) callerA (call (.ref f) [.ref a]) (fun v s' => GoodWG c cl mean args s₁ (.ok (.ret v)) s') (fun e s' => GoodWG c cl mean args s₁ (.error e) s') s₁ := by
  have nb : NoneBooked s₁.heap := by
    obtain ⟨mc, hm, _⟩ := T.nolimit
    exact ⟨mc, hm, ns_none_of KX hm hst⟩
  have H := h nb
  refine wp_seq (H.run (fun b => if b = a then some (listOf vs.toArray k) else none) s₁ [.ref a] ⟨rfl, ?_, ?_, rfl⟩ ⟨hg, rfl, htk, fun b o e => ?_, fun b o e => e⟩ (.cons (.list (if_pos rfl) (repAll_ints hI)) .nil)) fun v s' ⟨Z', x, r⟩ => ?_
  · show 1 + claimMargin + n < recursionLimit
    have : claimMargin = 300 := rfl
    have : recursionLimit = 1000 := rfl
    omega
  · show 4 + 8 * n < cLine
    have : cLine = 9900 := rfl
    omega
  · by_cases q : b = a
    · subst q; rw [if_pos rfl] at e; cases e; exact ho
    · rw [if_neg q] at e; cases e
  · cases r
    refine GoodW.toG ⟨.inl ⟨_, _, [], rfl, hn, .bool true, hp, unshared_nil⟩, fun b o e => x.keep b o e, x.os, x.gens.trans hg⟩
end
end Mine
end
section
open PySem PySem.W PyProof.Rows
set_option linter.unusedVariables false
set_option maxRecDepth 100000
namespace Mine
section
variable {G : Gnd} {env : Env} {Z Z' H : Zf} {ρ ρ' : Loc} {s s' : Shared} {A : Around} {E : Value → Shared → Prop} {n : Nat} {pos apos : Pos}
/-- only the frame's own object changes, and in its slots alone -/
theorem St.slots (S : St G env Z H ρ s) (hk : ∀ a o, a ≠ env.locals → s.heap.get? a = some o → s'.heap.get? a = some o) (hn : ∀ m, s.heap.Ns env.locals m → s'.heap.Ns env.locals m) (hg : s'.gens = s.gens) (hos : s'.os = s.os) (ht : s.toks ≤ s'.toks) : St G env Z H ρ s' := by
  have zl : ∀ a o, Z a = some o → a ≠ env.locals := fun a o e q => by rw [q, S.lz] at e; cases e
  have hl : ∀ a o, H a = some o → a ≠ env.locals := fun a o e q => by rw [q, S.lh] at e; cases e
  have has : ∀ y v, Has env s.heap y v → Has env s'.heap y v := fun y v q => by
    rcases q with ⟨k, m, hm, e⟩ | ⟨k, c, e, ob, e1, e2⟩
    · exact .inl ⟨k, m, hn m hm, e⟩
    · exact .inr ⟨k, c, e, ob, hk _ _ (S.cells y c e).1 e1, e2⟩
  refine ⟨S.fk, S.gl, S.bl, hg.trans S.gens, hos.trans S.os, Nat.lt_of_lt_of_le S.tk ht, fun a o e => hk a o (zl a o e) (S.zin a o e), fun a o e => hk a o (hl a o e) (S.hin a o e), S.dj, S.bas, ?_, S.lz, S.lh, fun y c e => ?_, S.inj, fun y d e => ?_, ?_⟩
  · obtain ⟨m, hm⟩ := S.ns; exact ⟨m, hn m hm⟩
  · obtain ⟨h0, h1, h2⟩ := S.cells y c e
    refine ⟨h0, fun hf => ?_, h2⟩
    obtain ⟨a, b, v, ob, e1, e2⟩ := h1 hf
    exact ⟨a, b, v, ob, hk _ _ h0 e1, e2⟩
  · obtain ⟨v, h, r⟩ := S.vars y d e; exact ⟨v, has y v h, r⟩
  · obtain ⟨oa, hi, h⟩ := S.owns
    refine ⟨oa, hi, fun y ds e => ?_⟩
    obtain ⟨g1, g2, g3, g4, g5, vs, k, g6, g7⟩ := h y ds e
    exact ⟨has _ _ g1, g2, g3, g4, g5, vs, k, hk _ _ g4 g6, g7⟩
abbrev framesOf (l : List Env) : List Addr := l.filterMap (·.frame)
/-- an exception flies out of a call, over the frames l -/
def Fly (l : List Env) (e : Addr) (X : String) (s s' : Shared) : Prop :=
  (∃ a0, Heap.FlyingW (hideAll s.heap (framesOf l)) l e (.type X) a0 s'.heap) ∧ s.heap.UpToSlots s'.heap ∧ s'.gens = s.gens ∧ s'.os = s.os ∧ s.toks ≤ s'.toks
structure RoomX (n : Nat) (A : Around) : Prop where
  depth : A.depth + n < recursionLimit
  units : A.units + 8 * n < cLine
  guards : A.guards = some []
theorem Room.x (r : Room n A) : RoomX n A := ⟨r.depth, r.units, r.guards⟩
theorem RoomX.deeper {env : Env} (r : RoomX (n + 1) A) : RoomX n (A.deeper env) := ⟨by have := r.depth; show A.depth + 1 + n < _; omega, by have := r.units; show A.units + 3 + 8 * n < _; omega, r.guards⟩
theorem RoomX.room (r : RoomX n A) (h : A.handled = none) : Room n A := ⟨h, r.depth, r.units, r.guards⟩
abbrev Hd := Option Value → Shared → Prop
/-- a def that refuses, where P is so of what is handled -/
structure FnE (G : Gnd) (n : Nat) (f : Addr) (ds : List D) (X : String) (P : Hd) : Prop where
  run : ∀ A Z s vs l, RoomX n A → P A.handled s → Bs G Z s → RepAll G Z vs ds → A.frames = some l → s.heap.FunFrames (hideAll s.heap (framesOf l)) l → (∀ L ∈ framesOf l, Z L = none ∧ G.base.get? L = none) →
    wpAny (model G.prog G.w) A (call (.ref f) vs) (fun _ _ => False) (fun e s' => ∃ ea, e = .ref ea ∧ Fly l ea X s s') s
/-- x += a written number, without a look at what is handled -/
theorem aug_run {x : Str} {p : Pos} {i j : Int} {k : Nat} {cp : Pos} {Φ : Fl → Loc → Prop} (h₀ : ρ.lookup x = some (.val (.int i))) (hc : Can env x) (hk : Φ .next (upd ρ x (.val (.int (i + j))))) (S : St G env Z H ρ s) :
    wpAny (model G.prog G.w) A (execs [.AugAssign (.Name x p) .Add (.Constant (.int j) k cp) pos] env) (ExPost G env Z H Φ) (fun _ _ => False) s := by
  refine wpAny_execs_cons (wpAny_AugAssign_Name ?_)
  obtain ⟨v, hv, r⟩ := S.vars x _ h₀
  have go : wpAny (model G.prog G.w) A (eval (.Constant (.int j) k cp) env) (fun v₁ s₂ => wpAny (model G.prog G.w) A (inplaceOp .Add v v₁) (fun r s₃ => wpAny (model G.prog G.w) A (storeName env x r) (fun _ s₄ => wpAny (model G.prog G.w) A (execs [] env) (ExPost G env Z H Φ) (fun _ _ => False) s₄) (fun _ _ => False) s₃) (fun _ _ => False) s₂) (fun _ _ => False) s := by
    cases r with
    | int _ t =>
      refine wpAny_Constant_int ?_
      refine iadd_int ?_
      have x₁ : Ext Z s Z { s with toks := s.toks + 1 + 1 } := Ext.tok S.zin (by show s.toks ≤ s.toks + 1 + 1; omega)
      refine wp_seq (st_store (S.ext x₁) (.int (i + j) _) hc) fun _ s₄ S₄ => wpAny_execs_nil ?_
      exact ⟨Z, _, _, Zle.same, S₄, .next, hk⟩
  rcases hv with ⟨k, m, n, e⟩ | ⟨k, c, e, n⟩
  · exact wpAny_loadName_local S.fk k n e go
  · rcases k with k | k
    · exact wpAny_loadName_cell S.fk k e n go
    · exact wpAny_loadName_free S.fk k.1 e n go k.2
theorem hide_one (h : Heap) (env : Env) (L : Addr) (hf : env.frame = some L) : framesOf [env] = [L] := by simp [framesOf, hf]
/-- try: f(..) / except TypeError: x += j -/
theorem exAt_try {f : PySem.Expr} {es : List PySem.Expr} {a : Addr} {ds : List D} {x : Str} {p np cpos epos hpos kp ap : Pos} {i j : Int} {kk : Nat} {Φ : Fl → Loc → Prop} (hfr : A.frames = some [env]) (hloc : env.frame = some env.locals) (hm : env.scope.kind ≠ .module) (hi : interactive env = false)
    (hf : Ev G env n ρ f (.fn a)) (h : Evs G env n ρ es ds) (hk : keepIn G.K (.ref a) = true) (hc : FnE G n a ds "TypeError" fun hd _ => hd = none) (hst : es.any isStarred = false) (ha : isAttr f = false)
    (h₀ : ρ.lookup x = some (.val (.int i))) (hcan : Can env x) (hT : nsIn G.K mainGlobals "TypeError" = some none) (hkT : env.kindOf "TypeError" = some .globalImplicit) (k : Φ .next (upd ρ x (.val (.int (i + j))))) :
    ExAt G A env n ρ (.Try [.Expr (.Call f es [] cpos) epos] [.ExceptHandler (some (.Name "TypeError" np)) none [.AugAssign (.Name x p) .Add (.Constant (.int j) kk kp) ap] hpos] [] [] pos) Φ := by
  constructor
  intro Z H s R S
  refine wpAny_Try_except (wpAny_execs_cons (wpAny_Expr ?_ (hi := hi)))
  rw [eval_call ha]
  refine wpAny_bind (wp_seq (hf.run A Z H s R S) fun v s₁ ⟨Z₁, x₁, r₁⟩ => ?_)
  cases r₁
  have S₁ := S.ext x₁
  have hp := star_all (env := env) hst
  refine callWith_of (P := fun h => G.K.In h) (by rw [starred_none hp]; rfl) (keeps_K hk) (wp_evalArgs (starred_none hp cpos) (wp_seq (h.run A Z₁ H s₁ cpos R S₁) fun vs s₂ ⟨Z₂, x₂, r₂⟩ => ⟨(S₁.ext x₂).X, ?_⟩))
  have S₂ := S₁.ext x₂
  have hfl : framesOf [env] = [env.locals] := hide_one s.heap env _ hloc
  have lbase : G.base.get? env.locals = none := by
    cases q : G.base.get? env.locals with
    | none => rfl
    | some o =>
      rcases S₂.bas _ _ q with h | h
      · rw [S₂.lz] at h; cases h
      · rw [S₂.lh] at h; cases h
  obtain ⟨m₀, oL, esL, epL, hoL, hdL, hrestL⟩ := S₂.ns
  refine wpAny_mono (hc.run A Z₂ s₂ vs [env] R.x R.handled S₂.bs r₂ hfr ⟨hm, ⟨env.locals, oL, hloc, hideAll_none _ (by rw [hfl]; simp), hoL, fun vs q => by rw [hdL] at q; cases q⟩, trivial⟩ (fun L hL => by rw [hfl, List.mem_singleton] at hL; subst hL; exact ⟨S₂.lz, lbase⟩)) (fun _ _ q => q.elim) fun e s₃ ⟨ea, ee, ⟨a0, hfly⟩, hup, hg, hos, htk⟩ => ?_
  subst ee
  refine wpAny_looks_onW hfr hloc hfly fun h₄ hheld₄ hsm₄ => ?_
  refine wpAny_landsW hheld₄ fun h₅ hfly₅ hsm₅ => ?_
  have back : ∀ (h' : Heap) , Heap.FlyingW (hideAll s₂.heap (framesOf [env])) [env] ea (.type "TypeError") a0 h' → s₃.heap.UpToSlots h' → St G env Z₂ H ρ { s₃ with heap := h' } := fun h' hf' hu' =>
    S₂.slots (s' := { s₃ with heap := h' }) (fun b o hb e => hf'.1 b o (hideAll_get _ e (by rw [hfl]; simpa using hb))) (fun m hm' => (hup.trans hu').ns hm') hg hos htk
  have S₅ := back h₅ hfly₅ (hsm₄.trans hsm₅)
  obtain ⟨ob, hob, hobc⟩ := hfly₅.there
  refine wpAny_handleBy_builtin (X := "TypeError") (T := "TypeError") (b := true) (by rw [isSubtype_type]; kernel_rfl) (by rw [isSubtype_type]; kernel_rfl) (by rw [isSubtype_type]; kernel_rfl) (wp_builtinName S₅ hT rfl (by decide) hkT (by decide) ⟨rfl, ⟨ob, hob, hobc⟩, ?_⟩)
  simp only [if_true]
  refine lands_againW hfly₅ fun h₆ hfly₆ hsm₆ => ?_
  have S₆ := back h₆ hfly₆ ((hsm₄.trans hsm₅).trans hsm₆)
  refine wp_seq (aug_run h₀ hcan k S₆) fun f s₇ ⟨Z₇, ρ₇, fl, le₇, S₇, hf₇, hΦ⟩ => ?_
  exact ⟨Z₇, ρ₇, fl, x₁.le.trans (x₂.le.trans le₇), S₇, hf₇, hΦ⟩
end
end Mine
end
section
open PySem PySem.W PyProof.Rows
set_option linter.unusedVariables false
set_option maxRecDepth 100000
namespace Mine
section
variable {G : Gnd} {env : Env} {Z Z' H : Zf} {ρ ρ' : Loc} {s s' : Shared} {A : Around} {E : Value → Shared → Prop} {n : Nat} {pos apos : Pos}
theorem St.less (S : St G env Z H ρ s) (F : List Addr) (hB : ∀ a ∈ F, G.base.get? a = none) (hfun : env.func.isSome = true) : St G env Z (fun a => if a ∈ F then none else H a) ρ s := by
  have sub : ∀ a o, (if a ∈ F then none else H a) = some o → H a = some o := fun a o e => by
    split at e
    · cases e
    · exact e
  have non : ∀ a, H a = none → (if a ∈ F then none else H a) = none := fun a e => by split <;> first | rfl | exact e
  refine ⟨S.fk, S.gl, S.bl, S.gens, S.os, S.tk, S.zin, fun a o e => S.hin a o (sub a o e), fun a o e => non a (S.dj a o e), fun a o e => ?_, S.ns, S.lz, non _ S.lh, fun y c e => ?_, S.inj, S.vars, ?_⟩
  · rcases S.bas a o e with q | q
    · exact .inl q
    · refine .inr ?_
      show (if a ∈ F then none else H a) = some o
      rw [if_neg fun m => by rw [hB a m] at e; cases e]
      exact q
  · obtain ⟨h0, h1, h2⟩ := S.cells y c e
    refine ⟨h0, fun hf => ?_, fun hf => by rw [hfun] at hf; cases hf⟩
    obtain ⟨a, b, v⟩ := h1 hf
    exact ⟨a, non _ b, v⟩
  · obtain ⟨oa, hi, h⟩ := S.owns
    refine ⟨oa, hi, fun y ds e => ?_⟩
    obtain ⟨g1, g2, g3, g⟩ := h y ds e
    exact ⟨g1, g2, non _ g3, g⟩
/-- an exception on its way out of a frame: from a call, noted here already, or new -/
def BodyE (env : Env) (L : Addr) (l : List Env) (e : Addr) (X : String) (s s' : Shared) : Prop :=
  (∃ a0, Heap.FlyingW (hideAll s.heap (framesOf (env :: l))) (env :: l) e (.type X) a0 s'.heap ∨ Heap.HeldW (hideAll s.heap (framesOf (env :: l))) (env :: l) e (.type X) a0 L s'.heap ∨
    (∃ oe vs, s'.heap.get? e = some oe ∧ oe.cls = .type X ∧ oe.data = .fields vs ∧ vs[0]? = some a0 ∧ vs[1]? = some .none ∧ (hideAll s.heap (framesOf (env :: l))).get? e = none ∧ (hideAll s.heap (framesOf (env :: l))).StaysIn s'.heap ∧ s'.heap.FunFrames (hideAll s.heap (framesOf (env :: l))) (env :: l))) ∧
  s.heap.UpToSlots s'.heap ∧ s'.gens = s.gens ∧ s'.os = s.os ∧ s.toks ≤ s'.toks
theorem fn_ofE {a : Addr} {fd : FuncData} {body : List Stmt} {xs : List Str} {ds : List D} {X : String} {P : Hd} (hP : ∀ hd s s', P hd s → (∀ b o, s.heap.get? b = some o → s'.heap.get? b = some o) → P hd s') (D : DefAt G a fd body) (hb : ∀ vs : List Value, vs.length = xs.length → bindArgs fd ⟨vs, []⟩ = pure (xs.zip vs)) (hlen : xs.length = ds.length)
    (hx : ∀ x ∈ xs, fd.scope.names.lookup x = some .local ∨ (fd.scope.names.lookup x = some .cell ∧ ∀ k, ((cellsFrom k fd.scope.names []).lookup x).isSome = true)) (hnd : xs.Nodup)
    (h : ∀ L A Z H s₁ l, RoomX n A → P A.handled s₁ → St G (callEnvC fd L a) Z H (startLoc xs ds) s₁ → A.frames = some (callEnvC fd L a :: l) → s₁.heap.FunFrames (hideAll s₁.heap (framesOf (callEnvC fd L a :: l))) (callEnvC fd L a :: l) → (∀ L' ∈ framesOf l, Z L' = none ∧ H L' = none ∧ G.base.get? L' = none ∧ L' ≠ L) →
      wpAny (model G.prog G.w) A (execs body (callEnvC fd L a)) (fun _ _ => False) (fun e s' => ∃ ea, e = .ref ea ∧ BodyE (callEnvC fd L a) L l ea X s₁ s') s₁) : FnE G (n + 1) a ds X P := by
  constructor
  intro A Z s vs l R hPA b r hfr hff hzl
  obtain ⟨o, ho, hd⟩ := D.obj
  have hvl : vs.length = xs.length := r.length.trans hlen.symm
  have hmap : (xs.zip vs).map (·.1) = xs := by rw [List.map_fst_zip]; omega
  have hnd' : ((xs.zip vs).map (·.1)).Nodup := by rw [hmap]; exact hnd
  refine wpAny_with_toks (Nat.le_refl s.toks) ?_
  refine wpAny_call ?_
  refine codeAny_call_function (by have := R.depth; omega) (b.X _ _ ho) hd D.co D.gen D.body (codeRec_of b.X D.code) ?_
  rw [hb vs hvl, D.closure]
  refine wpAny_pure (wpAny_with_toks (Nat.le_refl s.toks) (wpAny_newFunctionEnv_cells D.kind (fun x hm => ?_) fun env he s₁ x tok => ?_))
  · have : x.1 ∈ xs := by rw [← hmap]; exact List.mem_map_of_mem hm
    rcases hx _ this with q | ⟨q, q'⟩
    · exact .inl q
    · exact .inr ⟨q, q' _⟩
  subst he
  have hcall := x.toInCall
  obtain ⟨h₁, tk, rfl, hk₁⟩ := x.done
  refine ⟨b.nolimit.keeps hcall.keep, codeAny_func ?_⟩
  have HZ : ∀ a' o', (if Z a' = none then s.heap.get? a' else none) = some o' → Z a' = none ∧ s.heap.get? a' = some o' := fun a' o' e => by
    split at e
    · rename_i q; exact ⟨q, e⟩
    · cases e
  have hLnone : s.heap.get? s.heap.objs.size = none := get?_size_none _
  have nz : ∀ c, s.heap.objs.size ≤ c → s.heap.get? c = none := fun c hc => by
    cases q : s.heap.get? c with
    | none => rfl
    | some ob => exact absurd (Heap.lt_size q) (Nat.not_lt.mpr hc)
  have nzZ : ∀ c, s.heap.objs.size ≤ c → Z c = none := fun c hc => by
    cases q : Z c with
    | none => rfl
    | some ob => have := b.zin c ob q; rw [nz c hc] at this; cases this
  have S₁ : St G (callEnvC fd s.heap.objs.size a) Z (fun a => if Z a = none then s.heap.get? a else none) (startLoc xs ds) { s with heap := h₁, toks := tk } := by
    refine ⟨D.kind, D.gl, D.bl, b.gens, b.os, Nat.lt_of_lt_of_le b.tk tok, fun a' o' e => hk₁ _ _ (b.zin _ _ e), fun a' o' e => hk₁ _ _ (HZ _ _ e).2, fun a' o' e => by simp [e], fun a' o' e => ?_, ⟨_, hcall.ns⟩, nzZ _ (Nat.le_refl _), ?_, fun y c e => ⟨?_, fun _ => ?_, fun hf => by cases hf⟩, ?_, fun y d' e => ?_, ?_⟩
    · have e' := b.bas _ _ e
      cases q : Z a' with
      | none => right; simp [q, e']
      | some ob => left; have := b.zin _ _ q; rw [e'] at this; cases this; rfl
    · show (if Z s.heap.objs.size = none then s.heap.get? s.heap.objs.size else none) = none
      rw [nzZ _ (Nat.le_refl _), if_pos rfl]; exact hLnone
    · exact Nat.ne_of_gt (x.above y c (mem_of_lookup e))
    · have hc : s.heap.objs.size ≤ c := Nat.le_of_lt (x.above y c (mem_of_lookup e))
      refine ⟨nzZ c hc, ?_, _, x.cell y c e⟩
      show (if Z c = none then s.heap.get? c else none) = none
      rw [nzZ c hc, if_pos rfl]; exact nz c hc
    · exact fun y z c e e' => name_of_addr x.apart (mem_of_lookup e) (mem_of_lookup e')
    · obtain ⟨v, d'', e', hm, r'⟩ := startLoc_lookup r hlen e
      cases e'
      have hxm : y ∈ xs := by rw [← hmap]; exact List.mem_map_of_mem hm
      refine ⟨v, ?_, r'⟩
      rcases hx y hxm with q | ⟨q, q'⟩
      · exact .inl ⟨q, _, hcall.ns, bindL_get (k := (callEnvC fd s.heap.objs.size a).kindOf) q hnd' hm⟩
      · obtain ⟨c, hc⟩ := Option.isSome_iff_exists.mp (q' (s.heap.objs.size + 1))
        refine .inr ⟨.inl q, c, hc, ?_⟩
        have := x.cell y c hc
        exact (bindC_get (k := (callEnvC fd s.heap.objs.size a).kindOf) q hnd' hm) ▸ this
    · refine ⟨fun _ => 0, fun y z es es' e => ?_, fun y es e => ?_⟩
      · obtain ⟨_, _, e', _⟩ := startLoc_lookup r hlen e; cases e'
      · obtain ⟨_, _, e', _⟩ := startLoc_lookup r hlen e; cases e'
  have old : ∀ L' ∈ framesOf l, ∃ o, s.heap.get? L' = some o := fun L' hL' => by
    have key : ∀ (l : List Env) (base : Heap), s.heap.FunFrames base l → L' ∈ framesOf l → ∃ o, s.heap.get? L' = some o := by
      intro l
      induction l with
      | nil => intro base _ hm; simp [framesOf] at hm
      | cons e0 r ih =>
        rintro base ⟨_, ⟨L0, o0, hf0, _, ho0, _⟩, hr⟩ hm
        rw [framesOf, List.filterMap_cons, hf0] at hm
        rcases List.mem_cons.mp hm with rfl | hm
        · exact ⟨o0, ho0⟩
        · exact ih base hr hm
    exact key l _ hff hL'
  have neL : ∀ L' ∈ framesOf l, L' ≠ s.heap.objs.size := fun L' hL' q => by
    obtain ⟨o, ho⟩ := old L' hL'
    rw [q, hLnone] at ho; cases ho
  have S₂ := S₁.less (framesOf l) (fun L' hL' => (hzl L' hL').2) rfl
  have hfr' : (A.deeper (callEnvC fd s.heap.objs.size a)).frames = some (callEnvC fd s.heap.objs.size a :: l) := Around.frames_deeper hfr
  have hBB : (hideAll s.heap (framesOf l)).StaysIn (hideAll h₁ (framesOf (callEnvC fd s.heap.objs.size a :: l))) := fun c o e => by
    have e1 := of_hideAll _ e
    refine hideAll_get _ (hk₁ _ _ e1) fun hm => ?_
    have hm' : c = s.heap.objs.size ∨ c ∈ framesOf l := by
      have : framesOf (callEnvC fd s.heap.objs.size a :: l) = s.heap.objs.size :: framesOf l := rfl
      rw [this] at hm; exact List.mem_cons.mp hm
    rcases hm' with q | q
    · rw [q, hLnone] at e1; cases e1
    · rw [hideAll_none _ q] at e; cases e
  have hff' : h₁.FunFrames (hideAll h₁ (framesOf (callEnvC fd s.heap.objs.size a :: l))) (callEnvC fd s.heap.objs.size a :: l) := by
    obtain ⟨oL, esL, epL, hoL, hdL, _⟩ := hcall.ns
    have f1 : h₁.FunFrames (hideAll s.heap (framesOf l)) (callEnvC fd s.heap.objs.size a :: l) := by
      refine ⟨?_, ⟨s.heap.objs.size, oL, rfl, ?_, hoL, fun vs q => by rw [hdL] at q; cases q⟩, hff.of_keeps fun c o e _ => ⟨o, hk₁ c o e, rfl⟩⟩
      · show fd.scope.kind ≠ .module
        rw [D.kind]; intro q; cases q
      · cases q : (hideAll s.heap (framesOf l)).get? s.heap.objs.size with
        | none => rfl
        | some o => have := of_hideAll _ q; rw [hLnone] at this; cases this
    exact funFrames_hide f1 fun env he c hc => List.mem_filterMap.mpr ⟨env, he, hc⟩
  refine wpAny_mono (h s.heap.objs.size _ Z _ _ l R.deeper (hP _ s _ hPA hk₁) S₂ hfr' hff' fun L' hL' => ⟨(hzl L' hL').1, if_pos hL', (hzl L' hL').2, neL L' hL'⟩) (fun _ _ q => q.elim) fun e s₂ ⟨ea, ee, ⟨a0, hway⟩, hup, hg, hos, htk⟩ => ?_
  subst ee
  have fin : ∀ h₃, Heap.FlyingW (hideAll h₁ (framesOf (callEnvC fd s.heap.objs.size a :: l))) l ea (.type X) a0 h₃ → s₂.heap.UpToSlots h₃ → ∃ ea', Value.ref ea = .ref ea' ∧ Fly l ea' X s { s₂ with heap := h₃ } := fun h₃ q1 q2 =>
    ⟨ea, rfl, ⟨a0, flyingW_base hBB q1⟩, ((Heap.UpToSlots.of_keeps hk₁).trans hup).trans q2, hg, hos, Nat.le_trans tok htk⟩
  rcases hway with q | q | ⟨oe, ws, he, hcls, hd', h0', h1', hen, hst, hffe⟩
  · exact wpAny_leaves_onW hfr' rfl q fun h₃ q1 q2 _ => fin h₃ q1 q2
  · unfold leaving
    refine wpAny_bind (wpAny_noteFrame_againW rfl q.2.2.2 ?_)
    refine wpAny_landsW q fun h₃ q1 q2 => ?_
    obtain ⟨k1, k2, ⟨_, _, k3⟩, k4⟩ := q1
    exact fun _ => fin h₃ ⟨k1, k2, k3, k4⟩ q2
  · refine wpAny_leaving_firstW hfr' hffe rfl he hst hen hd' h1' h0' fun h₃ hL => ?_
    obtain ⟨k1, ⟨_, _, k2⟩, k3, k4⟩ := hL
    rw [hcls] at k3
    exact fun _ => fin h₃ ⟨k1, hen, k2, k3⟩ k4
end
end Mine
end
section
open PySem PySem.W PyProof.Rows
set_option linter.unusedVariables false
set_option maxRecDepth 100000
namespace Mine
section
variable {prog : Program} {w : World} {A : Around} {E : Value → Shared → Prop} {s : Shared} {env : Env}
theorem entry_unchain : entryFor table "proto.unchain" = some Builtin.«proto.unchain» := entryFor_of_tree (by kernel_rfl)
theorem plain_unchain : plainId "proto.unchain" = true := by decide +kernel
theorem wpAny_raiseStmt_madeH {cls : String} (F : ExcRaiseFacts cls) {x : Sem Value} {e1 : Addr} {Q : Flow → Shared → Prop} (hh : A.handled = some (.ref e1))
    (h : wpAny (model prog w) A x (fun v s₁ => ∃ e t, v = .ref e ∧ e ≠ e1 ∧ s₁.heap.get? e = some { cls := .type cls, data := .fields #[.ref t, .none, .none, .none, .bool false, .none] } ∧ (∃ o1 vs1, s₁.heap.get? e1 = some o1 ∧ o1.data = .fields vs1 ∧ vs1[2]? = some .none) ∧
      E (.ref e) { s₁ with heap := s₁.heap.update e (Obj.mapFields (·.setIfInBounds 2 (.ref e1))) }) E s) :
    wpAny (model prog w) A (raiseStmt env (some x) none) Q E s := by
  unfold raiseStmt
  refine wpAny_bind (wpAny_mono h (fun v s₁ h₁ => ?_) fun _ _ x => x)
  obtain ⟨e, t, rfl, hne, he, ⟨o1, vs1, ho1, hd1, h12⟩, hE⟩ := h₁
  obtain ⟨hp, g, d, tk, os⟩ := s₁
  have hsub := F.isExc
  have hmeta := F.plainMeta
  repeat (first | refine wpAny_loadPart he ?_ | wp_step)
  unfold raiseNew
  refine wpAny_bind (wpAny_handled ?_)
  rw [hh]
  dsimp only
  rw [if_pos (by simpa using fun q => hne q.symm)]
  refine wpAny_bind (wpAny_holding (wpAny_runValue (codeAny_builtin entry_unchain ?_)))
  rw [Around.under_plainId plain_unchain _]
  show wpAny _ A.in1 (field (.ref e1) 2 >>= _) _ _ _
  refine wpAny_bind (wpAny_field ho1 hd1 h12 ?_)
  rw [if_pos (by decide : (Value.none == Value.none) = true)]
  refine wpAny_pure ?_
  refine wpAny_bind (m := updateField e 2 (.ref e1)) (wpAny_setField (i := 2) (x := .ref e1) he rfl (by simp) ?_)
  exact wpAny_throw hE
theorem wpAny_Raise_callH {cls newId initId : String} (F : ExcCallFacts cls newId initId) (G : ExcRaiseFacts cls) {x : Str} {np cpos pos : Pos} {args : List PySem.Expr} {e1 : Addr} {Q : Flow → Shared → Prop}
    (hh : A.handled = some (.ref e1)) (hplain : (backTo cpos (starEach args env)).any (·.1) = false)
    (h : wpAny (model prog w) A (eval (.Name x np) env) (fun f s₁ => f = .type cls ∧ wpAny (model prog w) A (evalArgs (.type cls) true (backTo cpos (starEach args env)) [])
      (fun a s₂ => a.kw = [] ∧ a.pos.length ≤ sizeLine ∧ (∃ o1 vs1, s₂.heap.get? e1 = some o1 ∧ o1.data = .fields vs1 ∧ vs1[2]? = some .none) ∧ ∀ h' e, Heap.MadeExc s₂.heap h' e cls a.pos → E (.ref e) { s₂ with heap := h'.update e (Obj.mapFields (·.setIfInBounds 2 (.ref e1))) }) E s₁) E s) :
    wpAny (model prog w) A (exec (.Raise (some (.Call (.Name x np) args [] cpos)) none pos) env) Q E s := by
  show wpAny _ A (do standAt pos; raiseStmt env (some (do let v ← eval (.Call (.Name x np) args [] cpos) env; standAt pos; pure v)) none) Q E s
  refine wpAny_bind (wpAny_standAt (wpAny_raiseStmt_madeH G hh (wpAny_bind (wpAny_Call_ofName (wpAny_mono h (fun f s₁ h₁ => ?_) fun _ _ x => x)))))
  obtain ⟨rfl, h₁⟩ := h₁
  refine callWith_excType hplain (wpAny_mono h₁ (fun a s₂ h₂ => ?_) fun _ _ x => x)
  obtain ⟨apos, akw⟩ := a
  obtain ⟨hkw, hlen, ⟨o1, vs1, ho1, hd1, h12⟩, h₂⟩ := h₂
  obtain rfl : akw = [] := hkw
  obtain ⟨hp, g, d, tk, os⟩ := s₂
  refine wpAny_call_exc F (hrest := hlen) fun h' e hm => ?_
  obtain ⟨t, ht, _, _⟩ := hm.there
  refine wpAny_bind (wpAny_standAt (wpAny_pure ⟨e, t, rfl, fun q => ?_, ht, ⟨o1, vs1, hm.keeps _ _ ho1, hd1, h12⟩, h₂ h' e hm⟩))
  have := hm.new
  rw [q] at this
  rw [show (hp.get? e1) = some o1 from ho1] at this
  cases this
end
end Mine
end
section
open PySem PySem.W PyProof.Rows
set_option linter.unusedVariables false
set_option maxRecDepth 100000
namespace Mine
def words (t y : Str) : Str := (((Str.empty ++ ("cannot serialize " : Str)) ++ t ++ (" (type " : Str)) ++ y) ++ (")" : Str)
section
variable {G : Gnd} {env : Env} {Z Z' H : Zf} {ρ ρ' : Loc} {s s' : Shared} {A : Around} {E : Value → Shared → Prop} {n : Nat} {pos apos : Pos}
/-- how a datum is written, and its type -/
structure Shown (G : Gnd) (d : D) (x : Str) (T : String) : Prop where
  rep : ∀ A Z s v (Q E : Value → Shared → Prop), RoomX 2 A → Bs G Z s → Rep G Z v d → (∀ h' tk k, (∀ b o, s.heap.get? b = some o → h'.get? b = some o) → Q (.str x tk) { s with heap := h', toks := k }) → wpAny (model G.prog G.w) A (pyReprObj v) Q E s
  ty : ∀ Z s v, Bs G Z s → Rep G Z v d → s.TypeIs v T
  nb : (Value.type T == Value.type "builtin_function_or_method") = false
  mt : kitMeta T = true
  st : Manifest.isStub T = false
  len : x.length ≤ 1000000
/-- a type's name is to be had -/
structure Named (K : Frag) (T q : String) : Prop where
  find : findCls K (.type T) (.type "type") "__name__" = some (.get (.builtin "getset_descriptor.__get__") (.builtin "type.__name__") (.type T) (.type "type"))
  name : ktynFast T = q
  len : (Str.ofString q).length ≤ 1000
theorem name_run {x : Str} {d : D} {M : Model} (S : St G env Z H ρ s) (h : ρ.lookup x = some (.val d)) (hd : (x == ("__debug__" : Str)) = false) {Q : Value → Shared → Prop} (k : ∀ v, Rep G Z v d → Q v s) : wpAny M A (eval (.Name x pos) env) Q E s := by
  obtain ⟨v, hv, r⟩ := S.vars x d h
  refine wpAny_Name ?_ hd
  rcases hv with ⟨k', m, n, e⟩ | ⟨k', c, e, n⟩
  · exact wpAny_loadName_local S.fk k' n e (k v r)
  · rcases k' with k' | k'
    · exact wpAny_loadName_cell S.fk k' e n (k v r)
    · exact wpAny_loadName_free S.fk k'.1 e n (k v r) k'.2
theorem typeName_run {T q : String} {expr : Bool} {Q : Value → Shared → Prop} (X : G.K.In s.heap) (ht : kitMeta T = true) (hs : Manifest.isStub T = false) (N : Named G.K T q)
    (h : ∀ tk u, Q (.str (Str.ofString q) tk) { s with toks := u }) : wpAny (model G.prog G.w) A (getAttr (.type T) "__name__" expr) Q E s := by
  have hstub : opaqueClassAbove (.type T) = pure none := by unfold opaqueClassAbove; dsimp only; rw [hs]; rfl
  have L0 : Looks (model G.prog G.w) s.heap (typeOf (.type T)) (.type "type") := Looks.of_pure (kitMeta_of ht)
  have LO : Looks (model G.prog G.w) s.heap (opaqueClassAbove (.type T)) none := Looks.of_pure hstub
  have hg : findIn G.K (.type "type") "__getattribute__" = some (some (.builtin "type.__getattribute__")) := type_tga
  refine cls_open X LO L0 hg (looks_hook X (r := none) (by rfl)) (by show subIn G.K _ _ = _; rfl) N.find ?_
  show wpAny _ _ (do ret (← holding [Value.builtin "type.__name__"] (call (.builtin "getset_descriptor.__get__") [.builtin "type.__name__", .type T, .type "type"]))) _ _ _
  refine wpAny_bind (wpAny_holding (wpAny_call (ktyn_get (s := { s with toks := s.toks + 1 }) (kitMeta_of ht) N.name (Nat.le_trans N.len (by decide)) ?_)))
  exact wpAny_pure (handed_on rfl (h _ _))
theorem fv_str {value : PySem.Expr} {Q : Value → Shared → Prop} (h : wpAny (model G.prog G.w) A (eval value env) (fun v s₁ => ∃ y t, v = .str y t ∧ y.length ≤ sizeLine ∧ ∀ t' k, Q (.str y t') { s₁ with toks := k }) E s) :
    wpAny (model G.prog G.w) A (eval (.FormattedValue value 115 none pos) env) Q E s := by
  rw [arm_eval_FormattedValue]
  refine wpAny_bind (wpAny_mono h (fun v s₁ h₁ => ?_) fun _ _ x => x)
  obtain ⟨y, t, rfl, hy, hq⟩ := h₁
  refine wpAny_bind (wpAny_standAt ?_)
  show wpAny _ _ (do let v' ← holding [Value.str y t] (habitSame "fstring-hands-on-the-str" (Value.str y t)); formatField v' Str.empty) Q E s₁
  refine wpAny_bind (wpAny_holding (wpAny_habitSame_str (wpAny_formatField_str (hq _ _) (hq _ _) hy) (wpAny_formatField_str (hq _ _) (hq _ _) hy) hy))
/-- what the error says -/
theorem text_run {d : D} {x : Str} {T q : String} {p1 p2 p3 p4 p5 p6 p7 p8 p9 p10 p11 : Pos} {k1 k2 k3 : Nat} {Q : Value → Shared → Prop} (R : RoomX 3 A) (S : St G env Z H ρ s) (hx : ρ.lookup ("text" : Str) = some (B.val d)) (W : Shown G d x T) (N : Named G.K T q)
    (hT : nsIn G.K mainGlobals "type" = some none) (hkT : env.kindOf "type" = some .globalImplicit)
    (h : ∀ h' tk k, (∀ b o, s.heap.get? b = some o → h'.get? b = some o) → Q (.str (words x (Str.ofString q)) tk) { s with heap := h', toks := k }) :
    wpAny (model G.prog G.w) A (eval (.JoinedStr [.Constant (.str "cannot serialize ") k1 p1, .FormattedValue (.Name "text" p2) 114 none p3, .Constant (.str " (type ") k2 p4,
      .FormattedValue (.Attribute (.Call (.Name "type" p5) [.Name "text" p6] [] p7) "__name__" p8) 115 none p9, .Constant (.str ")") k3 p10] p11) env) Q E s := by
  have big : 3000000 ≤ sizeLine := by decide
  have hxl := W.len
  have hql := N.len
  have l1 : (("cannot serialize " : Str)).length = 17 := by decide +kernel
  have l2 : ((" (type " : Str)).length = 7 := by decide +kernel
  have l3 : ((")" : Str)).length = 1 := by decide +kernel
  have l0 : (Str.empty).length = 0 := rfl
  refine wpAny_JoinedStr ?_
  show wpAny _ _ _ _ _ _
  refine Calls.Constant_str ⟨_, _, rfl, by rw [Str.length_append]; omega, ?_⟩
  show wpAny _ _ _ _ _ _
  have x₁ : Ext Z s Z { s with toks := s.toks + 1 } := Ext.tok S.zin (Nat.le_succ _)
  have S₁ := S.ext x₁
  refine wpAny_FormattedValue_repr (name_run S₁ hx (by decide) fun v r => ?_)
  refine wpAny_with_toks (Nat.le_refl _) (W.rep A Z _ v _ _ ⟨by have := R.depth; omega, by have := R.units; omega, R.guards⟩ S₁.bs r fun h' tk k hk => ?_)
  have l4 : x.length ≤ sizeLine := by omega
  have go : ∀ (t' : Tok) (k' : Nat), s.toks ≤ k' → Joins (model G.prog G.w) A E (evalEach [.Constant (.str " (type ") k2 p4, .FormattedValue (.Attribute (.Call (.Name "type" p5) [.Name "text" p6] [] p7) "__name__" p8) 115 none p9, .Constant (.str ")") k3 p10] env) (Str.empty ++ "cannot serialize " ++ x)
      (fun out s₁ => out.length ≤ sizeLine ∧ Q (.str out s₁.toks) { s₁ with toks := s₁.toks + 1 }) { s with heap := h', toks := k' } := by
    intro t' k' hk'
    show wpAny _ _ _ _ _ _
    refine Calls.Constant_str ⟨_, _, rfl, by simp only [Str.length_append]; omega, ?_⟩
    show wpAny _ _ _ _ _ _
    have x₂ : Ext Z s Z { s with heap := h', toks := k' + 1 } := ⟨Zle.same, hk, fun a o e => hk _ _ (S.zin a o e), fun _ _ h => .inl h, rfl, rfl, by show s.toks ≤ k' + 1; omega⟩
    have S₂ := S.ext x₂
    refine fv_str ?_
    rw [arm_eval_Attribute]
    refine wpAny_bind ?_
    show wpAny _ _ (eval (.Call (.Name "type" p5) [.Name "text" p6] [] p7) env) _ _ _
    rw [eval_call rfl]
    refine wpAny_bind (wp_builtinName S₂ hT rfl (by decide) hkT (by decide) ?_)
    refine callWith_excType (starred_none rfl p7) (wp_evalArgs (starred_none rfl p7) (spliced_more (name_run S₂ hx (by decide) fun v' r' => spliced_none ?_) rfl))
    refine call_type_of (W.ty Z _ v' S₂.bs r') W.nb ?_
    refine wpAny_bind (wpAny_standAt (wpAny_bind (wpAny_holding (typeName_run S₂.X W.mt W.st N fun tk₃ u₃ => ?_))))
    refine wpAny_bind (wpAny_letTemporaryGo (wpAny_pure ⟨_, _, rfl, by omega, fun t₄ k₄ => ?_⟩))
    refine ⟨_, _, rfl, by simp only [Str.length_append]; omega, ?_⟩
    show wpAny _ _ _ _ _ _
    refine Calls.Constant_str ⟨_, _, rfl, by simp only [Str.length_append]; omega, ?_⟩
    refine ⟨by simp only [Str.length_append]; omega, ?_⟩
    exact h h' _ _ hk
  intro hk1
  refine wpAny_formatField_str ?_ ?_ l4
  · exact ⟨_, _, rfl, by simp only [Str.length_append]; omega, go tk k (by have : s.toks + 1 ≤ k := hk1; omega)⟩
  · exact ⟨_, _, rfl, by simp only [Str.length_append]; omega, go k (k + 1) (by have : s.toks + 1 ≤ k := hk1; omega)⟩
end
end Mine
end
section
open PySem PySem.W PyProof.Rows
set_option linter.unusedVariables false
set_option maxRecDepth 100000
namespace Mine
section
variable {G : Gnd} {env : Env} {Z Z' H : Zf} {ρ ρ' : Loc} {s s' : Shared} {A : Around} {E : Value → Shared → Prop} {n : Nat} {pos apos : Pos}
/-- what is handled has no context -/
def HdX : Hd := fun hd s => ∃ e1, hd = some (.ref e1) ∧ ∃ o1 vs1, s.heap.get? e1 = some o1 ∧ o1.data = .fields vs1 ∧ vs1[2]? = some .none
theorem hdX_keeps : ∀ hd s s', HdX hd s → (∀ b o, s.heap.get? b = some o → s'.heap.get? b = some o) → HdX hd s' := fun hd s s' ⟨e1, h, o1, vs1, h1, h2, h3⟩ k => ⟨e1, h, o1, vs1, k _ _ h1, h2, h3⟩
theorem rse_body {d : D} {x : Str} {T q : String} {p1 p2 p3 p4 p5 p6 p7 p8 p9 p10 p11 q1 q2 q3 : Pos} {k1 k2 k3 : Nat} {L : Addr} {l : List Env} (R : RoomX 3 A) (hP : HdX A.handled s) (S : St G env Z H ρ s) (hx : ρ.lookup ("text" : Str) = some (B.val d)) (W : Shown G d x T) (N : Named G.K T q)
    (hT : nsIn G.K mainGlobals "type" = some none) (hkT : env.kindOf "type" = some .globalImplicit) (hTE : nsIn G.K mainGlobals "TypeError" = some none) (hkTE : env.kindOf "TypeError" = some .globalImplicit)
    (hff : s.heap.FunFrames (hideAll s.heap (framesOf (env :: l))) (env :: l)) :
    wpAny (model G.prog G.w) A (execs [.Raise (some (.Call (.Name "TypeError" q1) [.JoinedStr [.Constant (.str "cannot serialize ") k1 p1, .FormattedValue (.Name "text" p2) 114 none p3, .Constant (.str " (type ") k2 p4,
      .FormattedValue (.Attribute (.Call (.Name "type" p5) [.Name "text" p6] [] p7) "__name__" p8) 115 none p9, .Constant (.str ")") k3 p10] p11] [] q2)) none q3] env) (fun _ _ => False) (fun e s' => ∃ ea, e = .ref ea ∧ BodyE env L l ea "TypeError" s s') s := by
  obtain ⟨e1, hh, o1, vs1, ho1, hd1, h12⟩ := hP
  refine wpAny_with_toks (Nat.le_refl s.toks) ?_
  refine wpAny_execs_cons ?_
  refine wpAny_Raise_callH F.excCall_TypeError F.excRaise_TypeError hh rfl (wp_builtinName S hTE rfl (by decide) hkTE (by decide) ⟨rfl, ?_⟩)
  refine wp_evalArgs (starred_none rfl q2) (spliced_more (text_run R S hx W N hT hkT fun h₂ tk k hk => spliced_none ?_) rfl)
  refine ⟨rfl, by show 1 ≤ sizeLine; decide, ⟨o1, vs1, hk _ _ ho1, hd1, h12⟩, fun h' e hm htk => ?_⟩
  obtain ⟨t, ht, htn, _⟩ := hm.there
  have he2 : h₂.get? e = none := hm.new
  have hes : s.heap.get? e = none := by
    cases q : s.heap.get? e with
    | none => rfl
    | some o => rw [hk _ _ q] at he2; cases he2
  have ne : ∀ b o, s.heap.get? b = some o → e ≠ b := fun b o h q => by rw [← q, hes] at h; cases h
  have keep : ∀ b o, s.heap.get? b = some o → (h'.update e (Obj.mapFields (·.setIfInBounds 2 (.ref e1)))).get? b = some o := fun b o h => by
    rw [Heap.get?_update_other _ _ (ne b o h)]
    exact hm.keeps _ _ (hk _ _ h)
  refine ⟨e, rfl, ⟨.ref t, .inr (.inr ⟨_, _, Heap.get?_update_self _ ht rfl, rfl, rfl, ?_, ?_, ?_, ?_, ?_⟩)⟩, Heap.UpToSlots.of_keeps keep, rfl, rfl, htk⟩
  · rfl
  · rfl
  · cases q : (hideAll s.heap (framesOf (env :: l))).get? e with
    | none => rfl
    | some o => have := of_hideAll _ q; rw [hes] at this; cases this
  · exact fun b o h => keep b o (of_hideAll _ h)
  · exact hff.of_keeps fun b o h _ => ⟨o, keep b o h, rfl⟩
end
end Mine
end
section
open PySem PySem.W PyProof.Rows
set_option linter.unusedVariables false
set_option maxRecDepth 100000
namespace Mine
/-- an exception that is noted, without a context -/
def TrX (h base : Heap) (e : Addr) (X : String) (fl : Value) : Prop :=
  ∃ oe vs T oT ts, h.get? e = some oe ∧ oe.cls = .type X ∧ oe.data = .fields vs ∧ vs[1]? = some (.ref T) ∧ vs[2]? = some .none ∧ base.get? T = none ∧ T ≠ e ∧ h.get? T = some oT ∧ oT.data = .fields ts ∧ ts[3]? = some fl
def HeldX (base : Heap) (l : List Env) (e : Addr) (X : String) (fl : Value) (h : Heap) : Prop :=
  base.StaysIn h ∧ base.get? e = none ∧ h.FunFrames base l ∧ TrX h base e X fl
section
variable {M : Model} {A : Around} {E : Value → Shared → Prop} {s : Shared}
theorem noteX {base : Heap} {env : Env} {outer : List Env} {L e : Addr} {oe : Obj} {vs : Array Value} {X : String} {Q : Unit → Shared → Prop}
    (hfr : A.frames = some (env :: outer)) (hl : s.heap.FunFrames base (env :: outer)) (hf : env.frame = some L)
    (he : s.heap.get? e = some oe) (hcls : oe.cls = .type X) (hkb : base.StaysIn s.heap) (hen : base.get? e = none) (hd : oe.data = .fields vs) (h1 : vs[1]? = some .none) (h2 : vs[2]? = some .none)
    (h : ∀ h', HeldX base (env :: outer) e X (rawInt L) h' → s.heap.UpToSlots h' → Q () { s with heap := h' }) : wpAny M A (noteFrame (.ref e) env) Q E s := by
  have hsz : 1 < vs.size := (Array.getElem?_eq_some_iff.mp h1).1
  unfold noteFrame
  simp only [hf]
  refine wpAny_bind (wpAny_field he hd h1 ?_)
  rw [if_neg (by decide)]
  have hene : e ∉ (env :: outer).filterMap (·.frame) := fun hm => by
    obtain ⟨_, o, ho, hnf⟩ := hl.mem hm
    rw [he] at ho; injection ho with ho; subst ho; exact hnf vs hd
  refine wpAny_bind (wpAny_frameOf_fun hfr hl hf fun h₁ hs₁ => ?_)
  refine wpAny_bind (wpAny_entryPlaceOf fun pl hpl => ?_)
  unfold EntryCells.newEntry newFields
  refine wpAny_bind (wpAny_newObj_type ?_ (hpl.sizeOk5 _ _ _ _ _))
  have he₁ : h₁.get? e = some oe := (hs₁.2.1 e hene).trans he
  have kb₁ : base.StaysIn h₁ := fun b o hbo => (hs₁.2.1 b fun hm => by rw [(hl.mem hm).1] at hbo; cases hbo).trans (hkb b o hbo)
  have he₂ := Heap.get?_push_of_some (h := h₁) { cls := .type "traceback", dict := none, data := .fields ([Value.none, .ref L, .none, rawInt L, .none] ++ (if pl.isEmpty then List.replicate 6 Value.none else pl)).toArray } he₁
  refine wpAny_setField he₂ hd hsz (h _ ?_ ?_)
  all_goals
    have hTe : h₁.objs.size ≠ e := Nat.ne_of_gt (Heap.lt_size he₁)
    have hd₃ := Obj.data_mapFields hd (·.setIfInBounds 1 (Value.ref h₁.objs.size))
    have he₃ := Heap.get?_update_self (Obj.mapFields (·.setIfInBounds 1 (Value.ref h₁.objs.size))) he₂ (Obj.isFreed_of_fields hd₃)
    have hT₃ := (Heap.get?_update_other (h₁.push { cls := .type "traceback", dict := none, data := .fields ([Value.none, .ref L, .none, rawInt L, .none] ++ (if pl.isEmpty then List.replicate 6 Value.none else pl)).toArray })
      (Obj.mapFields (·.setIfInBounds 1 (Value.ref h₁.objs.size))) (Ne.symm hTe)).trans (Heap.get?_push_size h₁ rfl)
    have keep : ∀ b o, b ≠ e → h₁.get? b = some o →
        ((h₁.push { cls := .type "traceback", dict := none, data := .fields ([Value.none, .ref L, .none, rawInt L, .none] ++ (if pl.isEmpty then List.replicate 6 Value.none else pl)).toArray }).update e (Obj.mapFields (·.setIfInBounds 1 (Value.ref h₁.objs.size)))).get? b = some o :=
      fun b o hbe hb => by
        rw [Heap.get?_update_other _ _ (Ne.symm hbe)]
        exact Heap.get?_push_of_some _ hb
    have noRecord : ∀ b o, s.heap.get? b = some o → (∀ vs, o.data ≠ .fields vs) → b ≠ e := fun b o hb hnf q => by
      rw [q, he] at hb; injection hb with hb; subst hb; exact hnf vs hd
  · refine ⟨fun b o hbo => keep b o (fun q => by rw [q, hen] at hbo; cases hbo) (kb₁ b o hbo), hen, hl.of_keeps fun b o hb hnf => ?_, ?_⟩
    · obtain ⟨sl, hs⟩ := hs₁.2.2 b o hb
      exact ⟨_, keep b _ (noRecord b o hb hnf) hs, rfl⟩
    · exact ⟨_, _, h₁.objs.size, _, _, he₃, (Obj.cls_mapFields _ _).trans hcls, hd₃, by simp [hsz], by rw [Array.getElem?_setIfInBounds_ne (by decide)]; exact h2, kb₁.fresh, hTe, hT₃, rfl, by first | (simp; done) | (rcases hpl with rfl | ⟨_, _, _, _, _, _, _, rfl⟩ <;> simp)⟩
  · exact fun b o hb hnf => by
      obtain ⟨sl, hs⟩ := hs₁.2.2 b o hb
      exact ⟨sl, keep b _ (noRecord b o hb hnf) hs⟩
theorem flightX {base : Heap} {l : List Env} {e : Addr} {X : String} {fl : Value} {F : Option Addr} {Q : Unit → Shared → Prop} (hx : HeldX base l e X fl s.heap)
    (h : ∀ h', HeldX base l e X (F.elim .none fun f => rawInt f) h' → s.heap.UpToSlots h' → Q () { s with heap := h' }) : wpAny M A (setFlight (.ref e) F) Q E s := by
  obtain ⟨hkb, hen, hl, oe, vs, T, oT, ts, he, hcls, hd, h1, h2, hnT, hTe, hT, hdT, h3⟩ := hx
  have hsz3 : 3 < ts.size := (Array.getElem?_eq_some_iff.mp h3).1
  have other : ∀ b, b ≠ T → (s.heap.update T (Obj.mapFields (·.setIfInBounds 3 (F.elim Value.none fun f => rawInt f)))).get? b = s.heap.get? b :=
    fun b hb => Heap.get?_update_other _ _ (Ne.symm hb)
  have noRecord : ∀ b o, s.heap.get? b = some o → (∀ vs, o.data ≠ .fields vs) → b ≠ T := fun b o hb hnf q => by
    rw [q, hT] at hb; injection hb with hb; subst hb; exact hnf ts hdT
  unfold setFlight
  refine wpAny_bind (wpAny_field he hd h1 ?_)
  rw [if_pos (show (Value.ref T != Value.none) = true from by simp)]
  refine wpAny_setField hT hdT hsz3 (h _ ⟨fun b o hbo => (other b fun q => by rw [q, hnT] at hbo; cases hbo).trans (hkb b o hbo), hen,
    hl.of_keeps fun b o hb hnf => ⟨o, (other b (noRecord b o hb hnf)).trans hb, rfl⟩, ?_⟩ fun b o hb hnf => ⟨o.slots, (other b (noRecord b o hb hnf)).trans hb⟩)
  exact ⟨oe, vs, T, _, _, (other e (Ne.symm hTe)).trans he, hcls, hd, h1, h2, hnT, hTe, Heap.get?_update_self _ hT (Obj.isFreed_of_fields (Obj.data_mapFields hdT _)), Obj.data_mapFields hdT _, by simp [hsz3]⟩
/-- the same where the first field counts -/
theorem flightW {base : Heap} {l : List Env} {e L : Addr} {cls a0 fl : Value} {Q : Unit → Shared → Prop} (hkb : base.StaysIn s.heap) (hen : base.get? e = none) (hl : s.heap.FunFrames base l) (ht : s.heap.TracedAtW base e cls a0 fl)
    (h : ∀ h', Heap.HeldW base l e cls a0 L h' → s.heap.UpToSlots h' → Q () { s with heap := h' }) : wpAny M A (setFlight (.ref e) (some L)) Q E s := by
  obtain ⟨oe, vs, T, oT, ts, he, hcls, hd, h1, hnT, hTe, hT, hdT, h3⟩ := ht
  have hsz3 : 3 < ts.size := (Array.getElem?_eq_some_iff.mp h3).1
  have other : ∀ b, b ≠ T → (s.heap.update T (Obj.mapFields (·.setIfInBounds 3 ((some L).elim Value.none fun f => rawInt f)))).get? b = s.heap.get? b :=
    fun b hb => Heap.get?_update_other _ _ (Ne.symm hb)
  have noRecord : ∀ b o, s.heap.get? b = some o → (∀ vs, o.data ≠ .fields vs) → b ≠ T := fun b o hb hnf q => by
    rw [q, hT] at hb; injection hb with hb; subst hb; exact hnf ts hdT
  unfold setFlight
  refine wpAny_bind (wpAny_field he hd h1 ?_)
  rw [if_pos (show (Value.ref T != Value.none) = true from by simp)]
  refine wpAny_setField hT hdT hsz3 (h _ ⟨fun b o hbo => (other b fun q => by rw [q, hnT] at hbo; cases hbo).trans (hkb b o hbo), hen,
    hl.of_keeps fun b o hb hnf => ⟨o, (other b (noRecord b o hb hnf)).trans hb, rfl⟩, ?_⟩ fun b o hb hnf => ⟨o.slots, (other b (noRecord b o hb hnf)).trans hb⟩)
  exact ⟨oe, vs, T, _, _, (other e (Ne.symm hTe)).trans he, hcls, hd, h1, hnT, hTe, Heap.get?_update_self _ hT (Obj.isFreed_of_fields (Obj.data_mapFields hdT _)), Obj.data_mapFields hdT _, by simp [hsz3]⟩
end
theorem HeldX.push {base h : Heap} {l : List Env} {e : Addr} {X : String} {fl : Value} (x : HeldX base l e X fl h) (o : Obj) : HeldX base l e X fl (h.push o) := by
  obtain ⟨hkb, hen, hl, oe, vs, T, oT, ts, he, hcls, hd, h1, h2, hnT, hTe, hT, hdT, h3⟩ := x
  exact ⟨fun b ob q => Heap.get?_push_of_some _ (hkb b ob q), hen, hl.of_keeps fun b ob q _ => ⟨ob, Heap.get?_push_of_some _ q, rfl⟩, oe, vs, T, oT, ts, Heap.get?_push_of_some _ he, hcls, hd, h1, h2, hnT, hTe, Heap.get?_push_of_some _ hT, hdT, h3⟩
/-- a new exception, without a context -/
structure NewX (s : Shared) (e : Addr) (X : String) (s' : Shared) : Prop where
  keeps : ∀ b o, s.heap.get? b = some o → s'.heap.get? b = some o
  new : s.heap.get? e = none
  there : ∃ oe vs, s'.heap.get? e = some oe ∧ oe.cls = .type X ∧ oe.data = .fields vs ∧ vs[1]? = some .none ∧ vs[2]? = some .none
  gens : s'.gens = s.gens
  os : s'.os = s.os
  tk : s.toks ≤ s'.toks
theorem NewX.of {s s' : Shared} {h' : Heap} {k : Nat} {e : Addr} {X : String} (x : Heap.NewExc s.heap h' e X) (hk : s.toks ≤ k) : NewX s e X { s with heap := h', toks := k } := by
  obtain ⟨ob, t, h1, h2, h3⟩ := x.there
  exact ⟨x.keeps, x.new, ⟨ob, _, h1, h2, h3, rfl, rfl⟩, rfl, rfl, hk⟩
end Mine
end
section
open PySem PySem.W PyProof.Rows
set_option linter.unusedVariables false
set_option maxRecDepth 100000
namespace Mine
section
variable {G : Gnd} {env : Env} {Z Z' H : Zf} {ρ ρ' : Loc} {s s' : Shared} {A : Around} {E : Value → Shared → Prop} {n : Nat} {pos apos : Pos}
theorem St.slotsF (S : St G env Z H ρ s) (F : List Addr) (hc : env.cells = []) (ho : ∀ x ds, ρ.lookup x ≠ some (.own ds)) (hF : ∀ a ∈ F, a ≠ env.locals → Z a = none ∧ H a = none)
    (hk : ∀ a o, a ∉ F → a ≠ env.locals → s.heap.get? a = some o → s'.heap.get? a = some o) (hn : ∀ m, s.heap.Ns env.locals m → s'.heap.Ns env.locals m) (hg : s'.gens = s.gens) (hos : s'.os = s.os) (ht : s.toks ≤ s'.toks) : St G env Z H ρ s' := by
  have zl : ∀ a o, Z a = some o → a ≠ env.locals := fun a o e q => by rw [q, S.lz] at e; cases e
  have hl : ∀ a o, H a = some o → a ≠ env.locals := fun a o e q => by rw [q, S.lh] at e; cases e
  have zF : ∀ a o, Z a = some o → a ∉ F := fun a o e q => by rw [(hF a q (zl a o e)).1] at e; cases e
  have hF' : ∀ a o, H a = some o → a ∉ F := fun a o e q => by rw [(hF a q (hl a o e)).2] at e; cases e
  have has : ∀ y v, Has env s.heap y v → Has env s'.heap y v := fun y v q => by
    rcases q with ⟨k, m, hm, e⟩ | ⟨k, c, e, ob, e1, e2⟩
    · exact .inl ⟨k, m, hn m hm, e⟩
    · rw [hc] at e; cases e
  refine ⟨S.fk, S.gl, S.bl, hg.trans S.gens, hos.trans S.os, Nat.lt_of_lt_of_le S.tk ht, fun a o e => hk a o (zF a o e) (zl a o e) (S.zin a o e), fun a o e => hk a o (hF' a o e) (hl a o e) (S.hin a o e), S.dj, S.bas, ?_, S.lz, S.lh, fun y c e => ?_, S.inj, fun y d e => ?_, ?_⟩
  · obtain ⟨m, hm⟩ := S.ns; exact ⟨m, hn m hm⟩
  · rw [hc] at e; cases e
  · obtain ⟨v, h, r⟩ := S.vars y d e; exact ⟨v, has y v h, r⟩
  · exact ⟨fun _ => 0, fun y z ds es e => absurd e (ho y ds), fun y ds e => absurd e (ho y ds)⟩
theorem exec_tryE {body : List Stmt} {fa : Addr} {d : D} {X : String} {tp np1 np2 cp fp ap ep hp : Pos} {tk : Nat} {l : List Env} (hX : X = "TypeError" ∨ X = "AttributeError") (R : RoomX n A) (hfr : A.frames = some (env :: l)) (hloc : env.frame = some env.locals) (hi : interactive env = false)
    (S : St G env Z H ρ s) (hc : env.cells = []) (hown : ∀ x ds, ρ.lookup x ≠ some (.own ds)) (hff : s.heap.FunFrames (hideAll s.heap (framesOf (env :: l))) (env :: l)) (hzl : ∀ L' ∈ framesOf l, Z L' = none ∧ H L' = none ∧ G.base.get? L' = none ∧ L' ≠ env.locals)
    (hx : ρ.lookup ("text" : Str) = some (B.val d)) (hfn : FnE G n fa [d] "TypeError" HdX) (hkeep : keepIn G.K (.ref fa) = true) (hg : nsIn G.K mainGlobals "_raise_serialization_error" = some (some (.ref fa))) (hkg : env.kindOf "_raise_serialization_error" = some .globalImplicit)
    (hTE : nsIn G.K mainGlobals "TypeError" = some none) (hkTE : env.kindOf "TypeError" = some .globalImplicit) (hAE : nsIn G.K mainGlobals "AttributeError" = some none) (hkAE : env.kindOf "AttributeError" = some .globalImplicit)
    (hb : wpAny (model G.prog G.w) A (execs body env) (fun _ _ => False) (fun e s' => ∃ ea, e = .ref ea ∧ NewX s ea X s') s) :
    wpAny (model G.prog G.w) A (execs [.Try body [.ExceptHandler (some (.Tuple [.Name "TypeError" np1, .Name "AttributeError" np2] tk tp)) none [.Expr (.Call (.Name "_raise_serialization_error" fp) [.Name "text" ap] [] cp) ep] hp] [] [] pos] env) (fun _ _ => False)
      (fun e s' => ∃ ea, e = .ref ea ∧ BodyE env env.locals l ea "TypeError" s s') s := by
  have hsub : ∃ b1 b2, isSubtype (.type X) (.type "TypeError") = pure b1 ∧ isSubtype (.type X) (.type "AttributeError") = pure b2 ∧ (b1 || b2) = true := by
    rcases hX with rfl | rfl
    · exact ⟨true, false, by rw [isSubtype_type]; kernel_rfl, by rw [isSubtype_type]; kernel_rfl, rfl⟩
    · exact ⟨false, true, by rw [isSubtype_type]; kernel_rfl, by rw [isSubtype_type]; kernel_rfl, rfl⟩
  obtain ⟨b1, b2, hs1, hs2, hbb⟩ := hsub
  have hfl : framesOf (env :: l) = env.locals :: framesOf l := by simp [framesOf, hloc]
  refine wpAny_execs_cons (wpAny_Try_except (wpAny_mono hb (fun _ _ q => q.elim) fun e s₁ ⟨ea, ee, N⟩ => ?_))
  subst ee
  obtain ⟨oe, vs, he, hcls, hd, h1, h2⟩ := N.there
  have hBs : (hideAll s.heap (framesOf (env :: l))).StaysIn s₁.heap := fun b o q => N.keeps b o (of_hideAll _ q)
  have hen : (hideAll s.heap (framesOf (env :: l))).get? ea = none := by
    cases q : (hideAll s.heap (framesOf (env :: l))).get? ea with
    | none => rfl
    | some o => have := of_hideAll _ q; rw [N.new] at this; cases this
  have hff₁ : s₁.heap.FunFrames (hideAll s.heap (framesOf (env :: l))) (env :: l) := hff.of_keeps fun b o h _ => ⟨o, N.keeps b o h, rfl⟩
  refine noteX hfr hff₁ hloc he hcls hBs hen hd h1 h2 fun h₂ X₂ up₂ => ?_
  refine flightX (F := none) X₂ fun h₃ X₃ up₃ => ?_
  have hup₁ : s.heap.UpToSlots s₁.heap := Heap.UpToSlots.of_keeps N.keeps
  have back : ∀ (h' : Heap) (k : Nat), (hideAll s.heap (framesOf (env :: l))).StaysIn h' → s.heap.UpToSlots h' → s₁.toks ≤ k → St G env Z H ρ { s₁ with heap := h', toks := k } := fun h' k st up hk =>
    S.slotsF (s' := { s₁ with heap := h', toks := k }) (framesOf l) hc hown (fun a ha _ => ⟨(hzl a ha).1, (hzl a ha).2.1⟩) (fun a o ha hl e => st a o (hideAll_get _ e (by rw [hfl]; simp [ha, hl]))) (fun m hm => up.ns hm) N.gens N.os (Nat.le_trans N.tk hk)
  have up03 : s.heap.UpToSlots h₃ := (hup₁.trans up₂).trans up₃
  have S₃ := back h₃ s₁.toks X₃.1 up03 (Nat.le_refl _)
  refine wpAny_handleBy_tup2 (X := X) (T1 := "TypeError") (T2 := "AttributeError") (b1 := b1) (b2 := b2) (by rw [isSubtype_type]; kernel_rfl) (by rw [isSubtype_type]; kernel_rfl) (by rw [isSubtype_type]; kernel_rfl) (by rw [isSubtype_type]; kernel_rfl) hs1 hs2 ?_
  refine Tuple_ (spliced_more (wp_builtinName S₃ hTE rfl (by decide) hkTE (by decide) (spliced_more (wp_builtinName S₃ hAE rfl (by decide) hkAE (by decide) (spliced_none ?_)) rfl)) rfl)
  refine wpAny_newObj_type ?_ (by show 2 ≤ sizeLine; decide)
  have X₄ := X₃.push { cls := .type "tuple", data := .seq #[.type "TypeError", .type "AttributeError"] }
  refine ⟨_, rfl, ⟨_, Heap.get?_push_size _ rfl, rfl, _, rfl⟩, ?_, ?_⟩
  · obtain ⟨_, _, _, oe', vs', T', oT', ts', g1, g2, _⟩ := X₄
    exact ⟨oe', g1, g2⟩
  rw [hbb, if_pos rfl]
  refine flightX (F := none) X₄ fun h₅ X₅ up₅ => ?_
  have up35 : h₃.UpToSlots h₅ := (Heap.UpToSlots.of_keeps fun b o e => Heap.get?_push_of_some _ e).trans up₅
  have up05 := up03.trans up35
  have S₅ := back h₅ s₁.toks X₅.1 up05 (Nat.le_refl _)
  have lbase : G.base.get? env.locals = none := by
    cases q : G.base.get? env.locals with
    | none => rfl
    | some o =>
      rcases S₅.bas _ _ q with h | h
      · rw [S₅.lz] at h; cases h
      · rw [S₅.lh] at h; cases h
  refine wpAny_execs_cons (wpAny_Expr ?_ (hi := hi))
  rw [eval_call rfl]
  refine wpAny_bind (Calls.Name_function_global S₅.fk hkg (Calls.loadGlobal_global (by rw [S₅.gl]; exact S₅.T.g) (mg_of G.X G.T.g hg) ?_) (by decide))
  refine callWith_of (P := fun h => G.K.In h) (by rw [starred_none (env := env) rfl]; rfl) (keeps_K hkeep) (wp_evalArgs (starred_none rfl cp) (spliced_more (name_run S₅ hx (by decide) fun v r => spliced_none ⟨S₅.X, ?_⟩) rfl))
  have hff₅ : h₅.FunFrames (hideAll h₅ (framesOf (env :: l))) (env :: l) := funFrames_hide X₅.2.2.1 fun env he c hc => List.mem_filterMap.mpr ⟨env, he, hc⟩
  refine wpAny_mono (hfn.run _ Z _ [v] (env :: l) ⟨R.depth, R.units, R.guards⟩ ⟨ea, rfl, ?_⟩ S₅.bs (.cons r .nil) hfr hff₅ ?_) (fun _ _ q => q.elim) fun e₂ s₆ ⟨ea₂, ee₂, ⟨a0, hfly⟩, hup₆, hg₆, hos₆, htk₆⟩ => ?_
  · obtain ⟨_, _, _, oe', vs', T', oT', ts', g1, g2, g3, g4, g5, _⟩ := X₅
    exact ⟨oe', vs', g1, g3, g5⟩
  · intro L' hL'
    rw [hfl] at hL'
    rcases List.mem_cons.mp hL' with rfl | hL'
    · exact ⟨S₅.lz, lbase⟩
    · exact ⟨(hzl L' hL').1, (hzl L' hL').2.2.1⟩
  subst ee₂
  have hBB : (hideAll s.heap (framesOf (env :: l))).StaysIn (hideAll h₅ (framesOf (env :: l))) := fun b o q => by
    refine hideAll_get _ (X₅.1 b o q) fun hm => ?_
    rw [hideAll_none _ hm] at q; cases q
  show wpAny _ _ (noteFrame (.ref ea₂) env) _ _ s₆
  refine wpAny_looks_onW hfr hloc hfly fun h₇ hheld₇ up₇ => ?_
  obtain ⟨k1, k2, k3, k4⟩ := id hheld₇
  obtain ⟨oe₇, vs₇, T₇, oT₇, ts₇, z1, z2, z3, z4, z5⟩ := id k4
  show wpAny _ _ (do
    if (← field (.ref ea₂) 1) == .none then unsupported "frame.own-activation:exception-without-traceback"
    setFlight (.ref ea₂) env.frame) _ _ _
  refine wpAny_bind (wpAny_field z1 z3 z4 ?_)
  rw [if_neg (show ¬ ((Value.ref T₇ == Value.none) = true) from by simp), hloc]
  refine flightW k1 k2 k3 k4 fun h₈ hheld₈ up₈ => ?_
  exact ⟨ea₂, rfl, ⟨a0, .inr (.inl (heldW_base hBB hheld₈))⟩, ((up05.trans hup₆).trans up₇).trans up₈, hg₆.trans N.gens, hos₆.trans N.os, Nat.le_trans N.tk htk₆⟩
end
end Mine
end
section
open PySem PySem.W PyProof.Rows
set_option linter.unusedVariables false
set_option maxRecDepth 100000
namespace Mine
section
variable {prog : Program} {w : World} {A : Around} {E : Value → Shared → Prop} {s : Shared}
theorem list_no_replace : typeLookup (.type "list") "replace" = pure none := by rw [typeLookup_type, builtinLookup_eq_fast]; kernel_rfl
theorem canon_list_ga : (Manifest.canonical "list.__getattribute__" != "object.__getattribute__") = false := by decide +kernel
theorem getAttr_missX {a : Addr} {vs : List Value} {k : Nat} {expr : Bool} {Q : Value → Shared → Prop} (he : expr = false) (hx : s.heap.get? a = some (listOf vs.toArray k)) (hA : A.handled = none)
    (h : ∀ e s', NewX s e "AttributeError" s' → E (.ref e) s') : wpAny (model prog w) A (getAttr (.ref a) "replace" expr) Q E s := by
  subst he
  refine wpAny_with_toks (Nat.le_refl s.toks) ?_
  have hmiss := list_no_replace
  have hE : ∀ h' tk e, Heap.NewAttrErr s.heap h' e (.ref a) "replace" → s.toks ≤ tk → E (.ref e) { s with heap := h', toks := tk } := fun h' tk e x htk => h e _ ⟨x.keeps, x.new, by
    obtain ⟨t, u, q⟩ := x.there
    exact ⟨_, _, q, rfl, rfl, rfl, rfl⟩, rfl, rfl, htk⟩
  clear h
  obtain ⟨hp, g, d, tk, os⟩ := s
  have hT : ∀ tk', (⟨hp, g, d, tk', os⟩ : Shared).TypeIs (.ref a) "list" := fun _ => ⟨_, hx, rfl⟩
  have f1 := sub_AttributeError
  have f3 := F.slot_list_getattribute.lookup
  have f4 := F.slot_list_getattribute.bind (.ref a)
  have f5 := am_list_getattr_none
  unfold getAttr getAttrBy
  repeat (any_goals (first | assumption | exact hT _ | ((with_reducible show wpAny _ _ (call (Value.builtin "list.__getattribute__") _ _) _ _ _); refine call_meets F.slot_list_getattribute (hT _) am_entry_list_getattribute (F.args_list_getattribute_2 _ _) (meets_getattribute_miss_list a _ k _ "replace" _ hmiss (by decide +kernel) (by decide +kernel)) ⟨hx, hA, fun h' tk' e hx' => ?_⟩) | wp_step))
  obtain ⟨t', u', he⟩ := hx'.there
  show wpAny _ _ (getattributeRaised _ _ _ _ _ _ _) _ _ _
  unfold getattributeRaised
  repeat (any_goals (first | assumption | wp_step))
  exact hE _ _ _ hx'
theorem getMethod_missX {a : Addr} {vs : List Value} {k : Nat} {pl : Sem Bool} {Q : Value × List Value → Shared → Prop} (hx : s.heap.get? a = some (listOf vs.toArray k)) (hA : A.handled = none)
    (h : ∀ e s', NewX s e "AttributeError" s' → E (.ref e) s') : wpAny (model prog w) A (getMethod (.ref a) "replace" pl) Q E s := by
  have hT : s.TypeIs (.ref a) "list" := ⟨_, hx, rfl⟩
  unfold getMethod
  refine wpAny_bind (wpAny_specialOf hT F.slot_list_getattribute.lookup ?_)
  dsimp only
  rw [canon_list_ga, if_neg (by decide)]
  refine wpAny_bind (wpAny_specialOf hT am_list_getattr_none ?_)
  rw [if_neg (by decide)]
  refine wpAny_bind (wpAny_specialOf hT list_no_replace ?_)
  dsimp only
  exact wpAny_bind (getAttr_missX rfl hx hA h)
theorem int_no_contains : typeLookup (.type "int") "__contains__" = pure none := by rw [typeLookup_type, builtinLookup_eq_fast]; kernel_rfl
theorem int_no_iter : typeLookup (.type "int") "__iter__" = pure none := by rw [typeLookup_type, builtinLookup_eq_fast]; kernel_rfl
theorem sub_TE : isSubtype (.type "TypeError") (.type "TypeError") = pure true := by rw [isSubtype_type]; kernel_rfl
theorem in_intX {x : Value} {i : Int} {t : Tok} {Q : Value → Shared → Prop} (hA : A.handled = none) (h : ∀ e s', NewX s e "TypeError" s' → E (.ref e) s') : wpAny (model prog w) A (compareOp .In x (.int i t)) Q E s := by
  have hT := fun s => typeIs_int s i t
  refine wpAny_with_toks (Nat.le_refl s.toks) ?_
  unfold compareOp contains
  refine wpAny_bind (wpAny_holding ?_)
  dsimp only
  rw [show stdlibNamesSay? (.int i t) x = none from rfl]
  dsimp only
  refine wpAny_bind (wpAny_specialOf (hT s) int_no_contains ?_)
  rw [if_neg (by decide)]
  unfold callSpecialUnlessNone?
  refine wpAny_bind (wpAny_bind (wpAny_specialOf (hT s) int_no_contains (wpAny_pure ?_)))
  dsimp only
  refine wpAny_bind (wpAny_rule ?_)
  refine wpAny_bind (wpAny_tryCatch ?_)
  unfold pyIter
  refine wpAny_bind (wpAny_specialOf (hT s) int_no_iter ?_)
  dsimp only
  refine wpAny_bind (wpAny_specialOf (hT s) KPc.look_getitem ?_)
  dsimp only
  refine wpAny_bind (wpAny_rule ?_)
  refine wpAny_bind (wpAny_typeNameOf' (hT s) (by decide) ?_)
  refine wpAny_raiseErrorMade plainExc_TypeError hA (fun h₁ tk₁ e₁ x₁ => ?_) (by decide +kernel)
  obtain ⟨ob, t', g1, g2, g3⟩ := x₁.there
  refine wpAny_bind (wpAny_isInstance (T := "TypeError") ⟨ob, g1, g2⟩ sub_TE ?_)
  rw [if_pos rfl]
  refine wpAny_bind (wpAny_typeNameOf' (hT _) (by decide) ?_)
  refine wpAny_raiseErrorMade plainExc_TypeError hA (fun h₂ tk₂ e₂ x₂ htk => ?_) (by decide +kernel)
  obtain ⟨ob₂, t₂, z1, z2, z3⟩ := x₂.there
  refine h e₂ _ ⟨fun b o q => x₂.keeps _ _ (x₁.keeps _ _ q), ?_, ⟨ob₂, _, z1, z2, z3, rfl, rfl⟩, rfl, rfl, htk⟩
  cases q : s.heap.get? e₂ with
  | none => rfl
  | some o => have := x₁.keeps _ _ q; have := x₂.new; simp_all
end
end Mine
end
section
open PySem PySem.W PyProof.Rows
set_option linter.unusedVariables false
set_option maxRecDepth 100000
namespace Mine
section
variable {G : Gnd} {env : Env} {Z Z' H : Zf} {ρ ρ' : Loc} {s s' : Shared} {A : Around} {E : Value → Shared → Prop} {n : Nat} {pos apos : Pos}
theorem NewX.after {s s₁ s₂ : Shared} {e : Addr} {X : String} (x : Ext Z s Z' s₁) (y : NewX s₁ e X s₂) : NewX s e X s₂ := by
  refine ⟨fun b o h => y.keeps _ _ (x.keep _ _ h), ?_, y.there, y.gens.trans x.gens, y.os.trans x.os, Nat.le_trans x.tk y.tk⟩
  cases q : s.heap.get? e with
  | none => rfl
  | some o => have := x.keep _ _ q; rw [y.new] at this; cases this
abbrev RaisesX (X : String) (s : Shared) : Value → Shared → Prop := fun e s' => ∃ ea, e = .ref ea ∧ NewX s ea X s'
/-- a body that raises, from whatever state -/
structure BodyX (G : Gnd) (env : Env) (n : Nat) (ρ : Loc) (sts : List Stmt) (X : String) : Prop where
  run : ∀ A Z H s, Room n A → St G env Z H ρ s → wpAny (model G.prog G.w) A (execs sts env) (fun _ _ => False) (RaisesX X s) s
theorem bodyX_if {t : PySem.Expr} {b : Bool} {body rest : List Stmt} {X : String} (h : Tst G env n ρ t b) (h1 : b = true → BodyX G env n ρ body X) (h2 : b = false → BodyX G env n ρ rest X) : BodyX G env n ρ (.If t body [] pos :: rest) X := by
  constructor
  intro A Z H s R S
  refine wpAny_execs_cons (wpAny_If (wp_seq (h.run A Z H s R S) fun c s₁ ⟨e, x⟩ => ?_))
  subst e
  cases c with
  | true => exact wpAny_mono ((h1 rfl).run A Z H s₁ R (S.ext x)) (fun _ _ q => q.elim) fun e s₂ ⟨ea, ee, N⟩ => ⟨ea, ee, N.after x⟩
  | false => exact wpAny_execs_nil (wpAny_mono ((h2 rfl).run A Z H s₁ R (S.ext x)) (fun _ _ q => q.elim) fun e s₂ ⟨ea, ee, N⟩ => ⟨ea, ee, N.after x⟩)
theorem bodyX_in_int {x c : Str} {i : Int} {k : Nat} {p1 p2 p3 : Pos} {body rest : List Stmt} (hx : ρ.lookup x = some (.val (.int i))) (hd : (x == ("__debug__" : Str)) = false) : BodyX G env n ρ (.If (.Compare (.Constant (.str c) k p1) [.In] [.Name x p2] p3) body [] pos :: rest) "TypeError" := by
  constructor
  intro A Z H s R S
  refine wpAny_execs_cons (wpAny_If (wpAny_isTrue_Compare1 (Calls.Constant_str ?_) rfl))
  have x₁ : Ext Z s Z { s with toks := s.toks + 1 } := Ext.tok S.zin (Nat.le_succ _)
  refine name_run (S.ext x₁) hx hd fun v r => ?_
  cases r
  exact in_intX R.handled fun e s' N => ⟨e, rfl, N.after x₁⟩
theorem bodyX_replace {x : Str} {ds : List D} {es : List PySem.Expr} {p1 p2 ap spos : Pos} {rest : List Stmt} (hx : ρ.lookup x = some (.val (.list ds))) (hd : (x == ("__debug__" : Str)) = false) (hline : (ap.endLine == pos.line) = true)
    (hs : swapsWith (.Call (.Attribute (.Name x p2) "replace" ap) es [] pos) (some (.Name x p1)) spos.line env = pure false) {pl : Sem Bool}
    (he : eval (.Call (.Attribute (.Name x p2) "replace" ap) es [] pos) env = (do
      let ov ← eval (.Name x p2) env
      standAt ap.atName
      let (f, first) ← holding [ov] (getMethod ov "replace" pl)
      callWith pos f first (backTo pos (starEach es env)) [])) : BodyX G env n ρ (.Assign [.Name x p1] (.Call (.Attribute (.Name x p2) "replace" ap) es [] pos) spos :: rest) "AttributeError" := by
  constructor
  intro A Z H s R S
  refine wpAny_execs_cons (wpAny_Assign_Name (MethodCall_ (name_run S hx hd fun v r => ?_) he) hs)
  cases r with
  | list hz ra => exact getMethod_missX (S.zin _ _ hz) R.handled fun e s' N => ⟨e, rfl, N⟩
end
end Mine
end
section
open PySem PySem.W PyProof.Rows
set_option linter.unusedVariables false
namespace Mine
section
variable {G : Gnd} {env : Env} {Z Z' H : Zf} {ρ ρ' : Loc} {s s' : Shared} {A : Around} {E : Value → Shared → Prop} {n : Nat} {pos apos : Pos}
theorem exAt_for {tgt iter : PySem.Expr} {body : List Stmt} {d : D} {ds : List D} {Φ : Fl → Loc → Prop} (I : Nat → Loc) (h : Ev G env n ρ iter d) (hi : Itr G d ds) (h0 : Sub (I 0) ρ)
    (turn : ∀ i d, ds[i]? = some d → ∃ ρ'', Asg G env tgt d (I i) ρ'' ∧ ExsAt G A env n ρ'' body (LoopPost Φ (Sub (I (i + 1)))))
    (done : ∀ ρ', Sub (I ds.length) ρ' → Φ .next ρ') (hs : ∀ x, foldedSetIterable iter env x = pure x) : ExAt G A env n ρ (.For tgt iter body [] pos) Φ := by
  constructor
  intro Z H s R S
  refine wpAny_For (wp_seq (h.run A Z H s R S) fun v s₁ ⟨Z₁, x₁, r₁⟩ => wp_seq (hi.run A Z₁ s₁ v (R.less (Nat.zero_le _)) (S.ext x₁).bs r₁) fun it s₂ ⟨I', fp, P', W, e, x₂, hI, hW, hfp, hW0, hcls, hP⟩ => ?_) hs
  subst e
  have W₀ := hW A R.handled
  obtain ⟨o₂, _, ho₂, _⟩ := hcls 0 _ hW0
  obtain ⟨S₂, hB, hH, hZ, hC⟩ := (S.ext x₁).hold x₂ hI ho₂
  refine codeAny_forLoop_any (fun m s => ∃ i Zc o, m = ds.length - i ∧ i ≤ ds.length ∧ Zle Z₁ Zc ∧ St G env Zc (Zadd H I' o) (I i) s ∧ W i s.heap) (fun m s hm => ?_) ds.length ⟨0, Z₁, o₂, rfl, Nat.zero_le _, Zle.same, S₂.weaken h0, hW0⟩
  obtain ⟨i, Zc, o, rfl, hle, lec, Sc, hWi⟩ := hm
  by_cases hlt : i < ds.length
  · refine wpAny_with_toks (Nat.le_refl s.toks) (W₀.item i s _ _ hlt Sc.tk hWi fun v h' tk pv hW' hk tok => ?_)
    obtain ⟨d', hd', rv⟩ := hP i v pv
    obtain ⟨o', T, ho', hcT, hT⟩ := hcls _ _ hW'
    have St' := Sc.turn (t := tk) hB hC (fun b ob hb e => hk b ob (by simpa using hb) e) ho' tok
    refine wp_letOwned (s := { s with heap := h', toks := tk }) ho' hcT hT ?_
    obtain ⟨ρ'', ha, hb⟩ := turn i d' hd'
    refine wp_seq (ha.run A Zc _ _ v (R.less (Nat.zero_le _)) St' (rv.mono lec)) fun _ s₄ ⟨Z₄, le₄, S₄⟩ => ?_
    refine wp_seq (hb.run Z₄ _ s₄ R S₄) fun f s₅ ⟨Z₅, ρ₅, fl, le₅, S₅, hf, hΦ⟩ => ?_
    have les : Zle Z Z₅ := x₁.le.trans (lec.trans (le₄.trans le₅))
    have nx : Sub (I (i + 1)) ρ₅ → ∃ m, m < ds.length - i ∧ ∃ i Zc o, m = ds.length - i ∧ i ≤ ds.length ∧ Zle Z₁ Zc ∧ St G env Zc (Zadd H I' o) (I i) s₅ ∧ W i s₅.heap := fun hp => by
      refine ⟨ds.length - (i + 1), by omega, i + 1, Z₅, o', rfl, by omega, lec.trans (le₄.trans le₅), S₅.weaken hp, W₀.frame _ _ _ hW' fun b hb ob e => ?_⟩
      rcases hfp b hb with rfl | ⟨oz, hz⟩
      · have e' : h'.get? b = some ob := e
        rw [ho'] at e'; cases e'
        exact S₅.hin _ _ Zadd.self
      · have e1 := St'.zin b oz (lec b oz hz)
        have e' : h'.get? b = some ob := e
        have e2 : h'.get? b = some oz := e1
        rw [e'] at e2; cases e2
        exact S₅.zin _ _ (le₅ _ _ (le₄ _ _ (lec _ _ hz)))
    cases hf with
    | next => exact nx hΦ
    | cont => exact nx hΦ
    | brk => exact ⟨Z₅, ρ₅, .next, les, S₅.unhold hB hC hH, .next, hΦ⟩
    | ret r => exact ⟨Z₅, ρ₅, .ret _, les, S₅.unhold hB hC hH, .ret r, hΦ⟩
  · have hlen : i = ds.length := by omega
    subst hlen
    refine wpAny_with_toks (Nat.le_refl s.toks) (W₀.done s _ _ hWi fun h' tk hk tok => ?_)
    refine wpAny_execs_nil ?_
    exact ⟨Zc, _, .next, x₁.le.trans lec, Sc.drop (t := tk) hB hC hH (fun b ob hb e => hk b ob (by simpa using hb) e) tok, .next, done _ Sub.same⟩
end
end Mine
end
section
open PySem PySem.W PyProof.Rows
set_option linter.unusedVariables false
set_option maxRecDepth 100000
namespace Mine
local macro_rules | `(tactic| walk_at "ev1") => `(tactic| first
  | exact ev_int | exact ev_str | exact ev_bool | exact ev_none
  | exact ev_name rfl rfl
  | exact evs_nil
  | (apply evs_more; (case hs => exact rfl))
  | apply ev_binop | (apply ev_cmp; (case hm => exact rfl)) | apply ev_sub
  | apply ev_list | apply ev_tuple
  | (apply tst_cmp; (case hm => exact rfl)) | apply tst_not | exact tst_and_nil | exact tst_or_nil
  | exact op_add_int | exact op_sub_int | exact op_iadd_int | exact op_eq_int | exact op_ne_int | exact op_lt_int | exact op_gt_int | exact op_le_int | exact op_ge_int
  | exact op_eq_str | exact op_ne_str | exact op_in_str | exact op_notin_str | exact op_in_dict | exact op_notin_dict | exact op_ne_nil | exact op_eq_nil
  | exact op_fdiv_int (by decide) (PyProof.noPylong_of_log2 (by decide +kernel)) | exact op_mod_int (by decide)
  | apply op_add_str | apply op_iadd_str
  | exact tsts_nil | apply tsts_one)
local macro_rules | `(tactic| walk_at "ev") => `(tactic| repeat' walk_at "ev1")
local macro_rules | `(tactic| walk_at "can") => `(tactic| first | exact Or.inl rfl | exact Or.inr ⟨rfl, rfl, _, rfl⟩)
local macro_rules | `(tactic| walk_at "as") => `(tactic| (refine exs_cons ?_; apply ex_assign; (case hc => walk_at "can"); (case hs => exact rfl); (case' k => refine then_next ?_); (case' h => walk_at "ev")))
local macro_rules | `(tactic| walk_at "aug") => `(tactic| (refine exs_cons ?_; apply ex_aug; (case h₀ => exact rfl); (case hc => walk_at "can"); (case' k => refine then_next ?_); (case' ho => skip); (case' h => walk_at "ev"); (try walk_at "ev")))
local macro_rules | `(tactic| walk_at "if") => `(tactic| (refine exs_cons ?_; apply ex_if; (case' h => walk_at "ev")))
local macro_rules | `(tactic| walk_at "ret") => `(tactic| (refine exs_cons ?_; apply ex_return; (case' h => walk_at "ev")))
local macro_rules | `(tactic| walk_at "params") => `(tactic| (intro x hx; simp only [List.mem_cons, List.not_mem_nil, or_false] at hx; first
  | (subst hx; first | exact .inl rfl | exact .inr ⟨rfl, fun _ => rfl⟩)
  | (rcases hx with hx | hx <;> subst hx <;> first | exact .inl rfl | exact .inr ⟨rfl, fun _ => rfl⟩)
  | (rcases hx with hx | hx | hx <;> subst hx <;> first | exact .inl rfl | exact .inr ⟨rfl, fun _ => rfl⟩)))
local macro_rules | `(tactic| walk_at "esc") => `(tactic| (refine esc_step rfl (by decide +kernel : _ = (⟨#[_]⟩ : Str)) ?_ ?_ ?_ ?_ (by assumption) rfl (by walk_at "can") rfl ?_))
abbrev pw := PySem.Challenge.pw_dn0275_02
section
variable {G : Gnd} {n : Nat} {doc pm cdv ct : Value} {a : Addr}
def rAmp : List Nat := [38, 97, 109, 112, 59]
def rGt : List Nat := [38, 103, 116, 59]
def rQuot : List Nat := [38, 113, 117, 111, 116, 59]
def htmlT : Tbl := [(38, rAmp), (62, rGt), (34, rQuot)]
theorem fn_html (D : DefAt G a (fdOf (stOf pw 2) doc pm cdv ct) (bodyOf (stOf pw 2))) (l : List Nat) (hl : l.length ≤ 100000) : Fn G (n + 1) a [.str (T l)] (.str (T (escBy htmlT l))) := by
  refine fn_of (xs := ["text"]) D (fun vs h => ?_) rfl ?_ (by decide) fun L => ?_
  · match vs, h with
    | [v], _ => rfl
  · walk_at "params"
  rw [show T l = T (escBy [] l) from by rw [escBy_nil]]
  refine exs_cons (ex_try ?_)
  refine esc_step (c := 38) (z := rAmp) rfl (by decide +kernel) (by decide +kernel) (by decide) (by decide) (by decide) hl rfl (.inl rfl) rfl ?_
  refine esc_step (c := 62) (z := rGt) rfl (by decide +kernel) (by decide +kernel) (by decide) (by decide) (by decide) hl rfl (.inl rfl) rfl ?_
  refine esc_step (c := 34) (z := rQuot) rfl (by decide +kernel) (by decide +kernel) (by decide) (by decide) (by decide) hl rfl (.inl rfl) rfl ?_
  walk_at "ret"
  rfl
set_option maxHeartbeats 4000000
theorem starts3_T (l p : List Nat) (i : Nat) (hi : i ≤ l.length) : Txt.startswith3 (T l) (T p) (i : Int) = p.isPrefixOf (l.drop i) := by
  have hf : fromIndex (T l).length (i : Int) = i := by
    unfold fromIndex
    have : ¬ (i : Int) < 0 := by omega
    simp [this]
  unfold Txt.startswith3
  rw [hf, StrLaws.subAt_eq, T_length, T_length, T_list, T_list, Bool.eq_iff_iff, Bool.and_eq_true, decide_eq_true_eq, beq_iff_eq, List.isPrefixOf_iff_prefix]
  constructor
  · rintro ⟨_, h⟩
    exact ⟨_, by conv => lhs; rw [← h]
                 exact List.take_append_drop _ _⟩
  · rintro ⟨t, h⟩
    have := congrArg List.length h
    rw [List.length_append, List.length_drop] at this
    rw [← h]
    simp
    omega
def pieces02 : List Str := ["&", "<", ">", "\"", "amp", "lt", "gt", "quot", ";", "amp;", "lt;", "=", "copy", "&amp;", "'", "\n"]
def step02 (x : Int) : List Nat := if (x.fmod 2 == 0) = true then cs (pieces02.getD ((x.fdiv 2).fmod 16).toNat Str.empty) else [(codeOf ((x.fdiv 2).fmod 1112064)).toNat]
def text02 (ns : List Int) : List Nat := ns.flatMap step02
theorem step02_le (x : Int) : (step02 x).length ≤ 6 := by
  unfold step02
  split
  · have h := fmod_bounds (a := x.fdiv 2) (m := 16) (by decide)
    have hlt : ((x.fdiv 2).fmod 16).toNat < pieces02.length := by show _ < 16; omega
    have all : pieces02.all (fun y => decide ((cs y).length ≤ 6)) = true := by decide +kernel
    rw [List.getD_eq_getElem?_getD, List.getElem?_eq_getElem hlt]
    exact of_decide_eq_true (List.all_eq_true.mp all _ (List.getElem_mem hlt))
  · simp
theorem text02_le (ns : List Int) : (text02 ns).length ≤ 6 * ns.length := by
  induction ns with
  | nil => simp [text02]
  | cons x r ih =>
    unfold text02 at ih ⊢
    rw [List.flatMap_cons, List.length_append, List.length_cons]
    have := step02_le x
    omega
theorem fn_text (dA : DefAt G a (fdOf (stOf pw 4) doc pm cdv ct) (bodyOf (stOf pw 4))) (hc : nsIn G.K mainGlobals "chr" = some none) (ns : List Int) (hn : ns.length ≤ 63) : Fn G (n + 2) a [.list (ns.map .int)] (.str (T (text02 ns))) := by
  refine fn_of (xs := ["script"]) dA (fun vs h => ?_) rfl ?_ (by decide) fun L => ?_
  · match vs, h with
    | [v], _ => rfl
  · walk_at "params"
  have big : 100000 ≤ sizeLine := by decide
  walk_at "as"
  · decide
  walk_at "as"
  refine exs_cons ?_
  apply ex_forI (fun i => [("script", .val (.list (ns.map .int))), ("pieces", .val (.list (txs pieces02))), ("text", .val (.str (T (text02 (ns.take i)))))])
  · walk_at "ev"
  · exact itr_list
  · exact sub_cons rfl (sub_cons rfl (sub_cons rfl sub_nil))
  · intro i d hd
    obtain ⟨x, hx, rfl⟩ := at_map hd
    refine ⟨_, asg_name (.inl rfl), ?_⟩
    have htk : text02 (ns.take (i + 1)) = text02 (ns.take i) ++ step02 x := by
      unfold text02
      rw [List.take_add_one, hx, List.flatMap_append]
      simp
    have hll := text02_le (ns.take i)
    rw [List.length_take] at hll
    have hst := step02_le x
    rw [htk]
    walk_at "as"
    walk_at "as"
    walk_at "if"
    · intro h2
      have e : step02 x = cs (pieces02.getD ((x.fdiv 2).fmod 16).toNat Str.empty) := if_pos h2
      refine exs_cons (ex_aug (d₀ := .str (T (text02 (ns.take i)))) (d₁ := .str (T (step02 x))) (d := .str (T (text02 (ns.take i) ++ step02 x))) rfl ?_ ?_ (.inl rfl) (then_next (exs_nil (then_next (exs_nil (sub_cons rfl (sub_cons rfl (sub_cons rfl sub_nil))))))))
      · rw [e, show T (cs (pieces02.getD ((x.fdiv 2).fmod 16).toNat Str.empty)) = pieces02.getD ((x.fdiv 2).fmod 16).toNat Str.empty from T_of _]
        exact ev_sub (ev_name rfl rfl) (by walk_at "ev") (sb_menu (xs := pieces02) (m := 16) (by decide) (by decide) (by decide))
      · rw [← T_append]
        exact op_iadd_str (by rw [T_length, T_length]; omega)
    · intro h2
      have e : step02 x = [(codeOf ((x.fdiv 2).fmod 1112064)).toNat] := if_neg (by rw [h2]; decide)
      refine exs_cons (ex_aug (d₀ := .str (T (text02 (ns.take i)))) (d₁ := .str (T (step02 x))) (d := .str (T (text02 (ns.take i) ++ step02 x))) rfl ?_ ?_ (.inl rfl) (then_next (exs_nil (then_next (exs_nil (sub_cons rfl (sub_cons rfl (sub_cons rfl sub_nil))))))))
      · rw [e, T_one]
        refine ev_bf (evs_more (ev_ifint (c := decide ((x.fdiv 2).fmod 1112064 < 55296)) ?_ (fun _ => ev_name rfl rfl) fun _ => ?_) evs_nil rfl) (bf_chr (i := codeOf ((x.fdiv 2).fmod 1112064)) (codeOf_bounds _).1 (codeOf_bounds _).2) hc rfl rfl rfl rfl
        · walk_at "ev"
        · walk_at "ev"
      · rw [← T_append]
        exact op_iadd_str (by rw [T_length, T_length]; omega)
  · intro ρ' hsub
    refine then_next (exs_weaken hsub ?_)
    rw [List.length_map, List.take_length]
    walk_at "ret"
    rfl
  · intro x; rfl
end
end Mine
end
section
open PySem PySem.W PyProof.Rows
set_option linter.unusedVariables false
set_option maxRecDepth 100000
namespace Mine
local macro_rules | `(tactic| walk_at "ev1") => `(tactic| first
  | exact ev_int | exact ev_str | exact ev_bool | exact ev_none
  | exact ev_name rfl rfl
  | exact evs_nil
  | (apply evs_more; (case hs => exact rfl))
  | apply ev_binop | (apply ev_cmp; (case hm => exact rfl)) | apply ev_sub
  | apply ev_list | apply ev_tuple
  | (apply tst_cmp; (case hm => exact rfl)) | apply tst_not | exact tst_and_nil | exact tst_or_nil
  | exact op_add_int | exact op_sub_int | exact op_iadd_int | exact op_eq_int | exact op_ne_int | exact op_lt_int | exact op_gt_int | exact op_le_int | exact op_ge_int
  | exact op_eq_str | exact op_ne_str | exact op_in_str | exact op_notin_str | exact op_in_dict | exact op_notin_dict | exact op_ne_nil | exact op_eq_nil
  | exact op_fdiv_int (by decide) (PyProof.noPylong_of_log2 (by decide +kernel)) | exact op_mod_int (by decide)
  | apply op_add_str | apply op_iadd_str
  | exact tsts_nil | apply tsts_one)
local macro_rules | `(tactic| walk_at "ev") => `(tactic| repeat' walk_at "ev1")
local macro_rules | `(tactic| walk_at "can") => `(tactic| first | exact Or.inl rfl | exact Or.inr ⟨rfl, rfl, _, rfl⟩)
local macro_rules | `(tactic| walk_at "as") => `(tactic| (refine exs_cons ?_; apply ex_assign; (case hc => walk_at "can"); (case hs => exact rfl); (case' k => refine then_next ?_); (case' h => walk_at "ev")))
local macro_rules | `(tactic| walk_at "aug") => `(tactic| (refine exs_cons ?_; apply ex_aug; (case h₀ => exact rfl); (case hc => walk_at "can"); (case' k => refine then_next ?_); (case' ho => skip); (case' h => walk_at "ev"); (try walk_at "ev")))
local macro_rules | `(tactic| walk_at "if") => `(tactic| (refine exs_cons ?_; apply ex_if; (case' h => walk_at "ev")))
local macro_rules | `(tactic| walk_at "ret") => `(tactic| (refine exs_cons ?_; apply ex_return; (case' h => walk_at "ev")))
local macro_rules | `(tactic| walk_at "params") => `(tactic| (intro x hx; simp only [List.mem_cons, List.not_mem_nil, or_false] at hx; first
  | (subst hx; first | exact .inl rfl | exact .inr ⟨rfl, fun _ => rfl⟩)
  | (rcases hx with hx | hx <;> subst hx <;> first | exact .inl rfl | exact .inr ⟨rfl, fun _ => rfl⟩)
  | (rcases hx with hx | hx | hx <;> subst hx <;> first | exact .inl rfl | exact .inr ⟨rfl, fun _ => rfl⟩)))
local macro_rules | `(tactic| walk_at "esc") => `(tactic| (refine esc_step rfl (by decide +kernel : _ = (⟨#[_]⟩ : Str)) ?_ ?_ ?_ ?_ (by assumption) rfl (by walk_at "can") rfl ?_))

section
variable {G : Gnd} {n : Nat} {doc pm cdv ct : Value} {a : Addr}
set_option maxHeartbeats 4000000
theorem exs_branch2 {env : Env} {ρ : Loc} {st : Stmt} {rest : List Stmt} {Φ : Fl → Loc → Prop} (ρ₁ : Loc) (tail : Exs G env n ρ₁ rest Φ) (h : Ex G env n ρ st (Then Φ fun ρ' => Sub ρ₁ ρ')) : Exs G env n ρ (st :: rest) Φ := by
  constructor
  intro A Z H s R S
  refine wpAny_execs_cons (wp_seq (h.run A Z H s R S) fun f s' ⟨Z', ρ', fl, le, S', hf, hΦ⟩ => ?_)
  cases hf with
  | next => exact wp_seq (tail.run A Z' H s' R (S'.weaken hΦ)) fun f s'' ⟨Z'', ρ'', fl, le', S'', hf, h⟩ => ⟨Z'', ρ'', fl, le.trans le', S'', hf, h⟩
  | brk => exact ⟨Z', ρ', _, le, S', .brk, hΦ⟩
  | cont => exact ⟨Z', ρ', _, le, S', .cont, hΦ⟩
  | ret r => exact ⟨Z', ρ', _, le, S', .ret r, hΦ⟩
theorem tst_and_no {env : Env} {ρ : Loc} {pos : Pos} {x : PySem.Expr} {rest : List PySem.Expr} {c : Bool} (hc : c = false) (h : Tst G env n ρ x c) : Tst G env n ρ (.BoolOp .And (x :: rest) pos) false := by
  subst hc; exact tst_and (b := false) h (fun h => nomatch h)
def nm02 : List (Str × Str) := [("amp", "&"), ("lt", "<"), ("gt", ">"), ("quot", "\"")]
def keys02 : List (List Nat) := [[97, 109, 112], [108, 116], [103, 116], [113, 117, 111, 116]]
theorem keys02_eq : nm02.map (·.1) = keys02.map T := by decide +kernel
/-- what a key sign's reference is -/
theorem key02 {c : Nat} {z : List Nat} (h : htmlT.lookup c = some z) : ∃ nm, z = 38 :: (nm ++ [59]) ∧ nm ∈ keys02 ∧ nm.length ≤ 4 ∧ dget (nm02.map (·.1)) (nm02.map fun p => D.str p.2) (T nm) = some (.str ⟨#[c]⟩) ∧
    ∀ q : List Nat, (keys02.filter fun k => k.isPrefixOf (nm ++ 59 :: q)) = [nm] := by
  have hm := mem_look h
  simp only [htmlT, List.mem_cons, List.not_mem_nil, or_false, Prod.mk.injEq] at hm
  rcases hm with ⟨rfl, rfl⟩ | ⟨rfl, rfl⟩ | ⟨rfl, rfl⟩
  · exact ⟨[97, 109, 112], rfl, by decide, by decide, by rfl, fun q => by simp [keys02, List.isPrefixOf]⟩
  · exact ⟨[103, 116], rfl, by decide, by decide, by rfl, fun q => by simp [keys02, List.isPrefixOf]⟩
  · exact ⟨[113, 117, 111, 116], rfl, by decide, by decide, by rfl, fun q => by simp [keys02, List.isPrefixOf]⟩
theorem found_flat (b : Bool) (row : List Nat) : ∀ ks : List (List Nat), txs ((ks.filter fun k => b && k.isPrefixOf row).map T) = ks.flatMap fun k => if (b && (k.isPrefixOf row && true)) = true then [D.str (T k)] else []
  | [] => rfl
  | k :: r => by
    rw [List.flatMap_cons, ← found_flat b row r, List.filter_cons, Bool.and_true]
    split
    · rfl
    · rfl
theorem fn_read (dA : DefAt G a (fdOf (stOf pw 5) doc pm cdv ct) (bodyOf (stOf pw 5))) (hlen : nsIn G.K mainGlobals "len" = some none) (l : List Nat) (hl : l.length ≤ 1000) (hrow : (escBy htmlT l).length ≤ 8000) :
    Fn G (n + 2) a [.str (T (escBy htmlT l))] (.str (T l)) := by
  refine fn_of (xs := ["written"]) dA (fun vs h => ?_) rfl ?_ (by decide) fun L => ?_
  · match vs, h with
    | [v], _ => rfl
  · walk_at "params"
  have big : 100000 ≤ sizeLine := by decide
  refine exs_cons (ex_assign (d := strDict nm02) (ev_dict (r := nm02) (by repeat' constructor) (by decide) (by decide) (by decide +kernel)) (.inl rfl) rfl (then_next ?_))
  walk_at "as"
  walk_at "as"
  refine exs_cons ?_
  refine ex_whileI (σ := List Nat × List Nat) (fun c => [("written", .val (.str (T (escBy htmlT l)))), ("names", .val (strDict nm02)), ("text", .val (.str (T c.1))), ("k", .val (.int ((escBy htmlT c.1).length : Int)))]) (fun c => c.2.length) (fun c => l = c.1 ++ c.2) ([], l) (sub_cons rfl (sub_cons rfl (sub_cons rfl (sub_cons rfl sub_nil)))) rfl ?_
  rintro ⟨dn, rem⟩ hdr
  dsimp only at hdr ⊢
  have hrw : escBy htmlT l = escBy htmlT dn ++ escBy htmlT rem := by rw [hdr, escBy_append]
  have hrl : (escBy htmlT dn).length + (escBy htmlT rem).length = (escBy htmlT l).length := by rw [hrw, List.length_append]
  have hdl : dn.length + rem.length = l.length := by rw [hdr, List.length_append]
  refine ⟨decide (((escBy htmlT dn).length : Int) < ((escBy htmlT l).length : Int)), tst_cmp (ev_name rfl rfl) (ev_len (ev_name rfl rfl) (by omega) hlen rfl rfl) op_lt_int rfl, fun hc => ?_, fun hc ρ' hsub => ?_⟩
  · cases rem with
    | nil =>
      rw [decide_eq_true_eq] at hc
      have e0 : (escBy htmlT []).length = 0 := rfl
      omega
    | cons c r =>
      have hPC : PC htmlT := ⟨by decide +kernel⟩
      have hamp : ("&" : Str) = T [38] := by decide +kernel
      have hsemi : (";" : Str) = T [59] := by decide +kernel
      rw [List.length_cons] at hdl
      cases hk : htmlT.lookup c with
      | none =>
        have hsp : spell htmlT c = [c] := spell_none hk
        have hc38 := hPC.amp hk
        have hrw2 : escBy htmlT l = escBy htmlT dn ++ c :: escBy htmlT r := by rw [hrw, escBy_cons, hsp]; rfl
        have hsig : (escBy htmlT l)[(escBy htmlT dn).length]? = some c := by rw [hrw2]; simp
        have hdn' : escBy htmlT (dn ++ [c]) = escBy htmlT dn ++ [c] := by rw [escBy_append]; simp [escBy, hsp]
        refine exs_cons (ex_assign (ev_at (ev_name rfl rfl) (ev_name rfl rfl) hsig (by omega)) (by walk_at "can") rfl (then_next ?_))
        refine exs_cons (ex_aug (d := .int ((escBy htmlT (dn ++ [c])).length : Int)) rfl ev_int (by rw [hdn', List.length_append, List.length_singleton, Int.natCast_add]; exact op_iadd_int) (by walk_at "can") (then_next ?_))
        have hb : ((⟨#[c]⟩ : Str) == "&") = false := by rw [hamp, ← T_one, T_beq]; simp [hc38]
        refine exs_cons (ex_assign_comp (ρc := [("written", .val (.str (T (escBy htmlT l)))), ("k", .val (.int ((escBy htmlT (dn ++ [c])).length : Int))), ("sign", .val (.str ⟨#[c]⟩))]) (cl := [("written", _), ("sign", _), ("k", _)]) (d := strDict nm02) (ds := (nm02.map (·.1)).map .str) (out := []) ⟨rfl, by decide, by decide, rfl, cells_cons rfl (cells_cons rfl (cells_cons rfl cells_nil)), cap_cons rfl rfl rfl rfl (cap_cons rfl rfl rfl rfl (cap_cons rfl rfl rfl rfl cap_nil))⟩ rfl (fun _ => rfl) rfl (ev_name rfl rfl) itr_dict ?_ (by simp) (.inl rfl) (then_next ?_))
        · intro C
          have e : ([] : List D) = (nm02.map (·.1)).flatMap fun _ => [] := by simp
          rw [e]
          refine comp1 (xs := nm02.map (·.1)) (mk := D.str) (F := fun _ => []) fun k _ => ⟨_, false, asg_name (.inl rfl), sub_upd rfl, tsts_one ?_, (fun _ => rfl), fun h => nomatch h⟩
          exact tst_and_no hb (tst_cmp (ev_name rfl rfl) ev_str op_eq_str rfl)
        refine exs_cons (ex_if (c := !([] : List D).isEmpty) (tst_cmp (ev_name rfl rfl) (ev_list evs_nil (by decide)) op_ne_nil rfl) (fun h => nomatch h) fun _ => exs_nil (then_next ?_))
        refine exs_cons (ex_aug (d₀ := .str (T dn)) (d₁ := .str ⟨#[c]⟩) (d := .str (T (dn ++ [c]))) rfl (ev_name rfl rfl) ?_ (.inl rfl) (then_next (exs_nil ⟨(dn ++ [c], r), by simp, by rw [hdr]; simp, sub_cons rfl (sub_cons rfl (sub_cons rfl (sub_cons rfl sub_nil)))⟩)))
        rw [← T_append, T_one]
        exact op_iadd_str (by rw [T_length]; show _ + 1 ≤ _; omega)
      | some z =>
        obtain ⟨nm, ez, hnk, hn4, hdg, hflt⟩ := key02 hk
        have hsp : spell htmlT c = 38 :: (nm ++ [59]) := by rw [spell_some hk, ez]
        have hrw2 : escBy htmlT l = escBy htmlT dn ++ 38 :: (nm ++ 59 :: escBy htmlT r) := by rw [hrw, escBy_cons, hsp]; simp
        have hsig : (escBy htmlT l)[(escBy htmlT dn).length]? = some 38 := by rw [hrw2]; simp
        have hrest : (escBy htmlT (c :: r)).length = 2 + nm.length + (escBy htmlT r).length := by rw [escBy_cons, hsp]; simp; omega
        have hdn' : escBy htmlT (dn ++ [c]) = escBy htmlT dn ++ 38 :: (nm ++ [59]) := by rw [escBy_append]; simp [escBy, hsp]
        have hdl' : (escBy htmlT (dn ++ [c])).length = (escBy htmlT dn).length + 1 + nm.length + 1 := by rw [hdn']; simp; omega
        have dr1 : (escBy htmlT l).drop ((escBy htmlT dn).length + 1) = nm ++ 59 :: escBy htmlT r := by
          rw [hrw2, List.drop_append, List.drop_of_length_le (by omega), Nat.add_sub_cancel_left]; rfl
        have dr2 : (escBy htmlT l).drop ((escBy htmlT dn).length + 1 + nm.length) = 59 :: escBy htmlT r := by
          rw [← List.drop_drop, dr1, List.drop_left]
        refine exs_cons (ex_assign (ev_at (ev_name rfl rfl) (ev_name rfl rfl) hsig (by omega)) (by walk_at "can") rfl (then_next ?_))
        refine exs_cons (ex_aug (d := .int (((escBy htmlT dn).length + 1 : Nat) : Int)) rfl ev_int (by rw [Int.natCast_add]; exact op_iadd_int) (by walk_at "can") (then_next ?_))
        have hb : ((⟨#[38]⟩ : Str) == "&") = true := by decide +kernel
        refine exs_cons (ex_assign_comp (ρc := [("written", .val (.str (T (escBy htmlT l)))), ("k", .val (.int (((escBy htmlT dn).length + 1 : Nat) : Int))), ("sign", .val (.str ⟨#[38]⟩))]) (cl := [("written", _), ("sign", _), ("k", _)]) (d := strDict nm02) (ds := keys02.map fun k => D.str (T k)) (out := [.str (T nm)]) ⟨rfl, by decide, by decide, rfl, cells_cons rfl (cells_cons rfl (cells_cons rfl cells_nil)), cap_cons rfl rfl rfl rfl (cap_cons rfl rfl rfl rfl (cap_cons rfl rfl rfl rfl cap_nil))⟩ rfl (fun _ => rfl) rfl (ev_name rfl rfl) ?_ ?_ (by simp; omega) (.inl rfl) (then_next ?_))
        · have := itr_dict (G := G) (ks := nm02.map (·.1)) (ds := nm02.map fun p => D.str p.2)
          rw [show (nm02.map (·.1)).map D.str = keys02.map fun k => D.str (T k) from by rw [keys02_eq, List.map_map]; rfl] at this
          exact this
        · intro C
          have e : [D.str (T nm)] = keys02.flatMap fun k => if (((⟨#[38]⟩ : Str) == "&") && (k.isPrefixOf (nm ++ 59 :: escBy htmlT r) && true)) = true then [D.str (T k)] else [] := by
            rw [← found_flat, hb]
            simp only [Bool.true_and]
            rw [hflt]; rfl
          rw [e]
          refine comp1 (xs := keys02) (mk := fun k => D.str (T k)) (F := fun k => if (((⟨#[38]⟩ : Str) == "&") && (k.isPrefixOf (nm ++ 59 :: escBy htmlT r) && true)) = true then [D.str (T k)] else []) fun k _ => ⟨_, ((⟨#[38]⟩ : Str) == "&") && (k.isPrefixOf (nm ++ 59 :: escBy htmlT r) && true), asg_name (.inl rfl), sub_upd rfl, tsts_one (tst_and (tst_cmp (ev_name rfl rfl) ev_str op_eq_str rfl) fun _ => tst_and ?_ fun _ => tst_and_nil), (fun h => if_neg (by rw [h]; decide)), fun h => ⟨_, ev_name rfl rfl, if_pos h⟩⟩
          rw [← dr1, ← starts3_T _ _ _ (by omega)]
          exact tst_plain (ev_meth (ds := [.str (T k), .int (((escBy htmlT dn).length + 1 : Nat) : Int)]) (ev_name rfl rfl) (evs_more (ev_name rfl rfl) (evs_more (ev_name rfl rfl) evs_nil rfl) rfl) (getm_str F.slot_str_startswith F.type_str_startswith) bf_startswith3 rfl rfl (by decide) rfl) tr_bool fun _ => rfl
        refine exs_branch2 [("written", .val (.str (T (escBy htmlT l)))), ("names", .val (strDict nm02)), ("text", .val (.str (T dn))), ("k", .val (.int ((escBy htmlT (dn ++ [c])).length : Int))), ("sign", .val (.str ⟨#[c]⟩))] ?_ ?_
        · refine exs_cons (ex_aug (d₀ := .str (T dn)) (d₁ := .str ⟨#[c]⟩) (d := .str (T (dn ++ [c]))) rfl (ev_name rfl rfl) ?_ (.inl rfl) (then_next (exs_nil ⟨(dn ++ [c], r), by simp, by rw [hdr]; simp, sub_cons rfl (sub_cons rfl (sub_cons rfl (sub_cons rfl sub_nil)))⟩)))
          rw [← T_append, T_one]
          exact op_iadd_str (by rw [T_length]; show _ + 1 ≤ _; omega)
        refine ex_if (c := !([D.str (T nm)]).isEmpty) (tst_cmp (ev_name rfl rfl) (ev_list evs_nil (by decide)) op_ne_nil rfl) (fun _ => ?_) fun h => nomatch h
        refine exs_cons (ex_assign (d := .str ⟨#[c]⟩) (ev_sub (ev_name rfl rfl) (ev_sub (d := .str (T nm)) (ev_name rfl rfl) ev_int (sb_list (by decide) (by decide) rfl)) (sb_dict hdg)) (by walk_at "can") rfl (then_next ?_))
        refine exs_cons (ex_aug (d₁ := .int ((nm.length : Nat) : Int)) (d := .int (((escBy htmlT dn).length + 1 + nm.length : Nat) : Int)) rfl (ev_len (ev_sub (d := .str (T nm)) (ev_name rfl rfl) ev_int (sb_list (by decide) (by decide) rfl)) (by omega) hlen rfl rfl) (by rw [Int.natCast_add]; exact op_iadd_int) (by walk_at "can") (then_next ?_))
        refine exs_cons (ex_if (c := Txt.startswith3 (T (escBy htmlT l)) (T [59]) (((escBy htmlT dn).length + 1 + nm.length : Nat) : Int)) ?_ (fun _ => ?_) fun h => ?_)
        · refine tst_plain (ev_meth (ds := [.str (T [59]), .int (((escBy htmlT dn).length + 1 + nm.length : Nat) : Int)]) (ev_name rfl rfl) (evs_more ?_ (evs_more (ev_name rfl rfl) evs_nil rfl) rfl) (getm_str F.slot_str_startswith F.type_str_startswith) bf_startswith3 rfl rfl (by decide) rfl) tr_bool fun _ => rfl
          rw [← hsemi]; exact ev_str
        · refine exs_cons (ex_aug (d := .int ((escBy htmlT (dn ++ [c])).length : Int)) rfl ev_int (by rw [hdl', Int.natCast_add]; exact op_iadd_int) (by walk_at "can") (then_next (exs_nil (then_next (exs_nil (then_next (sub_cons rfl (sub_cons rfl (sub_cons rfl (sub_cons rfl (sub_cons rfl sub_nil)))))))))))
        · rw [starts3_T _ _ _ (by omega), dr2] at h
          simp [List.isPrefixOf] at h
  · have hz : rem = [] := by
      cases rem with
      | nil => rfl
      | cons c r =>
        exfalso
        rw [decide_eq_false_iff_not] at hc
        have : 0 < (escBy htmlT (c :: r)).length := by
          rw [escBy_cons, List.length_append]
          have := List.length_pos_iff.mpr (spell_ne (t := htmlT) ⟨by decide +kernel⟩ c)
          omega
        omega
    subst hz
    rw [List.append_nil] at hdr
    subst hdr
    refine then_next (exs_weaken hsub ?_)
    walk_at "ret"
    rfl
end
end Mine
end
section
open PySem PySem.W PyProof.Rows
set_option linter.unusedVariables false
set_option maxRecDepth 100000
namespace Mine
local macro_rules | `(tactic| walk_at "ev1") => `(tactic| first
  | exact ev_int | exact ev_str | exact ev_bool | exact ev_none
  | exact ev_name rfl rfl
  | exact evs_nil
  | (apply evs_more; (case hs => exact rfl))
  | apply ev_binop | (apply ev_cmp; (case hm => exact rfl)) | apply ev_sub
  | apply ev_list | apply ev_tuple
  | (apply tst_cmp; (case hm => exact rfl)) | apply tst_not | exact tst_and_nil | exact tst_or_nil
  | exact op_add_int | exact op_sub_int | exact op_iadd_int | exact op_eq_int | exact op_ne_int | exact op_lt_int | exact op_gt_int | exact op_le_int | exact op_ge_int
  | exact op_eq_str | exact op_ne_str | exact op_in_str | exact op_notin_str | exact op_in_dict | exact op_notin_dict | exact op_ne_nil | exact op_eq_nil
  | exact op_fdiv_int (by decide) (PyProof.noPylong_of_log2 (by decide +kernel)) | exact op_mod_int (by decide)
  | apply op_add_str | apply op_iadd_str
  | exact tsts_nil | apply tsts_one)
local macro_rules | `(tactic| walk_at "ev") => `(tactic| repeat' walk_at "ev1")
local macro_rules | `(tactic| walk_at "can") => `(tactic| first | exact Or.inl rfl | exact Or.inr ⟨rfl, rfl, _, rfl⟩)
local macro_rules | `(tactic| walk_at "as") => `(tactic| (refine exs_cons ?_; apply ex_assign; (case hc => walk_at "can"); (case hs => exact rfl); (case' k => refine then_next ?_); (case' h => walk_at "ev")))
local macro_rules | `(tactic| walk_at "aug") => `(tactic| (refine exs_cons ?_; apply ex_aug; (case h₀ => exact rfl); (case hc => walk_at "can"); (case' k => refine then_next ?_); (case' ho => skip); (case' h => walk_at "ev"); (try walk_at "ev")))
local macro_rules | `(tactic| walk_at "if") => `(tactic| (refine exs_cons ?_; apply ex_if; (case' h => walk_at "ev")))
local macro_rules | `(tactic| walk_at "ret") => `(tactic| (refine exs_cons ?_; apply ex_return; (case' h => walk_at "ev")))
local macro_rules | `(tactic| walk_at "params") => `(tactic| (intro x hx; simp only [List.mem_cons, List.not_mem_nil, or_false] at hx; first
  | (subst hx; first | exact .inl rfl | exact .inr ⟨rfl, fun _ => rfl⟩)
  | (rcases hx with hx | hx <;> subst hx <;> first | exact .inl rfl | exact .inr ⟨rfl, fun _ => rfl⟩)
  | (rcases hx with hx | hx | hx <;> subst hx <;> first | exact .inl rfl | exact .inr ⟨rfl, fun _ => rfl⟩)))
local macro_rules | `(tactic| walk_at "esc") => `(tactic| (refine esc_step rfl (by decide +kernel : _ = (⟨#[_]⟩ : Str)) ?_ ?_ ?_ ?_ (by assumption) rfl (by walk_at "can") rfl ?_))
section
variable {G : Gnd} {n : Nat} {doc pm cdv ct : Value} {a : Addr}
set_option maxHeartbeats 4000000
theorem shown_int {i : Int} (h0 : 0 ≤ i) (h1 : i < 10 ^ 10) : Shown G (.int i) (Str.ofString (toString i)) "int" := by
  refine ⟨fun A Z s v Q E R b r h => ?_, fun Z s v b r => ?_, by decide, by decide +kernel, by decide +kernel, Nat.le_trans (toString_length_le (k := 10) h0 (by decide) h1) (by decide)⟩
  · cases r
    exact pyReprObj_int (shown (N := 2 ^ 1920) (by omega) (by omega) (Int.le_refl _)) (h s.heap _ _ fun _ _ e => e)
  · cases r
    exact typeIs_int s i _
theorem shown_list {z : Str} (hz : (reprText z).length ≤ 1000) : Shown G (.list [.str z]) (listText [reprText z]) "list" := by
  have hlen : (listText [reprText z]).length ≤ 1000000 := by
    have e : listText [reprText z] = textFrom 0 "[" [reprText z] ++ "]" := rfl
    have h := textFrom_len [reprText z] 0 "["
    have h2 : (textFrom 0 "[" [reprText z]).length ≤ 1 + 2 + 1000 + 2 := by
      show (("[" ++ (if 0 > 0 then ", " else "")) ++ reprText z : Str).length ≤ _
      simp only [Str.length_append]
      have : (("[" : Str)).length = 1 := by decide +kernel
      have : (((if 0 > 0 then ", " else "") : String) : Str).length ≤ 2 := by decide +kernel
      omega
    rw [e, Str.length_append]
    have : (("]" : Str)).length = 1 := by decide +kernel
    omega
  have big : 3000000 ≤ sizeLine := by decide
  refine ⟨fun A Z s v Q E R b r h => ?_, fun Z s v b r => ?_, by decide, by decide +kernel, by decide +kernel, hlen⟩
  · cases r with
    | list hz' ra =>
      cases ra with
      | cons r1 r2 =>
        cases r2
        cases r1
        rename_i t
        have ho := b.zin _ _ hz'
        refine wpAny_pyReprObj_list (ts := [reprText z]) ⟨_, ho, rfl⟩ R.guards (fun _ _ _ hm => by cases hm) (by have := R.units; omega) ho rfl rfl (fun i y hy => ?_) (fun h' u tk hk => h h' u tk hk) (by omega)
        match i, hy with
        | 0, hy =>
          simp at hy
          subst hy
          exact ⟨_, rfl, ReprIs.str z _ (by omega)⟩
        | i + 1, hy => simp at hy
  · cases r with
    | list hz' ra => exact ⟨_, b.zin _ _ hz', rfl⟩
theorem fn_rse {d : D} {x : Str} {T q : String} (D : DefAt G a (fdOf (stOf pw 1) doc pm cdv ct) (bodyOf (stOf pw 1))) (W : Shown G d x T) (N : Named G.K T q) (hT : nsIn G.K mainGlobals "type" = some none) (hTE : nsIn G.K mainGlobals "TypeError" = some none) : FnE G 4 a [d] "TypeError" HdX := by
  refine fn_ofE (xs := ["text"]) hdX_keeps D (fun vs h => ?_) rfl ?_ (by decide) fun L A Z H s l R hP S hfr hff hzl => ?_
  · match vs, h with
    | [v], _ => rfl
  · walk_at "params"
  exact rse_body R hP S rfl W N hT rfl hTE rfl hff
theorem fn_htmlE {d : D} {X : String} {fa : Addr} (D : DefAt G a (fdOf (stOf pw 2) doc pm cdv ct) (bodyOf (stOf pw 2))) (hfn : FnE G 4 fa [d] "TypeError" HdX) (hkeep : keepIn G.K (.ref fa) = true) (hg : nsIn G.K mainGlobals "_raise_serialization_error" = some (some (.ref fa)))
    (hTE : nsIn G.K mainGlobals "TypeError" = some none) (hAE : nsIn G.K mainGlobals "AttributeError" = some none) (hX : X = "TypeError" ∨ X = "AttributeError")
    (hb : ∀ L, BodyX G (callEnvC (fdOf (stOf pw 2) doc pm cdv ct) L a) 4 (startLoc ["text"] [d]) (match bodyOf (stOf pw 2) with | .Try b _ _ _ _ :: _ => b | _ => []) X) : FnE G 5 a [d] "TypeError" fun hd _ => hd = none := by
  refine fn_ofE (xs := ["text"]) (fun _ _ _ h _ => h) D (fun vs h => ?_) rfl ?_ (by decide) fun L A Z H s l R hP S hfr hff hzl => ?_
  · match vs, h with
    | [v], _ => rfl
  · walk_at "params"
  refine exec_tryE hX R hfr rfl rfl S rfl (fun x ds => ?_) hff hzl rfl hfn hkeep hg rfl hTE rfl hAE rfl ((hb L).run A Z H s (R.room hP) S)
  show (startLoc ["text"] [d]).lookup x ≠ _
  show List.lookup x [(("text" : Str), B.val d)] ≠ _
  rw [List.lookup_cons]
  split
  · intro q; cases q
  · intro q; cases q
theorem html_int {i : Int} (L : Addr) : BodyX G (callEnvC (fdOf (stOf pw 2) doc pm cdv ct) L a) 4 (startLoc ["text"] [.int i]) (match bodyOf (stOf pw 2) with | .Try b _ _ _ _ :: _ => b | _ => []) "TypeError" :=
  bodyX_in_int rfl rfl
theorem html_list {z : Str} (hz : z = "&" ∨ z = ">" ∨ z = "\"") (L : Addr) : BodyX G (callEnvC (fdOf (stOf pw 2) doc pm cdv ct) L a) 4 (startLoc ["text"] [.list [.str z]]) (match bodyOf (stOf pw 2) with | .Try b _ _ _ _ :: _ => b | _ => []) "AttributeError" := by
  refine bodyX_if (b := [z].any (· == ("&" : Str))) (tst_cmp ev_str (ev_name rfl rfl) (op_in_strs (xs := [z])) rfl) (fun _ => bodyX_replace (ds := [.str z]) rfl rfl rfl rfl (eval_method rfl rfl (by show 2 < 30; decide) rfl)) fun h1 => ?_
  refine bodyX_if (b := [z].any (· == (">" : Str))) (tst_cmp ev_str (ev_name rfl rfl) (op_in_strs (xs := [z])) rfl) (fun _ => bodyX_replace (ds := [.str z]) rfl rfl rfl rfl (eval_method rfl rfl (by show 2 < 30; decide) rfl)) fun h2 => ?_
  refine bodyX_if (b := [z].any (· == ("\"" : Str))) (tst_cmp ev_str (ev_name rfl rfl) (op_in_strs (xs := [z])) rfl) (fun _ => bodyX_replace (ds := [.str z]) rfl rfl rfl rfl (eval_method rfl rfl (by show 2 < 30; decide) rfl)) fun h3 => ?_
  exfalso
  rcases hz with rfl | rfl | rfl
  · revert h1; decide +kernel
  · revert h2; decide +kernel
  · revert h3; decide +kernel
end
end Mine
end
section
open PySem PySem.W PyProof.Rows
set_option linter.unusedVariables false
set_option linter.unusedSimpArgs false
set_option maxRecDepth 100000
namespace Mine
local macro_rules | `(tactic| walk_at "ev1") => `(tactic| first
  | exact ev_int | exact ev_str | exact ev_bool | exact ev_none
  | exact ev_name rfl rfl
  | exact evs_nil
  | (apply evs_more; (case hs => exact rfl))
  | apply ev_binop | (apply ev_cmp; (case hm => exact rfl)) | apply ev_sub
  | apply ev_list | apply ev_tuple
  | (apply tst_cmp; (case hm => exact rfl)) | apply tst_not | exact tst_and_nil | exact tst_or_nil
  | exact op_add_int | exact op_sub_int | exact op_iadd_int | exact op_eq_int | exact op_ne_int | exact op_lt_int | exact op_gt_int | exact op_le_int | exact op_ge_int
  | exact op_eq_str | exact op_ne_str | exact op_in_str | exact op_notin_str | exact op_in_dict | exact op_notin_dict | exact op_ne_nil | exact op_eq_nil
  | exact op_fdiv_int (by decide) (PyProof.noPylong_of_log2 (by decide +kernel)) | exact op_mod_int (by decide)
  | apply op_add_str | apply op_iadd_str
  | exact tsts_nil | apply tsts_one)
local macro_rules | `(tactic| walk_at "ev") => `(tactic| repeat' walk_at "ev1")
local macro_rules | `(tactic| walk_at "can") => `(tactic| first | exact Or.inl rfl | exact Or.inr ⟨rfl, rfl, _, rfl⟩)
local macro_rules | `(tactic| walk_at "as") => `(tactic| (refine exs_cons ?_; apply ex_assign; (case hc => walk_at "can"); (case hs => exact rfl); (case' k => refine then_next ?_); (case' h => walk_at "ev")))
local macro_rules | `(tactic| walk_at "aug") => `(tactic| (refine exs_cons ?_; apply ex_aug; (case h₀ => exact rfl); (case hc => walk_at "can"); (case' k => refine then_next ?_); (case' ho => skip); (case' h => walk_at "ev"); (try walk_at "ev")))
local macro_rules | `(tactic| walk_at "if") => `(tactic| (refine exs_cons ?_; apply ex_if; (case' h => walk_at "ev")))
local macro_rules | `(tactic| walk_at "ret") => `(tactic| (refine exs_cons ?_; apply ex_return; (case' h => walk_at "ev")))
local macro_rules | `(tactic| walk_at "params") => `(tactic| (intro x hx; simp only [List.mem_cons, List.not_mem_nil, or_false] at hx; first
  | (subst hx; first | exact .inl rfl | exact .inr ⟨rfl, fun _ => rfl⟩)
  | (rcases hx with hx | hx <;> subst hx <;> first | exact .inl rfl | exact .inr ⟨rfl, fun _ => rfl⟩)
  | (rcases hx with hx | hx | hx <;> subst hx <;> first | exact .inl rfl | exact .inr ⟨rfl, fun _ => rfl⟩)))
local macro_rules | `(tactic| walk_at "esc") => `(tactic| (refine esc_step rfl (by decide +kernel : _ = (⟨#[_]⟩ : Str)) ?_ ?_ ?_ ?_ (by assumption) rfl (by walk_at "can") rfl ?_))
section
variable {G : Gnd} {n : Nat} {doc pm cdv ct : Value} {a : Addr}
set_option maxHeartbeats 4000000
theorem esc02 : ∀ l : List Nat, 62 ∉ escBy htmlT l ∧ 34 ∉ escBy htmlT l ∧ (escBy htmlT l).count 38 = l.count 38 + l.count 62 + l.count 34 ∧ (escBy htmlT l).length = l.length + 4 * l.count 38 + 3 * l.count 62 + 5 * l.count 34
  | [] => by simp [escBy]
  | k :: r => by
    obtain ⟨h1, h2, h3, h4⟩ := esc02 r
    rw [escBy_cons]
    have hs : (k = 38 ∧ spell htmlT k = rAmp) ∨ (k = 62 ∧ spell htmlT k = rGt) ∨ (k = 34 ∧ spell htmlT k = rQuot) ∨ (k ≠ 38 ∧ k ≠ 62 ∧ k ≠ 34 ∧ spell htmlT k = [k]) := by
      by_cases e1 : k = 38
      · exact .inl ⟨e1, by subst e1; rfl⟩
      by_cases e2 : k = 62
      · exact .inr (.inl ⟨e2, by subst e2; rfl⟩)
      by_cases e3 : k = 34
      · exact .inr (.inr (.inl ⟨e3, by subst e3; rfl⟩))
      refine .inr (.inr (.inr ⟨e1, e2, e3, ?_⟩))
      unfold spell htmlT
      have f1 : (k == 38) = false := beq_eq_false_iff_ne.mpr e1
      have f2 : (k == 62) = false := beq_eq_false_iff_ne.mpr e2
      have f3 : (k == 34) = false := beq_eq_false_iff_ne.mpr e3
      simp only [List.lookup, f1, f2, f3]
      rfl
    rw [List.count_append, h3, List.length_append, h4]
    rcases hs with ⟨rfl, e⟩ | ⟨rfl, e⟩ | ⟨rfl, e⟩ | ⟨e1, e2, e3, e⟩
    · rw [e]
      refine ⟨?_, ?_, ?_, ?_⟩
      · rw [List.mem_append]; rintro (q | q); · revert q; decide
        exact h1 q
      · rw [List.mem_append]; rintro (q | q); · revert q; decide
        exact h2 q
      · rw [show rAmp.count 38 = 1 from rfl]; simp [List.count_cons]; omega
      · rw [show rAmp.length = 5 from rfl]; simp [List.count_cons]; omega
    · rw [e]
      refine ⟨?_, ?_, ?_, ?_⟩
      · rw [List.mem_append]; rintro (q | q); · revert q; decide
        exact h1 q
      · rw [List.mem_append]; rintro (q | q); · revert q; decide
        exact h2 q
      · rw [show rGt.count 38 = 1 from rfl]; simp [List.count_cons]; omega
      · rw [show rGt.length = 4 from rfl]; simp [List.count_cons]; omega
    · rw [e]
      refine ⟨?_, ?_, ?_, ?_⟩
      · rw [List.mem_append]; rintro (q | q); · revert q; decide
        exact h1 q
      · rw [List.mem_append]; rintro (q | q); · revert q; decide
        exact h2 q
      · rw [show rQuot.count 38 = 1 from rfl]; simp [List.count_cons]; omega
      · rw [show rQuot.length = 6 from rfl]; simp [List.count_cons]; omega
    · rw [e]
      refine ⟨?_, ?_, ?_, ?_⟩
      · rw [List.mem_append]; rintro (q | q); · exact e2 (List.mem_singleton.mp q).symm
        exact h1 q
      · rw [List.mem_append]; rintro (q | q); · exact e3 (List.mem_singleton.mp q).symm
        exact h2 q
      · simp [List.count_cons, e1, e2, e3]
      · simp [List.count_cons, e1, e2, e3]; omega
theorem ev_cnt {env : Env} {ρ : Loc} {x : Str} {p1 ap pos p2 : Pos} {l : List Nat} {c k : Nat} {cs : Str} (hx : ρ.lookup x = some (.val (.str (T l)))) (hd : (x == ("__debug__" : Str)) = false) (hc : cs = ⟨#[c]⟩) (hline : (ap.endLine == pos.line) = true) :
    Ev G env n ρ (.Call (.Attribute (.Name x p1) "count" ap) [.Constant (.str cs) k p2] [] pos) (.int (l.count c : Int)) := by
  rw [← count_T, ← hc]
  exact ev_meth (ds := [.str cs]) (ev_name hx hd) (evs_more ev_str evs_nil rfl) (getm_str F.slot_str_count F.type_str_count) bf_count rfl rfl (by show 1 < 30; decide) hline
theorem fn_law02 (dA : DefAt G a (fdOf (stOf pw 6) doc pm cdv ct) (bodyOf (stOf pw 6))) {at₀ ah ar : Addr} (hlen : nsIn G.K mainGlobals "len" = some none) (hTE : nsIn G.K mainGlobals "TypeError" = some none)
    (gt : nsIn G.K mainGlobals "_law_text" = some (some (.ref at₀))) (kt : keepIn G.K (.ref at₀) = true) (ft : ∀ ns : List Int, ns.length ≤ 63 → Fn G 5 at₀ [.list (ns.map .int)] (.str (T (text02 ns))))
    (gh : nsIn G.K mainGlobals "_escape_attrib_html" = some (some (.ref ah))) (kh : keepIn G.K (.ref ah) = true) (fh : ∀ l : List Nat, l.length ≤ 100000 → Fn G 5 ah [.str (T l)] (.str (T (escBy htmlT l))))
    (gr : nsIn G.K mainGlobals "_law_read" = some (some (.ref ar))) (kr : keepIn G.K (.ref ar) = true) (fr : ∀ l : List Nat, l.length ≤ 1000 → (escBy htmlT l).length ≤ 8000 → Fn G 5 ar [.str (T (escBy htmlT l))] (.str (T l)))
    (eI : ∀ i : Int, 0 ≤ i → i < 10 ^ 10 → FnE G 5 ah [.int i] "TypeError" fun hd _ => hd = none) (eL : ∀ z : Str, (z = "&" ∨ z = ">" ∨ z = "\"") → FnE G 5 ah [.list [.str z]] "TypeError" fun hd _ => hd = none)
    (ns : List Int) (hn : ns.length ≤ 63) : FnAt G callerA 6 a [.list (ns.map .int)] (.bool true) := by
  refine fn_ofAt (xs := ["script"]) dA (fun vs h => ?_) rfl ?_ (by decide) fun L => ?_
  · match vs, h with
    | [v], _ => rfl
  · walk_at "params"
  have big : 100000 ≤ sizeLine := by decide
  have hl := text02_le ns
  refine exsAt_cons (Ex.at (ex_assign (ev_call (ev_glob gt rfl rfl) (evs_more (ev_name rfl rfl) evs_nil rfl) kt (ft ns hn) rfl rfl) (.inl rfl) rfl (then_next ?_)))
  generalize text02 ns = l at hl
  obtain ⟨h1, h2, h3, h4⟩ := esc02 l
  have h5 : l.count 38 + l.count 62 + l.count 34 ≤ (escBy htmlT l).length := by rw [← h3]; exact List.count_le_length
  have c1 : l.count 38 ≤ l.length := List.count_le_length
  have c2 : l.count 62 ≤ l.length := List.count_le_length
  have c3 : l.count 34 ≤ l.length := List.count_le_length
  refine exsAt_cons (Ex.at (ex_assign (ev_call (ev_glob gh rfl rfl) (evs_more (ev_name rfl rfl) evs_nil rfl) kh (fh l (by omega)) rfl rfl) (.inl rfl) rfl (then_next ?_)))
  refine exsAt_cons (Ex.at (ex_assign (ev_cnt (c := 38) rfl rfl (by decide +kernel) rfl) (.inl rfl) rfl (then_next ?_)))
  refine exsAt_cons (Ex.at (ex_assign (ev_cnt (c := 62) rfl rfl (by decide +kernel) rfl) (.inl rfl) rfl (then_next ?_)))
  refine exsAt_cons (Ex.at (ex_assign (ev_cnt (c := 34) rfl rfl (by decide +kernel) rfl) (.inl rfl) rfl (then_next ?_)))
  have egt : (">" : Str) = ⟨#[62]⟩ := by decide +kernel
  have equ : ("\"" : Str) = ⟨#[34]⟩ := by decide +kernel
  have t1 : (tin ">" (T (escBy htmlT l)) || (tin "\"" (T (escBy htmlT l)) || (((((escBy htmlT l).count 38 : Nat) : Int) != (l.count 38 : Int) + (l.count 62 : Int) + (l.count 34 : Int)) || false))) = false := by
    rw [egt, equ, tin_T, tin_T, h3]
    simp [h1, h2]
  refine exsAt_cons (exAt_if (c := false) ?_ (fun h => nomatch h) fun _ => exsAt_nil (then_next ?_))
  · rw [← t1]
    refine tst_or (tst_cmp ev_str (ev_name rfl rfl) op_in_str rfl) fun _ => tst_or (tst_cmp ev_str (ev_name rfl rfl) op_in_str rfl) fun _ => tst_or (tst_cmp (ev_cnt (c := 38) rfl rfl (by decide +kernel) rfl) ?_ op_ne_int rfl) fun _ => tst_or_nil
    exact ev_binop (ev_binop (ev_name rfl rfl) (ev_name rfl rfl) op_add_int) (ev_name rfl rfl) op_add_int
  have t2 : (((((escBy htmlT l).length : Nat) : Int) != (((l.length : Nat) : Int) + 4 * (l.count 38 : Int) + 3 * (l.count 62 : Int) + 5 * (l.count 34 : Int))) || ((T l != T l) || false)) = false := by
    rw [h4]
    simp
  refine exsAt_cons (exAt_if (c := false) ?_ (fun h => nomatch h) fun _ => exsAt_nil (then_next ?_))
  · rw [← t2]
    refine tst_or (tst_cmp (ev_len (ev_name rfl rfl) (by omega) hlen rfl rfl) ?_ op_ne_int rfl) fun _ => tst_or (tst_cmp (ev_call (ev_glob gr rfl rfl) (evs_more (ev_name rfl rfl) evs_nil rfl) kr (fr l (by omega) (by omega)) rfl rfl) (ev_name rfl rfl) op_ne_str rfl) fun _ => tst_or_nil
    refine ev_binop (ev_binop (ev_binop (ev_len (ev_name rfl rfl) (by omega) hlen rfl rfl) ?_ op_add_int) ?_ op_add_int) ?_ op_add_int <;> exact ev_binop ev_int (ev_name rfl rfl) (op_mul_int (mulOk_small_int (by decide +kernel)))
  refine exsAt_cons (Ex.at (ex_assign ev_int (.inl rfl) rfl (then_next ?_)))
  have hm := fmod_bounds (a := (ns.length : Int)) (m := 3) (by decide)
  obtain ⟨z, hz, hz3⟩ : ∃ z : Nat, ((("&>\"" : Str)).cps[(((ns.length : Int)).fmod 3).toNat]? = some z) ∧ ((⟨#[z]⟩ : Str) = "&" ∨ (⟨#[z]⟩ : Str) = ">" ∨ (⟨#[z]⟩ : Str) = "\"") := by
    have e : (((ns.length : Int)).fmod 3).toNat = 0 ∨ (((ns.length : Int)).fmod 3).toNat = 1 ∨ (((ns.length : Int)).fmod 3).toNat = 2 := by omega
    rcases e with e | e | e
    · exact ⟨38, by rw [e]; decide +kernel, .inl (by decide +kernel)⟩
    · exact ⟨62, by rw [e]; decide +kernel, .inr (.inl (by decide +kernel))⟩
    · exact ⟨34, by rw [e]; decide +kernel, .inr (.inr (by decide +kernel))⟩
  refine exsAt_cons (exAt_for (d := .list [.int (ns.length : Int), .list [.str ⟨#[z]⟩]]) (ds := [.int (ns.length : Int), .list [.str ⟨#[z]⟩]]) (fun i => [("refused", .val (.int (i : Int)))]) ?_ itr_list (sub_cons rfl sub_nil) (fun i d hd => ?_) (fun ρ' hs => ?_) fun _ => rfl)
  · have el : Ev G (callEnvC (fdOf (stOf pw 6) doc pm cdv ct) L a) 5 (upd (upd (upd (upd (upd (upd (startLoc ["script"] [.list (ns.map .int)]) "text" (.val (.str (T l)))) "told" (.val (.str (T (escBy htmlT l))))) "ands" (.val (.int (l.count 38 : Int)))) "ends" (.val (.int (l.count 62 : Int)))) "marks" (.val (.int (l.count 34 : Int)))) "refused" (.val (.int 0)))
        (.Call (.Name "len" (⟨0, 0, 0, 0⟩)) [.Name "script" ⟨0, 0, 0, 0⟩] [] ⟨0, 0, 0, 0⟩) (.int ((ns.map D.int).length : Int)) := ev_lenL (ev_name rfl rfl) (by rw [List.length_map]; omega) hlen rfl rfl
    have hlm : ((ns.map D.int).length : Int) = (ns.length : Int) := by rw [List.length_map]
    refine ev_list (evs_more ?_ (evs_more (ev_list (evs_more (ev_sub (d₂ := .int ((ns.length : Int).fmod 3)) ev_str (ev_binop (d₁ := .int (ns.length : Int)) ?_ ev_int (op_mod_int (by decide))) (sb_str hm.1 (by omega) hz)) evs_nil rfl) (by show 1 ≤ sizeLine; decide)) evs_nil rfl) rfl) (by show 2 ≤ sizeLine; decide)
    · rw [← hlm]; exact ev_lenL (ev_name rfl rfl) (by rw [List.length_map]; omega) hlen rfl rfl
    · rw [← hlm]; exact ev_lenL (ev_name rfl rfl) (by rw [List.length_map]; omega) hlen rfl rfl
  · refine ⟨_, asg_name (.inl rfl), exsAt_cons ?_⟩
    have hE : FnE G 5 ah [d] "TypeError" fun hd _ => hd = none := by
      match i, hd with
      | 0, hd => simp at hd; subst hd; exact eI _ (by omega) (by omega)
      | 1, hd => simp at hd; subst hd; exact eL _ hz3
      | i + 2, hd => simp at hd
    refine exAt_try (i := (i : Int)) rfl rfl (by intro q; cases q) rfl (ev_glob gh rfl rfl) (evs_more (ev_name rfl rfl) evs_nil rfl) kh hE rfl rfl rfl (.inl rfl) hTE rfl (then_next (exsAt_nil ?_))
    exact sub_cons rfl sub_nil
  · refine exsAt_weaken hs (Exs.at ?_)
    walk_at "ret"
    rfl
end
end Mine
end
open PySem PySem.W PySem.W.X PySem.W.ZRun PyProof.Rows
set_option maxRecDepth 100000
set_option maxHeartbeats 0
theorem PySem.Challenge.cw_dn0275_02_holds : PySem.Challenge.rw_dn0275_02.Holds := by
  w_on; o_law; z_head
  (case hw => w_witness2)
  k_fill
  intro w s₀ s₁ mg mb G y fa o pm cd doc dV kV ho hd hcd hD hmg hg args vals as L hpre hlay hrd hwl hlo
  z_open y L KX ZH ZN ZT
  refine Ground.open G ?_
  intro T B D TE TW
  wrow_args hpre hlay hrd hwl hlo
  obtain ⟨hat, hsz⟩ := script_at L
  have htk := script_toks L ZT
  rw [ZN] at hat hsz
  subst hat
  x_fa T KX hmg
  all_lens
  clear hcd hd hD ho
  refine Mine.finishAt (n := 6) (p := _) KX (topRead_of T) rfl hg (Nat.lt_of_lt_of_le (by decide) htk) (script_obj L (by assumption)) (by assumption) (fun _ => rfl) ?_ (by decide) fun nb => ?_
  · wrow_post
  refine Mine.fn_law02 (doc := _) (pm := _) (cdv := _) (ct := _) ⟨⟨_, rfl, rfl⟩, rfl, rfl, rfl, rfl, rfl, rfl, rfl, rfl⟩ rfl rfl
    rfl rfl (fun ns hn => Mine.fn_text (n := 3) (doc := _) (pm := _) (cdv := _) (ct := _) ⟨⟨_, rfl, rfl⟩, rfl, rfl, rfl, rfl, rfl, rfl, rfl, rfl⟩ rfl ns hn)
    rfl rfl (fun l hl => Mine.fn_html (n := 4) (doc := _) (pm := _) (cdv := _) (ct := _) ⟨⟨_, rfl, rfl⟩, rfl, rfl, rfl, rfl, rfl, rfl, rfl, rfl⟩ l hl)
    rfl rfl (fun l hl hr => Mine.fn_read (n := 3) (doc := _) (pm := _) (cdv := _) (ct := _) ⟨⟨_, rfl, rfl⟩, rfl, rfl, rfl, rfl, rfl, rfl, rfl, rfl⟩ rfl l hl hr)
    (fun i h0 h1 => Mine.fn_htmlE (doc := _) (pm := _) (cdv := _) (ct := _) ⟨⟨_, rfl, rfl⟩, rfl, rfl, rfl, rfl, rfl, rfl, rfl, rfl⟩ (Mine.fn_rse (doc := _) (pm := _) (cdv := _) (ct := _) ⟨⟨_, rfl, rfl⟩, rfl, rfl, rfl, rfl, rfl, rfl, rfl, rfl⟩ (Mine.shown_int h0 h1) ⟨rfl, by ktyn_q, by decide +kernel⟩ rfl rfl) rfl rfl rfl rfl (.inl rfl) fun L => Mine.html_int L)
    (fun z hz => Mine.fn_htmlE (doc := _) (pm := _) (cdv := _) (ct := _) ⟨⟨_, rfl, rfl⟩, rfl, rfl, rfl, rfl, rfl, rfl, rfl, rfl⟩ (Mine.fn_rse (doc := _) (pm := _) (cdv := _) (ct := _) ⟨⟨_, rfl, rfl⟩, rfl, rfl, rfl, rfl, rfl, rfl, rfl, rfl⟩ (Mine.shown_list ?_) ⟨rfl, by ktyn_q, by decide +kernel⟩ rfl rfl) rfl rfl rfl rfl (.inr rfl) fun L => Mine.html_list hz L)
    _ (by omega)
  rcases hz with rfl | rfl | rfl <;> decide +kernel
