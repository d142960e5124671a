import PyProof.Rows.All
import Wide.All
import OpenK.AllK
import Wide.FinOn
import PySem.Challenge.RW_dn0275_10
set_option Elab.async false
section
open PySem PySem.W PyProof.Rows
namespace Mine

/-- plain Python data -/
inductive D where
  | none
  | bool (b : Bool)
  | int (i : Int)
  | str (x : Str)
  | list (ds : List D)
  | tup (ds : List D)
  | dict (ks : List Str) (ds : List D)
  | fn (a : Addr)
  | rng (a b : Int)
  | slc (lo hi : Option Int)
  | bytes (b : Array UInt8)

abbrev Zf := Addr → Option Obj

/-- what is fixed while the law runs -/
structure Gnd where
  prog : Program
  w : World
  K : Frag
  p : Program
  loose : List Str
  mg : Str → Option Value
  mb : Str → Option Value
  base : Heap
  os : OsState
  X : K.In base
  T : TopRead p loose mg mb base
  nb : NoneBooked base

mutual
/-- the value v is the datum d, as the frozen objects Z tell it -/
inductive Rep (G : Gnd) (Z : Zf) : Value → D → Prop
  | none : Rep G Z .none .none
  | bool (b : Bool) : Rep G Z (.bool b) (.bool b)
  | int (i : Int) (t : Tok) : Rep G Z (.int i t) (.int i)
  | str (x : Str) (t : Tok) : Rep G Z (.str x t) (.str x)
  | list {a : Addr} {vs : List Value} {n : Nat} {ds : List D} : Z a = some (listOf vs.toArray n) → RepAll G Z vs ds → Rep G Z (.ref a) (.list ds)
  | tup {a : Addr} {vs : List Value} {n : Nat} {ds : List D} : Z a = some { cls := .type "tuple", data := .seq vs.toArray n } → RepAll G Z vs ds → Rep G Z (.ref a) (.tup ds)
  | dict {a : Addr} {o : Obj} {kvs : List (Str × Value)} {ds : List D} : Z a = some o → (a == sysModules) = false → o.IsDictOf (strKind G.prog G.w) kvs →
      RepAll G Z (kvs.map (·.2)) ds → Rep G Z (.ref a) (.dict (kvs.map (·.1)) ds)
  | fn (a : Addr) : Rep G Z (.ref a) (.fn a)
  | rng {x : Addr} {a b : Int} {t u v : Tok} : Z x = some { cls := .type "range", data := .fields #[.int a t, .int b u, .int 1 v] } → Rep G Z (.ref x) (.rng a b)
  | slc {x : Addr} {vl vu : Value} {lo hi : Option Int} : Z x = some { cls := .type "slice", data := .fields #[vl, vu, .none] } → IsPart vl lo → IsPart vu hi → Rep G Z (.ref x) (.slc lo hi)
  | bytes (b : Array UInt8) (t : Tok) : Rep G Z (.bytes b t) (.bytes b)
inductive RepAll (G : Gnd) (Z : Zf) : List Value → List D → Prop
  | nil : RepAll G Z [] []
  | cons {v : Value} {vs : List Value} {d : D} {ds : List D} : Rep G Z v d → RepAll G Z vs ds → RepAll G Z (v :: vs) (d :: ds)
end

def Zle (Z Z' : Zf) : Prop := ∀ a o, Z a = some o → Z' a = some o
theorem Zle.same {Z : Zf} : Zle Z Z := fun _ _ h => h
theorem Zle.trans {Z Z' Z'' : Zf} (a : Zle Z Z') (b : Zle Z' Z'') : Zle Z Z'' := fun x o h => b x o (a x o h)

mutual
theorem Rep.mono {G : Gnd} {Z Z' : Zf} (hz : Zle Z Z') : ∀ {v : Value} {d : D}, Rep G Z v d → Rep G Z' v d
  | _, _, .none => .none
  | _, _, .bool b => .bool b
  | _, _, .int i t => .int i t
  | _, _, .str x t => .str x t
  | _, _, .list h r => .list (hz _ _ h) (RepAll.mono hz r)
  | _, _, .tup h r => .tup (hz _ _ h) (RepAll.mono hz r)
  | _, _, .dict h hs hd r => .dict (hz _ _ h) hs hd (RepAll.mono hz r)
  | _, _, .fn a => .fn a
  | _, _, .rng h => .rng (hz _ _ h)
  | _, _, .slc h p q => .slc (hz _ _ h) p q
  | _, _, .bytes b t => .bytes b t
theorem RepAll.mono {G : Gnd} {Z Z' : Zf} (hz : Zle Z Z') : ∀ {vs : List Value} {ds : List D}, RepAll G Z vs ds → RepAll G Z' vs ds
  | _, _, .nil => .nil
  | _, _, .cons h r => .cons (Rep.mono hz h) (RepAll.mono hz r)
end

section
variable {G : Gnd} {Z : Zf}
theorem RepAll.length : ∀ {vs : List Value} {ds : List D}, RepAll G Z vs ds → vs.length = ds.length
  | _, _, .nil => rfl
  | _, _, .cons _ r => by rw [List.length_cons, List.length_cons, RepAll.length r]
theorem RepAll.append : ∀ {vs ws : List Value} {ds es : List D}, RepAll G Z vs ds → RepAll G Z ws es → RepAll G Z (vs ++ ws) (ds ++ es)
  | _, _, _, _, .nil, k => k
  | _, _, _, _, .cons h r, k => .cons h (RepAll.append r k)
theorem RepAll.get : ∀ {vs : List Value} {ds : List D}, RepAll G Z vs ds → ∀ {i : Nat} {d : D}, ds[i]? = some d → ∃ v, vs[i]? = some v ∧ Rep G Z v d
  | _, _, .nil, _, _, h => by simp at h
  | _, _, .cons h r, 0, _, e => by simp at e; subst e; exact ⟨_, rfl, h⟩
  | _, _, .cons _ r, i + 1, _, e => by simp at e; simpa using RepAll.get r e
theorem RepAll.drop : ∀ {vs : List Value} {ds : List D}, RepAll G Z vs ds → ∀ n, RepAll G Z (vs.drop n) (ds.drop n)
  | _, _, r, 0 => by simpa using r
  | _, _, .nil, _ + 1 => .nil
  | _, _, .cons _ r, n + 1 => by simpa using RepAll.drop r n
theorem RepAll.take : ∀ {vs : List Value} {ds : List D}, RepAll G Z vs ds → ∀ n, RepAll G Z (vs.take n) (ds.take n)
  | _, _, _, 0 => by simpa using RepAll.nil
  | _, _, .nil, _ + 1 => .nil
  | _, _, .cons h r, n + 1 => by simpa using RepAll.cons h (RepAll.take r n)
end

/-- from Z, s to Z', s': nothing that stood is changed, what is newly frozen is new -/
structure Ext (Z : Zf) (s : Shared) (Z' : Zf) (s' : Shared) : Prop where
  le : Zle Z Z'
  keep : ∀ a o, s.heap.get? a = some o → s'.heap.get? a = some o
  zin : ∀ a o, Z' a = some o → s'.heap.get? a = some o
  new : ∀ a o, Z' a = some o → Z a = some o ∨ s.heap.get? a = none
  gens : s'.gens = s.gens
  os : s'.os = s.os
  tk : s.toks ≤ s'.toks

theorem Ext.same {Z : Zf} {s : Shared} (hz : ∀ a o, Z a = some o → s.heap.get? a = some o) : Ext Z s Z s := ⟨Zle.same, fun _ _ h => h, hz, fun _ _ h => .inl h, Eq.refl _, Eq.refl _, Nat.le_refl _⟩
theorem Ext.tok {Z : Zf} {s : Shared} (hz : ∀ a o, Z a = some o → s.heap.get? a = some o) {t : Nat} (ht : s.toks ≤ t) : Ext Z s Z { s with toks := t } := ⟨Zle.same, fun _ _ h => h, hz, fun _ _ h => .inl h, Eq.refl _, Eq.refl _, ht⟩
theorem Ext.trans {Z Z' Z'' : Zf} {s s' s'' : Shared} (x : Ext Z s Z' s') (y : Ext Z' s' Z'' s'') : Ext Z s Z'' s'' where
  le := x.le.trans y.le
  keep := fun a o h => y.keep a o (x.keep a o h)
  zin := y.zin
  new := fun a o h => by
    rcases y.new a o h with h | h
    · exact x.new a o h
    · cases q : s.heap.get? a with
      | none => exact .inr (Eq.refl _)
      | some ob => rw [x.keep a ob q] at h; cases h
  gens := y.gens.trans x.gens
  os := y.os.trans x.os
  tk := Nat.le_trans x.tk y.tk
/-- only the heap's keeping counts: Z stays -/
theorem Ext.back {Z Z₁ Z' : Zf} {s s' : Shared} (x : Ext Z₁ s Z' s') (hz : ∀ a o, Z a = some o → s.heap.get? a = some o) : Ext Z s Z s' :=
  ⟨Zle.same, x.keep, fun a o h => x.keep a o (hz a o h), fun _ _ h => .inl h, x.gens, x.os, x.tk⟩

def Zadd (Z : Zf) (a : Addr) (o : Obj) : Zf := fun b => if b = a then some o else Z b
theorem Zadd.self {Z : Zf} {a : Addr} {o : Obj} : Zadd Z a o a = some o := if_pos rfl
theorem Zadd.le {Z : Zf} {a : Addr} {o : Obj} (h : Z a = none) : Zle Z (Zadd Z a o) := fun b ob e => by
  unfold Zadd
  by_cases q : b = a
  · subst q; rw [h] at e; cases e
  · rw [if_neg q]; exact e

theorem get?_size_none (h : Heap) : h.get? h.objs.size = none := by
  cases q : h.get? h.objs.size with
  | none => rfl
  | some o => exact absurd (Heap.lt_size q) (Nat.lt_irrefl _)

/-- a new object, frozen at once -/
theorem Ext.alloc {Z : Zf} {s : Shared} {o : Obj} {t : Nat} (hz : ∀ a o, Z a = some o → s.heap.get? a = some o) (hf : o.isFreed = false) (ht : s.toks ≤ t) :
    Ext Z s (Zadd Z s.heap.objs.size o) { s with heap := s.heap.push o, toks := t } where
  le := Zadd.le (by
    cases q : Z s.heap.objs.size with
    | none => rfl
    | some ob => exact absurd (hz _ _ q) (by rw [get?_size_none]; intro h; cases h))
  keep := fun a ob h => Heap.get?_push_of_some _ h
  zin := fun a ob h => by
    unfold Zadd at h
    by_cases q : a = s.heap.objs.size
    · subst q; rw [if_pos rfl] at h; cases h; exact Heap.get?_push_size _ hf
    · rw [if_neg q] at h; exact Heap.get?_push_of_some _ (hz _ _ h)
  new := fun a ob h => by
    unfold Zadd at h
    by_cases q : a = s.heap.objs.size
    · subst q; exact .inr (get?_size_none _)
    · rw [if_neg q] at h; exact .inl h
  gens := rfl
  os := rfl
  tk := ht

end Mine
end
section
open PySem PySem.W PyProof.Rows
namespace Mine

/-- what a name stands for: a datum, or a list that the frame alone holds -/
inductive B where
  | val (d : D)
  | own (ds : List D)

abbrev Loc := List (Str × B)

abbrev upd (ρ : Loc) (x : Str) (b : B) : Loc := (x, b) :: ρ

theorem lookup_upd (ρ : Loc) (x z : Str) (b : B) : (upd ρ x b).lookup z = if z = x then some b else ρ.lookup z := by
  show List.lookup z ((x, b) :: ρ) = _
  rw [List.lookup_cons]
  by_cases h : z = x
  · rw [beq_iff_eq.mpr h, if_pos h]
  · rw [beq_eq_false_iff_ne.mpr h, if_neg h]

def Has (env : Env) (h : Heap) (x : Str) (v : Value) : Prop :=
  (env.kindOf x = some .local ∧ ∃ m, h.Ns env.locals m ∧ m x = some v) ∨
  ((env.kindOf x = some .cell ∨ (env.kindOf x = some .free ∧ (x == ("__classdict__" : Str)) = false)) ∧ ∃ c, env.cells.lookup x = some c ∧ h.IsCell c (some v))

theorem Has.keeps {env : Env} {h h' : Heap} {x : Str} {v : Value} (H : Has env h x v) (hk : ∀ b o, h.get? b = some o → h'.get? b = some o) : Has env h' x v := by
  rcases H with ⟨k, m, n, e⟩ | ⟨k, c, e, n⟩
  · exact .inl ⟨k, m, n.keeps hk, e⟩
  · exact .inr ⟨k, c, e, n.keeps hk⟩

theorem ns_uniq {h : Heap} {a : Addr} {m m' : Str → Option Value} (x : h.Ns a m) (y : h.Ns a m') : m = m' := by
  obtain ⟨o, es, ep, ho, hd, hk, hf⟩ := x
  obtain ⟨o', es', ep', ho', hd', hk', hf'⟩ := y
  rw [ho] at ho'; cases ho'
  rw [hd] at hd'; cases hd'
  funext n
  rw [← hf, ← hf']

/-- the state, as the frame sees it -/
structure St (G : Gnd) (env : Env) (Z H : Zf) (ρ : Loc) (s : Shared) : Prop where
  fk : env.scope.kind = .function
  gl : env.globals = mainGlobals
  bl : env.builtins = builtinsNs
  gens : s.gens = #[]
  os : s.os = G.os
  tk : 0 < s.toks
  zin : ∀ a o, Z a = some o → s.heap.get? a = some o
  hin : ∀ a o, H a = some o → s.heap.get? a = some o
  dj : ∀ a o, Z a = some o → H a = none
  bas : ∀ a o, G.base.get? a = some o → Z a = some o ∨ H a = some o
  ns : ∃ m, s.heap.Ns env.locals m
  lz : Z env.locals = none
  lh : H env.locals = none
  cells : ∀ x c, env.cells.lookup x = some c → c ≠ env.locals ∧ (env.func.isSome = true → Z c = none ∧ H c = none ∧ ∃ v, s.heap.IsCell c v) ∧ (env.func.isSome = false → ∃ o, H c = some o)
  inj : ∀ x y c, env.cells.lookup x = some c → env.cells.lookup y = some c → x = y
  vars : ∀ x d, ρ.lookup x = some (.val d) → ∃ v, Has env s.heap x v ∧ Rep G Z v d
  owns : ∃ oa : Str → Addr, (∀ x y ds es, ρ.lookup x = some (.own ds) → ρ.lookup y = some (.own es) → oa x = oa y → x = y) ∧
    ∀ x ds, ρ.lookup x = some (.own ds) → Has env s.heap x (.ref (oa x)) ∧ Z (oa x) = none ∧ H (oa x) = none ∧ oa x ≠ env.locals ∧ (∀ y c, env.cells.lookup y = some c → oa x ≠ c) ∧
      ∃ vs n, s.heap.get? (oa x) = some (listOf vs.toArray n) ∧ RepAll G Z vs ds

section
variable {G : Gnd} {env : Env} {Z Z' H : Zf} {ρ : Loc} {s s' : Shared}

theorem St.keepBase (S : St G env Z H ρ s) : ∀ a o, G.base.get? a = some o → s.heap.get? a = some o := fun a o h =>
  (S.bas a o h).elim (S.zin a o) (S.hin a o)
theorem St.X (S : St G env Z H ρ s) : G.K.In s.heap := fun a o h => S.keepBase a o (G.X a o h)
theorem St.T (S : St G env Z H ρ s) : TopRead G.p G.loose G.mg G.mb s.heap := G.T.keeps S.keepBase

theorem ext_none {a : Addr} (x : Ext Z s Z' s') (hz : Z a = none) (ho : ∃ o, s.heap.get? a = some o) : Z' a = none := by
  cases q : Z' a with
  | none => rfl
  | some o =>
    rcases x.new a o q with h | h
    · rw [hz] at h; cases h
    · obtain ⟨ob, e⟩ := ho; rw [h] at e; cases e

theorem St.ext (S : St G env Z H ρ s) (x : Ext Z s Z' s') : St G env Z' H ρ s' where
  fk := S.fk
  gl := S.gl
  bl := S.bl
  gens := x.gens.trans S.gens
  os := x.os.trans S.os
  tk := Nat.lt_of_lt_of_le S.tk x.tk
  zin := x.zin
  hin := fun a o h => x.keep a o (S.hin a o h)
  dj := fun a o h => by
    rcases x.new a o h with h | h
    · exact S.dj a o h
    · cases q : H a with
      | none => rfl
      | some ob => rw [S.hin a ob q] at h; cases h
  bas := fun a o h => (S.bas a o h).elim (fun h => .inl (x.le a o h)) .inr
  ns := let ⟨m, n⟩ := S.ns; ⟨m, n.keeps x.keep⟩
  lz := ext_none x S.lz (let ⟨_, o, _, _, h, _⟩ := S.ns; ⟨o, h⟩)
  lh := S.lh
  cells := fun y c e => by
    obtain ⟨hl, h⟩ := S.cells y c e
    refine ⟨hl, fun hf => ?_, h.2⟩
    obtain ⟨h1, h2, v, h3⟩ := h.1 hf
    exact ⟨ext_none x h1 (let ⟨o, ho, _⟩ := h3; ⟨o, ho⟩), h2, v, h3.keeps x.keep⟩
  inj := S.inj
  vars := fun y d e => by
    obtain ⟨v, h, r⟩ := S.vars y d e
    exact ⟨v, h.keeps x.keep, r.mono x.le⟩
  owns := by
    obtain ⟨oa, hi, h⟩ := S.owns
    refine ⟨oa, hi, fun y ds e => ?_⟩
    obtain ⟨h1, h2, h3, h4, h5, vs, n, h6, h7⟩ := h y ds e
    exact ⟨h1.keeps x.keep, ext_none x h2 ⟨_, h6⟩, h3, h4, h5, vs, n, x.keep _ _ h6, h7.mono x.le⟩

theorem St.same (S : St G env Z H ρ s) : Ext Z s Z s := Ext.same S.zin

/-- the tree t ends in the datum d, and changes nothing that stood -/
def Yields (G : Gnd) (A : Around) (t : Sem Value) (Z : Zf) (d : D) (s : Shared) : Prop :=
  wpAny (model G.prog G.w) A t (fun v s' => ∃ Z', Ext Z s Z' s' ∧ Rep G Z' v d) (fun _ _ => False) s

/-- room for n more frames -/
structure Room (n : Nat) (A : Around) : Prop where
  handled : A.handled = none
  depth : A.depth + n < recursionLimit
  units : A.units + 8 * n < cLine
  guards : A.guards = some []
theorem Room.in1 {n : Nat} {A : Around} (r : Room (n + 1) A) : Room n A.in1 := ⟨r.handled, by have := r.depth; show A.depth + n < _; omega, by have := r.units; show A.units + 1 + 8 * n < _; omega, r.guards⟩
theorem Room.deeper {n : Nat} {A : Around} {env : Env} (r : Room (n + 1) A) : Room n (A.deeper env) := ⟨r.handled, by have := r.depth; show A.depth + 1 + n < _; omega, by have := r.units; show A.units + 3 + 8 * n < _; omega, r.guards⟩
theorem Room.less {n m : Nat} {A : Around} (r : Room n A) (h : m ≤ n) : Room m A := ⟨r.handled, by have := r.depth; omega, by have := r.units; omega, r.guards⟩

/-- the expression e is the datum d where the names are ρ -/
structure Ev (G : Gnd) (env : Env) (n : Nat) (ρ : Loc) (e : PySem.Expr) (d : D) : Prop where
  run : ∀ A Z H s, Room n A → St G env Z H ρ s → Yields G A (eval e env) Z d s

/-- a test -/
structure Tst (G : Gnd) (env : Env) (n : Nat) (ρ : Loc) (e : PySem.Expr) (b : Bool) : Prop where
  run : ∀ A Z H s, Room n A → St G env Z H ρ s → wpAny (model G.prog G.w) A (isTrue e env (eval e env)) (fun b' s' => b' = b ∧ Ext Z s Z s') (fun _ _ => False) s

variable {A : Around} {E : Value → Shared → Prop} {n : Nat}

theorem wp_seq {α : Type} {M : Model} {t : Sem α} {P Q : α → Shared → Prop} (h : wpAny M A t P (fun _ _ => False) s) (hq : ∀ v s', P v s' → Q v s') : wpAny M A t Q E s :=
  wpAny_mono h hq fun _ _ x => x.elim

/-- tokens only grow -/
theorem wp_tok {α : Type} {M : Model} {t : Sem α} {Q : α → Shared → Prop} (h : wpAny M A t (fun a s' => s.toks ≤ s'.toks → Q a s') (fun _ _ => False) s) : wpAny M A t Q (fun _ _ => False) s :=
  wpAny_with_toks (Nat.le_refl _) (wpAny_mono h (fun _ _ x => x) fun _ _ x => x.elim)

/-- a name -/
theorem ev_name {x : Str} {pos : Pos} {d : D} (h : ρ.lookup x = some (.val d)) (hd : (x == ("__debug__" : Str)) = false) : Ev G env n ρ (.Name x pos) d := by
  constructor
  intro A Z H s _ S
  obtain ⟨v, hv, r⟩ := S.vars x d h
  refine wpAny_Name ?_ hd
  rcases hv with ⟨k, m, n, e⟩ | ⟨k, c, e, n⟩
  · exact wpAny_loadName_local S.fk k n e ⟨Z, S.same, r⟩
  · rcases k with k | k
    · exact wpAny_loadName_cell S.fk k e n ⟨Z, S.same, r⟩
    · exact wpAny_loadName_free S.fk k.1 e n ⟨Z, S.same, r⟩ k.2

end
end Mine
end
section
open PySem PySem.W PyProof.Rows
namespace Mine

section
variable {G : Gnd} {env : Env} {Z Z' H : Zf} {ρ ρ' : Loc} {s s' : Shared} {A : Around} {E : Value → Shared → Prop}

theorem Has.store_local {h h' : Heap} {x y : Str} {v u : Value} {m : Str → Option Value} (hn : h.Ns env.locals m) (hn' : h'.Ns env.locals (fun y => if y = x then some v else m y))
    (hs : Heap.SameBut env.locals h h') (hcl : ∀ y c, env.cells.lookup y = some c → c ≠ env.locals) (hy : y ≠ x) (q : Has env h y u) : Has env h' y u := by
  rcases q with ⟨k, m₂, n, e⟩ | ⟨k, c, e, n⟩
  · rw [ns_uniq n hn] at e
    exact .inl ⟨k, _, hn', by simpa [hy] using e⟩
  · exact .inr ⟨k, c, e, n.sameBut hs (hcl y c e)⟩

theorem Has.store_cell {h h' : Heap} {x y : Str} {u : Value} {c : Addr} (hs : Heap.SameBut c h h') (hc : env.cells.lookup x = some c)
    (inj : ∀ x y c, env.cells.lookup x = some c → env.cells.lookup y = some c → x = y) (hcl : c ≠ env.locals) (hy : y ≠ x) (q : Has env h y u) : Has env h' y u := by
  rcases q with ⟨k, m₂, n, e⟩ | ⟨k, c', e, n⟩
  · exact .inl ⟨k, m₂, n.sameBut hs (Ne.symm hcl), e⟩
  · exact .inr ⟨k, c', e, n.sameBut hs fun q => hy (inj y x c (q ▸ e) hc)⟩

/-- a change at an address that is neither frozen nor held -/
theorem St.put (S : St G env Z H ρ s) {a : Addr} {h' : Heap} {t : Nat} (ht : s.toks ≤ t) (hs : Heap.SameBut a s.heap h') (hz : Z a = none) (hh : H a = none) (hns : ∃ m, h'.Ns env.locals m)
    (hce : ∀ y c, env.cells.lookup y = some c → env.func.isSome = true → ∃ v, h'.IsCell c v)
    (hvars : ∀ y d, ρ'.lookup y = some (.val d) → ∃ v, Has env h' y v ∧ Rep G Z v d)
    (howns : ∃ oa : Str → Addr, (∀ x y ds es, ρ'.lookup x = some (.own ds) → ρ'.lookup y = some (.own es) → oa x = oa y → x = y) ∧
      ∀ x ds, ρ'.lookup x = some (.own ds) → Has env h' x (.ref (oa x)) ∧ Z (oa x) = none ∧ H (oa x) = none ∧ oa x ≠ env.locals ∧ (∀ y c, env.cells.lookup y = some c → oa x ≠ c) ∧
        ∃ vs n, h'.get? (oa x) = some (listOf vs.toArray n) ∧ RepAll G Z vs ds) :
    St G env Z H ρ' { s with heap := h', toks := t } where
  fk := S.fk
  gl := S.gl
  bl := S.bl
  gens := S.gens
  os := S.os
  tk := Nat.lt_of_lt_of_le S.tk ht
  zin := fun b o h => (hs.2 b fun q => by rw [q, hz] at h; cases h).trans (S.zin b o h)
  hin := fun b o h => (hs.2 b fun q => by rw [q, hh] at h; cases h).trans (S.hin b o h)
  dj := S.dj
  bas := S.bas
  ns := hns
  lz := S.lz
  lh := S.lh
  cells := fun y c e => by
    obtain ⟨hl, h⟩ := S.cells y c e
    refine ⟨hl, fun hf => ?_, h.2⟩
    obtain ⟨h1, h2, _⟩ := h.1 hf
    exact ⟨h1, h2, hce y c e hf⟩
  inj := S.inj
  vars := hvars
  owns := howns

/-- where a name may be stored -/
def Can (env : Env) (x : Str) : Prop := env.kindOf x = some .local ∨ (env.kindOf x = some .cell ∧ env.func.isSome = true ∧ ∃ c, env.cells.lookup x = some c)

/-- the heaps behind a store of x: all other names stand -/
theorem wp_storeName {x : Str} {v : Value} {Q : Unit → Shared → Prop} (S : St G env Z H ρ s) (hc : Can env x)
    (h : ∀ a h' t, s.toks ≤ t → Z a = none → H a = none → Heap.SameBut a s.heap h' → (∃ m, h'.Ns env.locals m) → (∀ y c, env.cells.lookup y = some c → env.func.isSome = true → ∃ v, h'.IsCell c v) →
      Has env h' x v → (∀ y u, y ≠ x → Has env s.heap y u → Has env h' y u) → (∀ b, s.heap.get? b ≠ none → b ≠ env.locals → (∀ y c, env.cells.lookup y = some c → b ≠ c) → b ≠ a) → Q () { s with heap := h', toks := t }) :
    wpAny (model G.prog G.w) A (storeName env x v) Q E s := by
  rcases hc with k | ⟨k, hf, c, e⟩
  · obtain ⟨m, hn⟩ := S.ns
    refine wpAny_storeName_local k hn (fun h' hn' hs => ?_) (by rw [S.fk]; rfl)
    refine h env.locals h' _ (Nat.le_succ _) S.lz S.lh hs ⟨_, hn'⟩ (fun y c e hf => ?_) (.inl ⟨k, _, hn', by simp⟩) (fun y u hy q => q.store_local hn hn' hs (fun y c e => (S.cells y c e).1) hy) fun b _ hb _ => hb
    obtain ⟨hl, h1, _⟩ := S.cells y c e
    obtain ⟨_, _, v', hv⟩ := h1 hf
    exact ⟨v', hv.sameBut hs hl⟩
  · obtain ⟨hl, h1, _⟩ := S.cells x c e
    obtain ⟨hz, hh, v₀, hv⟩ := h1 hf
    refine wpAny_storeName_cell S.fk k e hv fun h' hv' hs => ?_
    refine h c h' s.toks (Nat.le_refl _) hz hh hs (let ⟨m, hn⟩ := S.ns; ⟨m, hn.sameBut hs (Ne.symm hl)⟩) (fun y c' e' hf' => ?_) (.inr ⟨.inl k, c, e, hv'⟩) (fun y u hy q => q.store_cell hs e S.inj hl hy) fun b _ _ hb => hb x c e
    by_cases q : c' = c
    · subst q; exact ⟨_, hv'⟩
    · obtain ⟨_, h2, _⟩ := S.cells y c' e'
      obtain ⟨_, _, v', hv''⟩ := h2 hf'
      exact ⟨v', hv''.sameBut hs q⟩

theorem st_store {x : Str} {v : Value} {d : D} (S : St G env Z H ρ s) (r : Rep G Z v d) (hc : Can env x) :
    wpAny (model G.prog G.w) A (storeName env x v) (fun _ s' => St G env Z H (upd ρ x (.val d)) s') E s := by
  refine wp_storeName S hc fun a h' t ht hz hh hs hns hce hx hy hb => S.put ht hs hz hh hns hce ?_ ?_
  · intro y d' e
    rw [lookup_upd] at e
    by_cases q : y = x
    · subst q; rw [if_pos rfl] at e; cases e; exact ⟨v, hx, r⟩
    · rw [if_neg q] at e
      obtain ⟨u, hu, ru⟩ := S.vars y d' e
      exact ⟨u, hy y u q hu, ru⟩
  · obtain ⟨oa, hi, ho⟩ := S.owns
    have old : ∀ y ds, (upd ρ x (.val d)).lookup y = some (.own ds) → y ≠ x ∧ ρ.lookup y = some (.own ds) := fun y ds e => by
      rw [lookup_upd] at e
      by_cases q : y = x
      · rw [if_pos q] at e; cases e
      · rw [if_neg q] at e; exact ⟨q, e⟩
    refine ⟨oa, fun y z ds es ey ez => hi y z ds es (old y ds ey).2 (old z es ez).2, fun y ds e => ?_⟩
    obtain ⟨q, e⟩ := old y ds e
    obtain ⟨h1, h2, h3, h4, h5, vs, n, h6, h7⟩ := ho y ds e
    exact ⟨hy y _ q h1, h2, h3, h4, h5, vs, n, (hs.2 _ (hb _ (by rw [h6]; intro z; cases z) h4 h5)).trans h6, h7⟩

/-- a list that none but the frame holds is stored -/
theorem st_storeOwn {x : Str} {a : Addr} {vs : List Value} {n : Nat} {ds : List D} (S : St G env Z H ρ s) (hz : Z a = none) (hh : H a = none) (hl : a ≠ env.locals)
    (hcs : ∀ y c, env.cells.lookup y = some c → a ≠ c) (hoa : ∀ y es v, ρ.lookup y = some (.own es) → Has env s.heap y v → v ≠ .ref a) (ho : s.heap.get? a = some (listOf vs.toArray n)) (r : RepAll G Z vs ds)
    (hc : Can env x) :
    wpAny (model G.prog G.w) A (storeName env x (.ref a)) (fun _ s' => St G env Z H (upd ρ x (.own ds)) s') E s := by
  refine wp_storeName S hc fun b h' t ht hz' hh' hs hns hce hx hy hb => S.put ht hs hz' hh' hns hce ?_ ?_
  · intro y d' e
    rw [lookup_upd] at e
    by_cases q : y = x
    · subst q; rw [if_pos rfl] at e; cases e
    · rw [if_neg q] at e
      obtain ⟨u, hu, ru⟩ := S.vars y d' e
      exact ⟨u, hy y u q hu, ru⟩
  · obtain ⟨oa, hi, ho'⟩ := S.owns
    have old : ∀ y es, y ≠ x → (upd ρ x (.own ds)).lookup y = some (.own es) → ρ.lookup y = some (.own es) := fun y es q e => by
      rw [lookup_upd, if_neg q] at e; exact e
    refine ⟨fun y => if y = x then a else oa y, fun y z es es' ey ez q => ?_, fun y es e => ?_⟩
    · by_cases hy : y = x <;> by_cases hz : z = x
      · rw [hy, hz]
      · simp only [hy, hz, if_true, if_false] at q
        exact absurd rfl (q ▸ hoa z _ _ (old z _ hz ez) (ho' z _ (old z _ hz ez)).1)
      · simp only [hy, hz, if_true, if_false] at q
        exact absurd (by rw [q]) (hoa y _ _ (old y _ hy ey) (ho' y _ (old y _ hy ey)).1)
      · simp only [hy, hz, if_false] at q
        exact hi y z _ _ (old y _ hy ey) (old z _ hz ez) q
    · by_cases q : y = x
      · subst q
        rw [lookup_upd, if_pos rfl] at e; cases e
        simp only [if_true]
        exact ⟨hx, hz, hh, hl, hcs, vs, n, (hs.2 _ (hb _ (by rw [ho]; intro z; cases z) hl hcs)).trans ho, r⟩
      · simp only [q, if_false]
        obtain ⟨h1, h2, h3, h4, h5, vs, n, h6, h7⟩ := ho' y es (old y es q e)
        exact ⟨hy y _ q h1, h2, h3, h4, h5, vs, n, (hs.2 _ (hb _ (by rw [h6]; intro z; cases z) h4 h5)).trans h6, h7⟩

/-- an owned list is frozen -/
theorem St.freeze {x : Str} {ds : List D} (S : St G env Z H ρ s) (hx : ρ.lookup x = some (.own ds)) : ∃ Z', Zle Z Z' ∧ St G env Z' H (upd ρ x (.val (.list ds))) s ∧
    (∀ a o, Z' a = some o → Z a = some o ∨ ∃ v, Has env s.heap x v ∧ v = .ref a) := by
  obtain ⟨oa, hi, ho⟩ := S.owns
  obtain ⟨h1, h2, h3, h4, h5, vs, n, h6, h7⟩ := ho x ds hx
  have le : Zle Z (Zadd Z (oa x) (listOf vs.toArray n)) := Zadd.le h2
  have ne : ∀ b, b ≠ oa x → Zadd Z (oa x) (listOf vs.toArray n) b = Z b := fun b hb => if_neg hb
  refine ⟨Zadd Z (oa x) (listOf vs.toArray n), le, ?_, ?_⟩
  · refine ⟨S.fk, S.gl, S.bl, S.gens, S.os, S.tk, fun b o e => ?_, S.hin, fun b o e => ?_, fun b o e => (S.bas b o e).elim (fun h => .inl (le _ _ h)) .inr, S.ns, ?_, S.lh, fun y c e => ?_, S.inj, fun y d e => ?_, ?_⟩
    · by_cases q : b = oa x
      · subst q; rw [Zadd.self] at e; cases e; exact h6
      · rw [ne b q] at e; exact S.zin b o e
    · by_cases q : b = oa x
      · subst q; exact h3
      · rw [ne b q] at e; exact S.dj b o e
    · rw [ne _ (Ne.symm h4)]; exact S.lz
    · obtain ⟨hl, h, h'⟩ := S.cells y c e
      refine ⟨hl, fun hf => ?_, h'⟩
      obtain ⟨g1, g2⟩ := h hf
      exact ⟨by rw [ne _ (Ne.symm (h5 y c e))]; exact g1, g2⟩
    · rw [lookup_upd] at e
      by_cases q : y = x
      · subst q; rw [if_pos rfl] at e; cases e
        exact ⟨_, h1, .list Zadd.self (h7.mono le)⟩
      · rw [if_neg q] at e
        obtain ⟨u, hu, ru⟩ := S.vars y d e
        exact ⟨u, hu, ru.mono le⟩
    · have old : ∀ y es, (upd ρ x (.val (.list ds))).lookup y = some (.own es) → y ≠ x ∧ ρ.lookup y = some (.own es) := fun y es e => by
        rw [lookup_upd] at e
        by_cases q : y = x
        · rw [if_pos q] at e; cases e
        · rw [if_neg q] at e; exact ⟨q, e⟩
      refine ⟨oa, fun y z es es' ey ez => hi y z es es' (old y es ey).2 (old z es' ez).2, fun y es e => ?_⟩
      obtain ⟨q, e⟩ := old y es e
      obtain ⟨g1, g2, g3, g4, g5, vs', n', g6, g7⟩ := ho y es e
      exact ⟨g1, by rw [ne _ fun z => q (hi y x _ _ e hx z)]; exact g2, g3, g4, g5, vs', n', g6, g7.mono le⟩
  · intro b o e
    by_cases q : b = oa x
    · subst q; exact .inr ⟨_, h1, rfl⟩
    · rw [ne b q] at e; exact .inl e

end
end Mine
end
section
open PySem PySem.W PyProof.Rows
set_option linter.unusedVariables false
namespace Mine

/-- the state, as a callee sees it -/
structure Bs (G : Gnd) (Z : Zf) (s : Shared) : Prop where
  gens : s.gens = #[]
  os : s.os = G.os
  tk : 0 < s.toks
  zin : ∀ a o, Z a = some o → s.heap.get? a = some o
  bas : ∀ a o, G.base.get? a = some o → s.heap.get? a = some o

section
variable {G : Gnd} {env : Env} {Z Z' H : Zf} {ρ ρ' : Loc} {s s' : Shared} {A : Around} {E : Value → Shared → Prop} {n : Nat} {pos apos : Pos}

theorem St.bs (S : St G env Z H ρ s) : Bs G Z s := ⟨S.gens, S.os, S.tk, S.zin, S.keepBase⟩
theorem Bs.ext (b : Bs G Z s) (x : Ext Z s Z' s') : Bs G Z' s' := ⟨x.gens.trans b.gens, x.os.trans b.os, Nat.lt_of_lt_of_le b.tk x.tk, x.zin, fun a o h => x.keep a o (b.bas a o h)⟩
theorem Bs.X (b : Bs G Z s) : G.K.In s.heap := fun a o h => b.bas a o (G.X a o h)
theorem Bs.T (b : Bs G Z s) : TopRead G.p G.loose G.mg G.mb s.heap := G.T.keeps b.bas
theorem Bs.nb (b : Bs G Z s) : NoneBooked s.heap := let ⟨mc, h, e⟩ := G.nb; ⟨mc, h.keeps b.bas, e⟩
theorem Bs.same (b : Bs G Z s) : Ext Z s Z s := Ext.same b.zin
theorem Bs.nolimit (b : Bs G Z s) : s.heap.NoLimit := b.T.nolimit

structure Op1 (G : Gnd) (f : Value → Sem Value) (d₁ d : D) : Prop where
  run : ∀ A Z s v₁, Room 0 A → Bs G Z s → Rep G Z v₁ d₁ → Yields G A (f v₁) Z d s
structure Op2 (G : Gnd) (f : Value → Value → Sem Value) (d₁ d₂ d : D) : Prop where
  run : ∀ A Z s v₁ v₂, Room 0 A → Bs G Z s → Rep G Z v₁ d₁ → Rep G Z v₂ d₂ → Yields G A (f v₁ v₂) Z d s
/-- a built-in function, or a method with its object ahead -/
structure BF (G : Gnd) (id : String) (ds : List D) (d : D) : Prop where
  run : ∀ A Z s vs, Room 0 A → Bs G Z s → RepAll G Z vs ds → Yields G A (call (.builtin id) vs) Z d s
/-- a def of the text's -/
structure Fn (G : Gnd) (n : Nat) (f : Addr) (ds : List D) (d : D) : Prop where
  run : ∀ A Z s vs, Room n A → Bs G Z s → RepAll G Z vs ds → Yields G A (call (.ref f) vs) Z d s
structure GetM (G : Gnd) (name : Str) (d : D) (id : String) : Prop where
  run : ∀ M A pl Z s v Q E, (∀ a o, Z a = some o → s.heap.get? a = some o) → Rep G Z v d → Q (Value.builtin id, [v]) s → wpAny M A (getMethod v name pl) Q E s

theorem ev_int {i : Int} {k : Nat} : Ev G env n ρ (.Constant (.int i) k pos) (.int i) := Ev.mk fun _ Z _ _ _ S => wpAny_Constant_int ⟨Z, Ext.tok S.zin (Nat.le_succ _), .int _ _⟩
theorem ev_str {x : Str} {k : Nat} : Ev G env n ρ (.Constant (.str x) k pos) (.str x) := Ev.mk fun _ Z _ _ _ S => Calls.Constant_str ⟨Z, Ext.tok S.zin (Nat.le_succ _), .str _ _⟩
theorem ev_bool {b : Bool} {k : Nat} : Ev G env n ρ (.Constant (.bool b) k pos) (.bool b) := Ev.mk fun _ Z _ _ _ S => wpAny_pure ⟨Z, S.same, .bool _⟩
theorem ev_none {k : Nat} : Ev G env n ρ (.Constant .none k pos) .none := Ev.mk fun _ Z _ _ _ S => wpAny_pure ⟨Z, S.same, .none⟩

theorem ev_glob {x : Str} {a : Addr} (e : nsIn G.K mainGlobals x = some (some (.ref a))) (hx : env.kindOf x = some .globalImplicit) (hd : (x == ("__debug__" : Str)) = false) : Ev G env n ρ (.Name x pos) (.fn a) :=
  Ev.mk fun _ Z _ _ _ S => Calls.Name_function_global S.fk hx (Calls.loadGlobal_global (by rw [S.gl]; exact S.T.g) (mg_of G.X G.T.g e) ⟨Z, S.same, .fn _⟩) hd

theorem wp_builtinName {x : Str} {v : Value} {M : Model} {Q : Value → Shared → Prop} (S : St G env Z H ρ s) (e : nsIn G.K mainGlobals x = some none) (hv : bootBuiltins x = some v) (hn : x ≠ "__name__") (hx : env.kindOf x = some .globalImplicit)
    (hd : (x == ("__debug__" : Str)) = false) (h : Q v s) : wpAny M A (eval (.Name x pos) env) Q E s :=
  Calls.Name_function_global S.fk hx (Calls.loadGlobal_builtin (by rw [S.gl]; exact S.T.g) (mg_none_of G.X G.T.g e) (by rw [S.bl]; exact S.T.b) ((G.T.builtins x hn).trans hv) h) hd

theorem ev_binop {l r : PySem.Expr} {op : Operator} {d₁ d₂ d : D} (h₁ : Ev G env n ρ l d₁) (h₂ : Ev G env n ρ r d₂) (h₃ : Op2 G (binaryOp op) d₁ d₂ d) : Ev G env n ρ (.BinOp l op r pos) d :=
  Ev.mk fun A Z H s R S => wpAny_BinOp (wp_seq (h₁.run A Z H s R S) fun v₁ s₁ ⟨Z₁, x₁, r₁⟩ => wp_seq (h₂.run A Z₁ H s₁ R (S.ext x₁)) fun v₂ s₂ ⟨Z₂, x₂, r₂⟩ =>
    wp_seq (h₃.run A Z₂ s₂ v₁ v₂ (R.less (Nat.zero_le _)) ((S.ext x₁).ext x₂).bs (r₁.mono x₂.le) r₂) fun _ _ ⟨Z₃, x₃, r₃⟩ => ⟨Z₃, x₁.trans (x₂.trans x₃), r₃⟩)

theorem ev_cmp {l r : PySem.Expr} {op : CmpOp} {d₁ d₂ d : D} (h₁ : Ev G env n ρ l d₁) (h₂ : Ev G env n ρ r d₂) (h₃ : Op2 G (compareOp op) d₁ d₂ d) (hm : behindInMarks op r = false) : Ev G env n ρ (.Compare l [op] [r] pos) d :=
  Ev.mk fun A Z H s R S => wpAny_Compare1 (wp_seq (h₁.run A Z H s R S) fun v₁ s₁ ⟨Z₁, x₁, r₁⟩ => wp_seq (h₂.run A Z₁ H s₁ R (S.ext x₁)) fun v₂ s₂ ⟨Z₂, x₂, r₂⟩ =>
    wp_seq (h₃.run A Z₂ s₂ v₁ v₂ (R.less (Nat.zero_le _)) ((S.ext x₁).ext x₂).bs (r₁.mono x₂.le) r₂) fun _ _ ⟨Z₃, x₃, r₃⟩ => ⟨Z₃, x₁.trans (x₂.trans x₃), r₃⟩) hm

theorem tst_cmp {l r : PySem.Expr} {op : CmpOp} {d₁ d₂ : D} {b : Bool} (h₁ : Ev G env n ρ l d₁) (h₂ : Ev G env n ρ r d₂) (h₃ : Op2 G (compareOp op) d₁ d₂ (.bool b)) (hm : behindInMarks op r = false) : Tst G env n ρ (.Compare l [op] [r] pos) b :=
  Tst.mk fun A Z H s R S => wpAny_isTrue_Compare1 (wp_seq (h₁.run A Z H s R S) fun v₁ s₁ ⟨Z₁, x₁, r₁⟩ => wp_seq (h₂.run A Z₁ H s₁ R (S.ext x₁)) fun v₂ s₂ ⟨Z₂, x₂, r₂⟩ =>
    wp_seq (h₃.run A Z₂ s₂ v₁ v₂ (R.less (Nat.zero_le _)) ((S.ext x₁).ext x₂).bs (r₁.mono x₂.le) r₂) fun _ _ ⟨Z₃, x₃, r₃⟩ => by cases r₃; exact wpAny_truthy_bool ⟨rfl, (x₁.trans (x₂.trans x₃)).back S.zin⟩) hm

theorem tst_not {x : PySem.Expr} {b : Bool} (h : Tst G env n ρ x b) : Tst G env n ρ (.UnaryOp .Not x pos) (!b) :=
  Tst.mk fun A Z H s R S => isTrue_not (wp_seq (h.run A Z H s R S) fun _ _ ⟨e, x⟩ => ⟨by rw [e], x⟩)
theorem tst_and_nil : Tst G env n ρ (.BoolOp .And [] pos) true := Tst.mk fun _ _ _ _ _ S => isTrue_and_nil ⟨rfl, S.same⟩
theorem tst_or_nil : Tst G env n ρ (.BoolOp .Or [] pos) false := Tst.mk fun _ _ _ _ _ S => isTrue_or_nil ⟨rfl, S.same⟩
theorem ev_ifexp {t b o : PySem.Expr} {c : Bool} {d₁ d₂ : D} (h : Tst G env n ρ t c) (h₁ : c = true → Ev G env n ρ b d₁) (h₂ : c = false → Ev G env n ρ o d₂) : Ev G env n ρ (.IfExp t b o pos) (if c then d₁ else d₂) :=
  Ev.mk fun A Z H s R S => IfExp_ (wp_seq (h.run A Z H s R S) fun c' s' ⟨e, x⟩ => by
    subst e
    cases c' with
    | true => exact wp_seq ((h₁ rfl).run A Z H s' R (S.ext x)) fun _ _ ⟨Z₁, y, r⟩ => ⟨Z₁, x.trans y, r⟩
    | false => exact wp_seq ((h₂ rfl).run A Z H s' R (S.ext x)) fun _ _ ⟨Z₁, y, r⟩ => ⟨Z₁, x.trans y, r⟩)

/-- several expressions in a row -/
structure Evs (G : Gnd) (env : Env) (n : Nat) (ρ : Loc) (es : List PySem.Expr) (ds : List D) : Prop where
  run : ∀ A Z H s pos, Room n A → St G env Z H ρ s → wpAny (model G.prog G.w) A (spliced (backTo pos (starEach es env))) (fun vs s' => ∃ Z', Ext Z s Z' s' ∧ RepAll G Z' vs ds) (fun _ _ => False) s
theorem evs_nil : Evs G env n ρ [] [] := Evs.mk fun _ Z _ _ _ _ S => spliced_none ⟨Z, S.same, .nil⟩
theorem evs_cons {e : PySem.Expr} {es : List PySem.Expr} {d : D} {ds : List D} (h : Ev G env n ρ e d) (h' : Evs G env n ρ es ds) (he : starEach (e :: es) env = (false, eval e env) :: starEach es env) : Evs G env n ρ (e :: es) (d :: ds) :=
  Evs.mk fun A Z H s pos R S => spliced_more (wp_seq (h.run A Z H s R S) fun v s₁ ⟨Z₁, x₁, r₁⟩ => wp_seq (h'.run A Z₁ H s₁ pos R (S.ext x₁)) fun vs s₂ ⟨Z₂, x₂, r₂⟩ => ⟨Z₂, x₁.trans x₂, .cons (r₁.mono x₂.le) r₂⟩) he

theorem wp_newTuple {vs : List Value} {ds : List D} (b : Bs G Z s) (r : RepAll G Z vs ds) (hsz : ds.length ≤ sizeLine) : Yields G A (newTuple vs) Z (.tup ds) s :=
  wpAny_newObj_type ⟨_, Ext.alloc b.zin rfl (Nat.le_refl _), .tup Zadd.self (r.mono (Ext.alloc (s := s) (t := s.toks) b.zin rfl (Nat.le_refl _)).le)⟩ (by show vs.toArray.size ≤ sizeLine; rw [List.size_toArray, r.length]; exact hsz)
theorem wp_newList {vs : List Value} {ds : List D} (b : Bs G Z s) (r : RepAll G Z vs ds) (hsz : ds.length ≤ sizeLine) : Yields G A (newList vs) Z (.list ds) s :=
  wpAny_newObj_type ⟨_, Ext.alloc b.zin rfl (Nat.le_refl _), .list Zadd.self (r.mono (Ext.alloc (s := s) (t := s.toks) b.zin rfl (Nat.le_refl _)).le)⟩ (by show vs.toArray.size ≤ sizeLine; rw [List.size_toArray, r.length]; exact hsz)

theorem ev_tuple {es : List PySem.Expr} {ds : List D} {k : Nat} (h : Evs G env n ρ es ds) (hsz : ds.length ≤ sizeLine) : Ev G env n ρ (.Tuple es k pos) (.tup ds) :=
  Ev.mk fun A Z H s R S => Tuple_ (wp_seq (h.run A Z H s pos R S) fun vs s₁ ⟨Z₁, x₁, r₁⟩ => wp_seq (wp_newTuple (S.ext x₁).bs r₁ hsz) fun _ _ ⟨Z₂, x₂, r₂⟩ => ⟨Z₂, x₁.trans x₂, r₂⟩)
theorem ev_list {es : List PySem.Expr} {ds : List D} (h : Evs G env n ρ es ds) (hsz : ds.length ≤ sizeLine) : Ev G env n ρ (.List es pos) (.list ds) :=
  Ev.mk fun A Z H s R S => List_ (wp_seq (h.run A Z H s pos R S) fun vs s₁ ⟨Z₁, x₁, r₁⟩ => wp_seq (wp_newList (S.ext x₁).bs r₁ hsz) fun _ _ ⟨Z₂, x₂, r₂⟩ => ⟨Z₂, x₁.trans x₂, r₂⟩)

theorem starred_none {es : List PySem.Expr} (h : (starEach es env).any (·.1) = false) (pos : Pos) : (backTo pos (starEach es env)).any (·.1) = false := by
  unfold backTo
  rw [List.any_map]
  exact h

theorem wp_evalArgs {M : Model} {f : Value} {args : List (Bool × Sem Value)} {Q : Args → Shared → Prop} (hp : args.any (·.1) = false)
    (h : wpAny M A (spliced args) (fun vs s₁ => Q ⟨vs, []⟩ s₁) E s) : wpAny M A (evalArgs f true args []) Q E s := by
  match args, hp, h with
  | [], _, h =>
    unfold evalArgs
    show wpAny M A (spliced [] >>= _) Q E s
    refine wpAny_bind (wpAny_mono h (fun vs s' h' => ?_) fun _ _ x => x)
    refine wpAny_bind (wpAny_pure (wpAny_holding ?_))
    exact wpAny_bind (wpAny_pure (wpAny_bind (wpAny_pure (wpAny_pure h'))))
  | (false, t) :: r, _, h => exact Calls.evalArgs_plain h
  | (true, t) :: r, hp, _ => simp at hp

/-- a call of one of the text's defs, by whatever expression it is reached -/
theorem ev_callFn {f : PySem.Expr} {es : List PySem.Expr} {a : Addr} {ds : List D} {d : D} (hf : Ev G env n ρ f (.fn a)) (h : Evs G env n ρ es ds) (hk : keepIn G.K (.ref a) = true) (hc : Fn G n a ds d)
    (hp : (starEach es env).any (·.1) = false)
    (he : eval (.Call f es [] pos) env = (do callWith pos (← eval f env) [] (backTo pos (starEach es env)) [])) : Ev G env n ρ (.Call f es [] pos) d := by
  constructor
  intro A Z H s R S
  unfold Yields
  rw [he]
  refine wpAny_bind (wp_seq (hf.run A Z H s R S) fun v s₁ ⟨Z₁, x₁, r₁⟩ => ?_)
  cases r₁
  have S₁ := S.ext x₁
  refine callWith_of (P := fun h => G.K.In h) (by rw [starred_none hp]; rfl) (keeps_K hk) (wp_evalArgs (starred_none hp pos) (wp_seq (h.run A Z₁ H s₁ pos R S₁) fun vs s₂ ⟨Z₂, x₂, r₂⟩ => ⟨(S₁.ext x₂).X, ?_⟩))
  exact wp_seq (hc.run A Z₂ s₂ vs R (S₁.ext x₂).bs r₂) fun _ _ ⟨Z₃, x₃, r₃⟩ => ⟨Z₃, x₁.trans (x₂.trans x₃), r₃⟩

/-- a call of a built-in function by its name -/
theorem ev_callBF {x : Str} {p : Pos} {id : String} {es : List PySem.Expr} {ds : List D} {d : D} (h : Evs G env n ρ es ds) (hc : BF G id ds d)
    (e : nsIn G.K mainGlobals x = some none) (hv : bootBuiltins x = some (.builtin id)) (hn : x ≠ "__name__") (hx : env.kindOf x = some .globalImplicit) (hd : (x == ("__debug__" : Str)) = false)
    (hp : (starEach es env).any (·.1) = false)
    (he : eval (.Call (.Name x p) es [] pos) env = (do callWith pos (← eval (.Name x p) env) [] (backTo pos (starEach es env)) [])) : Ev G env n ρ (.Call (.Name x p) es [] pos) d := by
  constructor
  intro A Z H s R S
  unfold Yields
  rw [he]
  refine wpAny_bind (wp_builtinName S e hv hn hx hd ?_)
  refine Calls.callWith_builtin (starred_none hp pos) (wp_evalArgs (starred_none hp pos) (wp_seq (h.run A Z H s pos R S) fun vs s₂ ⟨Z₂, x₂, r₂⟩ => ?_))
  exact wp_seq (hc.run A Z₂ s₂ vs (R.less (Nat.zero_le _)) (S.ext x₂).bs r₂) fun _ _ ⟨Z₃, x₃, r₃⟩ => ⟨Z₃, x₂.trans x₃, r₃⟩

/-- a call of a built-in class by its name -/
structure BT (G : Gnd) (T : String) (ds : List D) (d : D) : Prop where
  run : ∀ A Z s vs, Room 1 A → Bs G Z s → RepAll G Z vs ds → Yields G A (call (.type T) vs) Z d s
theorem ev_callBT {x : Str} {p : Pos} {T : String} {es : List PySem.Expr} {ds : List D} {d : D} (h : Evs G env (n + 1) ρ es ds) (hc : BT G T ds d)
    (e : nsIn G.K mainGlobals x = some none) (hv : bootBuiltins x = some (.type T)) (hn : x ≠ "__name__") (hx : env.kindOf x = some .globalImplicit) (hd : (x == ("__debug__" : Str)) = false)
    (hp : (starEach es env).any (·.1) = false)
    (he : eval (.Call (.Name x p) es [] pos) env = (do callWith pos (← eval (.Name x p) env) [] (backTo pos (starEach es env)) [])) : Ev G env (n + 1) ρ (.Call (.Name x p) es [] pos) d := by
  constructor
  intro A Z H s R S
  unfold Yields
  rw [he]
  refine wpAny_bind (wp_builtinName S e hv hn hx hd ?_)
  refine PyProof.Rows.callWith_type (starred_none hp pos) (wp_evalArgs (starred_none hp pos) (wp_seq (h.run A Z H s pos R S) fun vs s₂ ⟨Z₂, x₂, r₂⟩ => ?_))
  exact wp_seq (hc.run A Z₂ s₂ vs (R.less (by omega)) (S.ext x₂).bs r₂) fun _ _ ⟨Z₃, x₃, r₃⟩ => ⟨Z₃, x₂.trans x₃, r₃⟩

/-- a call of a method of a built-in class -/
theorem ev_method {o : PySem.Expr} {name : Str} {id : String} {es : List PySem.Expr} {d₀ : D} {ds : List D} {d : D} {pl : Sem Bool} (ho : Ev G env n ρ o d₀) (g : GetM G name d₀ id) (h : Evs G env n ρ es ds) (hc : BF G id (d₀ :: ds) d)
    (hp : (starEach es env).any (·.1) = false)
    (he : eval (.Call (.Attribute o name apos) es [] pos) env = (do
      let ov ← eval o env
      standAt apos.atName
      let (f, first) ← holding [ov] (getMethod ov name pl)
      callWith pos f first (backTo pos (starEach es env)) [])) : Ev G env n ρ (.Call (.Attribute o name apos) es [] pos) d := by
  constructor
  intro A Z H s R S
  refine MethodCall_ (wp_seq (ho.run A Z H s R S) fun v s₁ ⟨Z₁, x₁, r₁⟩ => ?_) he
  have S₁ := S.ext x₁
  refine g.run _ A pl Z₁ s₁ v _ _ S₁.zin r₁ ?_
  refine Calls.callWith_builtin (starred_none hp pos) (wp_evalArgs (starred_none hp pos) (wp_seq (h.run A Z₁ H s₁ pos R S₁) fun vs s₂ ⟨Z₂, x₂, r₂⟩ => ?_))
  exact wp_seq (hc.run A Z₂ s₂ (v :: vs) (R.less (Nat.zero_le _)) (S₁.ext x₂).bs (.cons (r₁.mono x₂.le) r₂)) fun _ _ ⟨Z₃, x₃, r₃⟩ => ⟨Z₃, x₁.trans (x₂.trans x₃), r₃⟩

/-- an item -/
def Sb (G : Gnd) (value slice : PySem.Expr) (d₁ d₂ d : D) : Prop := Op2 G (subscriptTail value slice) d₁ d₂ d
theorem ev_sub {value slice : PySem.Expr} {d₁ d₂ d : D} (h₁ : Ev G env n ρ value d₁) (h₂ : Ev G env n ρ slice d₂) (h₃ : Sb G value slice d₁ d₂ d) : Ev G env n ρ (.Subscript value slice pos) d :=
  Ev.mk fun A Z H s R S => Subscript_ (wp_seq (h₁.run A Z H s R S) fun v₁ s₁ ⟨Z₁, x₁, r₁⟩ => wp_seq (h₂.run A Z₁ H s₁ R (S.ext x₁)) fun v₂ s₂ ⟨Z₂, x₂, r₂⟩ =>
    wp_seq (h₃.run A Z₂ s₂ v₁ v₂ (R.less (Nat.zero_le _)) ((S.ext x₁).ext x₂).bs (r₁.mono x₂.le) r₂) fun _ _ ⟨Z₃, x₃, r₃⟩ => ⟨Z₃, x₁.trans (x₂.trans x₃), r₃⟩)

theorem ev_neg {e : PySem.Expr} {d₁ d : D} {op : UnaryOp} (h : Ev G env n ρ e d₁) (h' : Op1 G (unaryOp op) d₁ d) : Ev G env n ρ (.UnaryOp op e pos) d := by
  constructor
  intro A Z H s R S
  show wpAny _ _ (do let v ← eval e env; standAt pos; holding [v] (unaryOp op v)) _ _ _
  exact wpAny_bind (wp_seq (h.run A Z H s R S) fun v s₁ ⟨Z₁, x₁, r₁⟩ => wpAny_bind (wpAny_standAt (wpAny_holding (wp_seq (h'.run A Z₁ s₁ v (R.less (Nat.zero_le _)) (S.ext x₁).bs r₁) fun _ _ ⟨Z₂, x₂, r₂⟩ => ⟨Z₂, x₁.trans x₂, r₂⟩))))

end
end Mine
end
section
open PySem PySem.W PyProof.Rows
set_option linter.unusedVariables false
namespace Mine

section
variable {G : Gnd} {env : Env} {Z Z' H : Zf} {ρ ρ' : Loc} {s s' : Shared} {A : Around} {E : Value → Shared → Prop} {n : Nat} {pos apos : Pos}

/-- how a block ends -/
inductive Fl where
  | next | brk | cont
  | ret (d : D)

inductive FlRep (G : Gnd) (Z : Zf) : Flow → Fl → Prop
  | next : FlRep G Z .next .next
  | brk : FlRep G Z .brk .brk
  | cont : FlRep G Z .cont .cont
  | ret {v : Value} {d : D} : Rep G Z v d → FlRep G Z (.ret v) (.ret d)
theorem FlRep.mono {f : Flow} {fl : Fl} (hz : Zle Z Z') (h : FlRep G Z f fl) : FlRep G Z' f fl := by
  cases h with
  | next => exact .next
  | brk => exact .brk
  | cont => exact .cont
  | ret r => exact .ret (r.mono hz)

def ExPost (G : Gnd) (env : Env) (Z H : Zf) (Φ : Fl → Loc → Prop) (f : Flow) (s' : Shared) : Prop := ∃ Z' ρ' fl, Zle Z Z' ∧ St G env Z' H ρ' s' ∧ FlRep G Z' f fl ∧ Φ fl ρ'
/-- a statement -/
structure Ex (G : Gnd) (env : Env) (n : Nat) (ρ : Loc) (st : Stmt) (Φ : Fl → Loc → Prop) : Prop where
  run : ∀ A Z H s, Room n A → St G env Z H ρ s → wpAny (model G.prog G.w) A (exec st env) (ExPost G env Z H Φ) (fun _ _ => False) s
/-- statements in a row -/
structure Exs (G : Gnd) (env : Env) (n : Nat) (ρ : Loc) (sts : List Stmt) (Φ : Fl → Loc → Prop) : Prop where
  run : ∀ A Z H s, Room n A → St G env Z H ρ s → wpAny (model G.prog G.w) A (execs sts env) (ExPost G env Z H Φ) (fun _ _ => False) s

def Then (Φ : Fl → Loc → Prop) (K : Loc → Prop) : Fl → Loc → Prop
  | .next, ρ => K ρ
  | fl, ρ => Φ fl ρ

theorem exs_nil {Φ : Fl → Loc → Prop} (h : Φ .next ρ) : Exs G env n ρ [] Φ := Exs.mk fun A Z H s _ S => wpAny_execs_nil ⟨Z, ρ, .next, Zle.same, S, .next, h⟩
theorem exs_cons {st : Stmt} {rest : List Stmt} {Φ : Fl → Loc → Prop} (h : Ex G env n ρ st (Then Φ fun ρ' => Exs G env n ρ' rest Φ)) : Exs G env n ρ (st :: rest) Φ := by
  constructor
  intro A Z H s R S
  refine wpAny_execs_cons (wp_seq (h.run A Z H s R S) fun f s' ⟨Z', ρ', fl, le, S', hf, hΦ⟩ => ?_)
  cases hf with
  | next => exact wp_seq (hΦ.run A Z' H s' R S') fun f s'' ⟨Z'', ρ'', fl, le', S'', hf, h⟩ => ⟨Z'', ρ'', fl, le.trans le', S'', hf, h⟩
  | brk => exact ⟨Z', ρ', _, le, S', .brk, hΦ⟩
  | cont => exact ⟨Z', ρ', _, le, S', .cont, hΦ⟩
  | ret r => exact ⟨Z', ρ', _, le, S', .ret r, hΦ⟩
theorem exs_mono {sts : List Stmt} {Φ Ψ : Fl → Loc → Prop} (h : Exs G env n ρ sts Φ) (hΦ : ∀ fl ρ', Φ fl ρ' → Ψ fl ρ') : Exs G env n ρ sts Ψ :=
  Exs.mk fun A Z H s R S => wp_seq (h.run A Z H s R S) fun _ _ ⟨Z', ρ', fl, le, S', hf, h⟩ => ⟨Z', ρ', fl, le, S', hf, hΦ _ _ h⟩
theorem ex_assign {x : Str} {p : Pos} {e : PySem.Expr} {d : D} {Φ : Fl → Loc → Prop} (h : Ev G env n ρ e d) (hc : Can env x) (hs : swapsWith e (some (.Name x p)) pos.line env = pure false) (k : Φ .next (upd ρ x (.val d))) :
    Ex G env n ρ (.Assign [.Name x p] e pos) Φ :=
  Ex.mk fun A Z H s R S => wpAny_Assign_Name (wp_seq (h.run A Z H s R S) fun v s₁ ⟨Z₁, x₁, r₁⟩ => wp_seq (st_store (S.ext x₁) r₁ hc) fun _ s₂ S₂ => ⟨Z₁, _, _, x₁.le, S₂, .next, k⟩) hs

theorem ex_return {e : PySem.Expr} {d : D} {Φ : Fl → Loc → Prop} (h : Ev G env n ρ e d) (k : Φ (.ret d) ρ) : Ex G env n ρ (.Return (some e) pos) Φ :=
  Ex.mk fun A Z H s R S => wpAny_Return_some (wp_seq (h.run A Z H s R S) fun v s₁ ⟨Z₁, x₁, r₁⟩ => ⟨Z₁, _, _, x₁.le, S.ext x₁, .ret r₁, k⟩)
theorem ex_if {t : PySem.Expr} {body orelse : List Stmt} {c : Bool} {Φ : Fl → Loc → Prop} (h : Tst G env n ρ t c) (h₁ : c = true → Exs G env n ρ body Φ) (h₂ : c = false → Exs G env n ρ orelse Φ) : Ex G env n ρ (.If t body orelse pos) Φ :=
  Ex.mk fun A Z H s R S => wpAny_If (wp_seq (h.run A Z H s R S) fun c' s' ⟨e, x⟩ => by
    subst e
    cases c' with
    | true => exact (h₁ rfl).run A Z H s' R (S.ext x)
    | false => exact (h₂ rfl).run A Z H s' R (S.ext x))

/-- x op= e -/
theorem ex_aug {x : Str} {p : Pos} {op : Operator} {e : PySem.Expr} {d₀ d₁ d : D} {Φ : Fl → Loc → Prop} (h₀ : ρ.lookup x = some (.val d₀)) (h : Ev G env n ρ e d₁) (ho : Op2 G (inplaceOp op) d₀ d₁ d) (hc : Can env x) (k : Φ .next (upd ρ x (.val d))) :
    Ex G env n ρ (.AugAssign (.Name x p) op e pos) Φ := by
  constructor
  intro A Z H s R S
  refine wpAny_AugAssign_Name ?_
  obtain ⟨v, hv, r⟩ := S.vars x d₀ h₀
  have go : wpAny (model G.prog G.w) A (eval e env) (fun v₁ s₂ => wpAny (model G.prog G.w) A (inplaceOp op v v₁) (fun r s₃ => wpAny (model G.prog G.w) A (storeName env x r) (fun _ => ExPost G env Z H Φ .next) (fun _ _ => False) s₃) (fun _ _ => False) s₂) (fun _ _ => False) s :=
    wp_seq (h.run A Z H s R S) fun v₁ s₂ ⟨Z₁, x₁, r₁⟩ => wp_seq (ho.run A Z₁ s₂ v v₁ (R.less (Nat.zero_le _)) (S.ext x₁).bs (r.mono x₁.le) r₁) fun v₂ s₃ ⟨Z₂, x₂, r₂⟩ =>
      wp_seq (st_store ((S.ext x₁).ext x₂) r₂ hc) fun _ s₄ S₄ => ⟨Z₂, _, _, x₁.le.trans x₂.le, S₄, .next, k⟩
  rcases hv with ⟨k, m, n, e⟩ | ⟨k, c, e, n⟩
  · exact wpAny_loadName_local S.fk k n e go
  · rcases k with k | k
    · exact wpAny_loadName_cell S.fk k e n go
    · exact wpAny_loadName_free S.fk k.1 e n go k.2

/-- an object more is held -/
theorem St.hold {I : Addr} {o : Obj} (S : St G env Z H ρ s) (x : Ext Z s Z s') (hI : s.heap.get? I = none) (ho : s'.heap.get? I = some o) :
    St G env Z (Zadd H I o) ρ s' ∧ G.base.get? I = none ∧ H I = none ∧ Z I = none ∧ ∀ y c, env.cells.lookup y = some c → c ≠ I := by
  have S' := S.ext x
  have old : ∀ a ob, s.heap.get? a = some ob → a ≠ I := fun a ob h q => by rw [q, hI] at h; cases h
  have hH : H I = none := by
    cases q : H I with
    | none => rfl
    | some ob => exact absurd rfl (old I ob (S.hin I ob q))
  have hZ : Z I = none := by
    cases q : Z I with
    | none => rfl
    | some ob => exact absurd rfl (old I ob (S.zin I ob q))
  have hB : G.base.get? I = none := by
    cases q : G.base.get? I with
    | none => rfl
    | some ob => exact absurd rfl (old I ob (S.keepBase I ob q))
  have hC : ∀ y c, env.cells.lookup y = some c → c ≠ I := fun y c e => by
    obtain ⟨_, h1, h2⟩ := S.cells y c e
    cases hf : env.func.isSome with
    | true => obtain ⟨_, _, v, ob, hob, _⟩ := h1 hf; exact old c ob hob
    | false => obtain ⟨ob, hob⟩ := h2 hf; exact old c ob (S.hin c ob hob)
  have le := Zadd.le (o := o) hH
  have ne : ∀ b, b ≠ I → Zadd H I o b = H b := fun b hb => if_neg hb
  obtain ⟨oL, _, _, hoL, _⟩ := S.ns.choose_spec
  refine ⟨⟨S'.fk, S'.gl, S'.bl, S'.gens, S'.os, S'.tk, S'.zin, fun a ob h => ?_, fun a ob h => ?_, fun a ob h => (S'.bas a ob h).elim .inl (fun h => .inr (le _ _ h)), S'.ns, S'.lz, ?_, fun y c e => ?_, S'.inj, S'.vars, ?_⟩, hB, hH, hZ, hC⟩
  · by_cases q : a = I
    · subst q; rw [Zadd.self] at h; cases h; exact ho
    · rw [ne a q] at h; exact S'.hin a ob h
  · rw [ne a fun q => by rw [q, hZ] at h; cases h]; exact S'.dj a ob h
  · rw [ne _ (old _ _ hoL)]; exact S'.lh
  · obtain ⟨h0, h1, h2⟩ := S'.cells y c e
    refine ⟨h0, fun hf => ?_, fun hf => ?_⟩
    · obtain ⟨a, b, c'⟩ := h1 hf
      exact ⟨a, by rw [ne _ (hC y c e)]; exact b, c'⟩
    · obtain ⟨ob, h⟩ := h2 hf
      exact ⟨ob, le _ _ h⟩
  · obtain ⟨oa, hi, h⟩ := S.owns
    obtain ⟨oa', hi', h'⟩ := S'.owns
    refine ⟨oa, hi, fun y ds e => ?_⟩
    obtain ⟨g1, g2, g3, g4, g5, vs, k, g6, g7⟩ := h y ds e
    exact ⟨g1.keeps x.keep, g2, by rw [ne _ (old _ _ g6)]; exact g3, g4, g5, vs, k, x.keep _ _ g6, g7⟩

/-- a held object is changed -/
theorem St.turn {I : Addr} {o o' : Obj} {h' : Heap} {t : Nat} (S : St G env Z (Zadd H I o) ρ s) (hB : G.base.get? I = none) (hC : ∀ y c, env.cells.lookup y = some c → c ≠ I)
    (hk : ∀ b ob, b ≠ I → s.heap.get? b = some ob → h'.get? b = some ob) (ho : h'.get? I = some o') (ht : s.toks ≤ t) : St G env Z (Zadd H I o') ρ { s with heap := h', toks := t } := by
  have self : Zadd H I o I = some o := Zadd.self
  have ne : ∀ b, b ≠ I → Zadd H I o' b = Zadd H I o b := fun b hb => by unfold Zadd; rw [if_neg hb, if_neg hb]
  have zI : ∀ a ob, Z a = some ob → a ≠ I := fun a ob h q => by have := S.dj a ob h; rw [q, self] at this; cases this
  have nI : ∀ a, Zadd H I o a = none → a ≠ I := fun a h q => by rw [q, self] at h; cases h
  have lI := nI _ S.lh
  have has : ∀ y v, Has env s.heap y v → Has env h' y v := fun y v q => by
    rcases q with ⟨k, m, ⟨ob, es, ep, e1, e2⟩, e⟩ | ⟨k, c, e, ob, e1, e2⟩
    · exact .inl ⟨k, m, ⟨ob, es, ep, hk _ _ lI e1, e2⟩, e⟩
    · exact .inr ⟨k, c, e, ob, hk _ _ (hC y c e) e1, e2⟩
  refine ⟨S.fk, S.gl, S.bl, S.gens, S.os, Nat.lt_of_lt_of_le S.tk ht, fun a ob h => hk _ _ (zI a ob h) (S.zin a ob h), fun a ob h => ?_, fun a ob h => ?_, fun a ob h => ?_, ?_, S.lz, ?_, fun y c e => ?_, S.inj, fun y d e => ?_, ?_⟩
  · by_cases q : a = I
    · subst q; rw [Zadd.self] at h; cases h; exact ho
    · rw [ne a q] at h; exact hk _ _ q (S.hin a ob h)
  · rw [ne a (zI a ob h)]; exact S.dj a ob h
  · refine (S.bas a ob h).elim .inl fun q => .inr ?_
    rw [ne a fun z => by rw [z, hB] at h; cases h]; exact q
  · obtain ⟨m, ob, es, ep, e1, e2⟩ := S.ns; exact ⟨m, ob, es, ep, hk _ _ lI e1, e2⟩
  · rw [ne _ lI]; exact S.lh
  · obtain ⟨h0, h1, h2⟩ := S.cells y c e
    refine ⟨h0, fun hf => ?_, fun hf => ?_⟩
    · obtain ⟨a, b, v, ob, e1, e2⟩ := h1 hf
      exact ⟨a, by rw [ne _ (hC y c e)]; exact b, v, ob, hk _ _ (hC y c e) e1, e2⟩
    · obtain ⟨ob, h⟩ := h2 hf
      exact ⟨ob, by rw [ne _ (hC y c e)]; exact h⟩
  · obtain ⟨v, h, r⟩ := S.vars y d e; exact ⟨v, has y v h, r⟩
  · obtain ⟨oa, hi, h⟩ := S.owns
    refine ⟨oa, hi, fun y ds e => ?_⟩
    obtain ⟨g1, g2, g3, g4, g5, vs, k, g6, g7⟩ := h y ds e
    exact ⟨has _ _ g1, g2, by rw [ne _ (nI _ g3)]; exact g3, g4, g5, vs, k, hk _ _ (nI _ g3) g6, g7⟩

/-- it is held no more -/
theorem St.unhold {I : Addr} {o : Obj} (S : St G env Z (Zadd H I o) ρ s) (hB : G.base.get? I = none) (hC : ∀ y c, env.cells.lookup y = some c → c ≠ I) (hH : H I = none) : St G env Z H ρ s := by
  have self : Zadd H I o I = some o := Zadd.self
  have le := Zadd.le (o := o) hH
  have ne : ∀ b, b ≠ I → Zadd H I o b = H b := fun b hb => if_neg hb
  have none_of : ∀ a, Zadd H I o a = none → H a = none := fun a h => by
    cases q : H a with
    | none => rfl
    | some ob => rw [le _ _ q] at h; cases h
  refine ⟨S.fk, S.gl, S.bl, S.gens, S.os, S.tk, S.zin, fun a ob h => S.hin a ob (le _ _ h), fun a ob h => none_of a (S.dj a ob h), fun a ob h => ?_, S.ns, S.lz, none_of _ S.lh, fun y c e => ?_, S.inj, S.vars, ?_⟩
  · refine (S.bas a ob h).elim .inl fun q => .inr ?_
    rwa [ne a fun z => by rw [z, hB] at h; cases h] at q
  · obtain ⟨h0, h1, h2⟩ := S.cells y c e
    refine ⟨h0, fun hf => ?_, fun hf => ?_⟩
    · obtain ⟨a, b, v⟩ := h1 hf
      exact ⟨a, none_of _ b, v⟩
    · obtain ⟨ob, h⟩ := h2 hf
      rw [ne _ (hC y c e)] at h
      exact ⟨ob, h⟩
  · obtain ⟨oa, hi, h⟩ := S.owns
    refine ⟨oa, hi, fun y ds e => ?_⟩
    obtain ⟨g1, g2, g3, g4⟩ := h y ds e
    exact ⟨g1, g2, none_of _ g3, g4⟩

/-- a held object is let go, whatever becomes of it -/
theorem St.drop {I : Addr} {o : Obj} {h' : Heap} {t : Nat} (S : St G env Z (Zadd H I o) ρ s) (hB : G.base.get? I = none) (hC : ∀ y c, env.cells.lookup y = some c → c ≠ I) (hH : H I = none)
    (hk : ∀ b ob, b ≠ I → s.heap.get? b = some ob → h'.get? b = some ob) (ht : s.toks ≤ t) : St G env Z H ρ { s with heap := h', toks := t } := by
  have self : Zadd H I o I = some o := Zadd.self
  have le := Zadd.le (o := o) hH
  have ne : ∀ b, b ≠ I → Zadd H I o b = H b := fun b hb => if_neg hb
  have none_of : ∀ a, Zadd H I o a = none → H a = none := fun a h => by
    cases q : H a with
    | none => rfl
    | some ob => rw [le _ _ q] at h; cases h
  have zI : ∀ a ob, Z a = some ob → a ≠ I := fun a ob h q => by have := S.dj a ob h; rw [q, self] at this; cases this
  have nI : ∀ a, Zadd H I o a = none → a ≠ I := fun a h q => by rw [q, self] at h; cases h
  have hI : ∀ a ob, H a = some ob → a ≠ I := fun a ob h q => by rw [q, hH] at h; cases h
  have lI := nI _ S.lh
  have has : ∀ y v, Has env s.heap y v → Has env h' y v := fun y v q => by
    rcases q with ⟨k, m, ⟨ob, es, ep, e1, e2⟩, e⟩ | ⟨k, c, e, ob, e1, e2⟩
    · exact .inl ⟨k, m, ⟨ob, es, ep, hk _ _ lI e1, e2⟩, e⟩
    · exact .inr ⟨k, c, e, ob, hk _ _ (hC y c e) e1, e2⟩
  refine ⟨S.fk, S.gl, S.bl, S.gens, S.os, Nat.lt_of_lt_of_le S.tk ht, fun a ob h => hk _ _ (zI a ob h) (S.zin a ob h), fun a ob h => hk _ _ (hI a ob h) (S.hin a ob (le _ _ h)), fun a ob h => none_of a (S.dj a ob h), fun a ob h => ?_, ?_, S.lz, none_of _ S.lh, fun y c e => ?_, S.inj, fun y d e => ?_, ?_⟩
  · refine (S.bas a ob h).elim .inl fun q => .inr ?_
    rwa [ne a fun z => by rw [z, hB] at h; cases h] at q
  · obtain ⟨m, ob, es, ep, e1, e2⟩ := S.ns; exact ⟨m, ob, es, ep, hk _ _ lI e1, e2⟩
  · obtain ⟨h0, h1, h2⟩ := S.cells y c e
    refine ⟨h0, fun hf => ?_, fun hf => ?_⟩
    · obtain ⟨a, b, v, ob, e1, e2⟩ := h1 hf
      exact ⟨a, none_of _ b, v, ob, hk _ _ (hC y c e) e1, e2⟩
    · obtain ⟨ob, h⟩ := h2 hf
      rw [ne _ (hC y c e)] at h
      exact ⟨ob, h⟩
  · obtain ⟨v, h, r⟩ := S.vars y d e; exact ⟨v, has y v h, r⟩
  · obtain ⟨oa, hi, h⟩ := S.owns
    refine ⟨oa, hi, fun y ds e => ?_⟩
    obtain ⟨g1, g2, g3, g4, g5, vs, k, g6, g7⟩ := h y ds e
    exact ⟨has _ _ g1, g2, none_of _ g3, g4, g5, vs, k, hk _ _ (nI _ g3) g6, g7⟩

end
end Mine
end
section
open PySem PySem.W PyProof.Rows
set_option linter.unusedVariables false
namespace Mine

section
variable {G : Gnd} {env : Env} {Z Z' H : Zf} {ρ ρ' : Loc} {s s' : Shared} {A : Around} {E : Value → Shared → Prop} {n : Nat} {pos apos : Pos}

def ownsTuples (T : String) : Bool := ["enumerate", "zip", "dict_itemiterator", "dict_reverseitemiterator", "odict_iterator", "itertools.zip_longest", "itertools.pairwise"].contains T

/-- an iterator that is new, and the data that it will give -/
def ItrAt (G : Gnd) (Z : Zf) (ds : List D) (s s' : Shared) (it : Value) : Prop :=
  ∃ (I : Addr) (fp : List Addr) (P : Nat → Value → Prop) (W : Nat → Heap → Prop), it = .ref I ∧ Ext Z s Z s' ∧ s.heap.get? I = none ∧ (∀ A' : Around, A'.handled = none → Walks G.prog G.w A' I fp [I] ds.length P W) ∧
    (∀ b ∈ fp, b = I ∨ ∃ o, Z b = some o) ∧ W 0 s'.heap ∧ (∀ i h, W i h → ∃ o T, h.get? I = some o ∧ o.cls = .type T ∧ ownsTuples T = false) ∧ (∀ i v, P i v → ∃ d, ds[i]? = some d ∧ Rep G Z v d)
structure Itr (G : Gnd) (d : D) (ds : List D) : Prop where
  run : ∀ A Z s v, Room 0 A → Bs G Z s → Rep G Z v d → wpAny (model G.prog G.w) A (pyIter v) (fun it s' => ItrAt G Z ds s s' it) (fun _ _ => False) s

/-- a target takes a datum -/
structure Asg (G : Gnd) (env : Env) (tgt : PySem.Expr) (d : D) (ρ ρ' : Loc) : Prop where
  run : ∀ A Z H s v, Room 0 A → St G env Z H ρ s → Rep G Z v d → wpAny (model G.prog G.w) A (assign tgt env v) (fun _ s' => ∃ Z', Zle Z Z' ∧ St G env Z' H ρ' s') (fun _ _ => False) s
theorem asg_name {x : Str} {p : Pos} {d : D} (hc : Can env x) : Asg G env (.Name x p) d ρ (upd ρ x (.val d)) :=
  Asg.mk fun A Z H s v R S r => wpAny_assign_Name (wp_seq (st_store S r hc) fun _ _ S' => ⟨Z, Zle.same, S'⟩)

theorem wp_letOwned {tgt : PySem.Expr} {I : Addr} {v : Value} {o : Obj} {T : String} {M : Model} {Q : Unit → Shared → Prop} (ho : s.heap.get? I = some o) (hc : o.cls = .type T) (hT : ownsTuples T = false) (h : Q () s) :
    wpAny M A (letOwnedTupleGo tgt (.ref I) v) Q E s := by
  have go : wpAny M A (match (Value.ref I, v) with
    | (.ref r, .ref a) => do
      let o ← load r
      match o.cls, o.data with
      | .type n, .fields vs =>
        if ["enumerate", "zip", "dict_itemiterator", "dict_reverseitemiterator", "odict_iterator", "itertools.zip_longest", "itertools.pairwise"].contains n && vs[0]? == some (rawInt a) then
          rule "for.unpacks-the-owned-tuple"
          updateField r 0 .none
      | _, _ => pure ()
    | _ => pure ()) Q E s := by
    cases v with
    | ref a =>
      refine wpAny_bind (wpAny_load ho ?_)
      rw [hc]
      cases o.data <;> first | exact wpAny_pure h | skip
      rename_i vs
      unfold ownsTuples at hT
      dsimp only
      rw [hT]
      exact wpAny_pure h
    | _ => exact wpAny_pure h
  unfold letOwnedTupleGo
  cases tgt <;> first | exact wpAny_pure h | exact go

def LoopPost (Φ : Fl → Loc → Prop) (K : Loc → Prop) : Fl → Loc → Prop
  | .next, ρ => K ρ
  | .cont, ρ => K ρ
  | .brk, ρ => Φ .next ρ
  | .ret d, ρ => Φ (.ret d) ρ

theorem ex_for {tgt iter : PySem.Expr} {body : List Stmt} {d : D} {ds : List D} {Φ : Fl → Loc → Prop} (P : Nat → Loc → Prop) (h : Ev G env n ρ iter d) (hi : Itr G d ds) (h0 : P 0 ρ)
    (turn : ∀ i d ρ', ds[i]? = some d → P i ρ' → ∃ ρ'', Asg G env tgt d ρ' ρ'' ∧ Exs G env n ρ'' body (LoopPost Φ (P (i + 1))))
    (done : ∀ ρ', P ds.length ρ' → Φ .next ρ') (hs : ∀ x, foldedSetIterable iter env x = pure x) : Ex G env n ρ (.For tgt iter body [] pos) Φ := by
  constructor
  intro A Z H s R S
  refine wpAny_For (wp_seq (h.run A Z H s R S) fun v s₁ ⟨Z₁, x₁, r₁⟩ => wp_seq (hi.run A Z₁ s₁ v (R.less (Nat.zero_le _)) (S.ext x₁).bs r₁) fun it s₂ ⟨I, fp, P', W, e, x₂, hI, hW, hfp, hW0, hcls, hP⟩ => ?_) hs
  subst e
  have W₀ := hW A R.handled
  obtain ⟨o₂, _, ho₂, _⟩ := hcls 0 _ hW0
  obtain ⟨S₂, hB, hH, hZ, hC⟩ := (S.ext x₁).hold x₂ hI ho₂
  refine codeAny_forLoop_any (fun m s => ∃ i Zc ρc o, m = ds.length - i ∧ i ≤ ds.length ∧ Zle Z₁ Zc ∧ St G env Zc (Zadd H I o) ρc s ∧ W i s.heap ∧ P i ρc) (fun m s hm => ?_) ds.length ⟨0, Z₁, ρ, o₂, rfl, Nat.zero_le _, Zle.same, S₂, hW0, h0⟩
  obtain ⟨i, Zc, ρc, o, rfl, hle, lec, Sc, hWi, hPi⟩ := hm
  by_cases hlt : i < ds.length
  · refine wpAny_with_toks (Nat.le_refl s.toks) (W₀.item i s _ _ hlt hWi fun v h' tk pv hW' hk tok => ?_)
    obtain ⟨d', hd', rv⟩ := hP i v pv
    obtain ⟨o', T, ho', hcT, hT⟩ := hcls _ _ hW'
    have St' := Sc.turn (t := tk) hB hC (fun b ob hb e => hk b ob (by simpa using hb) e) ho' tok
    refine wp_letOwned (s := { s with heap := h', toks := tk }) ho' hcT hT ?_
    obtain ⟨ρ'', ha, hb⟩ := turn i d' ρc hd' hPi
    refine wp_seq (ha.run A Zc _ _ v (R.less (Nat.zero_le _)) St' (rv.mono lec)) fun _ s₄ ⟨Z₄, le₄, S₄⟩ => ?_
    refine wp_seq (hb.run A Z₄ _ s₄ R S₄) fun f s₅ ⟨Z₅, ρ₅, fl, le₅, S₅, hf, hΦ⟩ => ?_
    have les : Zle Z Z₅ := x₁.le.trans (lec.trans (le₄.trans le₅))
    have nx : P (i + 1) ρ₅ → ∃ m, m < ds.length - i ∧ ∃ i Zc ρc o, m = ds.length - i ∧ i ≤ ds.length ∧ Zle Z₁ Zc ∧ St G env Zc (Zadd H I o) ρc s₅ ∧ W i s₅.heap ∧ P i ρc := fun hp => by
      refine ⟨ds.length - (i + 1), by omega, i + 1, Z₅, ρ₅, o', rfl, by omega, lec.trans (le₄.trans le₅), S₅, W₀.frame _ _ _ hW' fun b hb ob e => ?_, hp⟩
      rcases hfp b hb with rfl | ⟨oz, hz⟩
      · have e' : h'.get? b = some ob := e
        rw [ho'] at e'; cases e'
        exact S₅.hin _ _ Zadd.self
      · have e1 := St'.zin b oz (lec b oz hz)
        have e' : h'.get? b = some ob := e
        have e2 : h'.get? b = some oz := e1
        rw [e'] at e2; cases e2
        exact S₅.zin _ _ (le₅ _ _ (le₄ _ _ (lec _ _ hz)))
    cases hf with
    | next => exact nx hΦ
    | cont => exact nx hΦ
    | brk => exact ⟨Z₅, ρ₅, .next, les, S₅.unhold hB hC hH, .next, hΦ⟩
    | ret r => exact ⟨Z₅, ρ₅, .ret _, les, S₅.unhold hB hC hH, .ret r, hΦ⟩
  · have hlen : i = ds.length := by omega
    subst hlen
    refine wpAny_with_toks (Nat.le_refl s.toks) (W₀.done s _ _ hWi fun h' tk hk tok => ?_)
    refine wpAny_execs_nil ?_
    exact ⟨Zc, ρc, .next, x₁.le.trans lec, Sc.drop (t := tk) hB hC hH (fun b ob hb e => hk b ob (by simpa using hb) e) tok, .next, done _ hPi⟩

/-- the text's def at an address -/
structure DefAt (G : Gnd) (a : Addr) (fd : FuncData) (body : List Stmt) : Prop where
  obj : ∃ o, G.K.lookup a = some o ∧ o.data = .func fd
  code : codeIn G.K fd.code fd.qualname = true
  body : fd.body = .stmts body
  closure : fd.closure = []
  gl : fd.globals = mainGlobals
  bl : fd.builtins = builtinsNs
  co : fd.scope.isCoroutine = false
  gen : fd.scope.isGenerator = false
  kind : fd.scope.kind = .function

theorem DefAt.keep {a : Addr} {fd : FuncData} {body : List Stmt} (D : DefAt G a fd body) : keepIn G.K (.ref a) = true := by
  obtain ⟨⟨oc, od, odt, osl⟩, h, e⟩ := D.obj
  unfold keepIn
  cases e
  simp only [h]

/-- the names that the parameters are, at the start -/
def startLoc : List Str → List D → Loc
  | x :: xs, d :: ds => (x, .val d) :: startLoc xs ds
  | _, _ => []

end
end Mine
end
section
open PySem PySem.W PyProof.Rows
set_option linter.unusedVariables false
namespace Mine

section
variable {G : Gnd} {env : Env} {Z Z' H : Zf} {ρ ρ' : Loc} {s s' : Shared} {A : Around} {E : Value → Shared → Prop} {n : Nat} {pos apos : Pos}

theorem bindL_skip {k : Str → Option NameKind} {x : Str} : ∀ {bs : List (Str × Value)} {m : Str → Option Value}, x ∉ bs.map (·.1) → bindL k bs m x = m x
  | [], _, _ => rfl
  | (y, v) :: r, m, h => by
    simp only [List.map_cons, List.mem_cons, not_or] at h
    unfold bindL
    rw [bindL_skip h.2]
    split
    · exact if_neg h.1
    · rfl
theorem bindL_get {k : Str → Option NameKind} {x : Str} {v : Value} (hk : k x = some .local) : ∀ {bs : List (Str × Value)} {m : Str → Option Value}, (bs.map (·.1)).Nodup → (x, v) ∈ bs → bindL k bs m x = some v
  | (y, w) :: r, m, hn, h => by
    simp only [List.map_cons, List.nodup_cons] at hn
    unfold bindL
    rcases List.mem_cons.mp h with e | h
    · cases e
      rw [bindL_skip hn.1, if_pos hk, if_pos rfl]
    · exact bindL_get hk hn.2 h
theorem bindC_skip {k : Str → Option NameKind} {x : Str} : ∀ {bs : List (Str × Value)} {m : Str → Option Value}, x ∉ bs.map (·.1) → bindC k bs m x = m x
  | [], _, _ => rfl
  | (y, v) :: r, m, h => by
    simp only [List.map_cons, List.mem_cons, not_or] at h
    unfold bindC
    rw [bindC_skip h.2]
    split
    · rfl
    · exact if_neg h.1
theorem bindC_get {k : Str → Option NameKind} {x : Str} {v : Value} (hk : k x = some .cell) : ∀ {bs : List (Str × Value)} {m : Str → Option Value}, (bs.map (·.1)).Nodup → (x, v) ∈ bs → bindC k bs m x = some v
  | (y, w) :: r, m, hn, h => by
    simp only [List.map_cons, List.nodup_cons] at hn
    unfold bindC
    rcases List.mem_cons.mp h with e | h
    · cases e
      rw [bindC_skip hn.1, if_neg (by rw [hk]; decide), if_pos rfl]
    · exact bindC_get hk hn.2 h

theorem startLoc_lookup {b : B} : ∀ {xs : List Str} {ds : List D} {vs : List Value} {x : Str}, RepAll G Z vs ds → xs.length = ds.length → (startLoc xs ds).lookup x = some b → ∃ v d, b = .val d ∧ (x, v) ∈ xs.zip vs ∧ Rep G Z v d
  | [], _, _, _, _, _, h => by simp [startLoc] at h
  | y :: xs, [], _, _, _, hl, _ => by simp at hl
  | y :: xs, d :: ds, v :: vs, x, .cons r rs, hl, h => by
    unfold startLoc at h
    rw [List.lookup_cons] at h
    by_cases q : x = y
    · subst q
      simp at h
      subst h
      exact ⟨v, d, rfl, by simp, r⟩
    · rw [beq_eq_false_iff_ne.mpr q] at h
      obtain ⟨v', d', e, hm, r'⟩ := startLoc_lookup rs (by simpa using hl) h
      exact ⟨v', d', e, by simp [hm], r'⟩

/-- what a call leaves, once its frame is gone -/
theorem ext_of_frame (b : Bs G Z s) (hZ' : Zle Z Z') (S : St G env Z' (fun a => if Z a = none then s.heap.get? a else none) ρ s') (ht : s.toks ≤ s'.toks) : Ext Z s Z' s' where
  le := hZ'
  keep := fun a o h => by
    cases q : Z a with
    | some o' =>
      have := b.zin a o' q
      rw [h] at this; cases this
      exact S.zin _ _ (hZ' _ _ q)
    | none => exact S.hin a o (by simp [q, h])
  zin := S.zin
  new := fun a o h => by
    cases q : Z a with
    | some o' => left; have := hZ' _ _ q; rw [h] at this; cases this; rfl
    | none =>
      right
      have := S.dj a o h
      simpa [q] using this
  gens := S.gens.trans b.gens.symm
  os := S.os.trans b.os.symm
  tk := ht

def RetPost (d : D) : Fl → Loc → Prop
  | .ret d', _ => d' = d
  | .next, _ => d = .none
  | _, _ => False

theorem fn_of {a : Addr} {fd : FuncData} {body : List Stmt} {xs : List Str} {ds : List D} {d : D} (D : DefAt G a fd body) (hb : ∀ vs : List Value, vs.length = xs.length → bindArgs fd ⟨vs, []⟩ = pure (xs.zip vs)) (hlen : xs.length = ds.length)
    (hx : ∀ x ∈ xs, fd.scope.names.lookup x = some .local ∨ (fd.scope.names.lookup x = some .cell ∧ ∀ k, ((cellsFrom k fd.scope.names []).lookup x).isSome = true)) (hnd : xs.Nodup)
    (h : ∀ L, Exs G (callEnvC fd L a) n (startLoc xs ds) body (RetPost d)) : Fn G (n + 1) a ds d := by
  constructor
  intro A Z s vs R b r
  obtain ⟨o, ho, hd⟩ := D.obj
  have hvl : vs.length = xs.length := r.length.trans hlen.symm
  have hmap : (xs.zip vs).map (·.1) = xs := by rw [List.map_fst_zip]; omega
  have hnd' : ((xs.zip vs).map (·.1)).Nodup := by rw [hmap]; exact hnd
  refine wp_tok ?_
  refine wpAny_call ?_
  refine codeAny_call_function (by have := R.depth; omega) (b.X _ _ ho) hd D.co D.gen D.body (codeRec_of b.X D.code) ?_
  rw [hb vs hvl, D.closure]
  refine wpAny_pure (wpAny_with_toks (Nat.le_refl s.toks) (wpAny_newFunctionEnv_cells D.kind (fun x hm => ?_) fun env he s₁ x tok => ?_))
  · have : x.1 ∈ xs := by rw [← hmap]; exact List.mem_map_of_mem hm
    rcases hx _ this with q | ⟨q, q'⟩
    · exact .inl q
    · exact .inr ⟨q, q' _⟩
  subst he
  have hcall := x.toInCall
  obtain ⟨h₁, tk, rfl, hk₁⟩ := x.done
  refine ⟨b.nolimit.keeps hcall.keep, codeAny_func ?_⟩
  have HZ : ∀ a' o', (if Z a' = none then s.heap.get? a' else none) = some o' → Z a' = none ∧ s.heap.get? a' = some o' := fun a' o' e => by
    split at e
    · rename_i q; exact ⟨q, e⟩
    · cases e
  have hLnone : s.heap.get? s.heap.objs.size = none := get?_size_none _
  have nz : ∀ c, s.heap.objs.size ≤ c → s.heap.get? c = none := fun c hc => by
    cases q : s.heap.get? c with
    | none => rfl
    | some ob => exact absurd (Heap.lt_size q) (Nat.not_lt.mpr hc)
  have nzZ : ∀ c, s.heap.objs.size ≤ c → Z c = none := fun c hc => by
    cases q : Z c with
    | none => rfl
    | some ob => have := b.zin c ob q; rw [nz c hc] at this; cases this
  have S₁ : St G (callEnvC fd s.heap.objs.size a) Z (fun a => if Z a = none then s.heap.get? a else none) (startLoc xs ds) { s with heap := h₁, toks := tk } := by
    refine ⟨D.kind, D.gl, D.bl, b.gens, b.os, Nat.lt_of_lt_of_le b.tk tok, fun a' o' e => hk₁ _ _ (b.zin _ _ e), fun a' o' e => hk₁ _ _ (HZ _ _ e).2, fun a' o' e => by simp [e], fun a' o' e => ?_, ⟨_, hcall.ns⟩, nzZ _ (Nat.le_refl _), ?_, fun y c e => ⟨?_, fun _ => ?_, fun hf => by cases hf⟩, ?_, fun y d' e => ?_, ?_⟩
    · have e' := b.bas _ _ e
      cases q : Z a' with
      | none => right; simp [q, e']
      | some ob => left; have := b.zin _ _ q; rw [e'] at this; cases this; rfl
    · show (if Z s.heap.objs.size = none then s.heap.get? s.heap.objs.size else none) = none
      rw [nzZ _ (Nat.le_refl _), if_pos rfl]; exact hLnone
    · exact Nat.ne_of_gt (x.above y c (mem_of_lookup e))
    · have hc : s.heap.objs.size ≤ c := Nat.le_of_lt (x.above y c (mem_of_lookup e))
      refine ⟨nzZ c hc, ?_, _, x.cell y c e⟩
      show (if Z c = none then s.heap.get? c else none) = none
      rw [nzZ c hc, if_pos rfl]; exact nz c hc
    · exact fun y z c e e' => name_of_addr x.apart (mem_of_lookup e) (mem_of_lookup e')
    · obtain ⟨v, d'', e', hm, r'⟩ := startLoc_lookup r hlen e
      cases e'
      have hxm : y ∈ xs := by rw [← hmap]; exact List.mem_map_of_mem hm
      refine ⟨v, ?_, r'⟩
      rcases hx y hxm with q | ⟨q, q'⟩
      · exact .inl ⟨q, _, hcall.ns, bindL_get (k := (callEnvC fd s.heap.objs.size a).kindOf) q hnd' hm⟩
      · obtain ⟨c, hc⟩ := Option.isSome_iff_exists.mp (q' (s.heap.objs.size + 1))
        refine .inr ⟨.inl q, c, hc, ?_⟩
        have := x.cell y c hc
        exact (bindC_get (k := (callEnvC fd s.heap.objs.size a).kindOf) q hnd' hm) ▸ this
    · refine ⟨fun _ => 0, fun y z es es' e => ?_, fun y es e => ?_⟩
      · obtain ⟨_, _, e', _⟩ := startLoc_lookup r hlen e; cases e'
      · obtain ⟨_, _, e', _⟩ := startLoc_lookup r hlen e; cases e'
  refine wp_seq ((h s.heap.objs.size).run _ Z _ _ R.deeper S₁) fun f s₂ ⟨Z₂, ρ₂, fl, le₂, S₂, hf, hΦ⟩ tok₂ => ?_
  cases hf with
  | next => cases hΦ; exact ⟨Z₂, ext_of_frame b le₂ S₂ tok₂, .none⟩
  | brk => exact hΦ.elim
  | cont => exact hΦ.elim
  | ret r' => cases hΦ; exact ⟨Z₂, ext_of_frame b le₂ S₂ tok₂, r'⟩

end
end Mine
end
section
open PySem PySem.W PyProof.Rows
set_option linter.unusedVariables false
namespace Mine

section
variable {G : Gnd} {env : Env} {Z Z' H H' : Zf} {ρ ρ' : Loc} {s s' : Shared} {A : Around} {E : Value → Shared → Prop} {n : Nat} {pos apos : Pos}

/-- what is known is forgotten -/
def Sub (ρ ρ' : Loc) : Prop := ∀ x b, ρ.lookup x = some b → ρ'.lookup x = some b
theorem St.weaken (S : St G env Z H ρ' s) (h : Sub ρ ρ') : St G env Z H ρ s :=
  { S with
    vars := fun x d e => S.vars x d (h x _ e)
    owns := let ⟨oa, hi, ho⟩ := S.owns; ⟨oa, fun x y ds es ex ey => hi x y ds es (h x _ ex) (h y _ ey), fun x ds e => ho x ds (h x _ e)⟩ }
theorem Sub.same : Sub ρ ρ := fun _ _ h => h
theorem Sub.trans {ρ'' : Loc} (a : Sub ρ ρ') (b : Sub ρ' ρ'') : Sub ρ ρ'' := fun x b' h => b x b' (a x b' h)
theorem sub_upd {x : Str} {b : B} (h : ρ.lookup x = none) : Sub ρ (upd ρ x b) := fun y c e => by
  rw [lookup_upd]
  rw [if_neg fun q => by rw [q, h] at e; cases e]
  exact e

/-- held objects are changed, or held anew, or no more -/
theorem St.shift (S : St G env Z H ρ s) {h' : Heap} {t : Nat} (T : Addr → Prop) (hT : ∀ a, T a → G.base.get? a = none ∧ (∀ y c, env.cells.lookup y = some c → c ≠ a) ∧ ((∃ o, H a = some o) ∨ s.heap.get? a = none))
    (hk : ∀ b ob, ¬ T b → s.heap.get? b = some ob → h'.get? b = some ob) (hH : ∀ b, ¬ T b → H' b = H b) (hH' : ∀ a o, T a → H' a = some o → h'.get? a = some o) (ht : s.toks ≤ t) : St G env Z H' ρ { s with heap := h', toks := t } := by
  have zT : ∀ a ob, Z a = some ob → ¬ T a := fun a ob h q => by
    rcases (hT a q).2.2 with ⟨o, e⟩ | e
    · have := S.dj a ob h; rw [e] at this; cases this
    · have := S.zin a ob h; rw [e] at this; cases this
  have nT : ∀ a ob, s.heap.get? a = some ob → H a = none → ¬ T a := fun a ob h hn q => by
    rcases (hT a q).2.2 with ⟨o, e⟩ | e
    · rw [hn] at e; cases e
    · rw [h] at e; cases e
  obtain ⟨m, oL, es, ep, eL, eL'⟩ := S.ns
  have lT := nT _ _ eL S.lh
  have cT : ∀ y c, env.cells.lookup y = some c → ¬ T c := fun y c e q => (hT c q).2.1 y c e rfl
  have has : ∀ y v, Has env s.heap y v → Has env h' y v := fun y v q => by
    rcases q with ⟨k, m, ⟨ob, es, ep, e1, e2⟩, e⟩ | ⟨k, c, e, ob, e1, e2⟩
    · exact .inl ⟨k, m, ⟨ob, es, ep, hk _ _ lT e1, e2⟩, e⟩
    · exact .inr ⟨k, c, e, ob, hk _ _ (cT y c e) e1, e2⟩
  refine ⟨S.fk, S.gl, S.bl, S.gens, S.os, Nat.lt_of_lt_of_le S.tk ht, fun a ob h => hk _ _ (zT a ob h) (S.zin a ob h), fun a ob h => ?_, fun a ob h => ?_, fun a ob h => ?_, ⟨m, oL, es, ep, hk _ _ lT eL, eL'⟩, S.lz, ?_, fun y c e => ?_, S.inj, fun y d e => ?_, ?_⟩
  · by_cases q : T a
    · exact hH' a ob q h
    · rw [hH a q] at h; exact hk _ _ q (S.hin a ob h)
  · rw [hH a (zT a ob h)]; exact S.dj a ob h
  · refine (S.bas a ob h).elim .inl fun q => .inr ?_
    rw [hH a fun z => by rw [(hT a z).1] at h; cases h]; exact q
  · rw [hH _ lT]; exact S.lh
  · obtain ⟨h0, h1, h2⟩ := S.cells y c e
    refine ⟨h0, fun hf => ?_, fun hf => ?_⟩
    · obtain ⟨a, b, v, ob, e1, e2⟩ := h1 hf
      exact ⟨a, by rw [hH _ (cT y c e)]; exact b, v, ob, hk _ _ (cT y c e) e1, e2⟩
    · obtain ⟨ob, h⟩ := h2 hf
      exact ⟨ob, by rw [hH _ (cT y c e)]; exact h⟩
  · obtain ⟨v, h, r⟩ := S.vars y d e; exact ⟨v, has y v h, r⟩
  · obtain ⟨oa, hi, h⟩ := S.owns
    refine ⟨oa, hi, fun y ds e => ?_⟩
    obtain ⟨g1, g2, g3, g4, g5, vs, k, g6, g7⟩ := h y ds e
    exact ⟨has _ _ g1, g2, by rw [hH _ (nT _ _ g6 g3)]; exact g3, g4, g5, vs, k, hk _ _ (nT _ _ g6 g3) g6, g7⟩

structure Tsts (G : Gnd) (env : Env) (n : Nat) (ρ : Loc) (ifs : List PySem.Expr) (ok : Bool) : Prop where
  run : ∀ A Z H s, Room n A → St G env Z H ρ s → wpAny (model G.prog G.w) A (forIn ifs true fun c r => if r = true then do let ok ← isTrue c env (eval c env); pure (ForInStep.yield ok) else pure (ForInStep.yield r)) (fun b s' => b = ok ∧ Ext Z s Z s') (fun _ _ => False) s
theorem tsts_nil : Tsts G env n ρ [] true := Tsts.mk fun A Z H s R S => wpAny_tests_nil ⟨rfl, S.same⟩
theorem tsts_one {c : PySem.Expr} {ok : Bool} (h : Tst G env n ρ c ok) : Tsts G env n ρ [c] ok := Tsts.mk fun A Z H s R S => wpAny_tests_one (h.run A Z H s R S)

/-- what stands while a comprehension's loop runs: its iterator and its list are held -/
structure CRun (G : Gnd) (env : Env) (n : Nat) (e : PySem.Expr) (k : Nat) (ρ : Loc) (ds : List D) (out : List D) : Prop where
  run : ∀ A Z H s I D fp P W vs m outs o, Room n A → St G env Z H ρ s → H I = some o → H D = some (listOf vs.toArray m) → I ≠ D → RepAll G Z vs outs → outs.length + out.length ≤ sizeLine →
    G.base.get? I = none → G.base.get? D = none → (∀ y c, env.cells.lookup y = some c → c ≠ I ∧ c ≠ D) →
    (∀ A' : Around, A'.handled = none → Walks G.prog G.w A' I fp [I] ds.length P W) → (∀ b ∈ fp, b = I ∨ ∃ o, Z b = some o) → W 0 s.heap → (∀ i h, W i h → ∃ o T, h.get? I = some o ∧ o.cls = .type T ∧ ownsTuples T = false) →
    (∀ i v, P i v → ∃ d, ds[i]? = some d ∧ Rep G Z v d) →
    codeAny (model G.prog G.w) A (.compLoop e k (.ref I) (.ref D) env) (fun r s' => r = .ok .next ∧ ∃ Z' H' vs' m', Zle Z Z' ∧ (∀ b, b ≠ I → b ≠ D → H' b = H b) ∧ H' I = none ∧ H' D = some (listOf vs'.toArray m') ∧
      St G env Z' H' ρ s' ∧ RepAll G Z' vs' (outs ++ out)) s

theorem comp_start {elt : PySem.Expr} {gens : List Comprehension} {g : Comprehension} {scope : Scope} {k : Nat} {it acc : Value} {R : Result → Shared → Prop} {prog : Program} {w : World} (hg : gens[k]? = some g) (ha : g.is_async = 0)
    (h0 : codeAny (model prog w) A (.compLoop (.ListComp elt gens scope pos) k it acc env) R s)
    (h : wpAny (model prog w) A (pyIter it) (fun it' s' => codeAny (model prog w) A (.compLoop (.ListComp elt gens scope pos) k it' acc env) R s') (notedBy (model prog w) A env fun x s' => R (.error x) s') s) :
    codeAny (model prog w) A (.compStart (.ListComp elt gens scope pos) k it acc env) R s := by
  refine codeAny_of_tree ?_
  show wpAny _ _ ((compStart (.ListComp elt gens scope pos) k it acc env).onRaise (fun x => do noteFrame x env; standAt theWindowsPlace)) _ _ s
  refine wpAny_notedAt ?_
  unfold compStart
  simp only [clausesOf, hg, Option.elim_some, ha]
  show wpAny _ _ (ask >>= _) _ _ s
  refine wpAny_bind (wpAny_askSetting (wpAny_ite ?_))
  split
  · exact wpAny_pure (And.intro rfl h0)
  · exact wpAny_bind (wpAny_rule (wpAny_bind (wpAny_standAt (wpAny_bind (wpAny_mono h (fun it' s' h' => wpAny_pure (And.intro rfl h')) fun _ _ x => x)))))

def CInv (G : Gnd) (env : Env) (ρ : Loc) (Z H : Zf) (I D : Addr) {α : Type} (xs : List α) (F : α → List Mine.D) (outs : List Mine.D) (W : Nat → Heap → Prop) (j : Nat) (s : Shared) : Prop :=
  ∃ (i : Nat) (Zc Hc : Zf) (vs : List Value) (m : Nat) (o : Obj), j = xs.length - i ∧ i ≤ xs.length ∧ Zle Z Zc ∧ (∀ b, b ≠ I → b ≠ D → Hc b = H b) ∧ Hc I = some o ∧ Hc D = some (listOf vs.toArray m) ∧ St G env Zc Hc ρ s ∧ W i s.heap ∧
    RepAll G Zc vs (outs ++ (xs.take i).flatMap F)
/-- the last clause of a comprehension -/
theorem comp_last {elt tgt iter : PySem.Expr} {ifs : List PySem.Expr} {gens : List Comprehension} {scope : Scope} {k : Nat} {α : Type} {xs : List α} {mk : α → D} {F : α → List D}
    (he : ∀ it acc, compTurn (.ListComp elt gens scope pos) k it acc env = (do
      standAt iter.pos
      match ← pyNext it with
      | none => pure (.done .next)
      | some v =>
        letOwnedTupleGo tgt it v
        assign tgt env v
        let mut ok := true
        for c in ifs do
          if ok then ok ← isTrue c env (eval c env)
        if ok then
          (do let _ ← call (.builtin "list.append") [acc, ← eval elt env])
        again (.compLoop (.ListComp elt gens scope pos) k it acc env)))
    (item : ∀ a ∈ xs, ∃ ρ₁ ok, Asg G env tgt (mk a) ρ ρ₁ ∧ Sub ρ ρ₁ ∧ Tsts G env n ρ₁ ifs ok ∧ (ok = false → F a = []) ∧ (ok = true → ∃ x, Ev G env n ρ₁ elt x ∧ F a = [x])) :
    CRun G env n (.ListComp elt gens scope pos) k ρ (xs.map mk) (xs.flatMap F) := by
  constructor
  intro A Z H s I D fp P W vs m outs o R S hI hD hID hv hsz hBI hBD hC hW hfp hW0 hcls hP
  have W₀ := hW A R.handled
  refine codeAny_loop rfl (CInv G env ρ Z H I D xs F outs W) (fun j s hj => ?_) xs.length ⟨0, Z, H, vs, m, o, rfl, Nat.zero_le _, Zle.same, fun _ _ _ => rfl, hI, hD, S, hW0, by simpa using hv⟩
  obtain ⟨i, Zc, Hc, vs, m, o, rfl, hle, lec, hHc, hI, hD, Sc, hWi, hv⟩ := hj
  show wpAny _ A ((compTurn (.ListComp elt gens scope pos) k (.ref I) (.ref D) env).onRaise (fun x => do noteFrame x env; theTreesLotGoes x)) _ _ s
  refine wpAny_noted ?_
  rw [he]
  have len : (xs.map mk).length = xs.length := List.length_map ..
  by_cases hlt : i < xs.length
  · refine wpAny_bind (wpAny_standAt (wpAny_bind (wpAny_with_toks (Nat.le_refl s.toks) (W₀.item i s _ _ (by omega) hWi fun v h' tk pv hW' hk tok => ?_))))
    obtain ⟨d', hd', rv⟩ := hP i v pv
    obtain ⟨o', T, ho', hcT, hTT⟩ := hcls _ _ hW'
    obtain ⟨a, ha⟩ : ∃ a, xs[i]? = some a := ⟨xs[i], by simp [hlt]⟩
    have hd'' : d' = mk a := by rw [List.getElem?_map, ha] at hd'; simpa using hd'.symm
    subst hd''
    have S₁ : St G env Zc (Zadd Hc I o') ρ { s with heap := h', toks := tk } := Sc.shift (fun b => b = I) (fun b q => by subst q; exact ⟨hBI, fun y c e => (hC y c e).1, .inl ⟨_, hI⟩⟩) (fun b ob hb e => hk b ob (by simpa using hb) e)
      (fun b hb => if_neg hb) (fun b ob q e => by subst q; rw [Zadd.self] at e; cases e; exact ho') tok
    have hD₁ : Zadd Hc I o' D = some (listOf vs.toArray m) := by rw [show Zadd Hc I o' D = Hc D from if_neg (Ne.symm hID)]; exact hD
    refine wpAny_bind (wp_letOwned (s := { s with heap := h', toks := tk }) ho' hcT hTT ?_)
    obtain ⟨ρ₁, ok, hasg, hsub, htst, hno, hyes⟩ := item a (List.mem_of_getElem? ha)
    refine wpAny_bind (wp_seq (hasg.run A Zc _ _ v (R.less (Nat.zero_le _)) S₁ (rv.mono lec)) fun _ s₂ ⟨Z₂, le₂, S₂⟩ => ?_)
    refine wpAny_bind (wp_seq (htst.run A Z₂ _ s₂ R S₂) fun ok' s₃ ⟨eo, x₃⟩ => ?_)
    subst eo
    have S₃ := S₂.ext x₃
    have take_succ : (xs.take (i + 1)).flatMap F = (xs.take i).flatMap F ++ F a := by rw [List.take_add_one, ha]; simp
    have nextW : ∀ (Z₄ H₄ : Zf) (s₄ : Shared) (ρ₄ : Loc), Zle Zc Z₄ → H₄ I = some o' → St G env Z₄ H₄ ρ₄ s₄ → W (i + 1) s₄.heap := fun Z₄ H₄ s₄ ρ₄ le₄ hI₄ S₄ => W₀.frame _ _ _ hW' fun b hb ob e => by
      rcases hfp b hb with rfl | ⟨oz, hz⟩
      · rw [ho'] at e; cases e; exact S₄.hin _ _ hI₄
      · have e2 : h'.get? b = some oz := S₁.zin b oz (lec b oz hz)
        rw [e] at e2; cases e2
        exact S₄.zin _ _ (le₄ _ _ (lec _ _ hz))
    cases ok' with
    | false =>
      refine wpAny_pure ⟨rfl, xs.length - (i + 1), by omega, i + 1, Z₂, Zadd Hc I o', vs, m, o', rfl, by omega, lec.trans le₂, fun b h1 h2 => ?_, Zadd.self, hD₁, S₃.weaken hsub, nextW Z₂ _ s₃ ρ₁ le₂ Zadd.self S₃, ?_⟩
      · rw [show Zadd Hc I o' b = Hc b from if_neg h1]; exact hHc b h1 h2
      · rw [take_succ, hno rfl, List.append_nil]; exact hv.mono le₂
    | true =>
      obtain ⟨x, hx, hFx⟩ := hyes rfl
      refine wpAny_bind (wpAny_bind (wp_seq (hx.run A Z₂ _ s₃ R S₃) fun y s₄ ⟨Z₄, x₄, r₄⟩ => wpAny_bind ?_))
      have S₄ := S₃.ext x₄
      have oD := S₄.hin _ _ hD₁
      have hlenv : vs.length ≤ sizeLine := by
        have h1 := hv.length
        rw [List.length_append] at h1
        have h2 : ((xs.take i).flatMap F).length ≤ (xs.flatMap F).length := by
          conv => rhs; rw [← List.take_append_drop i xs, List.flatMap_append, List.length_append]
          omega
        omega
      refine append_at oD (fun h₅ hs₅ ho₅ => ?_) (by simpa using hlenv)
      have S₅ : St G env Z₄ (Zadd (Zadd Hc I o') D (listOf (vs ++ [y]).toArray (m + 1))) ρ₁ { s₄ with heap := h₅ } := S₄.shift (fun b => b = D) (fun b q => by subst q; exact ⟨hBD, fun y c e => (hC y c e).2, .inl ⟨_, hD₁⟩⟩)
        (fun b ob hb e => (hs₅.2 b hb).trans e) (fun b hb => if_neg hb) (fun b ob q e => by subst q; rw [Zadd.self] at e; cases e; rw [ho₅]; simp) (Nat.le_refl _)
      have hI₅ : Zadd (Zadd Hc I o') D (listOf (vs ++ [y]).toArray (m + 1)) I = some o' := by rw [show Zadd (Zadd Hc I o') D (listOf (vs ++ [y]).toArray (m + 1)) I = Zadd Hc I o' I from if_neg hID]; exact Zadd.self
      refine wpAny_pure (wpAny_pure ⟨rfl, xs.length - (i + 1), by omega, i + 1, Z₄, _, vs ++ [y], m + 1, o', rfl, by omega, lec.trans (le₂.trans x₄.le), fun b h1 h2 => ?_, hI₅, Zadd.self, S₅.weaken hsub, nextW Z₄ _ _ ρ₁ (le₂.trans x₄.le) hI₅ S₅, ?_⟩)
      · rw [show Zadd (Zadd Hc I o') D (listOf (vs ++ [y]).toArray (m + 1)) b = Zadd Hc I o' b from if_neg h2, show Zadd Hc I o' b = Hc b from if_neg h1]; exact hHc b h1 h2
      · rw [take_succ, hFx, ← List.append_assoc]; exact (hv.mono (le₂.trans x₄.le)).append (.cons r₄ .nil)
  · have hlen : i = xs.length := by omega
    subst hlen
    refine wpAny_bind (wpAny_standAt (wpAny_bind (wpAny_with_toks (Nat.le_refl s.toks) (W₀.done s _ _ (by rw [len]; exact hWi) fun h' tk hk tok => ?_))))
    refine wpAny_pure ⟨rfl, Zc, fun b => if b = I then none else Hc b, vs, m, lec, fun b h1 h2 => ?_, if_pos rfl, ?_, ?_, ?_⟩
    · exact (if_neg h1).trans (hHc b h1 h2)
    · exact (if_neg (Ne.symm hID)).trans hD
    · exact Sc.shift (fun b => b = I) (fun b q => by subst q; exact ⟨hBI, fun y c e => (hC y c e).1, .inl ⟨_, hI⟩⟩) (fun b ob hb e => hk b ob (by simpa using hb) e) (fun b hb => if_neg hb) (fun b ob q e => by have e' : (if b = I then none else Hc b) = some ob := e; rw [if_pos q] at e'; cases e') tok
    · rwa [List.take_length] at hv

end
end Mine
end
section
open PySem PySem.W PyProof.Rows
set_option linter.unusedVariables false
namespace Mine

section
variable {G : Gnd} {env : Env} {Z Z' H H' : Zf} {ρ ρ' ρc : Loc} {s s' : Shared} {A : Around} {E : Value → Shared → Prop} {n : Nat} {pos apos : Pos}

/-- what must be so of a comprehension's scope, seen from the frame around -/
structure Scoped (env : Env) (scope : Scope) (cl : List (Str × Addr)) (ρ ρc : Loc) : Prop where
  kind : scope.kind = .function
  names : ∀ x ∈ scope.names, x.2 = .local → scope.names.lookup x.1 = some .local
  nocell : ∀ y ∈ scope.names, y.2 ≠ .cell
  clos : closureFor scope env = pure cl
  cells : ∀ x c, cl.lookup x = some c → env.cells.lookup x = some c
  cap : ∀ x b, ρc.lookup x = some b → (∃ d, b = .val d) ∧ ρ.lookup x = some b ∧ env.kindOf x ≠ some .local ∧ (∃ c, cl.lookup x = some c) ∧ ((relabel scope env).names.lookup x = some .cell ∨ ((relabel scope env).names.lookup x = some .free ∧ (x == ("__classdict__" : Str)) = false))

def CompPost (G : Gnd) (Z : Zf) (s : Shared) (out : List D) (acc : Value) (C : Addr) (r : Result) (s' : Shared) : Prop :=
  r = .ok .next ∧ ∃ Z', Ext Z s Z' s' ∧ Rep G Z' acc (.list out) ∧ s.heap.get? C = none ∧ Z' C = none ∧ ∃ m, s'.heap.Ns C m

theorem comp_core {elt : PySem.Expr} {g : Comprehension} {gs : List Comprehension} {scope : Scope} {cl : List (Str × Addr)} {d : D} {ds out : List D} (R : Room n A) (S : St G env Z H ρ s) (K : Scoped env scope cl ρ ρc) (ha : g.is_async = 0)
    (h : Ev G env n ρ g.iter d) (hi : Itr G d ds) (run : ∀ C, CRun G (compEnvC scope cl C env) n (.ListComp elt (g :: gs) scope pos) 0 ρc ds out) (hsz : out.length ≤ sizeLine) :
    wpAny (model G.prog G.w) A (eval g.iter env) (fun x s₁ => wpAny (model G.prog G.w) A (pyIter x) (fun it s₂ => wpAny (model G.prog G.w) A (newList []) (fun acc s₃ =>
      wpAny (model G.prog G.w) A (newFunctionEnv scope env.globals cl [] env.qual none .none (some env)) (fun cenv s₄ =>
        codeAny (model G.prog G.w) A (.compStart (.ListComp elt (g :: gs) scope pos) 0 it acc { cenv with scope := relabel scope env }) (CompPost G Z s out acc cenv.locals) s₄) E s₃) E s₂) E s₁) E s := by
  refine wp_seq (h.run A Z H s R S) fun v s₁ ⟨Z₁, x₁, r₁⟩ => ?_
  have S₁ := S.ext x₁
  refine wp_seq (hi.run A Z₁ s₁ v (R.less (Nat.zero_le _)) S₁.bs r₁) fun it s₂ ⟨I, fp, P, W, e, x₂, hI, hW, hfp, hW0, hcls, hP⟩ => ?_
  subst e
  have S₂ := S₁.ext x₂
  refine wpAny_newObj_type (wpAny_newFunctionEnv K.nocell (by intro y hy; simp at hy) (fun h₁ hns₁ hsb₁ => ?_) K.kind)
  dsimp only at hns₁ hsb₁ ⊢
  generalize hH2 : s₂.heap.push { cls := .type "list", dict := none, data := .seq ([] : List Value).toArray } = H2 at hns₁ hsb₁ ⊢
  have hC : H2.objs.size = s₂.heap.objs.size + 1 := by rw [← hH2, Heap.size_push]
  have oldC : ∀ b ob, s₂.heap.get? b = some ob → b ≠ H2.objs.size ∧ b ≠ s₂.heap.objs.size := fun b ob e => by
    have := Heap.lt_size e
    rw [hC]
    exact ⟨Nat.ne_of_lt (Nat.lt_succ_of_lt this), Nat.ne_of_lt this⟩
  have old : ∀ b o, s₂.heap.get? b = some o → h₁.get? b = some o := fun b o e => hsb₁.extBut b o (oldC b o e).1 (Heap.get?_push_of_some _ (hH2 ▸ Heap.get?_push_of_some _ e))
  have hDC : s₂.heap.objs.size ≠ H2.objs.size := by rw [hC]; exact Nat.ne_of_lt (Nat.lt_succ_self _)
  have hDo : h₁.get? s₂.heap.objs.size = some (listOf ([] : List Value).toArray 0) := hsb₁.extBut _ _ hDC (Heap.get?_push_of_some _ (hH2 ▸ Heap.get?_push_size _ rfl))
  have hCn : s₂.heap.get? H2.objs.size = none := by
    cases q : s₂.heap.get? H2.objs.size with
    | none => rfl
    | some ob => exact absurd rfl (oldC _ ob q).1
  have hDn : s₂.heap.get? s₂.heap.objs.size = none := get?_size_none _
  obtain ⟨oI, _, hoI, _⟩ := hcls 0 _ hW0
  have zn : ∀ b, s₂.heap.get? b = none → Z₁ b = none := fun b e => by
    cases q : Z₁ b with
    | none => rfl
    | some ob => have := S₂.zin b ob q; rw [e] at this; cases this
  have hIn : Z₁ I = none := by
    cases q : Z₁ I with
    | none => rfl
    | some ob => have := S₁.zin I ob q; rw [hI] at this; cases this
  let HH : Zf := fun b => if Z₁ b = none then (if b = H2.objs.size then none else h₁.get? b) else none
  have HHof : ∀ b ob, HH b = some ob → Z₁ b = none ∧ b ≠ H2.objs.size ∧ h₁.get? b = some ob := fun b ob e => by
    have e' : (if Z₁ b = none then (if b = H2.objs.size then none else h₁.get? b) else none) = some ob := e
    split at e'
    · rename_i q
      split at e'
      · cases e'
      · rename_i q'; exact ⟨q, q', e'⟩
    · cases e'
  have HHto : ∀ b ob, Z₁ b = none → b ≠ H2.objs.size → h₁.get? b = some ob → HH b = some ob := fun b ob q q' e => by
    show (if Z₁ b = none then (if b = H2.objs.size then none else h₁.get? b) else none) = some ob
    rw [if_pos q, if_neg q']; exact e
  have cellNew : ∀ x c, cl.lookup x = some c → Z₁ c = none ∧ ∃ ob, s₂.heap.get? c = some ob := fun x c e => by
    obtain ⟨_, h1, h2⟩ := S₂.cells x c (K.cells x c e)
    cases hf : env.func.isSome with
    | true => obtain ⟨a, _, v, ob, e1, _⟩ := h1 hf; exact ⟨a, ob, e1⟩
    | false =>
      obtain ⟨ob, e1⟩ := h2 hf
      refine ⟨?_, ob, S₂.hin c ob e1⟩
      cases q : Z₁ c with
      | none => rfl
      | some oz => have := S₂.dj c oz q; rw [e1] at this; cases this
  have SC : St G (compEnvC scope cl H2.objs.size env) Z₁ HH ρc { s₂ with heap := h₁, toks := s₂.toks + ([] : List (Str × Value)).length } := by
    refine ⟨K.kind, S₂.gl, S₂.bl, S₂.gens, S₂.os, S₂.tk, fun b ob e => old b ob (S₂.zin b ob e), fun b ob e => (HHof b ob e).2.2, fun b ob e => ?_, fun b ob e => ?_, ⟨_, hns₁⟩, zn _ hCn, ?_, fun x c e => ⟨?_, fun hf => (by cases hf), fun _ => ?_⟩, fun x y c e e' => S₂.inj x y c (K.cells x c e) (K.cells y c e'), fun x d' e => ?_, ?_⟩
    · show (if Z₁ b = none then (if b = H2.objs.size then none else h₁.get? b) else none) = none
      rw [if_neg (by rw [e]; intro q; cases q)]
    · have e2 := S₂.keepBase b ob e
      cases q : Z₁ b with
      | none => exact .inr (HHto b ob q (oldC b ob e2).1 (old b ob e2))
      | some oz => left; have := S₂.zin b oz q; rw [e2] at this; cases this; rfl
    · show (if Z₁ H2.objs.size = none then (if H2.objs.size = H2.objs.size then none else h₁.get? H2.objs.size) else none) = none
      rw [if_pos (zn _ hCn), if_pos rfl]
    · obtain ⟨_, ob, e1⟩ := cellNew x c e
      exact (oldC c ob e1).1
    · obtain ⟨hz, ob, e1⟩ := cellNew x c e
      exact ⟨ob, HHto c ob hz (oldC c ob e1).1 (old c ob e1)⟩
    · obtain ⟨_, e1, hk, ⟨c, hc⟩, hkd⟩ := K.cap x _ e
      obtain ⟨u, hu, ru⟩ := S₂.vars x d' e1
      refine ⟨u, ?_, ru⟩
      rcases hu with ⟨k, _⟩ | ⟨_, c', e2, n2⟩
      · exact absurd k hk
      · rw [K.cells x c hc] at e2; cases e2
        refine .inr ⟨hkd, c, hc, n2.keeps old⟩
    · refine ⟨fun _ => 0, fun x y es es' e => ?_, fun x es e => ?_⟩
      · obtain ⟨⟨_, e'⟩, _⟩ := K.cap x _ e; cases e'
      · obtain ⟨⟨_, e'⟩, _⟩ := K.cap x _ e; cases e'
  have nIC := (oldC I oI hoI).1
  have nID := (oldC I oI hoI).2
  have bn : ∀ b, s₁.heap.get? b = none → G.base.get? b = none := fun b e => by
    cases q : G.base.get? b with
    | none => rfl
    | some ob => have := S₁.keepBase b ob q; rw [e] at this; cases this
  have hDn₁ : s₁.heap.get? s₂.heap.objs.size = none := by
    cases q : s₁.heap.get? s₂.heap.objs.size with
    | none => rfl
    | some ob => rw [x₂.keep _ _ q] at hDn; cases hDn
  have loop := (run H2.objs.size).run A Z₁ HH _ I s₂.heap.objs.size fp P W [] 0 [] oI R SC (HHto I oI hIn nIC (old I oI hoI)) (HHto _ _ (zn _ hDn) hDC hDo) nID .nil (by simpa using hsz) (bn _ hI) (bn _ hDn₁)
    (fun x c e => by
      obtain ⟨hz, ob, e1⟩ := cellNew x c e
      refine ⟨fun q => ?_, (oldC c ob e1).2⟩
      obtain ⟨_, h1, h2⟩ := S₁.cells x c (K.cells x c e)
      cases hf : env.func.isSome with
      | true => obtain ⟨_, _, v, ob', e2, _⟩ := h1 hf; rw [q, hI] at e2; cases e2
      | false => obtain ⟨ob', e2⟩ := h2 hf; have := S₁.hin _ _ e2; rw [q, hI] at this; cases this)
    hW hfp ((hW A R.handled).frame _ _ _ hW0 fun b _ ob e => old b ob e) hcls hP
  have fin : ∀ (r : Result) (s' : Shared), (s₂.toks ≤ s'.toks ∧ r = .ok .next ∧ ∃ Z' H' vs' m', Zle Z₁ Z' ∧ (∀ b, b ≠ I → b ≠ s₂.heap.objs.size → H' b = HH b) ∧ H' I = none ∧ H' s₂.heap.objs.size = some (listOf vs'.toArray m') ∧
      St G (compEnvC scope cl H2.objs.size env) Z' H' ρc s' ∧ RepAll G Z' vs' ([] ++ out)) → CompPost G Z s out (.ref s₂.heap.objs.size) H2.objs.size r s' := by
    rintro r s' ⟨tok, rfl, Z', H', vs', m', le', hH', hI', hD', S', hv'⟩
    have hDz : Z' s₂.heap.objs.size = none := by
      cases q : Z' s₂.heap.objs.size with
      | none => rfl
      | some ob => have := S'.dj _ ob q; rw [hD'] at this; cases this
    have le := Zadd.le (o := listOf vs'.toArray m') hDz
    have keep : ∀ b ob, s₁.heap.get? b = some ob → b ≠ I ∧ b ≠ s₂.heap.objs.size ∧ b ≠ H2.objs.size := fun b ob e => by
      have e2 := x₂.keep b ob e
      exact ⟨fun q => (by rw [q, hI] at e; cases e), (oldC b ob e2).2, (oldC b ob e2).1⟩
    refine ⟨rfl, Zadd Z' s₂.heap.objs.size (listOf vs'.toArray m'), x₁.trans ⟨le'.trans le, fun b ob e => ?_, fun b ob e => ?_, fun b ob e => ?_, S'.gens.trans S₁.gens.symm, S'.os.trans S₁.os.symm, Nat.le_trans x₂.tk tok⟩, .list Zadd.self (hv'.mono le), ?_, ?_, S'.ns⟩
    · obtain ⟨q1, q2, q3⟩ := keep b ob e
      cases q : Z₁ b with
      | none => exact S'.hin b ob (by rw [hH' b q1 q2]; exact HHto b ob q q3 (old b ob (x₂.keep b ob e)))
      | some oz => have := S₁.zin b oz q; rw [e] at this; cases this; exact S'.zin b ob (le' b ob q)
    · by_cases q : b = s₂.heap.objs.size
      · subst q; rw [Zadd.self] at e; cases e; exact S'.hin _ _ hD'
      · rw [show Zadd Z' s₂.heap.objs.size (listOf vs'.toArray m') b = Z' b from if_neg q] at e
        exact S'.zin b ob e
    · by_cases q : b = s₂.heap.objs.size
      · subst q; exact .inr hDn₁
      · rw [show Zadd Z' s₂.heap.objs.size (listOf vs'.toArray m') b = Z' b from if_neg q] at e
        cases q1 : s₁.heap.get? b with
        | none => exact .inr rfl
        | some o1 =>
          left
          obtain ⟨p1, p2, p3⟩ := keep b o1 q1
          cases q2 : Z₁ b with
          | some oz => have := le' b oz q2; rw [e] at this; cases this; rfl
          | none =>
            have h1 := HHto b o1 q2 p3 (old b o1 (x₂.keep b o1 q1))
            have := S'.dj b ob e
            rw [hH' b p1 p2, h1] at this; cases this
    · cases q : s.heap.get? H2.objs.size with
      | none => rfl
      | some ob => have := x₂.keep _ _ (x₁.keep _ _ q); rw [hCn] at this; cases this
    · rw [show Zadd Z' s₂.heap.objs.size (listOf vs'.toArray m') H2.objs.size = Z' H2.objs.size from if_neg (Ne.symm hDC)]
      exact S'.lz
  have loop' := codeAny_mono (codeAny_toks_of (n := s₂.toks) (by exact Nat.le_add_right _ _) loop) fin
  exact comp_start rfl ha loop' ((hW A R.handled).self 0 _ _ _ ((hW A R.handled).frame _ _ _ hW0 fun b _ ob e => old b ob e) loop')

theorem eval_ListComp' (elt : PySem.Expr) (g : Comprehension) (gs : List Comprehension) (scope : Scope) (pos : Pos) (ha : g.is_async = 0) (use : Option (Value → Sem Unit)) :
    comprehension (.ListComp elt (g :: gs) scope pos) scope env (firstIterPos (g :: gs) pos) (newList []) (firstAsync (g :: gs)) (firstIter (g :: gs) env) use =
      comprehension (.ListComp elt (g :: gs) scope pos) scope env (firstIterPos (g :: gs) pos) (newList []) false (eval g.iter env) use := by
  obtain ⟨t, i, f, a⟩ := g
  subst ha
  rfl

theorem ev_listcomp {elt : PySem.Expr} {g : Comprehension} {gs : List Comprehension} {scope : Scope} {cl : List (Str × Addr)} {d : D} {ds out : List D} (K : Scoped env scope cl ρ ρc) (ha : g.is_async = 0) (hs : ∀ x, foldedSetIterable g.iter env x = pure x)
    (h : Ev G env n ρ g.iter d) (hi : Itr G d ds) (run : ∀ C, CRun G (compEnvC scope cl C env) n (.ListComp elt (g :: gs) scope pos) 0 ρc ds out) (hsz : out.length ≤ sizeLine) :
    Ev G env n ρ (.ListComp elt (g :: gs) scope pos) (.list out) := by
  constructor
  intro A Z H s R S
  unfold Yields
  rw [show eval (.ListComp elt (g :: gs) scope pos) env = _ from eval_ListComp' elt g gs scope pos ha none]
  refine wpAny_comprehension_free (use := none) rfl hs K.clos K.kind K.names (wpAny_mono (comp_core R S K ha h hi run hsz) (fun x s₁ h₁ => wpAny_mono h₁ (fun it s₂ h₂ => wpAny_mono h₂ (fun acc s₃ h₃ => wpAny_mono h₃ (fun cenv s₄ h₄ => codeAny_mono h₄ fun r s' hr => ?_) fun _ _ e => e) fun _ _ e => e) fun _ _ e => e) fun _ _ e => e)
  obtain ⟨rfl, Z', x, r, hC, hZC, m, hm⟩ := hr
  refine ⟨m, hm, fun h' hs' => ⟨Z', ⟨x.le, fun a o e => ?_, fun a o e => ?_, x.new, x.gens, x.os, x.tk⟩, r⟩⟩
  · exact hs'.extBut a o (fun q => by rw [q, hC] at e; cases e) (x.keep a o e)
  · exact hs'.extBut a o (fun q => by rw [q, hZC] at e; cases e) (x.zin a o e)

/-- y = [.. for .. in ..] on one line -/
theorem ex_assign_comp {y : Str} {py spos : Pos} {elt : PySem.Expr} {g : Comprehension} {gs : List Comprehension} {scope : Scope} {cl : List (Str × Addr)} {d : D} {ds out : List D} {Φ : Fl → Loc → Prop} (K : Scoped env scope cl ρ ρc) (ha : g.is_async = 0) (hs : ∀ x, foldedSetIterable g.iter env x = pure x)
    (hsw : swapsWith (.ListComp elt (g :: gs) scope pos) (some (.Name y py)) spos.line env = pure true)
    (h : Ev G env n ρ g.iter d) (hi : Itr G d ds) (run : ∀ C, CRun G (compEnvC scope cl C env) n (.ListComp elt (g :: gs) scope pos) 0 ρc ds out) (hsz : out.length ≤ sizeLine)
    (hc : Can env y) (k : Φ .next (upd ρ y (.val (.list out)))) : Ex G env n ρ (.Assign [.Name y py] (.ListComp elt (g :: gs) scope pos) spos) Φ := by
  constructor
  intro A Z H s R S
  rw [exec_Assign_Name_used _ _ _ _ hsw]
  refine wpAny_bind (wpAny_standAt (wpAny_bind ?_))
  show wpAny _ A (do let _ ← comprehension (.ListComp elt (g :: gs) scope pos) scope env (firstIterPos (g :: gs) pos) (newList []) (firstAsync (g :: gs)) (firstIter (g :: gs) env) (some (assign (.Name y py) env))) _ _ s
  rw [eval_ListComp' elt g gs scope pos ha (some (assign (.Name y py) env))]
  refine wpAny_bind (wpAny_mono (wpAny_comprehension_free (use := some (assign (.Name y py) env)) (Q := fun _ s' => ExPost G env Z H Φ .next s') rfl hs K.clos K.kind K.names
    (wpAny_mono (comp_core R S K ha h hi run hsz) (fun x s₁ h₁ => wpAny_mono h₁ (fun it s₂ h₂ => wpAny_mono h₂ (fun acc s₃ h₃ => wpAny_mono h₃ (fun cenv s₄ h₄ => codeAny_mono h₄ fun r s' hr => ?_) fun _ _ e => e) fun _ _ e => e) fun _ _ e => e) fun _ _ e => e)) (fun _ s' hq => wpAny_pure (wpAny_pure hq)) fun _ _ e => e)
  obtain ⟨rfl, Z', x, r, hC, hZC, m, hm⟩ := hr
  show wpAny _ A (assign (.Name y py) env acc) _ _ s'
  obtain ⟨oC, es, ep, hoC, hm'⟩ := id hm
  have S' := S.ext x
  have hB : G.base.get? cenv.locals = none := by
    cases q : G.base.get? cenv.locals with
    | none => rfl
    | some ob => have := S.keepBase _ ob q; rw [hC] at this; cases this
  have hH : H cenv.locals = none := by
    cases q : H cenv.locals with
    | none => rfl
    | some ob => have := S.hin _ ob q; rw [hC] at this; cases this
  have hCc : ∀ z c, env.cells.lookup z = some c → c ≠ cenv.locals := fun z c e q => by
    obtain ⟨_, h1, h2⟩ := S.cells z c e
    cases hf : env.func.isSome with
    | true => obtain ⟨_, _, v, ob', e2, _⟩ := h1 hf; rw [q, hC] at e2; cases e2
    | false => obtain ⟨ob', e2⟩ := h2 hf; have := S.hin _ _ e2; rw [q, hC] at this; cases this
  have hL : env.locals ≠ cenv.locals := fun q => by
    obtain ⟨m₀, o₀, _, _, e0, _⟩ := S.ns
    rw [q, hC] at e0; cases e0
  have SH : St G env Z' (Zadd H cenv.locals oC) ρ s' := by
    have ne : ∀ b, b ≠ cenv.locals → Zadd H cenv.locals oC b = H b := fun b hb => if_neg hb
    refine ⟨S'.fk, S'.gl, S'.bl, S'.gens, S'.os, S'.tk, S'.zin, fun a ob e => ?_, fun a ob e => ?_, fun a ob e => (S'.bas a ob e).elim .inl (fun q => .inr (Zadd.le hH _ _ q)), S'.ns, S'.lz, ?_, fun z c e => ?_, S'.inj, S'.vars, ?_⟩
    · by_cases q : a = cenv.locals
      · subst q; rw [Zadd.self] at e; cases e; exact hoC
      · rw [ne a q] at e; exact S'.hin a ob e
    · rw [ne a fun q => by rw [q, hZC] at e; cases e]; exact S'.dj a ob e
    · rw [ne _ hL]; exact S'.lh
    · obtain ⟨h0, h1, h2⟩ := S'.cells z c e
      refine ⟨h0, fun hf => ?_, fun hf => ?_⟩
      · obtain ⟨a, b, c'⟩ := h1 hf
        exact ⟨a, by rw [ne _ (hCc z c e)]; exact b, c'⟩
      · obtain ⟨ob, h⟩ := h2 hf
        exact ⟨ob, Zadd.le hH _ _ h⟩
    · obtain ⟨oa, hi, ho⟩ := S.owns
      refine ⟨oa, hi, fun z es e => ?_⟩
      obtain ⟨g1, g2, g3, g4, g5, vs, k, g6, g7⟩ := ho z es e
      exact ⟨g1.keeps x.keep, ext_none x g2 ⟨_, g6⟩, by rw [ne _ fun q => by rw [q, hC] at g6; cases g6]; exact g3, g4, g5, vs, k, x.keep _ _ g6, g7.mono x.le⟩
  refine wpAny_assign_Name (wp_seq (st_store SH r hc) fun _ s₅ S₅ => ?_)
  refine ⟨m, ⟨oC, es, ep, S₅.hin _ _ Zadd.self, hm'⟩, fun h₆ hs₆ => ?_⟩
  exact ⟨Z', _, .next, x.le, S₅.drop (t := s₅.toks) hB hCc hH (fun b ob hb e => (hs₆.2 b hb).trans e) (Nat.le_refl _), .next, k⟩

end
end Mine
end
section
open PySem PySem.W PyProof.Rows
set_option linter.unusedVariables false
namespace Mine

section
variable {G : Gnd} {env : Env} {Z Z' H H' : Zf} {ρ ρ' ρc : Loc} {s s' : Shared} {A : Around} {E : Value → Shared → Prop} {n : Nat} {pos apos : Pos}

theorem Bs.y {v : Value} {d : D} {t : Nat} (b : Bs G Z s) (ht : s.toks ≤ t) (r : Rep G Z v d) : ∃ Z', Ext Z s Z' { s with toks := t } ∧ Rep G Z' v d := ⟨Z, Ext.tok b.zin ht, r⟩

-- whole numbers
theorem op_add_int {a b : Int} : Op2 G (binaryOp .Add) (.int a) (.int b) (.int (a + b)) := Op2.mk fun A Z s v₁ v₂ R b r₁ r₂ => by cases r₁; cases r₂; exact add_int (b.y (Nat.le_succ _) (.int _ _))
theorem op_sub_int {a b : Int} : Op2 G (binaryOp .Sub) (.int a) (.int b) (.int (a - b)) := Op2.mk fun A Z s v₁ v₂ R b r₁ r₂ => by cases r₁; cases r₂; exact sub_int (b.y (Nat.le_succ _) (.int _ _))
theorem op_mul_int {a b : Int} (h : IntMulOk a b) : Op2 G (binaryOp .Mult) (.int a) (.int b) (.int (a * b)) := Op2.mk fun A Z s v₁ v₂ R b r₁ r₂ => by cases r₁; cases r₂; exact mul_int (b.y (Nat.le_succ _) (.int _ _)) h
theorem op_fdiv_int {a b : Int} (hb : b ≠ 0) (hp : Builtin.divisionGoesByPylong a b = false) : Op2 G (binaryOp .FloorDiv) (.int a) (.int b) (.int (a.fdiv b)) := Op2.mk fun A Z s v₁ v₂ R b r₁ r₂ => by cases r₁; cases r₂; exact floordiv_int hb (b.y (Nat.le_succ _) (.int _ _)) (.inl hp)
theorem op_mod_int {a b : Int} (hb : b ≠ 0) : Op2 G (binaryOp .Mod) (.int a) (.int b) (.int (a.fmod b)) := Op2.mk fun A Z s v₁ v₂ R b r₁ r₂ => by cases r₁; cases r₂; exact mod_int' hb (b.y (Nat.le_succ _) (.int _ _))
theorem op_iadd_int {a b : Int} : Op2 G (inplaceOp .Add) (.int a) (.int b) (.int (a + b)) := Op2.mk fun A Z s v₁ v₂ R b r₁ r₂ => by cases r₁; cases r₂; exact iadd_int (b.y (Nat.le_succ _) (.int _ _))
theorem op_eq_int {a b : Int} : Op2 G (compareOp .Eq) (.int a) (.int b) (.bool (a == b)) := Op2.mk fun A Z s v₁ v₂ R b r₁ r₂ => by cases r₁; cases r₂; exact eq_int ⟨Z, b.same, .bool _⟩
theorem op_ne_int {a b : Int} : Op2 G (compareOp .NotEq) (.int a) (.int b) (.bool (a != b)) := Op2.mk fun A Z s v₁ v₂ R b r₁ r₂ => by cases r₁; cases r₂; exact ne_int ⟨Z, b.same, .bool _⟩
theorem op_lt_int {a b : Int} : Op2 G (compareOp .Lt) (.int a) (.int b) (.bool (decide (a < b))) := Op2.mk fun A Z s v₁ v₂ R b r₁ r₂ => by cases r₁; cases r₂; exact lt_int ⟨Z, b.same, .bool _⟩
theorem op_gt_int {a b : Int} : Op2 G (compareOp .Gt) (.int a) (.int b) (.bool (decide (b < a))) := Op2.mk fun A Z s v₁ v₂ R b r₁ r₂ => by cases r₁; cases r₂; exact gt_int ⟨Z, b.same, .bool _⟩
theorem op_le_int {a b : Int} : Op2 G (compareOp .LtE) (.int a) (.int b) (.bool (decide (a ≤ b))) := Op2.mk fun A Z s v₁ v₂ R b r₁ r₂ => by cases r₁; cases r₂; exact le_int ⟨Z, b.same, .bool _⟩
theorem op_ge_int {a b : Int} : Op2 G (compareOp .GtE) (.int a) (.int b) (.bool (decide (b ≤ a))) := Op2.mk fun A Z s v₁ v₂ R b r₁ r₂ => by cases r₁; cases r₂; exact ge_int ⟨Z, b.same, .bool _⟩

-- texts
theorem op_add_str {x y : Str} (h : x.length + y.length ≤ sizeLine) : Op2 G (binaryOp .Add) (.str x) (.str y) (.str (x ++ y)) := Op2.mk fun A Z s v₁ v₂ R b r₁ r₂ => by cases r₁; cases r₂; exact wp_tok (add_str (fun t k tok => b.y tok (.str _ _)) h)
theorem op_iadd_str {x y : Str} (h : x.length + y.length ≤ sizeLine) : Op2 G (inplaceOp .Add) (.str x) (.str y) (.str (x ++ y)) := Op2.mk fun A Z s v₁ v₂ R b r₁ r₂ => by cases r₁; cases r₂; exact wp_tok (iadd_str (fun t k tok => b.y tok (.str _ _)) h)
theorem op_eq_str {x y : Str} : Op2 G (compareOp .Eq) (.str x) (.str y) (.bool (x == y)) := Op2.mk fun A Z s v₁ v₂ R b r₁ r₂ => by cases r₁; cases r₂; exact eq_str ⟨Z, b.same, .bool _⟩
theorem op_ne_str {x y : Str} : Op2 G (compareOp .NotEq) (.str x) (.str y) (.bool (x != y)) := Op2.mk fun A Z s v₁ v₂ R b r₁ r₂ => by cases r₁; cases r₂; exact ne_str ⟨Z, b.same, .bool _⟩
/-- is the one text in the other -/
def tin (y x : Str) : Bool := !(Builtin.Str.occurrences x y 0 x.length 1).isEmpty
theorem op_in_str {x y : Str} : Op2 G (compareOp .In) (.str y) (.str x) (.bool (tin y x)) := Op2.mk fun A Z s v₁ v₂ R b r₁ r₂ => by cases r₁; cases r₂; exact PyProof.Rows.in_str ⟨Z, b.same, .bool _⟩
theorem op_notin_str {x y : Str} : Op2 G (compareOp .NotIn) (.str y) (.str x) (.bool (!tin y x)) := Op2.mk fun A Z s v₁ v₂ R b r₁ r₂ => by cases r₁; cases r₂; exact notIn_str ⟨Z, b.same, .bool _⟩

theorem isList_of {a : Addr} {vs : List Value} {k : Nat} {h : Heap} (e : h.get? a = some (listOf vs.toArray k)) : h.IsList a vs.toArray := ⟨_, e, rfl, _, rfl⟩
theorem isTuple_of {a : Addr} {vs : List Value} {k : Nat} {h : Heap} (e : h.get? a = some { cls := .type "tuple", data := .seq vs.toArray k }) : h.IsTuple a vs.toArray := ⟨_, e, rfl, _, rfl⟩
theorem bf_chr {i : Int} (h0 : 0 ≤ i) (h1 : i ≤ 1114111) : BF G "chr" [.int i] (.str ⟨#[i.toNat]⟩) := BF.mk fun A Z s vs R b r => by
  cases r with | cons r rs => cases rs; cases r; exact chr_of_range h0 h1 (b.y (Nat.le_succ _) (.str _ _))

-- truth
-- items
theorem slOk (slice : PySem.Expr) (o i : Value) : ∃ ops, subscripted slice false o i = operate ops (getItem o i) := by
  unfold subscripted
  split
  · exact ⟨_, rfl⟩
  · rename_i h; cases h
  · exact ⟨_, rfl⟩
theorem tail_all {value slice : PySem.Expr} {o i : Value} {T id : String} {Q : Value → Shared → Prop} (hT : s.TypeIs o T) (hl : typeLookup (.type T) "__getitem__" = pure (some (.builtin id))) (hg : wpAny (model G.prog G.w) A (getItem o i) Q E s) :
    wpAny (model G.prog G.w) A (subscriptTail value slice o i) Q E s := let ⟨_, e⟩ := slOk slice o i; tail_any hT hl hg e

theorem sb_list {value slice : PySem.Expr} {ds : List D} {i : Int} {d : D} (h0 : 0 ≤ i) (h1 : i < 2 ^ 63) (hd : ds[i.toNat]? = some d) : Sb G value slice (.list ds) (.int i) d := Op2.mk fun A Z s v₁ v₂ R b r₁ r₂ => by
  cases r₂
  cases r₁ with
  | list hz ra =>
    obtain ⟨v, hv, rv⟩ := ra.get hd
    have hl := isList_of (b.zin _ _ hz)
    exact tail_all hl.typeIs slot_list_getitem.lookup (wpAny_getItem_list hl h0 h1 (by simpa using hv) ⟨Z, b.same, rv⟩)
-- tables
def dget (ks : List Str) (ds : List D) (x : Str) : Option D := (ks.zip ds).lookup x
theorem dget_some : ∀ {kvs : List (Str × Value)} {ds : List D} {x : Str} {d : D}, RepAll G Z (kvs.map (·.2)) ds → dget (kvs.map (·.1)) ds x = some d → ∃ v, valueAt kvs x = some v ∧ Rep G Z v d
  | [], _, _, _, _, h => by simp [dget] at h
  | (k, v) :: kvs, _, x, d, .cons r rs, h => by
    unfold dget at h
    simp only [List.map_cons, List.zip_cons_cons, List.lookup_cons] at h
    by_cases q : x = k
    · subst q; simp at h; subst h; exact ⟨v, by simp [valueAt], r⟩
    · rw [beq_eq_false_iff_ne.mpr q] at h
      obtain ⟨w, e, rw'⟩ := dget_some rs h
      exact ⟨w, by simpa [valueAt, Ne.symm q] using e, rw'⟩
theorem dget_none : ∀ {kvs : List (Str × Value)} {ds : List D} {x : Str}, RepAll G Z (kvs.map (·.2)) ds → dget (kvs.map (·.1)) ds x = none → valueAt kvs x = none
  | [], _, _, _, _ => rfl
  | (k, v) :: kvs, _, x, .cons r rs, h => by
    unfold dget at h
    simp only [List.map_cons, List.zip_cons_cons, List.lookup_cons] at h
    by_cases q : x = k
    · subst q; simp at h
    · rw [beq_eq_false_iff_ne.mpr q] at h
      simpa [valueAt, Ne.symm q] using dget_none rs h
theorem dget_isSome {kvs : List (Str × Value)} {ds : List D} {x : Str} (r : RepAll G Z (kvs.map (·.2)) ds) : (valueAt kvs x).isSome = (dget (kvs.map (·.1)) ds x).isSome := by
  cases h : dget (kvs.map (·.1)) ds x with
  | none => rw [dget_none r h]; rfl
  | some d => obtain ⟨v, e, _⟩ := dget_some r h; rw [e]; rfl
theorem dictOf_of {a : Addr} {o : Obj} {h : Heap} {kvs : List (Str × Value)} (e : h.get? a = some o) (hd : o.IsDictOf (strKind G.prog G.w) kvs) : h.DictOf (strKind G.prog G.w) a kvs := Heap.dictOf_iff.mpr ⟨o, e, hd⟩
theorem op_in_dict {ks : List Str} {ds : List D} {x : Str} : Op2 G (compareOp .In) (.str x) (.dict ks ds) (.bool (dget ks ds x).isSome) := Op2.mk fun A Z s v₁ v₂ R b r₁ r₂ => by
  cases r₁
  cases r₂ with
  | dict hz hs hd ra => exact wpAny_in_of (strKind_is _ _ _ _) hs (dictOf_of (b.zin _ _ hz) hd).mapOf (b.y (Nat.le_succ _) (by rw [dget_isSome ra]; exact .bool _))
theorem op_notin_dict {ks : List Str} {ds : List D} {x : Str} : Op2 G (compareOp .NotIn) (.str x) (.dict ks ds) (.bool (!(dget ks ds x).isSome)) := Op2.mk fun A Z s v₁ v₂ R b r₁ r₂ => by
  cases r₁
  cases r₂ with
  | dict hz hs hd ra => exact wpAny_notIn_of (strKind_is _ _ _ _) hs (dictOf_of (b.zin _ _ hz) hd).mapOf (b.y (Nat.le_succ _) (by rw [dget_isSome ra]; exact .bool _))
theorem sb_dict {value slice : PySem.Expr} {ks : List Str} {ds : List D} {x : Str} {d : D} (h : dget ks ds x = some d) : Sb G value slice (.dict ks ds) (.str x) d := Op2.mk fun A Z s v₁ v₂ R b r₁ r₂ => by
  cases r₂
  cases r₁ with
  | dict hz hs hd ra =>
    obtain ⟨v, e, rv⟩ := dget_some ra h
    have hm := dictOf_of (b.zin _ _ hz) hd
    exact tail_all hm.typeIs slot_dict_getitem.lookup (wpAny_getItem_of (strKind_is _ _ _ _) hm.mapOf e (b.y (Nat.le_succ _) rv))
theorem bf_dict_get {ks : List Str} {ds : List D} {x : Str} {d : D} : BF G "dict.get" [.dict ks ds, .str x, d] ((dget ks ds x).getD d) := BF.mk fun A Z s vs R b r => by
  cases r with
  | cons r rs =>
    cases rs with
    | cons r₂ rs =>
      cases rs with
      | cons r₃ rs =>
        cases rs
        cases r₂
        cases r with
        | dict hz hs hd ra =>
          have hm := dictOf_of (b.zin _ _ hz) hd
          refine call_meetsIn PySem.F.slot_dict_get hm.typeIs PySem.F.entry_dict_get (PySem.F.args_dict_get_3 _ _ _) (meets_dict_get_default (strKind G.prog G.w) _ (strKind_is _ _ _ _) hs _) ⟨_, hm.mapOf, b.y (Nat.le_succ _) ?_⟩
          cases h : dget _ _ x with
          | none => rw [dget_none ra h]; exact r₃
          | some d' => obtain ⟨v, e, rv⟩ := dget_some ra h; rw [e]; exact rv

/-- a written table of texts -/
inductive ConstPairs : List (Option PySem.Expr) → List PySem.Expr → List (Str × Str) → Prop
  | nil : ConstPairs [] [] []
  | cons {k v : Str} {c c' : Nat} {p p' : Pos} {ks : List (Option PySem.Expr)} {vs : List PySem.Expr} {r : List (Str × Str)} : ConstPairs ks vs r → ConstPairs (some (.Constant (.str k) c p) :: ks) (.Constant (.str v) c' p' :: vs) ((k, v) :: r)
theorem const_shape {ks : List (Option PySem.Expr)} {vs : List PySem.Expr} {r : List (Str × Str)} (h : ConstPairs ks vs r) : ∃ pairs : List (Sem Value × Sem Value), pairs.length = r.length ∧ (pairs = [] → r = []) ∧
    (evalEachOpt ks env).zip ((evalEach vs env).map fun v => do let x ← v; standAt pos; pure x) = pairs.map (fun p => (some p.1, p.2)) ∧
    ∀ (M : Model) (prog : Program) (w : World) (A : Around) (E : Value → Shared → Prop) (s : Shared) (Q : List (Value × Value) → Shared → Prop),
      (∀ (us : List (Value × Value)) (kvs : List (Str × Value)) (t : Nat), s.toks ≤ t → Carries (strKind prog w) us kvs → kvs.map (·.1) = r.map (·.1) → (∀ Z, RepAll G Z (kvs.map (·.2)) (r.map fun p => .str p.2)) → us.length = r.length → Q us { s with toks := t }) →
      wpAny (model prog w) A (evalPairs pairs) Q E s := by
  induction h with
  | nil => exact ⟨[], rfl, fun _ => rfl, rfl, fun M prog w A E s Q h => evalPairs_nil (h [] [] s.toks (Nat.le_refl _) trivial rfl (fun _ => .nil) rfl)⟩
  | @cons k v c c' p p' ks vs r _ ih =>
    obtain ⟨pairs, hl, _, he, hw⟩ := ih
    refine ⟨(eval (.Constant (.str k) c p) env, (do let x ← eval (.Constant (.str v) c' p') env; standAt pos; pure x)) :: pairs, by simp [hl], fun h => (by cases h), ?_, fun M prog w A E s Q h => ?_⟩
    · show ((some (eval (.Constant (.str k) c p) env), _) :: _) = _
      rw [List.map_cons, ← he]
      rfl
    · refine evalPairs_cons (Calls.Constant_str (wpAny_bind (Calls.Constant_str (wpAny_bind (wpAny_standAt (wpAny_pure ?_))))))
      refine hw M prog w A E _ _ fun us kvs t ht hc hk hr hus => ?_
      refine h _ ((k, .str v (s.toks + 1)) :: kvs) t (by have : s.toks + 1 + 1 ≤ t := ht; omega) ⟨strKind_is _ _ _ _, rfl, hc⟩ (by simp [hk]) (fun Z => .cons (.str _ _) (hr Z)) (by simp [hus])

theorem merged_new {K : Type} [DecidableEq K] : ∀ (more acc : List (K × Value)), ((acc ++ more).map (·.1)).Nodup → merged acc more = acc ++ more
  | [], acc, _ => by simp [merged]
  | (k, v) :: more, acc, h => by
    have hk : acc.any (fun kv => kv.1 = k) = false := by
      rw [List.any_eq_false]
      intro kv hkv
      simp only [decide_eq_true_eq]
      intro q
      rw [List.map_append, List.nodup_append] at h
      exact h.2.2 kv.1 (List.mem_map_of_mem hkv) k (by simp) q
    have e : merged acc ((k, v) :: more) = merged (acc ++ [(k, v)]) more := by
      show merged (stored acc k v) more = _
      unfold stored
      rw [hk]; rfl
    rw [e, merged_new more (acc ++ [(k, v)]) (by simpa using h)]
    simp

theorem ev_dict {ks : List (Option PySem.Expr)} {vs : List PySem.Expr} {r : List (Str × Str)} (h : ConstPairs ks vs r) (h0 : r ≠ []) (hl : r.length ≤ 15) (hn : (r.map (·.1)).Nodup) : Ev G env n ρ (.Dict ks vs pos) (.dict (r.map (·.1)) (r.map fun p => .str p.2)) := by
  constructor
  intro A Z H s R S
  obtain ⟨pairs, hp, hp0, he, hw⟩ := const_shape (G := G) (env := env) (pos := pos) h
  refine wp_tok (wpAny_Dict_pairs (knd := strKind G.prog G.w) he (fun q => h0 (hp0 q)) (by omega) (hw ⟨denote table, G.prog, G.w⟩ G.prog G.w A _ _ _ fun us kvs t ht hc hk hr hus => ⟨kvs, hc, ?_, fun h' hd hs tok => ?_⟩))
  · exact Heap.dictOf_iff.mpr ⟨_, Heap.get?_push_size _ rfl, #[], 0, ⟨rfl, rfl, rfl⟩, rfl, fun e he => by simp at he, .nil, List.nodup_nil⟩
  · have hm : merged [] kvs = kvs := by rw [merged_new kvs [] (by simpa [hk] using hn)]; rfl
    rw [hm] at hd
    obtain ⟨o, ho, hod⟩ := Heap.dictOf_iff.mp hd
    have hlow : (s.heap.objs.size == sysModules) = false := by
      have := modules_low S.bs.nolimit
      rw [beq_eq_false_iff_ne]; exact Nat.ne_of_gt this
    have hZn : Z s.heap.objs.size = none := by
      cases q : Z s.heap.objs.size with
      | none => rfl
      | some ob => have := S.zin _ _ q; rw [get?_size_none] at this; cases this
    have le := Zadd.le (o := o) hZn
    have keep : ∀ b ob, s.heap.get? b = some ob → h'.get? b = some ob := fun b ob e => hs.extBut b ob (Nat.ne_of_lt (Heap.lt_size e)) (Heap.get?_push_of_some _ e)
    refine ⟨Zadd Z s.heap.objs.size o, ⟨le, keep, fun b ob e => ?_, fun b ob e => ?_, rfl, rfl, tok⟩, ?_⟩
    · by_cases q : b = s.heap.objs.size
      · subst q; rw [Zadd.self] at e; cases e; exact ho
      · rw [show Zadd Z s.heap.objs.size o b = Z b from if_neg q] at e; exact keep _ _ (S.zin _ _ e)
    · by_cases q : b = s.heap.objs.size
      · subst q; exact .inr (get?_size_none _)
      · rw [show Zadd Z s.heap.objs.size o b = Z b from if_neg q] at e; exact .inl e
    · rw [← hk]; exact .dict Zadd.self hlow hod (hr _)

end
end Mine
end
section
open PySem PySem.W PyProof.Rows
set_option linter.unusedVariables false
namespace Mine

section
variable {G : Gnd} {env : Env} {Z Z' H H' : Zf} {ρ ρ' ρc : Loc} {s s' : Shared} {A : Around} {E : Value → Shared → Prop} {n : Nat} {pos apos : Pos}

/-- an object is made that is not frozen -/
theorem Ext.push {o : Obj} {t : Nat} (hz : ∀ a o, Z a = some o → s.heap.get? a = some o) (ht : s.toks ≤ t) : Ext Z s Z { s with heap := s.heap.push o, toks := t } :=
  ⟨Zle.same, fun a ob h => Heap.get?_push_of_some _ h, fun a ob h => Heap.get?_push_of_some _ (hz a ob h), fun _ _ h => .inl h, rfl, rfl, ht⟩

-- what is gone through
theorem itr_list {ds : List D} : Itr G (.list ds) ds := Itr.mk fun A Z s v R b r => by
  cases r with
  | @list a vs k _ hz ra =>
    have hl := isList_of (b.zin _ _ hz)
    refine wpAny_pyIter_list hl ⟨s.heap.objs.size, [s.heap.objs.size, a], fun i v => vs.toArray[i]? = some v, fun i h => h.IsListIter s.heap.objs.size a i ∧ h.IsList a vs.toArray, rfl, Ext.push (t := s.toks) b.zin (Nat.le_refl _), get?_size_none _, fun A' hA => ?_, ?_, ?_, ?_, ?_⟩
    · have := Walks.list (prog := G.prog) (w := G.w) hA s.heap.objs.size a (fun q => by have := b.zin _ _ hz; rw [q, get?_size_none] at this; cases this) vs.toArray
      have e : vs.toArray.size = ds.length := by rw [List.size_toArray, ra.length]
      rwa [e] at this
    · intro c hc
      rcases List.mem_cons.mp hc with rfl | hc
      · exact .inl rfl
      · rw [List.mem_singleton] at hc; subst hc; exact .inr ⟨_, hz⟩
    · exact ⟨⟨_, Heap.get?_push_size _ rfl, rfl, rfl⟩, hl.push _⟩
    · rintro i h ⟨⟨o, ho, hc, _⟩, _⟩
      exact ⟨o, _, ho, hc, by decide⟩
    · intro i v hv
      have hv' : vs[i]? = some v := by simpa using hv
      have hlt : i < ds.length := by rw [← ra.length]; exact (List.getElem?_eq_some_iff.mp hv').1
      obtain ⟨w, hw, rw'⟩ := ra.get (i := i) (d := ds[i]) (by simp [hlt])
      rw [hv'] at hw; cases hw
      exact ⟨ds[i], by simp [hlt], rw'⟩

def charsOf (x : Str) : List D := x.cps.toList.map fun c => .str ⟨#[c]⟩
theorem itr_str {x : Str} : Itr G (.str x) (charsOf x) := Itr.mk fun A Z s v R b r => by
  cases r with
  | str x t =>
    have hlen : (charsOf x).length = x.cps.size := by simp [charsOf]
    have hP : ∀ i v, SignAt x i v → ∃ d, (charsOf x)[i]? = some d ∧ Rep G Z v d := by
      rintro i v ⟨c, u, hc, rfl⟩
      exact ⟨.str ⟨#[c]⟩, by simp [charsOf, hc], .str _ _⟩
    cases ha : x.cps.all (· < 128)
    · refine wpAny_pyIter_wide ha ⟨s.heap.objs.size, [s.heap.objs.size], SignAt x, fun i h => h.IsStrIter s.heap.objs.size "str_iterator" x t i, rfl, Ext.push (t := s.toks) b.zin (Nat.le_refl _), get?_size_none _, fun A' hA => ?_, fun c hc => .inl (by simpa using hc), ⟨_, Heap.get?_push_size _ rfl, rfl, rfl⟩, ?_, hP⟩
      · rw [hlen]; exact Walks.strWide hA _ x t
      · rintro i h ⟨o, ho, hc, _⟩; exact ⟨o, _, ho, hc, by decide⟩
    · refine wpAny_pyIter_ascii ha ⟨s.heap.objs.size, [s.heap.objs.size], SignAt x, fun i h => h.IsStrIter s.heap.objs.size "str_ascii_iterator" x t i, rfl, Ext.push (t := s.toks) b.zin (Nat.le_refl _), get?_size_none _, fun A' hA => ?_, fun c hc => .inl (by simpa using hc), ⟨_, Heap.get?_push_size _ rfl, rfl, rfl⟩, ?_, hP⟩
      · rw [hlen]; exact Walks.strAscii hA _ x t
      · rintro i h ⟨o, ho, hc, _⟩; exact ⟨o, _, ho, hc, by decide⟩

theorem itr_rng {a b : Int} (ha : -(2 ^ 62) ≤ a) (ha' : a < 2 ^ 62) (hb : -(2 ^ 62) ≤ b) (hb' : b < 2 ^ 62) : Itr G (.rng a b) ((List.range (b - a).toNat).map fun (i : Nat) => .int (a + i)) := Itr.mk fun A Z s v R b' r => by
  cases r with
  | @rng x _ _ t u v hz =>
    have hr : IsRange s.heap x a b 1 t u v := b'.zin _ _ hz
    have hsz : Builtin.Range.rangeSize a b 1 = ((b - a).toNat : Int) := by rw [rangeSize_one]; split <;> omega
    refine wpAny_pyIter_range hr (small_one ha ha' hb hb') ⟨s.heap.objs.size, [s.heap.objs.size], fun i v => i < (b - a).toNat ∧ ∃ t, v = .int (a + i * 1) t, fun i h => IsRangeIter h s.heap.objs.size (a + (i : Nat) * 1) (((b - a).toNat : Int) - (i : Nat)) 1, rfl, Ext.push (t := s.toks) b'.zin (Nat.le_refl _), get?_size_none _, fun A' hA => ?_, fun c hc => .inl (by simpa using hc), ?_, ?_, ?_⟩
    · rw [List.length_map, List.length_range]
      exact walks_lt (Walks.range hA s.heap.objs.size a 1 (b - a).toNat)
    · have := Heap.get?_push_size s.heap (o := { cls := .type "range_iterator", data := .fields #[rawInt a, rawInt (Builtin.Range.rangeSize a b 1), rawInt 1] }) rfl
      rw [hsz] at this
      rw [hsz]
      simpa using this
    · intro i h hi; exact ⟨_, _, hi, rfl, by decide⟩
    · rintro i v ⟨hi, t, rfl⟩
      exact ⟨.int (a + i), by simp [hi], by rw [Int.mul_one]; exact .int _ _⟩
where walks_lt {prog : Program} {w : World} {A : Around} {I : Addr} {fp wr : List Addr} {n : Nat} {P : Nat → Value → Prop} {St : Nat → Heap → Prop} (W : Walks prog w A I fp wr n P St) : Walks prog w A I fp wr n (fun i v => i < n ∧ P i v) St :=
    ⟨W.sub, W.frame, fun i s Q E hi st hQ => W.item i s Q E hi st fun v h' tk p st' k => hQ v h' tk ⟨hi, p⟩ st' k, W.done, W.self⟩

theorem bt_range1 {b : Int} : BT G "range" [.int b] (.rng 0 b) := BT.mk fun A Z s vs R bs r => by
  cases r with | cons r rs => cases rs; cases r; exact call_range_1 ⟨_, Ext.alloc bs.zin rfl (by omega), .rng Zadd.self⟩
-- cuts
theorem ev_slice {l u : Option PySem.Expr} {lo hi : Option Int} (hl : match l, lo with | none, none => True | some e, some i => Ev G env n ρ e (.int i) | _, _ => False)
    (hu : match u, hi with | none, none => True | some e, some i => Ev G env n ρ e (.int i) | _, _ => False) : Ev G env n ρ (.Slice l u none pos) (.slc lo hi) := by
  constructor
  intro A Z H s R S
  have part : ∀ (e : Option PySem.Expr) (i : Option Int), (match e, i with | none, none => True | some e, some i => Ev G env n ρ e (.int i) | _, _ => False) → ∀ Z₁ s₁, St G env Z₁ H ρ s₁ →
      wpAny (model G.prog G.w) A (valueOrNone (evalOpt e env)) (fun v s' => ∃ Z', Ext Z₁ s₁ Z' s' ∧ IsPart v i) (fun _ _ => False) s₁ := by
    intro e i h Z₁ s₁ S₁
    cases e <;> cases i <;> first | exact h.elim | skip
    · exact wpAny_pure ⟨Z₁, S₁.same, .none⟩
    · exact wp_seq (h.run A Z₁ H s₁ R S₁) fun v s' ⟨Z', x, r⟩ => by cases r; exact ⟨Z', x, .int _ _⟩
  show wpAny _ _ (do
    let l ← valueOrNone (evalOpt l env)
    let u ← holding [l] (valueOrNone (evalOpt u env))
    let s ← holding [l, u] (valueOrNone (evalOpt none env))
    newFields "slice" [l, u, s]) _ _ _
  refine wpAny_bind (wp_seq (part l lo hl Z s S) fun vl s₁ ⟨Z₁, x₁, p₁⟩ => wpAny_bind (wpAny_holding (wp_seq (part u hi hu Z₁ s₁ (S.ext x₁)) fun vu s₂ ⟨Z₂, x₂, p₂⟩ => wpAny_bind (wpAny_holding (wpAny_pure ?_)))))
  refine wpAny_newObj_type ⟨_, x₁.trans (x₂.trans (Ext.alloc (t := s₂.toks) ((S.ext x₁).ext x₂).zin rfl (Nat.le_refl _))), .slc Zadd.self p₁ p₂⟩

theorem sb_slice_str {value slice : PySem.Expr} {x : Str} {lo hi : Option Int} (hn : x.length ≤ sizeLine) : Sb G value slice (.str x) (.slc lo hi) (.str (Txt.slice x lo hi)) := Op2.mk fun A Z s v₁ v₂ R b r₁ r₂ => by
  cases r₁ with
  | str x t =>
    cases r₂ with
    | @slc a vl vu _ _ hz pl pu =>
      have go : ∀ (l u : Option (Int × Tok)), vl = partValue l → vu = partValue u → lo = l.map (·.1) → hi = u.map (·.1) → wpAny (model G.prog G.w) A (getItem (.str x t) (.ref a)) (fun v s' => ∃ Z', Ext Z s Z' s' ∧ Rep G Z' v (.str (Txt.slice x lo hi))) (fun _ _ => False) s := by
        rintro l u rfl rfl rfl rfl
        exact wp_tok (wpAny_getItem_str_slice (st := none) ⟨_, b.zin _ _ hz, rfl, rfl⟩ rfl (post_val_or_str ⟨Nat.le_trans (Txt.slice_le x _ _) hn, fun t' k tok => b.y tok (.str _ _)⟩))
      refine tail_all (typeIs_str _ _ _) F.slot_str_getitem.lookup ?_
      cases pl with
      | none => cases pu with
        | none => exact go none none rfl rfl rfl rfl
        | int j u => exact go none (some (j, u)) rfl rfl rfl rfl
      | int i t' => cases pu with
        | none => exact go (some (i, t')) none rfl rfl rfl rfl
        | int j u => exact go (some (i, t')) (some (j, u)) rfl rfl rfl rfl

end
end Mine
end
section
open PySem PySem.W PyProof.Rows PySem.Builtin PySem.Builtin.Str
set_option linter.unusedVariables false
set_option maxRecDepth 100000
namespace Mine

section
variable {G : Gnd} {env : Env} {Z Z' H H' : Zf} {ρ ρ' ρc : Loc} {s s' : Shared} {A : Around} {E : Value → Shared → Prop} {n : Nat} {pos apos : Pos}

-- rows of texts
abbrev txs (xs : List Str) : List D := xs.map .str
theorem repAll_strs : ∀ (l : List (Str × Tok)), RepAll G Z (strValues l) (txs (l.map (·.1)))
  | [] => .nil
  | _ :: r => .cons (.str _ _) (repAll_strs r)
theorem strs_of_repAll : ∀ {vs : List Value} {xs : List Str}, RepAll G Z vs (txs xs) → ∃ l, strValues l = vs ∧ l.map (·.1) = xs
  | [], [], _ => ⟨[], rfl, rfl⟩
  | v :: vs, x :: xs, .cons r rs => by
    obtain ⟨l, e1, e2⟩ := strs_of_repAll rs
    cases r with
    | str _ t => exact ⟨(x, t) :: l, by rw [← e1]; rfl, by rw [← e2]; rfl⟩
theorem strs_made {l : List (Str × Tok)} {xs : List Str} {k t : Nat} (b : Bs G Z s) (hl : l.map (·.1) = xs) (ht : s.toks ≤ t) :
    ∃ Z', Ext Z s Z' { s with heap := s.heap.push { cls := .type "list", data := .seq (strValues l).toArray k }, toks := t } ∧ Rep G Z' (.ref s.heap.objs.size) (.list (txs xs)) :=
  ⟨_, Ext.alloc b.zin rfl ht, by subst hl; exact .list Zadd.self (repAll_strs l)⟩

-- methods of texts
theorem getm_str {name : Str} {id : String} {x : Str} (slot : Slot "str" name id) (hty : typeOf (.builtin id) = pure (.type "method_descriptor")) : GetM G name (.str x) id :=
  GetM.mk fun M A pl Z s v Q E hz r h => by cases r; exact getMethod_builtin (typeIs_str _ _ _) F.plainAttrs_str slot hty (fun a e => (by cases e)) h

theorem bf_join {x : Str} {xs : List Str} (hok : JoinOk x xs = true) : BF G "str.join" [.str x, .list (txs xs)] (.str (Txt.join x xs)) := BF.mk fun A Z s vs R b r => by
  cases r with
  | cons r rs =>
    cases rs with
    | cons r₂ rs =>
      cases rs; cases r
      cases r₂ with
      | list hz ra =>
        obtain ⟨l, e1, e2⟩ := strs_of_repAll ra
        subst e1
        exact wp_tok (SC.join (isList_of (b.zin _ _ hz)) e2 hok fun t' k tok => b.y tok (.str _ _))
theorem bf_split {x y : Str} (hy : (y.length == 0) = false) (hsz : x.length + 2 ≤ sizeLine) : BF G "str.split" [.str x, .str y] (.list (txs (Txt.split x y))) := BF.mk fun A Z s vs R b r => by
  cases r with
  | cons r rs =>
    cases rs with
    | cons r₂ rs =>
      cases rs
      cases r with
      | str x t =>
        cases r₂ with
        | str y u =>
          have hsz2 : (partsBetween x (occurrences x y 0 x.length (x.length + 1)) y.length).length ≤ sizeLine := by
            rw [length_partsBetween]
            have e := StrLaws.occ_length_le x y 0 x.length (x.length + 1)
            omega
          refine wp_tok ?_
          cases h1 : (decide (x.length < y.length) || decide (strKind x < strKind y))
          · cases hf : (occurrences x y 0 x.length (x.length + 1)).isEmpty
            · refine call_meets F.slot_str_split (typeIs_str _ _ _) F.entry_str_split (F.args_str_split_2 _ _) (meets_str_split_sep x y t u h1 hy hf (by omega) hsz2) ?_
              show wants _ _ _ { s with toks := _, heap := s.heap.push { cls := .type "list", data := .seq (strsFrom s.toks (partsBetween x (occurrences x y 0 x.length (x.length + 1)) y.length)).toArray } }
              rw [strsFrom_eq]
              exact fun tok => strs_made b ((numbered_texts _ _).trans ((if_neg (ne_true_of_eq_false h1)).trans (if_neg (ne_true_of_eq_false hf))).symm) tok
            · exact call_meets F.slot_str_split (typeIs_str _ _ _) F.entry_str_split (F.args_str_split_2 _ _) (meets_str_split_not_found x y t u h1 hy hf)
                (fun tok => strs_made (l := [(x, t)]) b ((if_neg (ne_true_of_eq_false h1)).trans (if_pos hf)).symm tok)
          · exact call_meets F.slot_str_split (typeIs_str _ _ _) F.entry_str_split (F.args_str_split_2 _ _) (meets_str_split_cannot_occur x y t u h1)
              (fun tok => strs_made (l := [(x, t)]) b (if_pos h1).symm tok)

/-- x.replace('..', '..') with two written texts -/
theorem ev_replace {o : PySem.Expr} {x y z : Str} {c c' : Nat} {p p' : Pos} {pl : Sem Bool} (ho : Ev G env n ρ o (.str x)) (hb : x.length + (x.length + 1) * z.length ≤ 16777216)
    (he : eval (.Call (.Attribute o "replace" apos) [.Constant (.str y) c p, .Constant (.str z) c' p'] [] pos) env = (do
      let ov ← eval o env
      standAt apos.atName
      let (f, first) ← holding [ov] (getMethod ov "replace" pl)
      callWith pos f first (backTo pos (starEach [.Constant (.str y) c p, .Constant (.str z) c' p'] env)) [])) :
    Ev G env n ρ (.Call (.Attribute o "replace" apos) [.Constant (.str y) c p, .Constant (.str z) c' p'] [] pos) (.str (Txt.replace x y z)) := by
  constructor
  intro A Z H s R S
  refine MethodCall_ (wp_seq (ho.run A Z H s R S) fun v s₁ ⟨Z₁, x₁, r₁⟩ => ?_) he
  have S₁ := S.ext x₁
  cases r₁ with
  | str x t =>
    refine getMethod_builtin (typeIs_str _ _ _) F.plainAttrs_str F.slot_str_replace F.type_str_replace (fun a e => (by cases e)) ?_
    refine Calls.callWith_builtin rfl (wp_evalArgs rfl (spliced_more (Calls.Constant_str (spliced_more (Calls.Constant_str (spliced_none ?_))))))
    have tk := S₁.tk
    refine wpAny_with_toks (n := s₁.toks) (by show s₁.toks ≤ s₁.toks + 1 + 1; omega) (SC.replaceA (s := { s₁ with toks := s₁.toks + 1 + 1 }) (by show s₁.toks ≠ 0; omega) (by show s₁.toks + 1 ≠ 0; omega) (by show s₁.toks ≠ s₁.toks + 1; omega) hb (fun t' k tok => ⟨Z₁, x₁.trans (Ext.tok S₁.zin tok), .str _ _⟩) S₁.bs.nb)

/-- try, where nothing is raised -/
theorem ex_try {body : List Stmt} {h₀ : ExceptHandler} {hs : List ExceptHandler} {Φ : Fl → Loc → Prop} (h : Exs G env n ρ body Φ) : Ex G env n ρ (.Try body (h₀ :: hs) [] [] pos) Φ :=
  Ex.mk fun A Z H s R S => wpAny_Try_except (wpAny_mono (h.run A Z H s R S) (fun f s₁ h₁ => by
    cases f with
    | next => exact wpAny_execs_nil h₁
    | _ => exact h₁) fun _ _ x => x.elim)

-- rows compared
open PySem.SeqAt in
theorem op_eq_strs {xs ys : List Str} : Op2 G (compareOp .Eq) (.list (txs xs)) (.list (txs ys)) (.bool (xs == ys)) := Op2.mk fun A Z s v₁ v₂ R b r₁ r₂ => by
  cases r₁ with
  | list hz ra =>
    cases r₂ with
    | list hz' ra' =>
      obtain ⟨l, e1, e2⟩ := strs_of_repAll ra
      obtain ⟨l', e1', e2'⟩ := strs_of_repAll ra'
      subst e1 e1' e2 e2'
      have hl := isList_of (b.zin _ _ hz)
      have hl' := isList_of (b.zin _ _ hz')
      have sz : (strValues l).toArray.size = l.length := by simp [strValues]
      have sz' : (strValues l').toArray.size = l'.length := by simp [strValues]
      by_cases hlen : l.length = l'.length
      · refine eq_listAt (e := fun j => (l.map (·.1))[j]? == (l'.map (·.1))[j]?) hl hl' (by rw [sz, sz', hlen]) (by have := R.units; omega) (fun j h1 h2 => ?_) ⟨Z, b.same, ?_⟩
        · rw [sz] at h1; rw [sz'] at h2
          have ea : (strValues l).toArray[j] = .str l[j].1 l[j].2 := by simp [strValues]
          have eb : (strValues l').toArray[j] = .str l'[j].1 l'[j].2 := by simp [strValues]
          rw [ea, eb]
          have := EqAt.str_str (A := A.in1) (s := s) l[j].1 l[j].2 l'[j].1 l'[j].2
          simpa [h1, h2] using this
        · rw [sz]
          have : ((List.range l.length).all fun j => (l.map (·.1))[j]? == (l'.map (·.1))[j]?) = (l.map (·.1) == l'.map (·.1)) := by
            rw [Bool.eq_iff_iff]
            simp only [List.all_eq_true, List.mem_range, beq_iff_eq]
            constructor
            · intro h
              apply List.ext_getElem?
              intro i
              by_cases hi : i < l.length
              · exact h i hi
              · rw [List.getElem?_eq_none (by simpa using hi), List.getElem?_eq_none (by simp; omega)]
            · intro h i _; rw [h]
          rw [this]; exact .bool _
      · refine eq_list_lengthsAt hl hl' (by rw [sz, sz']; simpa using hlen) (by have := R.units; omega) ⟨Z, b.same, ?_⟩
        have : (l.map (·.1) == l'.map (·.1)) = false := by
          rw [beq_eq_false_iff_ne]; intro h; exact hlen (by simpa using congrArg List.length h)
        rw [this]; exact .bool _
open PySem.SeqAt in
theorem op_eq_nil {ds : List D} : Op2 G (compareOp .Eq) (.list ds) (.list []) (.bool ds.isEmpty) := Op2.mk fun A Z s v₁ v₂ R b r₁ r₂ => by
  cases r₁ with
  | list hz ra =>
    cases r₂ with
    | list hz' ra' =>
      cases ra'
      have hl := isList_of (b.zin _ _ hz)
      have hl' := isList_of (b.zin _ _ hz')
      cases ra with
      | nil => exact eq_listAt (e := fun _ => true) hl hl' rfl (by have := R.units; omega) (fun j h1 _ => absurd h1 (by simp)) ⟨Z, b.same, .bool _⟩
      | cons r rs => exact eq_list_lengthsAt hl hl' (by simp) (by have := R.units; omega) ⟨Z, b.same, .bool _⟩
open PySem.SeqAt in
theorem op_ne_nil {ds : List D} : Op2 G (compareOp .NotEq) (.list ds) (.list []) (.bool (!ds.isEmpty)) := Op2.mk fun A Z s v₁ v₂ R b r₁ r₂ => by
  cases r₁ with
  | list hz ra =>
    cases r₂ with
    | list hz' ra' =>
      cases ra'
      have hl := isList_of (b.zin _ _ hz)
      have hl' := isList_of (b.zin _ _ hz')
      cases ra with
      | nil => exact RcNeAt.lists (e := fun _ => true) hl hl' rfl (by have := R.units; omega) (fun j h1 _ => absurd h1 (by simp)) G.prog G.w _ _ ⟨Z, b.same, .bool _⟩
      | cons r rs => exact RcNeAt.lists_lengths hl hl' (by simp) (by have := R.units; omega) G.prog G.w _ _ ⟨Z, b.same, .bool _⟩

end
end Mine
end
section
open PySem PySem.W PyProof.Rows
set_option linter.unusedVariables false
set_option maxRecDepth 100000
namespace Mine
def stOf (p : Program) (i : Nat) : Stmt := p.main.body.getD i (.Pass ⟨0, 0, 0, 0⟩)
def bodyOf : Stmt → List Stmt
  | .FunctionDef _ _ b _ _ _ _ _ _ _ => b
  | _ => []
def fdOf (st : Stmt) (doc pm cdv ct : Value) : FuncData := match st with
  | .FunctionDef name args body _ _ _ scope _ _ _ => fnX name name args body scope [] .none .none doc pm none cdv ct
  | _ => default

section
variable {G : Gnd} {env : Env} {Z Z' H H' : Zf} {ρ ρ' ρc : Loc} {s s' : Shared} {A : Around} {E : Value → Shared → Prop} {n : Nat} {pos apos : Pos}

theorem sub_nil : Sub [] ρ := fun x b h => by simp at h
theorem sub_cons {x : Str} {b : B} (h : ρ'.lookup x = some b) (hs : Sub ρ ρ') : Sub ((x, b) :: ρ) ρ' := fun y c e => by
  rw [List.lookup_cons] at e
  by_cases q : y = x
  · subst q; simp at e; subst e; exact h
  · rw [beq_eq_false_iff_ne.mpr q] at e; exact hs y c e
theorem exs_weaken {sts : List Stmt} {Φ : Fl → Loc → Prop} (hs : Sub ρ ρ') (h : Exs G env n ρ sts Φ) : Exs G env n ρ' sts Φ := Exs.mk fun A Z H s R S => h.run A Z H s R (S.weaken hs)
theorem asg_weaken {e : PySem.Expr} {d : D} {ρ'' : Loc} (hs : Sub ρ ρ') (h : Asg G env e d ρ ρ'') : Asg G env e d ρ' ρ'' := Asg.mk fun A Z H s v R S r => h.run A Z H s v R (S.weaken hs) r

/-- a for, by what is known of the names at each turn -/
theorem ex_forI {tgt iter : PySem.Expr} {body : List Stmt} {d : D} {ds : List D} {Φ : Fl → Loc → Prop} (I : Nat → Loc) (h : Ev G env n ρ iter d) (hi : Itr G d ds) (h0 : Sub (I 0) ρ)
    (turn : ∀ i d, ds[i]? = some d → ∃ ρ'', Asg G env tgt d (I i) ρ'' ∧ Exs G env n ρ'' body (LoopPost Φ (Sub (I (i + 1)))))
    (done : ∀ ρ', Sub (I ds.length) ρ' → Φ .next ρ') (hs : ∀ x, foldedSetIterable iter env x = pure x) : Ex G env n ρ (.For tgt iter body [] pos) Φ :=
  ex_for (fun i ρ' => Sub (I i) ρ') h hi h0 (fun i d ρ' hd hsub => by
    obtain ⟨ρ'', ha, hb⟩ := turn i d hd
    exact ⟨ρ'', asg_weaken hsub ha, hb⟩) done hs

theorem then_next {Φ : Fl → Loc → Prop} {K : Loc → Prop} (h : K ρ) : Then Φ K .next ρ := h


-- cheap looks at the text
theorem star_cons {e : PySem.Expr} {es : List PySem.Expr} (h : isStarred e = false) : starEach (e :: es) env = (false, eval e env) :: starEach es env := by
  cases e <;> first | rfl | cases h
theorem star_all : ∀ {es : List PySem.Expr}, es.any isStarred = false → (starEach es env).any (·.1) = false
  | [], _ => rfl
  | e :: es, h => by
    rw [List.any_cons, Bool.or_eq_false_iff] at h
    rw [star_cons h.1, List.any_cons, star_all h.2]; rfl
theorem evs_more {e : PySem.Expr} {es : List PySem.Expr} {d : D} {ds : List D} (h : Ev G env n ρ e d) (h' : Evs G env n ρ es ds) (hs : isStarred e = false) : Evs G env n ρ (e :: es) (d :: ds) := evs_cons h h' (star_cons hs)
def isAttr : PySem.Expr → Bool
  | .Attribute .. => true
  | _ => false
theorem eval_call {f : PySem.Expr} {es : List PySem.Expr} (h : isAttr f = false) : eval (.Call f es [] pos) env = (do callWith pos (← eval f env) [] (backTo pos (starEach es env)) []) := by
  cases f <;> first | rfl | cases h
def isNameCall : PySem.Expr → Bool
  | .Call (.Name ..) [] [] _ => true
  | _ => false
theorem base_same {o : PySem.Expr} {name : Str} {t : Sem Value} (h : isNameCall o = false) : attributeBase o name env t = t := by
  unfold attributeBase
  split
  · rename_i h'; cases h
  · rfl
theorem form_all : ∀ {es : List PySem.Expr}, es.any isStarred = false → (backTo pos (starEach es env)).all (fun x => !x.1) = true
  | [], _ => rfl
  | e :: es, h => by
    rw [List.any_cons, Bool.or_eq_false_iff] at h
    rw [star_cons h.1]
    show (!false && (backTo pos (starEach es env)).all (fun x => !x.1)) = true
    rw [form_all h.2]; rfl
theorem eval_method {o : PySem.Expr} {name : Str} {es : List PySem.Expr} (hb : isNameCall o = false) (hst : es.any isStarred = false) (hlen : es.length < 30) (hline : (apos.endLine == pos.line) = true) :
    eval (.Call (.Attribute o name apos) es [] pos) env = (do
      let ov ← eval o env
      standAt apos.atName
      let (f, first) ← holding [ov] (getMethod ov name (do return (← importBound o env).getD true))
      callWith pos f first (backTo pos (starEach es env)) []) := by
  have hform : methodCallForm (es.length + ([] : List Keyword).length) (backTo pos (starEach es env)) (backToKw pos (keywordEach [] env)) = true := by
    unfold methodCallForm
    rw [form_all hst]
    have e : backToKw pos (keywordEach [] env) = [] := rfl
    rw [e]
    simpa using hlen
  show (do
    let ov ← attributeBase o name env (eval o env)
    standAt apos.atName
    methodCall o name apos pos env ov (es.length + ([] : List Keyword).length) (backTo pos (starEach es env)) (backToKw pos (keywordEach [] env))) = _
  rw [base_same hb]
  unfold methodCall calleeOf
  simp only [hform, if_true]
  have hp : methodCallPos true o env apos pos = pure pos := by unfold methodCallPos; simp [hline]
  simp only [hp, pure_bind]
  rfl

theorem ev_call {f : PySem.Expr} {es : List PySem.Expr} {a : Addr} {ds : List D} {d : D} (hf : Ev G env n ρ f (.fn a)) (h : Evs G env n ρ es ds) (hk : keepIn G.K (.ref a) = true) (hc : Fn G n a ds d) (hst : es.any isStarred = false) (ha : isAttr f = false) : Ev G env n ρ (.Call f es [] pos) d :=
  ev_callFn hf h hk hc (star_all hst) (eval_call ha)
theorem ev_bf {x : Str} {p : Pos} {id : String} {es : List PySem.Expr} {ds : List D} {d : D} (h : Evs G env n ρ es ds) (hc : BF G id ds d) (e : nsIn G.K mainGlobals x = some none) (hv : bootBuiltins x = some (.builtin id)) (hx : env.kindOf x = some .globalImplicit)
    (hd : ((x == ("__debug__" : Str)) || (x == ("__name__" : Str))) = false) (hst : es.any isStarred = false) : Ev G env n ρ (.Call (.Name x p) es [] pos) d :=
  ev_callBF h hc e hv (by rw [Bool.or_eq_false_iff] at hd; exact beq_eq_false_iff_ne.mp hd.2) hx (by rw [Bool.or_eq_false_iff] at hd; exact hd.1) (star_all hst) (eval_call rfl)
theorem ev_bt {x : Str} {p : Pos} {T : String} {es : List PySem.Expr} {ds : List D} {d : D} (h : Evs G env (n + 1) ρ es ds) (hc : BT G T ds d) (e : nsIn G.K mainGlobals x = some none) (hv : bootBuiltins x = some (.type T)) (hx : env.kindOf x = some .globalImplicit)
    (hd : ((x == ("__debug__" : Str)) || (x == ("__name__" : Str))) = false) (hst : es.any isStarred = false) : Ev G env (n + 1) ρ (.Call (.Name x p) es [] pos) d :=
  ev_callBT h hc e hv (by rw [Bool.or_eq_false_iff] at hd; exact beq_eq_false_iff_ne.mp hd.2) hx (by rw [Bool.or_eq_false_iff] at hd; exact hd.1) (star_all hst) (eval_call rfl)
theorem ev_meth {o : PySem.Expr} {name : Str} {id : String} {es : List PySem.Expr} {d₀ : D} {ds : List D} {d : D} (ho : Ev G env n ρ o d₀) (h : Evs G env n ρ es ds) (g : GetM G name d₀ id) (hc : BF G id (d₀ :: ds) d)
    (hb : isNameCall o = false) (hst : es.any isStarred = false) (hlen : es.length < 30) (hline : (apos.endLine == pos.line) = true) : Ev G env n ρ (.Call (.Attribute o name apos) es [] pos) d :=
  ev_method ho g h hc (star_all hst) (eval_method hb hst hlen hline)
theorem ev_repl {o : PySem.Expr} {x y z : Str} {c c' : Nat} {p p' : Pos} (ho : Ev G env n ρ o (.str x)) (hb : x.length + (x.length + 1) * z.length ≤ 16777216) (hn : isNameCall o = false) (hline : (apos.endLine == pos.line) = true) :
    Ev G env n ρ (.Call (.Attribute o "replace" apos) [.Constant (.str y) c p, .Constant (.str z) c' p'] [] pos) (.str (Txt.replace x y z)) :=
  ev_replace ho hb (eval_method hn rfl (by show 2 < 30; decide) hline)

end
end Mine
end
section
open PySem PySem.W PyProof.Rows PySem.Builtin PySem.Builtin.Str
set_option linter.unusedVariables false
namespace Mine

/-- a text of code points -/
def T (l : List Nat) : Str := ⟨l.toArray⟩
theorem T_list (l : List Nat) : (T l).cps.toList = l := rfl
theorem T_length (l : List Nat) : (T l).length = l.length := by show l.toArray.size = _; simp
theorem T_of (x : Str) : T x.cps.toList = x := by cases x; simp [T]
theorem T_append (a b : List Nat) : T a ++ T b = T (a ++ b) := by
  show (⟨a.toArray ++ b.toArray⟩ : Str) = _
  simp [T]
theorem T_inj {a b : List Nat} (h : T a = T b) : a = b := by simpa [T_list] using congrArg (fun x => x.cps.toList) h
theorem T_one (c : Nat) : T [c] = ⟨#[c]⟩ := rfl
theorem T_beq (a b : List Nat) : (T a == T b) = decide (a = b) := by
  rw [Bool.eq_iff_iff]
  simp only [beq_iff_eq, decide_eq_true_eq]
  exact ⟨T_inj, fun h => by rw [h]⟩

/-- each sign c becomes z -/
def sub1 (c : Nat) (z l : List Nat) : List Nat := l.flatMap fun k => if k = c then z else [k]
theorem sub1_append (c : Nat) (z a b : List Nat) : sub1 c z (a ++ b) = sub1 c z a ++ sub1 c z b := by simp [sub1]
theorem sub1_free (c : Nat) (z : List Nat) : ∀ {l : List Nat}, c ∉ l → sub1 c z l = l
  | [], _ => rfl
  | k :: r, h => by
    simp only [List.mem_cons, not_or] at h
    have ih := sub1_free c z h.2
    unfold sub1 at ih ⊢
    rw [List.flatMap_cons, ih, if_neg (Ne.symm h.1)]
    rfl
theorem join_list (z : List Nat) : ∀ parts : List (List Nat), (Str.join (T z) (parts.map T)) = T ((parts.intersperse z).flatten)
  | [] => rfl
  | [a] => by simp [Str.join]
  | a :: b :: r => by
    have ih := join_list z (b :: r)
    simp only [List.map_cons] at ih ⊢
    show T a ++ T z ++ Str.join (T z) (T b :: r.map T) = _
    rw [ih, T_append, T_append]
    simp [List.intersperse]
theorem sub1_join (c : Nat) (z : List Nat) : ∀ parts : List (List Nat), (∀ p ∈ parts, c ∉ p) → sub1 c z ((parts.intersperse [c]).flatten) = (parts.intersperse z).flatten
  | [], _ => rfl
  | [a], h => by simpa using sub1_free c z (h a (by simp))
  | a :: b :: r, h => by
    have ih := sub1_join c z (b :: r) fun p hp => h p (List.mem_cons_of_mem _ hp)
    have e1 : ((a :: b :: r).intersperse [c]).flatten = a ++ ([c] ++ ((b :: r).intersperse [c]).flatten) := by simp [List.intersperse]
    have e2 : ((a :: b :: r).intersperse z).flatten = a ++ (z ++ ((b :: r).intersperse z).flatten) := by simp [List.intersperse]
    rw [e1, e2, sub1_append, sub1_append, ih, sub1_free c z (h a (by simp))]
    simp [sub1]

theorem split_lists (l : List Nat) (c : Nat) : ∃ parts : List (List Nat), Txt.split (T l) ⟨#[c]⟩ = parts.map T ∧ (∀ p ∈ parts, c ∉ p) ∧ l = (parts.intersperse [c]).flatten := by
  refine ⟨(Txt.split (T l) ⟨#[c]⟩).map (fun x => x.cps.toList), ?_, ?_, ?_⟩
  · rw [List.map_map]
    conv => lhs; rw [← List.map_id (Txt.split (T l) ⟨#[c]⟩)]
    exact List.map_congr_left fun x _ => (T_of x).symm
  · intro p hp
    obtain ⟨x, hx, rfl⟩ := List.mem_map.mp hp
    exact StrLaws.split_free (T l) c x hx
  · have h := StrLaws.join_split (T l) ⟨#[c]⟩
    have e : Txt.split (T l) ⟨#[c]⟩ = ((Txt.split (T l) ⟨#[c]⟩).map (fun x => x.cps.toList)).map T := by
      rw [List.map_map]
      conv => lhs; rw [← List.map_id (Txt.split (T l) ⟨#[c]⟩)]
      exact List.map_congr_left fun x _ => (T_of x).symm
    rw [e, ← T_one, join_list] at h
    exact (T_inj h).symm

theorem repl_T (l z : List Nat) (c : Nat) : Txt.replace (T l) ⟨#[c]⟩ (T z) = T (sub1 c z l) := by
  obtain ⟨parts, h1, h2, h3⟩ := split_lists l c
  rw [StrLaws.replace_one, h1, join_list]
  conv => rhs; rw [h3]
  rw [sub1_join c z parts h2]

theorem tin_T (l : List Nat) (c : Nat) : tin ⟨#[c]⟩ (T l) = decide (c ∈ l) := StrLaws.found_one (T l) c

end Mine
end
section
open PySem PySem.W PyProof.Rows PySem.Builtin PySem.Builtin.Str
set_option linter.unusedVariables false
namespace Mine

abbrev Tbl := List (Nat × List Nat)
def spell (t : Tbl) (k : Nat) : List Nat := (t.lookup k).getD [k]
def escBy (t : Tbl) (l : List Nat) : List Nat := l.flatMap (spell t)
theorem escBy_nil (l : List Nat) : escBy [] l = l := by
  induction l with
  | nil => rfl
  | cons k r ih =>
    show [k] ++ escBy [] r = _
    rw [ih]; rfl
theorem escBy_cons (t : Tbl) (k : Nat) (r : List Nat) : escBy t (k :: r) = spell t k ++ escBy t r := by simp [escBy]
def okFor (t : Tbl) (c : Nat) : Bool := t.all fun p => !(p.2.contains c) && !(p.1 == c)
theorem lookup_snoc (t : Tbl) (c k : Nat) (z : List Nat) : (t ++ [(c, z)]).lookup k = (t.lookup k).or (if k = c then some z else none) := by
  rw [List.lookup_append]
  congr 1
  by_cases h : k = c
  · subst h; simp
  · rw [List.lookup_cons, beq_eq_false_iff_ne.mpr h, if_neg h]; rfl
theorem sub1_spell {t : Tbl} {c : Nat} {z : List Nat} (h : okFor t c = true) (k : Nat) : sub1 c z (spell t k) = spell (t ++ [(c, z)]) k := by
  unfold spell
  rw [lookup_snoc]
  cases hk : t.lookup k with
  | none =>
    by_cases q : k = c
    · subst q; simp [sub1]
    · simp [sub1, q]
  | some y =>
    have hm : (k, y) ∈ t := by
      clear h
      induction t with
      | nil => simp at hk
      | cons p r ih =>
        obtain ⟨a, b⟩ := p
        rw [List.lookup_cons] at hk
        by_cases q : k = a
        · subst q; simp at hk; subst hk; exact List.mem_cons_self
        · rw [beq_eq_false_iff_ne.mpr q] at hk; exact List.mem_cons_of_mem _ (ih hk)
    have := (List.all_eq_true.mp h) (k, y) hm
    simp only [Bool.and_eq_true, Bool.not_eq_true', List.contains_eq_mem, decide_eq_false_iff_not] at this
    simpa using sub1_free c z this.1
theorem sub1_esc {t : Tbl} {c : Nat} {z : List Nat} (h : okFor t c = true) (l : List Nat) : sub1 c z (escBy t l) = escBy (t ++ [(c, z)]) l := by
  induction l with
  | nil => rfl
  | cons k r ih => rw [escBy_cons, escBy_cons, sub1_append, ih, sub1_spell h]
theorem spell_le {t : Tbl} {m : Nat} (hm : 1 ≤ m) (h : t.all (fun p => decide (p.2.length ≤ m)) = true) (k : Nat) : (spell t k).length ≤ m := by
  unfold spell
  induction t with
  | nil => simpa using hm
  | cons p r ih =>
    obtain ⟨a, b⟩ := p
    simp only [List.all_cons, Bool.and_eq_true, decide_eq_true_eq] at h
    rw [List.lookup_cons]
    cases q : k == a with
    | true => exact h.1
    | false => exact ih h.2
theorem esc_le {t : Tbl} {m : Nat} (hm : 1 ≤ m) (h : t.all (fun p => decide (p.2.length ≤ m)) = true) (l : List Nat) : (escBy t l).length ≤ m * l.length := by
  induction l with
  | nil => simp [escBy]
  | cons k r ih =>
    rw [escBy_cons, List.length_append, List.length_cons, Nat.mul_succ]
    have := spell_le hm h k
    omega

section
variable {G : Gnd} {env : Env} {ρ : Loc} {n : Nat}
/-- one row of an escape -/
theorem esc_step {l : List Nat} {t : Tbl} {c : Nat} {z : List Nat} {x cs zs : Str} {i1 i2 i3 : Nat} {p1 p2 p3 p4 p5 apos pos spos pos' : Pos} {rest : List Stmt} {Φ : Fl → Loc → Prop}
    (hl : ρ.lookup x = some (.val (.str (T (escBy t l))))) (hcs : cs = ⟨#[c]⟩) (hzs : zs = T z) (hok : okFor t c = true) (hm : t.all (fun p => decide (p.2.length ≤ 8)) = true) (hz : z.length ≤ 8) (hsz : l.length ≤ 100000)
    (hd : (x == ("__debug__" : Str)) = false) (hc : Can env x) (hline : (apos.endLine == pos.line) = true)
    (k : Exs G env n (upd ρ x (.val (.str (T (escBy (t ++ [(c, z)]) l))))) rest Φ) :
    Exs G env n ρ (.If (.Compare (.Constant (.str cs) i1 p1) [.In] [.Name x p2] p3) [.Assign [.Name x p4] (.Call (.Attribute (.Name x p5) "replace" apos) [.Constant (.str cs) i2 p1', .Constant (.str zs) i3 p2'] [] pos) spos] [] pos' :: rest) Φ := by
  have hb : (T (escBy t l)).length + ((T (escBy t l)).length + 1) * zs.length ≤ 16777216 := by
    have h1 := esc_le (m := 8) (by decide) hm l
    rw [hzs, T_length, T_length]
    have h2 : ((escBy t l).length + 1) * z.length ≤ (8 * l.length + 1) * 8 := Nat.mul_le_mul (by omega) hz
    omega
  have hr : Txt.replace (T (escBy t l)) cs zs = T (escBy (t ++ [(c, z)]) l) := by rw [hcs, hzs, repl_T, sub1_esc hok]
  refine exs_cons (ex_if (tst_cmp ev_str (ev_name hl hd) op_in_str rfl) (fun _ => ?_) fun hf => ?_)
  · refine exs_cons (ex_assign (ev_repl (ev_name hl hd) hb rfl hline) hc rfl ?_)
    refine exs_nil ?_
    rw [hr]
    exact k
  · refine exs_nil ?_
    refine exs_weaken ?_ k
    have : T (escBy (t ++ [(c, z)]) l) = T (escBy t l) := by
      rw [hcs, tin_T, decide_eq_false_iff_not] at hf
      rw [← sub1_esc hok, sub1_free c z hf]
    rw [this]
    intro y b e
    rw [lookup_upd] at e
    by_cases q : y = x
    · subst q; rw [if_pos rfl] at e; cases e; exact hl
    · rw [if_neg q] at e; exact e
end
end Mine
end
section
open PySem PySem.W PyProof.Rows
set_option linter.unusedVariables false
namespace Mine

theorem ns_none_of {K : Frag} {h : Heap} {a : Addr} {mc : Str → Option Value} {n : Str} (X : K.In h) (G : h.Ns a mc) (e : nsIn K a n = some none) : mc n = none := by
  obtain ⟨o, es, ep, ho, hd, _, hf⟩ := G
  unfold nsIn at e
  split at e
  · rename_i c dd es' ep' sl hk
    have := X _ _ hk
    rw [ho] at this
    cases this
    cases hd
    split at e
    · cases e
    · rename_i hfind
      rw [← hf]
      unfold nsFind findBy
      rw [← Array.find?_toList, hfind]
      rfl
  · cases e

theorem repAll_ints {G : Gnd} {Z : Zf} : ∀ {vs : List Value} {ns : List Int}, IntsAre vs ns → RepAll G Z vs (ns.map .int)
  | _, _, .nil => .nil
  | _, _, .cons n t r => .cons (.int n t) (repAll_ints r)

theorem finish {prog : Program} {w : World} {K : Frag} {p : Program} {loose : List Str} {mg mb : Str → Option Value} {s₁ : Shared} {f a : Addr} {vs : List Value} {ns : List Int} {k n : Nat} {c : ClaimW} {cl : Str → Option Addr} {mean : ExcName → Option Value} {args : List WData}
    (KX : K.In s₁.heap) (T : TopRead p loose mg mb s₁.heap) (hst : nsIn K cStatics sharingNotToldKey = some none) (hg : s₁.gens = #[]) (htk : 0 < s₁.toks) (ho : s₁.heap.get? a = some (listOf vs.toArray k)) (hI : IntsAre vs ns)
    (hn : ∀ cls, c.raises args cls = false) (hp : c.post args (.bool true) args = true) (hr : n ≤ 100)
    (h : ∀ nb, Fn ⟨prog, w, K, p, loose, mg, mb, s₁.heap, s₁.os, KX, T, nb⟩ n f [.list (ns.map .int)] (.bool true)) :
    wpAny (model prog w) callerA (call (.ref f) [.ref a]) (fun v s' => GoodWG c cl mean args s₁ (.ok (.ret v)) s') (fun e s' => GoodWG c cl mean args s₁ (.error e) s') s₁ := by
  have nb : NoneBooked s₁.heap := by
    obtain ⟨mc, hm, _⟩ := T.nolimit
    exact ⟨mc, hm, ns_none_of KX hm hst⟩
  have H := h nb
  refine wp_seq (H.run callerA (fun b => if b = a then some (listOf vs.toArray k) else none) s₁ [.ref a] ⟨rfl, ?_, ?_, rfl⟩ ⟨hg, rfl, htk, fun b o e => ?_, fun b o e => e⟩ (.cons (.list (if_pos rfl) (repAll_ints hI)) .nil)) fun v s' ⟨Z', x, r⟩ => ?_
  · show 1 + claimMargin + n < recursionLimit
    have : claimMargin = 300 := rfl
    have : recursionLimit = 1000 := rfl
    omega
  · show 4 + 8 * n < cLine
    have : cLine = 9900 := rfl
    omega
  · by_cases q : b = a
    · subst q; rw [if_pos rfl] at e; cases e; exact ho
    · rw [if_neg q] at e; cases e
  · cases r
    refine GoodW.toG ⟨.inl ⟨_, _, [], rfl, hn, .bool true, hp, unshared_nil⟩, fun b o e => x.keep b o e, x.os, x.gens.trans hg⟩
end Mine
end
section
open PySem PySem.W PyProof.Rows
set_option linter.unusedVariables false
set_option maxRecDepth 100000
namespace Mine
section
variable {G : Gnd} {env : Env} {Z Z' H : Zf} {ρ ρ' : Loc} {s s' : Shared} {A : Around} {E : Value → Shared → Prop} {n : Nat} {pos apos : Pos}

/-- an owned list is frozen for good -/
theorem exs_freeze {x : Str} {ds : List D} {sts : List Stmt} {Φ : Fl → Loc → Prop} (hx : ρ.lookup x = some (.own ds)) (h : Exs G env n (upd ρ x (.val (.list ds))) sts Φ) : Exs G env n ρ sts Φ :=
  Exs.mk fun A Z H s R S => by
    obtain ⟨Z', le, S', _⟩ := S.freeze hx
    exact wp_seq (h.run A Z' H s R S') fun f s₁ ⟨Z₁, ρ₁, fl, le₁, S₁, hf, hΦ⟩ => ⟨Z₁, ρ₁, fl, le.trans le₁, S₁, hf, hΦ⟩

theorem Has.uniq {h : Heap} {x : Str} {u v : Value} (a : Has env h x u) (b : Has env h x v) : u = v := by
  rcases a with ⟨k, m, hn, e⟩ | ⟨k, c, e, hn⟩ <;> rcases b with ⟨k', m', hn', e'⟩ | ⟨k', c', e', hn'⟩
  · rw [ns_uniq hn hn', e'] at e; exact (Option.some.inj e).symm
  · rcases k' with k' | k' <;> simp_all
  · rcases k with k | k <;> simp_all
  · rw [e] at e'; cases e'
    obtain ⟨o, ho1, ho2⟩ := hn
    obtain ⟨o', ho1', ho2'⟩ := hn'
    rw [ho1] at ho1'; cases ho1'
    rw [ho2] at ho2'
    simpa using ho2'

/-- x = [..], a list that the frame alone holds -/
theorem ex_assign_own {x : Str} {p q : Pos} {es : List PySem.Expr} {ds : List D} {Φ : Fl → Loc → Prop} (h : Evs G env n ρ es ds) (hsz : ds.length ≤ sizeLine) (hc : Can env x) (k : Φ .next (upd ρ x (.own ds))) :
    Ex G env n ρ (.Assign [.Name x p] (.List es q) pos) Φ := by
  constructor
  intro A Z H s R S
  refine wpAny_Assign_Name (List_ (wp_seq (h.run A Z H s q R S) fun vs s₁ ⟨Z₁, x₁, r₁⟩ => ?_)) rfl
  have S₁ := S.ext x₁
  refine wpAny_newObj_type ?_ (by show vs.toArray.size ≤ sizeLine; rw [List.size_toArray, r₁.length]; exact hsz)
  have S₂ := S₁.ext (Ext.push (o := { cls := .type "list", data := .seq vs.toArray }) (t := s₁.toks) S₁.zin (Nat.le_refl _))
  have hn : s₁.heap.get? s₁.heap.objs.size = none := get?_size_none _
  have new : ∀ {b : Addr} {o : Obj}, s₁.heap.get? b = some o → s₁.heap.objs.size ≠ b := fun e q => by rw [q, e] at hn; cases hn
  refine wp_seq (st_storeOwn (a := s₁.heap.objs.size) (vs := vs) (n := 0) (ds := ds) S₂ ?_ ?_ ?_ ?_ ?_ (Heap.get?_push_size _ rfl) r₁ hc) fun _ s₃ S₃ => ⟨Z₁, _, _, x₁.le, S₃, .next, k⟩
  · cases q : Z₁ s₁.heap.objs.size with
    | none => rfl
    | some o => exact absurd rfl (new (S₁.zin _ _ q))
  · cases q : H s₁.heap.objs.size with
    | none => rfl
    | some o => exact absurd rfl (new (S₁.hin _ _ q))
  · obtain ⟨m, o, _, _, e, _⟩ := S₁.ns
    exact new e
  · intro y c e
    obtain ⟨_, h1, h2⟩ := S₁.cells y c e
    cases hf : env.func.isSome with
    | true => obtain ⟨_, _, v, ob, e2, _⟩ := h1 hf; exact new e2
    | false => obtain ⟨ob, e2⟩ := h2 hf; exact new (S₁.hin _ _ e2)
  · intro y es v hy hv
    obtain ⟨oa, _, ho⟩ := S₁.owns
    obtain ⟨h1, _, _, _, _, vs', k', h6, _⟩ := ho y es hy
    have h1' := h1.keeps (h' := (s₁.heap.push { cls := .type "list", data := .seq vs.toArray })) fun b o e => Heap.get?_push_of_some _ e
    have : v = .ref (oa y) := hv.uniq h1'
    subst this
    intro q
    exact absurd (Value.ref.inj q).symm (new h6)

/-- what a method does to a list -/
structure Mut (G : Gnd) (id : String) (ds args : List D) (ds' : List D) : Prop where
  run : ∀ A Z s a vs k args', Room 0 A → Bs G Z s → Z a = none → s.heap.get? a = some (listOf vs.toArray k) → RepAll G Z vs ds → RepAll G Z args' args →
    wpAny (model G.prog G.w) A (call (.builtin id) (.ref a :: args')) (fun r s' => ∃ vs' k', s'.heap.get? a = some (listOf vs'.toArray k') ∧ RepAll G Z vs' ds' ∧ (∃ h' t, s' = { s with heap := h', toks := t } ∧ s.toks ≤ t ∧ Heap.SameBut a s.heap h')) (fun _ _ => False) s

theorem St.mutate {x : Str} {ds' : List D} {h' : Heap} {t : Nat} {vs' : List Value} {k' : Nat} (S : St G env Z H ρ s) (oa : Str → Addr) (hi : ∀ x y ds es, ρ.lookup x = some (.own ds) → ρ.lookup y = some (.own es) → oa x = oa y → x = y)
    (ho : ∀ x ds, ρ.lookup x = some (.own ds) → Has env s.heap x (.ref (oa x)) ∧ Z (oa x) = none ∧ H (oa x) = none ∧ oa x ≠ env.locals ∧ (∀ y c, env.cells.lookup y = some c → oa x ≠ c) ∧
      ∃ vs n, s.heap.get? (oa x) = some (listOf vs.toArray n) ∧ RepAll G Z vs ds) {ds : List D} (hx : ρ.lookup x = some (.own ds)) (hg : h'.get? (oa x) = some (listOf vs'.toArray k')) (hr : RepAll G Z vs' ds') (ht : s.toks ≤ t) (hs : Heap.SameBut (oa x) s.heap h') :
    St G env Z H (upd ρ x (.own ds')) { s with heap := h', toks := t } := by
  obtain ⟨h1, h2, h3, h4, h5, vs, k, h6, h7⟩ := ho x ds hx
  have has : ∀ y v, Has env s.heap y v → Has env h' y v := fun y v q => by
    rcases q with ⟨k, m, hn, e⟩ | ⟨k, c, e, hn⟩
    · exact .inl ⟨k, m, hn.sameBut hs (Ne.symm h4), e⟩
    · exact .inr ⟨k, c, e, hn.sameBut hs (Ne.symm (h5 y c e))⟩
  refine S.put ht hs h2 h3 (let ⟨m, hn⟩ := S.ns; ⟨m, hn.sameBut hs (Ne.symm h4)⟩) (fun y c e hf => ?_) (fun y d e => ?_) ⟨oa, ?_, ?_⟩
  · obtain ⟨_, g1, _⟩ := S.cells y c e
    obtain ⟨_, _, v, hv⟩ := g1 hf
    exact ⟨v, hv.sameBut hs (Ne.symm (h5 y c e))⟩
  · rw [lookup_upd] at e
    by_cases q : y = x
    · rw [if_pos q] at e; cases e
    · rw [if_neg q] at e
      obtain ⟨v, hv, r⟩ := S.vars y d e
      exact ⟨v, has y v hv, r⟩
  · intro y z es es' ey ez q
    rw [lookup_upd] at ey ez
    by_cases qy : y = x <;> by_cases qz : z = x
    · rw [qy, qz]
    · rw [if_neg qz] at ez; rw [qy] at q ⊢; exact hi x z _ _ hx ez q
    · rw [if_neg qy] at ey; rw [qz] at q ⊢; exact hi y x _ _ ey hx q
    · rw [if_neg qy] at ey; rw [if_neg qz] at ez; exact hi y z _ _ ey ez q
  · intro y es e
    rw [lookup_upd] at e
    by_cases q : y = x
    · subst q
      rw [if_pos rfl] at e; cases e
      exact ⟨has _ _ h1, h2, h3, h4, h5, vs', k', hg, hr⟩
    · rw [if_neg q] at e
      obtain ⟨g1, g2, g3, g4, g5, us, j, g6, g7⟩ := ho y es e
      exact ⟨has _ _ g1, g2, g3, g4, g5, us, j, (hs.2 _ fun z => q (hi y x _ _ e hx z)).trans g6, g7⟩

theorem wp_own {x : Str} {p : Pos} {a : Addr} {Q : Value → Shared → Prop} {M : Model} (S : St G env Z H ρ s) (hv : Has env s.heap x (.ref a)) (hd : (x == ("__debug__" : Str)) = false) (h : Q (.ref a) s) : wpAny M A (eval (.Name x p) env) Q E s := by
  refine wpAny_Name ?_ hd
  rcases hv with ⟨k, m, n, e⟩ | ⟨k, c, e, n⟩
  · exact wpAny_loadName_local S.fk k n e h
  · rcases k with k | k
    · exact wpAny_loadName_cell S.fk k e n h
    · exact wpAny_loadName_free S.fk k.1 e n h k.2

/-- x.method(..) of an owned list, as a statement -/
theorem ex_mut {x name : Str} {p pos' : Pos} {id : String} {es : List PySem.Expr} {ds args ds' : List D} {Φ : Fl → Loc → Prop} (hx : ρ.lookup x = some (.own ds)) (slot : Slot "list" name id) (hty : typeOf (.builtin id) = pure (.type "method_descriptor"))
    (h : Evs G env n ρ es args) (hm : Mut G id ds args ds') (hd : (x == ("__debug__" : Str)) = false) (hst : es.any isStarred = false) (hlen : es.length < 30) (hline : (apos.endLine == pos.line) = true) (hin : interactive env = false)
    (k : Φ .next (upd ρ x (.own ds'))) : Ex G env n ρ (.Expr (.Call (.Attribute (.Name x p) name apos) es [] pos) pos') Φ := by
  constructor
  intro A Z H s R S
  refine wpAny_Expr_any ?_ hin rfl
  rw [eval_method rfl hst hlen hline]
  obtain ⟨oa, hi, ho⟩ := S.owns
  obtain ⟨h1, h2, h3, h4, h5, vs, j, h6, h7⟩ := ho x ds hx
  refine wpAny_bind (wp_own S h1 hd (wpAny_bind (wpAny_standAt (wpAny_bind (wpAny_holding ?_)))))
  have hl := isList_of h6
  refine getMethod_builtin hl.typeIs F.plainAttrs_list slot hty (fun a e => by cases e; exact ⟨_, h6, rfl⟩) ?_
  refine Calls.callWith_builtin (starred_none (star_all hst) pos) (wp_evalArgs (starred_none (star_all hst) pos) (wp_seq (h.run A Z H s pos R S) fun us s₂ ⟨Z₂, x₂, r₂⟩ => ?_))
  have S₂ := S.ext x₂
  have n2 : ∀ y es, ρ.lookup y = some (.own es) → Has env s₂.heap y (.ref (oa y)) ∧ Z₂ (oa y) = none ∧ H (oa y) = none ∧ oa y ≠ env.locals ∧ (∀ z c, env.cells.lookup z = some c → oa y ≠ c) ∧
      ∃ vs n, s₂.heap.get? (oa y) = some (listOf vs.toArray n) ∧ RepAll G Z₂ vs es := fun y es e => by
    obtain ⟨g1, g2, g3, g4, g5, us, j, g6, g7⟩ := ho y es e
    exact ⟨g1.keeps x₂.keep, ext_none x₂ g2 ⟨_, g6⟩, g3, g4, g5, us, j, x₂.keep _ _ g6, g7.mono x₂.le⟩
  refine wp_seq (hm.run A Z₂ s₂ (oa x) vs j us (R.less (Nat.zero_le _)) S₂.bs (n2 x ds hx).2.1 (x₂.keep _ _ h6) (h7.mono x₂.le) r₂) fun r s₃ ⟨vs', k', e1, e2, h', t, e3, e4, e5⟩ => ?_
  subst e3
  exact ⟨Z₂, _, .next, x₂.le, S₂.mutate oa hi n2 hx e1 e2 e4 e5, .next, k⟩

theorem upd_list {h : Heap} {l : Addr} {its its' : Array Value} {k : Nat} (x : h.get? l = some (listOf its k)) (f : Array Value → Array Value) (e : f its = its') : ∃ k', (h.update l (Obj.mapSeq f)).get? l = some (listOf its' k') := by
  subst e
  exact ⟨_, PySem.IsL.update (n := k) x f⟩
theorem mut_append {ds : List D} {d : D} (hsz : ds.length ≤ sizeLine) : Mut G "list.append" ds [d] (ds ++ [d]) := Mut.mk fun A Z s a vs k args R b hz ho r ra => by
  cases ra with
  | @cons v _ _ _ rv rr =>
    cases rr
    refine call_meets F.slot_list_append (isList_of ho).typeIs F.entry_list_append (F.args_list_append_2 _ _) (PySem.AutoListH.list_append_list_val_0 a vs.toArray k v (by rw [List.size_toArray, r.length]; exact hsz)) ⟨ho, ?_⟩
    have hg := PySem.IsL.update (n := k) ho (·.push v)
    rw [show vs.toArray.push v = (vs ++ [v]).toArray by simp] at hg
    exact ⟨vs ++ [v], _, hg, r.append (.cons rv .nil), _, _, rfl, Nat.le_refl _, Heap.SameBut.update ..⟩
-- several targets
structure Asgs (G : Gnd) (env : Env) (ts : List PySem.Expr) (ds : List D) (ρ ρ' : Loc) : Prop where
  run : ∀ A Z H s vs, Room 0 A → St G env Z H ρ s → RepAll G Z vs ds → wpAny (model G.prog G.w) A (assignInOrder ((assignEach ts env).map (·.2)) vs) (fun _ s' => ∃ Z', Zle Z Z' ∧ St G env Z' H ρ' s') (fun _ _ => False) s
  len : (assignEach ts env).length = ds.length
  star : (assignEach ts env).findIdx? (·.1) = none
theorem asgs_nil : Asgs G env [] [] ρ ρ := ⟨fun A Z H s vs R S r => wpAny_pure ⟨Z, Zle.same, S⟩, rfl, rfl⟩
theorem asgs_cons {t : PySem.Expr} {ts : List PySem.Expr} {d : D} {ds : List D} {ρ'' : Loc} (h : Asg G env t d ρ ρ') (hs : Asgs G env ts ds ρ' ρ'') (hst : isStarred t = false) : Asgs G env (t :: ts) (d :: ds) ρ ρ'' := by
  have e : assignEach (t :: ts) env = (false, assign t env) :: assignEach ts env := by cases t <;> first | rfl | cases hst
  refine ⟨fun A Z H s vs R S r => ?_, ?_, ?_⟩
  · cases r with
    | cons r rs =>
      rw [e]
      refine assignInOrder_cons (wp_seq (h.run A Z H s _ R S r) fun _ s₁ ⟨Z₁, le₁, S₁⟩ => ?_)
      exact wp_seq (hs.run A Z₁ H s₁ _ R S₁ (rs.mono le₁)) fun _ s₂ ⟨Z₂, le₂, S₂⟩ => ⟨Z₂, le₁.trans le₂, S₂⟩
  · rw [e, List.length_cons, List.length_cons, hs.len]
  · rw [e, List.findIdx?_cons, hs.star]; rfl
theorem asg_tuple {ts : List PySem.Expr} {ds : List D} {k : Nat} (h : Asgs G env ts ds ρ ρ') : Asg G env (.Tuple ts k pos) (.tup ds) ρ ρ' := Asg.mk fun A Z H s v R S r => by
  cases r with
  | @tup a vs j _ hz ra =>
    have ht := isTuple_of (S.zin _ _ hz)
    refine wpAny_assign_Tuple R.handled ht (by rw [h.len, List.size_toArray, ra.length]) h.star fun h' he => ?_
    have x : Ext Z s Z { s with heap := h' } := ⟨Zle.same, fun b o e => he b o (fun q => by rw [q, get?_size_none] at e; cases e) e, fun b o e => he b o (fun q => by have := S.zin b o e; rw [q, get?_size_none] at this; cases this) (S.zin b o e), fun _ _ h => .inl h, rfl, rfl, Nat.le_refl _⟩
    exact h.run A Z H _ vs R (S.ext x) ra

end
end Mine
end
section
open PySem PySem.W PyProof.Rows PySem.Builtin PySem.Builtin.Str PySem.StrLaws
set_option linter.unusedVariables false
namespace Mine

def prep (u : List Nat) : List (List Nat) → List (List Nat)
  | [] => [u]
  | h :: t => (u ++ h) :: t
theorem prep_prep (u v : List Nat) (x : List (List Nat)) : prep u (prep v x) = prep (u ++ v) x := by
  cases x <;> simp [prep]

/-- the parts between the places of p, from the left -/
def splitG (p l : List Nat) : List (List Nat) :=
  if h : p ≠ [] ∧ p.isPrefixOf l = true then [] :: splitG p (l.drop p.length)
  else match l with
    | [] => [[]]
    | c :: r => prep [c] (splitG p r)
termination_by l.length
decreasing_by
  · obtain ⟨h1, h2⟩ := h
    have := (List.isPrefixOf_iff_prefix.mp h2).length_le
    cases p with
    | nil => exact absurd rfl h1
    | cons a q => simp at this ⊢; omega
  · simp

theorem splitG_hit {p l : List Nat} (h1 : p ≠ []) (h2 : p <+: l) : splitG p l = [] :: splitG p (l.drop p.length) := by
  rw [splitG, dif_pos ⟨h1, List.isPrefixOf_iff_prefix.mpr h2⟩]
theorem splitG_nil {p : List Nat} (h1 : p ≠ []) : splitG p [] = [[]] := by
  rw [splitG, dif_neg]
  rintro ⟨_, h⟩
  exact h1 (List.prefix_nil.mp (List.isPrefixOf_iff_prefix.mp h))
theorem splitG_miss {p r : List Nat} {c : Nat} (h : ¬ p <+: c :: r) : splitG p (c :: r) = prep [c] (splitG p r) := by
  rw [splitG, dif_neg]
  rintro ⟨_, h'⟩
  exact h (List.isPrefixOf_iff_prefix.mp h')
theorem splitG_ne (p l : List Nat) (h1 : p ≠ []) : ∃ a r, splitG p l = a :: r := by
  by_cases h : p <+: l
  · exact ⟨_, _, splitG_hit h1 h⟩
  · cases l with
    | nil => exact ⟨_, _, splitG_nil h1⟩
    | cons c r =>
      rw [splitG_miss h]
      cases splitG p r with
      | nil => exact ⟨_, _, rfl⟩
      | cons a q => exact ⟨_, _, rfl⟩
/-- nothing begins in u -/
theorem splitG_skip {p : List Nat} (h1 : p ≠ []) : ∀ (u l : List Nat), (∀ k, k < u.length → ¬ p <+: (u ++ l).drop k) → splitG p (u ++ l) = prep u (splitG p l)
  | [], l, _ => by
    obtain ⟨a, r, e⟩ := splitG_ne p l h1
    rw [List.nil_append, e]; rfl
  | c :: u, l, h => by
    have h0 := h 0 (by simp)
    rw [List.cons_append, splitG_miss (by simpa using h0), splitG_skip h1 u l fun k hk => by simpa using h (k + 1) (by simpa using hk), prep_prep]
    rfl

theorem at_iff (l p : List Nat) (k : Nat) (h1 : p ≠ []) : At (T l) (T p) (T l).length k ↔ p <+: l.drop k := by
  unfold At
  rw [subAt_eq, T_length, T_length, T_list, T_list]
  constructor
  · rintro ⟨_, h⟩
    exact ⟨_, by rw [← beq_iff_eq.mp h]; exact List.take_append_drop _ _⟩
  · rintro ⟨t, h⟩
    have hl : (l.drop k).length = p.length + t.length := by rw [← h]; simp
    rw [List.length_drop] at hl
    have : 0 < p.length := List.length_pos_iff.mpr h1
    refine ⟨by omega, ?_⟩
    rw [← h, List.take_left]
    simp

theorem parts_split (l p : List Nat) (h1 : p ≠ []) : ∀ (cuts : List Nat) (a f : Nat), a ≤ l.length → ChainG (T l) (T p) (T l).length a cuts f → (∀ k, f ≤ k → ¬ At (T l) (T p) (T l).length k) →
    (partsFrom (T l) (T p).length a cuts) = (splitG p (l.drop a)).map T
  | [], a, f, ha, h, hn => by
    have e : f = a := h
    subst e
    have : splitG p (l.drop f) = [l.drop f] := by
      have := splitG_skip h1 (l.drop f) [] fun k hk => by
        rw [List.append_nil, List.drop_drop]
        exact fun q => hn (f + k) (by omega) ((at_iff l p _ h1).mpr q)
      rw [List.append_nil, splitG_nil h1] at this
      rw [this]; simp [prep]
    rw [this]
    show [strSub (T l) f (T l).length] = [T (l.drop f)]
    congr 1
    rw [← T_of (strSub (T l) f (T l).length), strSub_toList, T_list, T_length]
    congr 1
    exact List.take_of_length_le (by simp)
  | c :: r, a, f, ha, h, hn => by
    obtain ⟨h2, h3, h4, h5⟩ := h
    have hp := (at_iff l p c h1).mp h3
    have hc : c + p.length ≤ l.length := by
      have := h3.1
      rwa [T_length, T_length] at this
    have ih := parts_split l p h1 r (c + (T p).length) f (by rw [T_length]; exact hc) h5 hn
    show strSub (T l) a c :: partsFrom (T l) (T p).length (c + (T p).length) r = _
    rw [ih, T_length]
    have e : l.drop a = (l.drop a).take (c - a) ++ l.drop c := by
      conv => lhs; rw [← List.take_append_drop (c - a) (l.drop a)]
      rw [List.drop_drop, show a + (c - a) = c by omega]
    have hl : ((l.drop a).take (c - a)).length = c - a := by rw [List.length_take, List.length_drop]; omega
    have hs := splitG_skip h1 ((l.drop a).take (c - a)) (l.drop c) fun k hk => by
      rw [← e, List.drop_drop]
      rw [hl] at hk
      exact fun q => h4 (a + k) (by omega) (by omega) ((at_iff l p _ h1).mpr q)
    rw [← e] at hs
    rw [hs, splitG_hit h1 hp, List.drop_drop]
    show _ = T ((l.drop a).take (c - a) ++ []) :: _
    rw [List.append_nil, ← T_of (strSub (T l) a c), strSub_toList, T_list]

theorem kind_le (x y : List Nat) (h : ∀ c ∈ y, c ∈ x) : Str.strKind (T y) ≤ Str.strKind (T x) := by
  have key : ∀ B : Nat, (T x).cps.all (· < B) = true → (T y).cps.all (· < B) = true := fun B hB => by
    rw [← Array.all_toList] at hB ⊢
    rw [List.all_eq_true] at hB ⊢
    exact fun c hc => hB c (h c hc)
  unfold Str.strKind
  split
  · split <;> (try split) <;> omega
  · rename_i n1
    rw [if_neg fun q => n1 (key _ q)]
    split
    · split <;> omega
    · rename_i n2
      rw [if_neg fun q => n2 (key _ q)]
      exact Nat.le_refl _

theorem split_T (l p : List Nat) (h1 : p ≠ []) : Txt.split (T l) (T p) = (splitG p l).map T := by
  have hw : 1 ≤ (T p).length := by rw [T_length]; exact List.length_pos_iff.mpr h1
  obtain ⟨f, hc, hn⟩ := occ_tight (T l) (T p) hw
  have main := parts_split l p h1 _ 0 f (Nat.zero_le _) hc hn
  rw [List.drop_zero] at main
  rw [← main]
  have whole : ∀ o, o = [] → [T l] = partsFrom (T l) (T p).length 0 o := fun o e => by
    subst e
    show _ = [strSub (T l) 0 (T l).length]
    rw [sub_whole]
  unfold Txt.split
  split
  · rename_i hx
    refine whole _ ?_
    cases ho : occurrences (T l) (T p) 0 (T l).length ((T l).length + 1) with
    | nil => rfl
    | cons c r =>
      exfalso
      rw [ho] at hc
      have hp := (at_iff l p c h1).mp hc.2.1
      rw [Bool.or_eq_true, decide_eq_true_eq, decide_eq_true_eq] at hx
      rcases hx with hx | hx
      · have := hc.2.1.1
        omega
      · have : Str.strKind (T p) ≤ Str.strKind (T l) := kind_le l p fun c' hc' => List.mem_of_mem_drop (hp.subset hc')
        omega
  · split
    · rename_i he
      exact whole _ (List.isEmpty_iff.mp he)
    · rw [partsBetween_eq]

end Mine
end
section
open PySem PySem.W PyProof.Rows PySem.Builtin PySem.Builtin.Str PySem.StrLaws
set_option linter.unusedVariables false
namespace Mine

/-- p cannot begin in u, whatever stands behind u -/
def apart (p u : List Nat) : Bool := (List.range u.length).all fun j => !(p.isPrefixOf (u.drop j)) && !((u.drop j).isPrefixOf p)
def cs (x : Str) : List Nat := x.cps.toList
end Mine
end
section
open PySem PySem.W PyProof.Rows PySem.Builtin PySem.Builtin.Str
set_option linter.unusedVariables false
set_option maxRecDepth 100000
namespace Mine
section
variable {G : Gnd} {env : Env} {Z Z' H : Zf} {ρ ρ' ρc : Loc} {s s' : Shared} {A : Around} {E : Value → Shared → Prop} {n : Nat} {pos apos : Pos}

theorem fmod_bounds {a m : Int} (hm : 0 < m) : 0 ≤ a.fmod m ∧ a.fmod m < m := ⟨Int.fmod_nonneg_of_pos a hm, Int.fmod_lt_of_pos a hm⟩
/-- one of a row of texts, by a remainder -/
theorem sb_menu {value slice : PySem.Expr} {xs : List Str} {a m : Int} (hm : m = (xs.length : Int)) (h0 : 0 < xs.length) (hb : xs.length < 1000000) : Sb G value slice (.list (txs xs)) (.int (a.fmod m)) (.str (xs.getD (a.fmod m).toNat Str.empty)) := by
  have := fmod_bounds (a := a) (m := m) (by omega)
  refine sb_list this.1 (by omega) ?_
  rw [List.getElem?_map]
  have hlt : (a.fmod m).toNat < xs.length := by omega
  rw [List.getElem?_eq_getElem hlt, List.getD_eq_getElem?_getD, List.getElem?_eq_getElem hlt]
  rfl
theorem ev_ifint {t b o : PySem.Expr} {c : Bool} {i j : Int} (h : Tst G env n ρ t c) (h₁ : c = true → Ev G env n ρ b (.int i)) (h₂ : c = false → Ev G env n ρ o (.int j)) : Ev G env n ρ (.IfExp t b o pos) (.int (if c then i else j)) := by
  have := ev_ifexp (pos := pos) h h₁ h₂
  cases c <;> exact this
def codeOf (i : Int) : Int := if decide (i < 55296) = true then i else i + 2048
theorem codeOf_bounds (a : Int) : 0 ≤ codeOf (a.fmod 1112064) ∧ codeOf (a.fmod 1112064) ≤ 1114111 := by
  have := fmod_bounds (a := a) (m := 1112064) (by decide)
  unfold codeOf
  split <;> omega
theorem joinOk_of {sep : Str} {xs : List Str} {m : Nat} (h : ∀ x ∈ xs, x.length ≤ m) (hb : xs.length * (m + sep.length) ≤ sizeLine) : JoinOk sep xs = true := by
  have key : ∀ (xs : List Str) (k : Nat), (∀ x ∈ xs, x.length ≤ m) → xs.foldl (· + ·.length + sep.length) k ≤ k + xs.length * (m + sep.length) := by
    intro xs
    induction xs with
    | nil => intro k _; simp
    | cons x r ih =>
      intro k h
      rw [List.foldl_cons, List.length_cons, Nat.succ_mul]
      have h1 := ih (k + x.length + sep.length) fun y hy => h y (List.mem_cons_of_mem _ hy)
      have h2 := h x List.mem_cons_self
      omega
  unfold JoinOk
  have := key xs 0 h
  rw [List.foldl_toArray]
  unfold Builtin.Str.tooLong
  simp
  omega
theorem joinOk_sum {sep : Str} {xs : List Str} (hb : (xs.map (·.length)).sum + xs.length * sep.length ≤ sizeLine) : JoinOk sep xs = true := by
  have key : ∀ (xs : List Str) (k : Nat), xs.foldl (· + ·.length + sep.length) k = k + ((xs.map (·.length)).sum + xs.length * sep.length) := by
    intro xs
    induction xs with
    | nil => intro k; simp
    | cons x r ih =>
      intro k
      rw [List.foldl_cons, ih, List.map_cons, List.sum_cons, List.length_cons, Nat.succ_mul]
      omega
  unfold JoinOk
  rw [List.foldl_toArray, key]
  unfold Builtin.Str.tooLong
  simp
  omega
theorem ex_append {x : Str} {p pos' : Pos} {e : PySem.Expr} {ds : List D} {Φ : Fl → Loc → Prop} (d : D) (hx : ρ.lookup x = some (.own ds)) (h : Ev G env n ρ e d) (hsz : ds.length ≤ sizeLine)
    (hd : (x == ("__debug__" : Str)) = false) (hst : isStarred e = false) (hline : (apos.endLine == pos.line) = true) (hin : interactive env = false)
    (k : Φ .next (upd ρ x (.own (ds ++ [d])))) : Ex G env n ρ (.Expr (.Call (.Attribute (.Name x p) "append" apos) [e] [] pos) pos') Φ :=
  ex_mut hx F.slot_list_append F.type_list_append (evs_more h evs_nil hst) (mut_append hsz) hd (by simp [hst]) (by show 1 < 30; decide) hline hin k
theorem comp1 {elt tgt iter : PySem.Expr} {ifs : List PySem.Expr} {scope : Scope} {α : Type} {xs : List α} {mk : α → D} {F : α → List D}
    (item : ∀ a ∈ xs, ∃ ρ₁ ok, Asg G env tgt (mk a) ρ ρ₁ ∧ Sub ρ ρ₁ ∧ Tsts G env n ρ₁ ifs ok ∧ (ok = false → F a = []) ∧ (ok = true → ∃ x, Ev G env n ρ₁ elt x ∧ F a = [x])) :
    CRun G env n (.ListComp elt [⟨tgt, iter, ifs, 0⟩] scope pos) 0 ρ (xs.map mk) (xs.flatMap F) := comp_last (iter := iter) (fun _ _ => rfl) item
/-- both ways of a test meet again -/
theorem exs_if_join {t : PySem.Expr} {body orelse rest : List Stmt} {c : Bool} {Φ : Fl → Loc → Prop} (ρ₁ : Loc) (h : Tst G env n ρ t c) (k : Exs G env n ρ₁ rest Φ)
    (h₁ : c = true → Exs G env n ρ body (Then Φ fun ρ' => Sub ρ₁ ρ')) (h₂ : c = false → Exs G env n ρ orelse (Then Φ fun ρ' => Sub ρ₁ ρ')) : Exs G env n ρ (.If t body orelse pos :: rest) Φ := by
  have go : ∀ {sts : List Stmt}, Exs G env n ρ sts (Then Φ fun ρ' => Sub ρ₁ ρ') → Exs G env n ρ sts (Then Φ fun ρ' => Exs G env n ρ' rest Φ) := fun h => exs_mono h fun fl ρ' q => by
    cases fl with
    | next => exact exs_weaken q k
    | brk => exact q
    | cont => exact q
    | ret d => exact q
  exact exs_cons (ex_if h (fun e => go (h₁ e)) fun e => go (h₂ e))
end
end Mine
end
section
open PySem PySem.W PyProof.Rows PySem.Builtin PySem.Builtin.Str PySem.StrLaws
set_option linter.unusedVariables false
set_option maxRecDepth 100000
namespace Mine
section
variable {G : Gnd} {env : Env} {Z Z' H : Zf} {ρ ρ' ρc : Loc} {s s' : Shared} {A : Around} {E : Value → Shared → Prop} {n : Nat} {pos apos : Pos}

theorem ind_clip {a b len : Nat} : strSliceIndices (some (a : Int)) (some (b : Int)) 1 len = strSliceIndices (some ((min a len : Nat) : Int)) (some ((max (min a len) (min b len) : Nat) : Int)) 1 len := by
  have h1 : ¬ ((a : Int) < 0) := by omega
  have h2 : ¬ ((b : Int) < 0) := by omega
  have h3 : ¬ (((min a len : Nat) : Int) < 0) := by omega
  have h4 : ¬ (((max (min a len) (min b len) : Nat) : Int) < 0) := by omega
  have e1 : max (0 : Int) (min (a : Int) (len : Int)) = ((min a len : Nat) : Int) := by omega
  have e2 : max (0 : Int) (min (b : Int) (len : Int)) = ((min b len : Nat) : Int) := by omega
  have e3 : max (0 : Int) (min (((min a len : Nat) : Int)) (len : Int)) = ((min a len : Nat) : Int) := by omega
  have e4 : max (0 : Int) (min (((max (min a len) (min b len) : Nat) : Int)) (len : Int)) = ((max (min a len) (min b len) : Nat) : Int) := by omega
  simp only [strSliceIndices, sliceRange, h1, h2, h3, h4, if_false, e1, e2, e3, e4, show ((1 : Int) > 0) = True from by simp, if_true]
  by_cases hlt : ((min a len : Nat) : Int) < ((min b len : Nat) : Int)
  · have : max (min a len) (min b len) = min b len := by omega
    rw [this]
  · have h5 : ¬ (((min a len : Nat) : Int) < ((max (min a len) (min b len) : Nat) : Int)) := by omega
    rw [if_neg hlt, if_neg h5]
theorem slice_ab (l : List Nat) (a b : Nat) : Txt.slice (T l) (some (a : Int)) (some (b : Int)) = T ((l.take b).drop a) := by
  unfold Txt.slice
  rw [ind_clip, T_length]
  have hp := strSliceIndices_plain (a := min a l.length) (b := max (min a l.length) (min b l.length)) (len := l.length) (by omega) (by omega)
  have hs := sliced_plain (T l) (a := min a l.length) (b := max (min a l.length) (min b l.length)) (by omega) (by rw [T_length]; omega)
  rw [T_length, T_list] at hs
  have hres : (l.drop (min a l.length)).take (max (min a l.length) (min b l.length) - min a l.length) = (l.take b).drop a := by
    rw [List.drop_take]
    by_cases h : a ≤ l.length
    · rw [Nat.min_eq_left h]
      by_cases hb : b ≤ l.length
      · rw [Nat.min_eq_left hb]; congr 1; omega
      · rw [Nat.min_eq_right (by omega), List.take_of_length_le (by rw [List.length_drop]; omega), List.take_of_length_le (by rw [List.length_drop]; omega)]
    · rw [Nat.min_eq_right (by omega), List.drop_of_length_le (Nat.le_refl _), List.drop_of_length_le (by omega)]; simp
  split
  · rename_i hw
    simp only [BEq.rfl, Bool.true_and, beq_iff_eq] at hw
    rw [hp, List.length_map, List.length_range] at hw
    congr 1
    have h1 : min a l.length = 0 ∨ l.length = 0 := by omega
    have : (l.drop (min a l.length)).take (max (min a l.length) (min b l.length) - min a l.length) = l := by
      rcases h1 with h1 | h1
      · rw [hw, h1]; simp
      · have : l = [] := List.length_eq_zero_iff.mp h1
        subst this; simp
    rw [← hres, this]
  · rw [hs, hres]; rfl
theorem slice_to (l : List Nat) (b : Nat) : Txt.slice (T l) none (some (b : Int)) = T (l.take b) := by
  have := slice_ab l 0 b
  rw [List.drop_zero] at this
  rw [← this]
  have e : max (0 : Int) (min ((0 : Nat) : Int) (l.length : Int)) = 0 := by omega
  have h2 : ¬ (((0 : Nat) : Int) < 0) := by omega
  unfold Txt.slice
  rw [T_length]
  simp only [strSliceIndices, h2, if_false, e, show ((1 : Int) > 0) = True from by simp, if_true]
end
end Mine
end
section
open PySem PySem.W PyProof.Rows
set_option maxRecDepth 100000
namespace Mine
section
variable {G : Gnd} {env : Env} {Z Z' H : Zf} {ρ ρ' ρc : Loc} {s s' : Shared} {A : Around} {E : Value → Shared → Prop} {n : Nat} {pos apos : Pos}
def CellsIn (env : Env) (cl : List (Str × Addr)) : Prop := ∀ x c, cl.lookup x = some c → env.cells.lookup x = some c
theorem cells_nil : CellsIn env [] := fun _ _ h => nomatch h
theorem cells_cons {x : Str} {c : Addr} {cl : List (Str × Addr)} (h : env.cells.lookup x = some c) (r : CellsIn env cl) : CellsIn env ((x, c) :: cl) := fun y d e => by
  rw [List.lookup_cons] at e
  split at e
  · cases e; rename_i q; rw [beq_iff_eq] at q; subst q; exact h
  · exact r y d e
def CapIn (env : Env) (scope : Scope) (cl : List (Str × Addr)) (ρ ρc : Loc) : Prop :=
  ∀ x b, ρc.lookup x = some b → (∃ d, b = .val d) ∧ ρ.lookup x = some b ∧ env.kindOf x ≠ some .local ∧ (∃ c, cl.lookup x = some c) ∧ ((relabel scope env).names.lookup x = some .cell ∨ ((relabel scope env).names.lookup x = some .free ∧ (x == ("__classdict__" : Str)) = false))
theorem cap_nil {scope : Scope} {cl : List (Str × Addr)} : CapIn env scope cl ρ [] := fun _ _ h => nomatch h
theorem cap_cons {scope : Scope} {cl : List (Str × Addr)} {x : Str} {d : D} {c : Addr} (h1 : ρ.lookup x = some (.val d)) (h2 : env.kindOf x = some .cell) (h3 : cl.lookup x = some c) (h4 : (relabel scope env).names.lookup x = some .cell) (r : CapIn env scope cl ρ ρc) :
    CapIn env scope cl ρ ((x, .val d) :: ρc) := fun y b e => by
  rw [List.lookup_cons] at e
  split at e
  · cases e; rename_i q; rw [beq_iff_eq] at q; subst q
    exact ⟨⟨_, rfl⟩, h1, by rw [h2]; decide, ⟨_, h3⟩, .inl h4⟩
  · exact r y b e
theorem itr_range {b : Int} {m : Nat} (hm : b.toNat = m) (h1 : -(2 ^ 62) ≤ b) (h2 : b < 2 ^ 62) : Itr G (.rng 0 b) ((List.range m).map fun (i : Nat) => D.int (i : Int)) := by
  have := itr_rng (G := G) (a := 0) (b := b) (by decide) (by decide) h1 h2
  rw [Int.sub_zero, hm] at this
  have e : (fun (i : Nat) => D.int (0 + (i : Int))) = fun (i : Nat) => D.int (i : Int) := by funext i; rw [Int.zero_add]
  rwa [e] at this
theorem at_map {α : Type} {f : α → D} {l : List α} {i : Nat} {d : D} (h : (l.map f)[i]? = some d) : ∃ x, l[i]? = some x ∧ d = f x := by
  rw [List.getElem?_map] at h
  cases e : l[i]? with
  | none => rw [e] at h; cases h
  | some x => rw [e] at h; exact ⟨x, rfl, by simpa using h.symm⟩
end
end Mine
end
section
open PySem PySem.W PyProof.Rows PySem.Builtin PySem.Builtin.Str PySem.StrLaws
set_option linter.unusedVariables false
namespace Mine

/-- no spelling begins another one -/
def pcode (t : Tbl) : Bool := t.all (fun p => p.2.head? == some 38 && (t.lookup p.1 == some p.2) && t.all (fun q => q.1 == p.1 || (!(p.2.isPrefixOf q.2) && !(q.2.isPrefixOf p.2))) && p.2.tail.all (fun c => !(t.any fun q => q.1 == c)) && decide (p.2.length ≤ 8)) && (t.any fun q => q.1 == 38)
theorem mem_look {t : Tbl} {k : Nat} {z : List Nat} (h : t.lookup k = some z) : (k, z) ∈ t := by
  induction t with
  | nil => cases h
  | cons p r ih =>
    obtain ⟨a, b⟩ := p
    rw [List.lookup_cons] at h
    split at h
    · rename_i q; rw [beq_iff_eq] at q; subst q; cases h; exact List.mem_cons_self
    · exact List.mem_cons_of_mem _ (ih h)
theorem look_none {t : Tbl} {k : Nat} : t.lookup k = none ↔ (t.any fun q => q.1 == k) = false := by
  induction t with
  | nil => simp
  | cons p r ih =>
    obtain ⟨a, b⟩ := p
    rw [List.lookup_cons, List.any_cons, Bool.or_eq_false_iff, ← ih]
    by_cases h : k = a
    · subst h; simp
    · have h1 : (k == a) = false := beq_eq_false_iff_ne.mpr h
      have h2 : (a == k) = false := beq_eq_false_iff_ne.mpr (Ne.symm h)
      rw [h1]
      simp [h2]
structure PC (t : Tbl) : Prop where
  ok : pcode t = true
section
variable {t : Tbl}
theorem PC.at (h : PC t) {k : Nat} {z : List Nat} (hk : t.lookup k = some z) : ∃ y, z = 38 :: y ∧ (∀ q ∈ t, q.1 = k ∨ (¬ z <+: q.2 ∧ ¬ q.2 <+: z)) ∧ (∀ c ∈ y, t.lookup c = none) ∧ y.length ≤ 7 := by
  have h0 := h.ok
  unfold pcode at h0
  rw [Bool.and_eq_true] at h0
  have h1 := List.all_eq_true.mp h0.1 _ (mem_look hk)
  simp only [Bool.and_eq_true, beq_iff_eq, decide_eq_true_eq] at h1
  obtain ⟨⟨⟨⟨a1, a2⟩, a3⟩, a4⟩, a5⟩ := h1
  cases z with
  | nil => cases a1
  | cons c y =>
    have : c = 38 := by simpa using a1
    subst this
    refine ⟨y, rfl, fun q hq => ?_, fun c hc => ?_, by simpa using a5⟩
    · have := List.all_eq_true.mp a3 q hq
      rw [Bool.or_eq_true, beq_iff_eq, Bool.and_eq_true, Bool.not_eq_true', Bool.not_eq_true'] at this
      rcases this with e | ⟨e1, e2⟩
      · exact .inl e
      · refine .inr ⟨fun q => ?_, fun q => ?_⟩
        · rw [List.isPrefixOf_iff_prefix.mpr q] at e1; cases e1
        · rw [List.isPrefixOf_iff_prefix.mpr q] at e2; cases e2
    · have := List.all_eq_true.mp a4 c hc
      exact look_none.mpr (by simpa using this)
theorem PC.amp (h : PC t) {k : Nat} (hk : t.lookup k = none) : k ≠ 38 := by
  have h0 := h.ok
  unfold pcode at h0
  rw [Bool.and_eq_true] at h0
  intro e
  subst e
  rw [look_none.mp hk] at h0
  cases h0.2
theorem spell_some {k : Nat} {z : List Nat} (h : t.lookup k = some z) : spell t k = z := by unfold spell; rw [h]; rfl
theorem spell_none {k : Nat} (h : t.lookup k = none) : spell t k = [k] := by unfold spell; rw [h]; rfl
end

end Mine
end
section
open PySem PySem.W PyProof.Rows
set_option linter.unusedVariables false
set_option maxRecDepth 100000
namespace Mine
section
abbrev dD (t : Tbl) : D := .dict (t.map fun p => T [p.1]) (t.map fun p => .str (T p.2))
theorem dget_tb {tb : Tbl} (k : Nat) : dget (tb.map fun p => T [p.1]) (tb.map fun p => D.str (T p.2)) ⟨#[k]⟩ = (tb.lookup k).map fun t => .str (T t) := by
  unfold dget
  induction tb with
  | nil => rfl
  | cons p r ih =>
    obtain ⟨a, b⟩ := p
    simp only [List.map_cons, List.zip_cons_cons, List.lookup_cons]
    have e : ((⟨#[k]⟩ : Str) == T [a]) = (k == a) := by
      rw [← T_one, T_beq]
      simp
      by_cases h : k = a <;> simp [h]
    rw [e]
    cases k == a with
    | true => rfl
    | false => exact ih
abbrev strDict (t : List (Str × Str)) : D := .dict (t.map (·.1)) (t.map fun p => .str p.2)
theorem strDict_eq {t : List (Str × Str)} {tb : Tbl} (h : t = tb.map fun p => (T [p.1], T p.2)) : strDict t = dD tb := by
  rw [h]
  show D.dict _ _ = D.dict _ _
  rw [List.map_map, List.map_map]
  rfl
def sC : List (Str × Str) := [("&", "&amp;"), ("<", "&lt;"), (">", "&gt;")]
def sA : List (Str × Str) := [("&", "&amp;"), ("<", "&lt;"), (">", "&gt;"), ("\"", "&quot;"), ("\r", "&#13;"), ("\n", "&#10;"), ("\t", "&#09;")]
def sH : List (Str × Str) := [("&", "&amp;"), (">", "&gt;"), ("\"", "&quot;")]
def sCC : List (Str × Str) := [("&", "&amp;"), ("<", "&lt;"), (">", "&gt;"), ("\r", "&#xD;")]
def sAC : List (Str × Str) := [("&", "&amp;"), ("<", "&lt;"), ("\"", "&quot;"), ("\t", "&#x9;"), ("\n", "&#xA;"), ("\r", "&#xD;")]
theorem join_flatT (xs : List (List Nat)) : Txt.join Str.empty (xs.map T) = T xs.flatten := by
  unfold Txt.join
  rw [StrLaws.glued_eq_join]
  have h := join_list [] xs
  have e : ∀ xs : List (List Nat), (xs.intersperse []).flatten = xs.flatten := by
    intro xs
    induction xs with
    | nil => rfl
    | cons a r ih => cases r with
      | nil => rfl
      | cons b r => rw [List.intersperse_cons_cons]; simp only [List.flatten_cons, List.nil_append] at ih ⊢; rw [ih]
  rw [e] at h
  exact h
theorem join_ones (l : List Nat) : Txt.join Str.empty (l.map fun c => T [c]) = T l := by
  have h := join_flatT (l.map fun c => [c])
  rw [List.map_map] at h
  have e : (T ∘ fun c => [c]) = fun c : Nat => T [c] := rfl
  rw [e] at h
  rw [h]
  congr 1
  clear h e
  induction l with
  | nil => rfl
  | cons c r ih => rw [List.map_cons, List.flatten_cons, ih]; rfl
end
end Mine
end
section
open PySem PySem.W PyProof.Rows PySem.Builtin PySem.Builtin.Str
set_option linter.unusedVariables false
set_option maxRecDepth 100000
namespace Mine
section
variable {G : Gnd} {env : Env} {Z Z' H : Zf} {ρ ρ' ρc : Loc} {s s' : Shared} {A : Around} {E : Value → Shared → Prop} {n : Nat} {pos apos sp : Pos}
theorem getm_dict_get {ks : List Str} {ds : List D} : GetM G "get" (.dict ks ds) "dict.get" := GetM.mk fun M A pl Z s v Q E hz r h => by
  cases r with
  | dict hz' hs hd ra =>
    have hm := dictOf_of (hz _ _ hz') hd
    exact getMethod_builtin hm.typeIs F.plainAttrs_dict F.slot_dict_get F.type_dict_get (fun a e => by cases e; exact hm.mapOf.noDict _ rfl) h
/-- d.get(x, y) -/
theorem ev_get {o a b : PySem.Expr} {ks : List Str} {ds : List D} {x : Str} {d : D} (ho : Ev G env n ρ o (.dict ks ds)) (ha : Ev G env n ρ a (.str x)) (hb : Ev G env n ρ b d) (h1 : isNameCall o = false) (h2 : isStarred a = false) (h3 : isStarred b = false) (hline : (apos.endLine == pos.line) = true) :
    Ev G env n ρ (.Call (.Attribute o "get" apos) [a, b] [] pos) ((dget ks ds x).getD d) :=
  ev_meth ho (evs_more ha (evs_more hb evs_nil h3) h2) getm_dict_get bf_dict_get h1 (by simp [h2, h3]) (by show 2 < 30; decide) hline
theorem ev_spell {o a b : PySem.Expr} {tb : Tbl} {c : Nat} (ho : Ev G env n ρ o (dD tb)) (ha : Ev G env n ρ a (.str ⟨#[c]⟩)) (hb : Ev G env n ρ b (.str ⟨#[c]⟩)) (h1 : isNameCall o = false) (h2 : isStarred a = false) (h3 : isStarred b = false) (hline : (apos.endLine == pos.line) = true) :
    Ev G env n ρ (.Call (.Attribute o "get" apos) [a, b] [] pos) (.str (T (spell tb c))) := by
  have := ev_get (pos := pos) ho ha hb h1 h2 h3 hline
  rw [dget_tb] at this
  unfold spell
  cases hk : tb.lookup c with
  | none => rw [hk] at this; exact this
  | some z => rw [hk] at this; exact this
theorem big_line : 100000 ≤ sizeLine := by decide
/-- l[:b] -/
theorem ev_to {v e : PySem.Expr} {l : List Nat} {b : Nat} (hv : Ev G env n ρ v (.str (T l))) (he : Ev G env n ρ e (.int (b : Int))) (hl : l.length ≤ 100000) : Ev G env n ρ (.Subscript v (.Slice none (some e) none sp) pos) (.str (T (l.take b))) := by
  rw [← slice_to]
  exact ev_sub hv (ev_slice (lo := none) (hi := some (b : Int)) trivial he) (sb_slice_str (by rw [T_length]; have := big_line; omega))
theorem ev_cat {e e' : PySem.Expr} {x y : List Nat} (h : Ev G env n ρ e (.str (T x))) (h' : Ev G env n ρ e' (.str (T y))) (hl : x.length + y.length ≤ 100000) : Ev G env n ρ (.BinOp e .Add e' pos) (.str (T (x ++ y))) := by
  rw [← T_append]
  exact ev_binop h h' (op_add_str (by rw [T_length, T_length]; have := big_line; omega))
theorem mulOk_small_int {a b : Int} (h : decide (Builtin.Int.intBits a > shortFactorBits) = false) : IntMulOk a b := by
  unfold IntMulOk
  rw [h]
  simp
theorem map_one {α β : Type} (f : α → β) (l : List α) : l.map f = l.flatMap fun x => [f x] := by
  induction l with
  | nil => rfl
  | cons a r ih => rw [List.map_cons, List.flatMap_cons, ih]; rfl
end
end Mine
end
section
open PySem PySem.W PyProof.Rows PySem.Builtin PySem.Builtin.Str
set_option linter.unusedVariables false
set_option maxRecDepth 100000
namespace Mine
section
variable {G : Gnd} {env : Env} {Z Z' H : Zf} {ρ ρ' ρc : Loc} {s s' : Shared} {A : Around} {E : Value → Shared → Prop} {n : Nat} {pos apos sp : Pos}
theorem op_ne_bool {a b : Bool} : Op2 G (compareOp .NotEq) (.bool a) (.bool b) (.bool (a != b)) := Op2.mk fun A Z s v₁ v₂ R bs r₁ r₂ => by cases r₁; cases r₂; exact ne_bool ⟨Z, bs.same, .bool _⟩
end
end Mine
end
section
open PySem PySem.W PyProof.Rows PySem.Builtin PySem.Builtin.Str
set_option linter.unusedVariables false
set_option maxRecDepth 100000
namespace Mine
section
variable {G : Gnd} {env : Env} {Z Z' H : Zf} {ρ ρ' ρc : Loc} {s s' : Shared} {A : Around} {E : Value → Shared → Prop} {n : Nat} {pos apos sp : Pos}
theorem op_add_list {ds es : List D} (h : ds.length + es.length ≤ 100000) : Op2 G (binaryOp .Add) (.list ds) (.list es) (.list (ds ++ es)) := Op2.mk fun A Z s v₁ v₂ R b r₁ r₂ => by
  have big := big_line
  cases r₁ with
  | @list a vs k _ hz ra =>
    cases r₂ with
    | @list a' ws k' _ hz' ra' =>
      refine P.add_list (b.zin _ _ hz) (b.zin _ _ hz') ?_ (by rw [List.size_toArray, List.size_toArray, ra.length, ra'.length]; omega)
      have e : vs.toArray ++ ws.toArray = (vs ++ ws).toArray := by simp
      rw [e]
      exact ⟨_, Ext.alloc (t := s.toks) b.zin rfl (Nat.le_refl _), .list Zadd.self ((ra.append ra').mono (Ext.alloc (s := s) (t := s.toks) b.zin rfl (Nat.le_refl _)).le)⟩
theorem op_notin_strs {xs : List Str} {x : Str} : Op2 G (compareOp .NotIn) (.str x) (.list (txs xs)) (.bool (!(xs.any (· == x)))) := Op2.mk fun A Z s v₁ v₂ R b r₁ r₂ => by
  cases r₁
  cases r₂ with
  | list hz ra =>
    obtain ⟨l, e1, e2⟩ := strs_of_repAll ra
    subst e1 e2
    exact notin_list_strs (isList_of (b.zin _ _ hz)) (strsAre_of_values l) ⟨Z, b.same, .bool _⟩
theorem op_pow_int {a b : Int} (hn : 0 ≤ b) (hsz : (Builtin.Int.intBits a : Int) * b ≤ 2 ^ 27) : Op2 G (binaryOp .Pow) (.int a) (.int b) (.int (a ^ b.toNat)) := Op2.mk fun A Z s v₁ v₂ R bs r₁ r₂ => by
  cases r₁; cases r₂
  exact pow_int hn hsz (bs.y (Nat.le_succ _) (.int _ _))
theorem repAll_signs {x : Str} {acc : Array Value} (h : ItemsOf (SignAt x) acc x.cps.size) : RepAll G Z acc.toList (charsOf x) := by
  obtain ⟨h1, h2⟩ := h
  have key : ∀ (vs : List Value) (cs : List Nat), vs.length = cs.length → (∀ (j : Nat) (v : Value), vs[j]? = some v → ∃ c u, cs[j]? = some c ∧ v = Value.str ⟨#[c]⟩ u) → RepAll G Z vs (cs.map fun c => .str ⟨#[c]⟩) := by
    intro vs
    induction vs with
    | nil => intro cs hl _; cases cs with
      | nil => exact .nil
      | cons c r => simp at hl
    | cons v vs ih => intro cs hl hp; cases cs with
      | nil => simp at hl
      | cons c r =>
        obtain ⟨c', u, e1, e2⟩ := hp 0 v rfl
        simp at e1
        subst e1 e2
        exact .cons (.str _ _) (ih r (by simpa using hl) fun j v hj => by simpa using hp (j + 1) v (by simpa using hj))
  refine key _ _ (by simpa using h1) fun j v hj => ?_
  obtain ⟨c, u, e1, e2⟩ := h2 j v (by simpa using hj)
  exact ⟨c, u, by simpa using e1, e2⟩
theorem bt_list_str {x : Str} (hx : x.length ≤ 100000) : BT G "list" [.str x] (.list (charsOf x)) := BT.mk fun A Z s vs R b r => by
  have big := big_line
  cases r with
  | cons r rs =>
    cases rs
    cases r with
    | str _ t =>
      refine wp_tok (call_list_str R.handled x t (fun h' tk acc c hk hg hi tok => ?_) (by show x.length ≤ _; omega))
      have hnew : s.heap.get? s.heap.objs.size = none := get?_size_none _
      have hz : Z s.heap.objs.size = none := by
        cases q : Z s.heap.objs.size with
        | none => rfl
        | some o => have := b.zin _ _ q; rw [hnew] at this; cases this
      have hg' : h'.get? s.heap.objs.size = some (listOf acc.toList.toArray c) := hg
      refine ⟨Zadd Z s.heap.objs.size (listOf acc.toList.toArray c), ⟨Zadd.le hz, hk, fun a o e => ?_, fun a o e => ?_, rfl, rfl, tok⟩, .list Zadd.self (repAll_signs hi)⟩
      · by_cases q : a = s.heap.objs.size
        · subst q; rw [Zadd.self] at e; cases e; exact hg'
        · rw [show Zadd Z s.heap.objs.size _ a = Z a from if_neg q] at e; exact hk _ _ (b.zin _ _ e)
      · by_cases q : a = s.heap.objs.size
        · subst q; exact .inr hnew
        · rw [show Zadd Z s.heap.objs.size _ a = Z a from if_neg q] at e; exact .inl e
theorem mut_extend {ds es : List D} (hsz : ds.length + es.length ≤ 100000) : Mut G "list.extend" ds [.list es] (ds ++ es) := Mut.mk fun A Z s a vs k args R b hz ho r ra => by
  have big := big_line
  cases ra with
  | cons rv rr =>
    cases rr
    cases rv with
    | @list a' ws k' _ hz' ra' =>
      have h1 := r.length
      have h2 := ra'.length
      refine call_meets F.slot_list_extend (isList_of ho).typeIs F.entry_list_extend (F.args_list_extend_2 _ _) (AutoSeq1.list_extend_list_list_0 a vs.toArray k a' ws.toArray k' ?_ (by rw [List.size_toArray]; omega) (by rw [List.size_toArray, List.size_toArray]; omega)) ⟨ho, b.zin _ _ hz', ?_⟩
      · have : ¬ vs.toArray.size + ws.toArray.size > sizeLine := by rw [List.size_toArray, List.size_toArray]; omega
        unfold Builtin.List.listTooLong
        rw [decide_eq_false this]
        simp
      · obtain ⟨k₂, hg⟩ := upd_list ho (fun x => x ++ ws.toArray) (its' := (vs ++ ws).toArray) (by simp)
        exact ⟨vs ++ ws, _, hg, r.append ra', _, _, rfl, Nat.le_refl _, Heap.SameBut.update ..⟩
/-- x.extend(e) -/
theorem ex_extend {x : Str} {p pos' : Pos} {e : PySem.Expr} {ds es : List D} {Φ : Fl → Loc → Prop} (hx : ρ.lookup x = some (.own ds)) (h : Ev G env n ρ e (.list es)) (hsz : ds.length + es.length ≤ 100000)
    (hd : (x == ("__debug__" : Str)) = false) (hst : isStarred e = false) (hline : (apos.endLine == pos.line) = true) (hin : interactive env = false)
    (k : Φ .next (upd ρ x (.own (ds ++ es)))) : Ex G env n ρ (.Expr (.Call (.Attribute (.Name x p) "extend" apos) [e] [] pos) pos') Φ :=
  ex_mut hx F.slot_list_extend F.type_list_extend (evs_more h evs_nil hst) (mut_extend hsz) hd (by simp [hst]) (by show 1 < 30; decide) hline hin k

-- and, or of truth values, as values
theorem ev_boolop {op : BoolOp} {x y : PySem.Expr} {a b : Bool} (h : Ev G env n ρ x (.bool a)) (h' : (match op with | .And => a = true | .Or => a = false) → Ev G env n ρ y (.bool b)) :
    Ev G env n ρ (.BoolOp op [x, y] pos) (.bool (match op with | .And => a && b | .Or => a || b)) := by
  constructor
  intro A Z H s R S
  show wpAny _ A (do
    let v ← eval x env
    standAt pos
    let t ← holding [v] (truthy v)
    match op, t with
    | .And, false | .Or, true => pure v
    | _, _ => eval y env) _ _ _
  refine wpAny_bind (wp_seq (h.run A Z H s R S) fun v s₁ ⟨Z₁, x₁, r₁⟩ => wpAny_bind (wpAny_standAt (wpAny_bind (wpAny_holding ?_))))
  cases r₁
  refine wpAny_truthy_bool ?_
  cases op <;> cases a
  · exact wpAny_pure ⟨Z₁, x₁, .bool _⟩
  · exact wp_seq ((h' rfl).run A Z₁ H s₁ R (S.ext x₁)) fun _ _ ⟨Z₂, x₂, r₂⟩ => ⟨Z₂, x₁.trans x₂, r₂⟩
  · exact wp_seq ((h' rfl).run A Z₁ H s₁ R (S.ext x₁)) fun _ _ ⟨Z₂, x₂, r₂⟩ => ⟨Z₂, x₁.trans x₂, r₂⟩
  · exact wpAny_pure ⟨Z₁, x₁, .bool _⟩
theorem ev_and2 {x y : PySem.Expr} {a b : Bool} (h : Ev G env n ρ x (.bool a)) (h' : Ev G env n ρ y (.bool b)) : Ev G env n ρ (.BoolOp .And [x, y] pos) (.bool (a && b)) := ev_boolop (op := .And) h fun _ => h'
theorem ev_or2 {x y : PySem.Expr} {a b : Bool} (h : Ev G env n ρ x (.bool a)) (h' : Ev G env n ρ y (.bool b)) : Ev G env n ρ (.BoolOp .Or [x, y] pos) (.bool (a || b)) := ev_boolop (op := .Or) h fun _ => h'
/-- not x, as a value -/
theorem op_not_bool {a : Bool} : Op1 G (unaryOp .Not) (.bool a) (.bool (!a)) := Op1.mk fun A Z s v R b r => by
  cases r
  show wpAny _ A (holding [Value.bool a] (do pure (Value.bool (!(← truthy (Value.bool a)))))) _ _ _
  exact wpAny_holding (wpAny_bind (wpAny_truthy_bool (wpAny_pure ⟨Z, b.same, .bool _⟩)))
theorem ev_notB {x : PySem.Expr} {a : Bool} (h : Ev G env n ρ x (.bool a)) : Ev G env n ρ (.UnaryOp .Not x pos) (.bool (!a)) := ev_neg h op_not_bool
theorem pow2_pos (k : Nat) : (0 : Int) < 2 ^ k := Int.pow_pos (by decide)
end
end Mine
end
section
open PySem PySem.W PyProof.Rows
set_option linter.unusedVariables false
set_option maxRecDepth 100000
namespace Mine
section
variable {prog : Program} {w : World} {A : Around} {E : Value → Shared → Prop} {s : Shared}
abbrev setObj (es : Array (Int × Value)) (ep : Nat) (t : SetTable) : Obj := { cls := .type "set", data := .set es ep t }
theorem layNew_plain (t : SetTable) (es : Array (Int × Value)) (h : Int) (x : Value) : (layNew t es h x).2.1.plain = true → t.plain = true := by
  unfold layNew
  split
  · rename_i slot wd _
    dsimp only
    unfold SetTable.orStandIn
    split
    · exact fun h => h
    · intro h; cases h
  · intro h; cases h
theorem relayAll_plain (t : SetTable) (es : Array (Int × Value)) (n : Nat) (h : t.plain = false) : (relayAll t es n).2.1.plain = false := by
  unfold relayAll
  split
  · rename_i t' order he
    dsimp only
    split
    · dsimp only
      unfold SetTable.relaid SetTable.laid at he
      cases hl : SetTable.layClean (SetTable.sizeAbove n - 1) (es.map (·.1)) with
      | none => rw [hl] at he; cases he
      | some o =>
        rw [hl] at he
        have := (Option.some.inj he)
        have e1 := congrArg (fun p => p.1.plain) this
        dsimp only at e1
        rw [← e1]; exact h
    · rfl
  · rfl
theorem update_set {h : Heap} {S : Addr} {es : Array (Int × Value)} {ep : Nat} {t : SetTable} (ho : h.get? S = some (setObj es ep t)) (es' : Array (Int × Value)) (t' : SetTable) : (h.update S (Obj.putSet es' t')).get? S = some (setObj es' (ep + 1) t') := by
  have := Heap.get?_update_self (Obj.putSet es' t') ho (by rw [putSet_of es' t' (o := setObj es ep t) rfl]; rfl)
  rw [putSet_of es' t' (o := setObj es ep t) rfl] at this
  exact this
/-- a text is laid into a set of texts -/
theorem add_str {S : Addr} {k : Str} {u : Tok} {es : Array (Int × Value)} {ep : Nat} {t : SetTable} {Q : Bool → Shared → Prop} (ho : s.heap.get? S = some (setObj es ep t)) (hel : ElemsOf (strKind prog w) es.toList) (hb : es.size + 1 < scanBound) (hf : t.fits es.size = true) (hp : es.size = 0 ∨ t.plain = false)
    (h : ∀ es' ep' t' h' b, Heap.SameBut S s.heap h' → h'.get? S = some (setObj es' ep' t') → ElemsOf (strKind prog w) es'.toList → es'.size ≤ es.size + 1 → t'.fits es'.size = true → t'.plain = false → (∀ e ∈ es.toList, e ∈ es'.toList) → (∀ e ∈ es'.toList, e ∈ es.toList ∨ e.2 = .str k u) → (∃ e ∈ es'.toList, (strKind prog w).is k e.2 = true) → Q b { s with heap := h' }) :
    wpAny (model prog w) A (setAddHashed S (.str k u) ((strKind prog w).hash k)) Q E s := by
  have hkey : (strKind prog w).is k (.str k u) = true := strKind_is _ _ _ _
  have hsc : (Value.str k u).scannable = true := rfl
  unfold setAddHashed setAddHashedIn
  refine wpAny_holding (wpAny_bind (wpAny_setState_of ho rfl hf ?_))
  dsimp only
  rw [byScan_of hsc (by omega) hel]
  simp only [↓reduceIte]
  unfold setAddByScan
  refine wpAny_bind ?_
  refine wpAny_bind (wpAny_rule ?_)
  refine wpAny_bind (wpAny_setScan_of hkey ho rfl hf hel ?_)
  cases hr : List.findIdx? (fun e => (strKind prog w).is k e.2) es.toList with
  | some j =>
    dsimp only
    obtain ⟨hj, hpj, _⟩ := List.findIdx?_eq_some_iff_getElem.mp hr
    have hpl : t.plain = false := by
      rcases hp with q | q
      · rw [Array.length_toList, q] at hj; cases hj
      · exact q
    refine wpAny_pure (wpAny_pure ?_)
    exact h es ep t s.heap false (Heap.SameBut.refl S s.heap) ho hel (by omega) hf hpl (fun _ e => e) (fun _ e => .inl e) ⟨_, List.getElem_mem hj, hpj⟩
  | none =>
    dsimp only
    have hgw : ∀ (b : Bool) {s₁ : Shared} {Q' : Unit → Shared → Prop}, Q' () s₁ → wpAny (model prog w) A (match b with | true => rule "set.scan.the-table-gave-way" | false => pure ()) Q' E s₁ :=
      fun b s₁ Q' hq => by cases b <;> first | exact wpAny_pure hq | exact wpAny_rule hq
    have hperm := layNew_perm t es ((strKind prog w).hash k) (.str k u)
    have hfits := layNew_fits t es ((strKind prog w).hash k) (.str k u)
    have hlp := layNew_plain t es ((strKind prog w).hash k) (.str k u)
    generalize hL : layNew t es ((strKind prog w).hash k) (.str k u) = L at hperm hfits hlp ⊢
    obtain ⟨es1, t1, wasDummy, gave⟩ := L
    dsimp only at hperm hfits hlp ⊢
    rw [Array.toList_push] at hperm
    have hel1 : ElemsOf (strKind prog w) es1.toList := (hel.push hkey hsc).perm hperm
    have hsz1 : es1.size = es.size + 1 := by rw [← Array.length_toList, hperm.length_eq, List.length_append, Array.length_toList]; rfl
    have hold : ∀ e ∈ es.toList, e ∈ es1.toList := fun e he => hperm.mem_iff.mpr (List.mem_append_left _ he)
    have honly : ∀ e ∈ es1.toList, e ∈ es.toList ∨ e.2 = .str k u := fun e he => by
      rcases List.mem_append.mp (hperm.mem_iff.mp he) with q | q
      · exact .inl q
      · rw [List.mem_singleton] at q; exact .inr (by rw [q])
    have hnew : ∃ e ∈ es1.toList, (strKind prog w).is k e.2 = true := ⟨((strKind prog w).hash k, .str k u), hperm.mem_iff.mpr (by simp), hkey⟩
    have tail : ∀ (t2 : SetTable), t2.fits es1.size = true → t2.plain = false → wpAny (model prog w) A (do
        storeSet S es1 t2
        if (!wasDummy && t2.tooFull) = true then do
            (match (relayAll t2 es1 (SetTable.grown es1.size)).2.2 with | true => rule "set.scan.the-table-gave-way" | false => pure ())
            storeSet S (relayAll t2 es1 (SetTable.grown es1.size)).1 (relayAll t2 es1 (SetTable.grown es1.size)).2.1
            pure (some true)
          else pure (some true)) (fun r s' => ∃ b, r = some b ∧ Q b s') E s := by
      intro t2 hf2 hp2
      refine wpAny_bind (wpAny_storeSet_of ho rfl ?_ (fits_of_scanBound (by omega)))
      have hg1 := update_set ho es1 t2
      have hsb1 := Heap.SameBut.update s.heap S (Obj.putSet es1 t2)
      split
      · have hpr := relayAll_perm t2 es1 (SetTable.grown es1.size)
        have hfr := relayAll_fits t2 es1 (SetTable.grown es1.size)
        have hpp := relayAll_plain t2 es1 (SetTable.grown es1.size) hp2
        generalize relayAll t2 es1 (SetTable.grown es1.size) = Rl at hpr hfr hpp ⊢
        obtain ⟨es2, t3, gave2⟩ := Rl
        dsimp only at hpr hfr hpp ⊢
        have hsz : es2.size = es1.size := by rw [← Array.length_toList, hpr.length_eq, Array.length_toList]
        refine wpAny_bind (hgw _ ?_)
        refine wpAny_bind (wpAny_storeSet_of hg1 rfl ?_ (fits_of_scanBound (by omega)))
        refine wpAny_pure ⟨true, rfl, h es2 _ t3 _ true (hsb1.trans (Heap.SameBut.update _ S _)) (update_set hg1 es2 t3) (hel1.perm hpr) (by omega) hfr hpp (fun e he => hpr.mem_iff.mpr (hold e he)) (fun e he => honly e (hpr.mem_iff.mp he)) ?_⟩
        obtain ⟨e, he, q⟩ := hnew
        exact ⟨e, hpr.mem_iff.mpr he, q⟩
      · exact wpAny_pure ⟨true, rfl, h es1 _ t2 _ true hsb1 hg1 hel1 (by omega) hf2 hp2 hold honly hnew⟩
    refine wpAny_bind (hgw _ ?_)
    split
    · refine wpAny_bind ?_
      rw [hashByValue_scannable 8 hsc]
      refine wpAny_pure ?_
      simp only [plainKind, Bool.false_eq_true, if_false]
      refine wpAny_mono (tail { t1 with plain := false } (SetTable.fits_plain_off hfits) rfl) (fun r s' ⟨b, e, hq⟩ => ?_) fun _ _ e => e
      subst e
      exact wpAny_pure hq
    · rename_i hnp
      refine wpAny_bind (wpAny_pure ?_)
      simp only [↓reduceIte]
      refine wpAny_mono (tail t1 hfits (by simpa using hnp)) (fun r s' ⟨b, e, hq⟩ => ?_) fun _ _ e => e
      subst e
      exact wpAny_pure hq
def One (v : Value) : Prop := ∃ c u, v = Value.str ⟨#[c]⟩ u
/-- a set of signs, among them those of ks -/
def SetAt (prog : Program) (w : World) (h : Heap) (S : Addr) (ks : List Str) (n : Nat) : Prop :=
  ∃ es ep t, h.get? S = some (setObj es ep t) ∧ ElemsOf (strKind prog w) es.toList ∧ es.size ≤ n ∧ t.fits es.size = true ∧ (es.size = 0 ∨ t.plain = false) ∧ (∀ e ∈ es.toList, One e.2) ∧ ∀ k ∈ ks, ∃ e ∈ es.toList, (strKind prog w).is k e.2 = true
theorem set_loop {R : Result → Shared → Prop} {x : Str} {I S : Addr} {W : Nat → Heap → Prop} (hA : A.handled = none) (hW : ∀ A' : Around, A'.handled = none → Walks prog w A' I [I] [I] x.cps.size (SignAt x) W) (hSI : S ≠ I) (hn : x.cps.size + 2 < scanBound) :
    ∀ (j i : Nat) (s : Shared), x.cps.size - i = j → i ≤ x.cps.size → W i s.heap → SetAt prog w s.heap S ((x.cps.toList.take i).map fun c => ⟨#[c]⟩) i →
      (∀ h' tk, SetAt prog w h' S (x.cps.toList.map fun c => ⟨#[c]⟩) x.cps.size → (∀ b o, b ≠ I → b ≠ S → s.heap.get? b = some o → h'.get? b = some o) → s.toks ≤ tk → R (.ok (.ret .none)) { s with heap := h', toks := tk }) →
      codeAny (model prog w) A (.builtin "set.update.loop" ⟨[.ref S, .ref I], []⟩) R s := by
  have W₀ := hW A.in1 hA
  intro j
  induction j with
  | zero =>
    intro i s hj hi hw hS hR
    have hin : i = x.cps.size := by omega
    subst hin
    refine codeAny_builtin PyProof.Rows.F.entry_set_update_loop ?_
    rw [Around.under_plainId PyProof.Rows.F.plain_set_update_loop _]
    show wpAny _ A.in1 (pyNext (.ref I) >>= _) _ _ s
    refine wpAny_bind (wpAny_with_toks (Nat.le_refl s.toks) (W₀.done s _ _ hw fun h' tk hk tok => ?_))
    show wpAny _ A.in1 (ret Value.none) _ _ _
    refine wpAny_pure (hR h' tk ?_ (fun b o h1 h2 e => hk b o (by simpa using h1) e) tok)
    obtain ⟨es, ep, t, ho, rest⟩ := hS
    have e : x.cps.toList.take x.cps.size = x.cps.toList := List.take_of_length_le (by simp)
    rw [e] at rest
    exact ⟨es, ep, t, hk _ _ (by simpa using hSI) ho, rest⟩
  | succ j ih =>
    intro i s hj hi hw hS hR
    have hlt : i < x.cps.size := by omega
    refine codeAny_builtin PyProof.Rows.F.entry_set_update_loop ?_
    rw [Around.under_plainId PyProof.Rows.F.plain_set_update_loop _]
    show wpAny _ A.in1 (pyNext (.ref I) >>= _) _ _ s
    refine wpAny_bind (wpAny_with_toks (Nat.le_refl s.toks) (W₀.item i s _ _ hlt hw fun v h' tk pv hW' hk tok => ?_))
    obtain ⟨c, u, hc, rfl⟩ := pv
    obtain ⟨es, ep, t, ho, hel, hsz, hf, hp, hone, hks⟩ := hS
    have ho' := hk _ _ (by simpa using hSI) ho
    show wpAny _ A.in1 (holding [Value.str ⟨#[c]⟩ u] (setAdd S (.str ⟨#[c]⟩ u)) >>= _) _ _ _
    refine wpAny_bind (wpAny_holding ?_)
    unfold setAdd
    refine wpAny_holding ?_
    refine wpAny_bind ((strKind prog w).pyHash (k := ⟨#[c]⟩) (strKind_is _ _ _ _) ?_)
    refine add_str (s := { s with heap := h', toks := tk + 1 }) ho' hel (by omega) hf hp fun es' ep' t' h₂ b hsb hg hel' hsz' hf' hp' hold honly hnew => ?_
    have tks : (x.cps.toList.take (i + 1)) = x.cps.toList.take i ++ [c] := by
      rw [List.take_add_one]
      have : x.cps.toList[i]? = some c := by simpa using hc
      rw [this]; rfl
    refine wpAny_pure ⟨plainId_quiet PyProof.Rows.F.plain_set_update_loop _, ih (i + 1) _ (by omega) hlt (W₀.frame _ _ _ hW' fun b hb o e => (hsb.2 b fun q => ?_).trans e) ⟨es', ep', t', hg, hel', by omega, hf', .inr hp', fun e he => ?_, fun k hk' => ?_⟩ fun h₃ tk₃ a1 a2 a3 => ?_⟩
    · rw [List.mem_singleton] at hb
      exact hSI (q.symm.trans hb)
    · rcases honly e he with q | q
      · exact hone e q
      · exact ⟨c, u, q⟩
    · rw [tks, List.map_append] at hk'
      rcases List.mem_append.mp hk' with q | q
      · obtain ⟨e, he, q⟩ := hks k q
        exact ⟨e, hold e he, q⟩
      · simp at q; subst q; exact hnew
    · have a3' : tk + 1 ≤ tk₃ := a3
      exact hR h₃ tk₃ a1 (fun b o h1 h2 e => a2 b o h1 h2 ((hsb.2 b h2).trans (hk b o (by simpa using h1) e))) (Nat.le_trans tok (Nat.le_trans (Nat.le_succ _) a3'))
end
end Mine
end
section
open PySem PySem.W PyProof.Rows
set_option linter.unusedVariables false
set_option maxRecDepth 100000
namespace Mine
section
variable {prog : Program} {w : World} {A : Around} {E : Value → Shared → Prop} {s : Shared}
theorem sub_str_set : isSubtype (.type "str") (.type "set") = pure false := by rw [isSubtype_type]; kernel_rfl
theorem sub_str_frozenset : isSubtype (.type "str") (.type "frozenset") = pure false := by rw [isSubtype_type]; kernel_rfl
set_option maxHeartbeats 3200000 in
theorem call_set_str {x : Str} {t : Tok} {Q : Value → Shared → Prop} (hh : A.handled = none) (hn : x.cps.size + 2 < scanBound)
    (h : ∀ h' tk, SetAt prog w h' s.heap.objs.size (x.cps.toList.map fun c => ⟨#[c]⟩) x.cps.size → (∀ b o, s.heap.get? b = some o → h'.get? b = some o) → s.toks ≤ tk → Q (.ref s.heap.objs.size) { s with heap := h', toks := tk }) :
    wpAny (model prog w) A (call (.type "set") [.str x t]) Q E s := by
  obtain ⟨c, tl, hmro⟩ := PySem.F.called_set.mro
  have hmade := PySem.F.called_set.made
  have hsub := PySem.F.called_set.sub
  refine wpAny_call (codeAny_of_tree ?_)
  show wpAny _ _ (callAny (.type "set") _) _ _ _
  refine wpAny_pure ⟨Code.quiet_builtin _ (by decide +kernel), codeAny_builtin PySem.F.entry_type_call ?_⟩
  rw [Around.under_plain (weight_type_call_type "set" [.str x t] []) rfl]
  have h1 := PySem.F.called_set.notType
  have h2 := PySem.F.called_set.canCreate
  have hct := PySem.F.typeCall_set_1 (.str x t)
  repeat (any_goals (first | assumption | wp_step))
  refine codeAny_mono (code_set_new_1 (.str x t) (E := E) (Q₁ := fun obj s₁ => ∃ led : Bool, obj = .ref s.heap.objs.size ∧ s₁ = { s with heap := s.heap.push (setObj #[] 0 (.fresh 0 0 led)) }) fun led => ⟨led, rfl, rfl⟩) fun r s₁ hr => ?_
  cases r with
  | error e => exact hr
  | ok fl =>
    cases fl with
    | ret obj =>
      obtain ⟨led, rfl, rfl⟩ := hr
      have hS : (s.heap.push (setObj #[] 0 (.fresh 0 0 led))).get? s.heap.objs.size = some (setObj #[] 0 (.fresh 0 0 led)) := Heap.get?_push_size _ rfl
      have hT : Shared.TypeIs { s with heap := s.heap.push (setObj #[] 0 (.fresh 0 0 led)) } (.ref s.heap.objs.size) "set" := ⟨_, hS, rfl⟩
      have hli := PySem.F.called_set.init.lookup
      have hbi := PySem.F.called_set.init.bind (.ref s.heap.objs.size)
      repeat (any_goals (first | assumption | wp_step))
      refine codeAny_mono (codeAny_call_builtin (R := wants (fun r s₂ => r = .none ∧ ∃ h' tk, s₂ = { s with heap := h', toks := tk } ∧ SetAt prog w h' s.heap.objs.size (x.cps.toList.map fun c => ⟨#[c]⟩) x.cps.size ∧
          (∀ b o, s.heap.get? b = some o → h'.get? b = some o) ∧ s.toks ≤ tk) E) PySem.F.called_set.init.plain PySem.F.entry_set_init (check_set_init_1 hT ?_)) fun r₂ s₂ hr₂ => ?_
      · have hsls := sub_str_set
        have hslf := sub_str_frozenset
        have hne : (Value.type "str" == Value.type "dict") = false := by decide
        unfold Builtin.«set.__init__» noKeywords Builtin.Frozenset.updateFrom
        generalize hPI : pyIter = PI
        wp_walk
        subst hPI
        refine wpAny_pyIter_str fun o W hW hst => ?_
        refine wpAny_bind (wpAny_runValue ?_)
        have hsz : (s.heap.push (setObj #[] 0 (.fresh 0 0 led))).objs.size = s.heap.objs.size + 1 := Heap.size_push ..
        have hSI : s.heap.objs.size ≠ (s.heap.push (setObj #[] 0 (.fresh 0 0 led))).objs.size := by rw [hsz]; exact Nat.ne_of_lt (Nat.lt_succ_self _)
        refine set_loop (A := A.in1.in1) (x := x) (W := W) hh hW hSI hn x.cps.size 0 { s with heap := (s.heap.push (setObj #[] 0 (.fresh 0 0 led))).push o } (by omega) (Nat.zero_le _) hst ?hset0 fun h' tk hset hk htk => ?_
        case hset0 => exact ⟨#[], 0, .fresh 0 0 led, Heap.get?_push_of_some _ hS, fun e he => by simp at he, Nat.le_refl _, rfl, .inl rfl, fun e he => by simp at he, fun k hk => by simp at hk⟩
        refine wpAny_pure ?_
        show wpAny _ _ (ret Value.none) _ _ _
        refine wpAny_pure ⟨rfl, h', tk, rfl, hset, fun b o e => ?_, htk⟩
        have hlt := Heap.lt_size e
        exact hk b o (by rw [hsz]; exact Nat.ne_of_lt (Nat.lt_succ_of_lt hlt)) (Nat.ne_of_lt hlt) (Heap.get?_push_of_some _ (Heap.get?_push_of_some _ e))
      · cases r₂ with
        | error e => exact hr₂
        | ok fl₂ =>
          cases fl₂ with
          | ret r =>
            obtain ⟨rfl, h', tk, rfl, hS', hk', htk⟩ := hr₂
            repeat (any_goals (first | assumption | wp_step))
            exact h _ _ hS' hk' htk
          | _ => exact hr₂.elim
    | _ => exact hr.elim
end
end Mine
end
section
open PySem PySem.W PyProof.Rows
set_option linter.unusedVariables false
set_option maxRecDepth 100000
namespace Mine
section
variable {prog : Program} {w : World} {A : Around} {E : Value → Shared → Prop} {s : Shared}
theorem wpAny_choose {M : Model} {src : Source} {n : Nat} {Q : Nat → Shared → Prop} (hn : n ≠ 0) (h : ∀ d, Q (M.w.draws src (s.drawn.get src) % n) { s with drawn := d }) : wpAny M A (choose src n) Q E s := fun Γ p hΓ => by
  unfold choose
  rw [Sem.wp_choose]
  exact ⟨hn, h _⟩
theorem wpAny_drawOrder {M : Model} {α : Type} : ∀ (n : Nat) (xs : List α) (s : Shared) (Q : List α → Shared → Prop), xs.length = n → (∀ ys d, ys.length = n → (∀ y ∈ ys, y ∈ xs) → Q ys { s with drawn := d }) → wpAny M A (drawOrder n xs) Q E s
  | 0, xs, s, Q, _, h => by
    unfold drawOrder
    exact wpAny_pure (h [] s.drawn rfl fun _ q => by cases q)
  | n + 1, [], s, Q, e, _ => by cases e
  | n + 1, x :: xs, s, Q, e, h => by
    unfold drawOrder
    refine wpAny_bind (wpAny_choose (by simp) fun d => ?_)
    generalize hi : M.w.draws Source.order (s.drawn.get Source.order) % (x :: xs).length = i
    have hlt : i < (x :: xs).length := by rw [← hi]; exact Nat.mod_lt _ (by simp)
    rw [List.getElem?_eq_getElem hlt]
    dsimp only
    refine wpAny_bind (wpAny_drawOrder n _ _ _ (by rw [List.length_eraseIdx_of_lt hlt, e]; rfl) fun ys d' hl hm => ?_)
    refine wpAny_pure (h _ d' (by rw [List.length_cons, hl]) fun y hy => ?_)
    rcases List.mem_cons.mp hy with rfl | q
    · exact List.getElem_mem hlt
    · exact List.mem_of_mem_eraseIdx (hm y q)
theorem pickGo {α : Type} (next : Nat → Nat) : ∀ (n k : Nat) (left : List α) (out : Array α), left.length = n → (pickOrder.go next n k left out).size = out.size + n ∧ ∀ y ∈ (pickOrder.go next n k left out).toList, y ∈ left ∨ y ∈ out.toList
  | 0, k, left, out, _ => by
    unfold pickOrder.go
    exact ⟨rfl, fun y h => .inr h⟩
  | n + 1, k, left, out, e => by
    unfold pickOrder.go
    have hlt : next k % left.length < left.length := Nat.mod_lt _ (by omega)
    rw [List.getElem?_eq_getElem hlt]
    dsimp only
    obtain ⟨h1, h2⟩ := pickGo next n (k + 1) (left.eraseIdx (next k % left.length)) (out.push left[next k % left.length]) (by rw [List.length_eraseIdx_of_lt hlt, e]; rfl)
    refine ⟨by rw [h1, Array.size_push]; omega, fun y h => ?_⟩
    rcases h2 y h with q | q
    · exact .inl (List.mem_of_mem_eraseIdx q)
    · rw [Array.toList_push, List.mem_append, List.mem_singleton] at q
      rcases q with q | q
      · exact .inr q
      · exact .inl (q ▸ List.getElem_mem hlt)
theorem wpAny_setsByText {Q : Bool → Shared → Prop} (h : Q (w.params.followText "set-order") s) : wpAny (model prog w) A setsByText Q E s := by
  unfold setsByText
  exact wpAny_bind (wpAny_askSetting (wpAny_pure h))
theorem wpAny_setDrawn {S : Addr} {es : Array (Int × Value)} {ep : Nat} {t : SetTable} {Q : Bool → Shared → Prop} (ho : s.heap.get? S = some (setObj es ep t)) (hf : t.fits es.size = true)
    (h : Q (!(w.params.followText "set-order") && (!t.plain && es.size > 1)) s) : wpAny (model prog w) A (setDrawn S) Q E s := by
  unfold setDrawn
  refine wpAny_bind (wpAny_setState_of ho rfl hf ?_)
  exact wpAny_bind (wpAny_setsByText (wpAny_pure h))
namespace F3
theorem owner_set_iterator : Manifest.owners.lookup (String.ofList ['r', 'o', 't', 'a', 'r', 'e', 't', 'i', '_', 't', 'e', 's'].reverse) = some Manifest.sig_set_iterator := by kernel_rfl
theorem slot_next : Slot "set_iterator" "__next__" "set_iterator.__next__" :=
  .of (owner := "set_iterator") (n := "__next__") (by rw [typeLookup_type, builtinLookup_eq_fast]; kernel_rfl) (by decide +kernel) (by decide +kernel) (by decide +kernel)
    (by first | exact .inl (by decide +kernel) | exact .inr (by decide +kernel)) (by rw [isSubtype_type]; kernel_rfl)
theorem slot_iter : Slot "set_iterator" "__iter__" "set_iterator.__iter__" :=
  .of (owner := "set_iterator") (n := "__iter__") (by rw [typeLookup_type, builtinLookup_eq_fast]; kernel_rfl) (by decide +kernel) (by decide +kernel) (by decide +kernel)
    (by first | exact .inl (by decide +kernel) | exact .inr (by decide +kernel)) (by rw [isSubtype_type]; kernel_rfl)
theorem entry_next : entryFor table "set_iterator.__next__" = some Builtin.«set_iterator.__next__» := entryFor_of_tree (by kernel_rfl)
theorem args_next (a : Value) : argsOk "set_iterator.__next__" ⟨[a], []⟩ := by
  unfold argsOk; rw [signature?_of (id := "set_iterator.__next__") (n := ['_', '_', 't', 'x', 'e', 'n', '_', '_']) (o := ['r', 'o', 't', 'a', 'r', 'e', 't', 'i', '_', 't', 'e', 's']) (by kernel_rfl) owner_set_iterator]; kernel_rfl
theorem args_iter (a : Value) : argsOk "set_iterator.__iter__" ⟨[a], []⟩ := by
  unfold argsOk; rw [signature?_of (id := "set_iterator.__iter__") (n := ['_', '_', 'r', 'e', 't', 'i', '_', '_']) (o := ['r', 'o', 't', 'a', 'r', 'e', 't', 'i', '_', 't', 'e', 's']) (by kernel_rfl) owner_set_iterator]; kernel_rfl
theorem entry_set_iter : entryFor table "set.__iter__" = some Builtin.«frozenset.__iter__» :=
  entryFor_alias (id' := "frozenset.__iter__") (by kernel_rfl) rfl (by decide +kernel) (by kernel_rfl)
theorem entry_iter : entryFor table "set_iterator.__iter__" = some Builtin.«dict_keyiterator.__iter__» :=
  entryFor_alias (id' := "dict_keyiterator.__iter__") (by kernel_rfl) rfl (by decide +kernel) (by kernel_rfl)
end F3
end
end Mine
end
section
open PySem PySem.W PyProof.Rows
set_option linter.unusedVariables false
set_option maxRecDepth 100000
namespace Mine
section
variable {prog : Program} {w : World} {A : Around} {E : Value → Shared → Prop} {s : Shared}
def SIt (w : World) (I S P : Addr) (n i : Nat) (h : Heap) : Prop :=
  ∃ es ep t first, h.get? S = some (setObj es ep t) ∧ es.size = n ∧ t.fits es.size = true ∧ (∀ e ∈ es.toList, One e.2) ∧
    (∃ o, h.get? I = some o ∧ o.cls = .type "set_iterator" ∧ o.data = .fields #[first, .int i 0, .ref S, .int n 0, .int ep 0]) ∧
    ((first = .int 0 0 ∧ w.params.followText "set-order" = true) ∨ ∃ places : Array Value, first = .ref P ∧ (∃ o m, h.get? P = some o ∧ o.data = .seq places m) ∧ places.size = n ∧ ∀ v ∈ places.toList, ∃ j : Nat, j < n ∧ v = .int j 0)
theorem wpAny_setWalk_text {S : Addr} {es : Array (Int × Value)} {ep : Nat} {t : SetTable} {Q : Array (Int × Value) → Shared → Prop} (ho : s.heap.get? S = some (setObj es ep t)) (hf : t.fits es.size = true) (hft : w.params.followText "set-order" = true)
    (h : ∀ fs : Array (Int × Value), fs.size = es.size → (∀ e ∈ fs.toList, e ∈ es.toList) → Q fs s) : wpAny (model prog w) A (setWalk S) Q E s := by
  unfold setWalk
  refine wpAny_bind (wpAny_setState_of ho rfl hf ?_)
  refine wpAny_bind (wpAny_setsByText ?_)
  rw [hft, if_pos rfl]
  refine wpAny_bind (wpAny_askSetting (wpAny_pure ?_))
  obtain ⟨h1, h2⟩ := pickGo (w.params.setOrder S ep) es.size 0 es.toList #[] (by simp)
  refine h _ (h1.trans (by simp)) fun e he => ?_
  rcases h2 e he with q | q
  · exact q
  · cases q
theorem sit_item {I S P : Addr} {n i : Nat} {Q : Option Value → Shared → Prop} (hSI : S ≠ I) (hPI : P ≠ I) (h0 : SIt w I S P n i s.heap) (hi : i < n)
    (hQ : ∀ v h', One v → SIt w I S P n (i + 1) h' → (∀ b o, b ∉ [I] → s.heap.get? b = some o → h'.get? b = some o) → Q (some v) { s with heap := h' }) : wpAny (model prog w) A (pyNext (.ref I)) Q E s := by
  obtain ⟨es, ep, t, first, hS, hn, hf, h1, ⟨o, ho, hc, hd⟩, hmode⟩ := h0
  unfold pyNext
  refine wpAny_bind (wpAny_attempt (wpAny_callSpecial?_slot (name := Str.ofString "__next__") ⟨o, ho, hc⟩ F3.slot_next (wpAny_call_entry F3.slot_next ⟨o, ho, hc⟩ F3.entry_next ?_ (F3.args_next _))))
  unfold Builtin.«set_iterator.__next__»
  refine wpAny_bind (m := slotArgs _ _ _) (wpAny_pure ?_)
  dsimp only
  refine wpAny_bind (wpAny_fieldsOf ho hd ?_)
  dsimp only
  refine wpAny_bind (wpAny_setEntries_of hS rfl hf ?_)
  rw [if_neg (by rw [hn]; simp)]
  have upd : ∀ h', Heap.SameBut I s.heap h' → ∀ first' : Value,
      (∃ o, h'.get? I = some o ∧ o.cls = .type "set_iterator" ∧ o.data = .fields #[first', .int (i + 1 : Nat) 0, .ref S, .int n 0, .int ep 0]) →
      ((first' = .int 0 0 ∧ w.params.followText "set-order" = true) ∨ ∃ places : Array Value, first' = .ref P ∧ (∃ o m, s.heap.get? P = some o ∧ o.data = .seq places m) ∧ places.size = n ∧ ∀ v ∈ places.toList, ∃ j : Nat, j < n ∧ v = .int j 0) →
      SIt w I S P n (i + 1) h' ∧ (∀ b o, b ∉ [I] → s.heap.get? b = some o → h'.get? b = some o) := by
    intro h' hsb first' hI hm
    have kp : ∀ b o, b ∉ [I] → s.heap.get? b = some o → h'.get? b = some o := fun b o hb e => hsb.extBut b o (by simpa using hb) e
    refine ⟨⟨es, ep, t, first', kp _ _ (by simpa using hSI) hS, hn, hf, h1, hI, ?_⟩, kp⟩
    rcases hm with q | ⟨pl, a, ⟨ob, m, b1, b2⟩, c⟩
    · exact .inl q
    · exact .inr ⟨pl, a, ⟨ob, m, kp _ _ (by simpa using hPI) b1, b2⟩, c⟩
  rcases hmode with ⟨rfl, hft⟩ | ⟨places, rfl, ⟨op, m, hp, hpd⟩, hps, hpl⟩
  · dsimp only
    refine wpAny_bind ?_
    unfold setNext
    refine wpAny_bind (wpAny_setState_of hS rfl hf ?_)
    refine wpAny_bind (wpAny_setsByText ?_)
    rw [hft, if_pos rfl]
    dsimp only
    rw [if_neg (by rw [Int.toNat_natCast]; simp)]
    refine wpAny_bind (wpAny_setWalk_text hS hf hft fun fs hfs hm => ?_)
    rw [Int.toNat_natCast]
    have hlt : i < fs.size := by omega
    rw [Array.getElem?_eq_getElem hlt]
    refine wpAny_pure ?_
    dsimp only [Option.map]
    refine wpAny_bind (wpAny_setField ho hd (by simp) ?_)
    have hg1 := Heap.get?_update_self (Obj.mapFields (·.setIfInBounds 0 (rawInt 0))) ho (Obj.isFreed_of_fields (Obj.data_mapFields hd _))
    have hd1 : (Obj.mapFields (·.setIfInBounds 0 (rawInt 0)) o).data = _ := Obj.data_mapFields hd _
    refine wpAny_bind (wpAny_setField hg1 hd1 (by simp) ?_)
    have hg2 := Heap.get?_update_self (Obj.mapFields (·.setIfInBounds 1 (rawInt (i + 1)))) hg1 (Obj.isFreed_of_fields (Obj.data_mapFields hd1 _))
    obtain ⟨a1, a2⟩ := upd _ ((Heap.SameBut.update s.heap I _).trans (Heap.SameBut.update _ I _)) (.int 0 0) ⟨_, hg2, by rw [Obj.cls_mapFields, Obj.cls_mapFields]; exact hc, by rw [Obj.data_mapFields hd1]; simp [rawInt]⟩ (.inl ⟨rfl, hft⟩)
    exact wpAny_pure ⟨_, rfl, wpAny_pure (hQ _ _ (h1 _ (hm _ (by simp))) a1 a2)⟩
  · dsimp only
    refine wpAny_bind (wpAny_seqItems hp hpd ?_)
    dsimp only
    have hlt : i < places.size := by omega
    rw [Int.toNat_natCast, Array.getElem?_eq_getElem hlt]
    obtain ⟨j, hj, ej⟩ := hpl places[i] (by simp)
    rw [ej]
    dsimp only
    refine wpAny_bind ?_
    unfold setNextDrawn
    refine wpAny_bind (wpAny_setState_of hS rfl hf ?_)
    dsimp only
    rw [if_neg (by rw [Int.toNat_natCast]; simp)]
    rw [Int.toNat_natCast, Array.getElem?_eq_getElem (by omega)]
    refine wpAny_pure ?_
    refine wpAny_bind (wpAny_setField ho hd (by simp) ?_)
    have hg1 := Heap.get?_update_self (Obj.mapFields (·.setIfInBounds 1 (rawInt (i + 1)))) ho (Obj.isFreed_of_fields (Obj.data_mapFields hd _))
    obtain ⟨a1, a2⟩ := upd _ (Heap.SameBut.update s.heap I _) (.ref P) ⟨_, hg1, by rw [Obj.cls_mapFields]; exact hc, by rw [Obj.data_mapFields hd]; simp [rawInt]⟩ (.inr ⟨places, rfl, ⟨op, m, hp, hpd⟩, hps, hpl⟩)
    exact wpAny_pure ⟨_, rfl, wpAny_pure (hQ _ _ (h1 _ (by simp)) a1 a2)⟩

theorem stop_tail {I : Addr} {h₀ : Heap} {Q : Option Value → Shared → Prop} (hh : A.handled = none) (hk : Heap.ExtBut I s.heap h₀) (hQ : ∀ h', Heap.ExtBut I s.heap h' → Q none { s with heap := h' }) :
    wpAny (model prog w) A.in1 (newExc (Value.type "StopIteration") [] >>= fun e => raiseNew (α := Fin) e) (fun fin s' => ∃ v, fin = Fin.done (Flow.ret v) ∧ wpAny (model prog w) A (pure (some v)) Q E s')
      (fun e s' => wpAny (model prog w) A (do let b ← isInstance e (Value.type "StopIteration"); if b = true then pure none else throw e) Q E s') { s with heap := h₀ } := by
  refine wpAny_bind ?_
  simp only [newExc, newTuple]
  refine wpAny_bind (wpAny_newObj_type ?_ (by size_fits))
  refine wpAny_bind (m := firstArgMember _ _) (wpAny_of_eq (a := Value.none) (by first | rfl | (simp only [firstArgMember]; rfl)) ?_)
  refine wpAny_newObj_type ?_ (by size_fits)
  simp only [raiseNew]
  refine wpAny_bind (wpAny_handled ?_)
  rw [show A.in1.handled = none from hh]
  refine wpAny_bind (wpAny_pure (wpAny_throw ?_))
  refine wpAny_bind (wpAny_isInstance (T := "StopIteration") (b := true) ⟨_, Heap.get?_push_size _ rfl, rfl⟩ isSubtype_stop ?_)
  exact wpAny_pure (hQ _ ((hk.push _).push _))
theorem sit_end {I S P : Addr} {n : Nat} {Q : Option Value → Shared → Prop} (hh : A.handled = none) (hSI : S ≠ I) (hPI : P ≠ I) (h0 : SIt w I S P n n s.heap)
    (hQ : ∀ h', Heap.ExtBut I s.heap h' → Q none { s with heap := h' }) : wpAny (model prog w) A (pyNext (.ref I)) Q E s := by
  obtain ⟨es, ep, t, first, hS, hn, hf, h1, ⟨o, ho, hc, hd⟩, hmode⟩ := h0
  unfold pyNext
  refine wpAny_bind (wpAny_attempt (wpAny_callSpecial?_slot (name := Str.ofString "__next__") ⟨o, ho, hc⟩ F3.slot_next (wpAny_call_entry F3.slot_next ⟨o, ho, hc⟩ F3.entry_next ?_ (F3.args_next _))))
  unfold Builtin.«set_iterator.__next__»
  refine wpAny_bind (m := slotArgs _ _ _) (wpAny_pure ?_)
  dsimp only
  refine wpAny_bind (wpAny_fieldsOf ho hd ?_)
  dsimp only
  refine wpAny_bind (wpAny_setEntries_of hS rfl hf ?_)
  rw [if_neg (by rw [hn]; simp)]
  rcases hmode with ⟨rfl, hft⟩ | ⟨places, rfl, ⟨op, m, hp, hpd⟩, hps, hpl⟩
  · dsimp only
    refine wpAny_bind ?_
    unfold setNext
    refine wpAny_bind (wpAny_setState_of hS rfl hf ?_)
    refine wpAny_bind (wpAny_setsByText ?_)
    rw [hft, if_pos rfl]
    dsimp only
    rw [if_neg (by rw [Int.toNat_natCast]; simp)]
    refine wpAny_bind (wpAny_setWalk_text hS hf hft fun fs hfs hm => ?_)
    rw [Int.toNat_natCast, Array.getElem?_eq_none (by omega)]
    refine wpAny_pure ?_
    dsimp only [Option.map]
    refine wpAny_bind (wpAny_setField ho hd (by simp) ?_)
    exact stop_tail hh (Heap.SameBut.update ..).extBut hQ
  · dsimp only
    refine wpAny_bind (wpAny_seqItems hp hpd ?_)
    dsimp only
    rw [Int.toNat_natCast, Array.getElem?_eq_none (by omega)]
    dsimp only
    refine wpAny_bind (wpAny_setField ho hd (by simp) ?_)
    have hg1 := Heap.get?_update_self (Obj.mapFields (·.setIfInBounds 0 (rawInt 0))) ho (Obj.isFreed_of_fields (Obj.data_mapFields hd _))
    have hd1 : (Obj.mapFields (·.setIfInBounds 0 (rawInt 0)) o).data = _ := Obj.data_mapFields hd _
    refine wpAny_bind (wpAny_setField hg1 hd1 (by simp) ?_)
    exact stop_tail (s := s) (I := I) hh ((Heap.SameBut.update s.heap I _).trans (Heap.SameBut.update _ I _)).extBut hQ
theorem sit_walks {I S P : Addr} {n : Nat} (hh : A.handled = none) (hSI : S ≠ I) (hPI : P ≠ I) : Walks prog w A I [I, S, P] [I] n (fun _ v => One v) (SIt w I S P n) where
  sub := fun b hb => by simp at hb; simp [hb]
  frame := fun i h h' ⟨es, ep, t, first, hS, hn, hf, h1, ⟨o, ho, hc, hd⟩, hmode⟩ hk => by
    refine ⟨es, ep, t, first, hk _ (by simp) _ hS, hn, hf, h1, ⟨o, hk _ (by simp) _ ho, hc, hd⟩, ?_⟩
    rcases hmode with q | ⟨pl, a, ⟨ob, m, b1, b2⟩, c⟩
    · exact .inl q
    · exact .inr ⟨pl, a, ⟨ob, m, hk _ (by simp) _ b1, b2⟩, c⟩
  item := fun i s Q E hi st hQ => sit_item hSI hPI st hi fun v h' hv st' hk => hQ v h' s.toks hv st' hk
  done := fun s Q E st hQ => sit_end hh hSI hPI st fun h' hk => hQ h' s.toks fun b o hb e => hk b o (by simpa using hb) e
  self := fun i s Q E ⟨es, ep, t, first, hS, hn, hf, h1, ⟨o, ho, hc, hd⟩, hmode⟩ hQ => by
    refine wpAny_pyIter_slot ⟨o, ho, hc⟩ F3.slot_iter (wpAny_call_entry F3.slot_iter ⟨o, ho, hc⟩ F3.entry_iter ?_ (F3.args_iter _))
    show wpAny _ _ (ret (.ref I)) _ _ s
    exact wpAny_pure ⟨_, rfl, "set_iterator", _, ⟨o, ho, hc⟩, F3.slot_next.lookup, hQ⟩
theorem wpAny_pyIter_set {S : Addr} {es : Array (Int × Value)} {ep : Nat} {t : SetTable} {Q : Value → Shared → Prop} (ho : s.heap.get? S = some (setObj es ep t)) (hf : t.fits es.size = true) (hp : t.plain = false) (hz : 1 < es.size) (hz2 : es.size ≤ 1000) (h1 : ∀ e ∈ es.toList, One e.2)
    (h : ∀ I P h' d, I ≠ S → P ≠ I → s.heap.objs.size ≤ I → SIt w I S P es.size 0 h' → (∀ b o, s.heap.get? b = some o → h'.get? b = some o) → (∀ b, b ∈ [I, S, P] → s.heap.objs.size ≤ b ∨ b = S) → Q (.ref I) { s with heap := h', drawn := d }) :
    wpAny (model prog w) A (pyIter (.ref S)) Q E s := by
  have hlt := Heap.lt_size ho
  refine wpAny_pyIter_slot ⟨_, ho, rfl⟩ PySem.F.slot_set_iter (wpAny_call_entry PySem.F.slot_set_iter ⟨_, ho, rfl⟩ F3.entry_set_iter ?_ (PySem.F.args_set_iter_1 _))
  unfold Builtin.«frozenset.__iter__» Builtin.Frozenset.slot0 slotArgs
  simp only [List.isEmpty_nil, Bool.not_true, Bool.false_eq_true, ↓reduceIte, bind_assoc, List.length_nil, bne_self_eq_false]
  unfold Builtin.Frozenset.addrOf Builtin.Frozenset.sizeOf
  refine wpAny_bind (wpAny_pure ?_)
  dsimp only
  refine wpAny_bind (wpAny_pure ?_)
  refine wpAny_bind (wpAny_bind (wpAny_setEntries_of ho rfl hf (wpAny_pure ?_)))
  refine wpAny_bind (wpAny_setDrawn ho hf ?_)
  cases hft : w.params.followText "set-order" with
  | true =>
    rw [if_neg (by simp)]
    refine wpAny_bind (wpAny_pure ?_)
    refine wpAny_bind (wpAny_setEpoch_of ho rfl hf ?_)
    refine wpAny_bind (wpAny_newObj_type (wpAny_pure ⟨_, rfl, "set_iterator", _, ⟨_, Heap.get?_push_size _ rfl, rfl⟩, F3.slot_next.lookup, ?_⟩) (by size_fits))
    have hne : s.heap.objs.size ≠ S := Nat.ne_of_gt hlt
    refine h s.heap.objs.size S _ s.drawn hne hne.symm (Nat.le_refl _) ⟨es, ep, t, _, Heap.get?_push_of_some _ ho, rfl, hf, h1, ⟨_, Heap.get?_push_size _ rfl, rfl, rfl⟩, .inl ⟨rfl, hft⟩⟩ (fun b o e => Heap.get?_push_of_some _ e) fun b hb => ?_
    simp only [List.mem_cons, List.not_mem_nil, or_false] at hb
    rcases hb with rfl | rfl | rfl
    · exact .inl (Nat.le_refl _)
    · exact .inr rfl
    · exact .inr rfl
  | false =>
    rw [if_pos (by simp [hp]; omega)]
    refine wpAny_bind (wpAny_drawOrder es.size (List.range es.size) s _ (by simp) fun ys d hl hm => ?_)
    have hys : (ys.map fun (i : Nat) => rawInt i).length = es.size := by rw [List.length_map, hl]
    refine wpAny_bind (wpAny_newTuple ?_ (by rw [hys]; exact Nat.le_trans hz2 (by size_fits)))
    have ho1 := Heap.get?_push_of_some { cls := .type "tuple", data := .seq (ys.map fun (i : Nat) => rawInt i).toArray } ho
    refine wpAny_bind (wpAny_setEpoch_of (s := { s with drawn := d, heap := s.heap.push { cls := .type "tuple", data := .seq (ys.map fun (i : Nat) => rawInt i).toArray } }) ho1 rfl hf ?_)
    refine wpAny_bind (wpAny_newObj_type (wpAny_pure ⟨_, rfl, "set_iterator", _, ⟨_, Heap.get?_push_size _ rfl, rfl⟩, F3.slot_next.lookup, ?_⟩) (by size_fits))
    have hsz : (s.heap.push { cls := .type "tuple", data := .seq (ys.map fun (i : Nat) => rawInt i).toArray }).objs.size = s.heap.objs.size + 1 := Heap.size_push ..
    show Q (.ref (s.heap.push { cls := .type "tuple", data := .seq (ys.map fun (i : Nat) => rawInt i).toArray }).objs.size) _
    rw [hsz]
    refine h (s.heap.objs.size + 1) s.heap.objs.size _ d (Nat.ne_of_gt (Nat.lt_succ_of_lt hlt)) (Nat.ne_of_lt (Nat.lt_succ_self _)) (Nat.le_succ _) ?_ (fun b o e => Heap.get?_push_of_some _ (Heap.get?_push_of_some _ e)) fun b hb => ?_
    · refine ⟨es, ep, t, .ref s.heap.objs.size, Heap.get?_push_of_some _ ho1, rfl, hf, h1, ⟨_, hsz ▸ Heap.get?_push_size _ rfl, rfl, rfl⟩, .inr ⟨_, rfl, ⟨_, _, Heap.get?_push_of_some _ (Heap.get?_push_size _ rfl), rfl⟩, by rw [List.size_toArray, hys], fun v hv => ?_⟩⟩
      rw [List.toList_toArray, List.mem_map] at hv
      obtain ⟨j, hj, rfl⟩ := hv
      exact ⟨j, by simpa using hm j hj, rfl⟩
    · simp only [List.mem_cons, List.not_mem_nil, or_false] at hb
      rcases hb with rfl | rfl | rfl
      · exact .inl (Nat.le_succ _)
      · exact .inr rfl
      · exact .inl (Nat.le_refl _)
end
end Mine
end
section
open PySem PySem.W PyProof.Rows
set_option linter.unusedVariables false
set_option maxRecDepth 100000
namespace Mine
section
variable {prog : Program} {w : World} {A : Around} {E : Value → Shared → Prop} {s : Shared}
theorem set_len_lookup : typeLookup (.type "set") "__len__" = pure (some (.builtin "set.__len__")) := by rw [typeLookup_type, builtinLookup_eq_fast]; kernel_rfl
theorem sub_set_set : isSubtype (.type "set") (.type "set") = pure true := by rw [isSubtype_type]; kernel_rfl
theorem wpAny_collect_set {S : Addr} {es : Array (Int × Value)} {ep : Nat} {t : SetTable} {Q : List Value → Shared → Prop} (hh : A.handled = none) (ho : s.heap.get? S = some (setObj es ep t)) (hf : t.fits es.size = true) (hp : t.plain = false) (hz : 1 < es.size) (hz2 : es.size ≤ 1000) (h1 : ∀ e ∈ es.toList, One e.2)
    (hQ : ∀ s' acc, (∀ b o, s.heap.get? b = some o → s'.heap.get? b = some o) → s'.gens = s.gens → s'.os = s.os → s.toks ≤ s'.toks → acc.length = es.size → (∀ v ∈ acc, One v) → Q acc s') :
    wpAny (model prog w) A (collect (.ref S)) Q E s := by
  have hlt := Heap.lt_size ho
  unfold collect
  refine wpAny_bind (wpAny_runValue (codeAny_builtin PySem.F.entry_proto_collect ?_))
  rw [Around.under_plainId PySem.F.plain_proto_collect _]
  show wpAny _ A.in1 (newList [] >>= fun l => again (.builtin "list.__iadd__" ⟨[l, .ref S], []⟩)) _ _ s
  refine wpAny_bind (wpAny_newObj_type ?_)
  refine wpAny_pure ⟨plainId_quiet PySem.F.plain_list_iadd _, codeAny_builtin PySem.F.entry_list_iadd ?_⟩
  rw [Around.under_plainId PySem.F.plain_list_iadd _]
  show wpAny _ A.in1 (Builtin.List.listExtendWith (.ref s.heap.objs.size) (.ref S) (.ref s.heap.objs.size)) _ _ _
  have ho1 : (s.heap.push { cls := .type "list", data := .seq ([] : List Value).toArray }).get? S = some (setObj es ep t) := Heap.get?_push_of_some _ ho
  have hT : Shared.TypeIs { s with heap := s.heap.push { cls := .type "list", data := .seq ([] : List Value).toArray } } (.ref S) "set" := ⟨_, ho1, rfl⟩
  unfold Builtin.List.listExtendWith
  refine wpAny_bind (wpAny_typeOf (T := "set") hT ?_)
  have g1 : Builtin.List.listSameRef (.ref s.heap.objs.size) (.ref S) = false := beq_eq_false_iff_ne.mpr (Nat.ne_of_gt hlt)
  have g2 : (Value.type "set" == Value.type "list") = false := by decide
  have g3 : (Value.type "set" == Value.type "tuple") = false := by decide
  simp only [g1, g2, g3, Bool.or_false, Bool.false_eq_true, if_false]
  have hsz : (s.heap.push { cls := .type "list", data := .seq ([] : List Value).toArray }).objs.size = s.heap.objs.size + 1 := Heap.size_push ..
  refine wpAny_bind (wpAny_pyIter_set (s := { s with heap := s.heap.push { cls := .type "list", data := .seq ([] : List Value).toArray } }) ho1 hf hp hz hz2 h1 fun I P h' d hIS hPI hI hst hk hfp => ?_)
  have hT2 : Shared.TypeIs { s with heap := h', drawn := d } (.ref S) "set" := ⟨_, hk _ _ ho1, rfl⟩
  refine wpAny_bind (wpAny_holding ?_)
  unfold Builtin.List.listLengthHint
  refine wpAny_bind (wpAny_specialOf (T := "set") (v := .ref S) hT2 set_len_lookup ?_)
  wp_delta
  refine wpAny_bind (wpAny_isInstance (T := "set") (v := .ref S) (b := true) hT2 sub_set_set ?_)
  show wpAny _ A.in1 (typeOf (Value.ref S) >>= _) _ _ _
  refine wpAny_bind (wpAny_typeOf (T := "set") (v := .ref S) hT2 ?_)
  refine wpAny_pure ?_
  rw [if_pos (by decide)]
  have hL : h'.get? s.heap.objs.size = some (seqObj "list" #[] 0) := hk _ _ (Heap.get?_push_size _ rfl)
  have hLf : s.heap.objs.size ∉ [I, S, P] := fun hm => by
    rcases hfp _ hm with q | q
    · rw [hsz] at q; exact absurd q (Nat.not_succ_le_self _)
    · exact absurd q (Nat.ne_of_gt hlt)
  refine wpAny_bind (wpAny_rule ?_)
  unfold Builtin.List.listTouch
  refine wpAny_bind ?_
  refine wpAny_bind (listUpdate_at hL rfl ?_)
  obtain ⟨e1, hL1⟩ : ∃ e1, (h'.update s.heap.objs.size (Obj.mapSeq (·.push .none))).get? s.heap.objs.size = some (seqObj "list" #[.none] e1) := ⟨_, get?_update_seq hL _⟩
  refine listUpdate_at hL1 rfl ?_
  obtain ⟨e2, hL2⟩ : ∃ e2, ((h'.update s.heap.objs.size (Obj.mapSeq (·.push .none))).update s.heap.objs.size (Obj.mapSeq (·.pop))).get? s.heap.objs.size = some (seqObj "list" #[] e2) := ⟨_, get?_update_seq hL1 _⟩
  have hsb : Heap.SameBut s.heap.objs.size h' ((h'.update s.heap.objs.size (Obj.mapSeq (·.push .none))).update s.heap.objs.size (Obj.mapSeq (·.pop))) := (Heap.SameBut.update h' _ _).trans (Heap.SameBut.update _ _ _)
  generalize (h'.update s.heap.objs.size (Obj.mapSeq (·.push .none))).update s.heap.objs.size (Obj.mapSeq (·.pop)) = h2 at hL2 hsb ⊢
  have W := sit_walks (prog := prog) (w := w) (A := A.in1) (I := I) (S := S) (P := P) (n := es.size) hh hIS.symm hPI
  have hst2 := W.frame 0 h' h2 hst fun b hb o e => hsb.extBut b o (fun q => hLf (q ▸ hb)) e
  have hWS := W.toS
  refine wpAny_pure ⟨plainId_quiet PySem.F.plain_extend_loop _, codeAny_extend_loopS hWS (Nat.le_trans hz2 (by size_fits)) _ hLf _ es.size 0 _ _ _ rfl (Nat.zero_le _) hst2 hL2 (ItemsOf.nil _) fun s' acc' c' hm hS' hacc => ?_⟩
  show wpAny _ A (load s.heap.objs.size >>= _) _ _ s'
  refine wpAny_bind (wpAny_load hS' ?_)
  refine wpAny_pure (hQ s' acc'.toList (fun b ob e => hm.heap b ob (fun hb => ?_) (hsb.extBut b ob (fun q => ?_) (hk _ _ (Heap.get?_push_of_some _ e)))) hm.gens hm.os hm.toks (by rw [Array.length_toList, hacc.1]) fun v hv => ?_)
  · have hl := Heap.lt_size e
    simp only [List.mem_cons, List.not_mem_nil, or_false] at hb
    rcases hb with q | q
    · exact absurd hl (q ▸ Nat.lt_irrefl _)
    · rw [q] at hl; exact absurd (Nat.lt_of_lt_of_le hl (Nat.le_trans (Nat.le_of_lt (Nat.lt_succ_self _)) (Nat.le_trans (Nat.le_of_eq hsz.symm) hI))) (Nat.lt_irrefl _)
  · exact absurd (Heap.lt_size e) (q ▸ Nat.lt_irrefl _)
  · obtain ⟨j, hj, e⟩ := List.getElem_of_mem hv
    exact hacc.2 j v (by rw [← e]; simp)
/-- sorted(set(text)): a list of signs -/
theorem call_sorted_set {S : Addr} {ks : List Str} {n : Nat} {Q : Value → Shared → Prop} (hh : A.handled = none) (hS : SetAt prog w s.heap S ks n) (hn : n < 64) {k₁ k₂ : Str} (h1 : k₁ ∈ ks) (h2 : k₂ ∈ ks) (h12 : k₁ ≠ k₂)
    (h : ∀ (s' : Shared) (a : Addr) (vs : List Value) (m : Nat), (∀ b o, s.heap.get? b = some o → s'.heap.get? b = some o) → s'.gens = s.gens → s'.os = s.os → s.toks ≤ s'.toks → s.heap.get? a = none → s'.heap.get? a = some (listOf vs.toArray m) → (∀ v ∈ vs, One v) → Q (.ref a) s') :
    wpAny (model prog w) A (call (.builtin "sorted") [.ref S]) Q E s := by
  obtain ⟨es, ep, t, ho, hel, hsz, hf, hp, hone, hks⟩ := hS
  obtain ⟨e₁, m₁, i₁⟩ := hks k₁ h1
  obtain ⟨e₂, m₂, i₂⟩ := hks k₂ h2
  have hne : e₁ ≠ e₂ := fun q => by
    subst q
    exact h12 ((strKind prog w).inj e₁.2 k₁ k₂ i₁ i₂)
  have hz : 1 < es.size := by
    rw [← Array.length_toList]
    match hl : es.toList with
    | [] => rw [hl] at m₁; cases m₁
    | [x] => rw [hl, List.mem_singleton] at m₁ m₂; exact absurd (m₁.trans m₂.symm) hne
    | _ :: _ :: _ => simp
  have hpl : t.plain = false := by
    rcases hp with q | q
    · omega
    · exact q
  refine Calls.call_function_entry kind_sorted plain_sorted entry_sorted (args_sorted1 _) ?_
  unfold Builtin.«sorted»
  refine wpAny_bind (m := checkCount "sorted" 1 1 _) (wpAny_pure ?_)
  refine wpAny_bind (wpAny_collect_set (A := A.in1) hh ho hf hpl hz (by omega) hone fun s₁ acc hk hg hos htk hl h1' => ?_)
  have hS : StrsAre acc (acc.map strOf) := strsAre_map acc fun v hv => by obtain ⟨c, u, e⟩ := h1' v hv; exact ⟨_, u, e⟩
  refine wpAny_bind (wpAny_newList ?_ (by rw [hl]; exact Nat.le_trans (Nat.le_of_lt (by omega : es.size < 1000)) (by size_fits)))
  have hoL : (s₁.heap.push (seqObj "list" acc.toArray 0)).get? s₁.heap.objs.size = some (seqObj "list" acc.toArray 0) := Heap.get?_push_size _ rfl
  refine wpAny_bind (wpAny_holding (wpAny_call_entry slot_list_sort ⟨_, hoL, rfl⟩ entry_list_sort (list_sort_treeK strKind_oneLt hoL hS.keysOf (fun v₁ v₂ rest e => keyKind_strs (by rw [← e]; exact hS)) (by omega) fun st' a1 a2 => ⟨_, rfl, ?_⟩) (args_list_sort _)))
  refine wpAny_pure ⟨_, rfl, ?_⟩
  have hperm : ∀ v ∈ ((arrOf st').map (·.2)).toList, One v := fun v hv => by
    have hl : (arrOf st').toList.Perm (acc.zip acc) := by rw [← pairsOf_toList]; exact Array.perm_iff_toList_perm.mp a1
    rw [Array.toList_map, List.mem_map] at hv
    obtain ⟨p, hp, rfl⟩ := hv
    obtain ⟨q1, q2⟩ := mem_zip_self (hl.mem_iff.mp hp)
    exact h1' _ (q1 ▸ q2)
  obtain ⟨e, he⟩ := sortedHeap_at (out := (arrOf st').map (·.2)) hoL
  have hold : ∀ b o, s.heap.get? b = some o → (sortedHeap (s₁.heap.push (seqObj "list" acc.toArray 0)) s₁.heap.objs.size acc ((arrOf st').map (·.2))).get? b = some o := fun b o q => by
    have q1 := hk b o q
    have hlt := Heap.lt_size q1
    rw [sortedHeap_old (Nat.ne_of_lt hlt) (by rw [size_push']; exact Nat.lt_succ_of_lt hlt)]
    exact Heap.get?_push_of_some _ q1
  refine h _ s₁.heap.objs.size ((arrOf st').map (·.2)).toList e hold hg hos htk ?_ (by rw [Array.toArray_toList]; exact he) hperm
  cases q : s.heap.get? s₁.heap.objs.size with
  | none => rfl
  | some o => exact absurd (hk _ _ q) (by rw [get?_size_none]; intro h; cases h)
end
end Mine
end
section
open PySem PySem.W PyProof.Rows
set_option linter.unusedVariables false
set_option maxRecDepth 100000
namespace Mine
section
variable {G : Gnd} {env : Env} {Z Z' H : Zf} {ρ ρ' : Loc} {s s' : Shared} {A : Around} {E : Value → Shared → Prop} {n : Nat} {pos apos : Pos}
/-- a list of which only this is known, that each item is a Ψ -/
structure EvX (G : Gnd) (env : Env) (n : Nat) (ρ : Loc) (e : PySem.Expr) (Ψ : D → Prop) : Prop where
  run : ∀ A Z H s, Room n A → St G env Z H ρ s → wpAny (model G.prog G.w) A (eval e env) (fun v s' => ∃ Z' ds, Ext Z s Z' s' ∧ Rep G Z' v (.list ds) ∧ ∀ d ∈ ds, Ψ d) (fun _ _ => False) s
theorem ex_forX {tgt iter : PySem.Expr} {body : List Stmt} {Ψ : D → Prop} {Φ : Fl → Loc → Prop} (ρ₀ : Loc) (h : EvX G env n ρ iter Ψ) (h0 : Sub ρ₀ ρ)
    (turn : ∀ d, Ψ d → ∃ ρ'', Asg G env tgt d ρ₀ ρ'' ∧ Exs G env n ρ'' body (LoopPost Φ (Sub ρ₀)))
    (done : ∀ ρ', Sub ρ₀ ρ' → Φ .next ρ') (hs : ∀ x, foldedSetIterable iter env x = pure x) : Ex G env n ρ (.For tgt iter body [] pos) Φ := by
  constructor
  intro A Z H s R S
  refine wpAny_For (wp_seq (h.run A Z H s R S) fun v s₁ ⟨Z₁, ds, x₁, r₁, hΨ⟩ => wp_seq ((itr_list (G := G) (ds := ds)).run A Z₁ s₁ v (R.less (Nat.zero_le _)) (S.ext x₁).bs r₁) fun it s₂ ⟨I, fp, P', W, e, x₂, hI, hW, hfp, hW0, hcls, hP⟩ => ?_) hs
  subst e
  have W₀ := hW A R.handled
  obtain ⟨o₂, _, ho₂, _⟩ := hcls 0 _ hW0
  obtain ⟨S₂, hB, hH, hZ, hC⟩ := (S.ext x₁).hold x₂ hI ho₂
  refine codeAny_forLoop_any (fun m s => ∃ i Zc ρc o, m = ds.length - i ∧ i ≤ ds.length ∧ Zle Z₁ Zc ∧ St G env Zc (Zadd H I o) ρc s ∧ W i s.heap ∧ Sub ρ₀ ρc) (fun m s hm => ?_) ds.length ⟨0, Z₁, ρ, o₂, rfl, Nat.zero_le _, Zle.same, S₂, hW0, h0⟩
  obtain ⟨i, Zc, ρc, o, rfl, hle, lec, Sc, hWi, hPi⟩ := hm
  by_cases hlt : i < ds.length
  · refine wpAny_with_toks (Nat.le_refl s.toks) (W₀.item i s _ _ hlt hWi fun v h' tk pv hW' hk tok => ?_)
    obtain ⟨d', hd', rv⟩ := hP i v pv
    obtain ⟨o', T, ho', hcT, hT⟩ := hcls _ _ hW'
    have St' := Sc.turn (t := tk) hB hC (fun b ob hb e => hk b ob (by simpa using hb) e) ho' tok
    refine wp_letOwned (s := { s with heap := h', toks := tk }) ho' hcT hT ?_
    obtain ⟨ρ'', ha, hb⟩ := turn d' (hΨ _ (List.mem_of_getElem? hd'))
    refine wp_seq ((asg_weaken hPi ha).run A Zc _ _ v (R.less (Nat.zero_le _)) St' (rv.mono lec)) fun _ s₄ ⟨Z₄, le₄, S₄⟩ => ?_
    refine wp_seq (hb.run A Z₄ _ s₄ R S₄) fun f s₅ ⟨Z₅, ρ₅, fl, le₅, S₅, hf, hΦ⟩ => ?_
    have les : Zle Z Z₅ := x₁.le.trans (lec.trans (le₄.trans le₅))
    have nx : Sub ρ₀ ρ₅ → ∃ m, m < ds.length - i ∧ ∃ i Zc ρc o, m = ds.length - i ∧ i ≤ ds.length ∧ Zle Z₁ Zc ∧ St G env Zc (Zadd H I o) ρc s₅ ∧ W i s₅.heap ∧ Sub ρ₀ ρc := fun hp => by
      refine ⟨ds.length - (i + 1), by omega, i + 1, Z₅, ρ₅, o', rfl, by omega, lec.trans (le₄.trans le₅), S₅, W₀.frame _ _ _ hW' fun b hb ob e => ?_, hp⟩
      rcases hfp b hb with rfl | ⟨oz, hz⟩
      · have e' : h'.get? b = some ob := e
        rw [ho'] at e'; cases e'
        exact S₅.hin _ _ Zadd.self
      · have e1 := St'.zin b oz (lec b oz hz)
        have e' : h'.get? b = some ob := e
        have e2 : h'.get? b = some oz := e1
        rw [e'] at e2; cases e2
        exact S₅.zin _ _ (le₅ _ _ (le₄ _ _ (lec _ _ hz)))
    cases hf with
    | next => exact nx hΦ
    | cont => exact nx hΦ
    | brk => exact ⟨Z₅, ρ₅, .next, les, S₅.unhold hB hC hH, .next, hΦ⟩
    | ret r => exact ⟨Z₅, ρ₅, .ret _, les, S₅.unhold hB hC hH, .ret r, hΦ⟩
  · have hlen : i = ds.length := by omega
    subst hlen
    refine wpAny_with_toks (Nat.le_refl s.toks) (W₀.done s _ _ hWi fun h' tk hk tok => ?_)
    refine wpAny_execs_nil ?_
    exact ⟨Zc, ρc, .next, x₁.le.trans lec, Sc.drop (t := tk) hB hC hH (fun b ob hb e => hk b ob (by simpa using hb) e) tok, .next, done _ hPi⟩
theorem ones_rep {Z : Zf} : ∀ (vs : List Value), (∀ v ∈ vs, One v) → ∃ ds, RepAll G Z vs ds ∧ ∀ d ∈ ds, ∃ c : Nat, d = .str ⟨#[c]⟩
  | [], _ => ⟨[], .nil, fun _ h => by cases h⟩
  | v :: vs, h => by
    obtain ⟨c, u, rfl⟩ := h v (List.mem_cons_self ..)
    obtain ⟨ds, r, k⟩ := ones_rep vs fun x hx => h x (List.mem_cons_of_mem _ hx)
    refine ⟨.str ⟨#[c]⟩ :: ds, .cons (.str _ _) r, fun d hd => ?_⟩
    rcases List.mem_cons.mp hd with rfl | q
    · exact ⟨c, rfl⟩
    · exact k d q
/-- sorted(set(text)) -/
theorem evx_sorted_set {e : PySem.Expr} {x : Str} {p p' pos' : Pos} {c₁ c₂ : Nat} (he : Ev G env n ρ e (.str x)) (hx : x.length < 60) (h1 : c₁ ∈ x.cps.toList) (h2 : c₂ ∈ x.cps.toList) (h12 : c₁ ≠ c₂) (hst : starEach [e] env = [(false, eval e env)])
    (hs : nsIn G.K mainGlobals "sorted" = some none) (hse : nsIn G.K mainGlobals "set" = some none) (k1 : env.kindOf "sorted" = some .globalImplicit) (k2 : env.kindOf "set" = some .globalImplicit) :
    EvX G env n ρ (.Call (.Name "sorted" p) [.Call (.Name "set" p') [e] [] pos'] [] pos) fun d => ∃ c : Nat, d = .str ⟨#[c]⟩ := by
  constructor
  intro A Z H s R S
  rw [eval_call rfl]
  refine wpAny_bind (wp_builtinName S hs rfl (by decide) k1 (by decide) ?_)
  have hp1 : (starEach [PySem.Expr.Call (.Name "set" p') [e] [] pos'] env).any (·.1) = false := rfl
  refine Calls.callWith_builtin (starred_none hp1 pos) (wp_evalArgs (starred_none hp1 pos) (spliced_more ?_ rfl))
  rw [eval_call rfl]
  refine wpAny_bind (wp_builtinName S hse rfl (by decide) k2 (by decide) ?_)
  have hp2 : (starEach [e] env).any (·.1) = false := by rw [hst]; rfl
  refine PyProof.Rows.callWith_type (starred_none hp2 pos') (wp_evalArgs (starred_none hp2 pos') (wp_seq ((evs_cons he evs_nil hst).run A Z H s pos' R S) fun vs s₂ ⟨Z₂, x₂, r₂⟩ => ?_))
  cases r₂ with
  | cons r rs =>
    cases rs
    cases r with
    | str _ t =>
      refine call_set_str R.handled (by show x.length + 2 < _; have : 100 < scanBound := by decide +kernel
                                        omega) fun h' tk hset hk htk => ?_
      refine spliced_none ?_
      refine call_sorted_set R.handled hset (by show x.length < 64; omega) (List.mem_map_of_mem h1) (List.mem_map_of_mem h2) (fun q => h12 (by simpa using q)) fun s' a vs m hk' hg hos htk' hnone hget hone => ?_
      have x₃ : Ext Z₂ s₂ Z₂ { s₂ with heap := h', toks := tk } := ⟨Zle.same, hk, fun a o q => hk a o (x₂.zin a o q), fun _ _ q => .inl q, rfl, rfl, htk⟩
      have hza : Z₂ a = none := by
        cases q : Z₂ a with
        | none => rfl
        | some o => have := x₃.zin a o q; rw [hnone] at this; cases this
      have x₄ : Ext Z₂ { s₂ with heap := h', toks := tk } (Zadd Z₂ a (listOf vs.toArray m)) s' := ⟨Zadd.le hza, hk', fun b o q => by
        unfold Zadd at q
        by_cases e : b = a
        · subst e; rw [if_pos rfl] at q; cases q; exact hget
        · rw [if_neg e] at q; exact hk' b o (x₃.zin b o q), fun b o q => by
        unfold Zadd at q
        by_cases e : b = a
        · subst e; exact .inr hnone
        · rw [if_neg e] at q; exact .inl q, hg, hos, htk'⟩
      obtain ⟨ds, ra, hds⟩ := ones_rep (G := G) (Z := Zadd Z₂ a (listOf vs.toArray m)) vs hone
      exact ⟨_, ds, x₂.trans (x₃.trans x₄), .list Zadd.self ra, hds⟩
end
end Mine
end
section
open PySem PySem.W PyProof.Rows
set_option linter.unusedVariables false
namespace Mine
def pre1 (u : List Nat) : List (List Nat) → List (List Nat)
  | [] => [u]
  | a :: q => (u ++ a) :: q
def cutC (c : Nat) : List Nat → List (List Nat)
  | [] => [[]]
  | x :: r => if x = c then [] :: cutC c r else pre1 [x] (cutC c r)
theorem cutC_ne (c : Nat) (l : List Nat) : ∃ a q, cutC c l = a :: q := by
  cases l with
  | nil => exact ⟨_, _, rfl⟩
  | cons x r =>
    unfold cutC
    split
    · exact ⟨_, _, rfl⟩
    · cases cutC c r <;> exact ⟨_, _, rfl⟩
theorem split_cutC (c : Nat) (l : List Nat) : splitG [c] l = cutC c l := by
  induction l with
  | nil => rw [splitG_nil (by simp)]; rfl
  | cons x r ih =>
    unfold cutC
    by_cases h : x = c
    · subst h
      rw [splitG_hit (by simp) (by exact ⟨r, rfl⟩), if_pos rfl]
      show _ :: splitG [x] r = _
      rw [ih]
    · rw [splitG_miss (by rintro ⟨y, e⟩; exact h (List.cons.inj e).1.symm), if_neg h, ih]
      obtain ⟨a, q, e⟩ := cutC_ne c r
      rw [e]; rfl
theorem cut_free {c : Nat} {u : List Nat} (h : c ∉ u) (v : List Nat) : cutC c (u ++ v) = pre1 u (cutC c v) := by
  induction u with
  | nil =>
    obtain ⟨a, q, e⟩ := cutC_ne c v
    rw [List.nil_append, e]; rfl
  | cons x r ih =>
    rw [List.mem_cons, not_or] at h
    rw [List.cons_append, cutC, if_neg (Ne.symm h.1), ih h.2]
    obtain ⟨a, q, e⟩ := cutC_ne c v
    rw [e]; rfl
variable {t : Tbl}
theorem pre1_esc (x : Nat) (r : List (List Nat)) (h : r ≠ []) : (pre1 [x] r).map (escBy t) = pre1 (spell t x) (r.map (escBy t)) := by
  cases r with
  | nil => exact absurd rfl h
  | cons a q => simp [pre1, escBy]
theorem inter_pre (s u : List Nat) (r : List (List Nat)) (h : r ≠ []) : ((pre1 u r).intersperse s).flatten = u ++ (r.intersperse s).flatten := by
  match r, h with
  | [a], _ => simp [pre1]
  | a :: b :: q, _ => simp [pre1, List.intersperse]
theorem cut_join (c : Nat) (l : List Nat) : (((cutC c l).map (escBy t)).intersperse (spell t c)).flatten = escBy t l := by
  induction l with
  | nil => simp [cutC, escBy]
  | cons x r ih =>
    obtain ⟨a, q, e⟩ := cutC_ne c r
    unfold cutC
    by_cases h : x = c
    · subst h
      rw [if_pos rfl, escBy_cons, ← ih, e]
      simp [List.intersperse, escBy]
    · rw [if_neg h, pre1_esc x _ (by rw [e]; simp), inter_pre _ _ _ (by rw [e]; simp), ih, escBy_cons]
theorem cut_len (c : Nat) (l : List Nat) : (cutC c l).length = l.count c + 1 := by
  induction l with
  | nil => rfl
  | cons x r ih =>
    unfold cutC
    by_cases h : x = c
    · subst h; rw [if_pos rfl, List.length_cons, ih, List.count_cons_self]
    · rw [if_neg h, List.count_cons_of_ne (by simpa using h), ← ih]
      obtain ⟨a, q, e⟩ := cutC_ne c r
      rw [e]; rfl
theorem cut_sum (c : Nat) (l : List Nat) : ((cutC c l).map List.length).sum + l.count c = l.length := by
  induction l with
  | nil => rfl
  | cons x r ih =>
    unfold cutC
    by_cases h : x = c
    · subst h; rw [if_pos rfl, List.count_cons_self, List.length_cons]; simp; omega
    · rw [if_neg h, List.count_cons_of_ne (by simpa using h), List.length_cons]
      obtain ⟨a, q, e⟩ := cutC_ne c r
      rw [e] at ih ⊢
      simp [pre1] at ih ⊢; omega
theorem cut_esum (c : Nat) (l : List Nat) : (((cutC c l).map (escBy t)).map List.length).sum + l.count c * (spell t c).length = (escBy t l).length := by
  induction l with
  | nil => simp [cutC, escBy]
  | cons x r ih =>
    rw [escBy_cons, List.length_append]
    unfold cutC
    by_cases h : x = c
    · subst h
      rw [if_pos rfl, List.count_cons_self, Nat.succ_mul, List.map_cons, List.map_cons, List.sum_cons]
      have : (escBy t ([] : List Nat)).length = 0 := rfl
      omega
    · rw [if_neg h, List.count_cons_of_ne (by simpa using h)]
      obtain ⟨a, q, e⟩ := cutC_ne c r
      rw [e] at ih
      rw [pre1_esc x _ (by rw [e]; simp), e]
      simp [pre1] at ih ⊢; omega
/-- no reference for one of the text's signs holds c -/
def Free (t : Tbl) (c : Nat) (l : List Nat) : Prop := ∀ x ∈ l, ∀ z, t.lookup x = some z → c ∉ z
theorem cut_esc (c : Nat) (l : List Nat) (h1 : Free t c l) (h2 : t.lookup c = none ∨ c ∉ l) : cutC c (escBy t l) = (cutC c l).map (escBy t) := by
  induction l with
  | nil => rfl
  | cons x r ih =>
    have ih' := ih (fun y hy => h1 y (List.mem_cons_of_mem _ hy)) (h2.imp id fun q hy => q (List.mem_cons_of_mem _ hy))
    rw [escBy_cons]
    by_cases h : x = c
    · subst h
      have hn : t.lookup x = none := h2.resolve_right fun q => q (List.mem_cons_self ..)
      rw [spell_none hn, List.singleton_append, cutC, if_pos rfl, cutC, if_pos rfl, ih']
      rfl
    · have hc : c ∉ spell t x := by
        cases hx : t.lookup x with
        | none => rw [spell_none hx]; simpa using Ne.symm h
        | some z => rw [spell_some hx]; exact h1 x (List.mem_cons_self ..) z hx
      obtain ⟨a, q, e⟩ := cutC_ne c r
      rw [cut_free hc, ih', ← pre1_esc x _ (by rw [e]; simp), cutC, if_neg h]
theorem cut_esc_conv (hl : ∀ x z, t.lookup x = some z → 2 ≤ z.length) (c : Nat) (l : List Nat) (h : cutC c (escBy t l) = (cutC c l).map (escBy t)) : Free t c l ∧ (t.lookup c = none ∨ c ∉ l) := by
  have e1 : (escBy t l).count c = l.count c := by
    have := congrArg List.length h
    rw [List.length_map, cut_len, cut_len] at this
    omega
  have e2 : l.count c * (spell t c).length = l.count c := by
    have a := cut_sum c (escBy t l)
    have b := cut_esum (t := t) c l
    rw [h] at a
    omega
  have h2 : t.lookup c = none ∨ c ∉ l := by
    cases hc : t.lookup c with
    | none => exact .inl rfl
    | some z =>
      refine .inr fun hm => ?_
      have := List.count_pos_iff.mpr hm
      have h3 := hl c z hc
      rw [spell_some hc] at e2
      have : l.count c * 2 ≤ l.count c * z.length := Nat.mul_le_mul_left _ h3
      omega
  refine ⟨fun x hx z hz hc => ?_, h2⟩
  have key : ∀ (l : List Nat), (t.lookup c = none ∨ c ∉ l) → l.count c ≤ (escBy t l).count c ∧ (x ∈ l → l.count c < (escBy t l).count c) := by
    intro l
    induction l with
    | nil => intro _; exact ⟨Nat.le_refl _, fun q => by cases q⟩
    | cons y r ih =>
      intro hh
      obtain ⟨i1, i2⟩ := ih (hh.imp id fun q hy => q (List.mem_cons_of_mem _ hy))
      rw [escBy_cons, List.count_append]
      have hy : (y :: r).count c ≤ (spell t y).count c + r.count c := by
        by_cases q : y = c
        · subst q
          have hn : t.lookup y = none := hh.resolve_right fun q => q (List.mem_cons_self ..)
          rw [spell_none hn, List.count_cons_self]; simp; omega
        · rw [List.count_cons_of_ne (by simpa using q)]; omega
      refine ⟨by omega, fun q => ?_⟩
      rcases List.mem_cons.mp q with rfl | q
      · have hxc : x ≠ c := fun e => by
          subst e
          rcases hh with e | e
          · rw [hz] at e; cases e
          · exact e (List.mem_cons_self ..)
        rw [List.count_cons_of_ne (by simpa using hxc), spell_some hz]
        have := List.count_pos_iff.mpr hc
        omega
      · have := i2 q; omega
  have := (key l h2).2 hx
  omega
end Mine
end
section
open PySem PySem.W PyProof.Rows
set_option linter.unusedVariables false
set_option maxRecDepth 100000
namespace Mine
local macro_rules | `(tactic| walk_at "ev1") => `(tactic| first
  | exact ev_int | exact ev_str | exact ev_bool | exact ev_none
  | exact ev_name rfl rfl
  | exact evs_nil
  | (apply evs_more; (case hs => exact rfl))
  | apply ev_binop | (apply ev_cmp; (case hm => exact rfl)) | apply ev_sub
  | apply ev_list | apply ev_tuple
  | (apply tst_cmp; (case hm => exact rfl)) | apply tst_not | exact tst_and_nil | exact tst_or_nil
  | exact op_add_int | exact op_sub_int | exact op_iadd_int | exact op_eq_int | exact op_ne_int | exact op_lt_int | exact op_gt_int | exact op_le_int | exact op_ge_int
  | exact op_eq_str | exact op_ne_str | exact op_in_str | exact op_notin_str | exact op_in_dict | exact op_notin_dict | exact op_ne_nil | exact op_eq_nil
  | exact op_fdiv_int (by decide) (PyProof.noPylong_of_log2 (by decide +kernel)) | exact op_mod_int (by decide)
  | apply op_add_str | apply op_iadd_str
  | exact tsts_nil | apply tsts_one)
local macro_rules | `(tactic| walk_at "ev") => `(tactic| repeat' walk_at "ev1")
local macro_rules | `(tactic| walk_at "can") => `(tactic| first | exact Or.inl rfl | exact Or.inr ⟨rfl, rfl, _, rfl⟩)
local macro_rules | `(tactic| walk_at "as") => `(tactic| (refine exs_cons ?_; apply ex_assign; (case hc => walk_at "can"); (case hs => exact rfl); (case' k => refine then_next ?_); (case' h => walk_at "ev")))
local macro_rules | `(tactic| walk_at "aug") => `(tactic| (refine exs_cons ?_; apply ex_aug; (case h₀ => exact rfl); (case hc => walk_at "can"); (case' k => refine then_next ?_); (case' ho => skip); (case' h => walk_at "ev"); (try walk_at "ev")))
local macro_rules | `(tactic| walk_at "if") => `(tactic| (refine exs_cons ?_; apply ex_if; (case' h => walk_at "ev")))
local macro_rules | `(tactic| walk_at "ret") => `(tactic| (refine exs_cons ?_; apply ex_return; (case' h => walk_at "ev")))
local macro_rules | `(tactic| walk_at "params") => `(tactic| (intro x hx; simp only [List.mem_cons, List.not_mem_nil, or_false] at hx; first
  | (subst hx; first | exact .inl rfl | exact .inr ⟨rfl, fun _ => rfl⟩)
  | (rcases hx with hx | hx <;> subst hx <;> first | exact .inl rfl | exact .inr ⟨rfl, fun _ => rfl⟩)
  | (rcases hx with hx | hx | hx <;> subst hx <;> first | exact .inl rfl | exact .inr ⟨rfl, fun _ => rfl⟩)))
local macro_rules | `(tactic| walk_at "esc") => `(tactic| (refine esc_step rfl (by decide +kernel : _ = (⟨#[_]⟩ : Str)) ?_ ?_ ?_ ?_ (by assumption) rfl (by walk_at "can") rfl ?_))
abbrev pw := PySem.Challenge.pw_dn0275_10
section
variable {G : Gnd} {n : Nat} {doc pm cdv ct : Value} {a : Addr}
def rAmp : List Nat := [38, 97, 109, 112, 59]
def rLt : List Nat := [38, 108, 116, 59]
def rGt : List Nat := [38, 103, 116, 59]
def rQuot : List Nat := [38, 113, 117, 111, 116, 59]
def rCr : List Nat := [38, 35, 49, 51, 59]
def rLf : List Nat := [38, 35, 49, 48, 59]
def rTab : List Nat := [38, 35, 48, 57, 59]
def rxD : List Nat := [38, 35, 120, 68, 59]
def rxA : List Nat := [38, 35, 120, 65, 59]
def rx9 : List Nat := [38, 35, 120, 57, 59]
def cdataT : Tbl := [(38, rAmp), (60, rLt), (62, rGt)]
theorem fn_cdata (D : DefAt G a (fdOf (stOf pw 2) doc pm cdv ct) (bodyOf (stOf pw 2))) (l : List Nat) (hl : l.length ≤ 100000) : Fn G (n + 1) a [.str (T l)] (.str (T (escBy cdataT l))) := by
  refine fn_of (xs := ["text"]) D (fun vs h => ?_) rfl ?_ (by decide) fun L => ?_
  · match vs, h with
    | [v], _ => rfl
  · walk_at "params"
  rw [show T l = T (escBy [] l) from by rw [escBy_nil]]
  refine exs_cons (ex_try ?_)
  refine esc_step (c := 38) (z := rAmp) rfl (by decide +kernel) (by decide +kernel) (by decide) (by decide) (by decide) hl rfl (.inl rfl) rfl ?_
  refine esc_step (c := 60) (z := rLt) rfl (by decide +kernel) (by decide +kernel) (by decide) (by decide) (by decide) hl rfl (.inl rfl) rfl ?_
  refine esc_step (c := 62) (z := rGt) rfl (by decide +kernel) (by decide +kernel) (by decide) (by decide) (by decide) hl rfl (.inl rfl) rfl ?_
  walk_at "ret"
  rfl
def attribT : Tbl := [(38, rAmp), (60, rLt), (62, rGt), (34, rQuot), (13, rCr), (10, rLf), (9, rTab)]
theorem fn_attrib (D : DefAt G a (fdOf (stOf pw 3) doc pm cdv ct) (bodyOf (stOf pw 3))) (l : List Nat) (hl : l.length ≤ 100000) : Fn G (n + 1) a [.str (T l)] (.str (T (escBy attribT l))) := by
  refine fn_of (xs := ["text"]) D (fun vs h => ?_) rfl ?_ (by decide) fun L => ?_
  · match vs, h with
    | [v], _ => rfl
  · walk_at "params"
  rw [show T l = T (escBy [] l) from by rw [escBy_nil]]
  refine exs_cons (ex_try ?_)
  refine esc_step (c := 38) (z := rAmp) rfl (by decide +kernel) (by decide +kernel) (by decide) (by decide) (by decide) hl rfl (.inl rfl) rfl ?_
  refine esc_step (c := 60) (z := rLt) rfl (by decide +kernel) (by decide +kernel) (by decide) (by decide) (by decide) hl rfl (.inl rfl) rfl ?_
  refine esc_step (c := 62) (z := rGt) rfl (by decide +kernel) (by decide +kernel) (by decide) (by decide) (by decide) hl rfl (.inl rfl) rfl ?_
  refine esc_step (c := 34) (z := rQuot) rfl (by decide +kernel) (by decide +kernel) (by decide) (by decide) (by decide) hl rfl (.inl rfl) rfl ?_
  refine esc_step (c := 13) (z := rCr) rfl (by decide +kernel) (by decide +kernel) (by decide) (by decide) (by decide) hl rfl (.inl rfl) rfl ?_
  refine esc_step (c := 10) (z := rLf) rfl (by decide +kernel) (by decide +kernel) (by decide) (by decide) (by decide) hl rfl (.inl rfl) rfl ?_
  refine esc_step (c := 9) (z := rTab) rfl (by decide +kernel) (by decide +kernel) (by decide) (by decide) (by decide) hl rfl (.inl rfl) rfl ?_
  walk_at "ret"
  rfl
def htmlT : Tbl := [(38, rAmp), (62, rGt), (34, rQuot)]
theorem fn_html (D : DefAt G a (fdOf (stOf pw 4) doc pm cdv ct) (bodyOf (stOf pw 4))) (l : List Nat) (hl : l.length ≤ 100000) : Fn G (n + 1) a [.str (T l)] (.str (T (escBy htmlT l))) := by
  refine fn_of (xs := ["text"]) D (fun vs h => ?_) rfl ?_ (by decide) fun L => ?_
  · match vs, h with
    | [v], _ => rfl
  · walk_at "params"
  rw [show T l = T (escBy [] l) from by rw [escBy_nil]]
  refine exs_cons (ex_try ?_)
  refine esc_step (c := 38) (z := rAmp) rfl (by decide +kernel) (by decide +kernel) (by decide) (by decide) (by decide) hl rfl (.inl rfl) rfl ?_
  refine esc_step (c := 62) (z := rGt) rfl (by decide +kernel) (by decide +kernel) (by decide) (by decide) (by decide) hl rfl (.inl rfl) rfl ?_
  refine esc_step (c := 34) (z := rQuot) rfl (by decide +kernel) (by decide +kernel) (by decide) (by decide) (by decide) hl rfl (.inl rfl) rfl ?_
  walk_at "ret"
  rfl
def cdataCT : Tbl := [(38, rAmp), (60, rLt), (62, rGt), (13, rxD)]
theorem fn_cdataC (D : DefAt G a (fdOf (stOf pw 5) doc pm cdv ct) (bodyOf (stOf pw 5))) (l : List Nat) (hl : l.length ≤ 100000) : Fn G (n + 1) a [.str (T l)] (.str (T (escBy cdataCT l))) := by
  refine fn_of (xs := ["text"]) D (fun vs h => ?_) rfl ?_ (by decide) fun L => ?_
  · match vs, h with
    | [v], _ => rfl
  · walk_at "params"
  rw [show T l = T (escBy [] l) from by rw [escBy_nil]]
  refine exs_cons (ex_try ?_)
  refine esc_step (c := 38) (z := rAmp) rfl (by decide +kernel) (by decide +kernel) (by decide) (by decide) (by decide) hl rfl (.inl rfl) rfl ?_
  refine esc_step (c := 60) (z := rLt) rfl (by decide +kernel) (by decide +kernel) (by decide) (by decide) (by decide) hl rfl (.inl rfl) rfl ?_
  refine esc_step (c := 62) (z := rGt) rfl (by decide +kernel) (by decide +kernel) (by decide) (by decide) (by decide) hl rfl (.inl rfl) rfl ?_
  refine esc_step (c := 13) (z := rxD) rfl (by decide +kernel) (by decide +kernel) (by decide) (by decide) (by decide) hl rfl (.inl rfl) rfl ?_
  walk_at "ret"
  rfl
def attribCT : Tbl := [(38, rAmp), (60, rLt), (34, rQuot), (9, rx9), (10, rxA), (13, rxD)]
theorem fn_attribC (D : DefAt G a (fdOf (stOf pw 6) doc pm cdv ct) (bodyOf (stOf pw 6))) (l : List Nat) (hl : l.length ≤ 100000) : Fn G (n + 1) a [.str (T l)] (.str (T (escBy attribCT l))) := by
  refine fn_of (xs := ["text"]) D (fun vs h => ?_) rfl ?_ (by decide) fun L => ?_
  · match vs, h with
    | [v], _ => rfl
  · walk_at "params"
  rw [show T l = T (escBy [] l) from by rw [escBy_nil]]
  refine exs_cons (ex_try ?_)
  refine esc_step (c := 38) (z := rAmp) rfl (by decide +kernel) (by decide +kernel) (by decide) (by decide) (by decide) hl rfl (.inl rfl) rfl ?_
  refine esc_step (c := 60) (z := rLt) rfl (by decide +kernel) (by decide +kernel) (by decide) (by decide) (by decide) hl rfl (.inl rfl) rfl ?_
  refine esc_step (c := 34) (z := rQuot) rfl (by decide +kernel) (by decide +kernel) (by decide) (by decide) (by decide) hl rfl (.inl rfl) rfl ?_
  refine esc_step (c := 9) (z := rx9) rfl (by decide +kernel) (by decide +kernel) (by decide) (by decide) (by decide) hl rfl (.inl rfl) rfl ?_
  refine esc_step (c := 10) (z := rxA) rfl (by decide +kernel) (by decide +kernel) (by decide) (by decide) (by decide) hl rfl (.inl rfl) rfl ?_
  refine esc_step (c := 13) (z := rxD) rfl (by decide +kernel) (by decide +kernel) (by decide) (by decide) (by decide) hl rfl (.inl rfl) rfl ?_
  walk_at "ret"
  rfl
end
end Mine
end
section
open PySem PySem.W PyProof.Rows
set_option linter.unusedVariables false
set_option maxRecDepth 100000
namespace Mine
local macro_rules | `(tactic| walk_at "ev1") => `(tactic| first
  | exact ev_int | exact ev_str | exact ev_bool | exact ev_none
  | exact ev_name rfl rfl
  | exact evs_nil
  | (apply evs_more; (case hs => exact rfl))
  | apply ev_binop | (apply ev_cmp; (case hm => exact rfl)) | apply ev_sub
  | apply ev_list | apply ev_tuple
  | (apply tst_cmp; (case hm => exact rfl)) | apply tst_not | exact tst_and_nil | exact tst_or_nil
  | exact op_add_int | exact op_sub_int | exact op_iadd_int | exact op_eq_int | exact op_ne_int | exact op_lt_int | exact op_gt_int | exact op_le_int | exact op_ge_int
  | exact op_eq_str | exact op_ne_str | exact op_in_str | exact op_notin_str | exact op_in_dict | exact op_notin_dict | exact op_ne_nil | exact op_eq_nil
  | exact op_fdiv_int (by decide) (PyProof.noPylong_of_log2 (by decide +kernel)) | exact op_mod_int (by decide)
  | apply op_add_str | apply op_iadd_str
  | exact tsts_nil | apply tsts_one)
local macro_rules | `(tactic| walk_at "ev") => `(tactic| repeat' walk_at "ev1")
local macro_rules | `(tactic| walk_at "can") => `(tactic| first | exact Or.inl rfl | exact Or.inr ⟨rfl, rfl, _, rfl⟩)
local macro_rules | `(tactic| walk_at "as") => `(tactic| (refine exs_cons ?_; apply ex_assign; (case hc => walk_at "can"); (case hs => exact rfl); (case' k => refine then_next ?_); (case' h => walk_at "ev")))
local macro_rules | `(tactic| walk_at "aug") => `(tactic| (refine exs_cons ?_; apply ex_aug; (case h₀ => exact rfl); (case hc => walk_at "can"); (case' k => refine then_next ?_); (case' ho => skip); (case' h => walk_at "ev"); (try walk_at "ev")))
local macro_rules | `(tactic| walk_at "if") => `(tactic| (refine exs_cons ?_; apply ex_if; (case' h => walk_at "ev")))
local macro_rules | `(tactic| walk_at "ret") => `(tactic| (refine exs_cons ?_; apply ex_return; (case' h => walk_at "ev")))
local macro_rules | `(tactic| walk_at "params") => `(tactic| (intro x hx; simp only [List.mem_cons, List.not_mem_nil, or_false] at hx; first
  | (subst hx; first | exact .inl rfl | exact .inr ⟨rfl, fun _ => rfl⟩)
  | (rcases hx with hx | hx <;> subst hx <;> first | exact .inl rfl | exact .inr ⟨rfl, fun _ => rfl⟩)
  | (rcases hx with hx | hx | hx <;> subst hx <;> first | exact .inl rfl | exact .inr ⟨rfl, fun _ => rfl⟩)))
local macro_rules | `(tactic| walk_at "esc") => `(tactic| (refine esc_step rfl (by decide +kernel : _ = (⟨#[_]⟩ : Str)) ?_ ?_ ?_ ?_ (by assumption) rfl (by walk_at "can") rfl ?_))

section
variable {G : Gnd} {n : Nat} {doc pm cdv ct : Value} {a : Addr}
set_option maxHeartbeats 4000000
def chD (l : List Nat) : List D := l.map fun c => .str ⟨#[c]⟩
theorem chD_txs (l : List Nat) : chD l = txs (l.map fun c => T [c]) := by simp [chD, txs, T_one]
theorem chD_cs (x : Str) : charsOf x = chD (cs x) := rfl
theorem chD_app (a b : List Nat) : chD (a ++ b) = chD a ++ chD b := by simp [chD]
theorem chD_len (l : List Nat) : (chD l).length = l.length := by simp [chD]
def signs10 : List Str := ["&", "<", ">", "\"", "\r", "\n", "\t"]
def more10 : List Str := ["&amp;", "&lt;", "&#13;", "&#xD;", "amp;", "a", "#", ";", "\r\n"]
def pieces10 : List Str := signs10 ++ more10
def step10 (x : Int) : List Nat := if (x.fmod 2 == 0) = true then cs (pieces10.getD ((x.fdiv 2).fmod 16).toNat Str.empty) else [(codeOf ((x.fdiv 2).fmod 1112064)).toNat]
def laid10 (ns : List Int) : List Nat := ns.flatMap step10
theorem step10_le (x : Int) : (step10 x).length ≤ 6 := by
  unfold step10
  split
  · have h := fmod_bounds (a := x.fdiv 2) (m := 16) (by decide)
    have hlt : ((x.fdiv 2).fmod 16).toNat < pieces10.length := by show _ < 16; omega
    have all : pieces10.all (fun y => decide ((cs y).length ≤ 6)) = true := by decide +kernel
    rw [List.getD_eq_getElem?_getD, List.getElem?_eq_getElem hlt]
    exact of_decide_eq_true (List.all_eq_true.mp all _ (List.getElem_mem hlt))
  · simp
theorem laid10_le (ns : List Int) : (laid10 ns).length ≤ 6 * ns.length := by
  induction ns with
  | nil => simp [laid10]
  | cons x r ih =>
    unfold laid10 at ih ⊢
    rw [List.flatMap_cons, List.length_append, List.length_cons]
    have := step10_le x
    omega
def goneAt (a : Int) (k : Nat) : Bool := (a.fdiv (2 ^ k)).fmod 2 == 0
def gone10 (a : Int) : List Str := (List.range 7).flatMap fun k => if goneAt a k = true then [signs10.getD k Str.empty] else []
def text10 (ns : List Int) : List Nat := (laid10 ns).filter fun c => !((gone10 (ns.headD 0)).any (· == T [c]))
theorem text10_le (ns : List Int) : (text10 ns).length ≤ 6 * ns.length := Nat.le_trans (List.length_filter_le _ _) (laid10_le ns)
theorem noPy {a : Int} {k : Nat} (hk : k < 7) : Builtin.divisionGoesByPylong a (2 ^ k) = false := by
  rcases k with _ | _ | _ | _ | _ | _ | _ | k <;> first | exact PyProof.noPylong_of_log2 (by decide +kernel) | omega
theorem fn_text (dA : DefAt G a (fdOf (stOf pw 8) doc pm cdv ct) (bodyOf (stOf pw 8))) (hc : nsIn G.K mainGlobals "chr" = some none) (hli : nsIn G.K mainGlobals "list" = some none) (hr : nsIn G.K mainGlobals "range" = some none) (ns : List Int) (hn : ns.length ≤ 63) (hne : ns ≠ []) : Fn G (n + 2) a [.list (ns.map .int)] (.str (T (text10 ns))) := by
  refine fn_of (xs := ["script"]) dA (fun vs h => ?_) rfl ?_ (by decide) fun L => ?_
  · match vs, h with
    | [v], _ => rfl
  · walk_at "params"
  have big : 100000 ≤ sizeLine := by decide
  walk_at "as"
  · decide
  refine exs_cons (ex_assign (d := .list (txs pieces10)) ?_ (.inl rfl) rfl (then_next ?_))
  · have e : txs pieces10 = txs signs10 ++ txs more10 := by simp [pieces10, txs]
    rw [e]
    refine ev_binop (ev_name rfl rfl) ?_ (op_add_list (by decide))
    walk_at "ev"
    decide
  refine exs_cons (ex_assign_own evs_nil (by decide) (.inl rfl) (then_next ?_))
  refine exs_cons ?_
  apply ex_forI (fun i => [("script", .val (.list (ns.map .int))), ("signs", .val (.list (txs signs10))), ("pieces", .val (.list (txs pieces10))), ("laid", .own (chD (laid10 (ns.take i))))])
  · walk_at "ev"
  · exact itr_list
  · exact sub_cons rfl (sub_cons rfl (sub_cons rfl (sub_cons rfl sub_nil)))
  · intro i d hd
    obtain ⟨x, hx, rfl⟩ := at_map hd
    refine ⟨_, asg_name (.inl rfl), ?_⟩
    have htk : laid10 (ns.take (i + 1)) = laid10 (ns.take i) ++ step10 x := by
      unfold laid10
      rw [List.take_add_one, hx, List.flatMap_append]
      simp
    have hll := laid10_le (ns.take i)
    rw [List.length_take] at hll
    have hst := step10_le x
    have fin : ∀ ρ' : Loc, Sub [("script", .val (.list (ns.map .int))), ("signs", .val (.list (txs signs10))), ("pieces", .val (.list (txs pieces10))), ("laid", .own (chD (laid10 (ns.take i)) ++ chD (step10 x)))] ρ' → Sub [("script", .val (.list (ns.map .int))), ("signs", .val (.list (txs signs10))), ("pieces", .val (.list (txs pieces10))), ("laid", .own (chD (laid10 (ns.take (i + 1)))))] ρ' := fun ρ' h => by rw [htk, chD_app]; exact h
    walk_at "if"
    · intro h2
      refine exs_cons (ex_extend (ds := chD (laid10 (ns.take i))) (es := chD (step10 x)) rfl ?_ (by rw [chD_len, chD_len]; omega) rfl rfl rfl rfl (then_next (exs_nil (then_next (exs_nil (fin _ (sub_cons rfl (sub_cons rfl (sub_cons rfl (sub_cons rfl sub_nil))))))))))
      rw [show step10 x = _ from if_pos h2, ← chD_cs]
      refine ev_bt (evs_more (ev_sub (ev_name rfl rfl) (by walk_at "ev") (sb_menu (xs := pieces10) (m := 16) (by decide) (by decide) (by decide))) evs_nil rfl) (bt_list_str ?_) hli rfl rfl rfl rfl
      have e : (pieces10.getD ((x.fdiv 2).fmod 16).toNat Str.empty).length = (step10 x).length := by rw [show step10 x = _ from if_pos h2]; simp [cs, Str.length]
      rw [e]; omega
    · intro h2
      walk_at "as"
      refine exs_cons (ex_append (.str ⟨#[(codeOf ((x.fdiv 2).fmod 1112064)).toNat]⟩) rfl ?_ (by rw [chD_len]; omega) rfl rfl rfl rfl (then_next (exs_nil (then_next (exs_nil (fin _ ?_))))))
      · refine ev_bf (evs_more (ev_ifint (c := decide ((x.fdiv 2).fmod 1112064 < 55296)) ?_ (fun _ => ev_name rfl rfl) fun _ => ?_) evs_nil rfl) (bf_chr (i := codeOf ((x.fdiv 2).fmod 1112064)) (codeOf_bounds _).1 (codeOf_bounds _).2) hc rfl rfl rfl rfl
        · walk_at "ev"
        · walk_at "ev"
      · rw [show step10 x = _ from if_neg (by rw [h2]; decide)]
        exact sub_cons rfl (sub_cons rfl (sub_cons rfl (sub_cons rfl sub_nil)))
  · intro ρ' hsub
    refine then_next (exs_weaken hsub ?_)
    rw [List.length_map, List.take_length]
    obtain ⟨a0, ns', rfl⟩ := List.exists_cons_of_ne_nil hne
    refine exs_cons (ex_assign (d := .list (txs (gone10 a0))) (ev_listcomp (ρc := [("script", .val (.list ((a0 :: ns').map .int))), ("signs", .val (.list (txs signs10)))]) (cl := [("signs", _), ("script", _)]) (d := .rng 0 7) (ds := (List.range 7).map fun (k : Nat) => D.int (k : Int)) (out := txs (gone10 a0)) ⟨rfl, by decide, by decide, rfl, cells_cons rfl (cells_cons rfl cells_nil), cap_cons rfl rfl rfl rfl (cap_cons rfl rfl rfl rfl cap_nil)⟩ rfl (fun _ => rfl) (ev_bt (evs_more ev_int evs_nil rfl) bt_range1 hr rfl rfl rfl rfl) (itr_range rfl (by decide) (by decide)) ?_ ?_) (by walk_at "can") rfl (then_next ?_))
    · intro C
      have e : txs (gone10 a0) = (List.range 7).flatMap fun k => if goneAt a0 k = true then [D.str (signs10.getD k Str.empty)] else [] := by
        unfold gone10 txs
        rw [List.map_flatMap]
        congr 1
        funext k
        split <;> rfl
      rw [e]
      refine comp1 (xs := List.range 7) (mk := fun (k : Nat) => D.int (k : Int)) (F := fun k => if goneAt a0 k = true then [D.str (signs10.getD k Str.empty)] else []) fun k hk => ⟨_, goneAt a0 k, asg_name (.inl rfl), ?_, tsts_one ?_, (fun h => if_neg (by rw [h]; decide)), fun h => ⟨.str (signs10.getD k Str.empty), ?_, if_pos h⟩⟩
      · exact sub_cons rfl (sub_cons rfl sub_nil)
      · have hk' := List.mem_range.mp hk
        have h2k := pow2_pos k
        refine tst_cmp (ev_binop (ev_binop (ev_sub (ev_name rfl rfl) ev_int (sb_list (d := .int a0) (by decide) (by decide) rfl)) (ev_binop ev_int (ev_name rfl rfl) (op_pow_int (by omega) (by rw [show (Builtin.Int.intBits 2 : Int) = 2 by decide +kernel]; omega))) (op_fdiv_int (a := a0) ?_ ?_)) ev_int (op_mod_int (by decide))) ev_int op_eq_int rfl
        · rw [Int.toNat_natCast]; omega
        · rw [Int.toNat_natCast]; exact noPy hk'
      · have hk' := List.mem_range.mp hk
        refine ev_sub (ev_name rfl rfl) (ev_name rfl rfl) (sb_list (by omega) (by omega) ?_)
        rw [List.getElem?_map, Int.toNat_natCast, List.getElem?_eq_getElem (show k < signs10.length from hk'), List.getD_eq_getElem?_getD, List.getElem?_eq_getElem (show k < signs10.length from hk')]
        rfl
    · have : (txs (gone10 a0)).length ≤ 7 := by
        unfold gone10 txs
        rw [List.length_map]
        have key : ∀ (l : List Nat), (l.flatMap fun k => if goneAt a0 k = true then [signs10.getD k Str.empty] else []).length ≤ l.length := by
          intro l
          induction l with
          | nil => simp
          | cons k r ih =>
            rw [List.flatMap_cons, List.length_append, List.length_cons]
            have : (if goneAt a0 k = true then [signs10.getD k Str.empty] else []).length ≤ 1 := by split <;> simp
            omega
        have := key (List.range 7)
        rw [List.length_range] at this
        exact this
      omega
    refine exs_freeze (x := "laid") rfl ?_
    have hll := laid10_le (a0 :: ns')
    have htl := text10_le (a0 :: ns')
    refine exs_cons (ex_return (d := .str (T (text10 (a0 :: ns')))) ?_ rfl)
    rw [← join_ones]
    refine ev_meth (ds := [.list (txs ((text10 (a0 :: ns')).map fun c => T [c]))]) ev_str (evs_more ?_ evs_nil rfl) (getm_str F.slot_str_join F.type_str_join) (bf_join (joinOk_of (m := 1) (fun x hx => ?_) ?_)) rfl rfl (by decide) rfl
    · refine ev_listcomp (ρc := [("gone", .val (.list (txs (gone10 a0))))]) (cl := [("gone", _)]) (d := .list (chD (laid10 (a0 :: ns')))) (ds := (laid10 (a0 :: ns')).map fun c => .str ⟨#[c]⟩) ⟨rfl, by decide, by decide, rfl, cells_cons rfl cells_nil, cap_cons rfl rfl rfl rfl cap_nil⟩ rfl (fun _ => rfl) (ev_name rfl rfl) itr_list ?_ ?_
      · intro C
        have e : txs ((text10 (a0 :: ns')).map fun c => T [c]) = (laid10 (a0 :: ns')).flatMap fun c => if (!((gone10 a0).any (· == T [c]))) = true then [D.str ⟨#[c]⟩] else [] := by
          rw [← chD_txs]
          unfold text10 chD
          show List.map _ ((laid10 (a0 :: ns')).filter fun c => !((gone10 a0).any (· == T [c]))) = _
          generalize laid10 (a0 :: ns') = l
          induction l with
          | nil => rfl
          | cons c r ih =>
            rw [List.filter_cons, List.flatMap_cons]
            split
            · rename_i h; rw [List.map_cons, ih]; rfl
            · rename_i h; rw [ih]; rfl
        rw [e]
        exact comp1 (xs := laid10 (a0 :: ns')) (mk := fun c => D.str ⟨#[c]⟩) (F := fun c => if (!((gone10 a0).any (· == T [c]))) = true then [D.str ⟨#[c]⟩] else []) fun c _ => ⟨_, !((gone10 a0).any (· == T [c])), asg_name (.inl rfl), sub_upd rfl, tsts_one (tst_cmp (ev_name rfl rfl) (ev_name rfl rfl) op_notin_strs rfl), (fun h => if_neg (by rw [h]; decide)), fun h => ⟨_, ev_name rfl rfl, if_pos h⟩⟩
      · rw [List.length_map, List.length_map]; simp at htl hn; omega
    · obtain ⟨c, _, rfl⟩ := List.mem_map.mp hx
      exact Nat.le_refl _
    · rw [List.length_map]
      show _ * (1 + 0) ≤ _
      simp at htl hn
      omega
  · intro x; rfl
end
end Mine
end
section
open PySem PySem.W PyProof.Rows
set_option linter.unusedVariables false
set_option maxRecDepth 100000
namespace Mine
local macro_rules | `(tactic| walk_at "ev1") => `(tactic| first
  | exact ev_int | exact ev_str | exact ev_bool | exact ev_none
  | exact ev_name rfl rfl
  | exact evs_nil
  | (apply evs_more; (case hs => exact rfl))
  | apply ev_binop | (apply ev_cmp; (case hm => exact rfl)) | apply ev_sub
  | apply ev_list | apply ev_tuple
  | (apply tst_cmp; (case hm => exact rfl)) | apply tst_not | exact tst_and_nil | exact tst_or_nil
  | exact op_add_int | exact op_sub_int | exact op_iadd_int | exact op_eq_int | exact op_ne_int | exact op_lt_int | exact op_gt_int | exact op_le_int | exact op_ge_int
  | exact op_eq_str | exact op_ne_str | exact op_in_str | exact op_notin_str | exact op_in_dict | exact op_notin_dict | exact op_ne_nil | exact op_eq_nil
  | exact op_fdiv_int (by decide) (PyProof.noPylong_of_log2 (by decide +kernel)) | exact op_mod_int (by decide)
  | apply op_add_str | apply op_iadd_str
  | exact tsts_nil | apply tsts_one)
local macro_rules | `(tactic| walk_at "ev") => `(tactic| repeat' walk_at "ev1")
local macro_rules | `(tactic| walk_at "can") => `(tactic| first | exact Or.inl rfl | exact Or.inr ⟨rfl, rfl, _, rfl⟩)
local macro_rules | `(tactic| walk_at "as") => `(tactic| (refine exs_cons ?_; apply ex_assign; (case hc => walk_at "can"); (case hs => exact rfl); (case' k => refine then_next ?_); (case' h => walk_at "ev")))
local macro_rules | `(tactic| walk_at "aug") => `(tactic| (refine exs_cons ?_; apply ex_aug; (case h₀ => exact rfl); (case hc => walk_at "can"); (case' k => refine then_next ?_); (case' ho => skip); (case' h => walk_at "ev"); (try walk_at "ev")))
local macro_rules | `(tactic| walk_at "if") => `(tactic| (refine exs_cons ?_; apply ex_if; (case' h => walk_at "ev")))
local macro_rules | `(tactic| walk_at "ret") => `(tactic| (refine exs_cons ?_; apply ex_return; (case' h => walk_at "ev")))
local macro_rules | `(tactic| walk_at "params") => `(tactic| (intro x hx; simp only [List.mem_cons, List.not_mem_nil, or_false] at hx; first
  | (subst hx; first | exact .inl rfl | exact .inr ⟨rfl, fun _ => rfl⟩)
  | (rcases hx with hx | hx <;> subst hx <;> first | exact .inl rfl | exact .inr ⟨rfl, fun _ => rfl⟩)
  | (rcases hx with hx | hx | hx <;> subst hx <;> first | exact .inl rfl | exact .inr ⟨rfl, fun _ => rfl⟩)))
local macro_rules | `(tactic| walk_at "esc") => `(tactic| (refine esc_step rfl (by decide +kernel : _ = (⟨#[_]⟩ : Str)) ?_ ?_ ?_ ?_ (by assumption) rfl (by walk_at "can") rfl ?_))

section
variable {G : Gnd} {n : Nat} {doc pm cdv ct : Value} {a : Addr}
set_option maxHeartbeats 4000000
def refsOf (t : Tbl) (l : List Nat) : List (List Nat) := l.filterMap fun c => t.lookup c
theorem refs_flat (t : Tbl) (l : List Nat) : txs ((refsOf t l).map T) = l.flatMap fun c => if (t.lookup c).isSome = true then [D.str (T ((t.lookup c).getD []))] else [] := by
  induction l with
  | nil => rfl
  | cons c r ih =>
    rw [List.flatMap_cons, ← ih]
    unfold refsOf
    rw [List.filterMap_cons]
    cases t.lookup c with
    | none => rfl
    | some z => rfl
theorem refs_le (t : Tbl) (l : List Nat) : (refsOf t l).length ≤ l.length := List.length_filterMap_le _ _
theorem held_flat (c : Nat) (zs : List (List Nat)) : txs ((zs.filter fun z => decide (c ∈ z)).map T) = zs.flatMap fun z => if decide (c ∈ z) = true then [D.str (T z)] else [] := by
  induction zs with
  | nil => rfl
  | cons z r ih =>
    rw [List.flatMap_cons, ← ih, List.filter_cons]
    split
    · rfl
    · rfl
theorem held_iff (t : Tbl) (c : Nat) (l : List Nat) : (txs (((refsOf t l).filter fun z => decide (c ∈ z)).map T)).isEmpty = true ↔ Free t c l := by
  rw [List.isEmpty_iff, txs, List.map_eq_nil_iff, List.map_eq_nil_iff, List.filter_eq_nil_iff]
  unfold refsOf Free
  constructor
  · intro h x hx z hz hc
    exact h z (List.mem_filterMap.mpr ⟨x, hx, hz⟩) (by simpa using hc)
  · intro h z hz hc
    obtain ⟨x, hx, e⟩ := List.mem_filterMap.mp hz
    exact h x hx z e (by simpa using hc)
theorem mapT_inj {a b : List (List Nat)} (h : a.map T = b.map T) : a = b := by
  induction a generalizing b with
  | nil => cases b with
    | nil => rfl
    | cons _ _ => cases h
  | cons x r ih => cases b with
    | nil => cases h
    | cons y q =>
      rw [List.map_cons, List.map_cons] at h
      rw [T_inj (List.cons.inj h).1, ih (List.cons.inj h).2]
theorem fin10 {tb : Tbl} (hl : ∀ x z, tb.lookup x = some z → 2 ≤ z.length) (c : Nat) (W : List Nat) :
    (((cutC c (escBy tb W)).map T == ((cutC c W).map (escBy tb)).map T) != (!(!(txs (((refsOf tb W).filter fun z => decide (c ∈ z)).map T)).isEmpty) && (!(dget (tb.map fun p => T [p.1]) (tb.map fun p => D.str (T p.2)) ⟨#[c]⟩).isSome || !tin ⟨#[c]⟩ (T W)))) = false := by
  rw [bne_eq_false_iff_eq, dget_tb, tin_T, Bool.eq_iff_iff, beq_iff_eq, Bool.not_not, Bool.and_eq_true, held_iff, Bool.or_eq_true]
  have e2 : (!(Option.map (fun t => D.str (T t)) (tb.lookup c)).isSome) = true ↔ tb.lookup c = none := by cases tb.lookup c <;> simp
  have e3 : (!decide (c ∈ W)) = true ↔ c ∉ W := by simp
  rw [e2, e3]
  constructor
  · intro h; exact cut_esc_conv hl c W (mapT_inj h)
  · intro h; rw [cut_esc c W h.1 h.2]
def k10 : List Nat := [38, 60, 62, 34, 13, 10, 9, 97, 109, 112, 59, 108, 116, 103, 113, 117, 111, 35, 49, 51, 48, 57, 120, 68, 65]
theorem lens_of {tb : Tbl} (h : tb.all (fun p => decide (2 ≤ p.2.length)) = true) : ∀ x z, tb.lookup x = some z → 2 ≤ z.length := fun x z hz => of_decide_eq_true (List.all_eq_true.mp h _ (mem_look hz))
theorem cut_mem_le {c : Nat} {l p : List Nat} (h : p ∈ cutC c l) : p.length ≤ l.length := by
  have := cut_sum c l
  have h2 : p.length ≤ ((cutC c l).map List.length).sum := by
    generalize cutC c l = ps at h
    induction ps with
    | nil => cases h
    | cons a r ih =>
      rw [List.map_cons, List.sum_cons]
      rcases List.mem_cons.mp h with rfl | h
      · omega
      · have := ih h; omega
  omega
theorem fn_law (dA : DefAt G a (fdOf (stOf pw 9) doc pm cdv ct) (bodyOf (stOf pw 9))) {at₀ a0 a1 a2 a3 a4 : Addr}
    (hr : nsIn G.K mainGlobals "range" = some none) (hso : nsIn G.K mainGlobals "sorted" = some none) (hse : nsIn G.K mainGlobals "set" = some none)
    (gt : nsIn G.K mainGlobals "_law_text" = some (some (.ref at₀))) (kt : keepIn G.K (.ref at₀) = true) (ft : ∀ ns : List Int, ns.length ≤ 63 → ns ≠ [] → Fn G (n + 2) at₀ [.list (ns.map .int)] (.str (T (text10 ns))))
    (g0 : nsIn G.K mainGlobals "_escape_cdata" = some (some (.ref a0))) (g1 : nsIn G.K mainGlobals "_escape_attrib" = some (some (.ref a1))) (g2 : nsIn G.K mainGlobals "_escape_attrib_html" = some (some (.ref a2)))
    (g3 : nsIn G.K mainGlobals "_escape_cdata_c14n" = some (some (.ref a3))) (g4 : nsIn G.K mainGlobals "_escape_attrib_c14n" = some (some (.ref a4)))
    (hH : ∀ h ∈ [(a0, cdataT), (a1, attribT), (a2, htmlT), (a3, cdataCT), (a4, attribCT)], keepIn G.K (.ref h.1) = true ∧ ∀ l : List Nat, l.length ≤ 100000 → Fn G (n + 2) h.1 [.str (T l)] (.str (T (escBy h.2 l))))
    (ns : List Int) (hn : ns.length ≤ 63) : Fn G (n + 3) a [.list (ns.map .int)] (.bool true) := by
  refine fn_of (xs := ["script"]) dA (fun vs h => ?_) rfl ?_ (by decide) fun L => ?_
  · match vs, h with
    | [v], _ => rfl
  · walk_at "params"
  have big : 100000 ≤ sizeLine := by decide
  obtain ⟨sc, hsc, hne, hle⟩ : ∃ sc : List Int, sc = (if ns.isEmpty then 127 :: (List.range 16).map (fun (k : Nat) => 2 * (k : Int)) else ns) ∧ sc ≠ [] ∧ sc.length ≤ 63 := by
    refine ⟨_, rfl, ?_, ?_⟩
    · cases ns with
      | nil => decide
      | cons x r => simp
    · cases ns with
      | nil => decide
      | cons x r => exact hn
  refine exs_if_join [("script", .val (.list (sc.map .int)))] (c := (ns.map D.int).isEmpty) ?_ ?_ ?_ ?_
  · walk_at "ev"
    decide
  · have hW := text10_le sc
    refine exs_cons (ex_assign (ev_call (ev_glob gt rfl rfl) (evs_more (ev_name rfl rfl) evs_nil rfl) kt (ft sc hle hne) rfl rfl) (by walk_at "can") rfl (then_next ?_))
    generalize text10 sc = W at hW
    have eA : strDict sA = dD attribT := strDict_eq (by decide +kernel)
    have eC : strDict sC = dD cdataT := strDict_eq (by decide +kernel)
    have eH : strDict sH = dD htmlT := strDict_eq (by decide +kernel)
    have eCC : strDict sCC = dD cdataCT := strDict_eq (by decide +kernel)
    have eAC : strDict sAC = dD attribCT := strDict_eq (by decide +kernel)
    refine exs_cons (ex_assign (d := .list [.tup [.fn a0, strDict sC], .tup [.fn a1, strDict sA], .tup [.fn a2, strDict sH], .tup [.fn a3, strDict sCC], .tup [.fn a4, strDict sAC]]) ?_ (.inl rfl) rfl (then_next ?_))
    · refine ev_list (evs_more (ev_tuple (evs_more (ev_glob g0 rfl rfl) (evs_more ?_ evs_nil rfl) rfl) (by show 2 ≤ sizeLine; decide)) (evs_more (ev_tuple (evs_more (ev_glob g1 rfl rfl) (evs_more ?_ evs_nil rfl) rfl) (by show 2 ≤ sizeLine; decide))
        (evs_more (ev_tuple (evs_more (ev_glob g2 rfl rfl) (evs_more ?_ evs_nil rfl) rfl) (by show 2 ≤ sizeLine; decide)) (evs_more (ev_tuple (evs_more (ev_glob g3 rfl rfl) (evs_more ?_ evs_nil rfl) rfl) (by show 2 ≤ sizeLine; decide))
        (evs_more (ev_tuple (evs_more (ev_glob g4 rfl rfl) (evs_more ?_ evs_nil rfl) rfl) (by show 2 ≤ sizeLine; decide)) evs_nil rfl) rfl) rfl) rfl) rfl) (by show 5 ≤ sizeLine; decide)
      · exact ev_dict (r := sC) (by repeat' constructor) (by decide) (by decide) (by decide +kernel)
      · exact ev_dict (r := sA) (by repeat' constructor) (by decide) (by decide) (by decide +kernel)
      · exact ev_dict (r := sH) (by repeat' constructor) (by decide) (by decide) (by decide +kernel)
      · exact ev_dict (r := sCC) (by repeat' constructor) (by decide) (by decide) (by decide +kernel)
      · exact ev_dict (r := sAC) (by repeat' constructor) (by decide) (by decide) (by decide +kernel)
    rw [eA, eC, eH, eCC, eAC]
    have hT : ∀ h ∈ [(a0, cdataT), (a1, attribT), (a2, htmlT), (a3, cdataCT), (a4, attribCT)], h.2.all (fun p => decide (2 ≤ p.2.length)) = true ∧ h.2.all (fun p => decide (p.2.length ≤ 8)) = true := by
      intro h hm
      simp only [List.mem_cons, List.not_mem_nil, or_false] at hm
      rcases hm with hm | hm | hm | hm | hm <;> subst hm <;> dsimp only <;> exact ⟨by decide +kernel, by decide +kernel⟩
    have e0 : D.list [.tup [.fn a0, dD cdataT], .tup [.fn a1, dD attribT], .tup [.fn a2, dD htmlT], .tup [.fn a3, dD cdataCT], .tup [.fn a4, dD attribCT]] = .list ([(a0, cdataT), (a1, attribT), (a2, htmlT), (a3, cdataCT), (a4, attribCT)].map fun h => .tup [.fn h.1, dD h.2]) := rfl
    rw [e0]
    clear e0 eA eC eH eCC eAC
    generalize [(a0, cdataT), (a1, attribT), (a2, htmlT), (a3, cdataCT), (a4, attribCT)] = hs at hH hT
    refine exs_cons ?_
    apply ex_forI (fun _ => [("text", .val (.str (T W)))])
    · exact ev_name rfl rfl
    · exact itr_list
    · exact sub_cons rfl sub_nil
    · intro i d hd
      obtain ⟨⟨ae, tb⟩, hm, rfl⟩ := at_map hd
      have hmem := List.mem_of_getElem? hm
      obtain ⟨ke, fe⟩ := hH _ hmem
      obtain ⟨h2, h8⟩ := hT _ hmem
      dsimp only at ke fe h2 h8 ⊢
      have hWl := esc_le (m := 8) (by decide) h8 W
      have hl2 := lens_of h2
      refine ⟨_, asg_tuple (asgs_cons (asg_name (by walk_at "can")) (asgs_cons (asg_name (by walk_at "can")) asgs_nil rfl) rfl), ?_⟩
      refine exs_cons (ex_assign (ev_call (ev_name rfl rfl) (evs_more (ev_name rfl rfl) evs_nil rfl) ke (fe W (by omega)) rfl rfl) (.inl rfl) rfl (then_next ?_))
      have hrl := refs_le tb W
      refine exs_cons (ex_assign_comp (ρc := [("spelling", .val (dD tb))]) (cl := [("spelling", _)]) (d := .str (T W)) (ds := W.map fun c => .str ⟨#[c]⟩) (out := txs ((refsOf tb W).map T)) ⟨rfl, by decide, by decide, rfl, cells_cons rfl cells_nil, cap_cons rfl rfl rfl rfl cap_nil⟩ rfl (fun _ => rfl) rfl (ev_name rfl rfl) itr_str ?_ ?_ (.inl rfl) (then_next ?_))
      · intro C
        rw [refs_flat]
        refine comp1 (xs := W) (mk := fun c => D.str ⟨#[c]⟩) (F := fun c => if (tb.lookup c).isSome = true then [D.str (T ((tb.lookup c).getD []))] else []) fun c _ => ⟨_, (tb.lookup c).isSome, asg_name (.inl rfl), sub_upd rfl, tsts_one ?_, (fun h => if_neg (by rw [h]; decide)), fun h => ⟨.str (T ((tb.lookup c).getD [])), ?_, if_pos h⟩⟩
        · have e : (tb.lookup c).isSome = (dget (tb.map fun p => T [p.1]) (tb.map fun p => D.str (T p.2)) ⟨#[c]⟩).isSome := by rw [dget_tb]; cases tb.lookup c <;> rfl
          rw [e]
          exact tst_cmp (ev_name rfl rfl) (ev_name rfl rfl) op_in_dict rfl
        · obtain ⟨z, hz⟩ := Option.isSome_iff_exists.mp h
          rw [hz]
          exact ev_sub (ev_name rfl rfl) (ev_name rfl rfl) (sb_dict (by rw [dget_tb, hz]; rfl))
      · rw [txs, List.length_map, List.length_map]; omega
      refine exs_cons ?_
      refine ex_forX [("text", .val (.str (T W))), ("writer", .val (.fn ae)), ("spelling", .val (dD tb)), ("row", .val (.str (T (escBy tb W)))), ("references", .val (.list (txs ((refsOf tb W).map T))))]
        (evx_sorted_set (x := T (k10 ++ W.take 12)) (c₁ := 38) (c₂ := 60) ?_ ?_ ?_ ?_ (by decide) rfl hso hse rfl rfl) (sub_cons rfl (sub_cons rfl (sub_cons rfl (sub_cons rfl (sub_cons rfl sub_nil))))) ?_ ?_ (fun x => rfl)
      · refine ev_cat (x := k10) (y := W.take 12) ?_ (ev_to (b := 12) (ev_name rfl rfl) ev_int (by omega)) (by simp [k10]; omega)
        rw [show T k10 = _ from (by decide +kernel : T k10 = "&<>\"\r\n\tamp;ltgquo#1309xDA")]
        exact ev_str
      · rw [T_length]; simp [k10]; omega
      · show 38 ∈ (T (k10 ++ W.take 12)).cps.toList
        simp [T, k10]
      · show 60 ∈ (T (k10 ++ W.take 12)).cps.toList
        simp [T, k10]
      · rintro d ⟨c, rfl⟩
        refine ⟨_, asg_name (by walk_at "can"), ?_⟩
        have hcT : (⟨#[c]⟩ : Str) = T [c] := (T_one c).symm
        have hsp : ∀ m : List Nat, Txt.split (T m) ⟨#[c]⟩ = (cutC c m).map T := fun m => by rw [hcT, split_T m [c] (by simp), split_cutC]
        have hcl : (cutC c W).length ≤ W.length + 1 := by rw [cut_len]; have := List.count_le_length (a := c) (l := W); omega
        have hesum := cut_esum (t := tb) c W
        refine exs_cons (ex_assign_comp (ρc := [("writer", .val (.fn ae))]) (cl := [("writer", _)]) (d := .list (txs ((cutC c W).map T))) (ds := (cutC c W).map fun p => D.str (T p)) (out := txs (((cutC c W).map (escBy tb)).map T)) ⟨rfl, by decide, by decide, rfl, cells_cons rfl cells_nil, cap_cons rfl rfl rfl rfl cap_nil⟩ rfl (fun _ => rfl) rfl ?_ ?_ ?_ ?_ (.inl rfl) (then_next ?_))
        · rw [← hsp]
          exact ev_meth (ds := [.str ⟨#[c]⟩]) (ev_name rfl rfl) (evs_more (ev_name rfl rfl) evs_nil rfl) (getm_str F.slot_str_split F.type_str_split) (bf_split (by rfl) (by rw [T_length]; omega)) rfl rfl (by decide) rfl
        · have := itr_list (G := G) (ds := txs ((cutC c W).map T))
          rw [txs, List.map_map] at this
          rw [txs, List.map_map]
          exact this
        · intro C
          have e : txs (((cutC c W).map (escBy tb)).map T) = (cutC c W).flatMap fun p => [D.str (T (escBy tb p))] := by rw [txs, List.map_map, List.map_map, map_one]; rfl
          rw [e]
          refine comp1 (xs := cutC c W) (mk := fun p => D.str (T p)) (F := fun p => [D.str (T (escBy tb p))]) fun p hp => ⟨_, true, asg_name (.inl rfl), sub_upd rfl, tsts_nil, (fun h => nomatch h), fun _ => ⟨_, ?_, rfl⟩⟩
          have := cut_mem_le hp
          exact ev_call (ev_name rfl rfl) (evs_more (ev_name rfl rfl) evs_nil rfl) ke (fe p (by omega)) rfl rfl
        · rw [txs, List.length_map, List.length_map, List.length_map]; omega
        have ej : Txt.join (T (spell tb c)) (((cutC c W).map (escBy tb)).map T) = T (escBy tb W) := by
          unfold Txt.join
          rw [StrLaws.glued_eq_join, ← cut_join c W]
          exact join_list (spell tb c) _
        have hspl : (spell tb c).length ≤ 8 := by
          cases hk : tb.lookup c with
          | none => rw [spell_none hk]; simp
          | some z => rw [spell_some hk]; exact of_decide_eq_true (List.all_eq_true.mp h8 _ (mem_look hk))
        refine exs_cons (ex_if (c := T (escBy tb W) != T (escBy tb W)) (tst_cmp ?_ (ev_name rfl rfl) op_ne_str rfl) (fun h => by simp at h) fun _ => exs_nil (then_next ?_))
        · conv => arg 6; rw [← ej]
          refine ev_meth (ds := [.list (txs (((cutC c W).map (escBy tb)).map T))]) (ev_spell (ev_name rfl rfl) (ev_name rfl rfl) (ev_name rfl rfl) rfl rfl rfl rfl) (evs_more (ev_name rfl rfl) evs_nil rfl) (getm_str F.slot_str_join F.type_str_join) (bf_join (joinOk_sum ?_)) rfl rfl (by decide) rfl
          rw [List.map_map, List.length_map, List.length_map, T_length]
          have e : ((fun x : Str => x.length) ∘ T) = List.length := by funext z; exact T_length z
          rw [e]
          have : (cutC c W).length * (spell tb c).length ≤ (W.length + 1) * 8 := Nat.mul_le_mul hcl hspl
          omega
        refine exs_cons (ex_assign (d := .bool (!(txs (((refsOf tb W).filter fun z => decide (c ∈ z)).map T)).isEmpty)) (ev_cmp ?_ (ev_list evs_nil (by decide)) op_ne_nil rfl) (.inl rfl) rfl (then_next ?_))
        · refine ev_listcomp (ρc := [("cut", .val (.str ⟨#[c]⟩))]) (cl := [("cut", _)]) (d := .list (txs ((refsOf tb W).map T))) (ds := (refsOf tb W).map fun z => D.str (T z)) ⟨rfl, by decide, by decide, rfl, cells_cons rfl cells_nil, cap_cons rfl rfl rfl rfl cap_nil⟩ rfl (fun _ => rfl) (ev_name rfl rfl) ?_ ?_ ?_
          · have := itr_list (G := G) (ds := txs ((refsOf tb W).map T))
            rw [txs, List.map_map] at this
            rw [txs, List.map_map]
            exact this
          · intro C
            rw [held_flat]
            refine comp1 (xs := refsOf tb W) (mk := fun z => D.str (T z)) (F := fun z => if decide (c ∈ z) = true then [D.str (T z)] else []) fun z _ => ⟨_, decide (c ∈ z), asg_name (.inl rfl), sub_upd rfl, tsts_one ?_, (fun h => if_neg (by rw [h]; decide)), fun h => ⟨_, ev_name rfl rfl, if_pos h⟩⟩
            rw [← tin_T]
            exact tst_cmp (ev_name rfl rfl) (ev_name rfl rfl) op_in_str rfl
          · rw [txs, List.length_map, List.length_map]
            have := List.length_filter_le (fun z => decide (c ∈ z)) (refsOf tb W)
            omega
        have hfin := fin10 hl2 c W
        refine exs_cons (ex_if (tst_cmp (ev_cmp (d₁ := .list (txs ((cutC c (escBy tb W)).map T))) ?_ (ev_name rfl rfl) op_eq_strs rfl) (ev_and2 (ev_notB (ev_name rfl rfl)) (ev_or2 (ev_cmp (ev_name rfl rfl) (ev_name rfl rfl) op_notin_dict rfl) (ev_cmp (ev_name rfl rfl) (ev_name rfl rfl) op_notin_str rfl))) op_ne_bool rfl) (fun h => ?_) fun _ => exs_nil (then_next (exs_nil ?_)))
        · rw [← hsp]
          exact ev_meth (ds := [.str ⟨#[c]⟩]) (ev_name rfl rfl) (evs_more (ev_name rfl rfl) evs_nil rfl) (getm_str F.slot_str_split F.type_str_split) (bf_split (by rfl) (by rw [T_length]; omega)) rfl rfl (by decide) rfl
        · rw [hfin] at h; cases h
        · exact sub_cons rfl (sub_cons rfl (sub_cons rfl (sub_cons rfl (sub_cons rfl sub_nil))))
      · intro ρ' hsub
        exact then_next (exs_weaken hsub (exs_nil (sub_cons rfl sub_nil)))
    · intro ρ' hsub
      refine then_next ?_
      walk_at "ret"
      rfl
    · intro x; rfl
  · intro h
    rw [List.isEmpty_map] at h
    rw [hsc, if_pos h]
    refine exs_cons (ex_assign (d := .list ((127 :: (List.range 16).map fun (k : Nat) => 2 * (k : Int)).map .int)) ?_ (.inl rfl) rfl (then_next (exs_nil (sub_cons rfl sub_nil))))
    refine ev_binop (d₁ := .list [.int 127]) (d₂ := .list (((List.range 16).map fun (k : Nat) => 2 * (k : Int)).map .int)) (by walk_at "ev"; decide) ?_ (op_add_list (by decide))
    refine ev_listcomp (ρc := []) (cl := []) (d := .rng 0 16) (ds := (List.range 16).map fun (k : Nat) => D.int (k : Int)) ⟨rfl, by decide, by decide, rfl, cells_nil, cap_nil⟩ rfl (fun _ => rfl) (ev_bt (evs_more ev_int evs_nil rfl) bt_range1 hr rfl rfl rfl rfl) (itr_range rfl (by decide) (by decide)) ?_ (by simp; omega)
    intro C
    rw [List.map_map, map_one]
    exact comp1 (xs := List.range 16) (mk := fun (k : Nat) => D.int (k : Int)) fun k _ => ⟨_, true, asg_name (.inl rfl), sub_nil, tsts_nil, (fun h => nomatch h), fun _ => ⟨_, ev_binop ev_int (ev_name rfl rfl) (op_mul_int (mulOk_small_int (by decide +kernel))), rfl⟩⟩
  · intro h
    rw [List.isEmpty_map] at h
    rw [hsc, if_neg (by rw [h]; decide)]
    exact exs_nil (sub_cons rfl sub_nil)
end
end Mine
end
open PySem PySem.W PySem.W.X PySem.W.ZRun PyProof.Rows
set_option maxRecDepth 100000
set_option maxHeartbeats 0
theorem PySem.Challenge.cw_dn0275_10_holds : PySem.Challenge.rw_dn0275_10.Holds := by
  w_on; o_law; z_head
  (case hw => w_witness2)
  k_fill
  intro w s₀ s₁ mg mb G y fa o pm cd doc dV kV ho hd hcd hD hmg hg args vals as L hpre hlay hrd hwl hlo
  z_open y L KX ZH ZN ZT
  refine Ground.open G ?_
  intro T B D TE TW
  wrow_args hpre hlay hrd hwl hlo
  obtain ⟨hat, hsz⟩ := script_at L
  have htk := script_toks L ZT
  rw [ZN] at hat hsz
  subst hat
  x_fa T KX hmg
  all_lens
  clear hcd hd hD ho
  refine Mine.finish (n := 3) (p := _) KX (topRead_of T) rfl hg (Nat.lt_of_lt_of_le (by decide) htk) (script_obj L (by assumption)) (by assumption) (fun _ => rfl) ?_ (by decide) fun nb => ?_
  · wrow_post
  refine Mine.fn_law (n := 0) (doc := _) (pm := _) (cdv := _) (ct := _) ⟨⟨_, rfl, rfl⟩, rfl, rfl, rfl, rfl, rfl, rfl, rfl, rfl⟩ rfl rfl rfl
    rfl rfl (fun ns hn hne => Mine.fn_text (doc := _) (pm := _) (cdv := _) (ct := _) ⟨⟨_, rfl, rfl⟩, rfl, rfl, rfl, rfl, rfl, rfl, rfl, rfl⟩ rfl rfl rfl ns hn hne)
    rfl rfl rfl rfl rfl
    ?_ _ (by omega)
  intro h hm
  simp only [List.mem_cons, List.not_mem_nil, or_false] at hm
  rcases hm with hm | hm | hm | hm | hm <;> subst hm
  · exact ⟨rfl, Mine.fn_cdata (doc := _) (pm := _) (cdv := _) (ct := _) ⟨⟨_, rfl, rfl⟩, rfl, rfl, rfl, rfl, rfl, rfl, rfl, rfl⟩⟩
  · exact ⟨rfl, Mine.fn_attrib (doc := _) (pm := _) (cdv := _) (ct := _) ⟨⟨_, rfl, rfl⟩, rfl, rfl, rfl, rfl, rfl, rfl, rfl, rfl⟩⟩
  · exact ⟨rfl, Mine.fn_html (doc := _) (pm := _) (cdv := _) (ct := _) ⟨⟨_, rfl, rfl⟩, rfl, rfl, rfl, rfl, rfl, rfl, rfl, rfl⟩⟩
  · exact ⟨rfl, Mine.fn_cdataC (doc := _) (pm := _) (cdv := _) (ct := _) ⟨⟨_, rfl, rfl⟩, rfl, rfl, rfl, rfl, rfl, rfl, rfl, rfl⟩⟩
  · exact ⟨rfl, Mine.fn_attribC (doc := _) (pm := _) (cdv := _) (ct := _) ⟨⟨_, rfl, rfl⟩, rfl, rfl, rfl, rfl, rfl, rfl, rfl, rfl⟩⟩
