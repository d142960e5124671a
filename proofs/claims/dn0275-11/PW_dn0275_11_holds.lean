import PyProof.Rows.All
import Wide.All
import OpenK.AllK
import Wide.FinOn
import PySem.Challenge.RW_dn0275_11
set_option Elab.async false
section
open PySem PySem.W PyProof.Rows
namespace Mine

/-- plain Python data -/
inductive D where
  | none
  | bool (b : Bool)
  | int (i : Int)
  | str (x : Str)
  | list (ds : List D)
  | tup (ds : List D)
  | dict (ks : List Str) (ds : List D)
  | fn (a : Addr)
  | rng (a b : Int)
  | slc (lo hi : Option Int)
  | bytes (b : Array UInt8)

abbrev Zf := Addr → Option Obj

/-- what is fixed while the law runs -/
structure Gnd where
  prog : Program
  w : World
  K : Frag
  p : Program
  loose : List Str
  mg : Str → Option Value
  mb : Str → Option Value
  base : Heap
  os : OsState
  X : K.In base
  T : TopRead p loose mg mb base
  nb : NoneBooked base

mutual
/-- the value v is the datum d, as the frozen objects Z tell it -/
inductive Rep (G : Gnd) (Z : Zf) : Value → D → Prop
  | none : Rep G Z .none .none
  | bool (b : Bool) : Rep G Z (.bool b) (.bool b)
  | int (i : Int) (t : Tok) : Rep G Z (.int i t) (.int i)
  | str (x : Str) (t : Tok) : Rep G Z (.str x t) (.str x)
  | list {a : Addr} {vs : List Value} {n : Nat} {ds : List D} : Z a = some (listOf vs.toArray n) → RepAll G Z vs ds → Rep G Z (.ref a) (.list ds)
  | tup {a : Addr} {vs : List Value} {n : Nat} {ds : List D} : Z a = some { cls := .type "tuple", data := .seq vs.toArray n } → RepAll G Z vs ds → Rep G Z (.ref a) (.tup ds)
  | dict {a : Addr} {o : Obj} {kvs : List (Str × Value)} {ds : List D} : Z a = some o → (a == sysModules) = false → o.IsDictOf (strKind G.prog G.w) kvs →
      RepAll G Z (kvs.map (·.2)) ds → Rep G Z (.ref a) (.dict (kvs.map (·.1)) ds)
  | fn (a : Addr) : Rep G Z (.ref a) (.fn a)
  | rng {x : Addr} {a b : Int} {t u v : Tok} : Z x = some { cls := .type "range", data := .fields #[.int a t, .int b u, .int 1 v] } → Rep G Z (.ref x) (.rng a b)
  | slc {x : Addr} {vl vu : Value} {lo hi : Option Int} : Z x = some { cls := .type "slice", data := .fields #[vl, vu, .none] } → IsPart vl lo → IsPart vu hi → Rep G Z (.ref x) (.slc lo hi)
  | bytes (b : Array UInt8) (t : Tok) : Rep G Z (.bytes b t) (.bytes b)
inductive RepAll (G : Gnd) (Z : Zf) : List Value → List D → Prop
  | nil : RepAll G Z [] []
  | cons {v : Value} {vs : List Value} {d : D} {ds : List D} : Rep G Z v d → RepAll G Z vs ds → RepAll G Z (v :: vs) (d :: ds)
end

def Zle (Z Z' : Zf) : Prop := ∀ a o, Z a = some o → Z' a = some o
theorem Zle.same {Z : Zf} : Zle Z Z := fun _ _ h => h
theorem Zle.trans {Z Z' Z'' : Zf} (a : Zle Z Z') (b : Zle Z' Z'') : Zle Z Z'' := fun x o h => b x o (a x o h)

mutual
theorem Rep.mono {G : Gnd} {Z Z' : Zf} (hz : Zle Z Z') : ∀ {v : Value} {d : D}, Rep G Z v d → Rep G Z' v d
  | _, _, .none => .none
  | _, _, .bool b => .bool b
  | _, _, .int i t => .int i t
  | _, _, .str x t => .str x t
  | _, _, .list h r => .list (hz _ _ h) (RepAll.mono hz r)
  | _, _, .tup h r => .tup (hz _ _ h) (RepAll.mono hz r)
  | _, _, .dict h hs hd r => .dict (hz _ _ h) hs hd (RepAll.mono hz r)
  | _, _, .fn a => .fn a
  | _, _, .rng h => .rng (hz _ _ h)
  | _, _, .slc h p q => .slc (hz _ _ h) p q
  | _, _, .bytes b t => .bytes b t
theorem RepAll.mono {G : Gnd} {Z Z' : Zf} (hz : Zle Z Z') : ∀ {vs : List Value} {ds : List D}, RepAll G Z vs ds → RepAll G Z' vs ds
  | _, _, .nil => .nil
  | _, _, .cons h r => .cons (Rep.mono hz h) (RepAll.mono hz r)
end

section
variable {G : Gnd} {Z : Zf}
theorem RepAll.length : ∀ {vs : List Value} {ds : List D}, RepAll G Z vs ds → vs.length = ds.length
  | _, _, .nil => rfl
  | _, _, .cons _ r => by rw [List.length_cons, List.length_cons, RepAll.length r]
theorem RepAll.append : ∀ {vs ws : List Value} {ds es : List D}, RepAll G Z vs ds → RepAll G Z ws es → RepAll G Z (vs ++ ws) (ds ++ es)
  | _, _, _, _, .nil, k => k
  | _, _, _, _, .cons h r, k => .cons h (RepAll.append r k)
theorem RepAll.get : ∀ {vs : List Value} {ds : List D}, RepAll G Z vs ds → ∀ {i : Nat} {d : D}, ds[i]? = some d → ∃ v, vs[i]? = some v ∧ Rep G Z v d
  | _, _, .nil, _, _, h => by simp at h
  | _, _, .cons h r, 0, _, e => by simp at e; subst e; exact ⟨_, rfl, h⟩
  | _, _, .cons _ r, i + 1, _, e => by simp at e; simpa using RepAll.get r e
theorem RepAll.drop : ∀ {vs : List Value} {ds : List D}, RepAll G Z vs ds → ∀ n, RepAll G Z (vs.drop n) (ds.drop n)
  | _, _, r, 0 => by simpa using r
  | _, _, .nil, _ + 1 => .nil
  | _, _, .cons _ r, n + 1 => by simpa using RepAll.drop r n
theorem RepAll.take : ∀ {vs : List Value} {ds : List D}, RepAll G Z vs ds → ∀ n, RepAll G Z (vs.take n) (ds.take n)
  | _, _, _, 0 => by simpa using RepAll.nil
  | _, _, .nil, _ + 1 => .nil
  | _, _, .cons h r, n + 1 => by simpa using RepAll.cons h (RepAll.take r n)
end

/-- from Z, s to Z', s': nothing that stood is changed, what is newly frozen is new -/
structure Ext (Z : Zf) (s : Shared) (Z' : Zf) (s' : Shared) : Prop where
  le : Zle Z Z'
  keep : ∀ a o, s.heap.get? a = some o → s'.heap.get? a = some o
  zin : ∀ a o, Z' a = some o → s'.heap.get? a = some o
  new : ∀ a o, Z' a = some o → Z a = some o ∨ s.heap.get? a = none
  gens : s'.gens = s.gens
  os : s'.os = s.os
  tk : s.toks ≤ s'.toks

theorem Ext.same {Z : Zf} {s : Shared} (hz : ∀ a o, Z a = some o → s.heap.get? a = some o) : Ext Z s Z s := ⟨Zle.same, fun _ _ h => h, hz, fun _ _ h => .inl h, Eq.refl _, Eq.refl _, Nat.le_refl _⟩
theorem Ext.tok {Z : Zf} {s : Shared} (hz : ∀ a o, Z a = some o → s.heap.get? a = some o) {t : Nat} (ht : s.toks ≤ t) : Ext Z s Z { s with toks := t } := ⟨Zle.same, fun _ _ h => h, hz, fun _ _ h => .inl h, Eq.refl _, Eq.refl _, ht⟩
theorem Ext.trans {Z Z' Z'' : Zf} {s s' s'' : Shared} (x : Ext Z s Z' s') (y : Ext Z' s' Z'' s'') : Ext Z s Z'' s'' where
  le := x.le.trans y.le
  keep := fun a o h => y.keep a o (x.keep a o h)
  zin := y.zin
  new := fun a o h => by
    rcases y.new a o h with h | h
    · exact x.new a o h
    · cases q : s.heap.get? a with
      | none => exact .inr (Eq.refl _)
      | some ob => rw [x.keep a ob q] at h; cases h
  gens := y.gens.trans x.gens
  os := y.os.trans x.os
  tk := Nat.le_trans x.tk y.tk
/-- only the heap's keeping counts: Z stays -/
theorem Ext.back {Z Z₁ Z' : Zf} {s s' : Shared} (x : Ext Z₁ s Z' s') (hz : ∀ a o, Z a = some o → s.heap.get? a = some o) : Ext Z s Z s' :=
  ⟨Zle.same, x.keep, fun a o h => x.keep a o (hz a o h), fun _ _ h => .inl h, x.gens, x.os, x.tk⟩

def Zadd (Z : Zf) (a : Addr) (o : Obj) : Zf := fun b => if b = a then some o else Z b
theorem Zadd.self {Z : Zf} {a : Addr} {o : Obj} : Zadd Z a o a = some o := if_pos rfl
theorem Zadd.le {Z : Zf} {a : Addr} {o : Obj} (h : Z a = none) : Zle Z (Zadd Z a o) := fun b ob e => by
  unfold Zadd
  by_cases q : b = a
  · subst q; rw [h] at e; cases e
  · rw [if_neg q]; exact e

theorem get?_size_none (h : Heap) : h.get? h.objs.size = none := by
  cases q : h.get? h.objs.size with
  | none => rfl
  | some o => exact absurd (Heap.lt_size q) (Nat.lt_irrefl _)

/-- a new object, frozen at once -/
theorem Ext.alloc {Z : Zf} {s : Shared} {o : Obj} {t : Nat} (hz : ∀ a o, Z a = some o → s.heap.get? a = some o) (hf : o.isFreed = false) (ht : s.toks ≤ t) :
    Ext Z s (Zadd Z s.heap.objs.size o) { s with heap := s.heap.push o, toks := t } where
  le := Zadd.le (by
    cases q : Z s.heap.objs.size with
    | none => rfl
    | some ob => exact absurd (hz _ _ q) (by rw [get?_size_none]; intro h; cases h))
  keep := fun a ob h => Heap.get?_push_of_some _ h
  zin := fun a ob h => by
    unfold Zadd at h
    by_cases q : a = s.heap.objs.size
    · subst q; rw [if_pos rfl] at h; cases h; exact Heap.get?_push_size _ hf
    · rw [if_neg q] at h; exact Heap.get?_push_of_some _ (hz _ _ h)
  new := fun a ob h => by
    unfold Zadd at h
    by_cases q : a = s.heap.objs.size
    · subst q; exact .inr (get?_size_none _)
    · rw [if_neg q] at h; exact .inl h
  gens := rfl
  os := rfl
  tk := ht

end Mine
end
section
open PySem PySem.W PyProof.Rows
namespace Mine

/-- what a name stands for: a datum, or a list that the frame alone holds -/
inductive B where
  | val (d : D)
  | own (ds : List D)

abbrev Loc := List (Str × B)

abbrev upd (ρ : Loc) (x : Str) (b : B) : Loc := (x, b) :: ρ

theorem lookup_upd (ρ : Loc) (x z : Str) (b : B) : (upd ρ x b).lookup z = if z = x then some b else ρ.lookup z := by
  show List.lookup z ((x, b) :: ρ) = _
  rw [List.lookup_cons]
  by_cases h : z = x
  · rw [beq_iff_eq.mpr h, if_pos h]
  · rw [beq_eq_false_iff_ne.mpr h, if_neg h]

def Has (env : Env) (h : Heap) (x : Str) (v : Value) : Prop :=
  (env.kindOf x = some .local ∧ ∃ m, h.Ns env.locals m ∧ m x = some v) ∨
  ((env.kindOf x = some .cell ∨ (env.kindOf x = some .free ∧ (x == ("__classdict__" : Str)) = false)) ∧ ∃ c, env.cells.lookup x = some c ∧ h.IsCell c (some v))

theorem Has.keeps {env : Env} {h h' : Heap} {x : Str} {v : Value} (H : Has env h x v) (hk : ∀ b o, h.get? b = some o → h'.get? b = some o) : Has env h' x v := by
  rcases H with ⟨k, m, n, e⟩ | ⟨k, c, e, n⟩
  · exact .inl ⟨k, m, n.keeps hk, e⟩
  · exact .inr ⟨k, c, e, n.keeps hk⟩

theorem ns_uniq {h : Heap} {a : Addr} {m m' : Str → Option Value} (x : h.Ns a m) (y : h.Ns a m') : m = m' := by
  obtain ⟨o, es, ep, ho, hd, hk, hf⟩ := x
  obtain ⟨o', es', ep', ho', hd', hk', hf'⟩ := y
  rw [ho] at ho'; cases ho'
  rw [hd] at hd'; cases hd'
  funext n
  rw [← hf, ← hf']

/-- the state, as the frame sees it -/
structure St (G : Gnd) (env : Env) (Z H : Zf) (ρ : Loc) (s : Shared) : Prop where
  fk : env.scope.kind = .function
  gl : env.globals = mainGlobals
  bl : env.builtins = builtinsNs
  gens : s.gens = #[]
  os : s.os = G.os
  tk : 0 < s.toks
  zin : ∀ a o, Z a = some o → s.heap.get? a = some o
  hin : ∀ a o, H a = some o → s.heap.get? a = some o
  dj : ∀ a o, Z a = some o → H a = none
  bas : ∀ a o, G.base.get? a = some o → Z a = some o ∨ H a = some o
  ns : ∃ m, s.heap.Ns env.locals m
  lz : Z env.locals = none
  lh : H env.locals = none
  cells : ∀ x c, env.cells.lookup x = some c → c ≠ env.locals ∧ (env.func.isSome = true → Z c = none ∧ H c = none ∧ ∃ v, s.heap.IsCell c v) ∧ (env.func.isSome = false → ∃ o, H c = some o)
  inj : ∀ x y c, env.cells.lookup x = some c → env.cells.lookup y = some c → x = y
  vars : ∀ x d, ρ.lookup x = some (.val d) → ∃ v, Has env s.heap x v ∧ Rep G Z v d
  owns : ∃ oa : Str → Addr, (∀ x y ds es, ρ.lookup x = some (.own ds) → ρ.lookup y = some (.own es) → oa x = oa y → x = y) ∧
    ∀ x ds, ρ.lookup x = some (.own ds) → Has env s.heap x (.ref (oa x)) ∧ Z (oa x) = none ∧ H (oa x) = none ∧ oa x ≠ env.locals ∧ (∀ y c, env.cells.lookup y = some c → oa x ≠ c) ∧
      ∃ vs n, s.heap.get? (oa x) = some (listOf vs.toArray n) ∧ RepAll G Z vs ds

section
variable {G : Gnd} {env : Env} {Z Z' H : Zf} {ρ : Loc} {s s' : Shared}

theorem St.keepBase (S : St G env Z H ρ s) : ∀ a o, G.base.get? a = some o → s.heap.get? a = some o := fun a o h =>
  (S.bas a o h).elim (S.zin a o) (S.hin a o)
theorem St.X (S : St G env Z H ρ s) : G.K.In s.heap := fun a o h => S.keepBase a o (G.X a o h)
theorem St.T (S : St G env Z H ρ s) : TopRead G.p G.loose G.mg G.mb s.heap := G.T.keeps S.keepBase

theorem ext_none {a : Addr} (x : Ext Z s Z' s') (hz : Z a = none) (ho : ∃ o, s.heap.get? a = some o) : Z' a = none := by
  cases q : Z' a with
  | none => rfl
  | some o =>
    rcases x.new a o q with h | h
    · rw [hz] at h; cases h
    · obtain ⟨ob, e⟩ := ho; rw [h] at e; cases e

theorem St.ext (S : St G env Z H ρ s) (x : Ext Z s Z' s') : St G env Z' H ρ s' where
  fk := S.fk
  gl := S.gl
  bl := S.bl
  gens := x.gens.trans S.gens
  os := x.os.trans S.os
  tk := Nat.lt_of_lt_of_le S.tk x.tk
  zin := x.zin
  hin := fun a o h => x.keep a o (S.hin a o h)
  dj := fun a o h => by
    rcases x.new a o h with h | h
    · exact S.dj a o h
    · cases q : H a with
      | none => rfl
      | some ob => rw [S.hin a ob q] at h; cases h
  bas := fun a o h => (S.bas a o h).elim (fun h => .inl (x.le a o h)) .inr
  ns := let ⟨m, n⟩ := S.ns; ⟨m, n.keeps x.keep⟩
  lz := ext_none x S.lz (let ⟨_, o, _, _, h, _⟩ := S.ns; ⟨o, h⟩)
  lh := S.lh
  cells := fun y c e => by
    obtain ⟨hl, h⟩ := S.cells y c e
    refine ⟨hl, fun hf => ?_, h.2⟩
    obtain ⟨h1, h2, v, h3⟩ := h.1 hf
    exact ⟨ext_none x h1 (let ⟨o, ho, _⟩ := h3; ⟨o, ho⟩), h2, v, h3.keeps x.keep⟩
  inj := S.inj
  vars := fun y d e => by
    obtain ⟨v, h, r⟩ := S.vars y d e
    exact ⟨v, h.keeps x.keep, r.mono x.le⟩
  owns := by
    obtain ⟨oa, hi, h⟩ := S.owns
    refine ⟨oa, hi, fun y ds e => ?_⟩
    obtain ⟨h1, h2, h3, h4, h5, vs, n, h6, h7⟩ := h y ds e
    exact ⟨h1.keeps x.keep, ext_none x h2 ⟨_, h6⟩, h3, h4, h5, vs, n, x.keep _ _ h6, h7.mono x.le⟩

theorem St.same (S : St G env Z H ρ s) : Ext Z s Z s := Ext.same S.zin

/-- the tree t ends in the datum d, and changes nothing that stood -/
def Yields (G : Gnd) (A : Around) (t : Sem Value) (Z : Zf) (d : D) (s : Shared) : Prop :=
  wpAny (model G.prog G.w) A t (fun v s' => ∃ Z', Ext Z s Z' s' ∧ Rep G Z' v d) (fun _ _ => False) s

/-- room for n more frames -/
structure Room (n : Nat) (A : Around) : Prop where
  handled : A.handled = none
  depth : A.depth + n < recursionLimit
  units : A.units + 8 * n < cLine
  guards : A.guards = some []
theorem Room.in1 {n : Nat} {A : Around} (r : Room (n + 1) A) : Room n A.in1 := ⟨r.handled, by have := r.depth; show A.depth + n < _; omega, by have := r.units; show A.units + 1 + 8 * n < _; omega, r.guards⟩
theorem Room.deeper {n : Nat} {A : Around} {env : Env} (r : Room (n + 1) A) : Room n (A.deeper env) := ⟨r.handled, by have := r.depth; show A.depth + 1 + n < _; omega, by have := r.units; show A.units + 3 + 8 * n < _; omega, r.guards⟩
theorem Room.less {n m : Nat} {A : Around} (r : Room n A) (h : m ≤ n) : Room m A := ⟨r.handled, by have := r.depth; omega, by have := r.units; omega, r.guards⟩

/-- the expression e is the datum d where the names are ρ -/
structure Ev (G : Gnd) (env : Env) (n : Nat) (ρ : Loc) (e : PySem.Expr) (d : D) : Prop where
  run : ∀ A Z H s, Room n A → St G env Z H ρ s → Yields G A (eval e env) Z d s

/-- a test -/
structure Tst (G : Gnd) (env : Env) (n : Nat) (ρ : Loc) (e : PySem.Expr) (b : Bool) : Prop where
  run : ∀ A Z H s, Room n A → St G env Z H ρ s → wpAny (model G.prog G.w) A (isTrue e env (eval e env)) (fun b' s' => b' = b ∧ Ext Z s Z s') (fun _ _ => False) s

variable {A : Around} {E : Value → Shared → Prop} {n : Nat}

theorem wp_seq {α : Type} {M : Model} {t : Sem α} {P Q : α → Shared → Prop} (h : wpAny M A t P (fun _ _ => False) s) (hq : ∀ v s', P v s' → Q v s') : wpAny M A t Q E s :=
  wpAny_mono h hq fun _ _ x => x.elim

/-- tokens only grow -/
theorem wp_tok {α : Type} {M : Model} {t : Sem α} {Q : α → Shared → Prop} (h : wpAny M A t (fun a s' => s.toks ≤ s'.toks → Q a s') (fun _ _ => False) s) : wpAny M A t Q (fun _ _ => False) s :=
  wpAny_with_toks (Nat.le_refl _) (wpAny_mono h (fun _ _ x => x) fun _ _ x => x.elim)

/-- a name -/
theorem ev_name {x : Str} {pos : Pos} {d : D} (h : ρ.lookup x = some (.val d)) (hd : (x == ("__debug__" : Str)) = false) : Ev G env n ρ (.Name x pos) d := by
  constructor
  intro A Z H s _ S
  obtain ⟨v, hv, r⟩ := S.vars x d h
  refine wpAny_Name ?_ hd
  rcases hv with ⟨k, m, n, e⟩ | ⟨k, c, e, n⟩
  · exact wpAny_loadName_local S.fk k n e ⟨Z, S.same, r⟩
  · rcases k with k | k
    · exact wpAny_loadName_cell S.fk k e n ⟨Z, S.same, r⟩
    · exact wpAny_loadName_free S.fk k.1 e n ⟨Z, S.same, r⟩ k.2

end
end Mine
end
section
open PySem PySem.W PyProof.Rows
namespace Mine

section
variable {G : Gnd} {env : Env} {Z Z' H : Zf} {ρ ρ' : Loc} {s s' : Shared} {A : Around} {E : Value → Shared → Prop}

theorem Has.store_local {h h' : Heap} {x y : Str} {v u : Value} {m : Str → Option Value} (hn : h.Ns env.locals m) (hn' : h'.Ns env.locals (fun y => if y = x then some v else m y))
    (hs : Heap.SameBut env.locals h h') (hcl : ∀ y c, env.cells.lookup y = some c → c ≠ env.locals) (hy : y ≠ x) (q : Has env h y u) : Has env h' y u := by
  rcases q with ⟨k, m₂, n, e⟩ | ⟨k, c, e, n⟩
  · rw [ns_uniq n hn] at e
    exact .inl ⟨k, _, hn', by simpa [hy] using e⟩
  · exact .inr ⟨k, c, e, n.sameBut hs (hcl y c e)⟩

theorem Has.store_cell {h h' : Heap} {x y : Str} {u : Value} {c : Addr} (hs : Heap.SameBut c h h') (hc : env.cells.lookup x = some c)
    (inj : ∀ x y c, env.cells.lookup x = some c → env.cells.lookup y = some c → x = y) (hcl : c ≠ env.locals) (hy : y ≠ x) (q : Has env h y u) : Has env h' y u := by
  rcases q with ⟨k, m₂, n, e⟩ | ⟨k, c', e, n⟩
  · exact .inl ⟨k, m₂, n.sameBut hs (Ne.symm hcl), e⟩
  · exact .inr ⟨k, c', e, n.sameBut hs fun q => hy (inj y x c (q ▸ e) hc)⟩

/-- a change at an address that is neither frozen nor held -/
theorem St.put (S : St G env Z H ρ s) {a : Addr} {h' : Heap} {t : Nat} (ht : s.toks ≤ t) (hs : Heap.SameBut a s.heap h') (hz : Z a = none) (hh : H a = none) (hns : ∃ m, h'.Ns env.locals m)
    (hce : ∀ y c, env.cells.lookup y = some c → env.func.isSome = true → ∃ v, h'.IsCell c v)
    (hvars : ∀ y d, ρ'.lookup y = some (.val d) → ∃ v, Has env h' y v ∧ Rep G Z v d)
    (howns : ∃ oa : Str → Addr, (∀ x y ds es, ρ'.lookup x = some (.own ds) → ρ'.lookup y = some (.own es) → oa x = oa y → x = y) ∧
      ∀ x ds, ρ'.lookup x = some (.own ds) → Has env h' x (.ref (oa x)) ∧ Z (oa x) = none ∧ H (oa x) = none ∧ oa x ≠ env.locals ∧ (∀ y c, env.cells.lookup y = some c → oa x ≠ c) ∧
        ∃ vs n, h'.get? (oa x) = some (listOf vs.toArray n) ∧ RepAll G Z vs ds) :
    St G env Z H ρ' { s with heap := h', toks := t } where
  fk := S.fk
  gl := S.gl
  bl := S.bl
  gens := S.gens
  os := S.os
  tk := Nat.lt_of_lt_of_le S.tk ht
  zin := fun b o h => (hs.2 b fun q => by rw [q, hz] at h; cases h).trans (S.zin b o h)
  hin := fun b o h => (hs.2 b fun q => by rw [q, hh] at h; cases h).trans (S.hin b o h)
  dj := S.dj
  bas := S.bas
  ns := hns
  lz := S.lz
  lh := S.lh
  cells := fun y c e => by
    obtain ⟨hl, h⟩ := S.cells y c e
    refine ⟨hl, fun hf => ?_, h.2⟩
    obtain ⟨h1, h2, _⟩ := h.1 hf
    exact ⟨h1, h2, hce y c e hf⟩
  inj := S.inj
  vars := hvars
  owns := howns

/-- where a name may be stored -/
def Can (env : Env) (x : Str) : Prop := env.kindOf x = some .local ∨ (env.kindOf x = some .cell ∧ env.func.isSome = true ∧ ∃ c, env.cells.lookup x = some c)

/-- the heaps behind a store of x: all other names stand -/
theorem wp_storeName {x : Str} {v : Value} {Q : Unit → Shared → Prop} (S : St G env Z H ρ s) (hc : Can env x)
    (h : ∀ a h' t, s.toks ≤ t → Z a = none → H a = none → Heap.SameBut a s.heap h' → (∃ m, h'.Ns env.locals m) → (∀ y c, env.cells.lookup y = some c → env.func.isSome = true → ∃ v, h'.IsCell c v) →
      Has env h' x v → (∀ y u, y ≠ x → Has env s.heap y u → Has env h' y u) → (∀ b, s.heap.get? b ≠ none → b ≠ env.locals → (∀ y c, env.cells.lookup y = some c → b ≠ c) → b ≠ a) → Q () { s with heap := h', toks := t }) :
    wpAny (model G.prog G.w) A (storeName env x v) Q E s := by
  rcases hc with k | ⟨k, hf, c, e⟩
  · obtain ⟨m, hn⟩ := S.ns
    refine wpAny_storeName_local k hn (fun h' hn' hs => ?_) (by rw [S.fk]; rfl)
    refine h env.locals h' _ (Nat.le_succ _) S.lz S.lh hs ⟨_, hn'⟩ (fun y c e hf => ?_) (.inl ⟨k, _, hn', by simp⟩) (fun y u hy q => q.store_local hn hn' hs (fun y c e => (S.cells y c e).1) hy) fun b _ hb _ => hb
    obtain ⟨hl, h1, _⟩ := S.cells y c e
    obtain ⟨_, _, v', hv⟩ := h1 hf
    exact ⟨v', hv.sameBut hs hl⟩
  · obtain ⟨hl, h1, _⟩ := S.cells x c e
    obtain ⟨hz, hh, v₀, hv⟩ := h1 hf
    refine wpAny_storeName_cell S.fk k e hv fun h' hv' hs => ?_
    refine h c h' s.toks (Nat.le_refl _) hz hh hs (let ⟨m, hn⟩ := S.ns; ⟨m, hn.sameBut hs (Ne.symm hl)⟩) (fun y c' e' hf' => ?_) (.inr ⟨.inl k, c, e, hv'⟩) (fun y u hy q => q.store_cell hs e S.inj hl hy) fun b _ _ hb => hb x c e
    by_cases q : c' = c
    · subst q; exact ⟨_, hv'⟩
    · obtain ⟨_, h2, _⟩ := S.cells y c' e'
      obtain ⟨_, _, v', hv''⟩ := h2 hf'
      exact ⟨v', hv''.sameBut hs q⟩

theorem st_store {x : Str} {v : Value} {d : D} (S : St G env Z H ρ s) (r : Rep G Z v d) (hc : Can env x) :
    wpAny (model G.prog G.w) A (storeName env x v) (fun _ s' => St G env Z H (upd ρ x (.val d)) s') E s := by
  refine wp_storeName S hc fun a h' t ht hz hh hs hns hce hx hy hb => S.put ht hs hz hh hns hce ?_ ?_
  · intro y d' e
    rw [lookup_upd] at e
    by_cases q : y = x
    · subst q; rw [if_pos rfl] at e; cases e; exact ⟨v, hx, r⟩
    · rw [if_neg q] at e
      obtain ⟨u, hu, ru⟩ := S.vars y d' e
      exact ⟨u, hy y u q hu, ru⟩
  · obtain ⟨oa, hi, ho⟩ := S.owns
    have old : ∀ y ds, (upd ρ x (.val d)).lookup y = some (.own ds) → y ≠ x ∧ ρ.lookup y = some (.own ds) := fun y ds e => by
      rw [lookup_upd] at e
      by_cases q : y = x
      · rw [if_pos q] at e; cases e
      · rw [if_neg q] at e; exact ⟨q, e⟩
    refine ⟨oa, fun y z ds es ey ez => hi y z ds es (old y ds ey).2 (old z es ez).2, fun y ds e => ?_⟩
    obtain ⟨q, e⟩ := old y ds e
    obtain ⟨h1, h2, h3, h4, h5, vs, n, h6, h7⟩ := ho y ds e
    exact ⟨hy y _ q h1, h2, h3, h4, h5, vs, n, (hs.2 _ (hb _ (by rw [h6]; intro z; cases z) h4 h5)).trans h6, h7⟩

/-- a list that none but the frame holds is stored -/
theorem st_storeOwn {x : Str} {a : Addr} {vs : List Value} {n : Nat} {ds : List D} (S : St G env Z H ρ s) (hz : Z a = none) (hh : H a = none) (hl : a ≠ env.locals)
    (hcs : ∀ y c, env.cells.lookup y = some c → a ≠ c) (hoa : ∀ y es v, ρ.lookup y = some (.own es) → Has env s.heap y v → v ≠ .ref a) (ho : s.heap.get? a = some (listOf vs.toArray n)) (r : RepAll G Z vs ds)
    (hc : Can env x) :
    wpAny (model G.prog G.w) A (storeName env x (.ref a)) (fun _ s' => St G env Z H (upd ρ x (.own ds)) s') E s := by
  refine wp_storeName S hc fun b h' t ht hz' hh' hs hns hce hx hy hb => S.put ht hs hz' hh' hns hce ?_ ?_
  · intro y d' e
    rw [lookup_upd] at e
    by_cases q : y = x
    · subst q; rw [if_pos rfl] at e; cases e
    · rw [if_neg q] at e
      obtain ⟨u, hu, ru⟩ := S.vars y d' e
      exact ⟨u, hy y u q hu, ru⟩
  · obtain ⟨oa, hi, ho'⟩ := S.owns
    have old : ∀ y es, y ≠ x → (upd ρ x (.own ds)).lookup y = some (.own es) → ρ.lookup y = some (.own es) := fun y es q e => by
      rw [lookup_upd, if_neg q] at e; exact e
    refine ⟨fun y => if y = x then a else oa y, fun y z es es' ey ez q => ?_, fun y es e => ?_⟩
    · by_cases hy : y = x <;> by_cases hz : z = x
      · rw [hy, hz]
      · simp only [hy, hz, if_true, if_false] at q
        exact absurd rfl (q ▸ hoa z _ _ (old z _ hz ez) (ho' z _ (old z _ hz ez)).1)
      · simp only [hy, hz, if_true, if_false] at q
        exact absurd (by rw [q]) (hoa y _ _ (old y _ hy ey) (ho' y _ (old y _ hy ey)).1)
      · simp only [hy, hz, if_false] at q
        exact hi y z _ _ (old y _ hy ey) (old z _ hz ez) q
    · by_cases q : y = x
      · subst q
        rw [lookup_upd, if_pos rfl] at e; cases e
        simp only [if_true]
        exact ⟨hx, hz, hh, hl, hcs, vs, n, (hs.2 _ (hb _ (by rw [ho]; intro z; cases z) hl hcs)).trans ho, r⟩
      · simp only [q, if_false]
        obtain ⟨h1, h2, h3, h4, h5, vs, n, h6, h7⟩ := ho' y es (old y es q e)
        exact ⟨hy y _ q h1, h2, h3, h4, h5, vs, n, (hs.2 _ (hb _ (by rw [h6]; intro z; cases z) h4 h5)).trans h6, h7⟩

/-- an owned list is frozen -/
theorem St.freeze {x : Str} {ds : List D} (S : St G env Z H ρ s) (hx : ρ.lookup x = some (.own ds)) : ∃ Z', Zle Z Z' ∧ St G env Z' H (upd ρ x (.val (.list ds))) s ∧
    (∀ a o, Z' a = some o → Z a = some o ∨ ∃ v, Has env s.heap x v ∧ v = .ref a) := by
  obtain ⟨oa, hi, ho⟩ := S.owns
  obtain ⟨h1, h2, h3, h4, h5, vs, n, h6, h7⟩ := ho x ds hx
  have le : Zle Z (Zadd Z (oa x) (listOf vs.toArray n)) := Zadd.le h2
  have ne : ∀ b, b ≠ oa x → Zadd Z (oa x) (listOf vs.toArray n) b = Z b := fun b hb => if_neg hb
  refine ⟨Zadd Z (oa x) (listOf vs.toArray n), le, ?_, ?_⟩
  · refine ⟨S.fk, S.gl, S.bl, S.gens, S.os, S.tk, fun b o e => ?_, S.hin, fun b o e => ?_, fun b o e => (S.bas b o e).elim (fun h => .inl (le _ _ h)) .inr, S.ns, ?_, S.lh, fun y c e => ?_, S.inj, fun y d e => ?_, ?_⟩
    · by_cases q : b = oa x
      · subst q; rw [Zadd.self] at e; cases e; exact h6
      · rw [ne b q] at e; exact S.zin b o e
    · by_cases q : b = oa x
      · subst q; exact h3
      · rw [ne b q] at e; exact S.dj b o e
    · rw [ne _ (Ne.symm h4)]; exact S.lz
    · obtain ⟨hl, h, h'⟩ := S.cells y c e
      refine ⟨hl, fun hf => ?_, h'⟩
      obtain ⟨g1, g2⟩ := h hf
      exact ⟨by rw [ne _ (Ne.symm (h5 y c e))]; exact g1, g2⟩
    · rw [lookup_upd] at e
      by_cases q : y = x
      · subst q; rw [if_pos rfl] at e; cases e
        exact ⟨_, h1, .list Zadd.self (h7.mono le)⟩
      · rw [if_neg q] at e
        obtain ⟨u, hu, ru⟩ := S.vars y d e
        exact ⟨u, hu, ru.mono le⟩
    · have old : ∀ y es, (upd ρ x (.val (.list ds))).lookup y = some (.own es) → y ≠ x ∧ ρ.lookup y = some (.own es) := fun y es e => by
        rw [lookup_upd] at e
        by_cases q : y = x
        · rw [if_pos q] at e; cases e
        · rw [if_neg q] at e; exact ⟨q, e⟩
      refine ⟨oa, fun y z es es' ey ez => hi y z es es' (old y es ey).2 (old z es' ez).2, fun y es e => ?_⟩
      obtain ⟨q, e⟩ := old y es e
      obtain ⟨g1, g2, g3, g4, g5, vs', n', g6, g7⟩ := ho y es e
      exact ⟨g1, by rw [ne _ fun z => q (hi y x _ _ e hx z)]; exact g2, g3, g4, g5, vs', n', g6, g7.mono le⟩
  · intro b o e
    by_cases q : b = oa x
    · subst q; exact .inr ⟨_, h1, rfl⟩
    · rw [ne b q] at e; exact .inl e

end
end Mine
end
section
open PySem PySem.W PyProof.Rows
set_option linter.unusedVariables false
namespace Mine

/-- the state, as a callee sees it -/
structure Bs (G : Gnd) (Z : Zf) (s : Shared) : Prop where
  gens : s.gens = #[]
  os : s.os = G.os
  tk : 0 < s.toks
  zin : ∀ a o, Z a = some o → s.heap.get? a = some o
  bas : ∀ a o, G.base.get? a = some o → s.heap.get? a = some o

section
variable {G : Gnd} {env : Env} {Z Z' H : Zf} {ρ ρ' : Loc} {s s' : Shared} {A : Around} {E : Value → Shared → Prop} {n : Nat} {pos apos : Pos}

theorem St.bs (S : St G env Z H ρ s) : Bs G Z s := ⟨S.gens, S.os, S.tk, S.zin, S.keepBase⟩
theorem Bs.ext (b : Bs G Z s) (x : Ext Z s Z' s') : Bs G Z' s' := ⟨x.gens.trans b.gens, x.os.trans b.os, Nat.lt_of_lt_of_le b.tk x.tk, x.zin, fun a o h => x.keep a o (b.bas a o h)⟩
theorem Bs.X (b : Bs G Z s) : G.K.In s.heap := fun a o h => b.bas a o (G.X a o h)
theorem Bs.T (b : Bs G Z s) : TopRead G.p G.loose G.mg G.mb s.heap := G.T.keeps b.bas
theorem Bs.nb (b : Bs G Z s) : NoneBooked s.heap := let ⟨mc, h, e⟩ := G.nb; ⟨mc, h.keeps b.bas, e⟩
theorem Bs.same (b : Bs G Z s) : Ext Z s Z s := Ext.same b.zin
theorem Bs.nolimit (b : Bs G Z s) : s.heap.NoLimit := b.T.nolimit

structure Op1 (G : Gnd) (f : Value → Sem Value) (d₁ d : D) : Prop where
  run : ∀ A Z s v₁, Room 0 A → Bs G Z s → Rep G Z v₁ d₁ → Yields G A (f v₁) Z d s
structure Op2 (G : Gnd) (f : Value → Value → Sem Value) (d₁ d₂ d : D) : Prop where
  run : ∀ A Z s v₁ v₂, Room 0 A → Bs G Z s → Rep G Z v₁ d₁ → Rep G Z v₂ d₂ → Yields G A (f v₁ v₂) Z d s
/-- what truth a value has -/
structure Tr (G : Gnd) (d : D) (b : Bool) : Prop where
  run : ∀ A Z s v, Room 0 A → Bs G Z s → Rep G Z v d → wpAny (model G.prog G.w) A (truthy v) (fun b' s' => b' = b ∧ Ext Z s Z s') (fun _ _ => False) s
/-- a built-in function, or a method with its object ahead -/
structure BF (G : Gnd) (id : String) (ds : List D) (d : D) : Prop where
  run : ∀ A Z s vs, Room 0 A → Bs G Z s → RepAll G Z vs ds → Yields G A (call (.builtin id) vs) Z d s
/-- a def of the text's -/
structure Fn (G : Gnd) (n : Nat) (f : Addr) (ds : List D) (d : D) : Prop where
  run : ∀ A Z s vs, Room n A → Bs G Z s → RepAll G Z vs ds → Yields G A (call (.ref f) vs) Z d s
structure GetM (G : Gnd) (name : Str) (d : D) (id : String) : Prop where
  run : ∀ M A pl Z s v Q E, (∀ a o, Z a = some o → s.heap.get? a = some o) → Rep G Z v d → Q (Value.builtin id, [v]) s → wpAny M A (getMethod v name pl) Q E s

theorem yields_here {v : Value} {d : D} {P : Value → Shared → Prop} (b : Bs G Z s) (r : Rep G Z v d) : ∃ Z', Ext Z s Z' s ∧ Rep G Z' v d := ⟨Z, b.same, r⟩

theorem ev_int {i : Int} {k : Nat} : Ev G env n ρ (.Constant (.int i) k pos) (.int i) := Ev.mk fun _ Z _ _ _ S => wpAny_Constant_int ⟨Z, Ext.tok S.zin (Nat.le_succ _), .int _ _⟩
theorem ev_str {x : Str} {k : Nat} : Ev G env n ρ (.Constant (.str x) k pos) (.str x) := Ev.mk fun _ Z _ _ _ S => Calls.Constant_str ⟨Z, Ext.tok S.zin (Nat.le_succ _), .str _ _⟩
theorem ev_bool {b : Bool} {k : Nat} : Ev G env n ρ (.Constant (.bool b) k pos) (.bool b) := Ev.mk fun _ Z _ _ _ S => wpAny_pure ⟨Z, S.same, .bool _⟩
theorem ev_none {k : Nat} : Ev G env n ρ (.Constant .none k pos) .none := Ev.mk fun _ Z _ _ _ S => wpAny_pure ⟨Z, S.same, .none⟩

theorem ev_glob {x : Str} {a : Addr} (e : nsIn G.K mainGlobals x = some (some (.ref a))) (hx : env.kindOf x = some .globalImplicit) (hd : (x == ("__debug__" : Str)) = false) : Ev G env n ρ (.Name x pos) (.fn a) :=
  Ev.mk fun _ Z _ _ _ S => Calls.Name_function_global S.fk hx (Calls.loadGlobal_global (by rw [S.gl]; exact S.T.g) (mg_of G.X G.T.g e) ⟨Z, S.same, .fn _⟩) hd

theorem wp_builtinName {x : Str} {v : Value} {M : Model} {Q : Value → Shared → Prop} (S : St G env Z H ρ s) (e : nsIn G.K mainGlobals x = some none) (hv : bootBuiltins x = some v) (hn : x ≠ "__name__") (hx : env.kindOf x = some .globalImplicit)
    (hd : (x == ("__debug__" : Str)) = false) (h : Q v s) : wpAny M A (eval (.Name x pos) env) Q E s :=
  Calls.Name_function_global S.fk hx (Calls.loadGlobal_builtin (by rw [S.gl]; exact S.T.g) (mg_none_of G.X G.T.g e) (by rw [S.bl]; exact S.T.b) ((G.T.builtins x hn).trans hv) h) hd

theorem ev_binop {l r : PySem.Expr} {op : Operator} {d₁ d₂ d : D} (h₁ : Ev G env n ρ l d₁) (h₂ : Ev G env n ρ r d₂) (h₃ : Op2 G (binaryOp op) d₁ d₂ d) : Ev G env n ρ (.BinOp l op r pos) d :=
  Ev.mk fun A Z H s R S => wpAny_BinOp (wp_seq (h₁.run A Z H s R S) fun v₁ s₁ ⟨Z₁, x₁, r₁⟩ => wp_seq (h₂.run A Z₁ H s₁ R (S.ext x₁)) fun v₂ s₂ ⟨Z₂, x₂, r₂⟩ =>
    wp_seq (h₃.run A Z₂ s₂ v₁ v₂ (R.less (Nat.zero_le _)) ((S.ext x₁).ext x₂).bs (r₁.mono x₂.le) r₂) fun _ _ ⟨Z₃, x₃, r₃⟩ => ⟨Z₃, x₁.trans (x₂.trans x₃), r₃⟩)

theorem ev_cmp {l r : PySem.Expr} {op : CmpOp} {d₁ d₂ d : D} (h₁ : Ev G env n ρ l d₁) (h₂ : Ev G env n ρ r d₂) (h₃ : Op2 G (compareOp op) d₁ d₂ d) (hm : behindInMarks op r = false) : Ev G env n ρ (.Compare l [op] [r] pos) d :=
  Ev.mk fun A Z H s R S => wpAny_Compare1 (wp_seq (h₁.run A Z H s R S) fun v₁ s₁ ⟨Z₁, x₁, r₁⟩ => wp_seq (h₂.run A Z₁ H s₁ R (S.ext x₁)) fun v₂ s₂ ⟨Z₂, x₂, r₂⟩ =>
    wp_seq (h₃.run A Z₂ s₂ v₁ v₂ (R.less (Nat.zero_le _)) ((S.ext x₁).ext x₂).bs (r₁.mono x₂.le) r₂) fun _ _ ⟨Z₃, x₃, r₃⟩ => ⟨Z₃, x₁.trans (x₂.trans x₃), r₃⟩) hm

theorem tst_cmp {l r : PySem.Expr} {op : CmpOp} {d₁ d₂ : D} {b : Bool} (h₁ : Ev G env n ρ l d₁) (h₂ : Ev G env n ρ r d₂) (h₃ : Op2 G (compareOp op) d₁ d₂ (.bool b)) (hm : behindInMarks op r = false) : Tst G env n ρ (.Compare l [op] [r] pos) b :=
  Tst.mk fun A Z H s R S => wpAny_isTrue_Compare1 (wp_seq (h₁.run A Z H s R S) fun v₁ s₁ ⟨Z₁, x₁, r₁⟩ => wp_seq (h₂.run A Z₁ H s₁ R (S.ext x₁)) fun v₂ s₂ ⟨Z₂, x₂, r₂⟩ =>
    wp_seq (h₃.run A Z₂ s₂ v₁ v₂ (R.less (Nat.zero_le _)) ((S.ext x₁).ext x₂).bs (r₁.mono x₂.le) r₂) fun _ _ ⟨Z₃, x₃, r₃⟩ => by cases r₃; exact wpAny_truthy_bool ⟨rfl, (x₁.trans (x₂.trans x₃)).back S.zin⟩) hm

theorem tst_not {x : PySem.Expr} {b : Bool} (h : Tst G env n ρ x b) : Tst G env n ρ (.UnaryOp .Not x pos) (!b) :=
  Tst.mk fun A Z H s R S => isTrue_not (wp_seq (h.run A Z H s R S) fun _ _ ⟨e, x⟩ => ⟨by rw [e], x⟩)
theorem tst_and_nil : Tst G env n ρ (.BoolOp .And [] pos) true := Tst.mk fun _ _ _ _ _ S => isTrue_and_nil ⟨rfl, S.same⟩
theorem tst_or_nil : Tst G env n ρ (.BoolOp .Or [] pos) false := Tst.mk fun _ _ _ _ _ S => isTrue_or_nil ⟨rfl, S.same⟩
theorem tst_and {x : PySem.Expr} {rest : List PySem.Expr} {c b : Bool} (h : Tst G env n ρ x c) (h' : c = true → Tst G env n ρ (.BoolOp .And rest pos) b) : Tst G env n ρ (.BoolOp .And (x :: rest) pos) (c && b) :=
  Tst.mk fun A Z H s R S => isTrue_and (wp_seq (h.run A Z H s R S) fun c' s' ⟨e, x⟩ => by
    subst e
    cases c' with
    | false => exact ⟨rfl, x⟩
    | true => exact wp_seq ((h' rfl).run A Z H s' R (S.ext x)) fun _ _ ⟨e, y⟩ => ⟨e, x.trans y⟩)
theorem tst_or {x : PySem.Expr} {rest : List PySem.Expr} {c b : Bool} (h : Tst G env n ρ x c) (h' : c = false → Tst G env n ρ (.BoolOp .Or rest pos) b) : Tst G env n ρ (.BoolOp .Or (x :: rest) pos) (c || b) :=
  Tst.mk fun A Z H s R S => isTrue_or (wp_seq (h.run A Z H s R S) fun c' s' ⟨e, x⟩ => by
    subst e
    cases c' with
    | true => exact ⟨rfl, x⟩
    | false => exact wp_seq ((h' rfl).run A Z H s' R (S.ext x)) fun _ _ ⟨e, y⟩ => ⟨e, x.trans y⟩)
/-- a test by a value's truth -/
theorem tst_plain {e : PySem.Expr} {d : D} {b : Bool} (h : Ev G env n ρ e d) (t : Tr G d b) (he : ∀ whole, isTrue e env whole = (do let v ← whole; standAt e.pos; holding [v] (truthy v))) : Tst G env n ρ e b :=
  Tst.mk fun A Z H s R S => isTrue_plain (wp_seq (h.run A Z H s R S) fun v s₁ ⟨Z₁, x₁, r₁⟩ => wp_seq (t.run A Z₁ s₁ v (R.less (Nat.zero_le _)) (S.ext x₁).bs r₁) fun _ _ ⟨e, y⟩ => ⟨e, (x₁.trans y).back S.zin⟩) (he _)
theorem tst_ifexp {t b o : PySem.Expr} {c c₁ c₂ : Bool} (h : Tst G env n ρ t c) (h₁ : c = true → Tst G env n ρ b c₁) (h₂ : c = false → Tst G env n ρ o c₂) : Tst G env n ρ (.IfExp t b o pos) (if c then c₁ else c₂) :=
  Tst.mk fun A Z H s R S => isTrue_IfExp (wp_seq (h.run A Z H s R S) fun c' s' ⟨e, x⟩ => by
    subst e
    cases c' with
    | true => exact wp_seq ((h₁ rfl).run A Z H s' R (S.ext x)) fun _ _ ⟨e, y⟩ => ⟨e, x.trans y⟩
    | false => exact wp_seq ((h₂ rfl).run A Z H s' R (S.ext x)) fun _ _ ⟨e, y⟩ => ⟨e, x.trans y⟩)

theorem ev_ifexp {t b o : PySem.Expr} {c : Bool} {d₁ d₂ : D} (h : Tst G env n ρ t c) (h₁ : c = true → Ev G env n ρ b d₁) (h₂ : c = false → Ev G env n ρ o d₂) : Ev G env n ρ (.IfExp t b o pos) (if c then d₁ else d₂) :=
  Ev.mk fun A Z H s R S => IfExp_ (wp_seq (h.run A Z H s R S) fun c' s' ⟨e, x⟩ => by
    subst e
    cases c' with
    | true => exact wp_seq ((h₁ rfl).run A Z H s' R (S.ext x)) fun _ _ ⟨Z₁, y, r⟩ => ⟨Z₁, x.trans y, r⟩
    | false => exact wp_seq ((h₂ rfl).run A Z H s' R (S.ext x)) fun _ _ ⟨Z₁, y, r⟩ => ⟨Z₁, x.trans y, r⟩)

/-- several expressions in a row -/
structure Evs (G : Gnd) (env : Env) (n : Nat) (ρ : Loc) (es : List PySem.Expr) (ds : List D) : Prop where
  run : ∀ A Z H s pos, Room n A → St G env Z H ρ s → wpAny (model G.prog G.w) A (spliced (backTo pos (starEach es env))) (fun vs s' => ∃ Z', Ext Z s Z' s' ∧ RepAll G Z' vs ds) (fun _ _ => False) s
theorem evs_nil : Evs G env n ρ [] [] := Evs.mk fun _ Z _ _ _ _ S => spliced_none ⟨Z, S.same, .nil⟩
theorem evs_cons {e : PySem.Expr} {es : List PySem.Expr} {d : D} {ds : List D} (h : Ev G env n ρ e d) (h' : Evs G env n ρ es ds) (he : starEach (e :: es) env = (false, eval e env) :: starEach es env) : Evs G env n ρ (e :: es) (d :: ds) :=
  Evs.mk fun A Z H s pos R S => spliced_more (wp_seq (h.run A Z H s R S) fun v s₁ ⟨Z₁, x₁, r₁⟩ => wp_seq (h'.run A Z₁ H s₁ pos R (S.ext x₁)) fun vs s₂ ⟨Z₂, x₂, r₂⟩ => ⟨Z₂, x₁.trans x₂, .cons (r₁.mono x₂.le) r₂⟩) he

theorem new_seq {o : Obj} {T : Value → Prop} (b : Bs G Z s) (hf : o.isFreed = false) {t : Nat} (ht : s.toks ≤ t) : Ext Z s (Zadd Z s.heap.objs.size o) { s with heap := s.heap.push o, toks := t } := Ext.alloc b.zin hf ht

theorem wp_newTuple {vs : List Value} {ds : List D} (b : Bs G Z s) (r : RepAll G Z vs ds) (hsz : ds.length ≤ sizeLine) : Yields G A (newTuple vs) Z (.tup ds) s :=
  wpAny_newObj_type ⟨_, Ext.alloc b.zin rfl (Nat.le_refl _), .tup Zadd.self (r.mono (Ext.alloc (s := s) (t := s.toks) b.zin rfl (Nat.le_refl _)).le)⟩ (by show vs.toArray.size ≤ sizeLine; rw [List.size_toArray, r.length]; exact hsz)
theorem wp_newList {vs : List Value} {ds : List D} (b : Bs G Z s) (r : RepAll G Z vs ds) (hsz : ds.length ≤ sizeLine) : Yields G A (newList vs) Z (.list ds) s :=
  wpAny_newObj_type ⟨_, Ext.alloc b.zin rfl (Nat.le_refl _), .list Zadd.self (r.mono (Ext.alloc (s := s) (t := s.toks) b.zin rfl (Nat.le_refl _)).le)⟩ (by show vs.toArray.size ≤ sizeLine; rw [List.size_toArray, r.length]; exact hsz)

theorem ev_tuple {es : List PySem.Expr} {ds : List D} {k : Nat} (h : Evs G env n ρ es ds) (hsz : ds.length ≤ sizeLine) : Ev G env n ρ (.Tuple es k pos) (.tup ds) :=
  Ev.mk fun A Z H s R S => Tuple_ (wp_seq (h.run A Z H s pos R S) fun vs s₁ ⟨Z₁, x₁, r₁⟩ => wp_seq (wp_newTuple (S.ext x₁).bs r₁ hsz) fun _ _ ⟨Z₂, x₂, r₂⟩ => ⟨Z₂, x₁.trans x₂, r₂⟩)
theorem ev_list {es : List PySem.Expr} {ds : List D} (h : Evs G env n ρ es ds) (hsz : ds.length ≤ sizeLine) : Ev G env n ρ (.List es pos) (.list ds) :=
  Ev.mk fun A Z H s R S => List_ (wp_seq (h.run A Z H s pos R S) fun vs s₁ ⟨Z₁, x₁, r₁⟩ => wp_seq (wp_newList (S.ext x₁).bs r₁ hsz) fun _ _ ⟨Z₂, x₂, r₂⟩ => ⟨Z₂, x₁.trans x₂, r₂⟩)

theorem starred_none {es : List PySem.Expr} (h : (starEach es env).any (·.1) = false) (pos : Pos) : (backTo pos (starEach es env)).any (·.1) = false := by
  unfold backTo
  rw [List.any_map]
  exact h

theorem wp_evalArgs {M : Model} {f : Value} {args : List (Bool × Sem Value)} {Q : Args → Shared → Prop} (hp : args.any (·.1) = false)
    (h : wpAny M A (spliced args) (fun vs s₁ => Q ⟨vs, []⟩ s₁) E s) : wpAny M A (evalArgs f true args []) Q E s := by
  match args, hp, h with
  | [], _, h =>
    unfold evalArgs
    show wpAny M A (spliced [] >>= _) Q E s
    refine wpAny_bind (wpAny_mono h (fun vs s' h' => ?_) fun _ _ x => x)
    refine wpAny_bind (wpAny_pure (wpAny_holding ?_))
    exact wpAny_bind (wpAny_pure (wpAny_bind (wpAny_pure (wpAny_pure h'))))
  | (false, t) :: r, _, h => exact Calls.evalArgs_plain h
  | (true, t) :: r, hp, _ => simp at hp

/-- a call of one of the text's defs, by whatever expression it is reached -/
theorem ev_callFn {f : PySem.Expr} {es : List PySem.Expr} {a : Addr} {ds : List D} {d : D} (hf : Ev G env n ρ f (.fn a)) (h : Evs G env n ρ es ds) (hk : keepIn G.K (.ref a) = true) (hc : Fn G n a ds d)
    (hp : (starEach es env).any (·.1) = false)
    (he : eval (.Call f es [] pos) env = (do callWith pos (← eval f env) [] (backTo pos (starEach es env)) [])) : Ev G env n ρ (.Call f es [] pos) d := by
  constructor
  intro A Z H s R S
  unfold Yields
  rw [he]
  refine wpAny_bind (wp_seq (hf.run A Z H s R S) fun v s₁ ⟨Z₁, x₁, r₁⟩ => ?_)
  cases r₁
  have S₁ := S.ext x₁
  refine callWith_of (P := fun h => G.K.In h) (by rw [starred_none hp]; rfl) (keeps_K hk) (wp_evalArgs (starred_none hp pos) (wp_seq (h.run A Z₁ H s₁ pos R S₁) fun vs s₂ ⟨Z₂, x₂, r₂⟩ => ⟨(S₁.ext x₂).X, ?_⟩))
  exact wp_seq (hc.run A Z₂ s₂ vs R (S₁.ext x₂).bs r₂) fun _ _ ⟨Z₃, x₃, r₃⟩ => ⟨Z₃, x₁.trans (x₂.trans x₃), r₃⟩

/-- a call of a built-in function by its name -/
theorem ev_callBF {x : Str} {p : Pos} {id : String} {es : List PySem.Expr} {ds : List D} {d : D} (h : Evs G env n ρ es ds) (hc : BF G id ds d)
    (e : nsIn G.K mainGlobals x = some none) (hv : bootBuiltins x = some (.builtin id)) (hn : x ≠ "__name__") (hx : env.kindOf x = some .globalImplicit) (hd : (x == ("__debug__" : Str)) = false)
    (hp : (starEach es env).any (·.1) = false)
    (he : eval (.Call (.Name x p) es [] pos) env = (do callWith pos (← eval (.Name x p) env) [] (backTo pos (starEach es env)) [])) : Ev G env n ρ (.Call (.Name x p) es [] pos) d := by
  constructor
  intro A Z H s R S
  unfold Yields
  rw [he]
  refine wpAny_bind (wp_builtinName S e hv hn hx hd ?_)
  refine Calls.callWith_builtin (starred_none hp pos) (wp_evalArgs (starred_none hp pos) (wp_seq (h.run A Z H s pos R S) fun vs s₂ ⟨Z₂, x₂, r₂⟩ => ?_))
  exact wp_seq (hc.run A Z₂ s₂ vs (R.less (Nat.zero_le _)) (S.ext x₂).bs r₂) fun _ _ ⟨Z₃, x₃, r₃⟩ => ⟨Z₃, x₂.trans x₃, r₃⟩

/-- a call of a built-in class by its name -/
structure BT (G : Gnd) (T : String) (ds : List D) (d : D) : Prop where
  run : ∀ A Z s vs, Room 1 A → Bs G Z s → RepAll G Z vs ds → Yields G A (call (.type T) vs) Z d s
theorem ev_callBT {x : Str} {p : Pos} {T : String} {es : List PySem.Expr} {ds : List D} {d : D} (h : Evs G env (n + 1) ρ es ds) (hc : BT G T ds d)
    (e : nsIn G.K mainGlobals x = some none) (hv : bootBuiltins x = some (.type T)) (hn : x ≠ "__name__") (hx : env.kindOf x = some .globalImplicit) (hd : (x == ("__debug__" : Str)) = false)
    (hp : (starEach es env).any (·.1) = false)
    (he : eval (.Call (.Name x p) es [] pos) env = (do callWith pos (← eval (.Name x p) env) [] (backTo pos (starEach es env)) [])) : Ev G env (n + 1) ρ (.Call (.Name x p) es [] pos) d := by
  constructor
  intro A Z H s R S
  unfold Yields
  rw [he]
  refine wpAny_bind (wp_builtinName S e hv hn hx hd ?_)
  refine PyProof.Rows.callWith_type (starred_none hp pos) (wp_evalArgs (starred_none hp pos) (wp_seq (h.run A Z H s pos R S) fun vs s₂ ⟨Z₂, x₂, r₂⟩ => ?_))
  exact wp_seq (hc.run A Z₂ s₂ vs (R.less (by omega)) (S.ext x₂).bs r₂) fun _ _ ⟨Z₃, x₃, r₃⟩ => ⟨Z₃, x₂.trans x₃, r₃⟩

/-- a call of a method of a built-in class -/
theorem ev_method {o : PySem.Expr} {name : Str} {id : String} {es : List PySem.Expr} {d₀ : D} {ds : List D} {d : D} {pl : Sem Bool} (ho : Ev G env n ρ o d₀) (g : GetM G name d₀ id) (h : Evs G env n ρ es ds) (hc : BF G id (d₀ :: ds) d)
    (hp : (starEach es env).any (·.1) = false)
    (he : eval (.Call (.Attribute o name apos) es [] pos) env = (do
      let ov ← eval o env
      standAt apos.atName
      let (f, first) ← holding [ov] (getMethod ov name pl)
      callWith pos f first (backTo pos (starEach es env)) [])) : Ev G env n ρ (.Call (.Attribute o name apos) es [] pos) d := by
  constructor
  intro A Z H s R S
  refine MethodCall_ (wp_seq (ho.run A Z H s R S) fun v s₁ ⟨Z₁, x₁, r₁⟩ => ?_) he
  have S₁ := S.ext x₁
  refine g.run _ A pl Z₁ s₁ v _ _ S₁.zin r₁ ?_
  refine Calls.callWith_builtin (starred_none hp pos) (wp_evalArgs (starred_none hp pos) (wp_seq (h.run A Z₁ H s₁ pos R S₁) fun vs s₂ ⟨Z₂, x₂, r₂⟩ => ?_))
  exact wp_seq (hc.run A Z₂ s₂ (v :: vs) (R.less (Nat.zero_le _)) (S₁.ext x₂).bs (.cons (r₁.mono x₂.le) r₂)) fun _ _ ⟨Z₃, x₃, r₃⟩ => ⟨Z₃, x₁.trans (x₂.trans x₃), r₃⟩

/-- an item -/
def Sb (G : Gnd) (value slice : PySem.Expr) (d₁ d₂ d : D) : Prop := Op2 G (subscriptTail value slice) d₁ d₂ d
theorem ev_sub {value slice : PySem.Expr} {d₁ d₂ d : D} (h₁ : Ev G env n ρ value d₁) (h₂ : Ev G env n ρ slice d₂) (h₃ : Sb G value slice d₁ d₂ d) : Ev G env n ρ (.Subscript value slice pos) d :=
  Ev.mk fun A Z H s R S => Subscript_ (wp_seq (h₁.run A Z H s R S) fun v₁ s₁ ⟨Z₁, x₁, r₁⟩ => wp_seq (h₂.run A Z₁ H s₁ R (S.ext x₁)) fun v₂ s₂ ⟨Z₂, x₂, r₂⟩ =>
    wp_seq (h₃.run A Z₂ s₂ v₁ v₂ (R.less (Nat.zero_le _)) ((S.ext x₁).ext x₂).bs (r₁.mono x₂.le) r₂) fun _ _ ⟨Z₃, x₃, r₃⟩ => ⟨Z₃, x₁.trans (x₂.trans x₃), r₃⟩)

theorem ev_neg {e : PySem.Expr} {d₁ d : D} {op : UnaryOp} (h : Ev G env n ρ e d₁) (h' : Op1 G (unaryOp op) d₁ d) : Ev G env n ρ (.UnaryOp op e pos) d := by
  constructor
  intro A Z H s R S
  show wpAny _ _ (do let v ← eval e env; standAt pos; holding [v] (unaryOp op v)) _ _ _
  exact wpAny_bind (wp_seq (h.run A Z H s R S) fun v s₁ ⟨Z₁, x₁, r₁⟩ => wpAny_bind (wpAny_standAt (wpAny_holding (wp_seq (h'.run A Z₁ s₁ v (R.less (Nat.zero_le _)) (S.ext x₁).bs r₁) fun _ _ ⟨Z₂, x₂, r₂⟩ => ⟨Z₂, x₁.trans x₂, r₂⟩))))

end
end Mine
end
section
open PySem PySem.W PyProof.Rows
set_option linter.unusedVariables false
namespace Mine

section
variable {G : Gnd} {env : Env} {Z Z' H : Zf} {ρ ρ' : Loc} {s s' : Shared} {A : Around} {E : Value → Shared → Prop} {n : Nat} {pos apos : Pos}

/-- how a block ends -/
inductive Fl where
  | next | brk | cont
  | ret (d : D)

inductive FlRep (G : Gnd) (Z : Zf) : Flow → Fl → Prop
  | next : FlRep G Z .next .next
  | brk : FlRep G Z .brk .brk
  | cont : FlRep G Z .cont .cont
  | ret {v : Value} {d : D} : Rep G Z v d → FlRep G Z (.ret v) (.ret d)
theorem FlRep.mono {f : Flow} {fl : Fl} (hz : Zle Z Z') (h : FlRep G Z f fl) : FlRep G Z' f fl := by
  cases h with
  | next => exact .next
  | brk => exact .brk
  | cont => exact .cont
  | ret r => exact .ret (r.mono hz)

def ExPost (G : Gnd) (env : Env) (Z H : Zf) (Φ : Fl → Loc → Prop) (f : Flow) (s' : Shared) : Prop := ∃ Z' ρ' fl, Zle Z Z' ∧ St G env Z' H ρ' s' ∧ FlRep G Z' f fl ∧ Φ fl ρ'
/-- a statement -/
structure Ex (G : Gnd) (env : Env) (n : Nat) (ρ : Loc) (st : Stmt) (Φ : Fl → Loc → Prop) : Prop where
  run : ∀ A Z H s, Room n A → St G env Z H ρ s → wpAny (model G.prog G.w) A (exec st env) (ExPost G env Z H Φ) (fun _ _ => False) s
/-- statements in a row -/
structure Exs (G : Gnd) (env : Env) (n : Nat) (ρ : Loc) (sts : List Stmt) (Φ : Fl → Loc → Prop) : Prop where
  run : ∀ A Z H s, Room n A → St G env Z H ρ s → wpAny (model G.prog G.w) A (execs sts env) (ExPost G env Z H Φ) (fun _ _ => False) s

def Then (Φ : Fl → Loc → Prop) (K : Loc → Prop) : Fl → Loc → Prop
  | .next, ρ => K ρ
  | fl, ρ => Φ fl ρ

theorem exs_nil {Φ : Fl → Loc → Prop} (h : Φ .next ρ) : Exs G env n ρ [] Φ := Exs.mk fun A Z H s _ S => wpAny_execs_nil ⟨Z, ρ, .next, Zle.same, S, .next, h⟩
theorem exs_cons {st : Stmt} {rest : List Stmt} {Φ : Fl → Loc → Prop} (h : Ex G env n ρ st (Then Φ fun ρ' => Exs G env n ρ' rest Φ)) : Exs G env n ρ (st :: rest) Φ := by
  constructor
  intro A Z H s R S
  refine wpAny_execs_cons (wp_seq (h.run A Z H s R S) fun f s' ⟨Z', ρ', fl, le, S', hf, hΦ⟩ => ?_)
  cases hf with
  | next => exact wp_seq (hΦ.run A Z' H s' R S') fun f s'' ⟨Z'', ρ'', fl, le', S'', hf, h⟩ => ⟨Z'', ρ'', fl, le.trans le', S'', hf, h⟩
  | brk => exact ⟨Z', ρ', _, le, S', .brk, hΦ⟩
  | cont => exact ⟨Z', ρ', _, le, S', .cont, hΦ⟩
  | ret r => exact ⟨Z', ρ', _, le, S', .ret r, hΦ⟩
theorem exs_mono {sts : List Stmt} {Φ Ψ : Fl → Loc → Prop} (h : Exs G env n ρ sts Φ) (hΦ : ∀ fl ρ', Φ fl ρ' → Ψ fl ρ') : Exs G env n ρ sts Ψ :=
  Exs.mk fun A Z H s R S => wp_seq (h.run A Z H s R S) fun _ _ ⟨Z', ρ', fl, le, S', hf, h⟩ => ⟨Z', ρ', fl, le, S', hf, hΦ _ _ h⟩
theorem ex_mono {st : Stmt} {Φ Ψ : Fl → Loc → Prop} (h : Ex G env n ρ st Φ) (hΦ : ∀ fl ρ', Φ fl ρ' → Ψ fl ρ') : Ex G env n ρ st Ψ :=
  Ex.mk fun A Z H s R S => wp_seq (h.run A Z H s R S) fun _ _ ⟨Z', ρ', fl, le, S', hf, h⟩ => ⟨Z', ρ', fl, le, S', hf, hΦ _ _ h⟩

theorem ex_assign {x : Str} {p : Pos} {e : PySem.Expr} {d : D} {Φ : Fl → Loc → Prop} (h : Ev G env n ρ e d) (hc : Can env x) (hs : swapsWith e (some (.Name x p)) pos.line env = pure false) (k : Φ .next (upd ρ x (.val d))) :
    Ex G env n ρ (.Assign [.Name x p] e pos) Φ :=
  Ex.mk fun A Z H s R S => wpAny_Assign_Name (wp_seq (h.run A Z H s R S) fun v s₁ ⟨Z₁, x₁, r₁⟩ => wp_seq (st_store (S.ext x₁) r₁ hc) fun _ s₂ S₂ => ⟨Z₁, _, _, x₁.le, S₂, .next, k⟩) hs

theorem ex_return {e : PySem.Expr} {d : D} {Φ : Fl → Loc → Prop} (h : Ev G env n ρ e d) (k : Φ (.ret d) ρ) : Ex G env n ρ (.Return (some e) pos) Φ :=
  Ex.mk fun A Z H s R S => wpAny_Return_some (wp_seq (h.run A Z H s R S) fun v s₁ ⟨Z₁, x₁, r₁⟩ => ⟨Z₁, _, _, x₁.le, S.ext x₁, .ret r₁, k⟩)
theorem ex_continue {Φ : Fl → Loc → Prop} (k : Φ .cont ρ) : Ex G env n ρ (.Continue pos) Φ := Ex.mk fun A Z H s R S => wpAny_Continue ⟨Z, _, _, Zle.same, S, .cont, k⟩
theorem ex_pass {Φ : Fl → Loc → Prop} (k : Φ .next ρ) : Ex G env n ρ (.Pass pos) Φ := Ex.mk fun A Z H s R S => wpAny_Pass ⟨Z, _, _, Zle.same, S, .next, k⟩

theorem ex_if {t : PySem.Expr} {body orelse : List Stmt} {c : Bool} {Φ : Fl → Loc → Prop} (h : Tst G env n ρ t c) (h₁ : c = true → Exs G env n ρ body Φ) (h₂ : c = false → Exs G env n ρ orelse Φ) : Ex G env n ρ (.If t body orelse pos) Φ :=
  Ex.mk fun A Z H s R S => wpAny_If (wp_seq (h.run A Z H s R S) fun c' s' ⟨e, x⟩ => by
    subst e
    cases c' with
    | true => exact (h₁ rfl).run A Z H s' R (S.ext x)
    | false => exact (h₂ rfl).run A Z H s' R (S.ext x))

/-- x op= e -/
theorem ex_aug {x : Str} {p : Pos} {op : Operator} {e : PySem.Expr} {d₀ d₁ d : D} {Φ : Fl → Loc → Prop} (h₀ : ρ.lookup x = some (.val d₀)) (h : Ev G env n ρ e d₁) (ho : Op2 G (inplaceOp op) d₀ d₁ d) (hc : Can env x) (k : Φ .next (upd ρ x (.val d))) :
    Ex G env n ρ (.AugAssign (.Name x p) op e pos) Φ := by
  constructor
  intro A Z H s R S
  refine wpAny_AugAssign_Name ?_
  obtain ⟨v, hv, r⟩ := S.vars x d₀ h₀
  have go : wpAny (model G.prog G.w) A (eval e env) (fun v₁ s₂ => wpAny (model G.prog G.w) A (inplaceOp op v v₁) (fun r s₃ => wpAny (model G.prog G.w) A (storeName env x r) (fun _ => ExPost G env Z H Φ .next) (fun _ _ => False) s₃) (fun _ _ => False) s₂) (fun _ _ => False) s :=
    wp_seq (h.run A Z H s R S) fun v₁ s₂ ⟨Z₁, x₁, r₁⟩ => wp_seq (ho.run A Z₁ s₂ v v₁ (R.less (Nat.zero_le _)) (S.ext x₁).bs (r.mono x₁.le) r₁) fun v₂ s₃ ⟨Z₂, x₂, r₂⟩ =>
      wp_seq (st_store ((S.ext x₁).ext x₂) r₂ hc) fun _ s₄ S₄ => ⟨Z₂, _, _, x₁.le.trans x₂.le, S₄, .next, k⟩
  rcases hv with ⟨k, m, n, e⟩ | ⟨k, c, e, n⟩
  · exact wpAny_loadName_local S.fk k n e go
  · rcases k with k | k
    · exact wpAny_loadName_cell S.fk k e n go
    · exact wpAny_loadName_free S.fk k.1 e n go k.2

/-- an object more is held -/
theorem St.hold {I : Addr} {o : Obj} (S : St G env Z H ρ s) (x : Ext Z s Z s') (hI : s.heap.get? I = none) (ho : s'.heap.get? I = some o) :
    St G env Z (Zadd H I o) ρ s' ∧ G.base.get? I = none ∧ H I = none ∧ Z I = none ∧ ∀ y c, env.cells.lookup y = some c → c ≠ I := by
  have S' := S.ext x
  have old : ∀ a ob, s.heap.get? a = some ob → a ≠ I := fun a ob h q => by rw [q, hI] at h; cases h
  have hH : H I = none := by
    cases q : H I with
    | none => rfl
    | some ob => exact absurd rfl (old I ob (S.hin I ob q))
  have hZ : Z I = none := by
    cases q : Z I with
    | none => rfl
    | some ob => exact absurd rfl (old I ob (S.zin I ob q))
  have hB : G.base.get? I = none := by
    cases q : G.base.get? I with
    | none => rfl
    | some ob => exact absurd rfl (old I ob (S.keepBase I ob q))
  have hC : ∀ y c, env.cells.lookup y = some c → c ≠ I := fun y c e => by
    obtain ⟨_, h1, h2⟩ := S.cells y c e
    cases hf : env.func.isSome with
    | true => obtain ⟨_, _, v, ob, hob, _⟩ := h1 hf; exact old c ob hob
    | false => obtain ⟨ob, hob⟩ := h2 hf; exact old c ob (S.hin c ob hob)
  have le := Zadd.le (o := o) hH
  have ne : ∀ b, b ≠ I → Zadd H I o b = H b := fun b hb => if_neg hb
  obtain ⟨oL, _, _, hoL, _⟩ := S.ns.choose_spec
  refine ⟨⟨S'.fk, S'.gl, S'.bl, S'.gens, S'.os, S'.tk, S'.zin, fun a ob h => ?_, fun a ob h => ?_, fun a ob h => (S'.bas a ob h).elim .inl (fun h => .inr (le _ _ h)), S'.ns, S'.lz, ?_, fun y c e => ?_, S'.inj, S'.vars, ?_⟩, hB, hH, hZ, hC⟩
  · by_cases q : a = I
    · subst q; rw [Zadd.self] at h; cases h; exact ho
    · rw [ne a q] at h; exact S'.hin a ob h
  · rw [ne a fun q => by rw [q, hZ] at h; cases h]; exact S'.dj a ob h
  · rw [ne _ (old _ _ hoL)]; exact S'.lh
  · obtain ⟨h0, h1, h2⟩ := S'.cells y c e
    refine ⟨h0, fun hf => ?_, fun hf => ?_⟩
    · obtain ⟨a, b, c'⟩ := h1 hf
      exact ⟨a, by rw [ne _ (hC y c e)]; exact b, c'⟩
    · obtain ⟨ob, h⟩ := h2 hf
      exact ⟨ob, le _ _ h⟩
  · obtain ⟨oa, hi, h⟩ := S.owns
    obtain ⟨oa', hi', h'⟩ := S'.owns
    refine ⟨oa, hi, fun y ds e => ?_⟩
    obtain ⟨g1, g2, g3, g4, g5, vs, k, g6, g7⟩ := h y ds e
    exact ⟨g1.keeps x.keep, g2, by rw [ne _ (old _ _ g6)]; exact g3, g4, g5, vs, k, x.keep _ _ g6, g7⟩

/-- a held object is changed -/
theorem St.turn {I : Addr} {o o' : Obj} {h' : Heap} {t : Nat} (S : St G env Z (Zadd H I o) ρ s) (hB : G.base.get? I = none) (hC : ∀ y c, env.cells.lookup y = some c → c ≠ I)
    (hk : ∀ b ob, b ≠ I → s.heap.get? b = some ob → h'.get? b = some ob) (ho : h'.get? I = some o') (ht : s.toks ≤ t) : St G env Z (Zadd H I o') ρ { s with heap := h', toks := t } := by
  have self : Zadd H I o I = some o := Zadd.self
  have ne : ∀ b, b ≠ I → Zadd H I o' b = Zadd H I o b := fun b hb => by unfold Zadd; rw [if_neg hb, if_neg hb]
  have zI : ∀ a ob, Z a = some ob → a ≠ I := fun a ob h q => by have := S.dj a ob h; rw [q, self] at this; cases this
  have nI : ∀ a, Zadd H I o a = none → a ≠ I := fun a h q => by rw [q, self] at h; cases h
  have lI := nI _ S.lh
  have has : ∀ y v, Has env s.heap y v → Has env h' y v := fun y v q => by
    rcases q with ⟨k, m, ⟨ob, es, ep, e1, e2⟩, e⟩ | ⟨k, c, e, ob, e1, e2⟩
    · exact .inl ⟨k, m, ⟨ob, es, ep, hk _ _ lI e1, e2⟩, e⟩
    · exact .inr ⟨k, c, e, ob, hk _ _ (hC y c e) e1, e2⟩
  refine ⟨S.fk, S.gl, S.bl, S.gens, S.os, Nat.lt_of_lt_of_le S.tk ht, fun a ob h => hk _ _ (zI a ob h) (S.zin a ob h), fun a ob h => ?_, fun a ob h => ?_, fun a ob h => ?_, ?_, S.lz, ?_, fun y c e => ?_, S.inj, fun y d e => ?_, ?_⟩
  · by_cases q : a = I
    · subst q; rw [Zadd.self] at h; cases h; exact ho
    · rw [ne a q] at h; exact hk _ _ q (S.hin a ob h)
  · rw [ne a (zI a ob h)]; exact S.dj a ob h
  · refine (S.bas a ob h).elim .inl fun q => .inr ?_
    rw [ne a fun z => by rw [z, hB] at h; cases h]; exact q
  · obtain ⟨m, ob, es, ep, e1, e2⟩ := S.ns; exact ⟨m, ob, es, ep, hk _ _ lI e1, e2⟩
  · rw [ne _ lI]; exact S.lh
  · obtain ⟨h0, h1, h2⟩ := S.cells y c e
    refine ⟨h0, fun hf => ?_, fun hf => ?_⟩
    · obtain ⟨a, b, v, ob, e1, e2⟩ := h1 hf
      exact ⟨a, by rw [ne _ (hC y c e)]; exact b, v, ob, hk _ _ (hC y c e) e1, e2⟩
    · obtain ⟨ob, h⟩ := h2 hf
      exact ⟨ob, by rw [ne _ (hC y c e)]; exact h⟩
  · obtain ⟨v, h, r⟩ := S.vars y d e; exact ⟨v, has y v h, r⟩
  · obtain ⟨oa, hi, h⟩ := S.owns
    refine ⟨oa, hi, fun y ds e => ?_⟩
    obtain ⟨g1, g2, g3, g4, g5, vs, k, g6, g7⟩ := h y ds e
    exact ⟨has _ _ g1, g2, by rw [ne _ (nI _ g3)]; exact g3, g4, g5, vs, k, hk _ _ (nI _ g3) g6, g7⟩

/-- it is held no more -/
theorem St.unhold {I : Addr} {o : Obj} (S : St G env Z (Zadd H I o) ρ s) (hB : G.base.get? I = none) (hC : ∀ y c, env.cells.lookup y = some c → c ≠ I) (hH : H I = none) : St G env Z H ρ s := by
  have self : Zadd H I o I = some o := Zadd.self
  have le := Zadd.le (o := o) hH
  have ne : ∀ b, b ≠ I → Zadd H I o b = H b := fun b hb => if_neg hb
  have none_of : ∀ a, Zadd H I o a = none → H a = none := fun a h => by
    cases q : H a with
    | none => rfl
    | some ob => rw [le _ _ q] at h; cases h
  refine ⟨S.fk, S.gl, S.bl, S.gens, S.os, S.tk, S.zin, fun a ob h => S.hin a ob (le _ _ h), fun a ob h => none_of a (S.dj a ob h), fun a ob h => ?_, S.ns, S.lz, none_of _ S.lh, fun y c e => ?_, S.inj, S.vars, ?_⟩
  · refine (S.bas a ob h).elim .inl fun q => .inr ?_
    rwa [ne a fun z => by rw [z, hB] at h; cases h] at q
  · obtain ⟨h0, h1, h2⟩ := S.cells y c e
    refine ⟨h0, fun hf => ?_, fun hf => ?_⟩
    · obtain ⟨a, b, v⟩ := h1 hf
      exact ⟨a, none_of _ b, v⟩
    · obtain ⟨ob, h⟩ := h2 hf
      rw [ne _ (hC y c e)] at h
      exact ⟨ob, h⟩
  · obtain ⟨oa, hi, h⟩ := S.owns
    refine ⟨oa, hi, fun y ds e => ?_⟩
    obtain ⟨g1, g2, g3, g4⟩ := h y ds e
    exact ⟨g1, g2, none_of _ g3, g4⟩

/-- a held object is let go, whatever becomes of it -/
theorem St.drop {I : Addr} {o : Obj} {h' : Heap} {t : Nat} (S : St G env Z (Zadd H I o) ρ s) (hB : G.base.get? I = none) (hC : ∀ y c, env.cells.lookup y = some c → c ≠ I) (hH : H I = none)
    (hk : ∀ b ob, b ≠ I → s.heap.get? b = some ob → h'.get? b = some ob) (ht : s.toks ≤ t) : St G env Z H ρ { s with heap := h', toks := t } := by
  have self : Zadd H I o I = some o := Zadd.self
  have le := Zadd.le (o := o) hH
  have ne : ∀ b, b ≠ I → Zadd H I o b = H b := fun b hb => if_neg hb
  have none_of : ∀ a, Zadd H I o a = none → H a = none := fun a h => by
    cases q : H a with
    | none => rfl
    | some ob => rw [le _ _ q] at h; cases h
  have zI : ∀ a ob, Z a = some ob → a ≠ I := fun a ob h q => by have := S.dj a ob h; rw [q, self] at this; cases this
  have nI : ∀ a, Zadd H I o a = none → a ≠ I := fun a h q => by rw [q, self] at h; cases h
  have hI : ∀ a ob, H a = some ob → a ≠ I := fun a ob h q => by rw [q, hH] at h; cases h
  have lI := nI _ S.lh
  have has : ∀ y v, Has env s.heap y v → Has env h' y v := fun y v q => by
    rcases q with ⟨k, m, ⟨ob, es, ep, e1, e2⟩, e⟩ | ⟨k, c, e, ob, e1, e2⟩
    · exact .inl ⟨k, m, ⟨ob, es, ep, hk _ _ lI e1, e2⟩, e⟩
    · exact .inr ⟨k, c, e, ob, hk _ _ (hC y c e) e1, e2⟩
  refine ⟨S.fk, S.gl, S.bl, S.gens, S.os, Nat.lt_of_lt_of_le S.tk ht, fun a ob h => hk _ _ (zI a ob h) (S.zin a ob h), fun a ob h => hk _ _ (hI a ob h) (S.hin a ob (le _ _ h)), fun a ob h => none_of a (S.dj a ob h), fun a ob h => ?_, ?_, S.lz, none_of _ S.lh, fun y c e => ?_, S.inj, fun y d e => ?_, ?_⟩
  · refine (S.bas a ob h).elim .inl fun q => .inr ?_
    rwa [ne a fun z => by rw [z, hB] at h; cases h] at q
  · obtain ⟨m, ob, es, ep, e1, e2⟩ := S.ns; exact ⟨m, ob, es, ep, hk _ _ lI e1, e2⟩
  · obtain ⟨h0, h1, h2⟩ := S.cells y c e
    refine ⟨h0, fun hf => ?_, fun hf => ?_⟩
    · obtain ⟨a, b, v, ob, e1, e2⟩ := h1 hf
      exact ⟨a, none_of _ b, v, ob, hk _ _ (hC y c e) e1, e2⟩
    · obtain ⟨ob, h⟩ := h2 hf
      rw [ne _ (hC y c e)] at h
      exact ⟨ob, h⟩
  · obtain ⟨v, h, r⟩ := S.vars y d e; exact ⟨v, has y v h, r⟩
  · obtain ⟨oa, hi, h⟩ := S.owns
    refine ⟨oa, hi, fun y ds e => ?_⟩
    obtain ⟨g1, g2, g3, g4, g5, vs, k, g6, g7⟩ := h y ds e
    exact ⟨has _ _ g1, g2, none_of _ g3, g4, g5, vs, k, hk _ _ (nI _ g3) g6, g7⟩

end
end Mine
end
section
open PySem PySem.W PyProof.Rows
set_option linter.unusedVariables false
namespace Mine

section
variable {G : Gnd} {env : Env} {Z Z' H : Zf} {ρ ρ' : Loc} {s s' : Shared} {A : Around} {E : Value → Shared → Prop} {n : Nat} {pos apos : Pos}

def ownsTuples (T : String) : Bool := ["enumerate", "zip", "dict_itemiterator", "dict_reverseitemiterator", "odict_iterator", "itertools.zip_longest", "itertools.pairwise"].contains T

/-- an iterator that is new, and the data that it will give -/
def ItrAt (G : Gnd) (Z : Zf) (ds : List D) (s s' : Shared) (it : Value) : Prop :=
  ∃ (I : Addr) (fp : List Addr) (P : Nat → Value → Prop) (W : Nat → Heap → Prop), it = .ref I ∧ Ext Z s Z s' ∧ s.heap.get? I = none ∧ (∀ A' : Around, A'.handled = none → Walks G.prog G.w A' I fp [I] ds.length P W) ∧
    (∀ b ∈ fp, b = I ∨ ∃ o, Z b = some o) ∧ W 0 s'.heap ∧ (∀ i h, W i h → ∃ o T, h.get? I = some o ∧ o.cls = .type T ∧ ownsTuples T = false) ∧ (∀ i v, P i v → ∃ d, ds[i]? = some d ∧ Rep G Z v d)
structure Itr (G : Gnd) (d : D) (ds : List D) : Prop where
  run : ∀ A Z s v, Room 0 A → Bs G Z s → Rep G Z v d → wpAny (model G.prog G.w) A (pyIter v) (fun it s' => ItrAt G Z ds s s' it) (fun _ _ => False) s

/-- a target takes a datum -/
structure Asg (G : Gnd) (env : Env) (tgt : PySem.Expr) (d : D) (ρ ρ' : Loc) : Prop where
  run : ∀ A Z H s v, Room 0 A → St G env Z H ρ s → Rep G Z v d → wpAny (model G.prog G.w) A (assign tgt env v) (fun _ s' => ∃ Z', Zle Z Z' ∧ St G env Z' H ρ' s') (fun _ _ => False) s
theorem asg_name {x : Str} {p : Pos} {d : D} (hc : Can env x) : Asg G env (.Name x p) d ρ (upd ρ x (.val d)) :=
  Asg.mk fun A Z H s v R S r => wpAny_assign_Name (wp_seq (st_store S r hc) fun _ _ S' => ⟨Z, Zle.same, S'⟩)

theorem wp_letOwned {tgt : PySem.Expr} {I : Addr} {v : Value} {o : Obj} {T : String} {M : Model} {Q : Unit → Shared → Prop} (ho : s.heap.get? I = some o) (hc : o.cls = .type T) (hT : ownsTuples T = false) (h : Q () s) :
    wpAny M A (letOwnedTupleGo tgt (.ref I) v) Q E s := by
  have go : wpAny M A (match (Value.ref I, v) with
    | (.ref r, .ref a) => do
      let o ← load r
      match o.cls, o.data with
      | .type n, .fields vs =>
        if ["enumerate", "zip", "dict_itemiterator", "dict_reverseitemiterator", "odict_iterator", "itertools.zip_longest", "itertools.pairwise"].contains n && vs[0]? == some (rawInt a) then
          rule "for.unpacks-the-owned-tuple"
          updateField r 0 .none
      | _, _ => pure ()
    | _ => pure ()) Q E s := by
    cases v with
    | ref a =>
      refine wpAny_bind (wpAny_load ho ?_)
      rw [hc]
      cases o.data <;> first | exact wpAny_pure h | skip
      rename_i vs
      unfold ownsTuples at hT
      dsimp only
      rw [hT]
      exact wpAny_pure h
    | _ => exact wpAny_pure h
  unfold letOwnedTupleGo
  cases tgt <;> first | exact wpAny_pure h | exact go

def LoopPost (Φ : Fl → Loc → Prop) (K : Loc → Prop) : Fl → Loc → Prop
  | .next, ρ => K ρ
  | .cont, ρ => K ρ
  | .brk, ρ => Φ .next ρ
  | .ret d, ρ => Φ (.ret d) ρ

theorem ex_for {tgt iter : PySem.Expr} {body : List Stmt} {d : D} {ds : List D} {Φ : Fl → Loc → Prop} (P : Nat → Loc → Prop) (h : Ev G env n ρ iter d) (hi : Itr G d ds) (h0 : P 0 ρ)
    (turn : ∀ i d ρ', ds[i]? = some d → P i ρ' → ∃ ρ'', Asg G env tgt d ρ' ρ'' ∧ Exs G env n ρ'' body (LoopPost Φ (P (i + 1))))
    (done : ∀ ρ', P ds.length ρ' → Φ .next ρ') (hs : ∀ x, foldedSetIterable iter env x = pure x) : Ex G env n ρ (.For tgt iter body [] pos) Φ := by
  constructor
  intro A Z H s R S
  refine wpAny_For (wp_seq (h.run A Z H s R S) fun v s₁ ⟨Z₁, x₁, r₁⟩ => wp_seq (hi.run A Z₁ s₁ v (R.less (Nat.zero_le _)) (S.ext x₁).bs r₁) fun it s₂ ⟨I, fp, P', W, e, x₂, hI, hW, hfp, hW0, hcls, hP⟩ => ?_) hs
  subst e
  have W₀ := hW A R.handled
  obtain ⟨o₂, _, ho₂, _⟩ := hcls 0 _ hW0
  obtain ⟨S₂, hB, hH, hZ, hC⟩ := (S.ext x₁).hold x₂ hI ho₂
  refine codeAny_forLoop_any (fun m s => ∃ i Zc ρc o, m = ds.length - i ∧ i ≤ ds.length ∧ Zle Z₁ Zc ∧ St G env Zc (Zadd H I o) ρc s ∧ W i s.heap ∧ P i ρc) (fun m s hm => ?_) ds.length ⟨0, Z₁, ρ, o₂, rfl, Nat.zero_le _, Zle.same, S₂, hW0, h0⟩
  obtain ⟨i, Zc, ρc, o, rfl, hle, lec, Sc, hWi, hPi⟩ := hm
  by_cases hlt : i < ds.length
  · refine wpAny_with_toks (Nat.le_refl s.toks) (W₀.item i s _ _ hlt hWi fun v h' tk pv hW' hk tok => ?_)
    obtain ⟨d', hd', rv⟩ := hP i v pv
    obtain ⟨o', T, ho', hcT, hT⟩ := hcls _ _ hW'
    have St' := Sc.turn (t := tk) hB hC (fun b ob hb e => hk b ob (by simpa using hb) e) ho' tok
    refine wp_letOwned (s := { s with heap := h', toks := tk }) ho' hcT hT ?_
    obtain ⟨ρ'', ha, hb⟩ := turn i d' ρc hd' hPi
    refine wp_seq (ha.run A Zc _ _ v (R.less (Nat.zero_le _)) St' (rv.mono lec)) fun _ s₄ ⟨Z₄, le₄, S₄⟩ => ?_
    refine wp_seq (hb.run A Z₄ _ s₄ R S₄) fun f s₅ ⟨Z₅, ρ₅, fl, le₅, S₅, hf, hΦ⟩ => ?_
    have les : Zle Z Z₅ := x₁.le.trans (lec.trans (le₄.trans le₅))
    have nx : P (i + 1) ρ₅ → ∃ m, m < ds.length - i ∧ ∃ i Zc ρc o, m = ds.length - i ∧ i ≤ ds.length ∧ Zle Z₁ Zc ∧ St G env Zc (Zadd H I o) ρc s₅ ∧ W i s₅.heap ∧ P i ρc := fun hp => by
      refine ⟨ds.length - (i + 1), by omega, i + 1, Z₅, ρ₅, o', rfl, by omega, lec.trans (le₄.trans le₅), S₅, W₀.frame _ _ _ hW' fun b hb ob e => ?_, hp⟩
      rcases hfp b hb with rfl | ⟨oz, hz⟩
      · have e' : h'.get? b = some ob := e
        rw [ho'] at e'; cases e'
        exact S₅.hin _ _ Zadd.self
      · have e1 := St'.zin b oz (lec b oz hz)
        have e' : h'.get? b = some ob := e
        have e2 : h'.get? b = some oz := e1
        rw [e'] at e2; cases e2
        exact S₅.zin _ _ (le₅ _ _ (le₄ _ _ (lec _ _ hz)))
    cases hf with
    | next => exact nx hΦ
    | cont => exact nx hΦ
    | brk => exact ⟨Z₅, ρ₅, .next, les, S₅.unhold hB hC hH, .next, hΦ⟩
    | ret r => exact ⟨Z₅, ρ₅, .ret _, les, S₅.unhold hB hC hH, .ret r, hΦ⟩
  · have hlen : i = ds.length := by omega
    subst hlen
    refine wpAny_with_toks (Nat.le_refl s.toks) (W₀.done s _ _ hWi fun h' tk hk tok => ?_)
    refine wpAny_execs_nil ?_
    exact ⟨Zc, ρc, .next, x₁.le.trans lec, Sc.drop (t := tk) hB hC hH (fun b ob hb e => hk b ob (by simpa using hb) e) tok, .next, done _ hPi⟩

/-- a while, by a measure -/
theorem ex_while {t : PySem.Expr} {body : List Stmt} {Φ : Fl → Loc → Prop} (P : Nat → Loc → Prop) {m : Nat} (h0 : P m ρ)
    (turn : ∀ m ρ', P m ρ' → ∃ c, Tst G env n ρ' t c ∧ (c = true → Exs G env n ρ' body (LoopPost Φ fun ρ'' => ∃ k, k < m ∧ P k ρ'')) ∧ (c = false → Φ .next ρ')) : Ex G env n ρ (.While t body [] pos) Φ := by
  constructor
  intro A Z H s R S
  refine wpAny_While ?_
  refine codeAny_whileLoop (fun m s => ∃ Zc ρc, Zle Z Zc ∧ St G env Zc H ρc s ∧ P m ρc) (fun m s hm => ?_) m ⟨Z, ρ, Zle.same, S, h0⟩
  obtain ⟨Zc, ρc, lec, Sc, hp⟩ := hm
  obtain ⟨c, ht, h1, h2⟩ := turn m ρc hp
  refine wp_seq (ht.run A Zc H s R Sc) fun c' s₁ ⟨e, x⟩ => ?_
  subst e
  cases c' with
  | false => exact wpAny_execs_nil ⟨Zc, ρc, .next, lec, Sc.ext x, .next, h2 rfl⟩
  | true =>
    refine wp_seq ((h1 rfl).run A Zc H s₁ R (Sc.ext x)) fun f s₂ ⟨Z₂, ρ₂, fl, le₂, S₂, hf, hΦ⟩ => ?_
    cases hf with
    | next => obtain ⟨k, hk, hp⟩ := hΦ; exact ⟨k, hk, Z₂, ρ₂, lec.trans le₂, S₂, hp⟩
    | cont => obtain ⟨k, hk, hp⟩ := hΦ; exact ⟨k, hk, Z₂, ρ₂, lec.trans le₂, S₂, hp⟩
    | brk => exact ⟨Z₂, ρ₂, .next, lec.trans le₂, S₂, .next, hΦ⟩
    | ret r => exact ⟨Z₂, ρ₂, .ret _, lec.trans le₂, S₂, .ret r, hΦ⟩

/-- the text's def at an address -/
structure DefAt (G : Gnd) (a : Addr) (fd : FuncData) (body : List Stmt) : Prop where
  obj : ∃ o, G.K.lookup a = some o ∧ o.data = .func fd
  code : codeIn G.K fd.code fd.qualname = true
  body : fd.body = .stmts body
  closure : fd.closure = []
  gl : fd.globals = mainGlobals
  bl : fd.builtins = builtinsNs
  co : fd.scope.isCoroutine = false
  gen : fd.scope.isGenerator = false
  kind : fd.scope.kind = .function

theorem DefAt.keep {a : Addr} {fd : FuncData} {body : List Stmt} (D : DefAt G a fd body) : keepIn G.K (.ref a) = true := by
  obtain ⟨⟨oc, od, odt, osl⟩, h, e⟩ := D.obj
  unfold keepIn
  cases e
  simp only [h]

/-- the names that the parameters are, at the start -/
def startLoc : List Str → List D → Loc
  | x :: xs, d :: ds => (x, .val d) :: startLoc xs ds
  | _, _ => []

end
end Mine
end
section
open PySem PySem.W PyProof.Rows
set_option linter.unusedVariables false
namespace Mine

section
variable {G : Gnd} {env : Env} {Z Z' H : Zf} {ρ ρ' : Loc} {s s' : Shared} {A : Around} {E : Value → Shared → Prop} {n : Nat} {pos apos : Pos}

theorem bindL_skip {k : Str → Option NameKind} {x : Str} : ∀ {bs : List (Str × Value)} {m : Str → Option Value}, x ∉ bs.map (·.1) → bindL k bs m x = m x
  | [], _, _ => rfl
  | (y, v) :: r, m, h => by
    simp only [List.map_cons, List.mem_cons, not_or] at h
    unfold bindL
    rw [bindL_skip h.2]
    split
    · exact if_neg h.1
    · rfl
theorem bindL_get {k : Str → Option NameKind} {x : Str} {v : Value} (hk : k x = some .local) : ∀ {bs : List (Str × Value)} {m : Str → Option Value}, (bs.map (·.1)).Nodup → (x, v) ∈ bs → bindL k bs m x = some v
  | (y, w) :: r, m, hn, h => by
    simp only [List.map_cons, List.nodup_cons] at hn
    unfold bindL
    rcases List.mem_cons.mp h with e | h
    · cases e
      rw [bindL_skip hn.1, if_pos hk, if_pos rfl]
    · exact bindL_get hk hn.2 h
theorem bindC_skip {k : Str → Option NameKind} {x : Str} : ∀ {bs : List (Str × Value)} {m : Str → Option Value}, x ∉ bs.map (·.1) → bindC k bs m x = m x
  | [], _, _ => rfl
  | (y, v) :: r, m, h => by
    simp only [List.map_cons, List.mem_cons, not_or] at h
    unfold bindC
    rw [bindC_skip h.2]
    split
    · rfl
    · exact if_neg h.1
theorem bindC_get {k : Str → Option NameKind} {x : Str} {v : Value} (hk : k x = some .cell) : ∀ {bs : List (Str × Value)} {m : Str → Option Value}, (bs.map (·.1)).Nodup → (x, v) ∈ bs → bindC k bs m x = some v
  | (y, w) :: r, m, hn, h => by
    simp only [List.map_cons, List.nodup_cons] at hn
    unfold bindC
    rcases List.mem_cons.mp h with e | h
    · cases e
      rw [bindC_skip hn.1, if_neg (by rw [hk]; decide), if_pos rfl]
    · exact bindC_get hk hn.2 h

theorem startLoc_lookup {b : B} : ∀ {xs : List Str} {ds : List D} {vs : List Value} {x : Str}, RepAll G Z vs ds → xs.length = ds.length → (startLoc xs ds).lookup x = some b → ∃ v d, b = .val d ∧ (x, v) ∈ xs.zip vs ∧ Rep G Z v d
  | [], _, _, _, _, _, h => by simp [startLoc] at h
  | y :: xs, [], _, _, _, hl, _ => by simp at hl
  | y :: xs, d :: ds, v :: vs, x, .cons r rs, hl, h => by
    unfold startLoc at h
    rw [List.lookup_cons] at h
    by_cases q : x = y
    · subst q
      simp at h
      subst h
      exact ⟨v, d, rfl, by simp, r⟩
    · rw [beq_eq_false_iff_ne.mpr q] at h
      obtain ⟨v', d', e, hm, r'⟩ := startLoc_lookup rs (by simpa using hl) h
      exact ⟨v', d', e, by simp [hm], r'⟩

/-- what a call leaves, once its frame is gone -/
theorem ext_of_frame (b : Bs G Z s) (hZ' : Zle Z Z') (S : St G env Z' (fun a => if Z a = none then s.heap.get? a else none) ρ s') (ht : s.toks ≤ s'.toks) : Ext Z s Z' s' where
  le := hZ'
  keep := fun a o h => by
    cases q : Z a with
    | some o' =>
      have := b.zin a o' q
      rw [h] at this; cases this
      exact S.zin _ _ (hZ' _ _ q)
    | none => exact S.hin a o (by simp [q, h])
  zin := S.zin
  new := fun a o h => by
    cases q : Z a with
    | some o' => left; have := hZ' _ _ q; rw [h] at this; cases this; rfl
    | none =>
      right
      have := S.dj a o h
      simpa [q] using this
  gens := S.gens.trans b.gens.symm
  os := S.os.trans b.os.symm
  tk := ht

def RetPost (d : D) : Fl → Loc → Prop
  | .ret d', _ => d' = d
  | .next, _ => d = .none
  | _, _ => False

theorem fn_of {a : Addr} {fd : FuncData} {body : List Stmt} {xs : List Str} {ds : List D} {d : D} (D : DefAt G a fd body) (hb : ∀ vs : List Value, vs.length = xs.length → bindArgs fd ⟨vs, []⟩ = pure (xs.zip vs)) (hlen : xs.length = ds.length)
    (hx : ∀ x ∈ xs, fd.scope.names.lookup x = some .local ∨ (fd.scope.names.lookup x = some .cell ∧ ∀ k, ((cellsFrom k fd.scope.names []).lookup x).isSome = true)) (hnd : xs.Nodup)
    (h : ∀ L, Exs G (callEnvC fd L a) n (startLoc xs ds) body (RetPost d)) : Fn G (n + 1) a ds d := by
  constructor
  intro A Z s vs R b r
  obtain ⟨o, ho, hd⟩ := D.obj
  have hvl : vs.length = xs.length := r.length.trans hlen.symm
  have hmap : (xs.zip vs).map (·.1) = xs := by rw [List.map_fst_zip]; omega
  have hnd' : ((xs.zip vs).map (·.1)).Nodup := by rw [hmap]; exact hnd
  refine wp_tok ?_
  refine wpAny_call ?_
  refine codeAny_call_function (by have := R.depth; omega) (b.X _ _ ho) hd D.co D.gen D.body (codeRec_of b.X D.code) ?_
  rw [hb vs hvl, D.closure]
  refine wpAny_pure (wpAny_with_toks (Nat.le_refl s.toks) (wpAny_newFunctionEnv_cells D.kind (fun x hm => ?_) fun env he s₁ x tok => ?_))
  · have : x.1 ∈ xs := by rw [← hmap]; exact List.mem_map_of_mem hm
    rcases hx _ this with q | ⟨q, q'⟩
    · exact .inl q
    · exact .inr ⟨q, q' _⟩
  subst he
  have hcall := x.toInCall
  obtain ⟨h₁, tk, rfl, hk₁⟩ := x.done
  refine ⟨b.nolimit.keeps hcall.keep, codeAny_func ?_⟩
  have HZ : ∀ a' o', (if Z a' = none then s.heap.get? a' else none) = some o' → Z a' = none ∧ s.heap.get? a' = some o' := fun a' o' e => by
    split at e
    · rename_i q; exact ⟨q, e⟩
    · cases e
  have hLnone : s.heap.get? s.heap.objs.size = none := get?_size_none _
  have nz : ∀ c, s.heap.objs.size ≤ c → s.heap.get? c = none := fun c hc => by
    cases q : s.heap.get? c with
    | none => rfl
    | some ob => exact absurd (Heap.lt_size q) (Nat.not_lt.mpr hc)
  have nzZ : ∀ c, s.heap.objs.size ≤ c → Z c = none := fun c hc => by
    cases q : Z c with
    | none => rfl
    | some ob => have := b.zin c ob q; rw [nz c hc] at this; cases this
  have S₁ : St G (callEnvC fd s.heap.objs.size a) Z (fun a => if Z a = none then s.heap.get? a else none) (startLoc xs ds) { s with heap := h₁, toks := tk } := by
    refine ⟨D.kind, D.gl, D.bl, b.gens, b.os, Nat.lt_of_lt_of_le b.tk tok, fun a' o' e => hk₁ _ _ (b.zin _ _ e), fun a' o' e => hk₁ _ _ (HZ _ _ e).2, fun a' o' e => by simp [e], fun a' o' e => ?_, ⟨_, hcall.ns⟩, nzZ _ (Nat.le_refl _), ?_, fun y c e => ⟨?_, fun _ => ?_, fun hf => by cases hf⟩, ?_, fun y d' e => ?_, ?_⟩
    · have e' := b.bas _ _ e
      cases q : Z a' with
      | none => right; simp [q, e']
      | some ob => left; have := b.zin _ _ q; rw [e'] at this; cases this; rfl
    · show (if Z s.heap.objs.size = none then s.heap.get? s.heap.objs.size else none) = none
      rw [nzZ _ (Nat.le_refl _), if_pos rfl]; exact hLnone
    · exact Nat.ne_of_gt (x.above y c (mem_of_lookup e))
    · have hc : s.heap.objs.size ≤ c := Nat.le_of_lt (x.above y c (mem_of_lookup e))
      refine ⟨nzZ c hc, ?_, _, x.cell y c e⟩
      show (if Z c = none then s.heap.get? c else none) = none
      rw [nzZ c hc, if_pos rfl]; exact nz c hc
    · exact fun y z c e e' => name_of_addr x.apart (mem_of_lookup e) (mem_of_lookup e')
    · obtain ⟨v, d'', e', hm, r'⟩ := startLoc_lookup r hlen e
      cases e'
      have hxm : y ∈ xs := by rw [← hmap]; exact List.mem_map_of_mem hm
      refine ⟨v, ?_, r'⟩
      rcases hx y hxm with q | ⟨q, q'⟩
      · exact .inl ⟨q, _, hcall.ns, bindL_get (k := (callEnvC fd s.heap.objs.size a).kindOf) q hnd' hm⟩
      · obtain ⟨c, hc⟩ := Option.isSome_iff_exists.mp (q' (s.heap.objs.size + 1))
        refine .inr ⟨.inl q, c, hc, ?_⟩
        have := x.cell y c hc
        exact (bindC_get (k := (callEnvC fd s.heap.objs.size a).kindOf) q hnd' hm) ▸ this
    · refine ⟨fun _ => 0, fun y z es es' e => ?_, fun y es e => ?_⟩
      · obtain ⟨_, _, e', _⟩ := startLoc_lookup r hlen e; cases e'
      · obtain ⟨_, _, e', _⟩ := startLoc_lookup r hlen e; cases e'
  refine wp_seq ((h s.heap.objs.size).run _ Z _ _ R.deeper S₁) fun f s₂ ⟨Z₂, ρ₂, fl, le₂, S₂, hf, hΦ⟩ tok₂ => ?_
  cases hf with
  | next => cases hΦ; exact ⟨Z₂, ext_of_frame b le₂ S₂ tok₂, .none⟩
  | brk => exact hΦ.elim
  | cont => exact hΦ.elim
  | ret r' => cases hΦ; exact ⟨Z₂, ext_of_frame b le₂ S₂ tok₂, r'⟩

end
end Mine
end
section
open PySem PySem.W PyProof.Rows
set_option linter.unusedVariables false
namespace Mine

section
variable {G : Gnd} {env : Env} {Z Z' H H' : Zf} {ρ ρ' : Loc} {s s' : Shared} {A : Around} {E : Value → Shared → Prop} {n : Nat} {pos apos : Pos}

/-- what is known is forgotten -/
def Sub (ρ ρ' : Loc) : Prop := ∀ x b, ρ.lookup x = some b → ρ'.lookup x = some b
theorem St.weaken (S : St G env Z H ρ' s) (h : Sub ρ ρ') : St G env Z H ρ s :=
  { S with
    vars := fun x d e => S.vars x d (h x _ e)
    owns := let ⟨oa, hi, ho⟩ := S.owns; ⟨oa, fun x y ds es ex ey => hi x y ds es (h x _ ex) (h y _ ey), fun x ds e => ho x ds (h x _ e)⟩ }
theorem Sub.same : Sub ρ ρ := fun _ _ h => h
theorem Sub.trans {ρ'' : Loc} (a : Sub ρ ρ') (b : Sub ρ' ρ'') : Sub ρ ρ'' := fun x b' h => b x b' (a x b' h)
theorem sub_upd {x : Str} {b : B} (h : ρ.lookup x = none) : Sub ρ (upd ρ x b) := fun y c e => by
  rw [lookup_upd]
  rw [if_neg fun q => by rw [q, h] at e; cases e]
  exact e

/-- held objects are changed, or held anew, or no more -/
theorem St.shift (S : St G env Z H ρ s) {h' : Heap} {t : Nat} (T : Addr → Prop) (hT : ∀ a, T a → G.base.get? a = none ∧ (∀ y c, env.cells.lookup y = some c → c ≠ a) ∧ ((∃ o, H a = some o) ∨ s.heap.get? a = none))
    (hk : ∀ b ob, ¬ T b → s.heap.get? b = some ob → h'.get? b = some ob) (hH : ∀ b, ¬ T b → H' b = H b) (hH' : ∀ a o, T a → H' a = some o → h'.get? a = some o) (ht : s.toks ≤ t) : St G env Z H' ρ { s with heap := h', toks := t } := by
  have zT : ∀ a ob, Z a = some ob → ¬ T a := fun a ob h q => by
    rcases (hT a q).2.2 with ⟨o, e⟩ | e
    · have := S.dj a ob h; rw [e] at this; cases this
    · have := S.zin a ob h; rw [e] at this; cases this
  have nT : ∀ a ob, s.heap.get? a = some ob → H a = none → ¬ T a := fun a ob h hn q => by
    rcases (hT a q).2.2 with ⟨o, e⟩ | e
    · rw [hn] at e; cases e
    · rw [h] at e; cases e
  obtain ⟨m, oL, es, ep, eL, eL'⟩ := S.ns
  have lT := nT _ _ eL S.lh
  have cT : ∀ y c, env.cells.lookup y = some c → ¬ T c := fun y c e q => (hT c q).2.1 y c e rfl
  have has : ∀ y v, Has env s.heap y v → Has env h' y v := fun y v q => by
    rcases q with ⟨k, m, ⟨ob, es, ep, e1, e2⟩, e⟩ | ⟨k, c, e, ob, e1, e2⟩
    · exact .inl ⟨k, m, ⟨ob, es, ep, hk _ _ lT e1, e2⟩, e⟩
    · exact .inr ⟨k, c, e, ob, hk _ _ (cT y c e) e1, e2⟩
  refine ⟨S.fk, S.gl, S.bl, S.gens, S.os, Nat.lt_of_lt_of_le S.tk ht, fun a ob h => hk _ _ (zT a ob h) (S.zin a ob h), fun a ob h => ?_, fun a ob h => ?_, fun a ob h => ?_, ⟨m, oL, es, ep, hk _ _ lT eL, eL'⟩, S.lz, ?_, fun y c e => ?_, S.inj, fun y d e => ?_, ?_⟩
  · by_cases q : T a
    · exact hH' a ob q h
    · rw [hH a q] at h; exact hk _ _ q (S.hin a ob h)
  · rw [hH a (zT a ob h)]; exact S.dj a ob h
  · refine (S.bas a ob h).elim .inl fun q => .inr ?_
    rw [hH a fun z => by rw [(hT a z).1] at h; cases h]; exact q
  · rw [hH _ lT]; exact S.lh
  · obtain ⟨h0, h1, h2⟩ := S.cells y c e
    refine ⟨h0, fun hf => ?_, fun hf => ?_⟩
    · obtain ⟨a, b, v, ob, e1, e2⟩ := h1 hf
      exact ⟨a, by rw [hH _ (cT y c e)]; exact b, v, ob, hk _ _ (cT y c e) e1, e2⟩
    · obtain ⟨ob, h⟩ := h2 hf
      exact ⟨ob, by rw [hH _ (cT y c e)]; exact h⟩
  · obtain ⟨v, h, r⟩ := S.vars y d e; exact ⟨v, has y v h, r⟩
  · obtain ⟨oa, hi, h⟩ := S.owns
    refine ⟨oa, hi, fun y ds e => ?_⟩
    obtain ⟨g1, g2, g3, g4, g5, vs, k, g6, g7⟩ := h y ds e
    exact ⟨has _ _ g1, g2, by rw [hH _ (nT _ _ g6 g3)]; exact g3, g4, g5, vs, k, hk _ _ (nT _ _ g6 g3) g6, g7⟩

structure Tsts (G : Gnd) (env : Env) (n : Nat) (ρ : Loc) (ifs : List PySem.Expr) (ok : Bool) : Prop where
  run : ∀ A Z H s, Room n A → St G env Z H ρ s → wpAny (model G.prog G.w) A (forIn ifs true fun c r => if r = true then do let ok ← isTrue c env (eval c env); pure (ForInStep.yield ok) else pure (ForInStep.yield r)) (fun b s' => b = ok ∧ Ext Z s Z s') (fun _ _ => False) s
theorem tsts_nil : Tsts G env n ρ [] true := Tsts.mk fun A Z H s R S => wpAny_tests_nil ⟨rfl, S.same⟩
theorem tsts_one {c : PySem.Expr} {ok : Bool} (h : Tst G env n ρ c ok) : Tsts G env n ρ [c] ok := Tsts.mk fun A Z H s R S => wpAny_tests_one (h.run A Z H s R S)

/-- what stands while a comprehension's loop runs: its iterator and its list are held -/
structure CRun (G : Gnd) (env : Env) (n : Nat) (e : PySem.Expr) (k : Nat) (ρ : Loc) (ds : List D) (out : List D) : Prop where
  run : ∀ A Z H s I D fp P W vs m outs o, Room n A → St G env Z H ρ s → H I = some o → H D = some (listOf vs.toArray m) → I ≠ D → RepAll G Z vs outs → outs.length + out.length ≤ sizeLine →
    G.base.get? I = none → G.base.get? D = none → (∀ y c, env.cells.lookup y = some c → c ≠ I ∧ c ≠ D) →
    (∀ A' : Around, A'.handled = none → Walks G.prog G.w A' I fp [I] ds.length P W) → (∀ b ∈ fp, b = I ∨ ∃ o, Z b = some o) → W 0 s.heap → (∀ i h, W i h → ∃ o T, h.get? I = some o ∧ o.cls = .type T ∧ ownsTuples T = false) →
    (∀ i v, P i v → ∃ d, ds[i]? = some d ∧ Rep G Z v d) →
    codeAny (model G.prog G.w) A (.compLoop e k (.ref I) (.ref D) env) (fun r s' => r = .ok .next ∧ ∃ Z' H' vs' m', Zle Z Z' ∧ (∀ b, b ≠ I → b ≠ D → H' b = H b) ∧ H' I = none ∧ H' D = some (listOf vs'.toArray m') ∧
      St G env Z' H' ρ s' ∧ RepAll G Z' vs' (outs ++ out)) s

theorem comp_start {elt : PySem.Expr} {gens : List Comprehension} {g : Comprehension} {scope : Scope} {k : Nat} {it acc : Value} {R : Result → Shared → Prop} {prog : Program} {w : World} (hg : gens[k]? = some g) (ha : g.is_async = 0)
    (h0 : codeAny (model prog w) A (.compLoop (.ListComp elt gens scope pos) k it acc env) R s)
    (h : wpAny (model prog w) A (pyIter it) (fun it' s' => codeAny (model prog w) A (.compLoop (.ListComp elt gens scope pos) k it' acc env) R s') (notedBy (model prog w) A env fun x s' => R (.error x) s') s) :
    codeAny (model prog w) A (.compStart (.ListComp elt gens scope pos) k it acc env) R s := by
  refine codeAny_of_tree ?_
  show wpAny _ _ ((compStart (.ListComp elt gens scope pos) k it acc env).onRaise (fun x => do noteFrame x env; standAt theWindowsPlace)) _ _ s
  refine wpAny_notedAt ?_
  unfold compStart
  simp only [clausesOf, hg, Option.elim_some, ha]
  show wpAny _ _ (ask >>= _) _ _ s
  refine wpAny_bind (wpAny_askSetting (wpAny_ite ?_))
  split
  · exact wpAny_pure (And.intro rfl h0)
  · exact wpAny_bind (wpAny_rule (wpAny_bind (wpAny_standAt (wpAny_bind (wpAny_mono h (fun it' s' h' => wpAny_pure (And.intro rfl h')) fun _ _ x => x)))))

def CInv (G : Gnd) (env : Env) (ρ : Loc) (Z H : Zf) (I D : Addr) {α : Type} (xs : List α) (F : α → List Mine.D) (outs : List Mine.D) (W : Nat → Heap → Prop) (j : Nat) (s : Shared) : Prop :=
  ∃ (i : Nat) (Zc Hc : Zf) (vs : List Value) (m : Nat) (o : Obj), j = xs.length - i ∧ i ≤ xs.length ∧ Zle Z Zc ∧ (∀ b, b ≠ I → b ≠ D → Hc b = H b) ∧ Hc I = some o ∧ Hc D = some (listOf vs.toArray m) ∧ St G env Zc Hc ρ s ∧ W i s.heap ∧
    RepAll G Zc vs (outs ++ (xs.take i).flatMap F)
def OkThen (P : Shared → Prop) : Result → Shared → Prop
  | .ok _, s => P s
  | .error _, _ => False

/-- the last clause of a comprehension -/
theorem comp_last {elt tgt iter : PySem.Expr} {ifs : List PySem.Expr} {gens : List Comprehension} {scope : Scope} {k : Nat} {α : Type} {xs : List α} {mk : α → D} {F : α → List D}
    (he : ∀ it acc, compTurn (.ListComp elt gens scope pos) k it acc env = (do
      standAt iter.pos
      match ← pyNext it with
      | none => pure (.done .next)
      | some v =>
        letOwnedTupleGo tgt it v
        assign tgt env v
        let mut ok := true
        for c in ifs do
          if ok then ok ← isTrue c env (eval c env)
        if ok then
          (do let _ ← call (.builtin "list.append") [acc, ← eval elt env])
        again (.compLoop (.ListComp elt gens scope pos) k it acc env)))
    (item : ∀ a ∈ xs, ∃ ρ₁ ok, Asg G env tgt (mk a) ρ ρ₁ ∧ Sub ρ ρ₁ ∧ Tsts G env n ρ₁ ifs ok ∧ (ok = false → F a = []) ∧ (ok = true → ∃ x, Ev G env n ρ₁ elt x ∧ F a = [x])) :
    CRun G env n (.ListComp elt gens scope pos) k ρ (xs.map mk) (xs.flatMap F) := by
  constructor
  intro A Z H s I D fp P W vs m outs o R S hI hD hID hv hsz hBI hBD hC hW hfp hW0 hcls hP
  have W₀ := hW A R.handled
  refine codeAny_loop rfl (CInv G env ρ Z H I D xs F outs W) (fun j s hj => ?_) xs.length ⟨0, Z, H, vs, m, o, rfl, Nat.zero_le _, Zle.same, fun _ _ _ => rfl, hI, hD, S, hW0, by simpa using hv⟩
  obtain ⟨i, Zc, Hc, vs, m, o, rfl, hle, lec, hHc, hI, hD, Sc, hWi, hv⟩ := hj
  show wpAny _ A ((compTurn (.ListComp elt gens scope pos) k (.ref I) (.ref D) env).onRaise (fun x => do noteFrame x env; theTreesLotGoes x)) _ _ s
  refine wpAny_noted ?_
  rw [he]
  have len : (xs.map mk).length = xs.length := List.length_map ..
  by_cases hlt : i < xs.length
  · refine wpAny_bind (wpAny_standAt (wpAny_bind (wpAny_with_toks (Nat.le_refl s.toks) (W₀.item i s _ _ (by omega) hWi fun v h' tk pv hW' hk tok => ?_))))
    obtain ⟨d', hd', rv⟩ := hP i v pv
    obtain ⟨o', T, ho', hcT, hTT⟩ := hcls _ _ hW'
    obtain ⟨a, ha⟩ : ∃ a, xs[i]? = some a := ⟨xs[i], by simp [hlt]⟩
    have hd'' : d' = mk a := by rw [List.getElem?_map, ha] at hd'; simpa using hd'.symm
    subst hd''
    have S₁ : St G env Zc (Zadd Hc I o') ρ { s with heap := h', toks := tk } := Sc.shift (fun b => b = I) (fun b q => by subst q; exact ⟨hBI, fun y c e => (hC y c e).1, .inl ⟨_, hI⟩⟩) (fun b ob hb e => hk b ob (by simpa using hb) e)
      (fun b hb => if_neg hb) (fun b ob q e => by subst q; rw [Zadd.self] at e; cases e; exact ho') tok
    have hD₁ : Zadd Hc I o' D = some (listOf vs.toArray m) := by rw [show Zadd Hc I o' D = Hc D from if_neg (Ne.symm hID)]; exact hD
    refine wpAny_bind (wp_letOwned (s := { s with heap := h', toks := tk }) ho' hcT hTT ?_)
    obtain ⟨ρ₁, ok, hasg, hsub, htst, hno, hyes⟩ := item a (List.mem_of_getElem? ha)
    refine wpAny_bind (wp_seq (hasg.run A Zc _ _ v (R.less (Nat.zero_le _)) S₁ (rv.mono lec)) fun _ s₂ ⟨Z₂, le₂, S₂⟩ => ?_)
    refine wpAny_bind (wp_seq (htst.run A Z₂ _ s₂ R S₂) fun ok' s₃ ⟨eo, x₃⟩ => ?_)
    subst eo
    have S₃ := S₂.ext x₃
    have take_succ : (xs.take (i + 1)).flatMap F = (xs.take i).flatMap F ++ F a := by rw [List.take_add_one, ha]; simp
    have nextW : ∀ (Z₄ H₄ : Zf) (s₄ : Shared) (ρ₄ : Loc), Zle Zc Z₄ → H₄ I = some o' → St G env Z₄ H₄ ρ₄ s₄ → W (i + 1) s₄.heap := fun Z₄ H₄ s₄ ρ₄ le₄ hI₄ S₄ => W₀.frame _ _ _ hW' fun b hb ob e => by
      rcases hfp b hb with rfl | ⟨oz, hz⟩
      · rw [ho'] at e; cases e; exact S₄.hin _ _ hI₄
      · have e2 : h'.get? b = some oz := S₁.zin b oz (lec b oz hz)
        rw [e] at e2; cases e2
        exact S₄.zin _ _ (le₄ _ _ (lec _ _ hz))
    cases ok' with
    | false =>
      refine wpAny_pure ⟨rfl, xs.length - (i + 1), by omega, i + 1, Z₂, Zadd Hc I o', vs, m, o', rfl, by omega, lec.trans le₂, fun b h1 h2 => ?_, Zadd.self, hD₁, S₃.weaken hsub, nextW Z₂ _ s₃ ρ₁ le₂ Zadd.self S₃, ?_⟩
      · rw [show Zadd Hc I o' b = Hc b from if_neg h1]; exact hHc b h1 h2
      · rw [take_succ, hno rfl, List.append_nil]; exact hv.mono le₂
    | true =>
      obtain ⟨x, hx, hFx⟩ := hyes rfl
      refine wpAny_bind (wpAny_bind (wp_seq (hx.run A Z₂ _ s₃ R S₃) fun y s₄ ⟨Z₄, x₄, r₄⟩ => wpAny_bind ?_))
      have S₄ := S₃.ext x₄
      have oD := S₄.hin _ _ hD₁
      have hlenv : vs.length ≤ sizeLine := by
        have h1 := hv.length
        rw [List.length_append] at h1
        have h2 : ((xs.take i).flatMap F).length ≤ (xs.flatMap F).length := by
          conv => rhs; rw [← List.take_append_drop i xs, List.flatMap_append, List.length_append]
          omega
        omega
      refine append_at oD (fun h₅ hs₅ ho₅ => ?_) (by simpa using hlenv)
      have S₅ : St G env Z₄ (Zadd (Zadd Hc I o') D (listOf (vs ++ [y]).toArray (m + 1))) ρ₁ { s₄ with heap := h₅ } := S₄.shift (fun b => b = D) (fun b q => by subst q; exact ⟨hBD, fun y c e => (hC y c e).2, .inl ⟨_, hD₁⟩⟩)
        (fun b ob hb e => (hs₅.2 b hb).trans e) (fun b hb => if_neg hb) (fun b ob q e => by subst q; rw [Zadd.self] at e; cases e; rw [ho₅]; simp) (Nat.le_refl _)
      have hI₅ : Zadd (Zadd Hc I o') D (listOf (vs ++ [y]).toArray (m + 1)) I = some o' := by rw [show Zadd (Zadd Hc I o') D (listOf (vs ++ [y]).toArray (m + 1)) I = Zadd Hc I o' I from if_neg hID]; exact Zadd.self
      refine wpAny_pure (wpAny_pure ⟨rfl, xs.length - (i + 1), by omega, i + 1, Z₄, _, vs ++ [y], m + 1, o', rfl, by omega, lec.trans (le₂.trans x₄.le), fun b h1 h2 => ?_, hI₅, Zadd.self, S₅.weaken hsub, nextW Z₄ _ _ ρ₁ (le₂.trans x₄.le) hI₅ S₅, ?_⟩)
      · rw [show Zadd (Zadd Hc I o') D (listOf (vs ++ [y]).toArray (m + 1)) b = Zadd Hc I o' b from if_neg h2, show Zadd Hc I o' b = Hc b from if_neg h1]; exact hHc b h1 h2
      · rw [take_succ, hFx, ← List.append_assoc]; exact (hv.mono (le₂.trans x₄.le)).append (.cons r₄ .nil)
  · have hlen : i = xs.length := by omega
    subst hlen
    refine wpAny_bind (wpAny_standAt (wpAny_bind (wpAny_with_toks (Nat.le_refl s.toks) (W₀.done s _ _ (by rw [len]; exact hWi) fun h' tk hk tok => ?_))))
    refine wpAny_pure ⟨rfl, Zc, fun b => if b = I then none else Hc b, vs, m, lec, fun b h1 h2 => ?_, if_pos rfl, ?_, ?_, ?_⟩
    · exact (if_neg h1).trans (hHc b h1 h2)
    · exact (if_neg (Ne.symm hID)).trans hD
    · exact Sc.shift (fun b => b = I) (fun b q => by subst q; exact ⟨hBI, fun y c e => (hC y c e).1, .inl ⟨_, hI⟩⟩) (fun b ob hb e => hk b ob (by simpa using hb) e) (fun b hb => if_neg hb) (fun b ob q e => by have e' : (if b = I then none else Hc b) = some ob := e; rw [if_pos q] at e'; cases e') tok
    · rwa [List.take_length] at hv

/-- a clause with another one behind it -/
theorem comp_more {elt tgt iter iter' : PySem.Expr} {ifs : List PySem.Expr} {gens : List Comprehension} {g' : Comprehension} {scope : Scope} {k : Nat} {α : Type} {xs : List α} {mk : α → D} {F : α → List D} (hg : gens[k + 1]? = some g') (ha : g'.is_async = 0) (hi' : g'.iter = iter')
    (hf : ∀ x, foldedSetIterable iter' env x = pure x)
    (he : ∀ it acc, compTurn (.ListComp elt gens scope pos) k it acc env = (do
      standAt iter.pos
      match ← pyNext it with
      | none => pure (.done .next)
      | some v =>
        letOwnedTupleGo tgt it v
        assign tgt env v
        let mut ok := true
        for c in ifs do
          if ok then ok ← isTrue c env (eval c env)
        if ok then
          let x ← eval iter' env
          standAt iter'.pos
          let x ← foldedSetIterable iter' env x
          let _ ← runOwn (.compStart (.ListComp elt gens scope pos) (k + 1) (← holding [x] (pyIter x)) acc env) env
        again (.compLoop (.ListComp elt gens scope pos) k it acc env)))
    (item : ∀ a ∈ xs, ∃ ρ₁ ok, Asg G env tgt (mk a) ρ ρ₁ ∧ Sub ρ ρ₁ ∧ Tsts G env n ρ₁ ifs ok ∧ (ok = false → F a = []) ∧ (ok = true → ∃ d' ds', Ev G env n ρ₁ iter' d' ∧ Itr G d' ds' ∧ CRun G env n (.ListComp elt gens scope pos) (k + 1) ρ₁ ds' (F a))) :
    CRun G env n (.ListComp elt gens scope pos) k ρ (xs.map mk) (xs.flatMap F) := by
  constructor
  intro A Z H s I D fp P W vs m outs o R S hI hD hID hv hsz hBI hBD hC hW hfp hW0 hcls hP
  have W₀ := hW A R.handled
  refine codeAny_loop rfl (CInv G env ρ Z H I D xs F outs W) (fun j s hj => ?_) xs.length ⟨0, Z, H, vs, m, o, rfl, Nat.zero_le _, Zle.same, fun _ _ _ => rfl, hI, hD, S, hW0, by simpa using hv⟩
  obtain ⟨i, Zc, Hc, vs, m, o, rfl, hle, lec, hHc, hI, hD, Sc, hWi, hv⟩ := hj
  show wpAny _ A ((compTurn (.ListComp elt gens scope pos) k (.ref I) (.ref D) env).onRaise (fun x => do noteFrame x env; theTreesLotGoes x)) _ _ s
  refine wpAny_noted ?_
  rw [he]
  have len : (xs.map mk).length = xs.length := List.length_map ..
  by_cases hlt : i < xs.length
  · refine wpAny_bind (wpAny_standAt (wpAny_bind (wpAny_with_toks (Nat.le_refl s.toks) (W₀.item i s _ _ (by omega) hWi fun v h' tk pv hW' hk tok => ?_))))
    obtain ⟨d', hd', rv⟩ := hP i v pv
    obtain ⟨o', T, ho', hcT, hTT⟩ := hcls _ _ hW'
    obtain ⟨a, ha'⟩ : ∃ a, xs[i]? = some a := ⟨xs[i], by simp [hlt]⟩
    have hd'' : d' = mk a := by rw [List.getElem?_map, ha'] at hd'; simpa using hd'.symm
    subst hd''
    have S₁ : St G env Zc (Zadd Hc I o') ρ { s with heap := h', toks := tk } := Sc.shift (fun b => b = I) (fun b q => by subst q; exact ⟨hBI, fun y c e => (hC y c e).1, .inl ⟨_, hI⟩⟩) (fun b ob hb e => hk b ob (by simpa using hb) e)
      (fun b hb => if_neg hb) (fun b ob q e => by subst q; rw [Zadd.self] at e; cases e; exact ho') tok
    have hD₁ : Zadd Hc I o' D = some (listOf vs.toArray m) := by rw [show Zadd Hc I o' D = Hc D from if_neg (Ne.symm hID)]; exact hD
    refine wpAny_bind (wp_letOwned (s := { s with heap := h', toks := tk }) ho' hcT hTT ?_)
    obtain ⟨ρ₁, ok, hasg, hsub, htst, hno, hyes⟩ := item a (List.mem_of_getElem? ha')
    refine wpAny_bind (wp_seq (hasg.run A Zc _ _ v (R.less (Nat.zero_le _)) S₁ (rv.mono lec)) fun _ s₂ ⟨Z₂, le₂, S₂⟩ => ?_)
    refine wpAny_bind (wp_seq (htst.run A Z₂ _ s₂ R S₂) fun ok' s₃ ⟨eo, x₃⟩ => ?_)
    subst eo
    have S₃ := S₂.ext x₃
    have take_succ : (xs.take (i + 1)).flatMap F = (xs.take i).flatMap F ++ F a := by rw [List.take_add_one, ha']; simp
    have nextW : ∀ (Z₄ H₄ : Zf) (s₄ : Shared) (ρ₄ : Loc), Zle Zc Z₄ → H₄ I = some o' → St G env Z₄ H₄ ρ₄ s₄ → W (i + 1) s₄.heap := fun Z₄ H₄ s₄ ρ₄ le₄ hI₄ S₄ => W₀.frame _ _ _ hW' fun b hb ob e => by
      rcases hfp b hb with rfl | ⟨oz, hz⟩
      · rw [ho'] at e; cases e; exact S₄.hin _ _ hI₄
      · have e2 : h'.get? b = some oz := S₁.zin b oz (lec b oz hz)
        rw [e] at e2; cases e2
        exact S₄.zin _ _ (le₄ _ _ (lec _ _ hz))
    cases ok' with
    | false =>
      refine wpAny_pure ⟨rfl, xs.length - (i + 1), by omega, i + 1, Z₂, Zadd Hc I o', vs, m, o', rfl, by omega, lec.trans le₂, fun b h1 h2 => ?_, Zadd.self, hD₁, S₃.weaken hsub, nextW Z₂ _ s₃ ρ₁ le₂ Zadd.self S₃, ?_⟩
      · rw [show Zadd Hc I o' b = Hc b from if_neg h1]; exact hHc b h1 h2
      · rw [take_succ, hno rfl, List.append_nil]; exact hv.mono le₂
    | true =>
      obtain ⟨d', ds', hev, hitr, hrun⟩ := hyes rfl
      refine wpAny_bind (wp_seq (hev.run A Z₂ _ s₃ R S₃) fun y s₄ ⟨Z₄, x₄, r₄⟩ => wpAny_bind (wpAny_standAt (wpAny_bind (wpAny_of_eq (hf y) ?_))))
      have S₄ := S₃.ext x₄
      refine wpAny_bind (wpAny_holding (wp_seq (hitr.run A Z₄ s₄ y (R.less (Nat.zero_le _)) S₄.bs r₄) fun it s₅ ⟨I', fp', P', W', e, x₅, hI', hW₅, hfp', hW0', hcls', hP'⟩ => ?_))
      subst e
      obtain ⟨o₅, _, ho₅, _⟩ := hcls' 0 _ hW0'
      obtain ⟨S₅, hB', hH', hZ', hC'⟩ := S₄.hold x₅ hI' ho₅
      have oD := S₄.hin _ _ hD₁
      have oI := S₄.hin I o' Zadd.self
      have nID : I' ≠ D := fun q => by rw [← q, hI'] at oD; cases oD
      have nII : I' ≠ I := fun q => by rw [← q, hI'] at oI; cases oI
      have hD₅ : Zadd (Zadd Hc I o') I' o₅ D = some (listOf vs.toArray m) := by rw [show Zadd (Zadd Hc I o') I' o₅ D = Zadd Hc I o' D from if_neg (Ne.symm nID)]; exact hD₁
      have hI₅ : Zadd (Zadd Hc I o') I' o₅ I = some o' := by rw [show Zadd (Zadd Hc I o') I' o₅ I = Zadd Hc I o' I from if_neg (Ne.symm nII)]; exact Zadd.self
      have hlen : (outs ++ (xs.take i).flatMap F).length + (F a).length ≤ sizeLine := by
        rw [List.length_append]
        have h2 : ((xs.take (i + 1)).flatMap F).length ≤ (xs.flatMap F).length := by
          conv => rhs; rw [← List.take_append_drop (i + 1) xs, List.flatMap_append, List.length_append]
          omega
        rw [take_succ, List.length_append] at h2
        omega
      have loop := hrun.run A Z₄ _ s₅ I' D fp' P' W' vs m _ o₅ R S₅ Zadd.self hD₅ nID (hv.mono (le₂.trans x₄.le)) hlen hB' hBD (fun y c e => ⟨hC' y c e, (hC y c e).2⟩) hW₅ hfp' hW0' hcls' hP'
      have fin : ∀ (r : Result) (s' : Shared), (r = .ok .next ∧ ∃ Z' H' vs' m', Zle Z₄ Z' ∧ (∀ b, b ≠ I' → b ≠ D → H' b = Zadd (Zadd Hc I o') I' o₅ b) ∧ H' I' = none ∧ H' D = some (listOf vs'.toArray m') ∧ St G env Z' H' ρ₁ s' ∧ RepAll G Z' vs' ((outs ++ (xs.take i).flatMap F) ++ F a)) →
          OkThen (fun s' => ∃ m, m < xs.length - i ∧ CInv G env ρ Z H I D xs F outs W m s') r s' := by
        rintro r s' ⟨rfl, Z₆, H₆, vs₆, m₆, le₆, hH₆, hI₆', hD₆, S₆, hv₆⟩
        have hI₆ : H₆ I = some o' := by rw [hH₆ I (Ne.symm nII) hID]; exact hI₅
        refine ⟨xs.length - (i + 1), by omega, i + 1, Z₆, H₆, vs₆, m₆, o', rfl, by omega, lec.trans (le₂.trans (x₄.le.trans le₆)), fun b h1 h2 => ?_, hI₆, hD₆, S₆.weaken hsub, nextW Z₆ _ _ ρ₁ (le₂.trans (x₄.le.trans le₆)) hI₆ S₆, ?_⟩
        · by_cases q : b = I'
          · subst q
            rw [hI₆', ← hHc b h1 h2]
            cases q' : Hc b with
            | none => rfl
            | some ob =>
              have : Zadd Hc I o' b = some ob := by rw [show Zadd Hc I o' b = Hc b from if_neg h1]; exact q'
              rw [hH'] at this; cases this
          · rw [hH₆ b q h2, show Zadd (Zadd Hc I o') I' o₅ b = Zadd Hc I o' b from if_neg q, show Zadd Hc I o' b = Hc b from if_neg h1]; exact hHc b h1 h2
        · rw [take_succ, ← List.append_assoc]; exact hv₆
      refine wpAny_bind (wpAny_runOwn (h := none) (codeAny_mono (R := OkThen (fun s' => ∃ m, m < xs.length - i ∧ CInv G env ρ Z H I D xs F outs W m s')) (comp_start hg ha (codeAny_mono loop fin) ?_) fun r s' hr => ?_))
      · exact (hW₅ A R.handled).self 0 _ _ _ hW0' (codeAny_mono loop fin)
      · cases r with
        | ok f => exact wpAny_pure ⟨rfl, hr⟩
        | error e => exact hr.elim
  · have hlen : i = xs.length := by omega
    subst hlen
    refine wpAny_bind (wpAny_standAt (wpAny_bind (wpAny_with_toks (Nat.le_refl s.toks) (W₀.done s _ _ (by rw [len]; exact hWi) fun h' tk hk tok => ?_))))
    refine wpAny_pure ⟨rfl, Zc, fun b => if b = I then none else Hc b, vs, m, lec, fun b h1 h2 => ?_, if_pos rfl, ?_, ?_, ?_⟩
    · exact (if_neg h1).trans (hHc b h1 h2)
    · exact (if_neg (Ne.symm hID)).trans hD
    · exact Sc.shift (fun b => b = I) (fun b q => by subst q; exact ⟨hBI, fun y c e => (hC y c e).1, .inl ⟨_, hI⟩⟩) (fun b ob hb e => hk b ob (by simpa using hb) e) (fun b hb => if_neg hb) (fun b ob q e => by have e' : (if b = I then none else Hc b) = some ob := e; rw [if_pos q] at e'; cases e') tok
    · rwa [List.take_length] at hv

end
end Mine
end
section
open PySem PySem.W PyProof.Rows
set_option linter.unusedVariables false
namespace Mine

section
variable {G : Gnd} {env : Env} {Z Z' H H' : Zf} {ρ ρ' ρc : Loc} {s s' : Shared} {A : Around} {E : Value → Shared → Prop} {n : Nat} {pos apos : Pos}

/-- what must be so of a comprehension's scope, seen from the frame around -/
structure Scoped (env : Env) (scope : Scope) (cl : List (Str × Addr)) (ρ ρc : Loc) : Prop where
  kind : scope.kind = .function
  names : ∀ x ∈ scope.names, x.2 = .local → scope.names.lookup x.1 = some .local
  nocell : ∀ y ∈ scope.names, y.2 ≠ .cell
  clos : closureFor scope env = pure cl
  cells : ∀ x c, cl.lookup x = some c → env.cells.lookup x = some c
  cap : ∀ x b, ρc.lookup x = some b → (∃ d, b = .val d) ∧ ρ.lookup x = some b ∧ env.kindOf x ≠ some .local ∧ (∃ c, cl.lookup x = some c) ∧ ((relabel scope env).names.lookup x = some .cell ∨ ((relabel scope env).names.lookup x = some .free ∧ (x == ("__classdict__" : Str)) = false))

def CompPost (G : Gnd) (Z : Zf) (s : Shared) (out : List D) (acc : Value) (C : Addr) (r : Result) (s' : Shared) : Prop :=
  r = .ok .next ∧ ∃ Z', Ext Z s Z' s' ∧ Rep G Z' acc (.list out) ∧ s.heap.get? C = none ∧ Z' C = none ∧ ∃ m, s'.heap.Ns C m

theorem comp_core {elt : PySem.Expr} {g : Comprehension} {gs : List Comprehension} {scope : Scope} {cl : List (Str × Addr)} {d : D} {ds out : List D} (R : Room n A) (S : St G env Z H ρ s) (K : Scoped env scope cl ρ ρc) (ha : g.is_async = 0)
    (h : Ev G env n ρ g.iter d) (hi : Itr G d ds) (run : ∀ C, CRun G (compEnvC scope cl C env) n (.ListComp elt (g :: gs) scope pos) 0 ρc ds out) (hsz : out.length ≤ sizeLine) :
    wpAny (model G.prog G.w) A (eval g.iter env) (fun x s₁ => wpAny (model G.prog G.w) A (pyIter x) (fun it s₂ => wpAny (model G.prog G.w) A (newList []) (fun acc s₃ =>
      wpAny (model G.prog G.w) A (newFunctionEnv scope env.globals cl [] env.qual none .none (some env)) (fun cenv s₄ =>
        codeAny (model G.prog G.w) A (.compStart (.ListComp elt (g :: gs) scope pos) 0 it acc { cenv with scope := relabel scope env }) (CompPost G Z s out acc cenv.locals) s₄) E s₃) E s₂) E s₁) E s := by
  refine wp_seq (h.run A Z H s R S) fun v s₁ ⟨Z₁, x₁, r₁⟩ => ?_
  have S₁ := S.ext x₁
  refine wp_seq (hi.run A Z₁ s₁ v (R.less (Nat.zero_le _)) S₁.bs r₁) fun it s₂ ⟨I, fp, P, W, e, x₂, hI, hW, hfp, hW0, hcls, hP⟩ => ?_
  subst e
  have S₂ := S₁.ext x₂
  refine wpAny_newObj_type (wpAny_newFunctionEnv K.nocell (by intro y hy; simp at hy) (fun h₁ hns₁ hsb₁ => ?_) K.kind)
  dsimp only at hns₁ hsb₁ ⊢
  generalize hH2 : s₂.heap.push { cls := .type "list", dict := none, data := .seq ([] : List Value).toArray } = H2 at hns₁ hsb₁ ⊢
  have hC : H2.objs.size = s₂.heap.objs.size + 1 := by rw [← hH2, Heap.size_push]
  have oldC : ∀ b ob, s₂.heap.get? b = some ob → b ≠ H2.objs.size ∧ b ≠ s₂.heap.objs.size := fun b ob e => by
    have := Heap.lt_size e
    rw [hC]
    exact ⟨Nat.ne_of_lt (Nat.lt_succ_of_lt this), Nat.ne_of_lt this⟩
  have old : ∀ b o, s₂.heap.get? b = some o → h₁.get? b = some o := fun b o e => hsb₁.extBut b o (oldC b o e).1 (Heap.get?_push_of_some _ (hH2 ▸ Heap.get?_push_of_some _ e))
  have hDC : s₂.heap.objs.size ≠ H2.objs.size := by rw [hC]; exact Nat.ne_of_lt (Nat.lt_succ_self _)
  have hDo : h₁.get? s₂.heap.objs.size = some (listOf ([] : List Value).toArray 0) := hsb₁.extBut _ _ hDC (Heap.get?_push_of_some _ (hH2 ▸ Heap.get?_push_size _ rfl))
  have hCn : s₂.heap.get? H2.objs.size = none := by
    cases q : s₂.heap.get? H2.objs.size with
    | none => rfl
    | some ob => exact absurd rfl (oldC _ ob q).1
  have hDn : s₂.heap.get? s₂.heap.objs.size = none := get?_size_none _
  obtain ⟨oI, _, hoI, _⟩ := hcls 0 _ hW0
  have zn : ∀ b, s₂.heap.get? b = none → Z₁ b = none := fun b e => by
    cases q : Z₁ b with
    | none => rfl
    | some ob => have := S₂.zin b ob q; rw [e] at this; cases this
  have hIn : Z₁ I = none := by
    cases q : Z₁ I with
    | none => rfl
    | some ob => have := S₁.zin I ob q; rw [hI] at this; cases this
  let HH : Zf := fun b => if Z₁ b = none then (if b = H2.objs.size then none else h₁.get? b) else none
  have HHof : ∀ b ob, HH b = some ob → Z₁ b = none ∧ b ≠ H2.objs.size ∧ h₁.get? b = some ob := fun b ob e => by
    have e' : (if Z₁ b = none then (if b = H2.objs.size then none else h₁.get? b) else none) = some ob := e
    split at e'
    · rename_i q
      split at e'
      · cases e'
      · rename_i q'; exact ⟨q, q', e'⟩
    · cases e'
  have HHto : ∀ b ob, Z₁ b = none → b ≠ H2.objs.size → h₁.get? b = some ob → HH b = some ob := fun b ob q q' e => by
    show (if Z₁ b = none then (if b = H2.objs.size then none else h₁.get? b) else none) = some ob
    rw [if_pos q, if_neg q']; exact e
  have cellNew : ∀ x c, cl.lookup x = some c → Z₁ c = none ∧ ∃ ob, s₂.heap.get? c = some ob := fun x c e => by
    obtain ⟨_, h1, h2⟩ := S₂.cells x c (K.cells x c e)
    cases hf : env.func.isSome with
    | true => obtain ⟨a, _, v, ob, e1, _⟩ := h1 hf; exact ⟨a, ob, e1⟩
    | false =>
      obtain ⟨ob, e1⟩ := h2 hf
      refine ⟨?_, ob, S₂.hin c ob e1⟩
      cases q : Z₁ c with
      | none => rfl
      | some oz => have := S₂.dj c oz q; rw [e1] at this; cases this
  have SC : St G (compEnvC scope cl H2.objs.size env) Z₁ HH ρc { s₂ with heap := h₁, toks := s₂.toks + ([] : List (Str × Value)).length } := by
    refine ⟨K.kind, S₂.gl, S₂.bl, S₂.gens, S₂.os, S₂.tk, fun b ob e => old b ob (S₂.zin b ob e), fun b ob e => (HHof b ob e).2.2, fun b ob e => ?_, fun b ob e => ?_, ⟨_, hns₁⟩, zn _ hCn, ?_, fun x c e => ⟨?_, fun hf => (by cases hf), fun _ => ?_⟩, fun x y c e e' => S₂.inj x y c (K.cells x c e) (K.cells y c e'), fun x d' e => ?_, ?_⟩
    · show (if Z₁ b = none then (if b = H2.objs.size then none else h₁.get? b) else none) = none
      rw [if_neg (by rw [e]; intro q; cases q)]
    · have e2 := S₂.keepBase b ob e
      cases q : Z₁ b with
      | none => exact .inr (HHto b ob q (oldC b ob e2).1 (old b ob e2))
      | some oz => left; have := S₂.zin b oz q; rw [e2] at this; cases this; rfl
    · show (if Z₁ H2.objs.size = none then (if H2.objs.size = H2.objs.size then none else h₁.get? H2.objs.size) else none) = none
      rw [if_pos (zn _ hCn), if_pos rfl]
    · obtain ⟨_, ob, e1⟩ := cellNew x c e
      exact (oldC c ob e1).1
    · obtain ⟨hz, ob, e1⟩ := cellNew x c e
      exact ⟨ob, HHto c ob hz (oldC c ob e1).1 (old c ob e1)⟩
    · obtain ⟨_, e1, hk, ⟨c, hc⟩, hkd⟩ := K.cap x _ e
      obtain ⟨u, hu, ru⟩ := S₂.vars x d' e1
      refine ⟨u, ?_, ru⟩
      rcases hu with ⟨k, _⟩ | ⟨_, c', e2, n2⟩
      · exact absurd k hk
      · rw [K.cells x c hc] at e2; cases e2
        refine .inr ⟨hkd, c, hc, n2.keeps old⟩
    · refine ⟨fun _ => 0, fun x y es es' e => ?_, fun x es e => ?_⟩
      · obtain ⟨⟨_, e'⟩, _⟩ := K.cap x _ e; cases e'
      · obtain ⟨⟨_, e'⟩, _⟩ := K.cap x _ e; cases e'
  have nIC := (oldC I oI hoI).1
  have nID := (oldC I oI hoI).2
  have bn : ∀ b, s₁.heap.get? b = none → G.base.get? b = none := fun b e => by
    cases q : G.base.get? b with
    | none => rfl
    | some ob => have := S₁.keepBase b ob q; rw [e] at this; cases this
  have hDn₁ : s₁.heap.get? s₂.heap.objs.size = none := by
    cases q : s₁.heap.get? s₂.heap.objs.size with
    | none => rfl
    | some ob => rw [x₂.keep _ _ q] at hDn; cases hDn
  have loop := (run H2.objs.size).run A Z₁ HH _ I s₂.heap.objs.size fp P W [] 0 [] oI R SC (HHto I oI hIn nIC (old I oI hoI)) (HHto _ _ (zn _ hDn) hDC hDo) nID .nil (by simpa using hsz) (bn _ hI) (bn _ hDn₁)
    (fun x c e => by
      obtain ⟨hz, ob, e1⟩ := cellNew x c e
      refine ⟨fun q => ?_, (oldC c ob e1).2⟩
      obtain ⟨_, h1, h2⟩ := S₁.cells x c (K.cells x c e)
      cases hf : env.func.isSome with
      | true => obtain ⟨_, _, v, ob', e2, _⟩ := h1 hf; rw [q, hI] at e2; cases e2
      | false => obtain ⟨ob', e2⟩ := h2 hf; have := S₁.hin _ _ e2; rw [q, hI] at this; cases this)
    hW hfp ((hW A R.handled).frame _ _ _ hW0 fun b _ ob e => old b ob e) hcls hP
  have fin : ∀ (r : Result) (s' : Shared), (s₂.toks ≤ s'.toks ∧ r = .ok .next ∧ ∃ Z' H' vs' m', Zle Z₁ Z' ∧ (∀ b, b ≠ I → b ≠ s₂.heap.objs.size → H' b = HH b) ∧ H' I = none ∧ H' s₂.heap.objs.size = some (listOf vs'.toArray m') ∧
      St G (compEnvC scope cl H2.objs.size env) Z' H' ρc s' ∧ RepAll G Z' vs' ([] ++ out)) → CompPost G Z s out (.ref s₂.heap.objs.size) H2.objs.size r s' := by
    rintro r s' ⟨tok, rfl, Z', H', vs', m', le', hH', hI', hD', S', hv'⟩
    have hDz : Z' s₂.heap.objs.size = none := by
      cases q : Z' s₂.heap.objs.size with
      | none => rfl
      | some ob => have := S'.dj _ ob q; rw [hD'] at this; cases this
    have le := Zadd.le (o := listOf vs'.toArray m') hDz
    have keep : ∀ b ob, s₁.heap.get? b = some ob → b ≠ I ∧ b ≠ s₂.heap.objs.size ∧ b ≠ H2.objs.size := fun b ob e => by
      have e2 := x₂.keep b ob e
      exact ⟨fun q => (by rw [q, hI] at e; cases e), (oldC b ob e2).2, (oldC b ob e2).1⟩
    refine ⟨rfl, Zadd Z' s₂.heap.objs.size (listOf vs'.toArray m'), x₁.trans ⟨le'.trans le, fun b ob e => ?_, fun b ob e => ?_, fun b ob e => ?_, S'.gens.trans S₁.gens.symm, S'.os.trans S₁.os.symm, Nat.le_trans x₂.tk tok⟩, .list Zadd.self (hv'.mono le), ?_, ?_, S'.ns⟩
    · obtain ⟨q1, q2, q3⟩ := keep b ob e
      cases q : Z₁ b with
      | none => exact S'.hin b ob (by rw [hH' b q1 q2]; exact HHto b ob q q3 (old b ob (x₂.keep b ob e)))
      | some oz => have := S₁.zin b oz q; rw [e] at this; cases this; exact S'.zin b ob (le' b ob q)
    · by_cases q : b = s₂.heap.objs.size
      · subst q; rw [Zadd.self] at e; cases e; exact S'.hin _ _ hD'
      · rw [show Zadd Z' s₂.heap.objs.size (listOf vs'.toArray m') b = Z' b from if_neg q] at e
        exact S'.zin b ob e
    · by_cases q : b = s₂.heap.objs.size
      · subst q; exact .inr hDn₁
      · rw [show Zadd Z' s₂.heap.objs.size (listOf vs'.toArray m') b = Z' b from if_neg q] at e
        cases q1 : s₁.heap.get? b with
        | none => exact .inr rfl
        | some o1 =>
          left
          obtain ⟨p1, p2, p3⟩ := keep b o1 q1
          cases q2 : Z₁ b with
          | some oz => have := le' b oz q2; rw [e] at this; cases this; rfl
          | none =>
            have h1 := HHto b o1 q2 p3 (old b o1 (x₂.keep b o1 q1))
            have := S'.dj b ob e
            rw [hH' b p1 p2, h1] at this; cases this
    · cases q : s.heap.get? H2.objs.size with
      | none => rfl
      | some ob => have := x₂.keep _ _ (x₁.keep _ _ q); rw [hCn] at this; cases this
    · rw [show Zadd Z' s₂.heap.objs.size (listOf vs'.toArray m') H2.objs.size = Z' H2.objs.size from if_neg (Ne.symm hDC)]
      exact S'.lz
  have loop' := codeAny_mono (codeAny_toks_of (n := s₂.toks) (by exact Nat.le_add_right _ _) loop) fin
  exact comp_start rfl ha loop' ((hW A R.handled).self 0 _ _ _ ((hW A R.handled).frame _ _ _ hW0 fun b _ ob e => old b ob e) loop')

theorem eval_ListComp' (elt : PySem.Expr) (g : Comprehension) (gs : List Comprehension) (scope : Scope) (pos : Pos) (ha : g.is_async = 0) (use : Option (Value → Sem Unit)) :
    comprehension (.ListComp elt (g :: gs) scope pos) scope env (firstIterPos (g :: gs) pos) (newList []) (firstAsync (g :: gs)) (firstIter (g :: gs) env) use =
      comprehension (.ListComp elt (g :: gs) scope pos) scope env (firstIterPos (g :: gs) pos) (newList []) false (eval g.iter env) use := by
  obtain ⟨t, i, f, a⟩ := g
  subst ha
  rfl

theorem ev_listcomp {elt : PySem.Expr} {g : Comprehension} {gs : List Comprehension} {scope : Scope} {cl : List (Str × Addr)} {d : D} {ds out : List D} (K : Scoped env scope cl ρ ρc) (ha : g.is_async = 0) (hs : ∀ x, foldedSetIterable g.iter env x = pure x)
    (h : Ev G env n ρ g.iter d) (hi : Itr G d ds) (run : ∀ C, CRun G (compEnvC scope cl C env) n (.ListComp elt (g :: gs) scope pos) 0 ρc ds out) (hsz : out.length ≤ sizeLine) :
    Ev G env n ρ (.ListComp elt (g :: gs) scope pos) (.list out) := by
  constructor
  intro A Z H s R S
  unfold Yields
  rw [show eval (.ListComp elt (g :: gs) scope pos) env = _ from eval_ListComp' elt g gs scope pos ha none]
  refine wpAny_comprehension_free (use := none) rfl hs K.clos K.kind K.names (wpAny_mono (comp_core R S K ha h hi run hsz) (fun x s₁ h₁ => wpAny_mono h₁ (fun it s₂ h₂ => wpAny_mono h₂ (fun acc s₃ h₃ => wpAny_mono h₃ (fun cenv s₄ h₄ => codeAny_mono h₄ fun r s' hr => ?_) fun _ _ e => e) fun _ _ e => e) fun _ _ e => e) fun _ _ e => e)
  obtain ⟨rfl, Z', x, r, hC, hZC, m, hm⟩ := hr
  refine ⟨m, hm, fun h' hs' => ⟨Z', ⟨x.le, fun a o e => ?_, fun a o e => ?_, x.new, x.gens, x.os, x.tk⟩, r⟩⟩
  · exact hs'.extBut a o (fun q => by rw [q, hC] at e; cases e) (x.keep a o e)
  · exact hs'.extBut a o (fun q => by rw [q, hZC] at e; cases e) (x.zin a o e)

/-- y = [.. for .. in ..] on one line -/
theorem ex_assign_comp {y : Str} {py spos : Pos} {elt : PySem.Expr} {g : Comprehension} {gs : List Comprehension} {scope : Scope} {cl : List (Str × Addr)} {d : D} {ds out : List D} {Φ : Fl → Loc → Prop} (K : Scoped env scope cl ρ ρc) (ha : g.is_async = 0) (hs : ∀ x, foldedSetIterable g.iter env x = pure x)
    (hsw : swapsWith (.ListComp elt (g :: gs) scope pos) (some (.Name y py)) spos.line env = pure true)
    (h : Ev G env n ρ g.iter d) (hi : Itr G d ds) (run : ∀ C, CRun G (compEnvC scope cl C env) n (.ListComp elt (g :: gs) scope pos) 0 ρc ds out) (hsz : out.length ≤ sizeLine)
    (hc : Can env y) (k : Φ .next (upd ρ y (.val (.list out)))) : Ex G env n ρ (.Assign [.Name y py] (.ListComp elt (g :: gs) scope pos) spos) Φ := by
  constructor
  intro A Z H s R S
  rw [exec_Assign_Name_used _ _ _ _ hsw]
  refine wpAny_bind (wpAny_standAt (wpAny_bind ?_))
  show wpAny _ A (do let _ ← comprehension (.ListComp elt (g :: gs) scope pos) scope env (firstIterPos (g :: gs) pos) (newList []) (firstAsync (g :: gs)) (firstIter (g :: gs) env) (some (assign (.Name y py) env))) _ _ s
  rw [eval_ListComp' elt g gs scope pos ha (some (assign (.Name y py) env))]
  refine wpAny_bind (wpAny_mono (wpAny_comprehension_free (use := some (assign (.Name y py) env)) (Q := fun _ s' => ExPost G env Z H Φ .next s') rfl hs K.clos K.kind K.names
    (wpAny_mono (comp_core R S K ha h hi run hsz) (fun x s₁ h₁ => wpAny_mono h₁ (fun it s₂ h₂ => wpAny_mono h₂ (fun acc s₃ h₃ => wpAny_mono h₃ (fun cenv s₄ h₄ => codeAny_mono h₄ fun r s' hr => ?_) fun _ _ e => e) fun _ _ e => e) fun _ _ e => e) fun _ _ e => e)) (fun _ s' hq => wpAny_pure (wpAny_pure hq)) fun _ _ e => e)
  obtain ⟨rfl, Z', x, r, hC, hZC, m, hm⟩ := hr
  show wpAny _ A (assign (.Name y py) env acc) _ _ s'
  obtain ⟨oC, es, ep, hoC, hm'⟩ := id hm
  have S' := S.ext x
  have hB : G.base.get? cenv.locals = none := by
    cases q : G.base.get? cenv.locals with
    | none => rfl
    | some ob => have := S.keepBase _ ob q; rw [hC] at this; cases this
  have hH : H cenv.locals = none := by
    cases q : H cenv.locals with
    | none => rfl
    | some ob => have := S.hin _ ob q; rw [hC] at this; cases this
  have hCc : ∀ z c, env.cells.lookup z = some c → c ≠ cenv.locals := fun z c e q => by
    obtain ⟨_, h1, h2⟩ := S.cells z c e
    cases hf : env.func.isSome with
    | true => obtain ⟨_, _, v, ob', e2, _⟩ := h1 hf; rw [q, hC] at e2; cases e2
    | false => obtain ⟨ob', e2⟩ := h2 hf; have := S.hin _ _ e2; rw [q, hC] at this; cases this
  have hL : env.locals ≠ cenv.locals := fun q => by
    obtain ⟨m₀, o₀, _, _, e0, _⟩ := S.ns
    rw [q, hC] at e0; cases e0
  have SH : St G env Z' (Zadd H cenv.locals oC) ρ s' := by
    have ne : ∀ b, b ≠ cenv.locals → Zadd H cenv.locals oC b = H b := fun b hb => if_neg hb
    refine ⟨S'.fk, S'.gl, S'.bl, S'.gens, S'.os, S'.tk, S'.zin, fun a ob e => ?_, fun a ob e => ?_, fun a ob e => (S'.bas a ob e).elim .inl (fun q => .inr (Zadd.le hH _ _ q)), S'.ns, S'.lz, ?_, fun z c e => ?_, S'.inj, S'.vars, ?_⟩
    · by_cases q : a = cenv.locals
      · subst q; rw [Zadd.self] at e; cases e; exact hoC
      · rw [ne a q] at e; exact S'.hin a ob e
    · rw [ne a fun q => by rw [q, hZC] at e; cases e]; exact S'.dj a ob e
    · rw [ne _ hL]; exact S'.lh
    · obtain ⟨h0, h1, h2⟩ := S'.cells z c e
      refine ⟨h0, fun hf => ?_, fun hf => ?_⟩
      · obtain ⟨a, b, c'⟩ := h1 hf
        exact ⟨a, by rw [ne _ (hCc z c e)]; exact b, c'⟩
      · obtain ⟨ob, h⟩ := h2 hf
        exact ⟨ob, Zadd.le hH _ _ h⟩
    · obtain ⟨oa, hi, ho⟩ := S.owns
      refine ⟨oa, hi, fun z es e => ?_⟩
      obtain ⟨g1, g2, g3, g4, g5, vs, k, g6, g7⟩ := ho z es e
      exact ⟨g1.keeps x.keep, ext_none x g2 ⟨_, g6⟩, by rw [ne _ fun q => by rw [q, hC] at g6; cases g6]; exact g3, g4, g5, vs, k, x.keep _ _ g6, g7.mono x.le⟩
  refine wpAny_assign_Name (wp_seq (st_store SH r hc) fun _ s₅ S₅ => ?_)
  refine ⟨m, ⟨oC, es, ep, S₅.hin _ _ Zadd.self, hm'⟩, fun h₆ hs₆ => ?_⟩
  exact ⟨Z', _, .next, x.le, S₅.drop (t := s₅.toks) hB hCc hH (fun b ob hb e => (hs₆.2 b hb).trans e) (Nat.le_refl _), .next, k⟩

end
end Mine
end
section
open PySem PySem.W PyProof.Rows
set_option linter.unusedVariables false
namespace Mine

section
variable {G : Gnd} {env : Env} {Z Z' H H' : Zf} {ρ ρ' ρc : Loc} {s s' : Shared} {A : Around} {E : Value → Shared → Prop} {n : Nat} {pos apos : Pos}

theorem Bs.y {v : Value} {d : D} {t : Nat} (b : Bs G Z s) (ht : s.toks ≤ t) (r : Rep G Z v d) : ∃ Z', Ext Z s Z' { s with toks := t } ∧ Rep G Z' v d := ⟨Z, Ext.tok b.zin ht, r⟩

-- whole numbers
theorem op_add_int {a b : Int} : Op2 G (binaryOp .Add) (.int a) (.int b) (.int (a + b)) := Op2.mk fun A Z s v₁ v₂ R b r₁ r₂ => by cases r₁; cases r₂; exact add_int (b.y (Nat.le_succ _) (.int _ _))
theorem op_sub_int {a b : Int} : Op2 G (binaryOp .Sub) (.int a) (.int b) (.int (a - b)) := Op2.mk fun A Z s v₁ v₂ R b r₁ r₂ => by cases r₁; cases r₂; exact sub_int (b.y (Nat.le_succ _) (.int _ _))
theorem op_mul_int {a b : Int} (h : IntMulOk a b) : Op2 G (binaryOp .Mult) (.int a) (.int b) (.int (a * b)) := Op2.mk fun A Z s v₁ v₂ R b r₁ r₂ => by cases r₁; cases r₂; exact mul_int (b.y (Nat.le_succ _) (.int _ _)) h
theorem op_fdiv_int {a b : Int} (hb : b ≠ 0) (hp : Builtin.divisionGoesByPylong a b = false) : Op2 G (binaryOp .FloorDiv) (.int a) (.int b) (.int (a.fdiv b)) := Op2.mk fun A Z s v₁ v₂ R b r₁ r₂ => by cases r₁; cases r₂; exact floordiv_int hb (b.y (Nat.le_succ _) (.int _ _)) (.inl hp)
theorem op_mod_int {a b : Int} (hb : b ≠ 0) : Op2 G (binaryOp .Mod) (.int a) (.int b) (.int (a.fmod b)) := Op2.mk fun A Z s v₁ v₂ R b r₁ r₂ => by cases r₁; cases r₂; exact mod_int' hb (b.y (Nat.le_succ _) (.int _ _))
theorem op_iadd_int {a b : Int} : Op2 G (inplaceOp .Add) (.int a) (.int b) (.int (a + b)) := Op2.mk fun A Z s v₁ v₂ R b r₁ r₂ => by cases r₁; cases r₂; exact iadd_int (b.y (Nat.le_succ _) (.int _ _))
theorem op_eq_int {a b : Int} : Op2 G (compareOp .Eq) (.int a) (.int b) (.bool (a == b)) := Op2.mk fun A Z s v₁ v₂ R b r₁ r₂ => by cases r₁; cases r₂; exact eq_int ⟨Z, b.same, .bool _⟩
theorem op_ne_int {a b : Int} : Op2 G (compareOp .NotEq) (.int a) (.int b) (.bool (a != b)) := Op2.mk fun A Z s v₁ v₂ R b r₁ r₂ => by cases r₁; cases r₂; exact ne_int ⟨Z, b.same, .bool _⟩
theorem op_lt_int {a b : Int} : Op2 G (compareOp .Lt) (.int a) (.int b) (.bool (decide (a < b))) := Op2.mk fun A Z s v₁ v₂ R b r₁ r₂ => by cases r₁; cases r₂; exact lt_int ⟨Z, b.same, .bool _⟩
theorem op_gt_int {a b : Int} : Op2 G (compareOp .Gt) (.int a) (.int b) (.bool (decide (b < a))) := Op2.mk fun A Z s v₁ v₂ R b r₁ r₂ => by cases r₁; cases r₂; exact gt_int ⟨Z, b.same, .bool _⟩
theorem op_le_int {a b : Int} : Op2 G (compareOp .LtE) (.int a) (.int b) (.bool (decide (a ≤ b))) := Op2.mk fun A Z s v₁ v₂ R b r₁ r₂ => by cases r₁; cases r₂; exact le_int ⟨Z, b.same, .bool _⟩
theorem op_ge_int {a b : Int} : Op2 G (compareOp .GtE) (.int a) (.int b) (.bool (decide (b ≤ a))) := Op2.mk fun A Z s v₁ v₂ R b r₁ r₂ => by cases r₁; cases r₂; exact ge_int ⟨Z, b.same, .bool _⟩

-- texts
theorem op_add_str {x y : Str} (h : x.length + y.length ≤ sizeLine) : Op2 G (binaryOp .Add) (.str x) (.str y) (.str (x ++ y)) := Op2.mk fun A Z s v₁ v₂ R b r₁ r₂ => by cases r₁; cases r₂; exact wp_tok (add_str (fun t k tok => b.y tok (.str _ _)) h)
theorem op_iadd_str {x y : Str} (h : x.length + y.length ≤ sizeLine) : Op2 G (inplaceOp .Add) (.str x) (.str y) (.str (x ++ y)) := Op2.mk fun A Z s v₁ v₂ R b r₁ r₂ => by cases r₁; cases r₂; exact wp_tok (iadd_str (fun t k tok => b.y tok (.str _ _)) h)
theorem op_eq_str {x y : Str} : Op2 G (compareOp .Eq) (.str x) (.str y) (.bool (x == y)) := Op2.mk fun A Z s v₁ v₂ R b r₁ r₂ => by cases r₁; cases r₂; exact eq_str ⟨Z, b.same, .bool _⟩
theorem op_ne_str {x y : Str} : Op2 G (compareOp .NotEq) (.str x) (.str y) (.bool (x != y)) := Op2.mk fun A Z s v₁ v₂ R b r₁ r₂ => by cases r₁; cases r₂; exact ne_str ⟨Z, b.same, .bool _⟩
theorem op_lt_str {x y : Str} : Op2 G (compareOp .Lt) (.str x) (.str y) (.bool (decide (x.cps.toList < y.cps.toList))) := Op2.mk fun A Z s v₁ v₂ R b r₁ r₂ => by cases r₁; cases r₂; exact lt_str ⟨Z, b.same, .bool _⟩
/-- is the one text in the other -/
def tin (y x : Str) : Bool := !(Builtin.Str.occurrences x y 0 x.length 1).isEmpty
theorem op_in_str {x y : Str} : Op2 G (compareOp .In) (.str y) (.str x) (.bool (tin y x)) := Op2.mk fun A Z s v₁ v₂ R b r₁ r₂ => by cases r₁; cases r₂; exact PyProof.Rows.in_str ⟨Z, b.same, .bool _⟩
theorem op_notin_str {x y : Str} : Op2 G (compareOp .NotIn) (.str y) (.str x) (.bool (!tin y x)) := Op2.mk fun A Z s v₁ v₂ R b r₁ r₂ => by cases r₁; cases r₂; exact notIn_str ⟨Z, b.same, .bool _⟩

theorem bf_len_str {x : Str} (h : x.length ≤ sizeLine) : BF G "len" [.str x] (.int x.length) := BF.mk fun A Z s vs R b r => by
  cases r with | cons r rs => cases rs; cases r; exact SBL.len (by rw [sizeLine_eq] at h; omega) (b.y (by omega) (.int _ _))
theorem isList_of {a : Addr} {vs : List Value} {k : Nat} {h : Heap} (e : h.get? a = some (listOf vs.toArray k)) : h.IsList a vs.toArray := ⟨_, e, rfl, _, rfl⟩
theorem isTuple_of {a : Addr} {vs : List Value} {k : Nat} {h : Heap} (e : h.get? a = some { cls := .type "tuple", data := .seq vs.toArray k }) : h.IsTuple a vs.toArray := ⟨_, e, rfl, _, rfl⟩
theorem bf_len_list {ds : List D} (h : ds.length ≤ sizeLine) : BF G "len" [.list ds] (.int ds.length) := BF.mk fun A Z s vs R b r => by
  cases r with
  | cons r rs =>
    cases rs
    cases r with
    | list hz ra => exact len_list (isList_of (b.zin _ _ hz)) (by rw [List.size_toArray, ra.length]; rw [sizeLine_eq] at h; omega) (b.y (by omega) (by rw [List.size_toArray, ra.length]; exact .int _ _))
theorem bf_chr {i : Int} (h0 : 0 ≤ i) (h1 : i ≤ 1114111) : BF G "chr" [.int i] (.str ⟨#[i.toNat]⟩) := BF.mk fun A Z s vs R b r => by
  cases r with | cons r rs => cases rs; cases r; exact chr_of_range h0 h1 (b.y (Nat.le_succ _) (.str _ _))

-- truth
theorem tr_bool {b : Bool} : Tr G (.bool b) b := Tr.mk fun A Z s v R b r => by cases r; exact wpAny_truthy_bool ⟨rfl, b.same⟩

-- items
theorem slOk (slice : PySem.Expr) (o i : Value) : ∃ ops, subscripted slice false o i = operate ops (getItem o i) := by
  unfold subscripted
  split
  · exact ⟨_, rfl⟩
  · rename_i h; cases h
  · exact ⟨_, rfl⟩
theorem tail_all {value slice : PySem.Expr} {o i : Value} {T id : String} {Q : Value → Shared → Prop} (hT : s.TypeIs o T) (hl : typeLookup (.type T) "__getitem__" = pure (some (.builtin id))) (hg : wpAny (model G.prog G.w) A (getItem o i) Q E s) :
    wpAny (model G.prog G.w) A (subscriptTail value slice o i) Q E s := let ⟨_, e⟩ := slOk slice o i; tail_any hT hl hg e

theorem sb_str {value slice : PySem.Expr} {x : Str} {i : Int} {c : Nat} (h0 : 0 ≤ i) (hb : i < 2 ^ 63) (hc : x.cps[i.toNat]? = some c) : Sb G value slice (.str x) (.int i) (.str ⟨#[c]⟩) := Op2.mk fun A Z s v₁ v₂ R b r₁ r₂ => by
  cases r₁; cases r₂
  have hlt : i.toNat < x.cps.size := (Array.getElem?_eq_some_iff.mp hc).1
  have hl : x.length = x.cps.size := rfl
  refine tail_all (typeIs_str _ _ _) F.slot_str_getitem.lookup (PyProof.Rows.getItem_str (by simp; omega) ?_ (b.y (Nat.le_succ _) (.str _ _)))
  have e : seqIndex? i x.length = some i.toNat := by
    unfold seqIndex?
    have h1 : ¬ i < 0 := by omega
    have h2 : i < (x.length : Int) := by rw [hl]; omega
    simp [h1, h0, h2]
  rw [e]; exact hc
theorem sb_list {value slice : PySem.Expr} {ds : List D} {i : Int} {d : D} (h0 : 0 ≤ i) (h1 : i < 2 ^ 63) (hd : ds[i.toNat]? = some d) : Sb G value slice (.list ds) (.int i) d := Op2.mk fun A Z s v₁ v₂ R b r₁ r₂ => by
  cases r₂
  cases r₁ with
  | list hz ra =>
    obtain ⟨v, hv, rv⟩ := ra.get hd
    have hl := isList_of (b.zin _ _ hz)
    exact tail_all hl.typeIs slot_list_getitem.lookup (wpAny_getItem_list hl h0 h1 (by simpa using hv) ⟨Z, b.same, rv⟩)
theorem sb_list_neg {value slice : PySem.Expr} {ds : List D} {i : Int} {d : D} (h0 : i < 0) (h1 : -(2 ^ 63) ≤ i) (h2 : -(ds.length : Int) ≤ i) (hd : ds[(i + ds.length).toNat]? = some d) : Sb G value slice (.list ds) (.int i) d := Op2.mk fun A Z s v₁ v₂ R b r₁ r₂ => by
  cases r₂
  cases r₁ with
  | list hz ra =>
    obtain ⟨v, hv, rv⟩ := ra.get hd
    have hl := isList_of (b.zin _ _ hz)
    exact tail_all hl.typeIs slot_list_getitem.lookup (wpAny_getItem_list_neg hl h0 (by rw [List.size_toArray, ra.length]; exact h2) h1 (by rw [List.size_toArray, ra.length]; simpa using hv) ⟨Z, b.same, rv⟩)
theorem sb_tup {value slice : PySem.Expr} {ds : List D} {i : Int} {j : Nat} {d : D} (hlo : -(2 ^ 63) ≤ i) (hhi : i < 2 ^ 63) (hj : seqIndex? i ds.length = some j) (hd : ds[j]? = some d) : Sb G value slice (.tup ds) (.int i) d := Op2.mk fun A Z s v₁ v₂ R b r₁ r₂ => by
  cases r₂
  cases r₁ with
  | tup hz ra =>
    obtain ⟨v, hv, rv⟩ := ra.get hd
    have hl : IsTup s.heap _ _ := isTuple_of (b.zin _ _ hz)
    exact tail_all hl.typeIs slot_tuple_getitem.lookup (getItem_tuple hl hlo hhi (by rw [List.size_toArray, ra.length]; exact hj) (by simpa using hv) ⟨Z, b.same, rv⟩)

-- tables
def dget (ks : List Str) (ds : List D) (x : Str) : Option D := (ks.zip ds).lookup x
theorem dget_some : ∀ {kvs : List (Str × Value)} {ds : List D} {x : Str} {d : D}, RepAll G Z (kvs.map (·.2)) ds → dget (kvs.map (·.1)) ds x = some d → ∃ v, valueAt kvs x = some v ∧ Rep G Z v d
  | [], _, _, _, _, h => by simp [dget] at h
  | (k, v) :: kvs, _, x, d, .cons r rs, h => by
    unfold dget at h
    simp only [List.map_cons, List.zip_cons_cons, List.lookup_cons] at h
    by_cases q : x = k
    · subst q; simp at h; subst h; exact ⟨v, by simp [valueAt], r⟩
    · rw [beq_eq_false_iff_ne.mpr q] at h
      obtain ⟨w, e, rw'⟩ := dget_some rs h
      exact ⟨w, by simpa [valueAt, Ne.symm q] using e, rw'⟩
theorem dget_none : ∀ {kvs : List (Str × Value)} {ds : List D} {x : Str}, RepAll G Z (kvs.map (·.2)) ds → dget (kvs.map (·.1)) ds x = none → valueAt kvs x = none
  | [], _, _, _, _ => rfl
  | (k, v) :: kvs, _, x, .cons r rs, h => by
    unfold dget at h
    simp only [List.map_cons, List.zip_cons_cons, List.lookup_cons] at h
    by_cases q : x = k
    · subst q; simp at h
    · rw [beq_eq_false_iff_ne.mpr q] at h
      simpa [valueAt, Ne.symm q] using dget_none rs h
theorem dget_isSome {kvs : List (Str × Value)} {ds : List D} {x : Str} (r : RepAll G Z (kvs.map (·.2)) ds) : (valueAt kvs x).isSome = (dget (kvs.map (·.1)) ds x).isSome := by
  cases h : dget (kvs.map (·.1)) ds x with
  | none => rw [dget_none r h]; rfl
  | some d => obtain ⟨v, e, _⟩ := dget_some r h; rw [e]; rfl
theorem dictOf_of {a : Addr} {o : Obj} {h : Heap} {kvs : List (Str × Value)} (e : h.get? a = some o) (hd : o.IsDictOf (strKind G.prog G.w) kvs) : h.DictOf (strKind G.prog G.w) a kvs := Heap.dictOf_iff.mpr ⟨o, e, hd⟩
theorem op_in_dict {ks : List Str} {ds : List D} {x : Str} : Op2 G (compareOp .In) (.str x) (.dict ks ds) (.bool (dget ks ds x).isSome) := Op2.mk fun A Z s v₁ v₂ R b r₁ r₂ => by
  cases r₁
  cases r₂ with
  | dict hz hs hd ra => exact wpAny_in_of (strKind_is _ _ _ _) hs (dictOf_of (b.zin _ _ hz) hd).mapOf (b.y (Nat.le_succ _) (by rw [dget_isSome ra]; exact .bool _))
theorem op_notin_dict {ks : List Str} {ds : List D} {x : Str} : Op2 G (compareOp .NotIn) (.str x) (.dict ks ds) (.bool (!(dget ks ds x).isSome)) := Op2.mk fun A Z s v₁ v₂ R b r₁ r₂ => by
  cases r₁
  cases r₂ with
  | dict hz hs hd ra => exact wpAny_notIn_of (strKind_is _ _ _ _) hs (dictOf_of (b.zin _ _ hz) hd).mapOf (b.y (Nat.le_succ _) (by rw [dget_isSome ra]; exact .bool _))
theorem sb_dict {value slice : PySem.Expr} {ks : List Str} {ds : List D} {x : Str} {d : D} (h : dget ks ds x = some d) : Sb G value slice (.dict ks ds) (.str x) d := Op2.mk fun A Z s v₁ v₂ R b r₁ r₂ => by
  cases r₂
  cases r₁ with
  | dict hz hs hd ra =>
    obtain ⟨v, e, rv⟩ := dget_some ra h
    have hm := dictOf_of (b.zin _ _ hz) hd
    exact tail_all hm.typeIs slot_dict_getitem.lookup (wpAny_getItem_of (strKind_is _ _ _ _) hm.mapOf e (b.y (Nat.le_succ _) rv))
theorem bf_dict_get {ks : List Str} {ds : List D} {x : Str} {d : D} : BF G "dict.get" [.dict ks ds, .str x, d] ((dget ks ds x).getD d) := BF.mk fun A Z s vs R b r => by
  cases r with
  | cons r rs =>
    cases rs with
    | cons r₂ rs =>
      cases rs with
      | cons r₃ rs =>
        cases rs
        cases r₂
        cases r with
        | dict hz hs hd ra =>
          have hm := dictOf_of (b.zin _ _ hz) hd
          refine call_meetsIn PySem.F.slot_dict_get hm.typeIs PySem.F.entry_dict_get (PySem.F.args_dict_get_3 _ _ _) (meets_dict_get_default (strKind G.prog G.w) _ (strKind_is _ _ _ _) hs _) ⟨_, hm.mapOf, b.y (Nat.le_succ _) ?_⟩
          cases h : dget _ _ x with
          | none => rw [dget_none ra h]; exact r₃
          | some d' => obtain ⟨v, e, rv⟩ := dget_some ra h; rw [e]; exact rv

/-- a written table of texts -/
inductive ConstPairs : List (Option PySem.Expr) → List PySem.Expr → List (Str × Str) → Prop
  | nil : ConstPairs [] [] []
  | cons {k v : Str} {c c' : Nat} {p p' : Pos} {ks : List (Option PySem.Expr)} {vs : List PySem.Expr} {r : List (Str × Str)} : ConstPairs ks vs r → ConstPairs (some (.Constant (.str k) c p) :: ks) (.Constant (.str v) c' p' :: vs) ((k, v) :: r)
theorem const_shape {ks : List (Option PySem.Expr)} {vs : List PySem.Expr} {r : List (Str × Str)} (h : ConstPairs ks vs r) : ∃ pairs : List (Sem Value × Sem Value), pairs.length = r.length ∧ (pairs = [] → r = []) ∧
    (evalEachOpt ks env).zip ((evalEach vs env).map fun v => do let x ← v; standAt pos; pure x) = pairs.map (fun p => (some p.1, p.2)) ∧
    ∀ (M : Model) (prog : Program) (w : World) (A : Around) (E : Value → Shared → Prop) (s : Shared) (Q : List (Value × Value) → Shared → Prop),
      (∀ (us : List (Value × Value)) (kvs : List (Str × Value)) (t : Nat), s.toks ≤ t → Carries (strKind prog w) us kvs → kvs.map (·.1) = r.map (·.1) → (∀ Z, RepAll G Z (kvs.map (·.2)) (r.map fun p => .str p.2)) → us.length = r.length → Q us { s with toks := t }) →
      wpAny (model prog w) A (evalPairs pairs) Q E s := by
  induction h with
  | nil => exact ⟨[], rfl, fun _ => rfl, rfl, fun M prog w A E s Q h => evalPairs_nil (h [] [] s.toks (Nat.le_refl _) trivial rfl (fun _ => .nil) rfl)⟩
  | @cons k v c c' p p' ks vs r _ ih =>
    obtain ⟨pairs, hl, _, he, hw⟩ := ih
    refine ⟨(eval (.Constant (.str k) c p) env, (do let x ← eval (.Constant (.str v) c' p') env; standAt pos; pure x)) :: pairs, by simp [hl], fun h => (by cases h), ?_, fun M prog w A E s Q h => ?_⟩
    · show ((some (eval (.Constant (.str k) c p) env), _) :: _) = _
      rw [List.map_cons, ← he]
      rfl
    · refine evalPairs_cons (Calls.Constant_str (wpAny_bind (Calls.Constant_str (wpAny_bind (wpAny_standAt (wpAny_pure ?_))))))
      refine hw M prog w A E _ _ fun us kvs t ht hc hk hr hus => ?_
      refine h _ ((k, .str v (s.toks + 1)) :: kvs) t (by have : s.toks + 1 + 1 ≤ t := ht; omega) ⟨strKind_is _ _ _ _, rfl, hc⟩ (by simp [hk]) (fun Z => .cons (.str _ _) (hr Z)) (by simp [hus])

theorem merged_new {K : Type} [DecidableEq K] : ∀ (more acc : List (K × Value)), ((acc ++ more).map (·.1)).Nodup → merged acc more = acc ++ more
  | [], acc, _ => by simp [merged]
  | (k, v) :: more, acc, h => by
    have hk : acc.any (fun kv => kv.1 = k) = false := by
      rw [List.any_eq_false]
      intro kv hkv
      simp only [decide_eq_true_eq]
      intro q
      rw [List.map_append, List.nodup_append] at h
      exact h.2.2 kv.1 (List.mem_map_of_mem hkv) k (by simp) q
    have e : merged acc ((k, v) :: more) = merged (acc ++ [(k, v)]) more := by
      show merged (stored acc k v) more = _
      unfold stored
      rw [hk]; rfl
    rw [e, merged_new more (acc ++ [(k, v)]) (by simpa using h)]
    simp

theorem ev_dict {ks : List (Option PySem.Expr)} {vs : List PySem.Expr} {r : List (Str × Str)} (h : ConstPairs ks vs r) (h0 : r ≠ []) (hl : r.length ≤ 15) (hn : (r.map (·.1)).Nodup) : Ev G env n ρ (.Dict ks vs pos) (.dict (r.map (·.1)) (r.map fun p => .str p.2)) := by
  constructor
  intro A Z H s R S
  obtain ⟨pairs, hp, hp0, he, hw⟩ := const_shape (G := G) (env := env) (pos := pos) h
  refine wp_tok (wpAny_Dict_pairs (knd := strKind G.prog G.w) he (fun q => h0 (hp0 q)) (by omega) (hw ⟨denote table, G.prog, G.w⟩ G.prog G.w A _ _ _ fun us kvs t ht hc hk hr hus => ⟨kvs, hc, ?_, fun h' hd hs tok => ?_⟩))
  · exact Heap.dictOf_iff.mpr ⟨_, Heap.get?_push_size _ rfl, #[], 0, ⟨rfl, rfl, rfl⟩, rfl, fun e he => by simp at he, .nil, List.nodup_nil⟩
  · have hm : merged [] kvs = kvs := by rw [merged_new kvs [] (by simpa [hk] using hn)]; rfl
    rw [hm] at hd
    obtain ⟨o, ho, hod⟩ := Heap.dictOf_iff.mp hd
    have hlow : (s.heap.objs.size == sysModules) = false := by
      have := modules_low S.bs.nolimit
      rw [beq_eq_false_iff_ne]; exact Nat.ne_of_gt this
    have hZn : Z s.heap.objs.size = none := by
      cases q : Z s.heap.objs.size with
      | none => rfl
      | some ob => have := S.zin _ _ q; rw [get?_size_none] at this; cases this
    have le := Zadd.le (o := o) hZn
    have keep : ∀ b ob, s.heap.get? b = some ob → h'.get? b = some ob := fun b ob e => hs.extBut b ob (Nat.ne_of_lt (Heap.lt_size e)) (Heap.get?_push_of_some _ e)
    refine ⟨Zadd Z s.heap.objs.size o, ⟨le, keep, fun b ob e => ?_, fun b ob e => ?_, rfl, rfl, tok⟩, ?_⟩
    · by_cases q : b = s.heap.objs.size
      · subst q; rw [Zadd.self] at e; cases e; exact ho
      · rw [show Zadd Z s.heap.objs.size o b = Z b from if_neg q] at e; exact keep _ _ (S.zin _ _ e)
    · by_cases q : b = s.heap.objs.size
      · subst q; exact .inr (get?_size_none _)
      · rw [show Zadd Z s.heap.objs.size o b = Z b from if_neg q] at e; exact .inl e
    · rw [← hk]; exact .dict Zadd.self hlow hod (hr _)

end
end Mine
end
section
open PySem PySem.W PyProof.Rows
set_option linter.unusedVariables false
namespace Mine

section
variable {G : Gnd} {env : Env} {Z Z' H H' : Zf} {ρ ρ' ρc : Loc} {s s' : Shared} {A : Around} {E : Value → Shared → Prop} {n : Nat} {pos apos : Pos}

/-- an object is made that is not frozen -/
theorem Ext.push {o : Obj} {t : Nat} (hz : ∀ a o, Z a = some o → s.heap.get? a = some o) (ht : s.toks ≤ t) : Ext Z s Z { s with heap := s.heap.push o, toks := t } :=
  ⟨Zle.same, fun a ob h => Heap.get?_push_of_some _ h, fun a ob h => Heap.get?_push_of_some _ (hz a ob h), fun _ _ h => .inl h, rfl, rfl, ht⟩

-- what is gone through
theorem itr_list {ds : List D} : Itr G (.list ds) ds := Itr.mk fun A Z s v R b r => by
  cases r with
  | @list a vs k _ hz ra =>
    have hl := isList_of (b.zin _ _ hz)
    refine wpAny_pyIter_list hl ⟨s.heap.objs.size, [s.heap.objs.size, a], fun i v => vs.toArray[i]? = some v, fun i h => h.IsListIter s.heap.objs.size a i ∧ h.IsList a vs.toArray, rfl, Ext.push (t := s.toks) b.zin (Nat.le_refl _), get?_size_none _, fun A' hA => ?_, ?_, ?_, ?_, ?_⟩
    · have := Walks.list (prog := G.prog) (w := G.w) hA s.heap.objs.size a (fun q => by have := b.zin _ _ hz; rw [q, get?_size_none] at this; cases this) vs.toArray
      have e : vs.toArray.size = ds.length := by rw [List.size_toArray, ra.length]
      rwa [e] at this
    · intro c hc
      rcases List.mem_cons.mp hc with rfl | hc
      · exact .inl rfl
      · rw [List.mem_singleton] at hc; subst hc; exact .inr ⟨_, hz⟩
    · exact ⟨⟨_, Heap.get?_push_size _ rfl, rfl, rfl⟩, hl.push _⟩
    · rintro i h ⟨⟨o, ho, hc, _⟩, _⟩
      exact ⟨o, _, ho, hc, by decide⟩
    · intro i v hv
      have hv' : vs[i]? = some v := by simpa using hv
      have hlt : i < ds.length := by rw [← ra.length]; exact (List.getElem?_eq_some_iff.mp hv').1
      obtain ⟨w, hw, rw'⟩ := ra.get (i := i) (d := ds[i]) (by simp [hlt])
      rw [hv'] at hw; cases hw
      exact ⟨ds[i], by simp [hlt], rw'⟩

def charsOf (x : Str) : List D := x.cps.toList.map fun c => .str ⟨#[c]⟩
theorem itr_str {x : Str} : Itr G (.str x) (charsOf x) := Itr.mk fun A Z s v R b r => by
  cases r with
  | str x t =>
    have hlen : (charsOf x).length = x.cps.size := by simp [charsOf]
    have hP : ∀ i v, SignAt x i v → ∃ d, (charsOf x)[i]? = some d ∧ Rep G Z v d := by
      rintro i v ⟨c, u, hc, rfl⟩
      exact ⟨.str ⟨#[c]⟩, by simp [charsOf, hc], .str _ _⟩
    cases ha : x.cps.all (· < 128)
    · refine wpAny_pyIter_wide ha ⟨s.heap.objs.size, [s.heap.objs.size], SignAt x, fun i h => h.IsStrIter s.heap.objs.size "str_iterator" x t i, rfl, Ext.push (t := s.toks) b.zin (Nat.le_refl _), get?_size_none _, fun A' hA => ?_, fun c hc => .inl (by simpa using hc), ⟨_, Heap.get?_push_size _ rfl, rfl, rfl⟩, ?_, hP⟩
      · rw [hlen]; exact Walks.strWide hA _ x t
      · rintro i h ⟨o, ho, hc, _⟩; exact ⟨o, _, ho, hc, by decide⟩
    · refine wpAny_pyIter_ascii ha ⟨s.heap.objs.size, [s.heap.objs.size], SignAt x, fun i h => h.IsStrIter s.heap.objs.size "str_ascii_iterator" x t i, rfl, Ext.push (t := s.toks) b.zin (Nat.le_refl _), get?_size_none _, fun A' hA => ?_, fun c hc => .inl (by simpa using hc), ⟨_, Heap.get?_push_size _ rfl, rfl, rfl⟩, ?_, hP⟩
      · rw [hlen]; exact Walks.strAscii hA _ x t
      · rintro i h ⟨o, ho, hc, _⟩; exact ⟨o, _, ho, hc, by decide⟩

theorem itr_dict {ks : List Str} {ds : List D} : Itr G (.dict ks ds) (ks.map .str) := Itr.mk fun A Z s v R b r => by
  cases r with
  | @dict a o kvs _ hz hs hd ra =>
    have hd' := hd
    obtain ⟨es, ep, hx, hdat, hk, hp, hn⟩ := hd'
    have hm : s.heap.DictAt (strKind G.prog G.w) a kvs ep := ⟨o, es, b.zin _ _ hz, hx, hdat, hk, hp, hn⟩
    refine wpAny_pyIter_dict hs hm ⟨s.heap.objs.size, [s.heap.objs.size, a], fun i v => ∃ k x, kvs[i]? = some (k, x) ∧ (strKind G.prog G.w).is k v = true, fun i h => h.IsKeyIter s.heap.objs.size a i kvs.length ep ∧ h.DictAt (strKind G.prog G.w) a kvs ep, rfl, Ext.push (t := s.toks) b.zin (Nat.le_refl _), get?_size_none _, fun A' hA => ?_, ?_, ?_, ?_, ?_⟩
    · have := Walks.dictKeys (prog := G.prog) (w := G.w) (knd := strKind G.prog G.w) hA s.heap.objs.size a (fun q => by have := b.zin _ _ hz; rw [q, get?_size_none] at this; cases this) kvs ep
      simpa using this
    · intro c hc
      rcases List.mem_cons.mp hc with rfl | hc
      · exact .inl rfl
      · rw [List.mem_singleton] at hc; subst hc; exact .inr ⟨_, hz⟩
    · exact ⟨⟨_, Heap.get?_push_size _ rfl, rfl, rfl⟩, ⟨o, es, Heap.get?_push_of_some _ (b.zin _ _ hz), hx, hdat, hk, hp, hn⟩⟩
    · rintro i h ⟨⟨o, ho, hc, _⟩, _⟩
      exact ⟨o, _, ho, hc, by decide⟩
    · rintro i v ⟨k, x, hkx, hv⟩
      obtain ⟨t, rfl⟩ := Value.isStrOf_shape hv
      exact ⟨.str k, by simp [hkx], .str _ _⟩


theorem itr_rng {a b : Int} (ha : -(2 ^ 62) ≤ a) (ha' : a < 2 ^ 62) (hb : -(2 ^ 62) ≤ b) (hb' : b < 2 ^ 62) : Itr G (.rng a b) ((List.range (b - a).toNat).map fun (i : Nat) => .int (a + i)) := Itr.mk fun A Z s v R b' r => by
  cases r with
  | @rng x _ _ t u v hz =>
    have hr : IsRange s.heap x a b 1 t u v := b'.zin _ _ hz
    have hsz : Builtin.Range.rangeSize a b 1 = ((b - a).toNat : Int) := by rw [rangeSize_one]; split <;> omega
    refine wpAny_pyIter_range hr (small_one ha ha' hb hb') ⟨s.heap.objs.size, [s.heap.objs.size], fun i v => i < (b - a).toNat ∧ ∃ t, v = .int (a + i * 1) t, fun i h => IsRangeIter h s.heap.objs.size (a + (i : Nat) * 1) (((b - a).toNat : Int) - (i : Nat)) 1, rfl, Ext.push (t := s.toks) b'.zin (Nat.le_refl _), get?_size_none _, fun A' hA => ?_, fun c hc => .inl (by simpa using hc), ?_, ?_, ?_⟩
    · rw [List.length_map, List.length_range]
      exact walks_lt (Walks.range hA s.heap.objs.size a 1 (b - a).toNat)
    · have := Heap.get?_push_size s.heap (o := { cls := .type "range_iterator", data := .fields #[rawInt a, rawInt (Builtin.Range.rangeSize a b 1), rawInt 1] }) rfl
      rw [hsz] at this
      rw [hsz]
      simpa using this
    · intro i h hi; exact ⟨_, _, hi, rfl, by decide⟩
    · rintro i v ⟨hi, t, rfl⟩
      exact ⟨.int (a + i), by simp [hi], by rw [Int.mul_one]; exact .int _ _⟩
where walks_lt {prog : Program} {w : World} {A : Around} {I : Addr} {fp wr : List Addr} {n : Nat} {P : Nat → Value → Prop} {St : Nat → Heap → Prop} (W : Walks prog w A I fp wr n P St) : Walks prog w A I fp wr n (fun i v => i < n ∧ P i v) St :=
    ⟨W.sub, W.frame, fun i s Q E hi st hQ => W.item i s Q E hi st fun v h' tk p st' k => hQ v h' tk ⟨hi, p⟩ st' k, W.done, W.self⟩

theorem bt_range1 {b : Int} : BT G "range" [.int b] (.rng 0 b) := BT.mk fun A Z s vs R bs r => by
  cases r with | cons r rs => cases rs; cases r; exact call_range_1 ⟨_, Ext.alloc bs.zin rfl (by omega), .rng Zadd.self⟩
theorem bt_range2 {a b : Int} : BT G "range" [.int a, .int b] (.rng a b) := BT.mk fun A Z s vs R bs r => by
  cases r with | cons r rs => cases rs with | cons r₂ rs => cases rs; cases r; cases r₂; exact call_range_2 ⟨_, Ext.alloc bs.zin rfl (by omega), .rng Zadd.self⟩

-- cuts
theorem ev_slice {l u : Option PySem.Expr} {lo hi : Option Int} (hl : match l, lo with | none, none => True | some e, some i => Ev G env n ρ e (.int i) | _, _ => False)
    (hu : match u, hi with | none, none => True | some e, some i => Ev G env n ρ e (.int i) | _, _ => False) : Ev G env n ρ (.Slice l u none pos) (.slc lo hi) := by
  constructor
  intro A Z H s R S
  have part : ∀ (e : Option PySem.Expr) (i : Option Int), (match e, i with | none, none => True | some e, some i => Ev G env n ρ e (.int i) | _, _ => False) → ∀ Z₁ s₁, St G env Z₁ H ρ s₁ →
      wpAny (model G.prog G.w) A (valueOrNone (evalOpt e env)) (fun v s' => ∃ Z', Ext Z₁ s₁ Z' s' ∧ IsPart v i) (fun _ _ => False) s₁ := by
    intro e i h Z₁ s₁ S₁
    cases e <;> cases i <;> first | exact h.elim | skip
    · exact wpAny_pure ⟨Z₁, S₁.same, .none⟩
    · exact wp_seq (h.run A Z₁ H s₁ R S₁) fun v s' ⟨Z', x, r⟩ => by cases r; exact ⟨Z', x, .int _ _⟩
  show wpAny _ _ (do
    let l ← valueOrNone (evalOpt l env)
    let u ← holding [l] (valueOrNone (evalOpt u env))
    let s ← holding [l, u] (valueOrNone (evalOpt none env))
    newFields "slice" [l, u, s]) _ _ _
  refine wpAny_bind (wp_seq (part l lo hl Z s S) fun vl s₁ ⟨Z₁, x₁, p₁⟩ => wpAny_bind (wpAny_holding (wp_seq (part u hi hu Z₁ s₁ (S.ext x₁)) fun vu s₂ ⟨Z₂, x₂, p₂⟩ => wpAny_bind (wpAny_holding (wpAny_pure ?_)))))
  refine wpAny_newObj_type ⟨_, x₁.trans (x₂.trans (Ext.alloc (t := s₂.toks) ((S.ext x₁).ext x₂).zin rfl (Nat.le_refl _))), .slc Zadd.self p₁ p₂⟩

theorem sb_slice_str {value slice : PySem.Expr} {x : Str} {lo hi : Option Int} (hn : x.length ≤ sizeLine) : Sb G value slice (.str x) (.slc lo hi) (.str (Txt.slice x lo hi)) := Op2.mk fun A Z s v₁ v₂ R b r₁ r₂ => by
  cases r₁ with
  | str x t =>
    cases r₂ with
    | @slc a vl vu _ _ hz pl pu =>
      have go : ∀ (l u : Option (Int × Tok)), vl = partValue l → vu = partValue u → lo = l.map (·.1) → hi = u.map (·.1) → wpAny (model G.prog G.w) A (getItem (.str x t) (.ref a)) (fun v s' => ∃ Z', Ext Z s Z' s' ∧ Rep G Z' v (.str (Txt.slice x lo hi))) (fun _ _ => False) s := by
        rintro l u rfl rfl rfl rfl
        exact wp_tok (wpAny_getItem_str_slice (st := none) ⟨_, b.zin _ _ hz, rfl, rfl⟩ rfl (post_val_or_str ⟨Nat.le_trans (Txt.slice_le x _ _) hn, fun t' k tok => b.y tok (.str _ _)⟩))
      refine tail_all (typeIs_str _ _ _) F.slot_str_getitem.lookup ?_
      cases pl with
      | none => cases pu with
        | none => exact go none none rfl rfl rfl rfl
        | int j u => exact go none (some (j, u)) rfl rfl rfl rfl
      | int i t' => cases pu with
        | none => exact go (some (i, t')) none rfl rfl rfl rfl
        | int j u => exact go (some (i, t')) (some (j, u)) rfl rfl rfl rfl

end
end Mine
end
section
open PySem PySem.W PyProof.Rows PySem.Builtin PySem.Builtin.Str
set_option linter.unusedVariables false
set_option maxRecDepth 100000
namespace Mine

section
variable {G : Gnd} {env : Env} {Z Z' H H' : Zf} {ρ ρ' ρc : Loc} {s s' : Shared} {A : Around} {E : Value → Shared → Prop} {n : Nat} {pos apos : Pos}

-- rows of texts
abbrev txs (xs : List Str) : List D := xs.map .str
theorem repAll_strs : ∀ (l : List (Str × Tok)), RepAll G Z (strValues l) (txs (l.map (·.1)))
  | [] => .nil
  | _ :: r => .cons (.str _ _) (repAll_strs r)
theorem strs_of_repAll : ∀ {vs : List Value} {xs : List Str}, RepAll G Z vs (txs xs) → ∃ l, strValues l = vs ∧ l.map (·.1) = xs
  | [], [], _ => ⟨[], rfl, rfl⟩
  | v :: vs, x :: xs, .cons r rs => by
    obtain ⟨l, e1, e2⟩ := strs_of_repAll rs
    cases r with
    | str _ t => exact ⟨(x, t) :: l, by rw [← e1]; rfl, by rw [← e2]; rfl⟩
theorem ints_of_repAll : ∀ {vs : List Value} {xs : List Int}, RepAll G Z vs (xs.map .int) → ∃ l : List (Int × Tok), l.map (fun p => Value.int p.1 p.2) = vs ∧ l.map (·.1) = xs
  | [], [], _ => ⟨[], rfl, rfl⟩
  | v :: vs, x :: xs, .cons r rs => by
    obtain ⟨l, e1, e2⟩ := ints_of_repAll rs
    cases r with
    | int _ t => exact ⟨(x, t) :: l, by rw [← e1]; rfl, by rw [← e2]; rfl⟩
theorem strs_made {l : List (Str × Tok)} {xs : List Str} {k t : Nat} (b : Bs G Z s) (hl : l.map (·.1) = xs) (ht : s.toks ≤ t) :
    ∃ Z', Ext Z s Z' { s with heap := s.heap.push { cls := .type "list", data := .seq (strValues l).toArray k }, toks := t } ∧ Rep G Z' (.ref s.heap.objs.size) (.list (txs xs)) :=
  ⟨_, Ext.alloc b.zin rfl ht, by subst hl; exact .list Zadd.self (repAll_strs l)⟩

-- methods of texts
theorem getm_str {name : Str} {id : String} {x : Str} (slot : Slot "str" name id) (hty : typeOf (.builtin id) = pure (.type "method_descriptor")) : GetM G name (.str x) id :=
  GetM.mk fun M A pl Z s v Q E hz r h => by cases r; exact getMethod_builtin (typeIs_str _ _ _) F.plainAttrs_str slot hty (fun a e => (by cases e)) h

theorem bf_count {x y : Str} : BF G "str.count" [.str x, .str y] (.int (Txt.count x y)) := BF.mk fun A Z s vs R b r => by
  cases r with | cons r rs => cases rs with | cons r₂ rs => cases rs; cases r; cases r₂; exact SC.count (b.y (Nat.le_succ _) (.int _ _))
theorem bf_startswith {x y : Str} : BF G "str.startswith" [.str x, .str y] (.bool (Txt.startswith x y)) := BF.mk fun A Z s vs R b r => by
  cases r with | cons r rs => cases rs with | cons r₂ rs => cases rs; cases r; cases r₂; exact SC.startswith ⟨Z, b.same, .bool _⟩
theorem bf_startswith3 {x y : Str} {i : Int} : BF G "str.startswith" [.str x, .str y, .int i] (.bool (Txt.startswith3 x y i)) := BF.mk fun A Z s vs R b r => by
  cases r with | cons r rs => cases rs with | cons r₂ rs => cases rs with | cons r₃ rs => cases rs; cases r; cases r₂; cases r₃; exact SC.startswith3 ⟨Z, b.same, .bool _⟩
theorem bf_find3 {x y : Str} {i : Int} : BF G "str.find" [.str x, .str y, .int i] (.int (Txt.find3 x y i)) := BF.mk fun A Z s vs R b r => by
  cases r with | cons r rs => cases rs with | cons r₂ rs => cases rs with | cons r₃ rs => cases rs; cases r; cases r₂; cases r₃; exact SC.find3 (b.y (Nat.le_succ _) (.int _ _))
theorem bf_join {x : Str} {xs : List Str} (hok : JoinOk x xs = true) : BF G "str.join" [.str x, .list (txs xs)] (.str (Txt.join x xs)) := BF.mk fun A Z s vs R b r => by
  cases r with
  | cons r rs =>
    cases rs with
    | cons r₂ rs =>
      cases rs; cases r
      cases r₂ with
      | list hz ra =>
        obtain ⟨l, e1, e2⟩ := strs_of_repAll ra
        subst e1
        exact wp_tok (SC.join (isList_of (b.zin _ _ hz)) e2 hok fun t' k tok => b.y tok (.str _ _))
theorem bf_split {x y : Str} (hy : (y.length == 0) = false) (hsz : x.length + 2 ≤ sizeLine) : BF G "str.split" [.str x, .str y] (.list (txs (Txt.split x y))) := BF.mk fun A Z s vs R b r => by
  cases r with
  | cons r rs =>
    cases rs with
    | cons r₂ rs =>
      cases rs
      cases r with
      | str x t =>
        cases r₂ with
        | str y u =>
          have hsz2 : (partsBetween x (occurrences x y 0 x.length (x.length + 1)) y.length).length ≤ sizeLine := by
            rw [length_partsBetween]
            have e := StrLaws.occ_length_le x y 0 x.length (x.length + 1)
            omega
          refine wp_tok ?_
          cases h1 : (decide (x.length < y.length) || decide (strKind x < strKind y))
          · cases hf : (occurrences x y 0 x.length (x.length + 1)).isEmpty
            · refine call_meets F.slot_str_split (typeIs_str _ _ _) F.entry_str_split (F.args_str_split_2 _ _) (meets_str_split_sep x y t u h1 hy hf (by omega) hsz2) ?_
              show wants _ _ _ { s with toks := _, heap := s.heap.push { cls := .type "list", data := .seq (strsFrom s.toks (partsBetween x (occurrences x y 0 x.length (x.length + 1)) y.length)).toArray } }
              rw [strsFrom_eq]
              exact fun tok => strs_made b ((numbered_texts _ _).trans ((if_neg (ne_true_of_eq_false h1)).trans (if_neg (ne_true_of_eq_false hf))).symm) tok
            · exact call_meets F.slot_str_split (typeIs_str _ _ _) F.entry_str_split (F.args_str_split_2 _ _) (meets_str_split_not_found x y t u h1 hy hf)
                (fun tok => strs_made (l := [(x, t)]) b ((if_neg (ne_true_of_eq_false h1)).trans (if_pos hf)).symm tok)
          · exact call_meets F.slot_str_split (typeIs_str _ _ _) F.entry_str_split (F.args_str_split_2 _ _) (meets_str_split_cannot_occur x y t u h1)
              (fun tok => strs_made (l := [(x, t)]) b (if_pos h1).symm tok)

/-- x.replace('..', '..') with two written texts -/
theorem ev_replace {o : PySem.Expr} {x y z : Str} {c c' : Nat} {p p' : Pos} {pl : Sem Bool} (ho : Ev G env n ρ o (.str x)) (hb : x.length + (x.length + 1) * z.length ≤ 16777216)
    (he : eval (.Call (.Attribute o "replace" apos) [.Constant (.str y) c p, .Constant (.str z) c' p'] [] pos) env = (do
      let ov ← eval o env
      standAt apos.atName
      let (f, first) ← holding [ov] (getMethod ov "replace" pl)
      callWith pos f first (backTo pos (starEach [.Constant (.str y) c p, .Constant (.str z) c' p'] env)) [])) :
    Ev G env n ρ (.Call (.Attribute o "replace" apos) [.Constant (.str y) c p, .Constant (.str z) c' p'] [] pos) (.str (Txt.replace x y z)) := by
  constructor
  intro A Z H s R S
  refine MethodCall_ (wp_seq (ho.run A Z H s R S) fun v s₁ ⟨Z₁, x₁, r₁⟩ => ?_) he
  have S₁ := S.ext x₁
  cases r₁ with
  | str x t =>
    refine getMethod_builtin (typeIs_str _ _ _) F.plainAttrs_str F.slot_str_replace F.type_str_replace (fun a e => (by cases e)) ?_
    refine Calls.callWith_builtin rfl (wp_evalArgs rfl (spliced_more (Calls.Constant_str (spliced_more (Calls.Constant_str (spliced_none ?_))))))
    have tk := S₁.tk
    refine wpAny_with_toks (n := s₁.toks) (by show s₁.toks ≤ s₁.toks + 1 + 1; omega) (SC.replaceA (s := { s₁ with toks := s₁.toks + 1 + 1 }) (by show s₁.toks ≠ 0; omega) (by show s₁.toks + 1 ≠ 0; omega) (by show s₁.toks ≠ s₁.toks + 1; omega) hb (fun t' k tok => ⟨Z₁, x₁.trans (Ext.tok S₁.zin tok), .str _ _⟩) S₁.bs.nb)

/-- try, where nothing is raised -/
theorem ex_try {body : List Stmt} {h₀ : ExceptHandler} {hs : List ExceptHandler} {Φ : Fl → Loc → Prop} (h : Exs G env n ρ body Φ) : Ex G env n ρ (.Try body (h₀ :: hs) [] [] pos) Φ :=
  Ex.mk fun A Z H s R S => wpAny_Try_except (wpAny_mono (h.run A Z H s R S) (fun f s₁ h₁ => by
    cases f with
    | next => exact wpAny_execs_nil h₁
    | _ => exact h₁) fun _ _ x => x.elim)

-- rows compared
open PySem.SeqAt in
theorem op_eq_strs {xs ys : List Str} : Op2 G (compareOp .Eq) (.list (txs xs)) (.list (txs ys)) (.bool (xs == ys)) := Op2.mk fun A Z s v₁ v₂ R b r₁ r₂ => by
  cases r₁ with
  | list hz ra =>
    cases r₂ with
    | list hz' ra' =>
      obtain ⟨l, e1, e2⟩ := strs_of_repAll ra
      obtain ⟨l', e1', e2'⟩ := strs_of_repAll ra'
      subst e1 e1' e2 e2'
      have hl := isList_of (b.zin _ _ hz)
      have hl' := isList_of (b.zin _ _ hz')
      have sz : (strValues l).toArray.size = l.length := by simp [strValues]
      have sz' : (strValues l').toArray.size = l'.length := by simp [strValues]
      by_cases hlen : l.length = l'.length
      · refine eq_listAt (e := fun j => (l.map (·.1))[j]? == (l'.map (·.1))[j]?) hl hl' (by rw [sz, sz', hlen]) (by have := R.units; omega) (fun j h1 h2 => ?_) ⟨Z, b.same, ?_⟩
        · rw [sz] at h1; rw [sz'] at h2
          have ea : (strValues l).toArray[j] = .str l[j].1 l[j].2 := by simp [strValues]
          have eb : (strValues l').toArray[j] = .str l'[j].1 l'[j].2 := by simp [strValues]
          rw [ea, eb]
          have := EqAt.str_str (A := A.in1) (s := s) l[j].1 l[j].2 l'[j].1 l'[j].2
          simpa [h1, h2] using this
        · rw [sz]
          have : ((List.range l.length).all fun j => (l.map (·.1))[j]? == (l'.map (·.1))[j]?) = (l.map (·.1) == l'.map (·.1)) := by
            rw [Bool.eq_iff_iff]
            simp only [List.all_eq_true, List.mem_range, beq_iff_eq]
            constructor
            · intro h
              apply List.ext_getElem?
              intro i
              by_cases hi : i < l.length
              · exact h i hi
              · rw [List.getElem?_eq_none (by simpa using hi), List.getElem?_eq_none (by simp; omega)]
            · intro h i _; rw [h]
          rw [this]; exact .bool _
      · refine eq_list_lengthsAt hl hl' (by rw [sz, sz']; simpa using hlen) (by have := R.units; omega) ⟨Z, b.same, ?_⟩
        have : (l.map (·.1) == l'.map (·.1)) = false := by
          rw [beq_eq_false_iff_ne]; intro h; exact hlen (by simpa using congrArg List.length h)
        rw [this]; exact .bool _
open PySem.SeqAt in
theorem op_eq_nil {ds : List D} : Op2 G (compareOp .Eq) (.list ds) (.list []) (.bool ds.isEmpty) := Op2.mk fun A Z s v₁ v₂ R b r₁ r₂ => by
  cases r₁ with
  | list hz ra =>
    cases r₂ with
    | list hz' ra' =>
      cases ra'
      have hl := isList_of (b.zin _ _ hz)
      have hl' := isList_of (b.zin _ _ hz')
      cases ra with
      | nil => exact eq_listAt (e := fun _ => true) hl hl' rfl (by have := R.units; omega) (fun j h1 _ => absurd h1 (by simp)) ⟨Z, b.same, .bool _⟩
      | cons r rs => exact eq_list_lengthsAt hl hl' (by simp) (by have := R.units; omega) ⟨Z, b.same, .bool _⟩
open PySem.SeqAt in
theorem op_ne_nil {ds : List D} : Op2 G (compareOp .NotEq) (.list ds) (.list []) (.bool (!ds.isEmpty)) := Op2.mk fun A Z s v₁ v₂ R b r₁ r₂ => by
  cases r₁ with
  | list hz ra =>
    cases r₂ with
    | list hz' ra' =>
      cases ra'
      have hl := isList_of (b.zin _ _ hz)
      have hl' := isList_of (b.zin _ _ hz')
      cases ra with
      | nil => exact RcNeAt.lists (e := fun _ => true) hl hl' rfl (by have := R.units; omega) (fun j h1 _ => absurd h1 (by simp)) G.prog G.w _ _ ⟨Z, b.same, .bool _⟩
      | cons r rs => exact RcNeAt.lists_lengths hl hl' (by simp) (by have := R.units; omega) G.prog G.w _ _ ⟨Z, b.same, .bool _⟩

end
end Mine
end
section
open PySem PySem.W PyProof.Rows
set_option linter.unusedVariables false
set_option maxRecDepth 100000
namespace Mine
def stOf (p : Program) (i : Nat) : Stmt := p.main.body.getD i (.Pass ⟨0, 0, 0, 0⟩)
def bodyOf : Stmt → List Stmt
  | .FunctionDef _ _ b _ _ _ _ _ _ _ => b
  | _ => []
def fdOf (st : Stmt) (doc pm cdv ct : Value) : FuncData := match st with
  | .FunctionDef name args body _ _ _ scope _ _ _ => fnX name name args body scope [] .none .none doc pm none cdv ct
  | _ => default

section
variable {G : Gnd} {env : Env} {Z Z' H H' : Zf} {ρ ρ' ρc : Loc} {s s' : Shared} {A : Around} {E : Value → Shared → Prop} {n : Nat} {pos apos : Pos}

theorem sub_nil : Sub [] ρ := fun x b h => by simp at h
theorem sub_cons {x : Str} {b : B} (h : ρ'.lookup x = some b) (hs : Sub ρ ρ') : Sub ((x, b) :: ρ) ρ' := fun y c e => by
  rw [List.lookup_cons] at e
  by_cases q : y = x
  · subst q; simp at e; subst e; exact h
  · rw [beq_eq_false_iff_ne.mpr q] at e; exact hs y c e
theorem exs_weaken {sts : List Stmt} {Φ : Fl → Loc → Prop} (hs : Sub ρ ρ') (h : Exs G env n ρ sts Φ) : Exs G env n ρ' sts Φ := Exs.mk fun A Z H s R S => h.run A Z H s R (S.weaken hs)
theorem ex_weaken {st : Stmt} {Φ : Fl → Loc → Prop} (hs : Sub ρ ρ') (h : Ex G env n ρ st Φ) : Ex G env n ρ' st Φ := Ex.mk fun A Z H s R S => h.run A Z H s R (S.weaken hs)
theorem ev_weaken {e : PySem.Expr} {d : D} (hs : Sub ρ ρ') (h : Ev G env n ρ e d) : Ev G env n ρ' e d := Ev.mk fun A Z H s R S => h.run A Z H s R (S.weaken hs)
theorem asg_weaken {e : PySem.Expr} {d : D} {ρ'' : Loc} (hs : Sub ρ ρ') (h : Asg G env e d ρ ρ'') : Asg G env e d ρ' ρ'' := Asg.mk fun A Z H s v R S r => h.run A Z H s v R (S.weaken hs) r

/-- a for, by what is known of the names at each turn -/
theorem ex_forI {tgt iter : PySem.Expr} {body : List Stmt} {d : D} {ds : List D} {Φ : Fl → Loc → Prop} (I : Nat → Loc) (h : Ev G env n ρ iter d) (hi : Itr G d ds) (h0 : Sub (I 0) ρ)
    (turn : ∀ i d, ds[i]? = some d → ∃ ρ'', Asg G env tgt d (I i) ρ'' ∧ Exs G env n ρ'' body (LoopPost Φ (Sub (I (i + 1)))))
    (done : ∀ ρ', Sub (I ds.length) ρ' → Φ .next ρ') (hs : ∀ x, foldedSetIterable iter env x = pure x) : Ex G env n ρ (.For tgt iter body [] pos) Φ :=
  ex_for (fun i ρ' => Sub (I i) ρ') h hi h0 (fun i d ρ' hd hsub => by
    obtain ⟨ρ'', ha, hb⟩ := turn i d hd
    exact ⟨ρ'', asg_weaken hsub ha, hb⟩) done hs

/-- a while, by what is known of the names at each turn -/
theorem ex_whileI {t : PySem.Expr} {body : List Stmt} {Φ : Fl → Loc → Prop} {σ : Type} (I : σ → Loc) (m : σ → Nat) (P : σ → Prop) (c₀ : σ) (h0 : Sub (I c₀) ρ) (hp : P c₀)
    (turn : ∀ c, P c → ∃ b, Tst G env n (I c) t b ∧ (b = true → Exs G env n (I c) body (LoopPost Φ fun ρ' => ∃ c', m c' < m c ∧ P c' ∧ Sub (I c') ρ')) ∧ (b = false → ∀ ρ', Sub (I c) ρ' → Φ .next ρ')) : Ex G env n ρ (.While t body [] pos) Φ := by
  refine ex_while (fun k ρ' => ∃ c, k = m c ∧ P c ∧ Sub (I c) ρ') ⟨c₀, rfl, hp, h0⟩ ?_
  rintro k ρ' ⟨c, rfl, hpc, hsub⟩
  obtain ⟨b, ht, h1, h2⟩ := turn c hpc
  refine ⟨b, Tst.mk fun A Z H s R S => ht.run A Z H s R (S.weaken hsub), fun hb => ?_, fun hb => h2 hb ρ' hsub⟩
  refine exs_mono (exs_weaken hsub (h1 hb)) ?_
  rintro fl ρ'' h
  cases fl with
  | next => obtain ⟨c', hl, hp', hs'⟩ := h; exact ⟨m c', hl, c', rfl, hp', hs'⟩
  | cont => obtain ⟨c', hl, hp', hs'⟩ := h; exact ⟨m c', hl, c', rfl, hp', hs'⟩
  | brk => exact h
  | ret d => exact h

theorem then_next {Φ : Fl → Loc → Prop} {K : Loc → Prop} (h : K ρ) : Then Φ K .next ρ := h


-- cheap looks at the text
theorem star_cons {e : PySem.Expr} {es : List PySem.Expr} (h : isStarred e = false) : starEach (e :: es) env = (false, eval e env) :: starEach es env := by
  cases e <;> first | rfl | cases h
theorem star_all : ∀ {es : List PySem.Expr}, es.any isStarred = false → (starEach es env).any (·.1) = false
  | [], _ => rfl
  | e :: es, h => by
    rw [List.any_cons, Bool.or_eq_false_iff] at h
    rw [star_cons h.1, List.any_cons, star_all h.2]; rfl
theorem evs_more {e : PySem.Expr} {es : List PySem.Expr} {d : D} {ds : List D} (h : Ev G env n ρ e d) (h' : Evs G env n ρ es ds) (hs : isStarred e = false) : Evs G env n ρ (e :: es) (d :: ds) := evs_cons h h' (star_cons hs)
def isAttr : PySem.Expr → Bool
  | .Attribute .. => true
  | _ => false
theorem eval_call {f : PySem.Expr} {es : List PySem.Expr} (h : isAttr f = false) : eval (.Call f es [] pos) env = (do callWith pos (← eval f env) [] (backTo pos (starEach es env)) []) := by
  cases f <;> first | rfl | cases h
def isCall : PySem.Expr → Bool
  | .Call .. => true
  | _ => false
def isNameCall : PySem.Expr → Bool
  | .Call (.Name ..) [] [] _ => true
  | _ => false
theorem base_same {o : PySem.Expr} {name : Str} {t : Sem Value} (h : isNameCall o = false) : attributeBase o name env t = t := by
  unfold attributeBase
  split
  · rename_i h'; cases h
  · rfl
theorem form_all : ∀ {es : List PySem.Expr}, es.any isStarred = false → (backTo pos (starEach es env)).all (fun x => !x.1) = true
  | [], _ => rfl
  | e :: es, h => by
    rw [List.any_cons, Bool.or_eq_false_iff] at h
    rw [star_cons h.1]
    show (!false && (backTo pos (starEach es env)).all (fun x => !x.1)) = true
    rw [form_all h.2]; rfl
theorem eval_method {o : PySem.Expr} {name : Str} {es : List PySem.Expr} (hb : isNameCall o = false) (hst : es.any isStarred = false) (hlen : es.length < 30) (hline : (apos.endLine == pos.line) = true) :
    eval (.Call (.Attribute o name apos) es [] pos) env = (do
      let ov ← eval o env
      standAt apos.atName
      let (f, first) ← holding [ov] (getMethod ov name (do return (← importBound o env).getD true))
      callWith pos f first (backTo pos (starEach es env)) []) := by
  have hform : methodCallForm (es.length + ([] : List Keyword).length) (backTo pos (starEach es env)) (backToKw pos (keywordEach [] env)) = true := by
    unfold methodCallForm
    rw [form_all hst]
    have e : backToKw pos (keywordEach [] env) = [] := rfl
    rw [e]
    simpa using hlen
  show (do
    let ov ← attributeBase o name env (eval o env)
    standAt apos.atName
    methodCall o name apos pos env ov (es.length + ([] : List Keyword).length) (backTo pos (starEach es env)) (backToKw pos (keywordEach [] env))) = _
  rw [base_same hb]
  unfold methodCall calleeOf
  simp only [hform, if_true]
  have hp : methodCallPos true o env apos pos = pure pos := by unfold methodCallPos; simp [hline]
  simp only [hp, pure_bind]
  rfl

theorem ev_call {f : PySem.Expr} {es : List PySem.Expr} {a : Addr} {ds : List D} {d : D} (hf : Ev G env n ρ f (.fn a)) (h : Evs G env n ρ es ds) (hk : keepIn G.K (.ref a) = true) (hc : Fn G n a ds d) (hst : es.any isStarred = false) (ha : isAttr f = false) : Ev G env n ρ (.Call f es [] pos) d :=
  ev_callFn hf h hk hc (star_all hst) (eval_call ha)
theorem ev_bf {x : Str} {p : Pos} {id : String} {es : List PySem.Expr} {ds : List D} {d : D} (h : Evs G env n ρ es ds) (hc : BF G id ds d) (e : nsIn G.K mainGlobals x = some none) (hv : bootBuiltins x = some (.builtin id)) (hx : env.kindOf x = some .globalImplicit)
    (hd : ((x == ("__debug__" : Str)) || (x == ("__name__" : Str))) = false) (hst : es.any isStarred = false) : Ev G env n ρ (.Call (.Name x p) es [] pos) d :=
  ev_callBF h hc e hv (by rw [Bool.or_eq_false_iff] at hd; exact beq_eq_false_iff_ne.mp hd.2) hx (by rw [Bool.or_eq_false_iff] at hd; exact hd.1) (star_all hst) (eval_call rfl)
theorem ev_bt {x : Str} {p : Pos} {T : String} {es : List PySem.Expr} {ds : List D} {d : D} (h : Evs G env (n + 1) ρ es ds) (hc : BT G T ds d) (e : nsIn G.K mainGlobals x = some none) (hv : bootBuiltins x = some (.type T)) (hx : env.kindOf x = some .globalImplicit)
    (hd : ((x == ("__debug__" : Str)) || (x == ("__name__" : Str))) = false) (hst : es.any isStarred = false) : Ev G env (n + 1) ρ (.Call (.Name x p) es [] pos) d :=
  ev_callBT h hc e hv (by rw [Bool.or_eq_false_iff] at hd; exact beq_eq_false_iff_ne.mp hd.2) hx (by rw [Bool.or_eq_false_iff] at hd; exact hd.1) (star_all hst) (eval_call rfl)
theorem ev_meth {o : PySem.Expr} {name : Str} {id : String} {es : List PySem.Expr} {d₀ : D} {ds : List D} {d : D} (ho : Ev G env n ρ o d₀) (h : Evs G env n ρ es ds) (g : GetM G name d₀ id) (hc : BF G id (d₀ :: ds) d)
    (hb : isNameCall o = false) (hst : es.any isStarred = false) (hlen : es.length < 30) (hline : (apos.endLine == pos.line) = true) : Ev G env n ρ (.Call (.Attribute o name apos) es [] pos) d :=
  ev_method ho g h hc (star_all hst) (eval_method hb hst hlen hline)
theorem ev_repl {o : PySem.Expr} {x y z : Str} {c c' : Nat} {p p' : Pos} (ho : Ev G env n ρ o (.str x)) (hb : x.length + (x.length + 1) * z.length ≤ 16777216) (hn : isNameCall o = false) (hline : (apos.endLine == pos.line) = true) :
    Ev G env n ρ (.Call (.Attribute o "replace" apos) [.Constant (.str y) c p, .Constant (.str z) c' p'] [] pos) (.str (Txt.replace x y z)) :=
  ev_replace ho hb (eval_method hn rfl (by show 2 < 30; decide) hline)

end
end Mine
end
section
open PySem PySem.W PyProof.Rows PySem.Builtin PySem.Builtin.Str
set_option linter.unusedVariables false
namespace Mine

/-- a text of code points -/
def T (l : List Nat) : Str := ⟨l.toArray⟩
theorem T_list (l : List Nat) : (T l).cps.toList = l := rfl
theorem T_length (l : List Nat) : (T l).length = l.length := by show l.toArray.size = _; simp
theorem T_of (x : Str) : T x.cps.toList = x := by cases x; simp [T]
theorem T_append (a b : List Nat) : T a ++ T b = T (a ++ b) := by
  show (⟨a.toArray ++ b.toArray⟩ : Str) = _
  simp [T]
theorem T_inj {a b : List Nat} (h : T a = T b) : a = b := by simpa [T_list] using congrArg (fun x => x.cps.toList) h
theorem T_one (c : Nat) : T [c] = ⟨#[c]⟩ := rfl
theorem T_beq (a b : List Nat) : (T a == T b) = decide (a = b) := by
  rw [Bool.eq_iff_iff]
  simp only [beq_iff_eq, decide_eq_true_eq]
  exact ⟨T_inj, fun h => by rw [h]⟩

/-- each sign c becomes z -/
def sub1 (c : Nat) (z l : List Nat) : List Nat := l.flatMap fun k => if k = c then z else [k]
theorem sub1_append (c : Nat) (z a b : List Nat) : sub1 c z (a ++ b) = sub1 c z a ++ sub1 c z b := by simp [sub1]
theorem sub1_free (c : Nat) (z : List Nat) : ∀ {l : List Nat}, c ∉ l → sub1 c z l = l
  | [], _ => rfl
  | k :: r, h => by
    simp only [List.mem_cons, not_or] at h
    have ih := sub1_free c z h.2
    unfold sub1 at ih ⊢
    rw [List.flatMap_cons, ih, if_neg (Ne.symm h.1)]
    rfl
theorem join_list (z : List Nat) : ∀ parts : List (List Nat), (Str.join (T z) (parts.map T)) = T ((parts.intersperse z).flatten)
  | [] => rfl
  | [a] => by simp [Str.join]
  | a :: b :: r => by
    have ih := join_list z (b :: r)
    simp only [List.map_cons] at ih ⊢
    show T a ++ T z ++ Str.join (T z) (T b :: r.map T) = _
    rw [ih, T_append, T_append]
    simp [List.intersperse]
theorem sub1_join (c : Nat) (z : List Nat) : ∀ parts : List (List Nat), (∀ p ∈ parts, c ∉ p) → sub1 c z ((parts.intersperse [c]).flatten) = (parts.intersperse z).flatten
  | [], _ => rfl
  | [a], h => by simpa using sub1_free c z (h a (by simp))
  | a :: b :: r, h => by
    have ih := sub1_join c z (b :: r) fun p hp => h p (List.mem_cons_of_mem _ hp)
    have e1 : ((a :: b :: r).intersperse [c]).flatten = a ++ ([c] ++ ((b :: r).intersperse [c]).flatten) := by simp [List.intersperse]
    have e2 : ((a :: b :: r).intersperse z).flatten = a ++ (z ++ ((b :: r).intersperse z).flatten) := by simp [List.intersperse]
    rw [e1, e2, sub1_append, sub1_append, ih, sub1_free c z (h a (by simp))]
    simp [sub1]

theorem split_lists (l : List Nat) (c : Nat) : ∃ parts : List (List Nat), Txt.split (T l) ⟨#[c]⟩ = parts.map T ∧ (∀ p ∈ parts, c ∉ p) ∧ l = (parts.intersperse [c]).flatten := by
  refine ⟨(Txt.split (T l) ⟨#[c]⟩).map (fun x => x.cps.toList), ?_, ?_, ?_⟩
  · rw [List.map_map]
    conv => lhs; rw [← List.map_id (Txt.split (T l) ⟨#[c]⟩)]
    exact List.map_congr_left fun x _ => (T_of x).symm
  · intro p hp
    obtain ⟨x, hx, rfl⟩ := List.mem_map.mp hp
    exact StrLaws.split_free (T l) c x hx
  · have h := StrLaws.join_split (T l) ⟨#[c]⟩
    have e : Txt.split (T l) ⟨#[c]⟩ = ((Txt.split (T l) ⟨#[c]⟩).map (fun x => x.cps.toList)).map T := by
      rw [List.map_map]
      conv => lhs; rw [← List.map_id (Txt.split (T l) ⟨#[c]⟩)]
      exact List.map_congr_left fun x _ => (T_of x).symm
    rw [e, ← T_one, join_list] at h
    exact (T_inj h).symm

theorem repl_T (l z : List Nat) (c : Nat) : Txt.replace (T l) ⟨#[c]⟩ (T z) = T (sub1 c z l) := by
  obtain ⟨parts, h1, h2, h3⟩ := split_lists l c
  rw [StrLaws.replace_one, h1, join_list]
  conv => rhs; rw [h3]
  rw [sub1_join c z parts h2]

theorem tin_T (l : List Nat) (c : Nat) : tin ⟨#[c]⟩ (T l) = decide (c ∈ l) := StrLaws.found_one (T l) c

theorem count_join (c : Nat) : ∀ parts : List (List Nat), (∀ p ∈ parts, c ∉ p) → ((parts.intersperse [c]).flatten).count c = parts.length - 1
  | [], _ => rfl
  | [a], h => by simpa using List.count_eq_zero_of_not_mem (h a (by simp))
  | a :: b :: r, h => by
    have ih := count_join c (b :: r) fun p hp => h p (List.mem_cons_of_mem _ hp)
    have e1 : ((a :: b :: r).intersperse [c]).flatten = a ++ ([c] ++ ((b :: r).intersperse [c]).flatten) := by simp [List.intersperse]
    rw [e1, List.count_append, List.count_append, ih, List.count_eq_zero_of_not_mem (h a (by simp))]
    simp
    omega

theorem count_T (l : List Nat) (c : Nat) : Txt.count (T l) ⟨#[c]⟩ = (l.count c : Int) := by
  obtain ⟨parts, h1, h2, h3⟩ := split_lists l c
  have hc : l.count c = parts.length - 1 := by conv => lhs; rw [h3]
                                               exact count_join c parts h2
  have hnone : c ∉ l → occurrences (T l) ⟨#[c]⟩ 0 (T l).length ((T l).length + 1) = [] := fun hn => by
    cases ho : occurrences (T l) ⟨#[c]⟩ 0 (T l).length ((T l).length + 1) with
    | nil => rfl
    | cons i r =>
      obtain ⟨f, h⟩ := StrLaws.occ_chain (T l) ⟨#[c]⟩ ((T l).length + 1)
      rw [ho] at h
      exact absurd (List.mem_of_getElem? ((StrLaws.subAt_one (T l) c i).mp h.2.1)) hn
  unfold Txt.count
  rw [hc]
  have hp : parts.length = (Txt.split (T l) ⟨#[c]⟩).length := by rw [h1, List.length_map]
  unfold Txt.split at hp
  split at hp
  · rename_i hx
    have : c ∉ l := by
      have := StrLaws.split_free (T l) c (T l) (by unfold Txt.split; rw [if_pos hx]; exact List.mem_singleton.mpr rfl)
      exact this
    rw [hnone this, hp]; rfl
  · split at hp
    · rename_i hx he
      rw [hp, List.isEmpty_iff.mp he]; rfl
    · rw [length_partsBetween] at hp
      rw [hp]; simp

end Mine
end
section
open PySem PySem.W PyProof.Rows PySem.Builtin PySem.Builtin.Str
set_option linter.unusedVariables false
namespace Mine

abbrev Tbl := List (Nat × List Nat)
def spell (t : Tbl) (k : Nat) : List Nat := (t.lookup k).getD [k]
def escBy (t : Tbl) (l : List Nat) : List Nat := l.flatMap (spell t)
theorem escBy_nil (l : List Nat) : escBy [] l = l := by
  induction l with
  | nil => rfl
  | cons k r ih =>
    show [k] ++ escBy [] r = _
    rw [ih]; rfl
theorem escBy_append (t : Tbl) (a b : List Nat) : escBy t (a ++ b) = escBy t a ++ escBy t b := by simp [escBy]
theorem escBy_cons (t : Tbl) (k : Nat) (r : List Nat) : escBy t (k :: r) = spell t k ++ escBy t r := by simp [escBy]
def okFor (t : Tbl) (c : Nat) : Bool := t.all fun p => !(p.2.contains c) && !(p.1 == c)
theorem lookup_snoc (t : Tbl) (c k : Nat) (z : List Nat) : (t ++ [(c, z)]).lookup k = (t.lookup k).or (if k = c then some z else none) := by
  rw [List.lookup_append]
  congr 1
  by_cases h : k = c
  · subst h; simp
  · rw [List.lookup_cons, beq_eq_false_iff_ne.mpr h, if_neg h]; rfl
theorem sub1_spell {t : Tbl} {c : Nat} {z : List Nat} (h : okFor t c = true) (k : Nat) : sub1 c z (spell t k) = spell (t ++ [(c, z)]) k := by
  unfold spell
  rw [lookup_snoc]
  cases hk : t.lookup k with
  | none =>
    by_cases q : k = c
    · subst q; simp [sub1]
    · simp [sub1, q]
  | some y =>
    have hm : (k, y) ∈ t := by
      clear h
      induction t with
      | nil => simp at hk
      | cons p r ih =>
        obtain ⟨a, b⟩ := p
        rw [List.lookup_cons] at hk
        by_cases q : k = a
        · subst q; simp at hk; subst hk; exact List.mem_cons_self
        · rw [beq_eq_false_iff_ne.mpr q] at hk; exact List.mem_cons_of_mem _ (ih hk)
    have := (List.all_eq_true.mp h) (k, y) hm
    simp only [Bool.and_eq_true, Bool.not_eq_true', List.contains_eq_mem, decide_eq_false_iff_not] at this
    simpa using sub1_free c z this.1
theorem sub1_esc {t : Tbl} {c : Nat} {z : List Nat} (h : okFor t c = true) (l : List Nat) : sub1 c z (escBy t l) = escBy (t ++ [(c, z)]) l := by
  induction l with
  | nil => rfl
  | cons k r ih => rw [escBy_cons, escBy_cons, sub1_append, ih, sub1_spell h]
theorem spell_le {t : Tbl} {m : Nat} (hm : 1 ≤ m) (h : t.all (fun p => decide (p.2.length ≤ m)) = true) (k : Nat) : (spell t k).length ≤ m := by
  unfold spell
  induction t with
  | nil => simpa using hm
  | cons p r ih =>
    obtain ⟨a, b⟩ := p
    simp only [List.all_cons, Bool.and_eq_true, decide_eq_true_eq] at h
    rw [List.lookup_cons]
    cases q : k == a with
    | true => exact h.1
    | false => exact ih h.2
theorem esc_le {t : Tbl} {m : Nat} (hm : 1 ≤ m) (h : t.all (fun p => decide (p.2.length ≤ m)) = true) (l : List Nat) : (escBy t l).length ≤ m * l.length := by
  induction l with
  | nil => simp [escBy]
  | cons k r ih =>
    rw [escBy_cons, List.length_append, List.length_cons, Nat.mul_succ]
    have := spell_le hm h k
    omega

section
variable {G : Gnd} {env : Env} {ρ : Loc} {n : Nat}
/-- one row of an escape -/
theorem esc_step {l : List Nat} {t : Tbl} {c : Nat} {z : List Nat} {x cs zs : Str} {i1 i2 i3 : Nat} {p1 p2 p3 p4 p5 apos pos spos pos' : Pos} {rest : List Stmt} {Φ : Fl → Loc → Prop}
    (hl : ρ.lookup x = some (.val (.str (T (escBy t l))))) (hcs : cs = ⟨#[c]⟩) (hzs : zs = T z) (hok : okFor t c = true) (hm : t.all (fun p => decide (p.2.length ≤ 8)) = true) (hz : z.length ≤ 8) (hsz : l.length ≤ 100000)
    (hd : (x == ("__debug__" : Str)) = false) (hc : Can env x) (hline : (apos.endLine == pos.line) = true)
    (k : Exs G env n (upd ρ x (.val (.str (T (escBy (t ++ [(c, z)]) l))))) rest Φ) :
    Exs G env n ρ (.If (.Compare (.Constant (.str cs) i1 p1) [.In] [.Name x p2] p3) [.Assign [.Name x p4] (.Call (.Attribute (.Name x p5) "replace" apos) [.Constant (.str cs) i2 p1', .Constant (.str zs) i3 p2'] [] pos) spos] [] pos' :: rest) Φ := by
  have hb : (T (escBy t l)).length + ((T (escBy t l)).length + 1) * zs.length ≤ 16777216 := by
    have h1 := esc_le (m := 8) (by decide) hm l
    rw [hzs, T_length, T_length]
    have h2 : ((escBy t l).length + 1) * z.length ≤ (8 * l.length + 1) * 8 := Nat.mul_le_mul (by omega) hz
    omega
  have hr : Txt.replace (T (escBy t l)) cs zs = T (escBy (t ++ [(c, z)]) l) := by rw [hcs, hzs, repl_T, sub1_esc hok]
  refine exs_cons (ex_if (tst_cmp ev_str (ev_name hl hd) op_in_str rfl) (fun _ => ?_) fun hf => ?_)
  · refine exs_cons (ex_assign (ev_repl (ev_name hl hd) hb rfl hline) hc rfl ?_)
    refine exs_nil ?_
    rw [hr]
    exact k
  · refine exs_nil ?_
    refine exs_weaken ?_ k
    have : T (escBy (t ++ [(c, z)]) l) = T (escBy t l) := by
      rw [hcs, tin_T, decide_eq_false_iff_not] at hf
      rw [← sub1_esc hok, sub1_free c z hf]
    rw [this]
    intro y b e
    rw [lookup_upd] at e
    by_cases q : y = x
    · subst q; rw [if_pos rfl] at e; cases e; exact hl
    · rw [if_neg q] at e; exact e
end
end Mine
end
section
open PySem PySem.W PyProof.Rows
set_option linter.unusedVariables false
namespace Mine

theorem ns_none_of {K : Frag} {h : Heap} {a : Addr} {mc : Str → Option Value} {n : Str} (X : K.In h) (G : h.Ns a mc) (e : nsIn K a n = some none) : mc n = none := by
  obtain ⟨o, es, ep, ho, hd, _, hf⟩ := G
  unfold nsIn at e
  split at e
  · rename_i c dd es' ep' sl hk
    have := X _ _ hk
    rw [ho] at this
    cases this
    cases hd
    split at e
    · cases e
    · rename_i hfind
      rw [← hf]
      unfold nsFind findBy
      rw [← Array.find?_toList, hfind]
      rfl
  · cases e

theorem repAll_ints {G : Gnd} {Z : Zf} : ∀ {vs : List Value} {ns : List Int}, IntsAre vs ns → RepAll G Z vs (ns.map .int)
  | _, _, .nil => .nil
  | _, _, .cons n t r => .cons (.int n t) (repAll_ints r)

theorem finish {prog : Program} {w : World} {K : Frag} {p : Program} {loose : List Str} {mg mb : Str → Option Value} {s₁ : Shared} {f a : Addr} {vs : List Value} {ns : List Int} {k n : Nat} {c : ClaimW} {cl : Str → Option Addr} {mean : ExcName → Option Value} {args : List WData}
    (KX : K.In s₁.heap) (T : TopRead p loose mg mb s₁.heap) (hst : nsIn K cStatics sharingNotToldKey = some none) (hg : s₁.gens = #[]) (htk : 0 < s₁.toks) (ho : s₁.heap.get? a = some (listOf vs.toArray k)) (hI : IntsAre vs ns)
    (hn : ∀ cls, c.raises args cls = false) (hp : c.post args (.bool true) args = true) (hr : n ≤ 100)
    (h : ∀ nb, Fn ⟨prog, w, K, p, loose, mg, mb, s₁.heap, s₁.os, KX, T, nb⟩ n f [.list (ns.map .int)] (.bool true)) :
    wpAny (model prog w) callerA (call (.ref f) [.ref a]) (fun v s' => GoodWG c cl mean args s₁ (.ok (.ret v)) s') (fun e s' => GoodWG c cl mean args s₁ (.error e) s') s₁ := by
  have nb : NoneBooked s₁.heap := by
    obtain ⟨mc, hm, _⟩ := T.nolimit
    exact ⟨mc, hm, ns_none_of KX hm hst⟩
  have H := h nb
  refine wp_seq (H.run callerA (fun b => if b = a then some (listOf vs.toArray k) else none) s₁ [.ref a] ⟨rfl, ?_, ?_, rfl⟩ ⟨hg, rfl, htk, fun b o e => ?_, fun b o e => e⟩ (.cons (.list (if_pos rfl) (repAll_ints hI)) .nil)) fun v s' ⟨Z', x, r⟩ => ?_
  · show 1 + claimMargin + n < recursionLimit
    have : claimMargin = 300 := rfl
    have : recursionLimit = 1000 := rfl
    omega
  · show 4 + 8 * n < cLine
    have : cLine = 9900 := rfl
    omega
  · by_cases q : b = a
    · subst q; rw [if_pos rfl] at e; cases e; exact ho
    · rw [if_neg q] at e; cases e
  · cases r
    refine GoodW.toG ⟨.inl ⟨_, _, [], rfl, hn, .bool true, hp, unshared_nil⟩, fun b o e => x.keep b o e, x.os, x.gens.trans hg⟩
end Mine
end
section
open PySem PySem.W PyProof.Rows
set_option linter.unusedVariables false
set_option maxRecDepth 100000
namespace Mine
section
variable {G : Gnd} {env : Env} {Z Z' H : Zf} {ρ ρ' : Loc} {s s' : Shared} {A : Around} {E : Value → Shared → Prop} {n : Nat} {pos apos : Pos}

/-- data that need no heap -/
def Atom : D → Bool
  | .none | .bool _ | .int _ | .str _ | .bytes _ => true
  | _ => false
theorem rep_atom {v : Value} {d : D} (h : Atom d = true) (r : Rep G Z v d) : Rep G Z' v d := by
  cases r <;> first | exact .none | exact .bool _ | exact .int _ _ | exact .str _ _ | exact .bytes _ _ | cases h

/-- an owned list is read, and stays owned -/
theorem ev_peek {x : Str} {ds : List D} {e : PySem.Expr} {d : D} (hx : ρ.lookup x = some (.own ds)) (h : Ev G env n (upd ρ x (.val (.list ds))) e d) (ha : Atom d = true) : Ev G env n ρ e d :=
  Ev.mk fun A Z H s R S => by
    obtain ⟨Z', le, S', _⟩ := S.freeze hx
    exact wp_seq (h.run A Z' H s R S') fun v s₁ ⟨Z₁, x₁, r₁⟩ => ⟨Z, x₁.back S.zin, rep_atom ha r₁⟩
theorem tst_peek {x : Str} {ds : List D} {e : PySem.Expr} {b : Bool} (hx : ρ.lookup x = some (.own ds)) (h : Tst G env n (upd ρ x (.val (.list ds))) e b) : Tst G env n ρ e b :=
  Tst.mk fun A Z H s R S => by
    obtain ⟨Z', le, S', _⟩ := S.freeze hx
    exact wp_seq (h.run A Z' H s R S') fun v s₁ ⟨e, x₁⟩ => ⟨e, x₁.back S.zin⟩
/-- an owned list is frozen for good -/
theorem exs_freeze {x : Str} {ds : List D} {sts : List Stmt} {Φ : Fl → Loc → Prop} (hx : ρ.lookup x = some (.own ds)) (h : Exs G env n (upd ρ x (.val (.list ds))) sts Φ) : Exs G env n ρ sts Φ :=
  Exs.mk fun A Z H s R S => by
    obtain ⟨Z', le, S', _⟩ := S.freeze hx
    exact wp_seq (h.run A Z' H s R S') fun f s₁ ⟨Z₁, ρ₁, fl, le₁, S₁, hf, hΦ⟩ => ⟨Z₁, ρ₁, fl, le.trans le₁, S₁, hf, hΦ⟩

theorem Has.uniq {h : Heap} {x : Str} {u v : Value} (a : Has env h x u) (b : Has env h x v) : u = v := by
  rcases a with ⟨k, m, hn, e⟩ | ⟨k, c, e, hn⟩ <;> rcases b with ⟨k', m', hn', e'⟩ | ⟨k', c', e', hn'⟩
  · rw [ns_uniq hn hn', e'] at e; exact (Option.some.inj e).symm
  · rcases k' with k' | k' <;> simp_all
  · rcases k with k | k <;> simp_all
  · rw [e] at e'; cases e'
    obtain ⟨o, ho1, ho2⟩ := hn
    obtain ⟨o', ho1', ho2'⟩ := hn'
    rw [ho1] at ho1'; cases ho1'
    rw [ho2] at ho2'
    simpa using ho2'

/-- x = [..], a list that the frame alone holds -/
theorem ex_assign_own {x : Str} {p q : Pos} {es : List PySem.Expr} {ds : List D} {Φ : Fl → Loc → Prop} (h : Evs G env n ρ es ds) (hsz : ds.length ≤ sizeLine) (hc : Can env x) (k : Φ .next (upd ρ x (.own ds))) :
    Ex G env n ρ (.Assign [.Name x p] (.List es q) pos) Φ := by
  constructor
  intro A Z H s R S
  refine wpAny_Assign_Name (List_ (wp_seq (h.run A Z H s q R S) fun vs s₁ ⟨Z₁, x₁, r₁⟩ => ?_)) rfl
  have S₁ := S.ext x₁
  refine wpAny_newObj_type ?_ (by show vs.toArray.size ≤ sizeLine; rw [List.size_toArray, r₁.length]; exact hsz)
  have S₂ := S₁.ext (Ext.push (o := { cls := .type "list", data := .seq vs.toArray }) (t := s₁.toks) S₁.zin (Nat.le_refl _))
  have hn : s₁.heap.get? s₁.heap.objs.size = none := get?_size_none _
  have new : ∀ {b : Addr} {o : Obj}, s₁.heap.get? b = some o → s₁.heap.objs.size ≠ b := fun e q => by rw [q, e] at hn; cases hn
  refine wp_seq (st_storeOwn (a := s₁.heap.objs.size) (vs := vs) (n := 0) (ds := ds) S₂ ?_ ?_ ?_ ?_ ?_ (Heap.get?_push_size _ rfl) r₁ hc) fun _ s₃ S₃ => ⟨Z₁, _, _, x₁.le, S₃, .next, k⟩
  · cases q : Z₁ s₁.heap.objs.size with
    | none => rfl
    | some o => exact absurd rfl (new (S₁.zin _ _ q))
  · cases q : H s₁.heap.objs.size with
    | none => rfl
    | some o => exact absurd rfl (new (S₁.hin _ _ q))
  · obtain ⟨m, o, _, _, e, _⟩ := S₁.ns
    exact new e
  · intro y c e
    obtain ⟨_, h1, h2⟩ := S₁.cells y c e
    cases hf : env.func.isSome with
    | true => obtain ⟨_, _, v, ob, e2, _⟩ := h1 hf; exact new e2
    | false => obtain ⟨ob, e2⟩ := h2 hf; exact new (S₁.hin _ _ e2)
  · intro y es v hy hv
    obtain ⟨oa, _, ho⟩ := S₁.owns
    obtain ⟨h1, _, _, _, _, vs', k', h6, _⟩ := ho y es hy
    have h1' := h1.keeps (h' := (s₁.heap.push { cls := .type "list", data := .seq vs.toArray })) fun b o e => Heap.get?_push_of_some _ e
    have : v = .ref (oa y) := hv.uniq h1'
    subst this
    intro q
    exact absurd (Value.ref.inj q).symm (new h6)

/-- what a method does to a list -/
structure Mut (G : Gnd) (id : String) (ds args : List D) (ds' : List D) : Prop where
  run : ∀ A Z s a vs k args', Room 0 A → Bs G Z s → Z a = none → s.heap.get? a = some (listOf vs.toArray k) → RepAll G Z vs ds → RepAll G Z args' args →
    wpAny (model G.prog G.w) A (call (.builtin id) (.ref a :: args')) (fun r s' => ∃ vs' k', s'.heap.get? a = some (listOf vs'.toArray k') ∧ RepAll G Z vs' ds' ∧ (∃ h' t, s' = { s with heap := h', toks := t } ∧ s.toks ≤ t ∧ Heap.SameBut a s.heap h')) (fun _ _ => False) s

theorem St.mutate {x : Str} {ds' : List D} {h' : Heap} {t : Nat} {vs' : List Value} {k' : Nat} (S : St G env Z H ρ s) (oa : Str → Addr) (hi : ∀ x y ds es, ρ.lookup x = some (.own ds) → ρ.lookup y = some (.own es) → oa x = oa y → x = y)
    (ho : ∀ x ds, ρ.lookup x = some (.own ds) → Has env s.heap x (.ref (oa x)) ∧ Z (oa x) = none ∧ H (oa x) = none ∧ oa x ≠ env.locals ∧ (∀ y c, env.cells.lookup y = some c → oa x ≠ c) ∧
      ∃ vs n, s.heap.get? (oa x) = some (listOf vs.toArray n) ∧ RepAll G Z vs ds) {ds : List D} (hx : ρ.lookup x = some (.own ds)) (hg : h'.get? (oa x) = some (listOf vs'.toArray k')) (hr : RepAll G Z vs' ds') (ht : s.toks ≤ t) (hs : Heap.SameBut (oa x) s.heap h') :
    St G env Z H (upd ρ x (.own ds')) { s with heap := h', toks := t } := by
  obtain ⟨h1, h2, h3, h4, h5, vs, k, h6, h7⟩ := ho x ds hx
  have has : ∀ y v, Has env s.heap y v → Has env h' y v := fun y v q => by
    rcases q with ⟨k, m, hn, e⟩ | ⟨k, c, e, hn⟩
    · exact .inl ⟨k, m, hn.sameBut hs (Ne.symm h4), e⟩
    · exact .inr ⟨k, c, e, hn.sameBut hs (Ne.symm (h5 y c e))⟩
  refine S.put ht hs h2 h3 (let ⟨m, hn⟩ := S.ns; ⟨m, hn.sameBut hs (Ne.symm h4)⟩) (fun y c e hf => ?_) (fun y d e => ?_) ⟨oa, ?_, ?_⟩
  · obtain ⟨_, g1, _⟩ := S.cells y c e
    obtain ⟨_, _, v, hv⟩ := g1 hf
    exact ⟨v, hv.sameBut hs (Ne.symm (h5 y c e))⟩
  · rw [lookup_upd] at e
    by_cases q : y = x
    · rw [if_pos q] at e; cases e
    · rw [if_neg q] at e
      obtain ⟨v, hv, r⟩ := S.vars y d e
      exact ⟨v, has y v hv, r⟩
  · intro y z es es' ey ez q
    rw [lookup_upd] at ey ez
    by_cases qy : y = x <;> by_cases qz : z = x
    · rw [qy, qz]
    · rw [if_neg qz] at ez; rw [qy] at q ⊢; exact hi x z _ _ hx ez q
    · rw [if_neg qy] at ey; rw [qz] at q ⊢; exact hi y x _ _ ey hx q
    · rw [if_neg qy] at ey; rw [if_neg qz] at ez; exact hi y z _ _ ey ez q
  · intro y es e
    rw [lookup_upd] at e
    by_cases q : y = x
    · subst q
      rw [if_pos rfl] at e; cases e
      exact ⟨has _ _ h1, h2, h3, h4, h5, vs', k', hg, hr⟩
    · rw [if_neg q] at e
      obtain ⟨g1, g2, g3, g4, g5, us, j, g6, g7⟩ := ho y es e
      exact ⟨has _ _ g1, g2, g3, g4, g5, us, j, (hs.2 _ fun z => q (hi y x _ _ e hx z)).trans g6, g7⟩

theorem wp_own {x : Str} {p : Pos} {a : Addr} {Q : Value → Shared → Prop} {M : Model} (S : St G env Z H ρ s) (hv : Has env s.heap x (.ref a)) (hd : (x == ("__debug__" : Str)) = false) (h : Q (.ref a) s) : wpAny M A (eval (.Name x p) env) Q E s := by
  refine wpAny_Name ?_ hd
  rcases hv with ⟨k, m, n, e⟩ | ⟨k, c, e, n⟩
  · exact wpAny_loadName_local S.fk k n e h
  · rcases k with k | k
    · exact wpAny_loadName_cell S.fk k e n h
    · exact wpAny_loadName_free S.fk k.1 e n h k.2

/-- x.method(..) of an owned list, as a statement -/
theorem ex_mut {x name : Str} {p pos' : Pos} {id : String} {es : List PySem.Expr} {ds args ds' : List D} {Φ : Fl → Loc → Prop} (hx : ρ.lookup x = some (.own ds)) (slot : Slot "list" name id) (hty : typeOf (.builtin id) = pure (.type "method_descriptor"))
    (h : Evs G env n ρ es args) (hm : Mut G id ds args ds') (hd : (x == ("__debug__" : Str)) = false) (hst : es.any isStarred = false) (hlen : es.length < 30) (hline : (apos.endLine == pos.line) = true) (hin : interactive env = false)
    (k : Φ .next (upd ρ x (.own ds'))) : Ex G env n ρ (.Expr (.Call (.Attribute (.Name x p) name apos) es [] pos) pos') Φ := by
  constructor
  intro A Z H s R S
  refine wpAny_Expr_any ?_ hin rfl
  rw [eval_method rfl hst hlen hline]
  obtain ⟨oa, hi, ho⟩ := S.owns
  obtain ⟨h1, h2, h3, h4, h5, vs, j, h6, h7⟩ := ho x ds hx
  refine wpAny_bind (wp_own S h1 hd (wpAny_bind (wpAny_standAt (wpAny_bind (wpAny_holding ?_)))))
  have hl := isList_of h6
  refine getMethod_builtin hl.typeIs F.plainAttrs_list slot hty (fun a e => by cases e; exact ⟨_, h6, rfl⟩) ?_
  refine Calls.callWith_builtin (starred_none (star_all hst) pos) (wp_evalArgs (starred_none (star_all hst) pos) (wp_seq (h.run A Z H s pos R S) fun us s₂ ⟨Z₂, x₂, r₂⟩ => ?_))
  have S₂ := S.ext x₂
  have n2 : ∀ y es, ρ.lookup y = some (.own es) → Has env s₂.heap y (.ref (oa y)) ∧ Z₂ (oa y) = none ∧ H (oa y) = none ∧ oa y ≠ env.locals ∧ (∀ z c, env.cells.lookup z = some c → oa y ≠ c) ∧
      ∃ vs n, s₂.heap.get? (oa y) = some (listOf vs.toArray n) ∧ RepAll G Z₂ vs es := fun y es e => by
    obtain ⟨g1, g2, g3, g4, g5, us, j, g6, g7⟩ := ho y es e
    exact ⟨g1.keeps x₂.keep, ext_none x₂ g2 ⟨_, g6⟩, g3, g4, g5, us, j, x₂.keep _ _ g6, g7.mono x₂.le⟩
  refine wp_seq (hm.run A Z₂ s₂ (oa x) vs j us (R.less (Nat.zero_le _)) S₂.bs (n2 x ds hx).2.1 (x₂.keep _ _ h6) (h7.mono x₂.le) r₂) fun r s₃ ⟨vs', k', e1, e2, h', t, e3, e4, e5⟩ => ?_
  subst e3
  exact ⟨Z₂, _, .next, x₂.le, S₂.mutate oa hi n2 hx e1 e2 e4 e5, .next, k⟩

theorem upd_list {h : Heap} {l : Addr} {its its' : Array Value} {k : Nat} (x : h.get? l = some (listOf its k)) (f : Array Value → Array Value) (e : f its = its') : ∃ k', (h.update l (Obj.mapSeq f)).get? l = some (listOf its' k') := by
  subst e
  exact ⟨_, PySem.IsL.update (n := k) x f⟩
theorem mut_append {ds : List D} {d : D} (hsz : ds.length ≤ sizeLine) : Mut G "list.append" ds [d] (ds ++ [d]) := Mut.mk fun A Z s a vs k args R b hz ho r ra => by
  cases ra with
  | @cons v _ _ _ rv rr =>
    cases rr
    refine call_meets F.slot_list_append (isList_of ho).typeIs F.entry_list_append (F.args_list_append_2 _ _) (PySem.AutoListH.list_append_list_val_0 a vs.toArray k v (by rw [List.size_toArray, r.length]; exact hsz)) ⟨ho, ?_⟩
    have hg := PySem.IsL.update (n := k) ho (·.push v)
    rw [show vs.toArray.push v = (vs ++ [v]).toArray by simp] at hg
    exact ⟨vs ++ [v], _, hg, r.append (.cons rv .nil), _, _, rfl, Nat.le_refl _, Heap.SameBut.update ..⟩
theorem mut_insert {ds : List D} {d : D} {i : Int} (h0 : 0 ≤ i) (hi : i.toNat ≤ ds.length) (hsz : ds.length ≤ sizeLine) : Mut G "list.insert" ds [.int i, d] (ds.take i.toNat ++ d :: ds.drop i.toNat) := Mut.mk fun A Z s a vs k args R b hz ho r ra => by
  cases ra with
  | cons ri rr =>
    cases rr with
    | @cons v _ _ _ rv rr =>
      cases rr
      cases ri with
      | int _ t =>
        have hl : vs.length = ds.length := r.length
        have hfit : ¬ (!Builtin.List.listFitsIndex i) = true := by
          have : sizeLine < 2 ^ 63 := by decide
          unfold Builtin.List.listFitsIndex
          simp
          omega
        refine call_meets F.slot_list_insert (isList_of ho).typeIs F.entry_list_insert (F.args_list_insert_3 _ _ _) (PySem.AutoListH.list_insert_list_int_val_1 a vs.toArray k i t v hfit (by rw [List.size_toArray, hl]; exact hsz)) ⟨ho, ?_⟩
        obtain ⟨k', hg⟩ := upd_list ho (fun xs => have k := if i < 0 then (i + ((xs.size : Nat) : Int)).toNat else min i.toNat xs.size; (xs.extract 0 k).push v ++ xs.extract k) (its' := (vs.take i.toNat ++ v :: vs.drop i.toNat).toArray) (by
          have h1 : ¬ i < 0 := by omega
          have h2 : min i.toNat vs.length = i.toNat := by omega
          apply Array.ext'
          simp [h1, h2]
          exact List.take_of_length_le (by rw [List.length_drop]; omega))
        exact ⟨vs.take i.toNat ++ v :: vs.drop i.toNat, _, hg, (r.take _).append (.cons rv (r.drop _)), _, _, rfl, Nat.le_refl _, Heap.SameBut.update ..⟩

/-- an expression that changes owned lists too -/
structure EvM (G : Gnd) (env : Env) (n : Nat) (ρ : Loc) (e : PySem.Expr) (d : D) (ρ' : Loc) : Prop where
  run : ∀ A Z H s, Room n A → St G env Z H ρ s → wpAny (model G.prog G.w) A (eval e env) (fun v s' => ∃ Z', Zle Z Z' ∧ St G env Z' H ρ' s' ∧ Rep G Z' v d ∧ ∀ y u, Has env s.heap y u → Has env s'.heap y u) (fun _ _ => False) s

theorem evm_pop {x : Str} {p : Pos} {e : PySem.Expr} {ds : List D} {i : Int} {d : D} (hx : ρ.lookup x = some (.own ds)) (h : Ev G env n ρ e (.int i)) (h0 : 0 ≤ i) (hd' : ds[i.toNat]? = some d) (hsz : ds.length ≤ sizeLine)
    (hd : (x == ("__debug__" : Str)) = false) (hst : isStarred e = false) (hline : (apos.endLine == pos.line) = true) :
    EvM G env n ρ (.Call (.Attribute (.Name x p) "pop" apos) [e] [] pos) d (upd ρ x (.own (ds.eraseIdx i.toNat))) := by
  constructor
  intro A Z H s R S
  have hst' : [e].any isStarred = false := by simp [hst]
  rw [eval_method rfl hst' (by show 1 < 30; decide) hline]
  obtain ⟨oa, hi, ho⟩ := S.owns
  obtain ⟨h1, h2, h3, h4, h5, vs, j, h6, h7⟩ := ho x ds hx
  refine wpAny_bind (wp_own S h1 hd (wpAny_bind (wpAny_standAt (wpAny_bind (wpAny_holding ?_)))))
  have hl := isList_of h6
  refine getMethod_builtin hl.typeIs F.plainAttrs_list F.slot_list_pop F.type_list_pop (fun a e => by cases e; exact ⟨_, h6, rfl⟩) ?_
  refine Calls.callWith_builtin (starred_none (star_all hst') pos) (wp_evalArgs (starred_none (star_all hst') pos) (wp_seq ((evs_more h evs_nil hst).run A Z H s pos R S) fun us s₂ ⟨Z₂, x₂, r₂⟩ => ?_))
  have S₂ := S.ext x₂
  have n2 : ∀ y es, ρ.lookup y = some (.own es) → Has env s₂.heap y (.ref (oa y)) ∧ Z₂ (oa y) = none ∧ H (oa y) = none ∧ oa y ≠ env.locals ∧ (∀ z c, env.cells.lookup z = some c → oa y ≠ c) ∧
      ∃ vs n, s₂.heap.get? (oa y) = some (listOf vs.toArray n) ∧ RepAll G Z₂ vs es := fun y es e => by
    obtain ⟨g1, g2, g3, g4, g5, us, j, g6, g7⟩ := ho y es e
    exact ⟨g1.keeps x₂.keep, ext_none x₂ g2 ⟨_, g6⟩, g3, g4, g5, us, j, x₂.keep _ _ g6, g7.mono x₂.le⟩
  cases r₂ with
  | cons ri rr =>
    cases rr
    cases ri with
    | int _ t =>
      obtain ⟨y, hy, ry⟩ := (h7.mono x₂.le).get hd'
      have hlen : vs.length = ds.length := h7.length
      have hlt : i.toNat < vs.length := (List.getElem?_eq_some_iff.mp hy).1
      have hfit : Builtin.List.listFitsIndex i = true := by
        have : sizeLine < 2 ^ 63 := by decide
        unfold Builtin.List.listFitsIndex
        simp
        omega
      have hk : seqIndex? i vs.toArray.size = some i.toNat := by
        unfold seqIndex?
        simp
        omega
      have ho₂ := x₂.keep _ _ h6
      refine call_meets F.slot_list_pop (isList_of ho₂).typeIs F.entry_list_pop (F.args_list_pop_2 _ _) (PySem.MeetsSeq.list_pop_at (oa x) vs.toArray j i t i.toNat y hfit hk (by simpa using hy) (by rw [List.size_toArray, hlen]; exact hsz)) ⟨ho₂, ?_⟩
      have hg := PySem.IsL.update (n := j) ho₂ (fun xs => xs.eraseIdxIfInBounds i.toNat)
      have hr' : RepAll G Z₂ (vs.eraseIdx i.toNat) (ds.eraseIdx i.toNat) := by
        rw [List.eraseIdx_eq_take_drop_succ, List.eraseIdx_eq_take_drop_succ]
        exact ((h7.mono x₂.le).take _).append ((h7.mono x₂.le).drop _)
      rw [show vs.toArray.eraseIdxIfInBounds i.toNat = (vs.eraseIdx i.toNat).toArray by simp] at hg
      have hs' := Heap.SameBut.update s₂.heap (oa x) (Obj.mapSeq fun xs => xs.eraseIdxIfInBounds i.toNat)
      refine ⟨Z₂, x₂.le, S₂.mutate oa hi n2 hx hg hr' (Nat.le_refl _) hs', ry, fun z u q => ?_⟩
      rcases q.keeps x₂.keep with ⟨k, m, hn, e⟩ | ⟨k, c, e, hn⟩
      · exact .inl ⟨k, m, hn.sameBut hs' (Ne.symm h4), e⟩
      · exact .inr ⟨k, c, e, hn.sameBut hs' (Ne.symm (h5 z c e))⟩

/-- x.append(e), where e changes owned lists -/
theorem ex_appendM {x : Str} {p pos' : Pos} {e : PySem.Expr} {ds : List D} {d : D} {Φ : Fl → Loc → Prop} (hx : ρ.lookup x = some (.own ds)) (h : EvM G env n ρ e d ρ') (hx' : ρ'.lookup x = some (.own ds)) (hsz : ds.length ≤ sizeLine)
    (hd : (x == ("__debug__" : Str)) = false) (hst : isStarred e = false) (hline : (apos.endLine == pos.line) = true) (hin : interactive env = false)
    (k : Φ .next (upd ρ' x (.own (ds ++ [d])))) : Ex G env n ρ (.Expr (.Call (.Attribute (.Name x p) "append" apos) [e] [] pos) pos') Φ := by
  constructor
  intro A Z H s R S
  refine wpAny_Expr_any ?_ hin rfl
  have hst' : [e].any isStarred = false := by simp [hst]
  rw [eval_method rfl hst' (by show 1 < 30; decide) hline]
  obtain ⟨oa, hi, ho⟩ := S.owns
  obtain ⟨h1, h2, h3, h4, h5, vs, j, h6, h7⟩ := ho x ds hx
  refine wpAny_bind (wp_own S h1 hd (wpAny_bind (wpAny_standAt (wpAny_bind (wpAny_holding ?_)))))
  have hl := isList_of h6
  refine getMethod_builtin hl.typeIs F.plainAttrs_list F.slot_list_append F.type_list_append (fun a e => by cases e; exact ⟨_, h6, rfl⟩) ?_
  refine Calls.callWith_builtin (starred_none (star_all hst') pos) (wp_evalArgs (starred_none (star_all hst') pos) (spliced_more ?_ (star_cons hst)))
  refine wp_seq (h.run A Z H s R S) fun v s₂ ⟨Z₂, le₂, S₂, rv, hb⟩ => spliced_none ?_
  obtain ⟨oa', hi', ho'⟩ := S₂.owns
  obtain ⟨g1, g2, g3, g4, g5, us, j', g6, g7⟩ := ho' x ds hx'
  have ea : oa x = oa' x := Value.ref.inj ((hb x _ h1).uniq g1)
  rw [ea]
  refine wp_seq ((mut_append hsz).run A Z₂ s₂ (oa' x) us j' [v] (R.less (Nat.zero_le _)) S₂.bs g2 g6 g7 (.cons rv .nil)) fun r s₃ ⟨vs', k', e1, e2, h', t, e3, e4, e5⟩ => ?_
  subst e3
  exact ⟨Z₂, _, .next, le₂, S₂.mutate oa' hi' ho' hx' e1 e2 e4 e5, .next, k⟩

-- several targets
structure Asgs (G : Gnd) (env : Env) (ts : List PySem.Expr) (ds : List D) (ρ ρ' : Loc) : Prop where
  run : ∀ A Z H s vs, Room 0 A → St G env Z H ρ s → RepAll G Z vs ds → wpAny (model G.prog G.w) A (assignInOrder ((assignEach ts env).map (·.2)) vs) (fun _ s' => ∃ Z', Zle Z Z' ∧ St G env Z' H ρ' s') (fun _ _ => False) s
  len : (assignEach ts env).length = ds.length
  star : (assignEach ts env).findIdx? (·.1) = none
theorem asgs_nil : Asgs G env [] [] ρ ρ := ⟨fun A Z H s vs R S r => wpAny_pure ⟨Z, Zle.same, S⟩, rfl, rfl⟩
theorem asgs_cons {t : PySem.Expr} {ts : List PySem.Expr} {d : D} {ds : List D} {ρ'' : Loc} (h : Asg G env t d ρ ρ') (hs : Asgs G env ts ds ρ' ρ'') (hst : isStarred t = false) : Asgs G env (t :: ts) (d :: ds) ρ ρ'' := by
  have e : assignEach (t :: ts) env = (false, assign t env) :: assignEach ts env := by cases t <;> first | rfl | cases hst
  refine ⟨fun A Z H s vs R S r => ?_, ?_, ?_⟩
  · cases r with
    | cons r rs =>
      rw [e]
      refine assignInOrder_cons (wp_seq (h.run A Z H s _ R S r) fun _ s₁ ⟨Z₁, le₁, S₁⟩ => ?_)
      exact wp_seq (hs.run A Z₁ H s₁ _ R S₁ (rs.mono le₁)) fun _ s₂ ⟨Z₂, le₂, S₂⟩ => ⟨Z₂, le₁.trans le₂, S₂⟩
  · rw [e, List.length_cons, List.length_cons, hs.len]
  · rw [e, List.findIdx?_cons, hs.star]; rfl
theorem asg_tuple {ts : List PySem.Expr} {ds : List D} {k : Nat} (h : Asgs G env ts ds ρ ρ') : Asg G env (.Tuple ts k pos) (.tup ds) ρ ρ' := Asg.mk fun A Z H s v R S r => by
  cases r with
  | @tup a vs j _ hz ra =>
    have ht := isTuple_of (S.zin _ _ hz)
    refine wpAny_assign_Tuple R.handled ht (by rw [h.len, List.size_toArray, ra.length]) h.star fun h' he => ?_
    have x : Ext Z s Z { s with heap := h' } := ⟨Zle.same, fun b o e => he b o (fun q => by rw [q, get?_size_none] at e; cases e) e, fun b o e => he b o (fun q => by have := S.zin b o e; rw [q, get?_size_none] at this; cases this) (S.zin b o e), fun _ _ h => .inl h, rfl, rfl, Nat.le_refl _⟩
    exact h.run A Z H _ vs R (S.ext x) ra

theorem op_mul_str {x : Str} {i : Int} (h : MulOk x i) : Op2 G (binaryOp .Mult) (.str x) (.int i) (.str (Txt.mul x i)) := Op2.mk fun A Z s v₁ v₂ R b r₁ r₂ => by
  cases r₁; cases r₂
  exact wp_tok (SB.mul h fun t' k tok => b.y tok (.str _ _))
end
end Mine
end
section
open PySem PySem.W PyProof.Rows PySem.Builtin PySem.Builtin.Str PySem.StrLaws
set_option linter.unusedVariables false
namespace Mine

def prep (u : List Nat) : List (List Nat) → List (List Nat)
  | [] => [u]
  | h :: t => (u ++ h) :: t
theorem prep_nil {a : List Nat} {r : List (List Nat)} : prep [] (a :: r) = a :: r := rfl
theorem prep_prep (u v : List Nat) (x : List (List Nat)) : prep u (prep v x) = prep (u ++ v) x := by
  cases x <;> simp [prep]

/-- the parts between the places of p, from the left -/
def splitG (p l : List Nat) : List (List Nat) :=
  if h : p ≠ [] ∧ p.isPrefixOf l = true then [] :: splitG p (l.drop p.length)
  else match l with
    | [] => [[]]
    | c :: r => prep [c] (splitG p r)
termination_by l.length
decreasing_by
  · obtain ⟨h1, h2⟩ := h
    have := (List.isPrefixOf_iff_prefix.mp h2).length_le
    cases p with
    | nil => exact absurd rfl h1
    | cons a q => simp at this ⊢; omega
  · simp

theorem splitG_hit {p l : List Nat} (h1 : p ≠ []) (h2 : p <+: l) : splitG p l = [] :: splitG p (l.drop p.length) := by
  rw [splitG, dif_pos ⟨h1, List.isPrefixOf_iff_prefix.mpr h2⟩]
theorem splitG_nil {p : List Nat} (h1 : p ≠ []) : splitG p [] = [[]] := by
  rw [splitG, dif_neg]
  rintro ⟨_, h⟩
  exact h1 (List.prefix_nil.mp (List.isPrefixOf_iff_prefix.mp h))
theorem splitG_miss {p r : List Nat} {c : Nat} (h : ¬ p <+: c :: r) : splitG p (c :: r) = prep [c] (splitG p r) := by
  rw [splitG, dif_neg]
  rintro ⟨_, h'⟩
  exact h (List.isPrefixOf_iff_prefix.mp h')
theorem splitG_ne (p l : List Nat) (h1 : p ≠ []) : ∃ a r, splitG p l = a :: r := by
  by_cases h : p <+: l
  · exact ⟨_, _, splitG_hit h1 h⟩
  · cases l with
    | nil => exact ⟨_, _, splitG_nil h1⟩
    | cons c r =>
      rw [splitG_miss h]
      cases splitG p r with
      | nil => exact ⟨_, _, rfl⟩
      | cons a q => exact ⟨_, _, rfl⟩
/-- nothing begins in u -/
theorem splitG_skip {p : List Nat} (h1 : p ≠ []) : ∀ (u l : List Nat), (∀ k, k < u.length → ¬ p <+: (u ++ l).drop k) → splitG p (u ++ l) = prep u (splitG p l)
  | [], l, _ => by
    obtain ⟨a, r, e⟩ := splitG_ne p l h1
    rw [List.nil_append, e]; rfl
  | c :: u, l, h => by
    have h0 := h 0 (by simp)
    rw [List.cons_append, splitG_miss (by simpa using h0), splitG_skip h1 u l fun k hk => by simpa using h (k + 1) (by simpa using hk), prep_prep]
    rfl

/-- each place of p becomes q -/
def replG (p q l : List Nat) : List Nat := ((splitG p l).intersperse q).flatten
theorem flat_prep (q u : List Nat) : ∀ x : List (List Nat), x ≠ [] → ((prep u x).intersperse q).flatten = u ++ (x.intersperse q).flatten
  | [], h => absurd rfl h
  | [a], _ => by simp [prep]
  | a :: b :: r, _ => by simp [prep, List.intersperse]
theorem replG_nil {p q : List Nat} (h1 : p ≠ []) : replG p q [] = [] := by unfold replG; rw [splitG_nil h1]; rfl
theorem replG_hit {p q l : List Nat} (h1 : p ≠ []) : replG p q (p ++ l) = q ++ replG p q l := by
  unfold replG
  rw [splitG_hit h1 (List.prefix_append p l), List.drop_left]
  obtain ⟨a, r, e⟩ := splitG_ne p l h1
  rw [e]
  simp [List.intersperse]
theorem replG_skip {p q : List Nat} (h1 : p ≠ []) (u l : List Nat) (h : ∀ k, k < u.length → ¬ p <+: (u ++ l).drop k) : replG p q (u ++ l) = u ++ replG p q l := by
  unfold replG
  rw [splitG_skip h1 u l h, flat_prep]
  obtain ⟨a, r, e⟩ := splitG_ne p l h1
  rw [e]; simp
theorem replG_free {p q : List Nat} {a : Nat} (u l : List Nat) (h : a ∉ u) : replG (a :: p) q (u ++ l) = u ++ replG (a :: p) q l := by
  refine replG_skip (by simp) u l fun k hk hp => ?_
  rw [List.drop_append_of_le_length (Nat.le_of_lt hk), List.drop_eq_getElem_cons hk] at hp
  obtain ⟨t, ht⟩ := hp
  rw [List.cons_append, List.cons_append] at ht
  exact h ((List.cons.inj ht).1 ▸ List.getElem_mem hk)

theorem at_iff (l p : List Nat) (k : Nat) (h1 : p ≠ []) : At (T l) (T p) (T l).length k ↔ p <+: l.drop k := by
  unfold At
  rw [subAt_eq, T_length, T_length, T_list, T_list]
  constructor
  · rintro ⟨_, h⟩
    exact ⟨_, by rw [← beq_iff_eq.mp h]; exact List.take_append_drop _ _⟩
  · rintro ⟨t, h⟩
    have hl : (l.drop k).length = p.length + t.length := by rw [← h]; simp
    rw [List.length_drop] at hl
    have : 0 < p.length := List.length_pos_iff.mpr h1
    refine ⟨by omega, ?_⟩
    rw [← h, List.take_left]
    simp

theorem parts_split (l p : List Nat) (h1 : p ≠ []) : ∀ (cuts : List Nat) (a f : Nat), a ≤ l.length → ChainG (T l) (T p) (T l).length a cuts f → (∀ k, f ≤ k → ¬ At (T l) (T p) (T l).length k) →
    (partsFrom (T l) (T p).length a cuts) = (splitG p (l.drop a)).map T
  | [], a, f, ha, h, hn => by
    have e : f = a := h
    subst e
    have : splitG p (l.drop f) = [l.drop f] := by
      have := splitG_skip h1 (l.drop f) [] fun k hk => by
        rw [List.append_nil, List.drop_drop]
        exact fun q => hn (f + k) (by omega) ((at_iff l p _ h1).mpr q)
      rw [List.append_nil, splitG_nil h1] at this
      rw [this]; simp [prep]
    rw [this]
    show [strSub (T l) f (T l).length] = [T (l.drop f)]
    congr 1
    rw [← T_of (strSub (T l) f (T l).length), strSub_toList, T_list, T_length]
    congr 1
    exact List.take_of_length_le (by simp)
  | c :: r, a, f, ha, h, hn => by
    obtain ⟨h2, h3, h4, h5⟩ := h
    have hp := (at_iff l p c h1).mp h3
    have hc : c + p.length ≤ l.length := by
      have := h3.1
      rwa [T_length, T_length] at this
    have ih := parts_split l p h1 r (c + (T p).length) f (by rw [T_length]; exact hc) h5 hn
    show strSub (T l) a c :: partsFrom (T l) (T p).length (c + (T p).length) r = _
    rw [ih, T_length]
    have e : l.drop a = (l.drop a).take (c - a) ++ l.drop c := by
      conv => lhs; rw [← List.take_append_drop (c - a) (l.drop a)]
      rw [List.drop_drop, show a + (c - a) = c by omega]
    have hl : ((l.drop a).take (c - a)).length = c - a := by rw [List.length_take, List.length_drop]; omega
    have hs := splitG_skip h1 ((l.drop a).take (c - a)) (l.drop c) fun k hk => by
      rw [← e, List.drop_drop]
      rw [hl] at hk
      exact fun q => h4 (a + k) (by omega) (by omega) ((at_iff l p _ h1).mpr q)
    rw [← e] at hs
    rw [hs, splitG_hit h1 hp, List.drop_drop]
    show _ = T ((l.drop a).take (c - a) ++ []) :: _
    rw [List.append_nil, ← T_of (strSub (T l) a c), strSub_toList, T_list]

theorem kind_le (x y : List Nat) (h : ∀ c ∈ y, c ∈ x) : Str.strKind (T y) ≤ Str.strKind (T x) := by
  have key : ∀ B : Nat, (T x).cps.all (· < B) = true → (T y).cps.all (· < B) = true := fun B hB => by
    rw [← Array.all_toList] at hB ⊢
    rw [List.all_eq_true] at hB ⊢
    exact fun c hc => hB c (h c hc)
  unfold Str.strKind
  split
  · split <;> (try split) <;> omega
  · rename_i n1
    rw [if_neg fun q => n1 (key _ q)]
    split
    · split <;> omega
    · rename_i n2
      rw [if_neg fun q => n2 (key _ q)]
      exact Nat.le_refl _

theorem split_T (l p : List Nat) (h1 : p ≠ []) : Txt.split (T l) (T p) = (splitG p l).map T := by
  have hw : 1 ≤ (T p).length := by rw [T_length]; exact List.length_pos_iff.mpr h1
  obtain ⟨f, hc, hn⟩ := occ_tight (T l) (T p) hw
  have main := parts_split l p h1 _ 0 f (Nat.zero_le _) hc hn
  rw [List.drop_zero] at main
  rw [← main]
  have whole : ∀ o, o = [] → [T l] = partsFrom (T l) (T p).length 0 o := fun o e => by
    subst e
    show _ = [strSub (T l) 0 (T l).length]
    rw [sub_whole]
  unfold Txt.split
  split
  · rename_i hx
    refine whole _ ?_
    cases ho : occurrences (T l) (T p) 0 (T l).length ((T l).length + 1) with
    | nil => rfl
    | cons c r =>
      exfalso
      rw [ho] at hc
      have hp := (at_iff l p c h1).mp hc.2.1
      rw [Bool.or_eq_true, decide_eq_true_eq, decide_eq_true_eq] at hx
      rcases hx with hx | hx
      · have := hc.2.1.1
        omega
      · have : Str.strKind (T p) ≤ Str.strKind (T l) := kind_le l p fun c' hc' => List.mem_of_mem_drop (hp.subset hc')
        omega
  · split
    · rename_i he
      exact whole _ (List.isEmpty_iff.mp he)
    · rw [partsBetween_eq]

theorem join_split_T (l p q : List Nat) (h1 : p ≠ []) : Txt.join (T q) (Txt.split (T l) (T p)) = T (replG p q l) := by
  rw [split_T l p h1]
  unfold Txt.join
  rw [glued_eq_join]
  exact join_list q _

end Mine
end
section
open PySem PySem.W PyProof.Rows PySem.Builtin PySem.Builtin.Str PySem.StrLaws
set_option linter.unusedVariables false
namespace Mine

/-- p cannot begin in u, whatever stands behind u -/
def apart (p u : List Nat) : Bool := (List.range u.length).all fun j => !(p.isPrefixOf (u.drop j)) && !((u.drop j).isPrefixOf p)
theorem apart_spec {p u : List Nat} (h : apart p u = true) (rest : List Nat) (k : Nat) (hk : k < u.length) : ¬ p <+: (u ++ rest).drop k := by
  intro hp
  have := List.all_eq_true.mp h k (List.mem_range.mpr hk)
  rw [Bool.and_eq_true, Bool.not_eq_true', Bool.not_eq_true'] at this
  rw [List.drop_append_of_le_length (Nat.le_of_lt hk)] at hp
  obtain ⟨h1, h2⟩ := this
  rcases List.prefix_or_prefix_of_prefix hp (List.prefix_append (u.drop k) rest) with q | q
  · rw [List.isPrefixOf_iff_prefix.mpr q] at h1; cases h1
  · rw [List.isPrefixOf_iff_prefix.mpr q] at h2; cases h2

/-- the seven signs, numbered -/
def sgnIdx (k : Nat) : Option Nat := if k = 38 then some 0 else if k = 60 then some 1 else if k = 62 then some 2 else if k = 34 then some 3 else if k = 13 then some 4 else if k = 10 then some 5 else if k = 9 then some 6 else none
def spellF (f : Nat → List Nat) (k : Nat) : List Nat := match sgnIdx k with
  | some j => f j
  | none => [k]
def escF (f : Nat → List Nat) (l : List Nat) : List Nat := l.flatMap (spellF f)
theorem escF_cons (f : Nat → List Nat) (k : Nat) (r : List Nat) : escF f (k :: r) = spellF f k ++ escF f r := by simp [escF]
theorem sgnIdx_lt {k j : Nat} (h : sgnIdx k = some j) : j < 7 := by
  unfold sgnIdx at h
  repeat' split at h
  all_goals first | (cases h; decide) | cases h
theorem escF_congr {f g : Nat → List Nat} (h : ∀ j, j < 7 → f j = g j) (l : List Nat) : escF f l = escF g l := by
  unfold escF
  congr 1
  funext k
  unfold spellF
  cases hk : sgnIdx k with
  | none => rfl
  | some j => exact h j (sgnIdx_lt hk)
theorem escF_repl {f f' : Nat → List Nat} {h : Nat} {t q : List Nat} (hh : (sgnIdx h).isSome = true) (ok : ∀ j, j < 7 → (f j = h :: t ∧ f' j = q) ∨ (f' j = f j ∧ apart (h :: t) (f j) = true)) (l : List Nat) : replG (h :: t) q (escF f l) = escF f' l := by
  induction l with
  | nil => exact replG_nil (by simp)
  | cons k r ih =>
    rw [escF_cons, escF_cons]
    unfold spellF
    cases hk : sgnIdx k with
    | none =>
      have : h ≠ k := fun e => by rw [e, hk] at hh; cases hh
      dsimp only
      rw [replG_free [k] _ (by simpa using this), ih]
    | some j =>
      dsimp only
      rcases ok j (sgnIdx_lt hk) with ⟨e1, e2⟩ | ⟨e1, e2⟩
      · rw [e1, e2, replG_hit (by simp), ih]
      · rw [e1, replG_skip (by simp) _ _ (apart_spec e2 _), ih]
theorem escF_le {f : Nat → List Nat} (h : ∀ j, j < 7 → (f j).length ≤ 8) (l : List Nat) : (escF f l).length ≤ 8 * l.length := by
  induction l with
  | nil => simp [escF]
  | cons k r ih =>
    rw [escF_cons, List.length_append, List.length_cons, Nat.mul_succ]
    have : (spellF f k).length ≤ 8 := by
      unfold spellF
      cases hk : sgnIdx k with
      | none => simp
      | some j => exact h j (sgnIdx_lt hk)
    omega
/-- a table with the signs' numbers -/
theorem escBy_F {t : Tbl} {f : Nat → List Nat} (h : [38, 60, 62, 34, 13, 10, 9].all (fun k => spell t k == spellF f k) = true) (ht : t.all (fun p => (sgnIdx p.1).isSome) = true) (l : List Nat) : escBy t l = escF f l := by
  unfold escBy escF
  congr 1
  funext k
  by_cases hk : k ∈ [38, 60, 62, 34, 13, 10, 9]
  · exact beq_iff_eq.mp (List.all_eq_true.mp h k hk)
  · have hn : sgnIdx k = none := by
      simp only [List.mem_cons, List.not_mem_nil, or_false, not_or] at hk
      unfold sgnIdx
      simp [hk]
    unfold spellF spell
    rw [hn]
    have : t.lookup k = none := by
      clear h
      induction t with
      | nil => rfl
      | cons p r ih =>
        obtain ⟨a, b⟩ := p
        rw [List.all_cons, Bool.and_eq_true] at ht
        rw [List.lookup_cons, beq_eq_false_iff_ne.mpr (fun e => by rw [e] at hn; rw [hn] at ht; cases ht.1)]
        exact ih ht.2
    rw [this]; rfl

def cs (x : Str) : List Nat := x.cps.toList
def spelled07 : List (List Str) := [["&amp;", "&lt;", "&gt;", "\"", "\r", "\n", "\t"], ["&amp;", "&lt;", "&gt;", "&quot;", "&#13;", "&#10;", "&#09;"], ["&amp;", "<", "&gt;", "&quot;", "\r", "\n", "\t"], ["&amp;", "&lt;", "&gt;", "\"", "&#xD;", "\n", "\t"],
  ["&amp;", "&lt;", ">", "&quot;", "&#xD;", "&#xA;", "&#x9;"], ["&", "<", ">", "\"", "\r", "\n", "\t"]]
def spN : List (List (List Nat)) := [[[38, 97, 109, 112, 59], [38, 108, 116, 59], [38, 103, 116, 59], [34], [13], [10], [9]],
  [[38, 97, 109, 112, 59], [38, 108, 116, 59], [38, 103, 116, 59], [38, 113, 117, 111, 116, 59], [38, 35, 49, 51, 59], [38, 35, 49, 48, 59], [38, 35, 48, 57, 59]],
  [[38, 97, 109, 112, 59], [60], [38, 103, 116, 59], [38, 113, 117, 111, 116, 59], [13], [10], [9]],
  [[38, 97, 109, 112, 59], [38, 108, 116, 59], [38, 103, 116, 59], [34], [38, 35, 120, 68, 59], [10], [9]],
  [[38, 97, 109, 112, 59], [38, 108, 116, 59], [62], [38, 113, 117, 111, 116, 59], [38, 35, 120, 68, 59], [38, 35, 120, 65, 59], [38, 35, 120, 57, 59]],
  [[38], [60], [62], [34], [13], [10], [9]]]
theorem spN_eq : spelled07 = spN.map (·.map T) := by decide +kernel
def spj (a j : Nat) : List Nat := (spN.getD a []).getD j []

/-- what the escapes allow -/
def allApart : Bool := (List.range 5).all fun a => (List.range 6).all fun b => (List.range 7).all fun c => spj a c == spj b c || (List.range 7).all fun j => j == c || ((j == 0 || apart (spj a c) (spj b j)) && (c == 0 || apart (spj a c) (spj a j)))
theorem allApart_true : allApart = true := by decide +kernel
theorem apart_at {a b c j : Nat} (ha : a < 5) (hb : b < 6) (hc : c < 7) (hj : j < 7) (hn : spj a c ≠ spj b c) (hjc : j ≠ c) : (j ≠ 0 → apart (spj a c) (spj b j) = true) ∧ (c ≠ 0 → apart (spj a c) (spj a j) = true) := by
  have h := allApart_true
  unfold allApart at h
  have h1 := List.all_eq_true.mp h a (List.mem_range.mpr ha)
  have h2 := List.all_eq_true.mp h1 b (List.mem_range.mpr hb)
  have h3 := List.all_eq_true.mp h2 c (List.mem_range.mpr hc)
  rw [Bool.or_eq_true] at h3
  rcases h3 with h3 | h3
  · exact absurd (beq_iff_eq.mp h3) hn
  · have h4 := List.all_eq_true.mp h3 j (List.mem_range.mpr hj)
    rw [Bool.or_eq_true] at h4
    rcases h4 with h4 | h4
    · exact absurd (beq_iff_eq.mp h4) hjc
    · rw [Bool.and_eq_true, Bool.or_eq_true, Bool.or_eq_true, beq_iff_eq, beq_iff_eq] at h4
      exact ⟨fun q => h4.1.resolve_left q, fun q => h4.2.resolve_left q⟩

def headOk : Bool := (List.range 6).all fun a => (List.range 7).all fun c => match spj a c with
  | h :: t => (sgnIdx h).isSome && decide (t.length ≤ 7)
  | [] => false
theorem spj_head {a c : Nat} (ha : a < 6) (hc : c < 7) : ∃ h t, spj a c = h :: t ∧ (sgnIdx h).isSome = true ∧ t.length ≤ 7 := by
  have h : headOk = true := by decide +kernel
  have h1 := List.all_eq_true.mp h a (List.mem_range.mpr ha)
  have h2 := List.all_eq_true.mp h1 c (List.mem_range.mpr hc)
  revert h2
  cases spj a c with
  | nil => intro h; cases h
  | cons x t => intro h; rw [Bool.and_eq_true, decide_eq_true_eq] at h; exact ⟨x, t, rfl, h.1, h.2⟩

/-- the signs of `done` are spelled by b's way, the others by a's -/
def mix (a b : Nat) (done : List Nat) (j : Nat) : List Nat := if j ∈ done then spj b j else spj a j
theorem mix_step {a b c : Nat} {done : List Nat} (ha : a < 5) (hb : b < 6) (hc : c < 7) (hcd : c ∉ done) (h0 : 0 ∉ done) (hall : c = 0 → ∀ j, 0 < j → j < 7 → j ∈ done) (hn : spj a c ≠ spj b c) (l : List Nat) :
    replG (spj a c) (spj b c) (escF (mix a b done) l) = escF (mix a b (done ++ [c])) l := by
  obtain ⟨h, t, e, hh, _⟩ := spj_head (a := a) (by omega) hc
  rw [e]
  refine escF_repl hh (fun j hj => ?_) l
  by_cases q : j = c
  · subst q
    left
    unfold mix
    rw [if_neg hcd, if_pos (by simp)]
    exact ⟨e, rfl⟩
  · right
    have e' : mix a b (done ++ [c]) j = mix a b done j := by
      unfold mix
      simp [q]
    refine ⟨e', ?_⟩
    rw [← e]
    obtain ⟨h1, h2⟩ := apart_at ha hb hc hj hn q
    unfold mix
    by_cases hm : j ∈ done
    · rw [if_pos hm]
      exact h1 fun z => h0 (z ▸ hm)
    · rw [if_neg hm]
      refine h2 fun z => hm (hall z j (Nat.pos_of_ne_zero ?_) hj)
      intro z'
      exact q (z'.trans z.symm)
theorem mix_same {a b c : Nat} {done : List Nat} (he : spj a c = spj b c) (l : List Nat) : escF (mix a b done) l = escF (mix a b (done ++ [c])) l := by
  refine escF_congr (fun j _ => ?_) l
  unfold mix
  by_cases q : j = c
  · subst q; simp [he]
  · simp [q]
theorem mix_nil (a b : Nat) (l : List Nat) : escF (mix a b []) l = escF (spj a) l := escF_congr (fun j _ => by simp [mix]) l
theorem mix_all {a b : Nat} {done : List Nat} (h : ∀ j, j < 7 → j ∈ done) (l : List Nat) : escF (mix a b done) l = escF (spj b) l := escF_congr (fun j hj => by simp [mix, h j hj]) l
theorem spj_le {a j : Nat} (ha : a < 6) (hj : j < 7) : (spj a j).length ≤ 8 := by
  obtain ⟨h, t, e, _, ht⟩ := spj_head ha hj
  rw [e, List.length_cons]; omega
theorem mix_le {a b : Nat} (ha : a < 6) (hb : b < 6) (done l : List Nat) : (escF (mix a b done) l).length ≤ 8 * l.length := escF_le (fun j hj => by
  unfold mix
  split
  · exact spj_le hb hj
  · exact spj_le ha hj) l
theorem plain_F (l : List Nat) : escF (spj 5) l = l := (escBy_F (t := []) (by decide) rfl l).symm.trans (escBy_nil l)
end Mine
end
section
open PySem PySem.W PyProof.Rows PySem.Builtin PySem.Builtin.Str
set_option linter.unusedVariables false
set_option maxRecDepth 100000
namespace Mine
section
variable {G : Gnd} {env : Env} {Z Z' H : Zf} {ρ ρ' ρc : Loc} {s s' : Shared} {A : Around} {E : Value → Shared → Prop} {n : Nat} {pos apos : Pos}

theorem fmod_bounds {a m : Int} (hm : 0 < m) : 0 ≤ a.fmod m ∧ a.fmod m < m := ⟨Int.fmod_nonneg_of_pos a hm, Int.fmod_lt_of_pos a hm⟩
/-- one of a row of texts, by a remainder -/
theorem sb_menu {value slice : PySem.Expr} {xs : List Str} {a m : Int} (hm : m = (xs.length : Int)) (h0 : 0 < xs.length) (hb : xs.length < 1000000) : Sb G value slice (.list (txs xs)) (.int (a.fmod m)) (.str (xs.getD (a.fmod m).toNat Str.empty)) := by
  have := fmod_bounds (a := a) (m := m) (by omega)
  refine sb_list this.1 (by omega) ?_
  rw [List.getElem?_map]
  have hlt : (a.fmod m).toNat < xs.length := by omega
  rw [List.getElem?_eq_getElem hlt, List.getD_eq_getElem?_getD, List.getElem?_eq_getElem hlt]
  rfl
theorem ev_ifint {t b o : PySem.Expr} {c : Bool} {i j : Int} (h : Tst G env n ρ t c) (h₁ : c = true → Ev G env n ρ b (.int i)) (h₂ : c = false → Ev G env n ρ o (.int j)) : Ev G env n ρ (.IfExp t b o pos) (.int (if c then i else j)) := by
  have := ev_ifexp (pos := pos) h h₁ h₂
  cases c <;> exact this
def codeOf (i : Int) : Int := if decide (i < 55296) = true then i else i + 2048
theorem codeOf_bounds (a : Int) : 0 ≤ codeOf (a.fmod 1112064) ∧ codeOf (a.fmod 1112064) ≤ 1114111 := by
  have := fmod_bounds (a := a) (m := 1112064) (by decide)
  unfold codeOf
  split <;> omega
theorem joinOk_of {sep : Str} {xs : List Str} {m : Nat} (h : ∀ x ∈ xs, x.length ≤ m) (hb : xs.length * (m + sep.length) ≤ sizeLine) : JoinOk sep xs = true := by
  have key : ∀ (xs : List Str) (k : Nat), (∀ x ∈ xs, x.length ≤ m) → xs.foldl (· + ·.length + sep.length) k ≤ k + xs.length * (m + sep.length) := by
    intro xs
    induction xs with
    | nil => intro k _; simp
    | cons x r ih =>
      intro k h
      rw [List.foldl_cons, List.length_cons, Nat.succ_mul]
      have h1 := ih (k + x.length + sep.length) fun y hy => h y (List.mem_cons_of_mem _ hy)
      have h2 := h x List.mem_cons_self
      omega
  unfold JoinOk
  have := key xs 0 h
  rw [List.foldl_toArray]
  unfold Builtin.Str.tooLong
  simp
  omega
theorem joinOk_sum {sep : Str} {xs : List Str} (hb : (xs.map (·.length)).sum + xs.length * sep.length ≤ sizeLine) : JoinOk sep xs = true := by
  have key : ∀ (xs : List Str) (k : Nat), xs.foldl (· + ·.length + sep.length) k = k + ((xs.map (·.length)).sum + xs.length * sep.length) := by
    intro xs
    induction xs with
    | nil => intro k; simp
    | cons x r ih =>
      intro k
      rw [List.foldl_cons, ih, List.map_cons, List.sum_cons, List.length_cons, Nat.succ_mul]
      omega
  unfold JoinOk
  rw [List.foldl_toArray, key]
  unfold Builtin.Str.tooLong
  simp
  omega
theorem prep_sum (c : Nat) : ∀ x : List (List Nat), x ≠ [] → ((prep [c] x).map List.length).sum = (x.map List.length).sum + 1 ∧ (prep [c] x).length = x.length
  | [], h => absurd rfl h
  | a :: r, _ => by simp [prep]; omega
theorem splitG_sum {p : List Nat} (h1 : p ≠ []) : ∀ (k : Nat) (l : List Nat), l.length ≤ k → ((splitG p l).map List.length).sum ≤ l.length ∧ (splitG p l).length ≤ l.length + 1
  | 0, l, hk => by
    have : l = [] := List.length_eq_zero_iff.mp (by omega)
    subst this
    rw [splitG_nil h1]; simp
  | k + 1, l, hk => by
    by_cases hp : p <+: l
    · rw [splitG_hit h1 hp]
      have hle := hp.length_le
      have hpos : 0 < p.length := List.length_pos_iff.mpr h1
      have ih := splitG_sum h1 k (l.drop p.length) (by rw [List.length_drop]; omega)
      rw [List.length_drop] at ih
      rw [List.map_cons, List.sum_cons, List.length_cons]
      simp only [List.length_nil]
      omega
    · cases l with
      | nil => rw [splitG_nil h1]; simp
      | cons c r =>
        rw [splitG_miss hp]
        have ih := splitG_sum h1 k r (by simpa using hk)
        obtain ⟨a, q, e⟩ := splitG_ne p r h1
        have := prep_sum c (splitG p r) (by rw [e]; simp)
        rw [List.length_cons]
        omega
theorem joinOk_split {l p q : List Nat} (h1 : p ≠ []) (hb : l.length + (l.length + 1) * q.length ≤ sizeLine) : JoinOk (T q) (Txt.split (T l) (T p)) = true := by
  rw [split_T l p h1]
  have h := splitG_sum h1 l.length l (Nat.le_refl _)
  refine joinOk_sum ?_
  rw [List.map_map, List.length_map, T_length]
  have e : ((fun x : Str => x.length) ∘ T) = List.length := by funext x; exact T_length x
  rw [e]
  have := Nat.mul_le_mul_right q.length h.2
  omega
theorem mulOk_small {x : Str} {i : Int} (hx : x.length ≤ 1000) (h1 : 1 ≤ i) (h2 : i ≤ 1000) : MulOk x i := by
  refine ⟨?_, fun _ _ => ?_, fun _ _ => ?_⟩
  · simp; omega
  · have : (1000 : Int) ≤ (2 ^ 63 - 1) / i := by
      rw [Int.le_ediv_iff_mul_le (by omega)]
      omega
    omega
  · unfold Builtin.Str.tooLong
    have : x.length * i.toNat ≤ 1000 * 1000 := Nat.mul_le_mul hx (by omega)
    have : 1000 * 1000 ≤ sizeLine := by decide
    simp
    omega
theorem mul_len {x : Str} {i : Int} (h1 : 1 ≤ i) : (Txt.mul x i).length ≤ x.length * i.toNat := by
  have key : ∀ (k : Nat) (acc : Array Nat), ((List.replicate k x.cps).foldl (· ++ ·) acc).size = acc.size + k * x.cps.size := by
    intro k
    induction k with
    | zero => intro acc; simp
    | succ k ih => intro acc; rw [List.replicate_succ, List.foldl_cons, ih, Array.size_append, Nat.succ_mul]; omega
  unfold Txt.mul
  split
  · omega
  · split
    · have : 1 ≤ i.toNat := by omega
      exact Nat.le_mul_of_pos_right _ this
    · show ((List.replicate i.toNat x.cps).foldl (· ++ ·) #[]).size ≤ _
      rw [key]
      simp
      rw [Nat.mul_comm]
      exact Nat.le_refl _
theorem join_nil_len (xs : List Str) {m : Nat} (h : ∀ x ∈ xs, x.length ≤ m) : (Txt.join Str.empty xs).length ≤ xs.length * m := by
  unfold Txt.join
  rw [StrLaws.glued_eq_join]
  have h1 := StrLaws.join_length_le Str.empty xs
  have h2 : (xs.map (·.length)).sum ≤ xs.length * m := by
    clear h1
    induction xs with
    | nil => simp
    | cons x r ih =>
      rw [List.map_cons, List.sum_cons, List.length_cons, Nat.succ_mul]
      have := ih fun y hy => h y (List.mem_cons_of_mem _ hy)
      have := h x List.mem_cons_self
      omega
  have : Str.empty.length = 0 := rfl
  rw [this] at h1
  omega
theorem ex_append {x : Str} {p pos' : Pos} {e : PySem.Expr} {ds : List D} {Φ : Fl → Loc → Prop} (d : D) (hx : ρ.lookup x = some (.own ds)) (h : Ev G env n ρ e d) (hsz : ds.length ≤ sizeLine)
    (hd : (x == ("__debug__" : Str)) = false) (hst : isStarred e = false) (hline : (apos.endLine == pos.line) = true) (hin : interactive env = false)
    (k : Φ .next (upd ρ x (.own (ds ++ [d])))) : Ex G env n ρ (.Expr (.Call (.Attribute (.Name x p) "append" apos) [e] [] pos) pos') Φ :=
  ex_mut hx F.slot_list_append F.type_list_append (evs_more h evs_nil hst) (mut_append hsz) hd (by simp [hst]) (by show 1 < 30; decide) hline hin k
theorem comp1 {elt tgt iter : PySem.Expr} {ifs : List PySem.Expr} {scope : Scope} {α : Type} {xs : List α} {mk : α → D} {F : α → List D}
    (item : ∀ a ∈ xs, ∃ ρ₁ ok, Asg G env tgt (mk a) ρ ρ₁ ∧ Sub ρ ρ₁ ∧ Tsts G env n ρ₁ ifs ok ∧ (ok = false → F a = []) ∧ (ok = true → ∃ x, Ev G env n ρ₁ elt x ∧ F a = [x])) :
    CRun G env n (.ListComp elt [⟨tgt, iter, ifs, 0⟩] scope pos) 0 ρ (xs.map mk) (xs.flatMap F) := comp_last (iter := iter) (fun _ _ => rfl) item
theorem comp2b {elt tgt iter : PySem.Expr} {ifs : List PySem.Expr} {g : Comprehension} {scope : Scope} {α : Type} {xs : List α} {mk : α → D} {F : α → List D}
    (item : ∀ a ∈ xs, ∃ ρ₁ ok, Asg G env tgt (mk a) ρ ρ₁ ∧ Sub ρ ρ₁ ∧ Tsts G env n ρ₁ ifs ok ∧ (ok = false → F a = []) ∧ (ok = true → ∃ x, Ev G env n ρ₁ elt x ∧ F a = [x])) :
    CRun G env n (.ListComp elt [g, ⟨tgt, iter, ifs, 0⟩] scope pos) 1 ρ (xs.map mk) (xs.flatMap F) := comp_last (iter := iter) (fun _ _ => rfl) item
theorem comp2a {elt tgt iter tgt' iter' : PySem.Expr} {ifs ifs' : List PySem.Expr} {scope : Scope} {α : Type} {xs : List α} {mk : α → D} {F : α → List D} (hf : ∀ x, foldedSetIterable iter' env x = pure x)
    (item : ∀ a ∈ xs, ∃ ρ₁ ok, Asg G env tgt (mk a) ρ ρ₁ ∧ Sub ρ ρ₁ ∧ Tsts G env n ρ₁ ifs ok ∧ (ok = false → F a = []) ∧ (ok = true → ∃ d' ds', Ev G env n ρ₁ iter' d' ∧ Itr G d' ds' ∧ CRun G env n (.ListComp elt [⟨tgt, iter, ifs, 0⟩, ⟨tgt', iter', ifs', 0⟩] scope pos) 1 ρ₁ ds' (F a))) :
    CRun G env n (.ListComp elt [⟨tgt, iter, ifs, 0⟩, ⟨tgt', iter', ifs', 0⟩] scope pos) 0 ρ (xs.map mk) (xs.flatMap F) := comp_more (iter := iter) rfl rfl rfl hf (fun _ _ => rfl) item
theorem eraseIdx_map' {α β : Type} (f : α → β) : ∀ (l : List α) (i : Nat), (l.map f).eraseIdx i = (l.eraseIdx i).map f
  | [], _ => rfl
  | a :: r, 0 => rfl
  | a :: r, i + 1 => by simp [eraseIdx_map' f r i]
theorem erase_perm {α : Type} {k : α} : ∀ {l : List α} {i : Nat}, l[i]? = some k → (k :: l.eraseIdx i).Perm l
  | [], _, h => by simp at h
  | a :: r, 0, h => by simp at h; subst h; exact List.Perm.refl _
  | a :: r, i + 1, h => by
    have := erase_perm (l := r) (i := i) (by simpa using h)
    exact (List.Perm.swap a k _).trans (this.cons a)
theorem mulOk_two {b : Int} : IntMulOk 2 b := by
  unfold IntMulOk
  rw [show decide (Builtin.Int.intBits 2 > shortFactorBits) = false from by decide +kernel]
  simp
/-- both ways of a test meet again -/
theorem exs_if_join {t : PySem.Expr} {body orelse rest : List Stmt} {c : Bool} {Φ : Fl → Loc → Prop} (ρ₁ : Loc) (h : Tst G env n ρ t c) (k : Exs G env n ρ₁ rest Φ)
    (h₁ : c = true → Exs G env n ρ body (Then Φ fun ρ' => Sub ρ₁ ρ')) (h₂ : c = false → Exs G env n ρ orelse (Then Φ fun ρ' => Sub ρ₁ ρ')) : Exs G env n ρ (.If t body orelse pos :: rest) Φ := by
  have go : ∀ {sts : List Stmt}, Exs G env n ρ sts (Then Φ fun ρ' => Sub ρ₁ ρ') → Exs G env n ρ sts (Then Φ fun ρ' => Exs G env n ρ' rest Φ) := fun h => exs_mono h fun fl ρ' q => by
    cases fl with
    | next => exact exs_weaken q k
    | brk => exact q
    | cont => exact q
    | ret d => exact q
  exact exs_cons (ex_if h (fun e => go (h₁ e)) fun e => go (h₂ e))
end
end Mine
end
section
open PySem PySem.W PyProof.Rows
set_option linter.unusedVariables false
set_option maxRecDepth 100000
namespace Mine
section
variable {G : Gnd} {env : Env} {Z Z' H : Zf} {ρ ρ' ρc : Loc} {s s' : Shared} {A : Around} {E : Value → Shared → Prop} {n : Nat} {pos apos : Pos} {prog : Program} {w : World}

theorem look_list_keys : typeLookup (.type "list") "keys" = pure none := by rw [typeLookup_type, builtinLookup_eq_fast]; kernel_rfl
theorem entry_update_loop : entryFor table "dict.update.loop" = some Builtin.«dict.update.loop» := entryFor_of_fast (by kernel_rfl)
theorem plain_update_loop : plainId "dict.update.loop" = true := by decide +kernel

/-- a list has no keys -/
theorem keys_miss {a : Addr} {xs : Array Value} {k : Nat} {Q : Option Value → Shared → Prop} (hx : s.heap.get? a = some (listOf xs k)) (hA : A.handled = none)
    (h : ∀ h' tk, (∀ b o, s.heap.get? b = some o → h'.get? b = some o) → Q none { s with heap := h', toks := tk }) : wpAny (model prog w) A (getAttr? (.ref a) "keys") Q E s := by
  obtain ⟨hp, g, d, tk, os⟩ := s
  have hT : ∀ tk', (⟨hp, g, d, tk', os⟩ : Shared).TypeIs (.ref a) "list" := fun _ => ⟨_, hx, rfl⟩
  have f1 := sub_AttributeError
  have f3 := F.slot_list_getattribute.lookup
  have f4 := F.slot_list_getattribute.bind (.ref a)
  have f5 := am_list_getattr_none
  unfold getAttr? getAttrBy? getAttrBy
  repeat (any_goals (first | assumption | exact hT _ | ((with_reducible show wpAny _ _ (call (Value.builtin "list.__getattribute__") _ _) _ _ _); refine call_meets F.slot_list_getattribute (hT _) am_entry_list_getattribute (F.args_list_getattribute_2 _ _) (meets_getattribute_miss_list a xs k #[] "keys" _ look_list_keys (by decide +kernel)) ⟨hx, hA, fun h' tk' e hx' => ?_⟩) | wp_step))
  obtain ⟨t', u', he⟩ := hx'.there
  show wpAny _ _ (getattributeRaised _ _ _ _ _ _ _) _ _ _
  unfold getattributeRaised
  repeat (any_goals (first | assumption | wp_step))
  all_goals first | exact h _ _ hx'.of.keeps | skip

theorem pairs_keys {kvs : List (Str × Value)} {k : Str} {v : Value} (hn : k ∉ kvs.map (·.1)) : stored kvs k v = kvs ++ [(k, v)] := by
  unfold stored
  rw [if_neg]
  intro h
  obtain ⟨p, hp, e⟩ := List.any_eq_true.mp h
  exact hn (List.mem_map.mpr ⟨p, hp, of_decide_eq_true e⟩)
theorem pair_items {v : Value} {k : Str} {d : D} {Q : List Value → Shared → Prop} (hz : ∀ a o, Z a = some o → s.heap.get? a = some o) (r : Rep G Z v (.tup [.str k, d])) (h : ∀ t u, Rep G Z u d → Q [.str k t, u] s) : wpAny (model prog w) A (Builtin.Dict.pairItems v) Q E s := by
  cases r with
  | @tup b vs j _ hzb ra =>
    cases ra with
    | cons r1 rs =>
      cases rs with
      | cons r2 rs =>
        cases rs
        cases r1 with
        | str _ t =>
          have hx := hz _ _ hzb
          obtain ⟨hp, g, dd, tk, os⟩ := s
          have hT : (⟨hp, g, dd, tk, os⟩ : Shared).TypeIs (.ref b) "tuple" := ⟨_, hx, rfl⟩
          unfold Builtin.Dict.pairItems
          wp_walk
          exact h t _ r2

/-- the turns of dict(..) over a row of pairs -/
theorem update_loop {I d : Addr} {ps : List (Str × D)} {fp : List Addr} {P : Nat → Value → Prop} {W : Nat → Heap → Prop} {R : Result → Shared → Prop} (hA : A.handled = none)
    (hW : ∀ A' : Around, A'.handled = none → Walks G.prog G.w A' I fp [I] ps.length P W) (hd : d ∉ fp) (hzI : Z I = none) (hP : ∀ i v, P i v → ∃ p, ps[i]? = some p ∧ Rep G Z v (.tup [.str p.1, p.2])) (hnd : (ps.map (·.1)).Nodup) (hsz : ps.length ≤ 1000) :
    ∀ (j i : Nat) (kvs : List (Str × Value)) (s : Shared), ps.length - i = j → i ≤ ps.length → (∀ a o, Z a = some o → s.heap.get? a = some o) → Z d = none → W i s.heap → s.heap.DictOf (strKind G.prog G.w) d kvs → kvs.map (·.1) = (ps.take i).map (·.1) → RepAll G Z (kvs.map (·.2)) ((ps.take i).map (·.2)) →
      (∀ kvs' h' t, h'.DictOf (strKind G.prog G.w) d kvs' → kvs'.map (·.1) = ps.map (·.1) → RepAll G Z (kvs'.map (·.2)) (ps.map (·.2)) → s.toks ≤ t → (∀ b o, b ≠ I → b ≠ d → s.heap.get? b = some o → h'.get? b = some o) → R (.ok (.ret .none)) { s with heap := h', toks := t }) →
      codeAny (model G.prog G.w) A (.builtin "dict.update.loop" ⟨[.ref d, .ref I, rawInt i, .none], []⟩) R s := by
  have W₀ := hW A.in1 hA
  intro j
  induction j with
  | zero =>
    intro i kvs s hj hi hz hzd hw hm hk hr hR
    have hin : i = ps.length := by omega
    subst hin
    refine codeAny_builtin entry_update_loop ?_
    rw [Around.under_plainId plain_update_loop _]
    show wpAny _ A.in1 (pyNext (.ref I) >>= _) _ _ s
    refine wpAny_bind (wpAny_with_toks (Nat.le_refl s.toks) (W₀.done s _ _ hw fun h' tk hk' tok => ?_))
    rw [List.take_length] at hk hr
    have hdI : d ≠ I := fun q => hd (q ▸ W₀.sub I (by simp))
    refine wpAny_pure (hR kvs h' tk ?_ hk hr tok fun b o h1 h2 e => hk' b o (by simpa using h1) e)
    obtain ⟨o, es, ep, ho, hrest⟩ := hm
    exact ⟨o, es, ep, hk' _ _ (by simpa using hdI) ho, hrest⟩
  | succ j ih =>
    intro i kvs s hj hi hz hzd hw hm hk hr hR
    have hlt : i < ps.length := by omega
    refine codeAny_builtin entry_update_loop ?_
    rw [Around.under_plainId plain_update_loop _]
    show wpAny _ A.in1 (pyNext (.ref I) >>= _) _ _ s
    refine wpAny_bind (wpAny_with_toks (Nat.le_refl s.toks) (W₀.item i s _ _ hlt hw fun v h' tk pv hW' hk' tok => ?_))
    obtain ⟨p, hp, rv⟩ := hP i v pv
    have hIfp : I ∈ fp := W₀.sub I (by simp)
    have hdI : d ≠ I := fun q => hd (q ▸ hIfp)
    have zI : ∀ a o, Z a = some o → a ≠ I := fun a o e q => by rw [q, hzI] at e; cases e
    have zd : ∀ a o, Z a = some o → a ≠ d := fun a o e q => by rw [q, hzd] at e; cases e
    have hz' : ∀ a o, Z a = some o → h'.get? a = some o := fun a o e => hk' a o (by simpa using zI a o e) (hz a o e)
    have hm' : h'.DictOf (strKind G.prog G.w) d kvs := by
      obtain ⟨o, es, ep, ho, hrest⟩ := hm
      exact ⟨o, es, ep, hk' _ _ (by simpa using hdI) ho, hrest⟩
    have tks : (ps.take (i + 1)) = ps.take i ++ [p] := by rw [List.take_add_one, hp]; rfl
    have hnew : p.1 ∉ kvs.map (·.1) := by
      rw [hk]
      intro hmem
      rw [← List.take_append_drop i ps, List.map_append] at hnd
      have hin : p.1 ∈ (ps.drop i).map (·.1) := List.mem_map.mpr ⟨p, List.mem_iff_getElem?.mpr ⟨0, by rw [List.getElem?_drop]; exact hp⟩, rfl⟩
      exact (List.nodup_append.mp hnd).2.2 _ hmem _ hin rfl
    have hlenk : kvs.length ≤ 1000 := by
      have := congrArg List.length hk
      rw [List.length_map, List.length_map, List.length_take] at this
      omega
    refine wpAny_bind (wpAny_holding (wpAny_bind (wpAny_tryCatch (pair_items (Z := Z) hz' rv fun t u ru => ?_))))
    have hl1 : kvs.length ≤ sizeLine := Nat.le_trans hlenk (by decide)
    refine wpAny_holding (wpAny_dictSet_pairs (knd := PySem.strKind G.prog G.w) (k := p.1) (strKind_is _ _ _ _) hm' (fun h₂ hd₂ hs₂ => ?_) hl1)
    rw [pairs_keys hnew] at hd₂
    refine wpAny_pure ⟨plainId_quiet plain_update_loop _, ?_⟩
    refine ih (i + 1) (kvs ++ [(p.1, u)]) _ (by omega) hlt (fun a o e => (hs₂.2 a (zd a o e)).trans (hz' a o e)) hzd (W₀.frame _ _ _ hW' fun b hb o e => (hs₂.2 b fun q => hd (q ▸ hb)).trans e) hd₂ ?_ ?_ fun kvs' h₃ t₃ a1 a2 a3 a4 a5 => ?_
    · rw [tks, List.map_append, List.map_append, hk]; rfl
    · rw [tks, List.map_append, List.map_append]; exact hr.append (.cons ru .nil)
    · refine hR kvs' h₃ t₃ a1 a2 a3 (Nat.le_trans tok (Nat.le_trans (Nat.le_succ _) a4)) fun b o h1 h2 e => a5 b o h1 h2 ((hs₂.2 b h2).trans (hk' b o (by simpa using h1) e))

/-- dict(..) of a row of pairs -/
theorem bt_dict {ps : List (Str × D)} (hnd : (ps.map (·.1)).Nodup) (hsz : ps.length ≤ 1000) : BT G "dict" [.list (ps.map fun p => .tup [.str p.1, p.2])] (.dict (ps.map (·.1)) (ps.map (·.2))) := BT.mk fun A Z s vs R b r => by
  cases r with
  | cons r rs =>
    cases rs
    cases r with
    | @list a ws k _ hz ra =>
      refine callType_codes (Q₁ := fun obj s₁ => obj = .ref s.heap.objs.size ∧ s₁ = { s with heap := s.heap.push { cls := .type "dict", data := .dict #[] } }) F.kt_called_dict (F.kt_typeCall_dict_1 _) F.entry_dict_init (kt_code_dict_new _ ⟨rfl, rfl⟩) ?_
      rintro obj s₁ ⟨rfl, rfl⟩
      have hnew : (s.heap.push { cls := .type "dict", data := .dict #[] }).DictOf (PySem.strKind G.prog G.w) s.heap.objs.size [] := Heap.DictOf.new s.heap
      have hza := b.zin _ _ hz
      have x₁ : Ext Z s Z { s with heap := s.heap.push { cls := .type "dict", data := .dict #[] } } := Ext.push b.zin (Nat.le_refl _)
      have b₁ := b.ext x₁
      refine ⟨hnew.typeIs, F.args_dict_init_2 _ _, ?_⟩
      unfold Builtin.«dict.__init__»
      refine wpAny_bind ?_
      unfold Builtin.Dict.selfAndRest
      refine wpAny_bind (wpAny_notOrdered_dict hnew.typeIs ?_)
      show wpAny _ _ (pure (s.heap.objs.size, [Value.ref a])) _ _ _
      refine wpAny_pure ?_
      show wpAny _ _ (Builtin.Dict.updateFrom "dict.__init__" s.heap.objs.size (.ref a) [] .none) _ _ _
      unfold Builtin.Dict.updateFrom
      refine wpAny_bind (wpAny_typeOf (isList_of (b₁.zin _ _ hz)).typeIs ?_)
      rw [if_pos (by decide)]
      refine wpAny_bind (wpAny_with_toks (Nat.le_refl _) (keys_miss (b₁.zin _ _ hz) (by exact R.handled) fun h₂ tk₂ hk₂ tok₂ => ?_))
      have x₂ : Ext Z s Z { s with heap := h₂, toks := tk₂ } := x₁.trans ⟨Zle.same, hk₂, fun c o e => hk₂ c o (b₁.zin c o e), fun _ _ h => .inl h, rfl, rfl, tok₂⟩
      have b₂ := b.ext x₂
      show wpAny _ _ (do rule "dict.__init__.from-pairs"; again (.builtin "dict.update.loop" ⟨[.ref s.heap.objs.size, ← pyIter (.ref a), rawInt 0, .none], []⟩)) _ _ _
      refine wpAny_bind (wpAny_rule (wpAny_bind (wp_seq ((itr_list (G := G)).run _ Z _ _ ⟨R.handled, by have := R.depth; show A.depth + 0 < _; omega, by have := R.units; show A.units + 1 + 1 + 8 * 0 < _; omega, R.guards⟩ b₂ (.list hz ra)) fun it s₃ ⟨I, fp, P, W, e, x₃, hI, hW, hfp, hW0, hcls, hP⟩ => ?_)))
      subst e
      have hdn : s.heap.get? s.heap.objs.size = none := get?_size_none _
      have zd : Z s.heap.objs.size = none := by
        cases q : Z s.heap.objs.size with
        | none => rfl
        | some o => have := b.zin _ _ q; rw [hdn] at this; cases this
      have zI : Z I = none := by
        cases q : Z I with
        | none => rfl
        | some o => have := b₂.zin _ _ q; rw [hI] at this; cases this
      obtain ⟨od, hod, hdd⟩ := Heap.dictOf_iff.mp hnew
      have hd₂ : h₂.get? s.heap.objs.size = some od := hk₂ _ _ hod
      have hdI : s.heap.objs.size ≠ I := fun q => by rw [← q] at hI; rw [show ({ s with heap := h₂, toks := tk₂ } : Shared).heap = h₂ from rfl, hd₂] at hI; cases hI
      have hd₃ : s₃.heap.DictOf (PySem.strKind G.prog G.w) s.heap.objs.size [] := Heap.dictOf_iff.mpr ⟨od, x₃.keep _ _ hd₂, hdd⟩
      refine wpAny_pure ⟨plainId_quiet plain_update_loop _, ?_⟩
      refine update_loop (A := A.in1) (Z := Z) (ps := ps) (fp := fp) (P := P) (W := W) R.handled (by rw [List.length_map] at hW; exact hW) (fun hm => ?_) zI (fun i v pv => ?_) hnd hsz ps.length 0 [] s₃ rfl (Nat.zero_le _) x₃.zin zd hW0 hd₃ rfl .nil fun kvs' h' t a1 a2 a3 a4 a5 => ?_
      · rcases hfp _ hm with q | ⟨o, q⟩
        · exact hdI q
        · rw [zd] at q; cases q
      · obtain ⟨d, hd, rd⟩ := hP i v pv
        rw [List.getElem?_map] at hd
        cases hp : ps[i]? with
        | none => rw [hp] at hd; cases hd
        | some p => rw [hp] at hd; exact ⟨p, rfl, by have e : _ = d := Option.some.inj hd; rw [← e] at rd; exact rd⟩
      · obtain ⟨o', ho', hd'⟩ := Heap.dictOf_iff.mp a1
        have e3 : s₃ = s₃ := rfl
        have x' := x₂.trans x₃
        refine ⟨rfl, Zadd Z s.heap.objs.size o', ⟨Zadd.le zd, fun c o e => ?_, fun c o e => ?_, fun c o e => ?_, x'.gens, x'.os, Nat.le_trans x'.tk a4⟩, ?_⟩
        · refine a5 c o (fun q => ?_) (fun q => by rw [q, hdn] at e; cases e) (x'.keep c o e)
          have := x₂.keep c o e
          rw [q] at this
          rw [show ({ s with heap := h₂, toks := tk₂ } : Shared).heap = h₂ from rfl] at this hI
          rw [hI] at this; cases this
        · by_cases q : c = s.heap.objs.size
          · subst q; rw [Zadd.self] at e; cases e; exact ho'
          · rw [show Zadd Z s.heap.objs.size o' c = Z c from if_neg q] at e
            exact a5 c o (fun q' => by rw [q', zI] at e; cases e) q (x₃.zin c o e)
        · by_cases q : c = s.heap.objs.size
          · subst q; exact .inr hdn
          · rw [show Zadd Z s.heap.objs.size o' c = Z c from if_neg q] at e; exact .inl e
        · rw [← a2]
          have hlow : (s.heap.objs.size == sysModules) = false := by
            have := modules_low b.nolimit
            exact beq_eq_false_iff_ne.mpr (Nat.ne_of_gt this)
          exact .dict Zadd.self hlow hd' (a3.mono (Zadd.le zd))

theorem bf_divmod {a b : Int} (hb : b ≠ 0) (hp : Builtin.divisionGoesByPylong a b = false) : BF G "divmod" [.int a, .int b] (.tup [.int (a.fdiv b), .int (a.fmod b)]) := BF.mk fun A Z s vs R bs r => by
  cases r with
  | cons r rs => cases rs with
    | cons r₂ rs =>
      cases rs; cases r; cases r₂
      exact divmod_int hb ⟨_, Ext.alloc (o := { cls := .type "tuple", data := .seq [Value.int (a.fdiv b) s.toks, Value.int (a.fmod b) (s.toks + 1)].toArray }) bs.zin rfl (by omega), .tup (vs := [.int (a.fdiv b) s.toks, .int (a.fmod b) (s.toks + 1)]) Zadd.self (.cons (.int _ _) (.cons (.int _ _) .nil))⟩ (.inl hp)
end
end Mine
end
section
open PySem PySem.W PyProof.Rows PySem.Builtin PySem.Builtin.Str PySem.StrLaws
set_option linter.unusedVariables false
set_option maxRecDepth 100000
namespace Mine
section
variable {G : Gnd} {env : Env} {Z Z' H : Zf} {ρ ρ' ρc : Loc} {s s' : Shared} {A : Around} {E : Value → Shared → Prop} {n : Nat} {pos apos : Pos}

theorem ind_clip {a b len : Nat} : strSliceIndices (some (a : Int)) (some (b : Int)) 1 len = strSliceIndices (some ((min a len : Nat) : Int)) (some ((max (min a len) (min b len) : Nat) : Int)) 1 len := by
  have h1 : ¬ ((a : Int) < 0) := by omega
  have h2 : ¬ ((b : Int) < 0) := by omega
  have h3 : ¬ (((min a len : Nat) : Int) < 0) := by omega
  have h4 : ¬ (((max (min a len) (min b len) : Nat) : Int) < 0) := by omega
  have e1 : max (0 : Int) (min (a : Int) (len : Int)) = ((min a len : Nat) : Int) := by omega
  have e2 : max (0 : Int) (min (b : Int) (len : Int)) = ((min b len : Nat) : Int) := by omega
  have e3 : max (0 : Int) (min (((min a len : Nat) : Int)) (len : Int)) = ((min a len : Nat) : Int) := by omega
  have e4 : max (0 : Int) (min (((max (min a len) (min b len) : Nat) : Int)) (len : Int)) = ((max (min a len) (min b len) : Nat) : Int) := by omega
  simp only [strSliceIndices, sliceRange, h1, h2, h3, h4, if_false, e1, e2, e3, e4, show ((1 : Int) > 0) = True from by simp, if_true]
  by_cases hlt : ((min a len : Nat) : Int) < ((min b len : Nat) : Int)
  · have : max (min a len) (min b len) = min b len := by omega
    rw [this]
  · have h5 : ¬ (((min a len : Nat) : Int) < ((max (min a len) (min b len) : Nat) : Int)) := by omega
    rw [if_neg hlt, if_neg h5]
theorem slice_ab (l : List Nat) (a b : Nat) : Txt.slice (T l) (some (a : Int)) (some (b : Int)) = T ((l.take b).drop a) := by
  unfold Txt.slice
  rw [ind_clip, T_length]
  have hp := strSliceIndices_plain (a := min a l.length) (b := max (min a l.length) (min b l.length)) (len := l.length) (by omega) (by omega)
  have hs := sliced_plain (T l) (a := min a l.length) (b := max (min a l.length) (min b l.length)) (by omega) (by rw [T_length]; omega)
  rw [T_length, T_list] at hs
  have hres : (l.drop (min a l.length)).take (max (min a l.length) (min b l.length) - min a l.length) = (l.take b).drop a := by
    rw [List.drop_take]
    by_cases h : a ≤ l.length
    · rw [Nat.min_eq_left h]
      by_cases hb : b ≤ l.length
      · rw [Nat.min_eq_left hb]; congr 1; omega
      · rw [Nat.min_eq_right (by omega), List.take_of_length_le (by rw [List.length_drop]; omega), List.take_of_length_le (by rw [List.length_drop]; omega)]
    · rw [Nat.min_eq_right (by omega), List.drop_of_length_le (Nat.le_refl _), List.drop_of_length_le (by omega)]; simp
  split
  · rename_i hw
    simp only [BEq.rfl, Bool.true_and, beq_iff_eq] at hw
    rw [hp, List.length_map, List.length_range] at hw
    congr 1
    have h1 : min a l.length = 0 ∨ l.length = 0 := by omega
    have : (l.drop (min a l.length)).take (max (min a l.length) (min b l.length) - min a l.length) = l := by
      rcases h1 with h1 | h1
      · rw [hw, h1]; simp
      · have : l = [] := List.length_eq_zero_iff.mp h1
        subst this; simp
    rw [← hres, this]
  · rw [hs, hres]; rfl
theorem slice_from (l : List Nat) (a : Nat) : Txt.slice (T l) (some (a : Int)) none = T (l.drop a) := by
  have := slice_ab l a l.length
  rw [List.take_length] at this
  rw [← this]
  have e : max (0 : Int) (min (l.length : Int) (l.length : Int)) = l.length := by omega
  have h2 : ¬ ((l.length : Int) < 0) := by omega
  unfold Txt.slice
  rw [T_length]
  simp only [strSliceIndices, h2, if_false, e, show ((1 : Int) > 0) = True from by simp, if_true]
theorem slice_to (l : List Nat) (b : Nat) : Txt.slice (T l) none (some (b : Int)) = T (l.take b) := by
  have := slice_ab l 0 b
  rw [List.drop_zero] at this
  rw [← this]
  have e : max (0 : Int) (min ((0 : Nat) : Int) (l.length : Int)) = 0 := by omega
  have h2 : ¬ (((0 : Nat) : Int) < 0) := by omega
  unfold Txt.slice
  rw [T_length]
  simp only [strSliceIndices, h2, if_false, e, show ((1 : Int) > 0) = True from by simp, if_true]
theorem startswith_T (l p : List Nat) : Txt.startswith (T l) (T p) = p.isPrefixOf l := by
  unfold Txt.startswith
  rw [subAt_eq, T_length, T_length, T_list, T_list, List.drop_zero, Bool.eq_iff_iff, Bool.and_eq_true, decide_eq_true_eq, beq_iff_eq, List.isPrefixOf_iff_prefix]
  constructor
  · rintro ⟨_, h⟩
    exact ⟨_, by conv => lhs; rw [← h]
                 exact List.take_append_drop _ _⟩
  · rintro ⟨t, h⟩
    rw [← h]
    simp
/-- a row from a place on -/
theorem sb_from {value slice : PySem.Expr} {ds : List D} {a : Nat} (ha : a ≤ ds.length) (hn : ds.length ≤ sizeLine) : Sb G value slice (.list ds) (.slc (some (a : Int)) none) (.list (ds.drop a)) := Op2.mk fun A Z s v₁ v₂ R b r₁ r₂ => by
  cases r₁ with
  | @list x vs k _ hz ra =>
    cases r₂ with
    | @slc y vl vu _ _ hz' pl pu =>
      have hl := isList_of (b.zin _ _ hz)
      have hlen : vs.length = ds.length := ra.length
      refine tail_all hl.typeIs F.slot_list_getitem.lookup ?_
      refine wpAny_getItem_list_slice hl ⟨_, b.zin _ _ hz', rfl, rfl⟩ pl pu .none (by simp) ?_ (by rw [List.size_toArray, hlen]; exact hn)
      rw [slicePick_from _ _ (by rw [List.size_toArray, hlen]; exact ha)]
      exact ⟨_, Ext.alloc (o := { cls := .type "list", data := .seq (vs.drop a).toArray }) (t := s.toks) b.zin rfl (Nat.le_refl _), .list (vs := vs.drop a) (n := 0) Zadd.self ((ra.drop a).mono (Ext.alloc (o := { cls := .type "list", data := .seq (vs.drop a).toArray }) (s := s) (t := s.toks) b.zin rfl (Nat.le_refl _)).le)⟩
theorem ev_if_same {t b o : PySem.Expr} {c : Bool} {d : D} (h : Tst G env n ρ t c) (h₁ : c = true → Ev G env n ρ b d) (h₂ : c = false → Ev G env n ρ o d) : Ev G env n ρ (.IfExp t b o pos) d := by
  have := ev_ifexp (pos := pos) h h₁ h₂
  cases c <;> exact this
/-- a, b = .. -/
theorem ex_assign_tuple {ts : List PySem.Expr} {k : Nat} {tpos : Pos} {e : PySem.Expr} {d : D} {Φ : Fl → Loc → Prop} (h : Ev G env n ρ e d) (ha : Asg G env (.Tuple ts k tpos) d ρ ρ') (hs : swapsWithSole [.Tuple ts k tpos] e pos.line env = pure false)
    (hw : swappedStores [.Tuple ts k tpos] e env = pure none) (hk : Φ .next ρ') : Ex G env n ρ (.Assign [.Tuple ts k tpos] e pos) Φ :=
  Ex.mk fun A Z H s R S => Assign_Tuple (wp_seq (h.run A Z H s R S) fun v s₁ ⟨Z₁, x₁, r₁⟩ => wp_seq (ha.run A Z₁ H s₁ v (R.less (Nat.zero_le _)) (S.ext x₁) r₁) fun _ s₂ ⟨Z₂, le₂, S₂⟩ => ⟨Z₂, _, .next, x₁.le.trans le₂, S₂, .next, hk⟩) hs hw
end
end Mine
end
section
open PySem PySem.W PyProof.Rows PySem.SeqAt
set_option linter.unusedVariables false
set_option maxRecDepth 100000
namespace Mine
section
variable {G : Gnd} {env : Env} {Z Z' H : Zf} {ρ ρ' ρc : Loc} {s s' : Shared} {A : Around} {E : Value → Shared → Prop} {n : Nat} {pos apos : Pos}
/-- rows of the same numbers -/
theorem op_ne_ints_same {xs : List Int} : Op2 G (compareOp .NotEq) (.list (xs.map .int)) (.list (xs.map .int)) (.bool false) := Op2.mk fun A Z s v₁ v₂ R b r₁ r₂ => by
  cases r₁ with
  | list hz ra =>
    cases r₂ with
    | list hz' ra' =>
      obtain ⟨l, e1, e2⟩ := ints_of_repAll ra
      obtain ⟨l', e1', e2'⟩ := ints_of_repAll ra'
      subst e1 e1'
      have hl := isList_of (b.zin _ _ hz)
      have hl' := isList_of (b.zin _ _ hz')
      have hlen : l.length = l'.length := by have := congrArg List.length (e2.trans e2'.symm); simpa using this
      have key := RcNeAt.lists (A := A) (e := fun _ => true) hl hl' (by simp [hlen]) (by have := R.units; omega) (fun j h1 h2 => ?_)
      · refine key G.prog G.w _ _ ⟨Z, b.same, ?_⟩
        rw [show (!(List.range (List.map (fun p : Int × Tok => Value.int p.1 p.2) l).toArray.size).all fun _ => true) = false by simp]
        exact .bool _
      · have h1' : j < l.length := by simpa using h1
        have h2' : j < l'.length := by simpa using h2
        have ea : (List.map (fun p : Int × Tok => Value.int p.1 p.2) l).toArray[j] = .int l[j].1 l[j].2 := by simp
        have eb : (List.map (fun p : Int × Tok => Value.int p.1 p.2) l').toArray[j] = .int l'[j].1 l'[j].2 := by simp
        rw [ea, eb]
        have := EqAt.int_int (A := A.in1) (s := s) l[j].1 l[j].2 l'[j].1 l'[j].2
        have e : l[j].1 = l'[j].1 := by
          have h := congrArg (fun x => x[j]?) (e2.trans e2'.symm)
          simpa [h1', h2'] using h
        rw [e] at this ⊢
        simpa using this
theorem op_neg_int {a : Int} : Op1 G (unaryOp .USub) (.int a) (.int (-a)) := Op1.mk fun A Z s v R b r => by
  cases r
  exact PyProof.Rows.neg_int (b.y (Nat.le_succ _) (.int _ _))
theorem bf_max {a b : Int} : BF G "max" [.int a, .int b] (.int (if b > a then b else a)) := BF.mk fun A Z s vs R bs r => by
  cases r with
  | cons r rs => cases rs with
    | cons r₂ rs =>
      cases rs; cases r; cases r₂
      refine wp_tok (max_two_ints R.handled fun h' tk hk tok => ⟨Z, ⟨Zle.same, hk, fun c o e => hk c o (bs.zin c o e), fun _ _ h => .inl h, rfl, rfl, tok⟩, ?_⟩)
      split
      · exact .int _ _
      · exact .int _ _
theorem bf_min {a b : Int} : BF G "min" [.int a, .int b] (.int (if b < a then b else a)) := BF.mk fun A Z s vs R bs r => by
  cases r with
  | cons r rs => cases rs with
    | cons r₂ rs =>
      cases rs; cases r; cases r₂
      refine wp_tok (min_two_ints R.handled fun h' tk hk tok => ⟨Z, ⟨Zle.same, hk, fun c o e => hk c o (bs.zin c o e), fun _ _ h => .inl h, rfl, rfl, tok⟩, ?_⟩)
      split
      · exact .int _ _
      · exact .int _ _
end
end Mine
end
section
open PySem PySem.W PyProof.Rows
set_option maxRecDepth 100000
namespace Mine
section
variable {G : Gnd} {env : Env} {Z Z' H : Zf} {ρ ρ' ρc : Loc} {s s' : Shared} {A : Around} {E : Value → Shared → Prop} {n : Nat} {pos apos : Pos}
def CellsIn (env : Env) (cl : List (Str × Addr)) : Prop := ∀ x c, cl.lookup x = some c → env.cells.lookup x = some c
theorem cells_nil : CellsIn env [] := fun _ _ h => nomatch h
theorem cells_cons {x : Str} {c : Addr} {cl : List (Str × Addr)} (h : env.cells.lookup x = some c) (r : CellsIn env cl) : CellsIn env ((x, c) :: cl) := fun y d e => by
  rw [List.lookup_cons] at e
  split at e
  · cases e; rename_i q; rw [beq_iff_eq] at q; subst q; exact h
  · exact r y d e
def CapIn (env : Env) (scope : Scope) (cl : List (Str × Addr)) (ρ ρc : Loc) : Prop :=
  ∀ x b, ρc.lookup x = some b → (∃ d, b = .val d) ∧ ρ.lookup x = some b ∧ env.kindOf x ≠ some .local ∧ (∃ c, cl.lookup x = some c) ∧ ((relabel scope env).names.lookup x = some .cell ∨ ((relabel scope env).names.lookup x = some .free ∧ (x == ("__classdict__" : Str)) = false))
theorem cap_nil {scope : Scope} {cl : List (Str × Addr)} : CapIn env scope cl ρ [] := fun _ _ h => nomatch h
theorem cap_cons {scope : Scope} {cl : List (Str × Addr)} {x : Str} {d : D} {c : Addr} (h1 : ρ.lookup x = some (.val d)) (h2 : env.kindOf x = some .cell) (h3 : cl.lookup x = some c) (h4 : (relabel scope env).names.lookup x = some .cell) (r : CapIn env scope cl ρ ρc) :
    CapIn env scope cl ρ ((x, .val d) :: ρc) := fun y b e => by
  rw [List.lookup_cons] at e
  split at e
  · cases e; rename_i q; rw [beq_iff_eq] at q; subst q
    exact ⟨⟨_, rfl⟩, h1, by rw [h2]; decide, ⟨_, h3⟩, .inl h4⟩
  · exact r y b e
theorem cap_free {scope : Scope} {cl : List (Str × Addr)} {x : Str} {d : D} {c : Addr} (h1 : ρ.lookup x = some (.val d)) (h2 : env.kindOf x = some .free) (h3 : cl.lookup x = some c) (h4 : (relabel scope env).names.lookup x = some .free) (h5 : (x == ("__classdict__" : Str)) = false) (r : CapIn env scope cl ρ ρc) :
    CapIn env scope cl ρ ((x, .val d) :: ρc) := fun y b e => by
  rw [List.lookup_cons] at e
  split at e
  · cases e; rename_i q; rw [beq_iff_eq] at q; subst q
    exact ⟨⟨_, rfl⟩, h1, by rw [h2]; decide, ⟨_, h3⟩, .inr ⟨h4, h5⟩⟩
  · exact r y b e
theorem itr_range {b : Int} {m : Nat} (hm : b.toNat = m) (h1 : -(2 ^ 62) ≤ b) (h2 : b < 2 ^ 62) : Itr G (.rng 0 b) ((List.range m).map fun (i : Nat) => D.int (i : Int)) := by
  have := itr_rng (G := G) (a := 0) (b := b) (by decide) (by decide) h1 h2
  rw [Int.sub_zero, hm] at this
  have e : (fun (i : Nat) => D.int (0 + (i : Int))) = fun (i : Nat) => D.int (i : Int) := by funext i; rw [Int.zero_add]
  rwa [e] at this
theorem at_map {α : Type} {f : α → D} {l : List α} {i : Nat} {d : D} (h : (l.map f)[i]? = some d) : ∃ x, l[i]? = some x ∧ d = f x := by
  rw [List.getElem?_map] at h
  cases e : l[i]? with
  | none => rw [e] at h; cases h
  | some x => rw [e] at h; exact ⟨x, rfl, by simpa using h.symm⟩
theorem at_range {f : Nat → D} {m i : Nat} {d : D} (h : ((List.range m).map f)[i]? = some d) : i < m ∧ d = f i := by
  obtain ⟨x, h1, h2⟩ := at_map h
  have h3 := (List.getElem?_eq_some_iff.mp h1).1
  rw [List.length_range] at h3
  rw [List.getElem?_range h3] at h1
  cases h1
  exact ⟨h3, h2⟩
end
end Mine
end
section
open PySem PySem.W PyProof.Rows PySem.Builtin PySem.Builtin.Str PySem.StrLaws
set_option linter.unusedVariables false
namespace Mine

/-- no spelling begins another one -/
def pcode (t : Tbl) : Bool := t.all (fun p => p.2.head? == some 38 && (t.lookup p.1 == some p.2) && t.all (fun q => q.1 == p.1 || (!(p.2.isPrefixOf q.2) && !(q.2.isPrefixOf p.2))) && p.2.tail.all (fun c => !(t.any fun q => q.1 == c)) && decide (p.2.length ≤ 8)) && (t.any fun q => q.1 == 38)
theorem mem_look {t : Tbl} {k : Nat} {z : List Nat} (h : t.lookup k = some z) : (k, z) ∈ t := by
  induction t with
  | nil => cases h
  | cons p r ih =>
    obtain ⟨a, b⟩ := p
    rw [List.lookup_cons] at h
    split at h
    · rename_i q; rw [beq_iff_eq] at q; subst q; cases h; exact List.mem_cons_self
    · exact List.mem_cons_of_mem _ (ih h)
theorem look_none {t : Tbl} {k : Nat} : t.lookup k = none ↔ (t.any fun q => q.1 == k) = false := by
  induction t with
  | nil => simp
  | cons p r ih =>
    obtain ⟨a, b⟩ := p
    rw [List.lookup_cons, List.any_cons, Bool.or_eq_false_iff, ← ih]
    by_cases h : k = a
    · subst h; simp
    · have h1 : (k == a) = false := beq_eq_false_iff_ne.mpr h
      have h2 : (a == k) = false := beq_eq_false_iff_ne.mpr (Ne.symm h)
      rw [h1]
      simp [h2]
structure PC (t : Tbl) : Prop where
  ok : pcode t = true
section
variable {t : Tbl}
theorem PC.at (h : PC t) {k : Nat} {z : List Nat} (hk : t.lookup k = some z) : ∃ y, z = 38 :: y ∧ (∀ q ∈ t, q.1 = k ∨ (¬ z <+: q.2 ∧ ¬ q.2 <+: z)) ∧ (∀ c ∈ y, t.lookup c = none) ∧ y.length ≤ 7 := by
  have h0 := h.ok
  unfold pcode at h0
  rw [Bool.and_eq_true] at h0
  have h1 := List.all_eq_true.mp h0.1 _ (mem_look hk)
  simp only [Bool.and_eq_true, beq_iff_eq, decide_eq_true_eq] at h1
  obtain ⟨⟨⟨⟨a1, a2⟩, a3⟩, a4⟩, a5⟩ := h1
  cases z with
  | nil => cases a1
  | cons c y =>
    have : c = 38 := by simpa using a1
    subst this
    refine ⟨y, rfl, fun q hq => ?_, fun c hc => ?_, by simpa using a5⟩
    · have := List.all_eq_true.mp a3 q hq
      rw [Bool.or_eq_true, beq_iff_eq, Bool.and_eq_true, Bool.not_eq_true', Bool.not_eq_true'] at this
      rcases this with e | ⟨e1, e2⟩
      · exact .inl e
      · refine .inr ⟨fun q => ?_, fun q => ?_⟩
        · rw [List.isPrefixOf_iff_prefix.mpr q] at e1; cases e1
        · rw [List.isPrefixOf_iff_prefix.mpr q] at e2; cases e2
    · have := List.all_eq_true.mp a4 c hc
      exact look_none.mpr (by simpa using this)
theorem PC.amp (h : PC t) {k : Nat} (hk : t.lookup k = none) : k ≠ 38 := by
  have h0 := h.ok
  unfold pcode at h0
  rw [Bool.and_eq_true] at h0
  intro e
  subst e
  rw [look_none.mp hk] at h0
  cases h0.2
theorem spell_some {k : Nat} {z : List Nat} (h : t.lookup k = some z) : spell t k = z := by unfold spell; rw [h]; rfl
theorem spell_none {k : Nat} (h : t.lookup k = none) : spell t k = [k] := by unfold spell; rw [h]; rfl
theorem spell_ne (h : PC t) (k : Nat) : spell t k ≠ [] := by
  cases hk : t.lookup k with
  | none => rw [spell_none hk]; simp
  | some z => obtain ⟨y, e, _⟩ := h.at hk; rw [spell_some hk, e]; simp
theorem spell_free (h : PC t) {a b : Nat} (hab : a ≠ b) : ¬ spell t a <+: spell t b := by
  intro hp
  cases ha : t.lookup a with
  | none =>
    rw [spell_none ha] at hp
    cases hb : t.lookup b with
    | none => rw [spell_none hb] at hp; obtain ⟨r, e⟩ := hp; simp at e; exact hab e.1
    | some z =>
      obtain ⟨y, e, _⟩ := h.at hb
      rw [spell_some hb, e] at hp
      obtain ⟨r, e'⟩ := hp
      simp at e'
      exact h.amp ha e'.1
  | some z =>
    obtain ⟨y, e, hq, _⟩ := h.at ha
    rw [spell_some ha] at hp
    cases hb : t.lookup b with
    | none =>
      rw [spell_none hb, e] at hp
      obtain ⟨r, e'⟩ := hp
      simp at e'
      exact h.amp hb e'.1.symm
    | some z' =>
      rw [spell_some hb] at hp
      rcases hq _ (mem_look hb) with q | q
      · exact hab q.symm
      · exact q.1 hp
theorem esc_prefix (h : PC t) : ∀ (p l : List Nat), escBy t p <+: escBy t l ↔ p <+: l
  | [], l => by simp [escBy]
  | a :: p, [] => by
    rw [escBy_cons]
    constructor
    · intro hp
      have : spell t a ++ escBy t p = [] := List.prefix_nil.mp hp
      exact absurd (List.append_eq_nil_iff.mp this).1 (spell_ne h a)
    · intro hp; cases List.prefix_nil.mp hp
  | a :: p, b :: l => by
    rw [escBy_cons, escBy_cons]
    by_cases hab : a = b
    · subst hab
      rw [List.prefix_append_right_inj, List.cons_prefix_cons, esc_prefix h p l]
      simp
    · constructor
      · intro hp
        exfalso
        have h1 : spell t a <+: spell t b ++ escBy t l := (List.prefix_append _ _).trans hp
        rcases List.prefix_or_prefix_of_prefix h1 (List.prefix_append (spell t b) (escBy t l)) with q | q
        · exact spell_free h hab q
        · exact spell_free h (Ne.symm hab) q
      · intro hp
        exact absurd (List.cons_prefix_cons.mp hp).1 hab
theorem esc_bare : ∀ {l : List Nat}, (∀ c ∈ l, t.lookup c = none) → escBy t l = l
  | [], _ => rfl
  | c :: r, h => by
    rw [escBy_cons, esc_bare fun x hx => h x (List.mem_cons_of_mem _ hx), spell_none (h c List.mem_cons_self)]
    rfl
end

/-- all places of p, from a number on -/
def occAll (p : List Nat) : List Nat → Nat → List Nat
  | [], off => if p.isPrefixOf [] then [off] else []
  | c :: r, off => (if p.isPrefixOf (c :: r) then [off] else []) ++ occAll p r (off + 1)
theorem occAll_append (p rest : List Nat) : ∀ (w : List Nat) (off : Nat), occAll p (w ++ rest) off = (List.range w.length).flatMap (fun j => if p.isPrefixOf (w.drop j ++ rest) then [off + j] else []) ++ occAll p rest (off + w.length)
  | [], off => by simp
  | c :: w, off => by
    rw [List.cons_append, occAll, occAll_append p rest w (off + 1), List.length_cons, List.range_succ_eq_map, List.flatMap_cons, List.flatMap_map]
    simp only [List.drop_zero, List.drop_succ_cons, Nat.add_zero, List.cons_append]
    rw [List.append_assoc, show off + 1 + w.length = off + (w.length + 1) by omega]
    congr 2
    congr 1
    funext j
    rw [show off + 1 + j = off + (j + 1) by omega]

/-- inside a reference -/
def inner08 (so rest r : List Nat) : Bool := (rest.take so.length == so) || (rest ++ r.take (so.length - rest.length) == so)
theorem inner_iff (so rest r : List Nat) : inner08 so rest r = true ↔ so <+: rest ++ r := by
  unfold inner08
  rw [Bool.or_eq_true, beq_iff_eq, beq_iff_eq]
  constructor
  · rintro (h | h)
    · rw [← h]; exact (List.take_prefix _ _).trans (List.prefix_append _ _)
    · conv => lhs; rw [← h]
      exact (List.prefix_append_right_inj rest).mpr (List.take_prefix _ _)
  · intro h
    have e : (rest ++ r).take so.length = so := by
      obtain ⟨x, hx⟩ := h
      rw [← hx, List.take_left]
    rw [List.take_append] at e
    by_cases hl : so.length ≤ rest.length
    · left
      rw [show so.length - rest.length = 0 by omega] at e
      simpa using e
    · right
      rwa [List.take_of_length_le (by omega)] at e
def placesL (t : Tbl) (so : List Nat) : List Nat → Nat → List Nat
  | [], off => if so.isPrefixOf [] then [off] else []
  | k :: r, off => (if so.isPrefixOf (k :: r) then [off] else []) ++ (List.range ((spell t k).length - 1)).flatMap (fun j => if inner08 so ((spell t k).drop (1 + j)) r then [off + (1 + j)] else []) ++ placesL t so r (off + (spell t k).length)
theorem prefix_bool {p l p' l' : List Nat} (h : p <+: l ↔ p' <+: l') : p.isPrefixOf l = p'.isPrefixOf l' := by
  rw [Bool.eq_iff_iff, List.isPrefixOf_iff_prefix, List.isPrefixOf_iff_prefix]; exact h
theorem occ_places {t : Tbl} (h : PC t) (so : List Nat) : ∀ (l : List Nat) (off : Nat), occAll (escBy t so) (escBy t l) off = placesL t so l off
  | [], off => by
    show (if (escBy t so).isPrefixOf (escBy t []) then [off] else []) = _
    rw [prefix_bool (esc_prefix h so [])]
    rfl
  | k :: r, off => by
    rw [escBy_cons, occAll_append, occ_places h so r, placesL]
    congr 1
    have hpos : 0 < (spell t k).length := List.length_pos_iff.mpr (spell_ne h k)
    obtain ⟨m, hm⟩ : ∃ m, (spell t k).length = m + 1 := ⟨(spell t k).length - 1, by omega⟩
    rw [hm, List.range_succ_eq_map, List.flatMap_cons, List.flatMap_map, Nat.add_sub_cancel, List.drop_zero, Nat.add_zero, ← escBy_cons, prefix_bool (esc_prefix h so (k :: r))]
    congr 2
    funext j
    have hplain : ∀ c ∈ (spell t k).drop (1 + j), t.lookup c = none := by
      intro c hc
      cases hk : t.lookup k with
      | none =>
        rw [spell_none hk, Nat.add_comm] at hc
        simp at hc
      | some z =>
        obtain ⟨y, e, _, hy, _⟩ := h.at hk
        rw [spell_some hk, e, Nat.add_comm, List.drop_succ_cons] at hc
        exact hy c (List.mem_of_mem_drop hc)
    have e1 : (spell t k).drop (j + 1) ++ escBy t r = escBy t ((spell t k).drop (1 + j) ++ r) := by
      rw [escBy_append, esc_bare hplain, Nat.add_comm]
    have e2 : (escBy t so).isPrefixOf ((spell t k).drop (Nat.succ j) ++ escBy t r) = inner08 so ((spell t k).drop (1 + j)) r := by
      rw [show Nat.succ j = j + 1 from rfl, e1, Bool.eq_iff_iff, List.isPrefixOf_iff_prefix, esc_prefix h, inner_iff]
    rw [e2, show Nat.succ j = 1 + j by omega]
def bare08 (t : Tbl) (l : List Nat) : List Nat := l.filter fun c => (t.lookup c).isNone
theorem bare_le (t : Tbl) (l : List Nat) : (bare08 t l).length ≤ l.length := List.length_filter_le _ _
theorem esc_bare08 (t : Tbl) (l : List Nat) : escBy t (bare08 t l) = bare08 t l := esc_bare fun c hc => by
  have := (List.mem_filter.mp hc).2
  simpa using this
theorem count_amp {t : Tbl} (h : PC t) (l : List Nat) : (escBy t l).count 38 + (bare08 t l).length = l.length := by
  induction l with
  | nil => rfl
  | cons k r ih =>
    rw [escBy_cons, List.count_append, List.length_cons]
    unfold bare08 at ih ⊢
    rw [List.filter_cons]
    cases hk : t.lookup k with
    | none =>
      have := h.amp hk
      rw [spell_none hk]
      simp [this]
      omega
    | some z =>
      obtain ⟨y, e, _, hy, _⟩ := h.at hk
      have h0 : y.count 38 = 0 := List.count_eq_zero_of_not_mem fun hm => h.amp (hy 38 hm) rfl
      rw [spell_some hk, e, List.count_cons, h0]
      simp
      omega
end Mine
end
section
open PySem PySem.W PyProof.Rows PySem.Builtin PySem.Builtin.Str PySem.StrLaws
set_option linter.unusedVariables false
namespace Mine
/-- what one place of the text adds -/
def stepPl (t : Tbl) (so l : List Nat) (off i : Nat) : List Nat := (if so.isPrefixOf (l.drop i) then [off + (escBy t (l.take i)).length] else []) ++
  match l[i]? with
  | some k => (List.range ((spell t k).length - 1)).flatMap fun j => if inner08 so ((spell t k).drop (1 + j)) (l.drop (i + 1)) then [off + (escBy t (l.take i)).length + (1 + j)] else []
  | none => []
theorem places_steps (t : Tbl) (so : List Nat) : ∀ (l : List Nat) (off : Nat), placesL t so l off = (List.range (l.length + 1)).flatMap (stepPl t so l off)
  | [], off => by
    show (if so.isPrefixOf [] then [off] else []) = _
    simp [stepPl, escBy]
  | k :: r, off => by
    rw [placesL, places_steps t so r, List.length_cons, List.range_succ_eq_map (n := r.length + 1), List.flatMap_cons, List.flatMap_map]
    have e0 : stepPl t so (k :: r) off 0 = (if so.isPrefixOf (k :: r) then [off] else []) ++ (List.range ((spell t k).length - 1)).flatMap fun j => if inner08 so ((spell t k).drop (1 + j)) r then [off + (1 + j)] else [] := by
      simp [stepPl, escBy]
    rw [e0]
    congr 1
    congr 1
    funext i
    unfold stepPl
    have e1 : off + (spell t k).length + (escBy t (r.take i)).length = off + (escBy t ((k :: r).take (Nat.succ i))).length := by
      rw [List.take_succ_cons, escBy_cons, List.length_append]; omega
    rw [e1]
    rfl
/-- all places, by looking at each -/
theorem occ_filter (p : List Nat) : ∀ (l : List Nat) (off : Nat), occAll p l off = (List.range (l.length + 1)).flatMap fun q => if p.isPrefixOf (l.drop q) then [off + q] else []
  | [], off => by simp [occAll]
  | c :: r, off => by
    rw [occAll, occ_filter p r, List.length_cons, List.range_succ_eq_map (n := r.length + 1), List.flatMap_cons, List.flatMap_map]
    simp only [List.drop_zero, Nat.add_zero]
    congr 2
    funext q
    rw [show off + 1 + q = off + Nat.succ q by omega]
    rfl
end Mine
end
section
open PySem PySem.W PyProof.Rows
set_option linter.unusedVariables false
set_option maxRecDepth 100000
namespace Mine
section
def iN (k : Nat) : D := .int k
abbrev dD (t : Tbl) : D := .dict (t.map fun p => T [p.1]) (t.map fun p => .str (T p.2))
theorem dget_tb {tb : Tbl} (k : Nat) : dget (tb.map fun p => T [p.1]) (tb.map fun p => D.str (T p.2)) ⟨#[k]⟩ = (tb.lookup k).map fun t => .str (T t) := by
  unfold dget
  induction tb with
  | nil => rfl
  | cons p r ih =>
    obtain ⟨a, b⟩ := p
    simp only [List.map_cons, List.zip_cons_cons, List.lookup_cons]
    have e : ((⟨#[k]⟩ : Str) == T [a]) = (k == a) := by
      rw [← T_one, T_beq]
      simp
      by_cases h : k = a <;> simp [h]
    rw [e]
    cases k == a with
    | true => rfl
    | false => exact ih
theorem cut_prefix (so l : List Nat) (i : Nat) : (T ((l.take (i + so.length)).drop i) == T so) = so.isPrefixOf (l.drop i) := by
  rw [T_beq, Bool.eq_iff_iff, decide_eq_true_eq, List.isPrefixOf_iff_prefix, List.drop_take, Nat.add_sub_cancel_left]
  constructor
  · intro h; conv => lhs; rw [← h]
    exact List.take_prefix _ _
  · rintro ⟨r, h⟩; rw [← h, List.take_left]
abbrev strDict (t : List (Str × Str)) : D := .dict (t.map (·.1)) (t.map fun p => .str p.2)
theorem strDict_eq {t : List (Str × Str)} {tb : Tbl} (h : t = tb.map fun p => (T [p.1], T p.2)) : strDict t = dD tb := by
  rw [h]
  show D.dict _ _ = D.dict _ _
  rw [List.map_map, List.map_map]
  rfl
def sC : List (Str × Str) := [("&", "&amp;"), ("<", "&lt;"), (">", "&gt;")]
def sA : List (Str × Str) := [("&", "&amp;"), ("<", "&lt;"), (">", "&gt;"), ("\"", "&quot;"), ("\r", "&#13;"), ("\n", "&#10;"), ("\t", "&#09;")]
def sH : List (Str × Str) := [("&", "&amp;"), (">", "&gt;"), ("\"", "&quot;")]
def sCC : List (Str × Str) := [("&", "&amp;"), ("<", "&lt;"), (">", "&gt;"), ("\r", "&#xD;")]
def sAC : List (Str × Str) := [("&", "&amp;"), ("<", "&lt;"), ("\"", "&quot;"), ("\t", "&#x9;"), ("\n", "&#xA;"), ("\r", "&#xD;")]
theorem found_eq (p l : List Nat) : ((List.range (l.length + 1 - p.length)).flatMap fun q => if (T ((l.take (q + p.length)).drop q) == T p) = true then [iN q] else []) = (occAll p l 0).map iN := by
  rw [occ_filter]
  have h1 : ∀ q, (if (T ((l.take (q + p.length)).drop q) == T p) = true then [iN q] else []) = (if p.isPrefixOf (l.drop q) = true then [0 + q] else []).map iN := by
    intro q
    rw [cut_prefix, Nat.zero_add]
    split <;> rfl
  have h2 : ∀ m : List Nat, (m.flatMap fun q => if (T ((l.take (q + p.length)).drop q) == T p) = true then [iN q] else []) = (m.flatMap fun q => if p.isPrefixOf (l.drop q) = true then [0 + q] else []).map iN := by
    intro m
    induction m with
    | nil => rfl
    | cons q r ih => rw [List.flatMap_cons, List.flatMap_cons, List.map_append, ih, h1]
  rw [h2]
  congr 1
  have e : List.range (l.length + 1) = List.range (l.length + 1 - p.length) ++ (List.range (l.length + 1 - (l.length + 1 - p.length))).map ((l.length + 1 - p.length) + ·) := by
    rw [← List.range_add]; congr 1; omega
  rw [e, List.flatMap_append]
  have h3 : (((List.range (l.length + 1 - (l.length + 1 - p.length))).map ((l.length + 1 - p.length) + ·)).flatMap fun q => if p.isPrefixOf (l.drop q) = true then [0 + q] else []) = [] := by
    rw [List.flatMap_eq_nil_iff]
    intro q hq
    obtain ⟨j, hj, rfl⟩ := List.mem_map.mp hq
    rw [List.mem_range] at hj
    rw [if_neg]
    intro h
    have := (List.isPrefixOf_iff_prefix.mp h).length_le
    rw [List.length_drop] at this
    omega
  rw [h3, List.append_nil]
theorem bare_flat (t : Tbl) (l : List Nat) : (l.flatMap fun c => if (!((t.lookup c).map fun z => D.str (T z)).isSome) = true then [D.str ⟨#[c]⟩] else []) = txs ((bare08 t l).map fun c => T [c]) := by
  induction l with
  | nil => rfl
  | cons c r ih =>
    rw [List.flatMap_cons, ih]
    unfold bare08
    rw [List.filter_cons]
    cases t.lookup c with
    | none => rfl
    | some z => rfl
theorem join_flatT (xs : List (List Nat)) : Txt.join Str.empty (xs.map T) = T xs.flatten := by
  unfold Txt.join
  rw [StrLaws.glued_eq_join]
  have h := join_list [] xs
  have e : ∀ xs : List (List Nat), (xs.intersperse []).flatten = xs.flatten := by
    intro xs
    induction xs with
    | nil => rfl
    | cons a r ih => cases r with
      | nil => rfl
      | cons b r => rw [List.intersperse_cons_cons]; simp only [List.flatten_cons, List.nil_append] at ih ⊢; rw [ih]
  rw [e] at h
  exact h
theorem join_ones (l : List Nat) : Txt.join Str.empty (l.map fun c => T [c]) = T l := by
  have h := join_flatT (l.map fun c => [c])
  rw [List.map_map] at h
  have e : (T ∘ fun c => [c]) = fun c : Nat => T [c] := rfl
  rw [e] at h
  rw [h]
  congr 1
  clear h e
  induction l with
  | nil => rfl
  | cons c r ih => rw [List.map_cons, List.flatten_cons, ih]; rfl
end
end Mine
end
section
open PySem PySem.W PyProof.Rows
set_option linter.unusedVariables false
set_option maxRecDepth 100000
namespace Mine
section
variable {G : Gnd} {env : Env} {Z Z' H H' : Zf} {ρ ρ' ρc : Loc} {s s' : Shared} {A : Around} {E : Value → Shared → Prop} {n : Nat} {pos apos : Pos}

/-- held objects are changed, or held anew, or no more; more is frozen -/
theorem St.move (S : St G env Z H ρ s) (T : Addr → Prop) (hT : ∀ a, T a → G.base.get? a = none ∧ (∀ y c, env.cells.lookup y = some c → c ≠ a) ∧ ((∃ o, H a = some o) ∨ s.heap.get? a = none))
    (hk : ∀ b ob, ¬ T b → s.heap.get? b = some ob → s'.heap.get? b = some ob) (hH : ∀ b, ¬ T b → H' b = H b) (hH' : ∀ a o, T a → H' a = some o → s'.heap.get? a = some o)
    (le : Zle Z Z') (zin' : ∀ a o, Z' a = some o → s'.heap.get? a = some o) (new : ∀ a o, Z' a = some o → Z a = some o ∨ s.heap.get? a = none) (zT' : ∀ a o, Z' a = some o → ¬ T a)
    (hg : s'.gens = s.gens) (hos : s'.os = s.os) (ht : s.toks ≤ s'.toks) : St G env Z' H' ρ s' := by
  have nT : ∀ a ob, s.heap.get? a = some ob → H a = none → ¬ T a := fun a ob h hn q => by
    rcases (hT a q).2.2 with ⟨o, e⟩ | e
    · rw [hn] at e; cases e
    · rw [h] at e; cases e
  have keepN : ∀ a ob, s.heap.get? a = some ob → Z a = none → Z' a = none := fun a ob h hz => by
    cases q : Z' a with
    | none => rfl
    | some o => rcases new a o q with h' | h'
                · rw [hz] at h'; cases h'
                · rw [h] at h'; cases h'
  obtain ⟨m, oL, es, ep, eL, eL'⟩ := S.ns
  have lT := nT _ _ eL S.lh
  have cT : ∀ y c, env.cells.lookup y = some c → ¬ T c := fun y c e q => (hT c q).2.1 y c e rfl
  have has : ∀ y v, Has env s.heap y v → Has env s'.heap y v := fun y v q => by
    rcases q with ⟨k, m, ⟨ob, es, ep, e1, e2⟩, e⟩ | ⟨k, c, e, ob, e1, e2⟩
    · exact .inl ⟨k, m, ⟨ob, es, ep, hk _ _ lT e1, e2⟩, e⟩
    · exact .inr ⟨k, c, e, ob, hk _ _ (cT y c e) e1, e2⟩
  refine ⟨S.fk, S.gl, S.bl, hg.trans S.gens, hos.trans S.os, Nat.lt_of_lt_of_le S.tk ht, zin', fun a ob h => ?_, fun a ob h => ?_, fun a ob h => ?_, ⟨m, oL, es, ep, hk _ _ lT eL, eL'⟩, keepN _ _ eL S.lz, ?_, fun y c e => ?_, S.inj, fun y d e => ?_, ?_⟩
  · by_cases q : T a
    · exact hH' a ob q h
    · rw [hH a q] at h; exact hk _ _ q (S.hin a ob h)
  · rw [hH a (zT' a ob h)]
    rcases new a ob h with h' | h'
    · exact S.dj a ob h'
    · cases q : H a with
      | none => rfl
      | some o => have := S.hin a o q; rw [h'] at this; cases this
  · refine (S.bas a ob h).elim (fun q => .inl (le _ _ q)) fun q => .inr ?_
    rw [hH a fun z => by rw [(hT a z).1] at h; cases h]; exact q
  · rw [hH _ lT]; exact S.lh
  · obtain ⟨h0, h1, h2⟩ := S.cells y c e
    refine ⟨h0, fun hf => ?_, fun hf => ?_⟩
    · obtain ⟨a, b, v, ob, e1, e2⟩ := h1 hf
      exact ⟨keepN _ _ e1 a, by rw [hH _ (cT y c e)]; exact b, v, ob, hk _ _ (cT y c e) e1, e2⟩
    · obtain ⟨ob, h⟩ := h2 hf
      exact ⟨ob, by rw [hH _ (cT y c e)]; exact h⟩
  · obtain ⟨v, h, r⟩ := S.vars y d e; exact ⟨v, has y v h, r.mono le⟩
  · obtain ⟨oa, hi, h⟩ := S.owns
    refine ⟨oa, hi, fun y ds e => ?_⟩
    obtain ⟨g1, g2, g3, g4, g5, vs, k, g6, g7⟩ := h y ds e
    exact ⟨has _ _ g1, keepN _ _ g6 g2, by rw [hH _ (nT _ _ g6 g3)]; exact g3, g4, g5, vs, k, hk _ _ (nT _ _ g6 g3) g6, g7.mono le⟩

/-- what a turn of an iterator leaves -/
def ItPost (G : Gnd) (Zc : Zf) (T : Addr → Prop) (d : D) (W : Heap → Prop) (s : Shared) (v : Value) (s' : Shared) : Prop :=
  ∃ Z', Zle Zc Z' ∧ (∀ a o, Z' a = some o → s'.heap.get? a = some o) ∧ (∀ a o, Z' a = some o → Zc a = some o ∨ s.heap.get? a = none) ∧ (∀ a o, Z' a = some o → ¬ T a) ∧ Rep G Z' v d ∧ W s'.heap ∧
      (∀ b o, ¬ T b → s.heap.get? b = some o → s'.heap.get? b = some o) ∧ s'.gens = s.gens ∧ s'.os = s.os ∧ s.toks ≤ s'.toks
/-- an iterator that may own the tuples that it gives: the objects T are its own -/
structure ItT (G : Gnd) (Z : Zf) (tgt : PySem.Expr) (I : Addr) (T : Addr → Prop) (ds : List D) (W : Nat → Heap → Prop) : Prop where
  self : ∀ (A : Around) (i : Nat) (s : Shared) (Q : Value → Shared → Prop) (E : Value → Shared → Prop), A.handled = none → W i s.heap → Q (.ref I) s → wpAny (model G.prog G.w) A (pyIter (.ref I)) Q E s
  frame : ∀ i h h', W i h → (∀ b o, T b → h.get? b = some o → h'.get? b = some o) → (∀ b o oz, Z b = some oz → h.get? b = some o → h'.get? b = some o) → W i h'
  live : ∀ i h b, W i h → T b → ∃ o, h.get? b = some o
  item : ∀ (A : Around) (i : Nat) (s : Shared) (Zc : Zf) (d : D), A.handled = none → ds[i]? = some d → W i s.heap → Zle Z Zc → (∀ a o, Zc a = some o → s.heap.get? a = some o) → (∀ a o, Zc a = some o → ¬ T a) →
    wpAny (model G.prog G.w) A (pyNext (.ref I)) (fun ov s₁ => ∃ v, ov = some v ∧ wpAny (model G.prog G.w) A (letOwnedTupleGo tgt (.ref I) v) (fun _ s₂ => ItPost G Zc T d (W (i + 1)) s v s₂) (fun _ _ => False) s₁) (fun _ _ => False) s
  done : ∀ (A : Around) (s : Shared) (Q : Option Value → Shared → Prop) (E : Value → Shared → Prop), A.handled = none → W ds.length s.heap →
    (∀ h' tk, (∀ b o, ¬ T b → s.heap.get? b = some o → h'.get? b = some o) → s.toks ≤ tk → Q none { s with heap := h', toks := tk }) → wpAny (model G.prog G.w) A (pyNext (.ref I)) Q E s

def ItTAt (G : Gnd) (Z : Zf) (tgt : PySem.Expr) (ds : List D) (s s' : Shared) (it : Value) : Prop :=
  ∃ (I : Addr) (T : Addr → Prop) (W : Nat → Heap → Prop) (Z₁ : Zf), it = .ref I ∧ Ext Z s Z₁ s' ∧ (∀ b, T b → s.heap.get? b = none) ∧ (∀ b o, Z₁ b = some o → ¬ T b) ∧ ItT G Z₁ tgt I T ds W ∧ W 0 s'.heap
/-- what is gone through, as an expression -/
structure EvIt (G : Gnd) (env : Env) (n : Nat) (ρ : Loc) (iter tgt : PySem.Expr) (ds : List D) : Prop where
  run : ∀ A Z H s, Room n A → St G env Z H ρ s → wpAny (model G.prog G.w) A (eval iter env) (fun v s₁ => wpAny (model G.prog G.w) A (pyIter v) (fun it s₂ => ItTAt G Z tgt ds s s₂ it) (fun _ _ => False) s₁) (fun _ _ => False) s

theorem St.holdT {T : Addr → Prop} (S : St G env Z H ρ s) (x : Ext Z s Z' s') (hT : ∀ b, T b → s.heap.get? b = none) (hz : ∀ b o, Z' b = some o → ¬ T b) : ∃ H', St G env Z' H' ρ s' ∧ (∀ b, ¬ T b → H' b = H b) ∧ (∀ b, T b → H' b = s'.heap.get? b) ∧
    (∀ b, T b → G.base.get? b = none ∧ (∀ y c, env.cells.lookup y = some c → c ≠ b) ∧ H b = none) := by
  classical
  have old : ∀ b ob, T b → s.heap.get? b ≠ some ob := fun b ob h q => by rw [hT b h] at q; cases q
  have facts : ∀ b, T b → G.base.get? b = none ∧ (∀ y c, env.cells.lookup y = some c → c ≠ b) ∧ H b = none := fun b hb => by
    refine ⟨?_, fun y c e q => ?_, ?_⟩
    · cases q : G.base.get? b with
      | none => rfl
      | some ob => exact absurd (S.keepBase b ob q) (old b ob hb)
    · obtain ⟨_, h1, h2⟩ := S.cells y c e
      cases hf : env.func.isSome with
      | true => obtain ⟨_, _, v, ob, hob, _⟩ := h1 hf; exact old b ob hb (q ▸ hob)
      | false => obtain ⟨ob, hob⟩ := h2 hf; exact old b ob hb (q ▸ S.hin c ob hob)
    · cases q : H b with
      | none => rfl
      | some ob => exact absurd (S.hin b ob q) (old b ob hb)
  refine ⟨fun b => if T b then s'.heap.get? b else H b, ?_, fun b h => if_neg h, fun b h => if_pos h, facts⟩
  exact S.move T (fun a ha => ⟨(facts a ha).1, (facts a ha).2.1, .inr (hT a ha)⟩) (fun b ob _ e => x.keep b ob e) (fun b h => if_neg h) (fun a o ha e => by rw [if_pos ha] at e; exact e) x.le x.zin x.new hz x.gens x.os x.tk

theorem ex_forT {tgt iter : PySem.Expr} {body : List Stmt} {ds : List D} {Φ : Fl → Loc → Prop} (P : Nat → Loc → Prop) (h : EvIt G env n ρ iter tgt ds) (h0 : P 0 ρ)
    (turn : ∀ i d ρ', ds[i]? = some d → P i ρ' → ∃ ρ'', Asg G env tgt d ρ' ρ'' ∧ Exs G env n ρ'' body (LoopPost Φ (P (i + 1))))
    (done : ∀ ρ', P ds.length ρ' → Φ .next ρ') (hs : ∀ x, foldedSetIterable iter env x = pure x) : Ex G env n ρ (.For tgt iter body [] pos) Φ := by
  constructor
  intro A Z H s R S
  refine wpAny_For (wp_seq (h.run A Z H s R S) fun v s₁ h₁ => wp_seq h₁ fun it s₂ ⟨I, T, W, Z₁, e, x₁, hT, hZT, hW, hW0⟩ => ?_) hs
  subst e
  obtain ⟨H₂, S₂, hH1, hH2, facts⟩ := S.holdT x₁ hT hZT
  refine codeAny_forLoop_any (fun m s => ∃ i Zc ρc Hc, m = ds.length - i ∧ i ≤ ds.length ∧ Zle Z₁ Zc ∧ (∀ b, ¬ T b → Hc b = H b) ∧ (∀ b, T b → Hc b = s.heap.get? b) ∧ St G env Zc Hc ρc s ∧ W i s.heap ∧ P i ρc) (fun m s hm => ?_) ds.length ⟨0, Z₁, ρ, H₂, rfl, Nat.zero_le _, Zle.same, hH1, hH2, S₂, hW0, h0⟩
  obtain ⟨i, Zc, ρc, Hc, rfl, hle, lec, hHc1, hHc2, Sc, hWi, hPi⟩ := hm
  have zTc : ∀ a o, Zc a = some o → ¬ T a := fun a o e q => by
    obtain ⟨ob, hob⟩ := hW.live i s.heap a hWi q
    have := Sc.dj a o e
    rw [hHc2 a q, hob] at this; cases this
  by_cases hlt : i < ds.length
  · refine wp_seq (hW.item A i s Zc ds[i] R.handled (by simp [hlt]) hWi lec Sc.zin zTc) fun ov s₁' ⟨v, e, hv⟩ => ?_
    subst e
    refine wp_seq hv fun _ s₃ ⟨Z₃, le₃, zin₃, new₃, zT₃, rv, hW₃, keep₃, g₃, o₃, t₃⟩ => ?_
    obtain ⟨ρ'', ha, hb⟩ := turn i ds[i] ρc (by simp [hlt]) hPi
    classical
    have S₃ : St G env Z₃ (fun b => if T b then s₃.heap.get? b else H b) ρc s₃ := Sc.move T (fun a ha => ⟨(facts a ha).1, (facts a ha).2.1, .inl (let ⟨o, ho⟩ := hW.live i s.heap a hWi ha; ⟨o, (hHc2 a ha).trans ho⟩)⟩) keep₃
      (fun b hb => (if_neg hb).trans (hHc1 b hb).symm) (fun a o ha e => by rw [if_pos ha] at e; exact e) le₃ zin₃ new₃ zT₃ g₃ o₃ t₃
    refine wp_seq (ha.run A Z₃ _ _ v (R.less (Nat.zero_le _)) S₃ rv) fun _ s₄ ⟨Z₄, le₄, S₄⟩ => ?_
    refine wp_seq (hb.run A Z₄ _ s₄ R S₄) fun f s₅ ⟨Z₅, ρ₅, fl, le₅, S₅, hf, hΦ⟩ => ?_
    have les : Zle Z Z₅ := x₁.le.trans (lec.trans (le₃.trans (le₄.trans le₅)))
    have hT5 : ∀ b, T b → (if T b then s₃.heap.get? b else H b) = s₅.heap.get? b := fun b hb => by
      obtain ⟨o, ho⟩ := hW.live _ _ b hW₃ hb
      rw [if_pos hb, ho]
      exact (S₅.hin b o (by rw [if_pos hb]; exact ho)).symm
    have back : St G env Z₅ H ρ₅ s₅ := S₅.move T (fun a ha => ⟨(facts a ha).1, (facts a ha).2.1, .inl (let ⟨o, ho⟩ := hW.live _ _ a hW₃ ha; ⟨o, (if_pos ha).trans ho⟩)⟩) (fun _ _ _ e => e)
      (fun b hb => (if_neg hb).symm) (fun a o ha e => by rw [(facts a ha).2.2] at e; cases e) Zle.same S₅.zin (fun _ _ e => .inl e) (fun a o e ha => by
        obtain ⟨ob, ho⟩ := hW.live _ _ a hW₃ ha
        have := S₅.dj a o e
        rw [if_pos ha, ho] at this; cases this) rfl rfl (Nat.le_refl _)
    have nx : P (i + 1) ρ₅ → ∃ m, m < ds.length - i ∧ ∃ i Zc ρc Hc, m = ds.length - i ∧ i ≤ ds.length ∧ Zle Z₁ Zc ∧ (∀ b, ¬ T b → Hc b = H b) ∧ (∀ b, T b → Hc b = s₅.heap.get? b) ∧ St G env Zc Hc ρc s₅ ∧ W i s₅.heap ∧ P i ρc := fun hp => by
      refine ⟨ds.length - (i + 1), by omega, i + 1, Z₅, ρ₅, _, rfl, by omega, lec.trans (le₃.trans (le₄.trans le₅)), fun b hb => if_neg hb, hT5, S₅, hW.frame _ _ _ hW₃ (fun b o hb e => ?_) fun b o oz hz e => ?_, hp⟩
      · rw [← hT5 b hb, if_pos hb]; exact e
      · have e1 := zin₃ b oz (le₃ b oz (lec b oz hz))
        rw [e] at e1; cases e1
        exact S₅.zin _ _ (le₅ _ _ (le₄ _ _ (le₃ _ _ (lec _ _ hz))))
    cases hf with
    | next => exact nx hΦ
    | cont => exact nx hΦ
    | brk => exact ⟨Z₅, ρ₅, .next, les, back, .next, hΦ⟩
    | ret r => exact ⟨Z₅, ρ₅, .ret _, les, back, .ret r, hΦ⟩
  · have hlen : i = ds.length := by omega
    subst hlen
    refine hW.done A s _ _ R.handled hWi fun h' tk hk tok => ?_
    refine wpAny_execs_nil ?_
    refine ⟨Zc, ρc, .next, x₁.le.trans lec, Sc.move T (fun a ha => ⟨(facts a ha).1, (facts a ha).2.1, .inl (let ⟨o, ho⟩ := hW.live _ _ a hWi ha; ⟨o, (hHc2 a ha).trans ho⟩)⟩) hk (fun b hb => (hHc1 b hb).symm) (fun a o ha e => by rw [(facts a ha).2.2] at e; cases e)
      Zle.same (fun a o e => hk a o (zTc a o e) (Sc.zin a o e)) (fun _ _ e => .inl e) zTc rfl rfl tok, .next, done _ hPi⟩

theorem ex_forTI {tgt iter : PySem.Expr} {body : List Stmt} {ds : List D} {Φ : Fl → Loc → Prop} (I : Nat → Loc) (h : EvIt G env n ρ iter tgt ds) (h0 : Sub (I 0) ρ)
    (turn : ∀ i d, ds[i]? = some d → ∃ ρ'', Asg G env tgt d (I i) ρ'' ∧ Exs G env n ρ'' body (LoopPost Φ (Sub (I (i + 1)))))
    (done : ∀ ρ', Sub (I ds.length) ρ' → Φ .next ρ') (hs : ∀ x, foldedSetIterable iter env x = pure x) : Ex G env n ρ (.For tgt iter body [] pos) Φ :=
  ex_forT (fun i ρ' => Sub (I i) ρ') h h0 (fun i d ρ' hd hsub => by
    obtain ⟨ρ'', ha, hb⟩ := turn i d hd
    exact ⟨ρ'', asg_weaken hsub ha, hb⟩) done hs
end
end Mine
end
section
open PySem PySem.W PyProof.Rows
set_option linter.unusedVariables false
set_option maxRecDepth 100000
namespace Mine
section
variable {G : Gnd} {env : Env} {Z Z' H H' : Zf} {ρ ρ' ρc : Loc} {s s' : Shared} {A : Around} {E : Value → Shared → Prop} {n : Nat} {pos apos : Pos}

def enumD (ds : List D) : List D := ds.zipIdx.map fun p => .tup [.int p.2, p.1]
theorem enumD_at {ds : List D} {i : Nat} {d : D} (h : ds[i]? = some d) : (enumD ds)[i]? = some (.tup [.int i, d]) := by
  unfold enumD
  rw [List.getElem?_map, List.getElem?_zipIdx, h]
  simp
theorem enumD_len (ds : List D) : (enumD ds).length = ds.length := by simp [enumD]
theorem enum_core {e it : Addr} {fp : List Addr} {m : Nat} {P : Nat → Value → Prop} {W : Nat → Heap → Prop} {ds : List D} {ts : List PySem.Expr} {k : Nat} {tpos : Pos} (hlen : ds.length = m)
    (Dr : ∀ A : Around, A.handled = none → Draws G.prog G.w A it fp m P W) (hei : e ≠ it) (hef : e ∉ fp) (hif : it ∈ fp) (hfp : ∀ b ∈ fp, b = it ∨ ∃ o, Z b = some o) (hP : ∀ i v, P i v → ∃ d, ds[i]? = some d ∧ Rep G Z v d) :
    ItT G Z (.Tuple ts k tpos) e (fun b => b = e ∨ b = it) (enumD ds) (fun i h => (∃ old, IsEnum h e it i old) ∧ W i h) := by
  have Wt := fun (A : Around) (hA : A.handled = none) => WalksT.enumerateD (A := A) (Dr A.in1 hA) e hei hef hif
  have toT : ∀ b, b ∉ [e, it] → ¬ (b = e ∨ b = it) := fun b h => by simpa using h
  have toT' : ∀ b, ¬ (b = e ∨ b = it) → b ∉ [e, it] := fun b h => by simpa using h
  refine ⟨fun A i s Q E hA h hQ => (Wt A hA).self i s Q E h hQ, fun i h h' hw h1 h2 => ?_, fun i h b hw hb => ?_, fun A i s Zc d hA hd hw le zin zT => ?_, fun A s Q E hA hw hQ => ?_⟩
  · refine (Wt {} rfl).frame i h h' hw fun b hb o ho => ?_
    rcases List.mem_cons.mp hb with rfl | hb
    · exact h1 _ o (.inl rfl) ho
    · rcases hfp b hb with rfl | ⟨oz, hz⟩
      · exact h1 _ o (.inr rfl) ho
      · exact h2 b o oz hz ho
  · rcases hb with rfl | rfl
    · obtain ⟨⟨old, he⟩, _⟩ := hw; exact ⟨_, he⟩
    · exact (Dr {} rfl).live i h hw.2
  · have hi : i < m := by
      have := (List.getElem?_eq_some_iff.mp hd).1
      rw [enumD_len, hlen] at this; exact this
    obtain ⟨⟨old, he⟩, hs⟩ := hw
    have helt : e < s.heap.objs.size := Heap.lt_size he
    have hilt : it < s.heap.objs.size := by obtain ⟨_, y⟩ := (Dr A.in1 hA).live _ _ hs; exact Heap.lt_size y
    refine wpAny_with_toks (Nat.le_refl s.toks) (wpAny_pyNext_enum_itemD (Dr A.in1 hA) he hs hi hei hef fun x h' tk px ho hs' hTup hsz hk tok => ⟨_, rfl, ?_⟩)
    obtain ⟨d₀, hd₀, rx⟩ := hP i x px
    have hdd : d = .tup [.int i, d₀] := by rw [enumD_at hd₀] at hd; exact (Option.some.inj hd).symm
    subst hdd
    refine (Wt A hA).go ts k tpos i s.heap.objs.size { s with heap := h', toks := tk + 1 } _ _ ⟨⟨_, ho⟩, hs', Nat.ne_of_gt helt, Nat.ne_of_gt hilt⟩ fun h₂ hW₂ hk₂ => ?_
    have hTp : s.heap.get? s.heap.objs.size = none := get?_size_none _
    have hzp : Zc s.heap.objs.size = none := by
      cases q : Zc s.heap.objs.size with
      | none => rfl
      | some o => have := zin _ o q; rw [hTp] at this; cases this
    have hap : s.heap.objs.size ∉ [e, it] := toT' _ fun h => h.elim (fun q => absurd q (Nat.ne_of_gt helt)) fun q => absurd q (Nat.ne_of_gt hilt)
    have hot₂ := hk₂ _ _ hap hTup
    have keep : ∀ b o, ¬ (b = e ∨ b = it) → s.heap.get? b = some o → h₂.get? b = some o := fun b o hb q => hk₂ b o (toT' b hb) (hk b o (fun z => hb (.inl z)) (fun z => hb (.inr z)) q)
    have le' := Zadd.le (o := { cls := .type "tuple", data := .seq [.int i tk, x].toArray }) hzp
    refine ⟨Zadd Zc s.heap.objs.size { cls := .type "tuple", data := .seq [.int i tk, x].toArray }, le', fun a o q => ?_, fun a o q => ?_, fun a o q => ?_, .tup (vs := [.int i tk, x]) Zadd.self (.cons (.int _ _) (.cons ((rx.mono le).mono le') .nil)), hW₂, keep, rfl, rfl, tok⟩
    · by_cases z : a = s.heap.objs.size
      · subst z; rw [Zadd.self] at q; cases q; exact hot₂
      · rw [show Zadd Zc s.heap.objs.size _ a = Zc a from if_neg z] at q; exact keep a o (zT a o q) (zin a o q)
    · by_cases z : a = s.heap.objs.size
      · subst z; exact .inr hTp
      · rw [show Zadd Zc s.heap.objs.size _ a = Zc a from if_neg z] at q; exact .inl q
    · by_cases z : a = s.heap.objs.size
      · subst z; exact toT _ hap
      · rw [show Zadd Zc s.heap.objs.size _ a = Zc a from if_neg z] at q; exact zT a o q
  · rw [enumD_len, hlen] at hw
    refine wpAny_with_toks (Nat.le_refl s.toks) ((Wt A hA).done s _ _ hw fun h' tk hk tok => hQ h' tk (fun b o hb e => hk b o (toT' b hb) e) tok)

/-- enumerate(..) of a list -/
theorem evit_enum_list {a : PySem.Expr} {p : Pos} {ds : List D} {ts : List PySem.Expr} {k : Nat} {tpos : Pos} (h : Ev G env n ρ a (.list ds)) (e : nsIn G.K mainGlobals "enumerate" = some none) (hx : env.kindOf "enumerate" = some .globalImplicit) (hst : isStarred a = false) :
    EvIt G env n ρ (.Call (.Name "enumerate" p) [a] [] pos) (.Tuple ts k tpos) (enumD ds) := by
  constructor
  intro A Z H s R S
  rw [eval_call rfl]
  have hst' : [a].any isStarred = false := by simp [hst]
  refine wpAny_bind (wp_builtinName S e rfl (by decide) hx rfl ?_)
  refine PyProof.Rows.callWith_type (starred_none (star_all hst') pos) (wp_evalArgs (starred_none (star_all hst') pos) (wp_seq ((evs_more h evs_nil hst).run A Z H s pos R S) fun vs s₂ ⟨Z₂, x₂, r₂⟩ => ?_))
  have S₂ := S.ext x₂
  cases r₂ with
  | cons r rr =>
    cases rr
    cases r with
    | @list l vs j _ hz ra =>
      have hl := S₂.zin _ _ hz
      refine call_enumerate_list (isList_of hl) fun h' he hit hsz hk => ?_
      have hs1 : s₂.heap.get? s₂.heap.objs.size = none := get?_size_none _
      have hs2 : s₂.heap.get? (s₂.heap.objs.size + 1) = none := by
        cases q : s₂.heap.get? (s₂.heap.objs.size + 1) with
        | none => rfl
        | some o => exact absurd (Heap.lt_size q) (Nat.not_lt.mpr (Nat.le_succ _))
      have hne : l ≠ s₂.heap.objs.size := fun q => by rw [q, hs1] at hl; cases hl
      have hne2 : l ≠ s₂.heap.objs.size + 1 := fun q => by rw [q, hs2] at hl; cases hl
      refine wpAny_pyIter_enum he ⟨_, _, _, Z₂, rfl, x₂.trans ⟨Zle.same, hk, fun b o q => hk b o (S₂.zin b o q), fun _ _ q => .inl q, rfl, rfl, Nat.le_refl _⟩, ?_, ?_,
        enum_core (e := s₂.heap.objs.size + 1) (it := s₂.heap.objs.size) (fp := [s₂.heap.objs.size, l]) (m := vs.toArray.size) (P := fun i v => vs.toArray[i]? = some v) (W := fun i h => h.IsListIter s₂.heap.objs.size l i ∧ h.IsList l vs.toArray) (by rw [List.size_toArray, ra.length])
          (fun A' hA => Draws.list hA _ _ hne _) (Nat.succ_ne_self _) ?_ (by simp) ?_ ?_, ⟨⟨_, he⟩, hit, isList_of (hk _ _ hl)⟩⟩
      · intro b hb
        cases q : s.heap.get? b with
        | none => rfl
        | some o =>
          have := x₂.keep _ _ q
          rcases hb with rfl | rfl
          · rw [hs2] at this; cases this
          · rw [hs1] at this; cases this
      · intro b o q hb
        have := S₂.zin b o q
        rcases hb with rfl | rfl
        · rw [hs2] at this; cases this
        · rw [hs1] at this; cases this
      · simp [Ne.symm hne2]
      · intro b hb
        rcases List.mem_cons.mp hb with rfl | hb
        · exact .inl rfl
        · rw [List.mem_singleton] at hb; subst hb; exact .inr ⟨_, hz⟩
      · intro i v hv
        have hv' : vs[i]? = some v := by simpa using hv
        have hlt : i < ds.length := by rw [← ra.length]; exact (List.getElem?_eq_some_iff.mp hv').1
        obtain ⟨w, hw, rw'⟩ := ra.get (i := i) (d := ds[i]) (by simp [hlt])
        rw [hv'] at hw; cases hw
        exact ⟨ds[i], by simp [hlt], rw'⟩

/-- enumerate(..) of a text -/
theorem evit_enum_str {a : PySem.Expr} {p : Pos} {x : Str} {ts : List PySem.Expr} {k : Nat} {tpos : Pos} (h : Ev G env n ρ a (.str x)) (e : nsIn G.K mainGlobals "enumerate" = some none) (hx : env.kindOf "enumerate" = some .globalImplicit) (hst : isStarred a = false) :
    EvIt G env n ρ (.Call (.Name "enumerate" p) [a] [] pos) (.Tuple ts k tpos) (enumD (charsOf x)) := by
  constructor
  intro A Z H s R S
  rw [eval_call rfl]
  have hst' : [a].any isStarred = false := by simp [hst]
  refine wpAny_bind (wp_builtinName S e rfl (by decide) hx rfl ?_)
  refine PyProof.Rows.callWith_type (starred_none (star_all hst') pos) (wp_evalArgs (starred_none (star_all hst') pos) (wp_seq ((evs_more h evs_nil hst).run A Z H s pos R S) fun vs s₂ ⟨Z₂, x₂, r₂⟩ => ?_))
  have S₂ := S.ext x₂
  cases r₂ with
  | cons r rr =>
    cases rr
    cases r with
    | str _ t =>
      have hlen : (charsOf x).length = x.cps.size := by simp [charsOf]
      have hP : ∀ (i : Nat) (v : Value), (∃ c u, x.cps[i]? = some c ∧ v = .str ⟨#[c]⟩ u) → ∃ d, (charsOf x)[i]? = some d ∧ Rep G Z₂ v d := by
        rintro i v ⟨c, u, hc, rfl⟩
        exact ⟨.str ⟨#[c]⟩, by simp [charsOf, hc], .str _ _⟩
      refine call_enumerate_str fun h' he hit hsz hk => ?_
      have hs1 : s₂.heap.get? s₂.heap.objs.size = none := get?_size_none _
      have hs2 : s₂.heap.get? (s₂.heap.objs.size + 1) = none := by
        cases q : s₂.heap.get? (s₂.heap.objs.size + 1) with
        | none => rfl
        | some o => exact absurd (Heap.lt_size q) (Nat.not_lt.mpr (Nat.le_succ _))
      have hW : ∀ W : Nat → Heap → Prop, W 0 h' → (∀ A' : Around, A'.handled = none → Draws G.prog G.w A' s₂.heap.objs.size [s₂.heap.objs.size] x.cps.size (fun i v => ∃ c u, x.cps[i]? = some c ∧ v = .str ⟨#[c]⟩ u) W) → ItTAt G Z (.Tuple ts k tpos) (enumD (charsOf x)) s { s₂ with heap := h' } (.ref (s₂.heap.objs.size + 1)) := fun W hW0 Dr => by
        refine ⟨_, _, _, Z₂, rfl, x₂.trans ⟨Zle.same, hk, fun b o q => hk b o (S₂.zin b o q), fun _ _ q => .inl q, rfl, rfl, Nat.le_refl _⟩, ?_, ?_,
          enum_core (e := s₂.heap.objs.size + 1) (it := s₂.heap.objs.size) (fp := [s₂.heap.objs.size]) (m := x.cps.size) (W := W) hlen Dr (Nat.succ_ne_self _) (by simp) (by simp) (fun b hb => .inl (by simpa using hb)) hP, ⟨⟨_, he⟩, hW0⟩⟩
        · intro b hb
          cases q : s.heap.get? b with
          | none => rfl
          | some o =>
            have := x₂.keep _ _ q
            rcases hb with rfl | rfl
            · rw [hs2] at this; cases this
            · rw [hs1] at this; cases this
        · intro b o q hb
          have := S₂.zin b o q
          rcases hb with rfl | rfl
          · rw [hs2] at this; cases this
          · rw [hs1] at this; cases this
      refine wpAny_pyIter_enum he ?_
      unfold strIterType at hit
      split at hit
      · exact hW _ hit fun A' hA => Draws.strAscii hA _ x t
      · exact hW _ hit fun A' hA => Draws.strWide hA _ x t
end
end Mine
end
section
open PySem PySem.W PyProof.Rows
set_option linter.unusedVariables false
set_option maxRecDepth 100000
namespace Mine
section
variable {G : Gnd} {env : Env} {Z Z' H H' : Zf} {ρ ρ' ρc : Loc} {s s' : Shared} {A : Around} {E : Value → Shared → Prop} {n : Nat} {pos apos : Pos}
structure CRunT (G : Gnd) (env : Env) (n : Nat) (e : PySem.Expr) (k : Nat) (tgt : PySem.Expr) (ρ : Loc) (ds : List D) (out : List D) : Prop where
  run : ∀ A Z H s I T D W vs m outs, Room n A → St G env Z H ρ s → (∀ b, T b → H b = s.heap.get? b) → H D = some (listOf vs.toArray m) → ¬ T D → RepAll G Z vs outs → outs.length + out.length ≤ sizeLine →
    (∀ b, T b → G.base.get? b = none) → G.base.get? D = none → (∀ y c, env.cells.lookup y = some c → ¬ T c ∧ c ≠ D) → ItT G Z tgt I T ds W → W 0 s.heap →
    codeAny (model G.prog G.w) A (.compLoop e k (.ref I) (.ref D) env) (fun r s' => r = .ok .next ∧ ∃ Z' H' vs' m', Zle Z Z' ∧ (∀ b, ¬ T b → b ≠ D → H' b = H b) ∧ (∀ b, T b → H' b = none) ∧ H' D = some (listOf vs'.toArray m') ∧
      St G env Z' H' ρ s' ∧ RepAll G Z' vs' (outs ++ out)) s
def CInvT (G : Gnd) (env : Env) (ρ : Loc) (Z H : Zf) (I : Addr) (T : Addr → Prop) (D : Addr) {α : Type} (xs : List α) (F : α → List Mine.D) (outs : List Mine.D) (W : Nat → Heap → Prop) (j : Nat) (s : Shared) : Prop :=
  ∃ (i : Nat) (Zc Hc : Zf) (vs : List Value) (m : Nat), j = xs.length - i ∧ i ≤ xs.length ∧ Zle Z Zc ∧ (∀ b, ¬ T b → b ≠ D → Hc b = H b) ∧ (∀ b, T b → Hc b = s.heap.get? b) ∧ Hc D = some (listOf vs.toArray m) ∧ St G env Zc Hc ρ s ∧ W i s.heap ∧
    RepAll G Zc vs (outs ++ (xs.take i).flatMap F)

/-- a clause with another one behind it -/
theorem comp_moreT {elt tgt iter iter' : PySem.Expr} {ifs : List PySem.Expr} {gens : List Comprehension} {g' : Comprehension} {scope : Scope} {k : Nat} {α : Type} {xs : List α} {mk : α → D} {F : α → List D} (hg : gens[k + 1]? = some g') (ha : g'.is_async = 0) (hi' : g'.iter = iter')
    (hf : ∀ x, foldedSetIterable iter' env x = pure x)
    (he : ∀ it acc, compTurn (.ListComp elt gens scope pos) k it acc env = (do
      standAt iter.pos
      match ← pyNext it with
      | none => pure (.done .next)
      | some v =>
        letOwnedTupleGo tgt it v
        assign tgt env v
        let mut ok := true
        for c in ifs do
          if ok then ok ← isTrue c env (eval c env)
        if ok then
          let x ← eval iter' env
          standAt iter'.pos
          let x ← foldedSetIterable iter' env x
          let _ ← runOwn (.compStart (.ListComp elt gens scope pos) (k + 1) (← holding [x] (pyIter x)) acc env) env
        again (.compLoop (.ListComp elt gens scope pos) k it acc env)))
    (item : ∀ a ∈ xs, ∃ ρ₁ ok, Asg G env tgt (mk a) ρ ρ₁ ∧ Sub ρ ρ₁ ∧ Tsts G env n ρ₁ ifs ok ∧ (ok = false → F a = []) ∧ (ok = true → ∃ d' ds', Ev G env n ρ₁ iter' d' ∧ Itr G d' ds' ∧ CRun G env n (.ListComp elt gens scope pos) (k + 1) ρ₁ ds' (F a))) :
    CRunT G env n (.ListComp elt gens scope pos) k tgt ρ (xs.map mk) (xs.flatMap F) := by
  classical
  constructor
  intro A Z H s I T D W vs m outs R S hI hD hID hv hsz hBI hBD hC hW hW0
  refine codeAny_loop rfl (CInvT G env ρ Z H I T D xs F outs W) (fun j s hj => ?_) xs.length ⟨0, Z, H, vs, m, rfl, Nat.zero_le _, Zle.same, fun _ _ _ => rfl, hI, hD, S, hW0, by simpa using hv⟩
  obtain ⟨i, Zc, Hc, vs, m, rfl, hle, lec, hHc, hI, hD, Sc, hWi, hv⟩ := hj
  have zTc : ∀ a o, Zc a = some o → ¬ T a := fun a o e q => by
    obtain ⟨ob, hob⟩ := hW.live i s.heap a hWi q
    have := Sc.dj a o e
    rw [hI a q, hob] at this; cases this
  have hTm : ∀ a, T a → G.base.get? a = none ∧ (∀ y c, env.cells.lookup y = some c → c ≠ a) ∧ ((∃ o, Hc a = some o) ∨ s.heap.get? a = none) := fun a ha => ⟨hBI a ha, fun y c e q => (hC y c e).1 (q ▸ ha), .inl (let ⟨o, ho⟩ := hW.live i s.heap a hWi ha; ⟨o, (hI a ha).trans ho⟩)⟩
  show wpAny _ A ((compTurn (.ListComp elt gens scope pos) k (.ref I) (.ref D) env).onRaise (fun x => do noteFrame x env; theTreesLotGoes x)) _ _ s
  refine wpAny_noted ?_
  rw [he]
  have len : (xs.map mk).length = xs.length := List.length_map ..
  by_cases hlt : i < xs.length
  · obtain ⟨a, ha'⟩ : ∃ a, xs[i]? = some a := ⟨xs[i], by simp [hlt]⟩
    refine wpAny_bind (wpAny_standAt (wpAny_bind (wp_seq (hW.item A i s Zc (mk a) R.handled (by rw [List.getElem?_map, ha']; rfl) hWi lec Sc.zin zTc) fun ov s₀ ⟨v, e, hv'⟩ => ?_)))
    subst e
    refine wpAny_bind (wp_seq hv' fun _ s₁ ⟨Z₁, le₁, zin₁, new₁, zT₁, rv, hW', keep₁, g₁, o₁, t₁⟩ => ?_)
    have S₁ : St G env Z₁ (fun b => if T b then s₁.heap.get? b else Hc b) ρ s₁ := Sc.move T hTm keep₁ (fun b hb => if_neg hb) (fun a o ha e => by rw [if_pos ha] at e; exact e) le₁ zin₁ new₁ zT₁ g₁ o₁ t₁
    have hD₁ : (fun b => if T b then s₁.heap.get? b else Hc b) D = some (listOf vs.toArray m) := (if_neg hID).trans hD
    obtain ⟨ρ₁, ok, hasg, hsub, htst, hno, hyes⟩ := item a (List.mem_of_getElem? ha')
    refine wpAny_bind (wp_seq (hasg.run A Z₁ _ _ v (R.less (Nat.zero_le _)) S₁ rv) fun _ s₂ ⟨Z₂, le₂, S₂⟩ => ?_)
    refine wpAny_bind (wp_seq (htst.run A Z₂ _ s₂ R S₂) fun ok' s₃ ⟨eo, x₃⟩ => ?_)
    subst eo
    have S₃ := S₂.ext x₃
    have take_succ : (xs.take (i + 1)).flatMap F = (xs.take i).flatMap F ++ F a := by rw [List.take_add_one, ha']; simp
    have nextW : ∀ (Z₄ H₄ : Zf) (s₄ : Shared) (ρ₄ : Loc), Zle Z₁ Z₄ → (∀ b, T b → H₄ b = s₁.heap.get? b) → St G env Z₄ H₄ ρ₄ s₄ → W (i + 1) s₄.heap ∧ ∀ b, T b → H₄ b = s₄.heap.get? b := fun Z₄ H₄ s₄ ρ₄ le₄ hI₄ S₄ => by
      refine ⟨hW.frame _ _ _ hW' (fun b ob hb e => S₄.hin b ob ((hI₄ b hb).trans e)) fun b ob oz hz e => ?_, fun b hb => ?_⟩
      · have e2 := zin₁ b oz (le₁ b oz (lec b oz hz))
        rw [e] at e2; cases e2
        exact S₄.zin _ _ (le₄ _ _ (le₁ _ _ (lec _ _ hz)))
      · obtain ⟨ob, ho⟩ := hW.live _ _ b hW' hb
        rw [hI₄ b hb, ho]
        exact (S₄.hin b ob ((hI₄ b hb).trans ho)).symm
    cases ok' with
    | false =>
      obtain ⟨nw, nh⟩ := nextW Z₂ _ s₃ ρ₁ le₂ (fun b hb => if_pos hb) S₃
      refine wpAny_pure ⟨rfl, xs.length - (i + 1), by omega, i + 1, Z₂, _, vs, m, rfl, by omega, lec.trans (le₁.trans le₂), fun b h1 h2 => ?_, nh, hD₁, S₃.weaken hsub, nw, ?_⟩
      · exact (if_neg h1).trans (hHc b h1 h2)
      · rw [take_succ, hno rfl, List.append_nil]; exact (hv.mono le₁).mono le₂
    | true =>
      obtain ⟨d', ds', hev, hitr, hrun⟩ := hyes rfl
      refine wpAny_bind (wp_seq (hev.run A Z₂ _ s₃ R S₃) fun y s₄ ⟨Z₄, x₄, r₄⟩ => wpAny_bind (wpAny_standAt (wpAny_bind (wpAny_of_eq (hf y) ?_))))
      have S₄ := S₃.ext x₄
      refine wpAny_bind (wpAny_holding (wp_seq (hitr.run A Z₄ s₄ y (R.less (Nat.zero_le _)) S₄.bs r₄) fun it s₅ ⟨I', fp', P', W', e, x₅, hI', hW₅, hfp', hW0', hcls', hP'⟩ => ?_))
      subst e
      obtain ⟨o₅, _, ho₅, _⟩ := hcls' 0 _ hW0'
      obtain ⟨S₅, hB', hH', hZ', hC'⟩ := S₄.hold x₅ hI' ho₅
      have oD := S₄.hin _ _ hD₁
      have nID : I' ≠ D := fun q => by rw [← q, hI'] at oD; cases oD
      have nII : ¬ T I' := fun q => by
        obtain ⟨ob, ho⟩ := hW.live _ _ I' hW' q
        have := S₄.hin I' ob ((if_pos q).trans ho)
        rw [hI'] at this; cases this
      have hD₅ : Zadd (fun b => if T b then s₁.heap.get? b else Hc b) I' o₅ D = some (listOf vs.toArray m) := (if_neg (Ne.symm nID)).trans hD₁
      have hlen : (outs ++ (xs.take i).flatMap F).length + (F a).length ≤ sizeLine := by
        rw [List.length_append]
        have h2 : ((xs.take (i + 1)).flatMap F).length ≤ (xs.flatMap F).length := by
          conv => rhs; rw [← List.take_append_drop (i + 1) xs, List.flatMap_append, List.length_append]
          omega
        rw [take_succ, List.length_append] at h2
        omega
      have loop := hrun.run A Z₄ _ s₅ I' D fp' P' W' vs m _ o₅ R S₅ Zadd.self hD₅ nID (hv.mono (le₁.trans (le₂.trans x₄.le))) hlen hB' hBD (fun y c e => ⟨hC' y c e, (hC y c e).2⟩) hW₅ hfp' hW0' hcls' hP'
      have fin : ∀ (r : Result) (s' : Shared), (r = .ok .next ∧ ∃ Z' H' vs' m', Zle Z₄ Z' ∧ (∀ b, b ≠ I' → b ≠ D → H' b = Zadd (fun b => if T b then s₁.heap.get? b else Hc b) I' o₅ b) ∧ H' I' = none ∧ H' D = some (listOf vs'.toArray m') ∧ St G env Z' H' ρ₁ s' ∧ RepAll G Z' vs' ((outs ++ (xs.take i).flatMap F) ++ F a)) →
          OkThen (fun s' => ∃ m, m < xs.length - i ∧ CInvT G env ρ Z H I T D xs F outs W m s') r s' := by
        rintro r s' ⟨rfl, Z₆, H₆, vs₆, m₆, le₆, hH₆, hI₆', hD₆, S₆, hv₆⟩
        have hI₆ : ∀ b, T b → H₆ b = s₁.heap.get? b := fun b hb => by
          have n1 : b ≠ I' := fun q => nII (q ▸ hb)
          have n2 : b ≠ D := fun q => hID (q ▸ hb)
          exact (hH₆ b n1 n2).trans ((if_neg n1).trans (if_pos hb))
        obtain ⟨nw, nh⟩ := nextW Z₆ _ s' ρ₁ (le₂.trans (x₄.le.trans le₆)) hI₆ S₆
        refine ⟨xs.length - (i + 1), by omega, i + 1, Z₆, H₆, vs₆, m₆, rfl, by omega, lec.trans (le₁.trans (le₂.trans (x₄.le.trans le₆))), fun b h1 h2 => ?_, nh, hD₆, S₆.weaken hsub, nw, ?_⟩
        · by_cases q : b = I'
          · subst q
            rw [hI₆', ← hHc b h1 h2]
            have e : (if T b then s₁.heap.get? b else Hc b) = none := hH'
            rw [if_neg h1] at e
            exact e.symm
          · exact (hH₆ b q h2).trans ((if_neg q).trans ((if_neg h1).trans (hHc b h1 h2)))
        · rw [take_succ, ← List.append_assoc]; exact hv₆
      refine wpAny_bind (wpAny_runOwn (h := none) (codeAny_mono (R := OkThen (fun s' => ∃ m, m < xs.length - i ∧ CInvT G env ρ Z H I T D xs F outs W m s')) (comp_start hg ha (codeAny_mono loop fin) ?_) fun r s' hr => ?_))
      · exact (hW₅ A R.handled).self 0 _ _ _ hW0' (codeAny_mono loop fin)
      · cases r with
        | ok f => exact wpAny_pure ⟨rfl, hr⟩
        | error e => exact hr.elim
  · have hlen : i = xs.length := by omega
    subst hlen
    refine wpAny_bind (wpAny_standAt (wpAny_bind (hW.done A s _ _ R.handled (by rw [len]; exact hWi) fun h' tk hk tok => ?_)))
    refine wpAny_pure ⟨rfl, Zc, fun b => if T b then none else Hc b, vs, m, lec, fun b h1 h2 => ?_, fun b hb => if_pos hb, ?_, ?_, ?_⟩
    · exact (if_neg h1).trans (hHc b h1 h2)
    · exact (if_neg hID).trans hD
    · exact Sc.move T hTm hk (fun b hb => if_neg hb) (fun a o ha e => by rw [if_pos ha] at e; cases e) Zle.same (fun a o e => hk a o (zTc a o e) (Sc.zin a o e)) (fun _ _ e => .inl e) zTc rfl rfl tok
    · rwa [List.take_length] at hv

theorem comp_coreT {elt : PySem.Expr} {g : Comprehension} {gs : List Comprehension} {scope : Scope} {cl : List (Str × Addr)} {ds out : List D} (R : Room n A) (S : St G env Z H ρ s) (K : Scoped env scope cl ρ ρc) (ha : g.is_async = 0)
    (h : EvIt G env n ρ g.iter g.target ds) (run : ∀ C, CRunT G (compEnvC scope cl C env) n (.ListComp elt (g :: gs) scope pos) 0 g.target ρc ds out) (hsz : out.length ≤ sizeLine) :
    wpAny (model G.prog G.w) A (eval g.iter env) (fun x s₁ => wpAny (model G.prog G.w) A (pyIter x) (fun it s₂ => wpAny (model G.prog G.w) A (newList []) (fun acc s₃ =>
      wpAny (model G.prog G.w) A (newFunctionEnv scope env.globals cl [] env.qual none .none (some env)) (fun cenv s₄ =>
        codeAny (model G.prog G.w) A (.compStart (.ListComp elt (g :: gs) scope pos) 0 it acc { cenv with scope := relabel scope env }) (CompPost G Z s out acc cenv.locals) s₄) E s₃) E s₂) E s₁) E s := by
  refine wp_seq (h.run A Z H s R S) fun v s₁ h₁ => wp_seq h₁ fun it s₂ ⟨I, T, W, Z₁, e, x₁, hTn, hZT, hW, hW0⟩ => ?_
  subst e
  have S₂ := S.ext x₁
  refine wpAny_newObj_type (wpAny_newFunctionEnv K.nocell (by intro y hy; simp at hy) (fun h₁ hns₁ hsb₁ => ?_) K.kind)
  dsimp only at hns₁ hsb₁ ⊢
  generalize hH2 : s₂.heap.push { cls := .type "list", dict := none, data := .seq ([] : List Value).toArray } = H2 at hns₁ hsb₁ ⊢
  have hC : H2.objs.size = s₂.heap.objs.size + 1 := by rw [← hH2, Heap.size_push]
  have oldC : ∀ b ob, s₂.heap.get? b = some ob → b ≠ H2.objs.size ∧ b ≠ s₂.heap.objs.size := fun b ob e => by
    have := Heap.lt_size e
    rw [hC]
    exact ⟨Nat.ne_of_lt (Nat.lt_succ_of_lt this), Nat.ne_of_lt this⟩
  have old : ∀ b o, s₂.heap.get? b = some o → h₁.get? b = some o := fun b o e => hsb₁.extBut b o (oldC b o e).1 (Heap.get?_push_of_some _ (hH2 ▸ Heap.get?_push_of_some _ e))
  have hDC : s₂.heap.objs.size ≠ H2.objs.size := by rw [hC]; exact Nat.ne_of_lt (Nat.lt_succ_self _)
  have hDo : h₁.get? s₂.heap.objs.size = some (listOf ([] : List Value).toArray 0) := hsb₁.extBut _ _ hDC (Heap.get?_push_of_some _ (hH2 ▸ Heap.get?_push_size _ rfl))
  have hCn : s₂.heap.get? H2.objs.size = none := by
    cases q : s₂.heap.get? H2.objs.size with
    | none => rfl
    | some ob => exact absurd rfl (oldC _ ob q).1
  have hDn : s₂.heap.get? s₂.heap.objs.size = none := get?_size_none _
  have zn : ∀ b, s₂.heap.get? b = none → Z₁ b = none := fun b e => by
    cases q : Z₁ b with
    | none => rfl
    | some ob => have := S₂.zin b ob q; rw [e] at this; cases this
  let HH : Zf := fun b => if Z₁ b = none then (if b = H2.objs.size then none else h₁.get? b) else none
  have HHof : ∀ b ob, HH b = some ob → Z₁ b = none ∧ b ≠ H2.objs.size ∧ h₁.get? b = some ob := fun b ob e => by
    have e' : (if Z₁ b = none then (if b = H2.objs.size then none else h₁.get? b) else none) = some ob := e
    split at e'
    · rename_i q
      split at e'
      · cases e'
      · rename_i q'; exact ⟨q, q', e'⟩
    · cases e'
  have HHto : ∀ b ob, Z₁ b = none → b ≠ H2.objs.size → h₁.get? b = some ob → HH b = some ob := fun b ob q q' e => by
    show (if Z₁ b = none then (if b = H2.objs.size then none else h₁.get? b) else none) = some ob
    rw [if_pos q, if_neg q']; exact e
  have cellNew : ∀ x c, cl.lookup x = some c → Z₁ c = none ∧ ∃ ob, s₂.heap.get? c = some ob := fun x c e => by
    obtain ⟨_, h1, h2⟩ := S₂.cells x c (K.cells x c e)
    cases hf : env.func.isSome with
    | true => obtain ⟨a, _, v, ob, e1, _⟩ := h1 hf; exact ⟨a, ob, e1⟩
    | false =>
      obtain ⟨ob, e1⟩ := h2 hf
      refine ⟨?_, ob, S₂.hin c ob e1⟩
      cases q : Z₁ c with
      | none => rfl
      | some oz => have := S₂.dj c oz q; rw [e1] at this; cases this
  have SC : St G (compEnvC scope cl H2.objs.size env) Z₁ HH ρc { s₂ with heap := h₁, toks := s₂.toks + ([] : List (Str × Value)).length } := by
    refine ⟨K.kind, S₂.gl, S₂.bl, S₂.gens, S₂.os, S₂.tk, fun b ob e => old b ob (S₂.zin b ob e), fun b ob e => (HHof b ob e).2.2, fun b ob e => ?_, fun b ob e => ?_, ⟨_, hns₁⟩, zn _ hCn, ?_, fun x c e => ⟨?_, fun hf => (by cases hf), fun _ => ?_⟩, fun x y c e e' => S₂.inj x y c (K.cells x c e) (K.cells y c e'), fun x d' e => ?_, ?_⟩
    · show (if Z₁ b = none then (if b = H2.objs.size then none else h₁.get? b) else none) = none
      rw [if_neg (by rw [e]; intro q; cases q)]
    · have e2 := S₂.keepBase b ob e
      cases q : Z₁ b with
      | none => exact .inr (HHto b ob q (oldC b ob e2).1 (old b ob e2))
      | some oz => left; have := S₂.zin b oz q; rw [e2] at this; cases this; rfl
    · show (if Z₁ H2.objs.size = none then (if H2.objs.size = H2.objs.size then none else h₁.get? H2.objs.size) else none) = none
      rw [if_pos (zn _ hCn), if_pos rfl]
    · obtain ⟨_, ob, e1⟩ := cellNew x c e
      exact (oldC c ob e1).1
    · obtain ⟨hz, ob, e1⟩ := cellNew x c e
      exact ⟨ob, HHto c ob hz (oldC c ob e1).1 (old c ob e1)⟩
    · obtain ⟨_, e1, hk, ⟨c, hc⟩, hkd⟩ := K.cap x _ e
      obtain ⟨u, hu, ru⟩ := S₂.vars x d' e1
      refine ⟨u, ?_, ru⟩
      rcases hu with ⟨k, _⟩ | ⟨_, c', e2, n2⟩
      · exact absurd k hk
      · rw [K.cells x c hc] at e2; cases e2
        refine .inr ⟨hkd, c, hc, n2.keeps old⟩
    · refine ⟨fun _ => 0, fun x y es es' e => ?_, fun x es e => ?_⟩
      · obtain ⟨⟨_, e'⟩, _⟩ := K.cap x _ e; cases e'
      · obtain ⟨⟨_, e'⟩, _⟩ := K.cap x _ e; cases e'
  have Told : ∀ b, T b → ∃ ob, s₂.heap.get? b = some ob := fun b hb => hW.live 0 _ b hW0 hb
  have bn : ∀ b, s.heap.get? b = none → G.base.get? b = none := fun b e => by
    cases q : G.base.get? b with
    | none => rfl
    | some ob => have := S.keepBase b ob q; rw [e] at this; cases this
  have hDn₁ : s.heap.get? s₂.heap.objs.size = none := by
    cases q : s.heap.get? s₂.heap.objs.size with
    | none => rfl
    | some ob => rw [x₁.keep _ _ q] at hDn; cases hDn
  have zTn : ∀ b, T b → Z₁ b = none := fun b hb => by
    cases q : Z₁ b with
    | none => rfl
    | some o => exact absurd hb (hZT b o q)
  have nTD : ¬ T s₂.heap.objs.size := fun hb => by obtain ⟨ob, ho⟩ := Told _ hb; rw [hDn] at ho; cases ho
  have loop := (run H2.objs.size).run A Z₁ HH _ I T s₂.heap.objs.size W [] 0 [] R SC (fun b hb => by
      obtain ⟨ob, ho⟩ := Told b hb
      rw [HHto b ob (zTn b hb) (oldC b ob ho).1 (old b ob ho)]
      exact (old b ob ho).symm) (HHto _ _ (zn _ hDn) hDC hDo) nTD .nil (by simpa using hsz) (fun b hb => bn b (hTn b hb)) (bn _ hDn₁)
    (fun x c e => by
      obtain ⟨hz, ob, e1⟩ := cellNew x c e
      refine ⟨fun q => ?_, (oldC c ob e1).2⟩
      obtain ⟨_, h1, h2⟩ := S.cells x c (K.cells x c e)
      cases hf : env.func.isSome with
      | true => obtain ⟨_, _, v, ob', e2, _⟩ := h1 hf; rw [hTn c q] at e2; cases e2
      | false => obtain ⟨ob', e2⟩ := h2 hf; have := S.hin _ _ e2; rw [hTn c q] at this; cases this)
    hW (hW.frame _ _ _ hW0 (fun b ob _ e => old b ob e) fun b ob _ _ e => old b ob e)
  have fin : ∀ (r : Result) (s' : Shared), (s₂.toks ≤ s'.toks ∧ r = .ok .next ∧ ∃ Z' H' vs' m', Zle Z₁ Z' ∧ (∀ b, ¬ T b → b ≠ s₂.heap.objs.size → H' b = HH b) ∧ (∀ b, T b → H' b = none) ∧ H' s₂.heap.objs.size = some (listOf vs'.toArray m') ∧
      St G (compEnvC scope cl H2.objs.size env) Z' H' ρc s' ∧ RepAll G Z' vs' ([] ++ out)) → CompPost G Z s out (.ref s₂.heap.objs.size) H2.objs.size r s' := by
    rintro r s' ⟨tok, rfl, Z', H', vs', m', le', hH', hI', hD', S', hv'⟩
    have hDz : Z' s₂.heap.objs.size = none := by
      cases q : Z' s₂.heap.objs.size with
      | none => rfl
      | some ob => have := S'.dj _ ob q; rw [hD'] at this; cases this
    have le := Zadd.le (o := listOf vs'.toArray m') hDz
    have keep : ∀ b ob, s.heap.get? b = some ob → ¬ T b ∧ b ≠ s₂.heap.objs.size ∧ b ≠ H2.objs.size := fun b ob e => by
      have e2 := x₁.keep b ob e
      exact ⟨fun q => (by rw [hTn b q] at e; cases e), (oldC b ob e2).2, (oldC b ob e2).1⟩
    refine ⟨rfl, Zadd Z' s₂.heap.objs.size (listOf vs'.toArray m'), ⟨x₁.le.trans (le'.trans le), fun b ob e => ?_, fun b ob e => ?_, fun b ob e => ?_, S'.gens.trans S.gens.symm, S'.os.trans S.os.symm, Nat.le_trans x₁.tk tok⟩, .list Zadd.self (hv'.mono le), ?_, ?_, S'.ns⟩
    · obtain ⟨q1, q2, q3⟩ := keep b ob e
      cases q : Z₁ b with
      | none => exact S'.hin b ob (by rw [hH' b q1 q2]; exact HHto b ob q q3 (old b ob (x₁.keep b ob e)))
      | some oz => have := x₁.zin b oz q; rw [x₁.keep b ob e] at this; cases this; exact S'.zin b ob (le' b ob q)
    · by_cases q : b = s₂.heap.objs.size
      · subst q; rw [Zadd.self] at e; cases e; exact S'.hin _ _ hD'
      · rw [show Zadd Z' s₂.heap.objs.size (listOf vs'.toArray m') b = Z' b from if_neg q] at e
        exact S'.zin b ob e
    · by_cases q : b = s₂.heap.objs.size
      · subst q; exact .inr hDn₁
      · rw [show Zadd Z' s₂.heap.objs.size (listOf vs'.toArray m') b = Z' b from if_neg q] at e
        cases q1 : s.heap.get? b with
        | none => exact .inr rfl
        | some o1 =>
          left
          obtain ⟨p1, p2, p3⟩ := keep b o1 q1
          cases q2 : Z₁ b with
          | some oz =>
            have := le' b oz q2
            rw [e] at this; cases this
            rcases x₁.new b ob q2 with h | h
            · exact h
            · rw [q1] at h; cases h
          | none =>
            have h1 := HHto b o1 q2 p3 (old b o1 (x₁.keep b o1 q1))
            have := S'.dj b ob e
            rw [hH' b p1 p2, h1] at this; cases this
    · cases q : s.heap.get? H2.objs.size with
      | none => rfl
      | some ob => have := x₁.keep _ _ q; rw [hCn] at this; cases this
    · rw [show Zadd Z' s₂.heap.objs.size (listOf vs'.toArray m') H2.objs.size = Z' H2.objs.size from if_neg (Ne.symm hDC)]
      exact S'.lz
  have loop' := codeAny_mono (codeAny_toks_of (n := s₂.toks) (by exact Nat.le_add_right _ _) loop) fin
  exact comp_start rfl ha loop' (hW.self A 0 _ _ _ R.handled (hW.frame _ _ _ hW0 (fun b ob _ e => old b ob e) fun b ob _ _ e => old b ob e) loop')

/-- y = [.. for .. in ..] on one line -/
theorem ex_assign_compT {y : Str} {py spos : Pos} {elt : PySem.Expr} {g : Comprehension} {gs : List Comprehension} {scope : Scope} {cl : List (Str × Addr)} {ds out : List D} {Φ : Fl → Loc → Prop} (K : Scoped env scope cl ρ ρc) (ha : g.is_async = 0) (hs : ∀ x, foldedSetIterable g.iter env x = pure x)
    (hsw : swapsWith (.ListComp elt (g :: gs) scope pos) (some (.Name y py)) spos.line env = pure true)
    (h : EvIt G env n ρ g.iter g.target ds) (run : ∀ C, CRunT G (compEnvC scope cl C env) n (.ListComp elt (g :: gs) scope pos) 0 g.target ρc ds out) (hsz : out.length ≤ sizeLine)
    (hc : Can env y) (k : Φ .next (upd ρ y (.val (.list out)))) : Ex G env n ρ (.Assign [.Name y py] (.ListComp elt (g :: gs) scope pos) spos) Φ := by
  constructor
  intro A Z H s R S
  rw [exec_Assign_Name_used _ _ _ _ hsw]
  refine wpAny_bind (wpAny_standAt (wpAny_bind ?_))
  show wpAny _ A (do let _ ← comprehension (.ListComp elt (g :: gs) scope pos) scope env (firstIterPos (g :: gs) pos) (newList []) (firstAsync (g :: gs)) (firstIter (g :: gs) env) (some (assign (.Name y py) env))) _ _ s
  rw [eval_ListComp' elt g gs scope pos ha (some (assign (.Name y py) env))]
  refine wpAny_bind (wpAny_mono (wpAny_comprehension_free (use := some (assign (.Name y py) env)) (Q := fun _ s' => ExPost G env Z H Φ .next s') rfl hs K.clos K.kind K.names
    (wpAny_mono (comp_coreT R S K ha h run hsz) (fun x s₁ h₁ => wpAny_mono h₁ (fun it s₂ h₂ => wpAny_mono h₂ (fun acc s₃ h₃ => wpAny_mono h₃ (fun cenv s₄ h₄ => codeAny_mono h₄ fun r s' hr => ?_) fun _ _ e => e) fun _ _ e => e) fun _ _ e => e) fun _ _ e => e)) (fun _ s' hq => wpAny_pure (wpAny_pure hq)) fun _ _ e => e)
  obtain ⟨rfl, Z', x, r, hC, hZC, m, hm⟩ := hr
  show wpAny _ A (assign (.Name y py) env acc) _ _ s'
  obtain ⟨oC, es, ep, hoC, hm'⟩ := id hm
  have S' := S.ext x
  have hB : G.base.get? cenv.locals = none := by
    cases q : G.base.get? cenv.locals with
    | none => rfl
    | some ob => have := S.keepBase _ ob q; rw [hC] at this; cases this
  have hH : H cenv.locals = none := by
    cases q : H cenv.locals with
    | none => rfl
    | some ob => have := S.hin _ ob q; rw [hC] at this; cases this
  have hCc : ∀ z c, env.cells.lookup z = some c → c ≠ cenv.locals := fun z c e q => by
    obtain ⟨_, h1, h2⟩ := S.cells z c e
    cases hf : env.func.isSome with
    | true => obtain ⟨_, _, v, ob', e2, _⟩ := h1 hf; rw [q, hC] at e2; cases e2
    | false => obtain ⟨ob', e2⟩ := h2 hf; have := S.hin _ _ e2; rw [q, hC] at this; cases this
  have hL : env.locals ≠ cenv.locals := fun q => by
    obtain ⟨m₀, o₀, _, _, e0, _⟩ := S.ns
    rw [q, hC] at e0; cases e0
  have SH : St G env Z' (Zadd H cenv.locals oC) ρ s' := by
    have ne : ∀ b, b ≠ cenv.locals → Zadd H cenv.locals oC b = H b := fun b hb => if_neg hb
    refine ⟨S'.fk, S'.gl, S'.bl, S'.gens, S'.os, S'.tk, S'.zin, fun a ob e => ?_, fun a ob e => ?_, fun a ob e => (S'.bas a ob e).elim .inl (fun q => .inr (Zadd.le hH _ _ q)), S'.ns, S'.lz, ?_, fun z c e => ?_, S'.inj, S'.vars, ?_⟩
    · by_cases q : a = cenv.locals
      · subst q; rw [Zadd.self] at e; cases e; exact hoC
      · rw [ne a q] at e; exact S'.hin a ob e
    · rw [ne a fun q => by rw [q, hZC] at e; cases e]; exact S'.dj a ob e
    · rw [ne _ hL]; exact S'.lh
    · obtain ⟨h0, h1, h2⟩ := S'.cells z c e
      refine ⟨h0, fun hf => ?_, fun hf => ?_⟩
      · obtain ⟨a, b, c'⟩ := h1 hf
        exact ⟨a, by rw [ne _ (hCc z c e)]; exact b, c'⟩
      · obtain ⟨ob, h⟩ := h2 hf
        exact ⟨ob, Zadd.le hH _ _ h⟩
    · obtain ⟨oa, hi, ho⟩ := S.owns
      refine ⟨oa, hi, fun z es e => ?_⟩
      obtain ⟨g1, g2, g3, g4, g5, vs, k, g6, g7⟩ := ho z es e
      exact ⟨g1.keeps x.keep, ext_none x g2 ⟨_, g6⟩, by rw [ne _ fun q => by rw [q, hC] at g6; cases g6]; exact g3, g4, g5, vs, k, x.keep _ _ g6, g7.mono x.le⟩
  refine wpAny_assign_Name (wp_seq (st_store SH r hc) fun _ s₅ S₅ => ?_)
  refine ⟨m, ⟨oC, es, ep, S₅.hin _ _ Zadd.self, hm'⟩, fun h₆ hs₆ => ?_⟩
  exact ⟨Z', _, .next, x.le, S₅.drop (t := s₅.toks) hB hCc hH (fun b ob hb e => (hs₆.2 b hb).trans e) (Nat.le_refl _), .next, k⟩

end
end Mine
end
section
open PySem PySem.W PyProof.Rows PySem.Builtin PySem.Builtin.Str
set_option linter.unusedVariables false
set_option maxRecDepth 100000
namespace Mine
section
variable {G : Gnd} {env : Env} {Z Z' H : Zf} {ρ ρ' ρc : Loc} {s s' : Shared} {A : Around} {E : Value → Shared → Prop} {n : Nat} {pos apos sp : Pos}
theorem getm_dict_get {ks : List Str} {ds : List D} : GetM G "get" (.dict ks ds) "dict.get" := GetM.mk fun M A pl Z s v Q E hz r h => by
  cases r with
  | dict hz' hs hd ra =>
    have hm := dictOf_of (hz _ _ hz') hd
    exact getMethod_builtin hm.typeIs F.plainAttrs_dict F.slot_dict_get F.type_dict_get (fun a e => by cases e; exact hm.mapOf.noDict _ rfl) h
/-- d.get(x, y) -/
theorem ev_get {o a b : PySem.Expr} {ks : List Str} {ds : List D} {x : Str} {d : D} (ho : Ev G env n ρ o (.dict ks ds)) (ha : Ev G env n ρ a (.str x)) (hb : Ev G env n ρ b d) (h1 : isNameCall o = false) (h2 : isStarred a = false) (h3 : isStarred b = false) (hline : (apos.endLine == pos.line) = true) :
    Ev G env n ρ (.Call (.Attribute o "get" apos) [a, b] [] pos) ((dget ks ds x).getD d) :=
  ev_meth ho (evs_more ha (evs_more hb evs_nil h3) h2) getm_dict_get bf_dict_get h1 (by simp [h2, h3]) (by show 2 < 30; decide) hline
theorem ev_spell {o a b : PySem.Expr} {tb : Tbl} {c : Nat} (ho : Ev G env n ρ o (dD tb)) (ha : Ev G env n ρ a (.str ⟨#[c]⟩)) (hb : Ev G env n ρ b (.str ⟨#[c]⟩)) (h1 : isNameCall o = false) (h2 : isStarred a = false) (h3 : isStarred b = false) (hline : (apos.endLine == pos.line) = true) :
    Ev G env n ρ (.Call (.Attribute o "get" apos) [a, b] [] pos) (.str (T (spell tb c))) := by
  have := ev_get (pos := pos) ho ha hb h1 h2 h3 hline
  rw [dget_tb] at this
  unfold spell
  cases hk : tb.lookup c with
  | none => rw [hk] at this; exact this
  | some z => rw [hk] at this; exact this
theorem big_line : 100000 ≤ sizeLine := by decide
/-- l[:b] -/
theorem ev_to {v e : PySem.Expr} {l : List Nat} {b : Nat} (hv : Ev G env n ρ v (.str (T l))) (he : Ev G env n ρ e (.int (b : Int))) (hl : l.length ≤ 100000) : Ev G env n ρ (.Subscript v (.Slice none (some e) none sp) pos) (.str (T (l.take b))) := by
  rw [← slice_to]
  exact ev_sub hv (ev_slice (lo := none) (hi := some (b : Int)) trivial he) (sb_slice_str (by rw [T_length]; have := big_line; omega))
/-- l[a:] -/
theorem ev_from {v e : PySem.Expr} {l : List Nat} {a : Nat} (hv : Ev G env n ρ v (.str (T l))) (he : Ev G env n ρ e (.int (a : Int))) (hl : l.length ≤ 100000) : Ev G env n ρ (.Subscript v (.Slice (some e) none none sp) pos) (.str (T (l.drop a))) := by
  rw [← slice_from]
  exact ev_sub hv (ev_slice (lo := some (a : Int)) (hi := none) he trivial) (sb_slice_str (by rw [T_length]; have := big_line; omega))
/-- l[a:b] -/
theorem ev_cut {v e e' : PySem.Expr} {l : List Nat} {a b : Nat} (hv : Ev G env n ρ v (.str (T l))) (he : Ev G env n ρ e (.int (a : Int))) (he' : Ev G env n ρ e' (.int (b : Int))) (hl : l.length ≤ 100000) : Ev G env n ρ (.Subscript v (.Slice (some e) (some e') none sp) pos) (.str (T ((l.take b).drop a))) := by
  rw [← slice_ab]
  exact ev_sub hv (ev_slice (lo := some (a : Int)) (hi := some (b : Int)) he he') (sb_slice_str (by rw [T_length]; have := big_line; omega))
/-- l[i] -/
theorem ev_at {v e : PySem.Expr} {l : List Nat} {i c : Nat} (hv : Ev G env n ρ v (.str (T l))) (he : Ev G env n ρ e (.int (i : Int))) (hc : l[i]? = some c) (hl : l.length ≤ 100000) : Ev G env n ρ (.Subscript v e pos) (.str ⟨#[c]⟩) := by
  have hlt := (List.getElem?_eq_some_iff.mp hc).1
  exact ev_sub hv he (sb_str (by omega) (by omega) (by show (l.toArray)[(i : Int).toNat]? = _; simpa using hc))
theorem ev_plus1 {e : PySem.Expr} {a m : Nat} {k : Nat} (he : Ev G env n ρ e (.int (a : Int))) : Ev G env n ρ (.BinOp e .Add (.Constant (.int (m : Int)) k sp) pos) (.int ((a + m : Nat) : Int)) := by
  rw [Int.natCast_add]
  exact ev_binop he ev_int op_add_int
theorem ev_cat {e e' : PySem.Expr} {x y : List Nat} (h : Ev G env n ρ e (.str (T x))) (h' : Ev G env n ρ e' (.str (T y))) (hl : x.length + y.length ≤ 100000) : Ev G env n ρ (.BinOp e .Add e' pos) (.str (T (x ++ y))) := by
  rw [← T_append]
  exact ev_binop h h' (op_add_str (by rw [T_length, T_length]; have := big_line; omega))
theorem lenT' (l : List Nat) (h : l.length ≤ 100000) : BF G "len" [.str (T l)] (.int (l.length : Int)) := by
  rw [← T_length]
  exact bf_len_str (by rw [T_length]; have := big_line; omega)
theorem replace_len (x y z : Str) : (Txt.replace x y z).length ≤ x.length + (x.length + 1) * z.length := by
  unfold Txt.replace
  split
  · omega
  · have h1 := StrLaws.occ_length_le x y 0 x.length (x.length + 1)
    have hy : (glued y (partsBetween x (occurrences x y 0 x.length (x.length + 1)) y.length)).length = x.length := by rw [StrLaws.glued_between_self]
    rw [size_glued, length_partsBetween, Nat.add_sub_cancel] at hy
    rw [size_glued, length_partsBetween, Nat.add_sub_cancel]
    have h2 : (occurrences x y 0 x.length (x.length + 1)).length * z.length ≤ (x.length + 1) * z.length := Nat.mul_le_mul_right _ h1
    omega
theorem mulOk_small_int {a b : Int} (h : decide (Builtin.Int.intBits a > shortFactorBits) = false) : IntMulOk a b := by
  unfold IntMulOk
  rw [h]
  simp
theorem map_one {α β : Type} (f : α → β) (l : List α) : l.map f = l.flatMap fun x => [f x] := by
  induction l with
  | nil => rfl
  | cons a r ih => rw [List.map_cons, List.flatMap_cons, ih]; rfl
theorem comp2aT {elt tgt iter tgt' iter' : PySem.Expr} {ifs ifs' : List PySem.Expr} {scope : Scope} {α : Type} {xs : List α} {mk : α → D} {F : α → List D} (hf : ∀ x, foldedSetIterable iter' env x = pure x)
    (item : ∀ a ∈ xs, ∃ ρ₁ ok, Asg G env tgt (mk a) ρ ρ₁ ∧ Sub ρ ρ₁ ∧ Tsts G env n ρ₁ ifs ok ∧ (ok = false → F a = []) ∧ (ok = true → ∃ d' ds', Ev G env n ρ₁ iter' d' ∧ Itr G d' ds' ∧ CRun G env n (.ListComp elt [⟨tgt, iter, ifs, 0⟩, ⟨tgt', iter', ifs', 0⟩] scope pos) 1 ρ₁ ds' (F a))) :
    CRunT G env n (.ListComp elt [⟨tgt, iter, ifs, 0⟩, ⟨tgt', iter', ifs', 0⟩] scope pos) 0 tgt ρ (xs.map mk) (xs.flatMap F) := comp_moreT (iter := iter) rfl rfl rfl hf (fun _ _ => rfl) item
end
end Mine
end
section
open PySem PySem.W PyProof.Rows
set_option linter.unusedVariables false
set_option maxRecDepth 100000
namespace Mine
section
variable {G : Gnd} {env : Env} {Z Z' H : Zf} {ρ ρ' ρc : Loc} {s s' : Shared} {A : Around} {E : Value → Shared → Prop} {n : Nat} {pos apos sp : Pos}
theorem setItem_neg {prog : Program} {w : World} {l : Addr} {items : Array Value} {m : Nat} {k : Int} {t : Tok} {v : Value} {Q : Unit → Shared → Prop} (ho : s.heap.get? l = some (listOf items m))
    (h0 : k < 0) (h1 : -(items.size : Int) ≤ k) (hfit : -(2 ^ 63) ≤ k) (hQ : Q () { s with heap := s.heap.update l (Obj.mapSeq (·.setIfInBounds (k + items.size).toNat v)) }) :
    wpAny (model prog w) A (setItem (.ref l) (.int k t) v) Q E s := by
  have hl : s.heap.IsList l items := ⟨_, ho, rfl, m, rfl⟩
  have hd : (listOf items m).data = .seq items m := rfl
  unfold setItem
  refine wpAny_holding ?_
  refine wpAny_bind (wpAny_sequenceKey hl.typeIs (by decide) ?_)
  refine wpAny_bind (wpAny_callSpecial?_slot (name := Str.ofString "__setitem__") hl.typeIs F.slot_list_setitem
    (wpAny_call_entry F.slot_list_setitem hl.typeIs F.entry_list_setitem ?_ (F.args_list_setitem_3 _ _ _)))
  show wpAny _ _ (Builtin.List.listSubscript? (.int k t) >>= _) _ _ s
  refine wpAny_bind (wpAny_listSubscript_int (fitsIndex_neg h0 hfit) ?_)
  clear hfit
  have hidx := seqIndex_neg h0 h1
  have hj : (k + items.size).toNat < items.size := by omega
  obtain ⟨j, rfl⟩ : ∃ j : Nat, k = Int.negSucc j := by
    cases k with
    | ofNat n => exact absurd h0 (Int.not_lt.mpr (Int.natCast_nonneg n))
    | negSucc n => exact ⟨n, rfl⟩
  have hx : items[(Int.negSucc j + items.size).toNat]? = some items[(Int.negSucc j + items.size).toNat] := Array.getElem?_eq_getElem hj
  show wpAny _ _ ((Builtin.List.listItems (.ref l) >>= fun xs => pure ((seqIndex? (Int.negSucc j) xs.size).bind fun i => xs[i]?.map (i, ·))) >>= _) _ _ s
  refine wpAny_bind (wpAny_bind ?_)
  show wpAny _ _ (seqItems? (.ref l) >>= _) _ _ s
  refine wpAny_bind (wpAny_seqItems ho hd (wpAny_pure (wpAny_pure ?_)))
  rw [hidx]
  simp only [Option.bind_some, hx, Option.map_some]
  show wpAny _ _ (setSeqItemAt l (Int.negSucc j + items.size).toNat v >>= _) _ _ s
  refine wpAny_bind (wpAny_setSeqItemAt ho hd ?_)
  first
    | exact wpAny_bind (wpAny_pure (wpAny_pure ⟨.none, rfl, wpAny_pure hQ⟩))
    | exact wpAny_pure ⟨.none, rfl, wpAny_pure hQ⟩

/-- x[-1] op= e, of an owned list -/
theorem ex_auglast {x : Str} {p tpos : Pos} {i e : PySem.Expr} {op : Operator} {ds : List D} {d₀ d₁ d : D} {Φ : Fl → Loc → Prop} (hx : ρ.lookup x = some (.own (ds ++ [d₀]))) (hi : Ev G env n ρ i (.int (-1))) (h : Ev G env n ρ e d₁) (ho : Op2 G (inplaceOp op) d₀ d₁ d) (hd : (x == ("__debug__" : Str)) = false)
    (hs : ∀ ov iv new, augStore i ov iv new = (do holding [new, ov, iv] (setItem ov iv new); release [new, ov, iv] []; pure .next)) (k : Φ .next (upd ρ x (.own (ds ++ [d])))) :
    Ex G env n ρ (.AugAssign (.Subscript (.Name x p) i tpos) op e pos) Φ := by
  constructor
  intro A Z H s R S
  obtain ⟨oa, hij, hos⟩ := S.owns
  obtain ⟨h1, h2, h3, h4, h5, vs, j, h6, h7⟩ := hos x _ hx
  refine wpAny_AugAssign_SubscriptAny (wp_own S h1 hd (wp_seq (hi.run A Z H s R S) fun iv s₁ ⟨Z₁, x₁, r₁⟩ => ?_)) hs
  have S₁ := S.ext x₁
  have g1 := x₁.keep _ _ h6
  have r7 := h7.mono x₁.le
  cases r₁ with
  | int _ t =>
    have hlen : vs.length = ds.length + 1 := by rw [h7.length]; simp
    obtain ⟨v₀, hv₀, rv₀⟩ := r7.get (i := ds.length) (d := d₀) (by simp)
    refine wpAny_getItem_list_neg (isList_of g1) (by decide) (by rw [List.size_toArray]; omega) (by decide) (x := v₀) (by rw [List.size_toArray, show ((-1 : Int) + (vs.length : Nat)).toNat = ds.length by omega]; simpa using hv₀) ?_
    refine wp_seq (h.run A Z₁ H s₁ R S₁) fun v₁ s₂ ⟨Z₂, x₂, r₂⟩ => ?_
    have S₂ := S₁.ext x₂
    refine wp_seq (ho.run A Z₂ s₂ v₀ v₁ (R.less (Nat.zero_le _)) S₂.bs (rv₀.mono x₂.le) r₂) fun v s₃ ⟨Z₃, x₃, r₃⟩ => ?_
    have S₃ := S₂.ext x₃
    have xx := x₁.trans (x₂.trans x₃)
    have g3 := xx.keep _ _ h6
    refine setItem_neg g3 (by decide) (by rw [List.size_toArray]; omega) (by decide) ?_
    have n2 : ∀ y es, ρ.lookup y = some (.own es) → Has env s₃.heap y (.ref (oa y)) ∧ Z₃ (oa y) = none ∧ H (oa y) = none ∧ oa y ≠ env.locals ∧ (∀ z c, env.cells.lookup z = some c → oa y ≠ c) ∧
        ∃ vs n, s₃.heap.get? (oa y) = some (listOf vs.toArray n) ∧ RepAll G Z₃ vs es := fun y es e => by
      obtain ⟨g1, g2, g3, g4, g5, us, j, g6, g7⟩ := hos y es e
      exact ⟨g1.keeps xx.keep, ext_none xx g2 ⟨_, g6⟩, g3, g4, g5, us, j, xx.keep _ _ g6, g7.mono xx.le⟩
    have hidx : ((-1 : Int) + (vs.toArray.size : Nat)).toNat = ds.length := by rw [List.size_toArray]; omega
    rw [hidx]
    obtain ⟨k', hg⟩ := upd_list g3 (·.setIfInBounds ds.length v) (its' := (vs.take ds.length ++ [v]).toArray) (by
      apply Array.ext'
      rw [Array.toList_setIfInBounds, List.set_eq_take_append_cons_drop, if_pos (by show ds.length < vs.length; omega)]
      show vs.take ds.length ++ v :: vs.drop (ds.length + 1) = _
      rw [List.drop_of_length_le (by omega)])
    have hr : RepAll G Z₃ (vs.take ds.length ++ [v]) (ds ++ [d]) := by
      have := (h7.mono xx.le).take ds.length
      rw [List.take_left] at this
      exact this.append (.cons r₃ .nil)
    exact ⟨Z₃, _, .next, xx.le, S₃.mutate oa hij n2 hx hg hr (Nat.le_refl _) (Heap.SameBut.update ..), .next, k⟩

theorem execs_append (env : Env) : ∀ (a b : List Stmt), execs (a ++ b) env = (do match ← execs a env with | .next => execs b env | f => pure f)
  | [], b => by rw [execs_nil, pure_bind]; rfl
  | st :: a, b => by
    rw [List.cons_append, execs_cons, execs_cons, bind_assoc]
    congr 1
    funext f
    cases f
    · exact execs_append env a b
    all_goals rw [pure_bind]
/-- a def that gives back a new list, which none else holds -/
structure FnF (G : Gnd) (n : Nat) (f : Addr) (ds out : List D) : Prop where
  run : ∀ A Z s vs, Room n A → Bs G Z s → RepAll G Z vs ds → wpAny (model G.prog G.w) A (call (.ref f) vs) (fun v s' => ∃ Z' a vs' k, v = .ref a ∧ Ext Z s Z' s' ∧ s.heap.get? a = none ∧ Z' a = none ∧ s'.heap.get? a = some (listOf vs'.toArray k) ∧ RepAll G Z' vs' out) (fun _ _ => False) s
theorem fn_ofF {a : Addr} {fd : FuncData} {pre : List Stmt} {xr : Str} {pr : Pos} {xs : List Str} {ds out : List D} (D : DefAt G a fd (pre ++ [.Return (some (.Name xr pr)) pos])) (hxr : (xr == ("__debug__" : Str)) = false) (hb : ∀ vs : List Value, vs.length = xs.length → bindArgs fd ⟨vs, []⟩ = pure (xs.zip vs)) (hlen : xs.length = ds.length)
    (hx : ∀ x ∈ xs, fd.scope.names.lookup x = some .local ∨ (fd.scope.names.lookup x = some .cell ∧ ∀ k, ((cellsFrom k fd.scope.names []).lookup x).isSome = true)) (hnd : xs.Nodup)
    (h : ∀ L, Exs G (callEnvC fd L a) n (startLoc xs ds) pre (fun fl ρ' => fl = .next ∧ ρ'.lookup xr = some (.own out))) : FnF G (n + 1) a ds out := by
  constructor
  intro A Z s vs R b r
  obtain ⟨o, ho, hd⟩ := D.obj
  have hvl : vs.length = xs.length := r.length.trans hlen.symm
  have hmap : (xs.zip vs).map (·.1) = xs := by rw [List.map_fst_zip]; omega
  have hnd' : ((xs.zip vs).map (·.1)).Nodup := by rw [hmap]; exact hnd
  refine wp_tok ?_
  refine wpAny_call ?_
  refine codeAny_call_function (by have := R.depth; omega) (b.X _ _ ho) hd D.co D.gen D.body (codeRec_of b.X D.code) ?_
  rw [hb vs hvl, D.closure]
  refine wpAny_pure (wpAny_with_toks (Nat.le_refl s.toks) (wpAny_newFunctionEnv_cells D.kind (fun x hm => ?_) fun env he s₁ x tok => ?_))
  · have : x.1 ∈ xs := by rw [← hmap]; exact List.mem_map_of_mem hm
    rcases hx _ this with q | ⟨q, q'⟩
    · exact .inl q
    · exact .inr ⟨q, q' _⟩
  subst he
  have hcall := x.toInCall
  obtain ⟨h₁, tk, rfl, hk₁⟩ := x.done
  refine ⟨b.nolimit.keeps hcall.keep, codeAny_func ?_⟩
  have HZ : ∀ a' o', (if Z a' = none then s.heap.get? a' else none) = some o' → Z a' = none ∧ s.heap.get? a' = some o' := fun a' o' e => by
    split at e
    · rename_i q; exact ⟨q, e⟩
    · cases e
  have hLnone : s.heap.get? s.heap.objs.size = none := get?_size_none _
  have nz : ∀ c, s.heap.objs.size ≤ c → s.heap.get? c = none := fun c hc => by
    cases q : s.heap.get? c with
    | none => rfl
    | some ob => exact absurd (Heap.lt_size q) (Nat.not_lt.mpr hc)
  have nzZ : ∀ c, s.heap.objs.size ≤ c → Z c = none := fun c hc => by
    cases q : Z c with
    | none => rfl
    | some ob => have := b.zin c ob q; rw [nz c hc] at this; cases this
  have S₁ : St G (callEnvC fd s.heap.objs.size a) Z (fun a => if Z a = none then s.heap.get? a else none) (startLoc xs ds) { s with heap := h₁, toks := tk } := by
    refine ⟨D.kind, D.gl, D.bl, b.gens, b.os, Nat.lt_of_lt_of_le b.tk tok, fun a' o' e => hk₁ _ _ (b.zin _ _ e), fun a' o' e => hk₁ _ _ (HZ _ _ e).2, fun a' o' e => by simp [e], fun a' o' e => ?_, ⟨_, hcall.ns⟩, nzZ _ (Nat.le_refl _), ?_, fun y c e => ⟨?_, fun _ => ?_, fun hf => by cases hf⟩, ?_, fun y d' e => ?_, ?_⟩
    · have e' := b.bas _ _ e
      cases q : Z a' with
      | none => right; simp [q, e']
      | some ob => left; have := b.zin _ _ q; rw [e'] at this; cases this; rfl
    · show (if Z s.heap.objs.size = none then s.heap.get? s.heap.objs.size else none) = none
      rw [nzZ _ (Nat.le_refl _), if_pos rfl]; exact hLnone
    · exact Nat.ne_of_gt (x.above y c (mem_of_lookup e))
    · have hc : s.heap.objs.size ≤ c := Nat.le_of_lt (x.above y c (mem_of_lookup e))
      refine ⟨nzZ c hc, ?_, _, x.cell y c e⟩
      show (if Z c = none then s.heap.get? c else none) = none
      rw [nzZ c hc, if_pos rfl]; exact nz c hc
    · exact fun y z c e e' => name_of_addr x.apart (mem_of_lookup e) (mem_of_lookup e')
    · obtain ⟨v, d'', e', hm, r'⟩ := startLoc_lookup r hlen e
      cases e'
      have hxm : y ∈ xs := by rw [← hmap]; exact List.mem_map_of_mem hm
      refine ⟨v, ?_, r'⟩
      rcases hx y hxm with q | ⟨q, q'⟩
      · exact .inl ⟨q, _, hcall.ns, bindL_get (k := (callEnvC fd s.heap.objs.size a).kindOf) q hnd' hm⟩
      · obtain ⟨c, hc⟩ := Option.isSome_iff_exists.mp (q' (s.heap.objs.size + 1))
        refine .inr ⟨.inl q, c, hc, ?_⟩
        have := x.cell y c hc
        exact (bindC_get (k := (callEnvC fd s.heap.objs.size a).kindOf) q hnd' hm) ▸ this
    · refine ⟨fun _ => 0, fun y z es es' e => ?_, fun y es e => ?_⟩
      · obtain ⟨_, _, e', _⟩ := startLoc_lookup r hlen e; cases e'
      · obtain ⟨_, _, e', _⟩ := startLoc_lookup r hlen e; cases e'
  rw [execs_append]
  refine wpAny_bind (wp_seq ((h s.heap.objs.size).run _ Z _ _ R.deeper S₁) fun f s₂ ⟨Z₂, ρ₂, fl, le₂, S₂, hf, hΦ⟩ => ?_)
  obtain ⟨rfl, hown⟩ := hΦ
  cases hf
  obtain ⟨oa, hij, hos⟩ := S₂.owns
  obtain ⟨h1, h2, h3, h4, h5, vs', j, h6, h7⟩ := hos xr _ hown
  refine wpAny_execs_cons (wpAny_Return_some (wp_own S₂ h1 hxr ?_))
  intro tok₂
  have hz : Z (oa xr) = none := by
    cases q : Z (oa xr) with
    | none => rfl
    | some o => have := le₂ _ _ q; rw [h2] at this; cases this
  refine ⟨Z₂, oa xr, vs', j, rfl, ext_of_frame b le₂ S₂ tok₂, ?_, h2, h6, h7⟩
  have h3' : (if Z (oa xr) = none then s.heap.get? (oa xr) else none) = none := h3
  rw [if_pos hz] at h3'
  exact h3'

/-- x = f(..), a new list that the frame alone holds from then on -/
theorem ex_assign_callF {x : Str} {p : Pos} {f : PySem.Expr} {es : List PySem.Expr} {a : Addr} {ds out : List D} {cpos : Pos} {Φ : Fl → Loc → Prop} (hf : Ev G env n ρ f (.fn a)) (h : Evs G env n ρ es ds) (hk : keepIn G.K (.ref a) = true) (hc : FnF G n a ds out)
    (hst : es.any isStarred = false) (ha : isAttr f = false) (hcan : Can env x) (hs : swapsWith (.Call f es [] cpos) (some (.Name x p)) pos.line env = pure false) (k : Φ .next (upd ρ x (.own out))) :
    Ex G env n ρ (.Assign [.Name x p] (.Call f es [] cpos) pos) Φ := by
  constructor
  intro A Z H s R S
  refine wpAny_Assign_Name ?_ hs
  rw [eval_call ha]
  refine wpAny_bind (wp_seq (hf.run A Z H s R S) fun v s₁ ⟨Z₁, x₁, r₁⟩ => ?_)
  cases r₁
  have S₁ := S.ext x₁
  refine callWith_of (P := fun h => G.K.In h) (by rw [starred_none (star_all hst)]; rfl) (keeps_K hk) (wp_evalArgs (starred_none (star_all hst) cpos) (wp_seq (h.run A Z₁ H s₁ cpos R S₁) fun vs s₂ ⟨Z₂, x₂, r₂⟩ => ⟨(S₁.ext x₂).X, ?_⟩))
  have S₂ := S₁.ext x₂
  refine wp_seq (hc.run A Z₂ s₂ vs R S₂.bs r₂) fun v s₃ ⟨Z₃, b, vs', j, e, x₃, hn, hz, hg, hr⟩ => ?_
  subst e
  have S₃ := S₂.ext x₃
  have new : ∀ {c : Addr} {o : Obj}, s₂.heap.get? c = some o → b ≠ c := fun e q => by rw [← q, hn] at e; cases e
  refine wp_seq (st_storeOwn (a := b) (vs := vs') (n := j) (ds := out) S₃ hz ?_ ?_ ?_ ?_ hg hr hcan) fun _ s₄ S₄ => ⟨Z₃, _, _, x₁.le.trans (x₂.le.trans x₃.le), S₄, .next, k⟩
  · cases q : H b with
    | none => rfl
    | some o => exact absurd rfl (new (S₂.hin _ _ q))
  · obtain ⟨m, o, _, _, e, _⟩ := S₂.ns
    exact new e
  · intro y c e
    obtain ⟨_, h1, h2⟩ := S₂.cells y c e
    cases hf : env.func.isSome with
    | true => obtain ⟨_, _, v, ob, e2, _⟩ := h1 hf; exact new e2
    | false => obtain ⟨ob, e2⟩ := h2 hf; exact new (S₂.hin _ _ e2)
  · intro y es v hy hv
    obtain ⟨oa, _, ho⟩ := S₂.owns
    obtain ⟨h1, _, _, _, _, vs', k', h6, _⟩ := ho y es hy
    have : v = .ref (oa y) := hv.uniq (h1.keeps x₃.keep)
    subst this
    intro q
    exact absurd (Value.ref.inj q).symm (new h6)

theorem repAll_atoms : ∀ {vs : List Value} {ds : List D}, ds.all Atom = true → RepAll G Z vs ds → RepAll G Z' vs ds
  | _, _, _, .nil => .nil
  | _, _, h, .cons r rs => by
    rw [List.all_cons, Bool.and_eq_true] at h
    exact .cons (rep_atom h.1 r) (repAll_atoms h.2 rs)
theorem iadd_lists {prog : Program} {w : World} {a b : Addr} {xs ys : Array Value} {m k : Nat} {Q : Value → Shared → Prop} (ha : s.heap.get? a = some (listOf xs m)) (hb : s.heap.get? b = some (listOf ys k)) (hsz : xs.size + ys.size ≤ 100000)
    (h : Q (.ref a) { s with heap := s.heap.update a (Obj.mapSeq fun x => x ++ ys) }) : wpAny (model prog w) A (inplaceOp .Add (.ref a) (.ref b)) Q E s := by
  have big := big_line
  have hla : s.heap.IsList a xs := ⟨_, ha, rfl, m, rfl⟩
  have hlb : s.heap.IsList b ys := ⟨_, hb, rfl, k, rfl⟩
  have hslot := F.slot_list_iadd.lookup
  have hseq : isSeqSlot (some (.builtin "list.__iadd__")) = true := by decide +kernel
  have hfi : fillsInplaceSlot (.type "list") "add" (Operator.Add == .Add) = pure false := by
    unfold fillsInplaceSlot
    show (typeLookup (.type "list") (dunderI "add") >>= fun fi => pure (fi.isSome && !isSeqSlot fi)) = pure false
    rw [hslot, pure_bind, hseq]; rfl
  unfold inplaceOp
  refine wpAny_holding ?_
  refine wpAny_bind (wpAny_typeOf hla.typeIs (wpAny_bind (wpAny_of_eq hfi ?_)))
  show wpAny _ A (if false = true then _ else _) Q E s
  rw [if_neg Bool.false_ne_true]
  refine wpAny_bind (wpAny_binaryOp1_none (nm := "add") hla.typeIs hlb.typeIs noFill_list_add ?_)
  refine wpAny_bind (wpAny_of_eq (PySem.seqSlot_of hslot hseq) ?_)
  refine wpAny_bind (wpAny_rule ?_)
  refine call_meets F.slot_list_iadd hla.typeIs F.entry_list_iadd (F.args_list_iadd_2 _ _) (AutoSeq1.list___iadd___list_list_0 a xs m b ys k ?_ (by omega) (by omega)) ⟨ha, hb, h⟩
  have : ¬ xs.size + ys.size > sizeLine := by omega
  unfold Builtin.List.listTooLong
  rw [decide_eq_false this]
  simp
/-- x += e, of an owned list, by a list of plain things; e may read x -/
theorem ex_aug_own {x : Str} {p : Pos} {e : PySem.Expr} {ds es : List D} {Φ : Fl → Loc → Prop} (hx : ρ.lookup x = some (.own ds)) (h : Ev G env n (upd ρ x (.val (.list ds))) e (.list es)) (hat : es.all Atom = true) (hsz : ds.length + es.length ≤ 100000) (hd : (x == ("__debug__" : Str)) = false) (hc : Can env x)
    (k : Φ .next (upd ρ x (.own (ds ++ es)))) : Ex G env n ρ (.AugAssign (.Name x p) .Add e pos) Φ := by
  constructor
  intro A Z H s R S
  obtain ⟨oa, hij, hos⟩ := S.owns
  obtain ⟨h1, h2, h3, h4, h5, vs, j, h6, h7⟩ := hos x ds hx
  refine wpAny_AugAssign_Name ?_
  have go : wpAny (model G.prog G.w) A (eval e env) (fun v₁ s₂ => wpAny (model G.prog G.w) A (inplaceOp .Add (.ref (oa x)) v₁) (fun r s₃ => wpAny (model G.prog G.w) A (storeName env x r) (fun _ => ExPost G env Z H Φ .next) (fun _ _ => False) s₃) (fun _ _ => False) s₂) (fun _ _ => False) s := by
    obtain ⟨Z', le', S', _⟩ := S.freeze hx
    refine wp_seq (h.run A Z' H s R S') fun v₁ s₁ ⟨Z₁, x₁, r₁⟩ => ?_
    cases r₁ with
    | @list b ws k' _ hz ra =>
      have xb : Ext Z s Z s₁ := x₁.back S.zin
      have S₁ := S.ext xb
      have hb := x₁.zin _ _ hz
      have ga := xb.keep _ _ h6
      refine iadd_lists ga hb (by rw [List.size_toArray, List.size_toArray, h7.length, ra.length]; exact hsz) ?_
      have n2 : ∀ y es, ρ.lookup y = some (.own es) → Has env s₁.heap y (.ref (oa y)) ∧ Z (oa y) = none ∧ H (oa y) = none ∧ oa y ≠ env.locals ∧ (∀ z c, env.cells.lookup z = some c → oa y ≠ c) ∧
          ∃ vs n, s₁.heap.get? (oa y) = some (listOf vs.toArray n) ∧ RepAll G Z vs es := fun y es e => by
        obtain ⟨g1, g2, g3, g4, g5, us, j, g6, g7⟩ := hos y es e
        exact ⟨g1.keeps xb.keep, g2, g3, g4, g5, us, j, xb.keep _ _ g6, g7⟩
      obtain ⟨k₂, hg⟩ := upd_list ga (fun x => x ++ ws.toArray) (its' := (vs ++ ws).toArray) (by simp)
      have hr : RepAll G Z (vs ++ ws) (ds ++ es) := h7.append (repAll_atoms hat ra)
      have S₂ : St G env Z H (upd ρ x (.own (ds ++ es))) { s₁ with heap := s₁.heap.update (oa x) (Obj.mapSeq fun x => x ++ ws.toArray) } := S₁.mutate oa hij n2 hx hg hr (Nat.le_refl _) (Heap.SameBut.update ..)
      have look : ∀ (ρ : Loc) (y : Str), (ρ.filter fun q => q.1 != x).lookup y = if y = x then none else ρ.lookup y := by
        intro ρ y
        induction ρ with
        | nil => simp
        | cons q r ih =>
          rw [List.filter_cons]
          by_cases hq : q.1 = x
          · rw [if_neg (by simp [hq]), ih, List.lookup_cons]
            by_cases hy : y = x
            · rw [if_pos hy, if_pos hy]
            · rw [if_neg hy, if_neg hy, beq_eq_false_iff_ne.mpr (fun z => hy (z.trans hq))]
          · rw [if_pos (by simp [hq]), List.lookup_cons, List.lookup_cons, ih]
            by_cases hy : y = q.1
            · subst hy; simp [hq]
            · rw [beq_eq_false_iff_ne.mpr hy]
      have S₃ : St G env Z H (ρ.filter fun q => q.1 != x) { s₁ with heap := s₁.heap.update (oa x) (Obj.mapSeq fun x => x ++ ws.toArray) } := S₂.weaken fun y c e => by
        rw [look] at e
        rw [lookup_upd]
        by_cases hy : y = x
        · rw [if_pos hy] at e; cases e
        · rw [if_neg hy] at e ⊢; exact e
      have hasx : Has env (s₁.heap.update (oa x) (Obj.mapSeq fun x => x ++ ws.toArray)) x (.ref (oa x)) := by
        have hs' := Heap.SameBut.update s₁.heap (oa x) (Obj.mapSeq fun x => x ++ ws.toArray)
        rcases h1.keeps xb.keep with ⟨k, m, hn, e⟩ | ⟨k, c, e, hn⟩
        · exact .inl ⟨k, m, hn.sameBut hs' (Ne.symm h4), e⟩
        · exact .inr ⟨k, c, e, hn.sameBut hs' (Ne.symm (h5 x c e))⟩
      refine wp_seq (st_storeOwn (a := oa x) (vs := vs ++ ws) (n := k₂) (ds := ds ++ es) S₃ h2 h3 h4 h5 (fun y es' v hy hv q => ?_) hg hr hc) fun _ s₄ S₄ => ⟨Z, _, .next, Zle.same, S₄.weaken fun y c e => ?_, .next, k⟩
      · rw [look] at hy
        by_cases hyx : y = x
        · rw [if_pos hyx] at hy; cases hy
        · rw [if_neg hyx] at hy
          subst q
          have hs' := Heap.SameBut.update s₁.heap (oa x) (Obj.mapSeq fun x => x ++ ws.toArray)
          have hasy : Has env (s₁.heap.update (oa x) (Obj.mapSeq fun x => x ++ ws.toArray)) y (.ref (oa y)) := by
            rcases (n2 y es' hy).1 with ⟨k, m, hn, e⟩ | ⟨k, c, e, hn⟩
            · exact .inl ⟨k, m, hn.sameBut hs' (Ne.symm h4), e⟩
            · exact .inr ⟨k, c, e, hn.sameBut hs' (Ne.symm (h5 y c e))⟩
          exact hyx (hij y x _ _ hy hx (Value.ref.inj (hasy.uniq hv)))
      · rw [lookup_upd] at e ⊢
        by_cases hy : y = x
        · rw [if_pos hy] at e ⊢; exact e
        · rw [if_neg hy] at e ⊢; rw [look, if_neg hy]; exact e
  rcases h1 with ⟨k, m, n, e⟩ | ⟨k, c, e, n⟩
  · exact wpAny_loadName_local S.fk k n e go
  · rcases k with k | k
    · exact wpAny_loadName_cell S.fk k e n go
    · exact wpAny_loadName_free S.fk k.1 e n go k.2
end
end Mine
end
section
open PySem PySem.W PyProof.Rows
set_option linter.unusedVariables false
namespace Mine
def part11 : List Nat → List Nat → Option Nat
  | [], [] => none
  | [], _ :: _ => some 0
  | _ :: _, [] => some 0
  | a :: r, b :: s => if a = b then (part11 r s).map (· + 1) else some 0
theorem part_at : ∀ {a b : List Nat} {k x y : Nat}, a.take k = b.take k → a[k]? = some x → b[k]? = some y → x ≠ y → part11 a b = some k
  | [], _, _, _, _, _, h, _, _ => by simp at h
  | _ :: _, [], _, _, _, _, _, h, _ => by simp at h
  | a :: r, b :: s, 0, x, y, _, h1, h2, hn => by
    simp at h1 h2
    subst h1 h2
    unfold part11
    rw [if_neg hn]
  | a :: r, b :: s, k + 1, x, y, h, h1, h2, hn => by
    rw [List.take_succ_cons, List.take_succ_cons] at h
    obtain ⟨e1, e2⟩ := List.cons.inj h
    unfold part11
    rw [if_pos e1, part_at e2 (by simpa using h1) (by simpa using h2) hn]
    rfl
theorem part_end : ∀ {a b : List Nat} {m : Nat}, m = min a.length b.length → a.take m = b.take m → part11 a b = if a.length = b.length then none else some m
  | [], [], m, _, _ => rfl
  | [], b :: s, m, hm, _ => by
    have : m = 0 := by rw [hm]; simp
    subst this; simp [part11]
  | a :: r, [], m, hm, _ => by
    have : m = 0 := by rw [hm]; simp
    subst this; simp [part11]
  | a :: r, b :: s, m, hm, h => by
    obtain ⟨k, rfl⟩ : ∃ k, m = k + 1 := ⟨min r.length s.length, by rw [hm]; simp⟩
    rw [List.take_succ_cons, List.take_succ_cons] at h
    obtain ⟨e1, e2⟩ := List.cons.inj h
    have ih := part_end (a := r) (b := s) (m := k) (by simp at hm; omega) e2
    unfold part11
    rw [if_pos e1, ih]
    simp
    split <;> simp
theorem part_same (a : List Nat) : part11 a a = none := by
  induction a with
  | nil => rfl
  | cons x r ih => unfold part11; rw [if_pos rfl, ih]; rfl
theorem part_none : ∀ {a b : List Nat}, part11 a b = none → a = b
  | [], [], _ => rfl
  | [], _ :: _, h => by cases h
  | _ :: _, [], h => by cases h
  | a :: r, b :: s, h => by
    unfold part11 at h
    split at h
    · rename_i e
      subst e
      rw [part_none (a := r) (b := s) (by cases q : part11 r s with
        | none => rfl
        | some z => rw [q] at h; cases h)]
    · cases h
/-- where two texts part -/
theorem part_some : ∀ {a b : List Nat} {k : Nat}, part11 a b = some k → a.take k = b.take k ∧ k ≤ a.length ∧ k ≤ b.length ∧ (a.drop k).head? ≠ (b.drop k).head?
  | [], [], _, h => by cases h
  | [], y :: s, k, h => by cases h; simp
  | x :: r, [], k, h => by cases h; simp
  | x :: r, y :: s, k, h => by
    unfold part11 at h
    split at h
    · rename_i e
      subst e
      cases q : part11 r s with
      | none => rw [q] at h; cases h
      | some z =>
        rw [q] at h; cases h
        obtain ⟨h1, h2, h3, h4⟩ := part_some q
        simp [h1, h2, h3]
        simpa using h4
    · rename_i e
      cases h
      simp [e]
theorem part_pre (p : List Nat) (a b : List Nat) : part11 (p ++ a) (p ++ b) = (part11 a b).map (p.length + ·) := by
  induction p with
  | nil => simp
  | cons x r ih =>
    have e : part11 (x :: (r ++ a)) (x :: (r ++ b)) = (part11 (r ++ a) (r ++ b)).map (· + 1) := by
      rw [part11, if_pos rfl]
    rw [List.cons_append, List.cons_append, e, ih, Option.map_map, List.length_cons]
    cases part11 a b with
    | none => rfl
    | some k => exact congrArg some (by show r.length + k + 1 = r.length + 1 + k; omega)
theorem lt_pre (p : List Nat) (a b : List Nat) : (p ++ a < p ++ b) ↔ a < b := by
  induction p with
  | nil => rfl
  | cons x r ih =>
    rw [List.cons_append, List.cons_append, List.cons_lt_cons_iff, ih]
    simp
/-- texts that part inside both -/
theorem part_in : ∀ {a b : List Nat} {k : Nat} (x y : List Nat), part11 a b = some k → k < a.length → k < b.length → part11 (a ++ x) (b ++ y) = some k ∧ ((a ++ x < b ++ y) ↔ a < b)
  | [], _, _, _, _, _, h, _ => by simp at h
  | _ :: _, [], _, _, _, _, _, h => by simp at h
  | c :: r, d :: s, k, x, y, h, h1, h2 => by
    unfold part11 at h
    split at h
    · rename_i e
      subst e
      cases q : part11 r s with
      | none => rw [q] at h; cases h
      | some z =>
        rw [q] at h; cases h
        obtain ⟨i1, i2⟩ := part_in x y q (by simpa using h1) (by simpa using h2)
        refine ⟨?_, ?_⟩
        · rw [List.cons_append, List.cons_append]; unfold part11; rw [if_pos rfl, i1]; rfl
        · rw [List.cons_append, List.cons_append, List.cons_lt_cons_iff, List.cons_lt_cons_iff, i2]
    · rename_i e
      cases h
      refine ⟨?_, ?_⟩
      · rw [List.cons_append, List.cons_append]; unfold part11; rw [if_neg e]
      · rw [List.cons_append, List.cons_append, List.cons_lt_cons_iff, List.cons_lt_cons_iff]
        simp [e]
/-- the spelling of the next sign -/
def spellO (t : Tbl) : List Nat → List Nat
  | [] => []
  | c :: _ => spell t c
theorem esc_head (t : Tbl) (l : List Nat) : escBy t l = spellO t l ++ escBy t (l.drop 1) := by
  cases l with
  | nil => rfl
  | cons c r => rw [escBy_cons]; rfl
theorem law11 {t : Tbl} (h : PC t) {a b : List Nat} {k : Nat} (hk : part11 a b = some k) :
    ∃ m, part11 (spellO t (a.drop k)) (spellO t (b.drop k)) = some m ∧
      (escBy t a).take (escBy t (a.take k) ++ (spellO t (a.drop k)).take m).length = escBy t (a.take k) ++ (spellO t (a.drop k)).take m ∧
      (escBy t b).take (escBy t (a.take k) ++ (spellO t (a.drop k)).take m).length = escBy t (a.take k) ++ (spellO t (a.drop k)).take m ∧
      part11 (escBy t a) (escBy t b) = some (escBy t (a.take k) ++ (spellO t (a.drop k)).take m).length ∧
      ((escBy t a < escBy t b) ↔ (spellO t (a.drop k) < spellO t (b.drop k))) := by
  obtain ⟨h1, h2, h3, h4⟩ := part_some hk
  have ea : escBy t a = escBy t (a.take k) ++ (spellO t (a.drop k) ++ escBy t ((a.drop k).drop 1)) := by
    conv => lhs; rw [← List.take_append_drop k a, escBy_append, esc_head t (a.drop k)]
  have eb : escBy t b = escBy t (a.take k) ++ (spellO t (b.drop k) ++ escBy t ((b.drop k).drop 1)) := by
    conv => lhs; rw [← List.take_append_drop k b, escBy_append, esc_head t (b.drop k), ← h1]
  rw [ea, eb]
  generalize escBy t (a.take k) = P
  generalize a.drop k = u at h4
  generalize b.drop k = v at h4
  have main : ∃ m, part11 (spellO t u) (spellO t v) = some m ∧ m ≤ (spellO t u).length ∧ (spellO t u).take m = (spellO t v).take m ∧ m ≤ (spellO t v).length ∧ part11 (spellO t u ++ escBy t (u.drop 1)) (spellO t v ++ escBy t (v.drop 1)) = some m ∧ ((spellO t u ++ escBy t (u.drop 1) < spellO t v ++ escBy t (v.drop 1)) ↔ (spellO t u < spellO t v)) := by
    cases u with
    | nil => cases v with
      | nil => exact absurd rfl h4
      | cons d s =>
        show ∃ m, part11 [] (spell t d) = some m ∧ _
        obtain ⟨x, y, e⟩ := List.exists_cons_of_ne_nil (spell_ne h d)
        refine ⟨0, ?_, Nat.zero_le _, rfl, Nat.zero_le _, ?_, ?_⟩
        · rw [e]; rfl
        · show part11 [] (spell t d ++ _) = _
          rw [e]; rfl
        · show ([] < spell t d ++ _) ↔ [] < spell t d
          rw [e]; simp
    | cons c r => cases v with
      | nil =>
        show ∃ m, part11 (spell t c) [] = some m ∧ _
        obtain ⟨x, y, e⟩ := List.exists_cons_of_ne_nil (spell_ne h c)
        refine ⟨0, ?_, Nat.zero_le _, rfl, Nat.zero_le _, ?_, ?_⟩
        · rw [e]; rfl
        · show part11 (spell t c ++ _) [] = _
          rw [e]; rfl
        · show (spell t c ++ _ < []) ↔ spell t c < []
          rw [e]; simp
      | cons d s =>
        have hcd : c ≠ d := fun q => h4 (by simp [q])
        show ∃ m, part11 (spell t c) (spell t d) = some m ∧ _
        cases q : part11 (spell t c) (spell t d) with
        | none =>
          have := part_none q
          exact absurd (this ▸ List.prefix_refl _) (spell_free h hcd)
        | some m =>
          obtain ⟨q1, q2, q3, q4⟩ := part_some q
          have l1 : m < (spell t c).length := by
            rcases Nat.lt_or_ge m (spell t c).length with z | z
            · exact z
            · exfalso
              rw [List.take_of_length_le z] at q1
              exact spell_free h hcd (q1 ▸ List.take_prefix _ _)
          have l2 : m < (spell t d).length := by
            rcases Nat.lt_or_ge m (spell t d).length with z | z
            · exact z
            · exfalso
              rw [List.take_of_length_le z] at q1
              exact spell_free h (Ne.symm hcd) (q1 ▸ List.take_prefix _ _)
          obtain ⟨i1, i2⟩ := part_in (escBy t r) (escBy t s) q l1 l2
          exact ⟨m, rfl, q2, q1, q3, i1, i2⟩
  obtain ⟨m, m1, m2, m3, m4, m5, m6⟩ := main
  refine ⟨m, m1, ?_, ?_, ?_, ?_⟩
  · rw [List.length_append, List.length_take, Nat.min_eq_left m2, List.take_append, List.take_of_length_le (by omega), Nat.add_sub_cancel_left, List.take_append_of_le_length m2]
  · rw [List.length_append, List.length_take, Nat.min_eq_left m2, List.take_append, List.take_of_length_le (by omega), Nat.add_sub_cancel_left, List.take_append_of_le_length m4, m3]
  · rw [part_pre, m5, List.length_append, List.length_take, Nat.min_eq_left m2]; rfl
  · rw [lt_pre, m6]
end Mine
end
section
open PySem PySem.W PyProof.Rows
set_option linter.unusedVariables false
set_option maxRecDepth 100000
namespace Mine
local macro_rules | `(tactic| walk_at "ev1") => `(tactic| first
  | exact ev_int | exact ev_str | exact ev_bool | exact ev_none
  | exact ev_name rfl rfl
  | exact evs_nil
  | (apply evs_more; (case hs => exact rfl))
  | apply ev_binop | (apply ev_cmp; (case hm => exact rfl)) | apply ev_sub
  | apply ev_list | apply ev_tuple
  | (apply tst_cmp; (case hm => exact rfl)) | apply tst_not | exact tst_and_nil | exact tst_or_nil
  | exact op_add_int | exact op_sub_int | exact op_iadd_int | exact op_eq_int | exact op_ne_int | exact op_lt_int | exact op_gt_int | exact op_le_int | exact op_ge_int
  | exact op_eq_str | exact op_ne_str | exact op_in_str | exact op_notin_str | exact op_in_dict | exact op_notin_dict | exact op_ne_nil | exact op_eq_nil
  | exact op_fdiv_int (by decide) (PyProof.noPylong_of_log2 (by decide +kernel)) | exact op_mod_int (by decide)
  | apply op_add_str | apply op_iadd_str
  | exact tsts_nil | apply tsts_one)
local macro_rules | `(tactic| walk_at "ev") => `(tactic| repeat' walk_at "ev1")
local macro_rules | `(tactic| walk_at "can") => `(tactic| first | exact Or.inl rfl | exact Or.inr ⟨rfl, rfl, _, rfl⟩)
local macro_rules | `(tactic| walk_at "as") => `(tactic| (refine exs_cons ?_; apply ex_assign; (case hc => walk_at "can"); (case hs => exact rfl); (case' k => refine then_next ?_); (case' h => walk_at "ev")))
local macro_rules | `(tactic| walk_at "aug") => `(tactic| (refine exs_cons ?_; apply ex_aug; (case h₀ => exact rfl); (case hc => walk_at "can"); (case' k => refine then_next ?_); (case' ho => skip); (case' h => walk_at "ev"); (try walk_at "ev")))
local macro_rules | `(tactic| walk_at "if") => `(tactic| (refine exs_cons ?_; apply ex_if; (case' h => walk_at "ev")))
local macro_rules | `(tactic| walk_at "ret") => `(tactic| (refine exs_cons ?_; apply ex_return; (case' h => walk_at "ev")))
local macro_rules | `(tactic| walk_at "params") => `(tactic| (intro x hx; simp only [List.mem_cons, List.not_mem_nil, or_false] at hx; first
  | (subst hx; first | exact .inl rfl | exact .inr ⟨rfl, fun _ => rfl⟩)
  | (rcases hx with hx | hx <;> subst hx <;> first | exact .inl rfl | exact .inr ⟨rfl, fun _ => rfl⟩)
  | (rcases hx with hx | hx | hx <;> subst hx <;> first | exact .inl rfl | exact .inr ⟨rfl, fun _ => rfl⟩)))
local macro_rules | `(tactic| walk_at "esc") => `(tactic| (refine esc_step rfl (by decide +kernel : _ = (⟨#[_]⟩ : Str)) ?_ ?_ ?_ ?_ (by assumption) rfl (by walk_at "can") rfl ?_))
abbrev pw := PySem.Challenge.pw_dn0275_11
section
variable {G : Gnd} {n : Nat} {doc pm cdv ct : Value} {a : Addr}
def rAmp : List Nat := [38, 97, 109, 112, 59]
def rLt : List Nat := [38, 108, 116, 59]
def rGt : List Nat := [38, 103, 116, 59]
def rQuot : List Nat := [38, 113, 117, 111, 116, 59]
def rCr : List Nat := [38, 35, 49, 51, 59]
def rLf : List Nat := [38, 35, 49, 48, 59]
def rTab : List Nat := [38, 35, 48, 57, 59]
def rxD : List Nat := [38, 35, 120, 68, 59]
def rxA : List Nat := [38, 35, 120, 65, 59]
def rx9 : List Nat := [38, 35, 120, 57, 59]
def cdataT : Tbl := [(38, rAmp), (60, rLt), (62, rGt)]
theorem fn_cdata (D : DefAt G a (fdOf (stOf pw 2) doc pm cdv ct) (bodyOf (stOf pw 2))) (l : List Nat) (hl : l.length ≤ 100000) : Fn G (n + 1) a [.str (T l)] (.str (T (escBy cdataT l))) := by
  refine fn_of (xs := ["text"]) D (fun vs h => ?_) rfl ?_ (by decide) fun L => ?_
  · match vs, h with
    | [v], _ => rfl
  · walk_at "params"
  rw [show T l = T (escBy [] l) from by rw [escBy_nil]]
  refine exs_cons (ex_try ?_)
  refine esc_step (c := 38) (z := rAmp) rfl (by decide +kernel) (by decide +kernel) (by decide) (by decide) (by decide) hl rfl (.inl rfl) rfl ?_
  refine esc_step (c := 60) (z := rLt) rfl (by decide +kernel) (by decide +kernel) (by decide) (by decide) (by decide) hl rfl (.inl rfl) rfl ?_
  refine esc_step (c := 62) (z := rGt) rfl (by decide +kernel) (by decide +kernel) (by decide) (by decide) (by decide) hl rfl (.inl rfl) rfl ?_
  walk_at "ret"
  rfl
def attribT : Tbl := [(38, rAmp), (60, rLt), (62, rGt), (34, rQuot), (13, rCr), (10, rLf), (9, rTab)]
theorem fn_attrib (D : DefAt G a (fdOf (stOf pw 3) doc pm cdv ct) (bodyOf (stOf pw 3))) (l : List Nat) (hl : l.length ≤ 100000) : Fn G (n + 1) a [.str (T l)] (.str (T (escBy attribT l))) := by
  refine fn_of (xs := ["text"]) D (fun vs h => ?_) rfl ?_ (by decide) fun L => ?_
  · match vs, h with
    | [v], _ => rfl
  · walk_at "params"
  rw [show T l = T (escBy [] l) from by rw [escBy_nil]]
  refine exs_cons (ex_try ?_)
  refine esc_step (c := 38) (z := rAmp) rfl (by decide +kernel) (by decide +kernel) (by decide) (by decide) (by decide) hl rfl (.inl rfl) rfl ?_
  refine esc_step (c := 60) (z := rLt) rfl (by decide +kernel) (by decide +kernel) (by decide) (by decide) (by decide) hl rfl (.inl rfl) rfl ?_
  refine esc_step (c := 62) (z := rGt) rfl (by decide +kernel) (by decide +kernel) (by decide) (by decide) (by decide) hl rfl (.inl rfl) rfl ?_
  refine esc_step (c := 34) (z := rQuot) rfl (by decide +kernel) (by decide +kernel) (by decide) (by decide) (by decide) hl rfl (.inl rfl) rfl ?_
  refine esc_step (c := 13) (z := rCr) rfl (by decide +kernel) (by decide +kernel) (by decide) (by decide) (by decide) hl rfl (.inl rfl) rfl ?_
  refine esc_step (c := 10) (z := rLf) rfl (by decide +kernel) (by decide +kernel) (by decide) (by decide) (by decide) hl rfl (.inl rfl) rfl ?_
  refine esc_step (c := 9) (z := rTab) rfl (by decide +kernel) (by decide +kernel) (by decide) (by decide) (by decide) hl rfl (.inl rfl) rfl ?_
  walk_at "ret"
  rfl
def htmlT : Tbl := [(38, rAmp), (62, rGt), (34, rQuot)]
theorem fn_html (D : DefAt G a (fdOf (stOf pw 4) doc pm cdv ct) (bodyOf (stOf pw 4))) (l : List Nat) (hl : l.length ≤ 100000) : Fn G (n + 1) a [.str (T l)] (.str (T (escBy htmlT l))) := by
  refine fn_of (xs := ["text"]) D (fun vs h => ?_) rfl ?_ (by decide) fun L => ?_
  · match vs, h with
    | [v], _ => rfl
  · walk_at "params"
  rw [show T l = T (escBy [] l) from by rw [escBy_nil]]
  refine exs_cons (ex_try ?_)
  refine esc_step (c := 38) (z := rAmp) rfl (by decide +kernel) (by decide +kernel) (by decide) (by decide) (by decide) hl rfl (.inl rfl) rfl ?_
  refine esc_step (c := 62) (z := rGt) rfl (by decide +kernel) (by decide +kernel) (by decide) (by decide) (by decide) hl rfl (.inl rfl) rfl ?_
  refine esc_step (c := 34) (z := rQuot) rfl (by decide +kernel) (by decide +kernel) (by decide) (by decide) (by decide) hl rfl (.inl rfl) rfl ?_
  walk_at "ret"
  rfl
def cdataCT : Tbl := [(38, rAmp), (60, rLt), (62, rGt), (13, rxD)]
theorem fn_cdataC (D : DefAt G a (fdOf (stOf pw 5) doc pm cdv ct) (bodyOf (stOf pw 5))) (l : List Nat) (hl : l.length ≤ 100000) : Fn G (n + 1) a [.str (T l)] (.str (T (escBy cdataCT l))) := by
  refine fn_of (xs := ["text"]) D (fun vs h => ?_) rfl ?_ (by decide) fun L => ?_
  · match vs, h with
    | [v], _ => rfl
  · walk_at "params"
  rw [show T l = T (escBy [] l) from by rw [escBy_nil]]
  refine exs_cons (ex_try ?_)
  refine esc_step (c := 38) (z := rAmp) rfl (by decide +kernel) (by decide +kernel) (by decide) (by decide) (by decide) hl rfl (.inl rfl) rfl ?_
  refine esc_step (c := 60) (z := rLt) rfl (by decide +kernel) (by decide +kernel) (by decide) (by decide) (by decide) hl rfl (.inl rfl) rfl ?_
  refine esc_step (c := 62) (z := rGt) rfl (by decide +kernel) (by decide +kernel) (by decide) (by decide) (by decide) hl rfl (.inl rfl) rfl ?_
  refine esc_step (c := 13) (z := rxD) rfl (by decide +kernel) (by decide +kernel) (by decide) (by decide) (by decide) hl rfl (.inl rfl) rfl ?_
  walk_at "ret"
  rfl
def attribCT : Tbl := [(38, rAmp), (60, rLt), (34, rQuot), (9, rx9), (10, rxA), (13, rxD)]
theorem fn_attribC (D : DefAt G a (fdOf (stOf pw 6) doc pm cdv ct) (bodyOf (stOf pw 6))) (l : List Nat) (hl : l.length ≤ 100000) : Fn G (n + 1) a [.str (T l)] (.str (T (escBy attribCT l))) := by
  refine fn_of (xs := ["text"]) D (fun vs h => ?_) rfl ?_ (by decide) fun L => ?_
  · match vs, h with
    | [v], _ => rfl
  · walk_at "params"
  rw [show T l = T (escBy [] l) from by rw [escBy_nil]]
  refine exs_cons (ex_try ?_)
  refine esc_step (c := 38) (z := rAmp) rfl (by decide +kernel) (by decide +kernel) (by decide) (by decide) (by decide) hl rfl (.inl rfl) rfl ?_
  refine esc_step (c := 60) (z := rLt) rfl (by decide +kernel) (by decide +kernel) (by decide) (by decide) (by decide) hl rfl (.inl rfl) rfl ?_
  refine esc_step (c := 34) (z := rQuot) rfl (by decide +kernel) (by decide +kernel) (by decide) (by decide) (by decide) hl rfl (.inl rfl) rfl ?_
  refine esc_step (c := 9) (z := rx9) rfl (by decide +kernel) (by decide +kernel) (by decide) (by decide) (by decide) hl rfl (.inl rfl) rfl ?_
  refine esc_step (c := 10) (z := rxA) rfl (by decide +kernel) (by decide +kernel) (by decide) (by decide) (by decide) hl rfl (.inl rfl) rfl ?_
  refine esc_step (c := 13) (z := rxD) rfl (by decide +kernel) (by decide +kernel) (by decide) (by decide) (by decide) hl rfl (.inl rfl) rfl ?_
  walk_at "ret"
  rfl
end
end Mine
end
section
open PySem PySem.W PyProof.Rows PySem.Builtin PySem.Builtin.Str
set_option linter.unusedVariables false
set_option maxRecDepth 100000
namespace Mine
section
variable {G : Gnd} {env : Env} {Z Z' H : Zf} {ρ ρ' ρc : Loc} {s s' : Shared} {A : Around} {E : Value → Shared → Prop} {n : Nat} {pos apos sp : Pos}
def optD : Option Nat → D
  | none => .none
  | some k => .int k
theorem op_is_none {d : D} {b : Bool} (h : b = (match d with | .none => true | _ => false)) : Op2 G (compareOp .Is) d .none (.bool b) := Op2.mk fun A Z s v₁ v₂ R bs r₁ r₂ => by
  subst h
  cases r₂
  cases r₁ <;> first | exact is_none_none ⟨Z, bs.same, .bool _⟩ | exact is_none_ne (by intro x; cases x) ⟨Z, bs.same, .bool _⟩
theorem op_ne_bool {a b : Bool} : Op2 G (compareOp .NotEq) (.bool a) (.bool b) (.bool (a != b)) := Op2.mk fun A Z s v₁ v₂ R bs r₁ r₂ => by cases r₁; cases r₂; exact ne_bool ⟨Z, bs.same, .bool _⟩
theorem op_eq_bool {a b : Bool} : Op2 G (compareOp .Eq) (.bool a) (.bool b) (.bool (a == b)) := Op2.mk fun A Z s v₁ v₂ R bs r₁ r₂ => by cases r₁; cases r₂; exact eq_bool ⟨Z, bs.same, .bool _⟩
theorem op_lt_T {a b : List Nat} : Op2 G (compareOp .Lt) (.str (T a)) (.str (T b)) (.bool (decide (a < b))) := op_lt_str
/-- a bound that may be None -/
inductive PartD : D → Option Int → Prop
  | none : PartD .none Option.none
  | int (i : Int) : PartD (.int i) (some i)
theorem ev_sliceD {u : PySem.Expr} {d : D} {hi : Option Int} (hu : Ev G env n ρ u d) (hp : PartD d hi) : Ev G env n ρ (.Slice none (some u) none pos) (.slc none hi) := by
  constructor
  intro A Z H s R S
  show wpAny _ _ (do
    let l ← valueOrNone (evalOpt none env)
    let u ← holding [l] (valueOrNone (evalOpt (some u) env))
    let s ← holding [l, u] (valueOrNone (evalOpt none env))
    newFields "slice" [l, u, s]) _ _ _
  refine wpAny_bind (wpAny_pure (wpAny_bind (wpAny_holding (wp_seq (hu.run A Z H s R S) fun vu s₂ ⟨Z₂, x₂, p₂⟩ => wpAny_bind (wpAny_holding (wpAny_pure ?_))))))
  refine wpAny_newObj_type ⟨_, x₂.trans (Ext.alloc (t := s₂.toks) (S.ext x₂).zin rfl (Nat.le_refl _)), .slc Zadd.self .none ?_⟩
  cases hp with
  | none => cases p₂; exact .none
  | int i => cases p₂; exact .int _ _
theorem slice_all (l : List Nat) : Txt.slice (T l) none none = T l := by
  have h0 := slice_from l 0
  rw [List.drop_zero] at h0
  have e : Txt.slice (T l) none none = Txt.slice (T l) (some ((0 : Nat) : Int)) none := by
    have e : max (0 : Int) (min ((0 : Nat) : Int) (l.length : Int)) = 0 := by omega
    have h2 : ¬ (((0 : Nat) : Int) < 0) := by omega
    unfold Txt.slice
    rw [T_length]
    simp only [strSliceIndices, h2, if_false, e, show ((1 : Int) > 0) = True from by simp, if_true]
  rw [e, h0]
def takeO (l : List Nat) : Option Nat → List Nat
  | none => l
  | some k => l.take k
/-- l[:k], where k may be None -/
theorem ev_toO {v e : PySem.Expr} {l : List Nat} {o : Option Nat} (hv : Ev G env n ρ v (.str (T l))) (he : Ev G env n ρ e (optD o)) (hl : l.length ≤ 100000) : Ev G env n ρ (.Subscript v (.Slice none (some e) none sp) pos) (.str (T (takeO l o))) := by
  cases o with
  | none =>
    show Ev G env n ρ _ (.str (T l))
    rw [← slice_all]
    exact ev_sub hv (ev_sliceD he .none) (sb_slice_str (by rw [T_length]; have := big_line; omega))
  | some k => exact ev_to hv he hl
theorem bf_minN {a b : Nat} : BF G "min" [.int (a : Int), .int (b : Int)] (.int ((min a b : Nat) : Int)) := by
  have := bf_min (G := G) (a := (a : Int)) (b := (b : Int))
  have e : (if (b : Int) < (a : Int) then (b : Int) else (a : Int)) = ((min a b : Nat) : Int) := by split <;> omega
  rwa [e] at this
theorem ev_len {e : PySem.Expr} {p : Pos} {l : List Nat} (h : Ev G env n ρ e (.str (T l))) (hl : l.length ≤ 100000) (hg : nsIn G.K mainGlobals "len" = some none) (hx : env.kindOf "len" = some .globalImplicit) (hst : isStarred e = false) : Ev G env n ρ (.Call (.Name "len" p) [e] [] pos) (.int (l.length : Int)) :=
  ev_bf (evs_more h evs_nil hst) (lenT' l hl) hg rfl hx rfl (by simp [hst])
theorem ev_lenL {e : PySem.Expr} {p : Pos} {ds : List D} (h : Ev G env n ρ e (.list ds)) (hl : ds.length ≤ 100000) (hg : nsIn G.K mainGlobals "len" = some none) (hx : env.kindOf "len" = some .globalImplicit) (hst : isStarred e = false) : Ev G env n ρ (.Call (.Name "len" p) [e] [] pos) (.int (ds.length : Int)) :=
  ev_bf (evs_more h evs_nil hst) (bf_len_list (by have := big_line; omega)) hg rfl hx rfl (by simp [hst])
/-- row[i] of a row of texts -/
theorem ev_txt {v e : PySem.Expr} {xs : List (List Nat)} {i : Nat} {x : List Nat} (hv : Ev G env n ρ v (.list (txs (xs.map T)))) (he : Ev G env n ρ e (.int (i : Int))) (hx : xs[i]? = some x) (hl : xs.length ≤ 100000) : Ev G env n ρ (.Subscript v e pos) (.str (T x)) := by
  have hlt := (List.getElem?_eq_some_iff.mp hx).1
  exact ev_sub hv he (sb_list (by omega) (by omega) (by rw [txs, List.map_map, List.getElem?_map, Int.toNat_natCast, hx]; rfl))
/-- row[-1] -/
theorem ev_last {v e : PySem.Expr} {ds : List D} {d : D} (hv : Ev G env n ρ v (.list (ds ++ [d]))) (he : Ev G env n ρ e (.int (-1))) : Ev G env n ρ (.Subscript v e pos) d :=
  ev_sub hv he (sb_list_neg (by decide) (by decide) (by simp; omega) (by rw [List.length_append, List.length_singleton, show (-1 + ((ds.length + 1 : Nat) : Int)).toNat = ds.length by omega]; simp))
theorem ev_m1 {k : Nat} : Ev G env n ρ (.UnaryOp .USub (.Constant (.int 1) k sp) pos) (.int (-1)) := ev_neg ev_int op_neg_int
end
end Mine
end
section
open PySem PySem.W PyProof.Rows
set_option linter.unusedVariables false
set_option maxRecDepth 100000
namespace Mine
local macro_rules | `(tactic| walk_at "ev1") => `(tactic| first
  | exact ev_int | exact ev_str | exact ev_bool | exact ev_none
  | exact ev_name rfl rfl
  | exact evs_nil
  | (apply evs_more; (case hs => exact rfl))
  | apply ev_binop | (apply ev_cmp; (case hm => exact rfl)) | apply ev_sub
  | apply ev_list | apply ev_tuple
  | (apply tst_cmp; (case hm => exact rfl)) | apply tst_not | exact tst_and_nil | exact tst_or_nil
  | exact op_add_int | exact op_sub_int | exact op_iadd_int | exact op_eq_int | exact op_ne_int | exact op_lt_int | exact op_gt_int | exact op_le_int | exact op_ge_int
  | exact op_eq_str | exact op_ne_str | exact op_in_str | exact op_notin_str | exact op_in_dict | exact op_notin_dict | exact op_ne_nil | exact op_eq_nil
  | exact op_fdiv_int (by decide) (PyProof.noPylong_of_log2 (by decide +kernel)) | exact op_mod_int (by decide)
  | apply op_add_str | apply op_iadd_str
  | exact tsts_nil | apply tsts_one)
local macro_rules | `(tactic| walk_at "ev") => `(tactic| repeat' walk_at "ev1")
local macro_rules | `(tactic| walk_at "can") => `(tactic| first | exact Or.inl rfl | exact Or.inr ⟨rfl, rfl, _, rfl⟩)
local macro_rules | `(tactic| walk_at "as") => `(tactic| (refine exs_cons ?_; apply ex_assign; (case hc => walk_at "can"); (case hs => exact rfl); (case' k => refine then_next ?_); (case' h => walk_at "ev")))
local macro_rules | `(tactic| walk_at "aug") => `(tactic| (refine exs_cons ?_; apply ex_aug; (case h₀ => exact rfl); (case hc => walk_at "can"); (case' k => refine then_next ?_); (case' ho => skip); (case' h => walk_at "ev"); (try walk_at "ev")))
local macro_rules | `(tactic| walk_at "if") => `(tactic| (refine exs_cons ?_; apply ex_if; (case' h => walk_at "ev")))
local macro_rules | `(tactic| walk_at "ret") => `(tactic| (refine exs_cons ?_; apply ex_return; (case' h => walk_at "ev")))
local macro_rules | `(tactic| walk_at "params") => `(tactic| (intro x hx; simp only [List.mem_cons, List.not_mem_nil, or_false] at hx; first
  | (subst hx; first | exact .inl rfl | exact .inr ⟨rfl, fun _ => rfl⟩)
  | (rcases hx with hx | hx <;> subst hx <;> first | exact .inl rfl | exact .inr ⟨rfl, fun _ => rfl⟩)
  | (rcases hx with hx | hx | hx <;> subst hx <;> first | exact .inl rfl | exact .inr ⟨rfl, fun _ => rfl⟩)))
local macro_rules | `(tactic| walk_at "esc") => `(tactic| (refine esc_step rfl (by decide +kernel : _ = (⟨#[_]⟩ : Str)) ?_ ?_ ?_ ?_ (by assumption) rfl (by walk_at "can") rfl ?_))

section
variable {G : Gnd} {n : Nat} {doc pm cdv ct : Value} {a : Addr}
set_option maxHeartbeats 4000000
def pieces11 : List Str := ["&", "<", ">", "\"", "\r", "\n", "\t", "%", "'", "&amp;", "&lt;", "&#", "&#1", "&#13;", "&#x", "&#xA;", "&#09;", "amp;", ";", "a"]
def piece11 (r : Int) : List Nat := cs (pieces11.getD (r.fmod 20).toNat Str.empty)
abbrev S11 := List (List Nat) × List Nat
def st11 (σ : S11) (x : Int) : S11 :=
  if ((x.fmod 4 == 0) && (decide (((σ.1.length + 1 : Nat) : Int) < 16) && true)) = true then (σ.1 ++ [σ.2], σ.2.take ((x.fdiv 4).fmod ((σ.2.length : Int) + 1)).toNat)
  else if decide (x.fmod 4 < 3) = true then (σ.1, σ.2 ++ piece11 (x.fdiv 4))
  else (σ.1, σ.2 ++ [(codeOf ((x.fdiv 4).fmod 1112064)).toNat])
def run11 (ns : List Int) : S11 := ns.foldl st11 ([], [])
def all11 (σ : S11) : List (List Nat) := σ.1 ++ [σ.2]
def own11 (σ : S11) : List D := txs (σ.1.map T) ++ [.str (T σ.2)]
theorem own11_eq (σ : S11) : own11 σ = txs ((all11 σ).map T) := by simp [own11, all11, txs]
theorem piece11_le (r : Int) : (piece11 r).length ≤ 5 := by
  unfold piece11
  have h := fmod_bounds (a := r) (m := 20) (by decide)
  have hlt : (r.fmod 20).toNat < pieces11.length := by show _ < 20; omega
  have all : pieces11.all (fun y => decide ((cs y).length ≤ 5)) = true := by decide +kernel
  rw [List.getD_eq_getElem?_getD, List.getElem?_eq_getElem hlt]
  exact of_decide_eq_true (List.all_eq_true.mp all _ (List.getElem_mem hlt))
def ok11 (m : Nat) (σ : S11) : Prop := σ.1.length ≤ 15 ∧ ∀ t ∈ all11 σ, t.length ≤ 5 * m
theorem st11_ok {m : Nat} {σ : S11} (h : ok11 m σ) (x : Int) : ok11 (m + 1) (st11 σ x) := by
  obtain ⟨h1, h2⟩ := h
  have hl : σ.2.length ≤ 5 * m := h2 σ.2 (by simp [all11])
  have hp : ∀ t ∈ σ.1, t.length ≤ 5 * m := fun t ht => h2 t (by simp [all11, ht])
  unfold st11
  split
  · rename_i h
    simp only [Bool.and_eq_true, decide_eq_true_eq, Bool.and_true] at h
    refine ⟨by simp; omega, fun t ht => ?_⟩
    simp only [all11, List.mem_append, List.mem_singleton] at ht
    rcases ht with (ht | rfl) | rfl
    · have := hp t ht; omega
    · omega
    · rw [List.length_take]; omega
  · split
    · refine ⟨h1, fun t ht => ?_⟩
      simp only [all11, List.mem_append, List.mem_singleton] at ht
      rcases ht with ht | rfl
      · have := hp t ht; omega
      · rw [List.length_append]; have := piece11_le (x.fdiv 4); omega
    · refine ⟨h1, fun t ht => ?_⟩
      simp only [all11, List.mem_append, List.mem_singleton] at ht
      rcases ht with ht | rfl
      · have := hp t ht; omega
      · simp; omega
theorem run11_ok (ns : List Int) : ok11 ns.length (run11 ns) := by
  unfold run11
  have key : ∀ (ns : List Int) (m : Nat) (σ : S11), ok11 m σ → ok11 (m + ns.length) (ns.foldl st11 σ) := by
    intro ns
    induction ns with
    | nil => intro m σ h; exact h
    | cons x r ih =>
      intro m σ h
      have := ih (m + 1) _ (st11_ok h x)
      rw [List.foldl_cons, List.length_cons, show m + (r.length + 1) = m + 1 + r.length by omega]
      exact this
  have := key ns 0 ([], []) ⟨by simp, fun t ht => by simp [all11] at ht; subst ht; simp⟩
  rwa [Nat.zero_add] at this
theorem run11_snoc {ns : List Int} {i : Nat} {x : Int} (h : ns[i]? = some x) : run11 (ns.take (i + 1)) = st11 (run11 (ns.take i)) x := by
  unfold run11
  rw [List.take_add_one, h]
  simp
theorem fn_texts (dA : DefAt G a (fdOf (stOf pw 8) doc pm cdv ct) (bodyOf (stOf pw 8))) (hc : nsIn G.K mainGlobals "chr" = some none) (hlen : nsIn G.K mainGlobals "len" = some none) (ns : List Int) (hn : ns.length ≤ 63) : FnF G (n + 1) a [.list (ns.map .int)] (own11 (run11 ns)) := by
  refine fn_ofF (pre := (bodyOf (stOf pw 8)).take 3) (xr := "texts") (xs := ["script"]) dA rfl (fun vs h => ?_) rfl ?_ (by decide) fun L => ?_
  · match vs, h with
    | [v], _ => rfl
  · walk_at "params"
  have big : 100000 ≤ sizeLine := by decide
  walk_at "as"
  · decide
  refine exs_cons (ex_assign_own (ds := [.str (T [])]) (evs_more ev_str evs_nil rfl) (by show 1 ≤ sizeLine; decide) (.inl rfl) (then_next ?_))
  refine exs_cons ?_
  apply ex_forI (fun i => [("pieces", .val (.list (txs pieces11))), ("texts", .own (own11 (run11 (ns.take i))))])
  · walk_at "ev"
  · exact itr_list
  · exact sub_cons rfl (sub_cons rfl sub_nil)
  · intro i d hd
    obtain ⟨x, hx, rfl⟩ := at_map hd
    refine ⟨_, asg_name (.inl rfl), ?_⟩
    rw [run11_snoc hx]
    have hok := run11_ok (ns.take i)
    rw [List.length_take] at hok
    generalize run11 (ns.take i) = σ at hok
    obtain ⟨pre, last⟩ := σ
    obtain ⟨ho1, ho2⟩ := hok
    dsimp only at ho1
    have hlast : last.length ≤ 315 := by have := ho2 last (by simp [all11]); omega
    have hlo : (txs (pre.map T) ++ [D.str (T last)]).length ≤ 100000 := by simp; omega
    walk_at "as"
    have fin : ∀ (σ' : S11) (ρ' : Loc), st11 (pre, last) x = σ' → Sub [("pieces", .val (.list (txs pieces11))), ("texts", .own (own11 σ'))] ρ' → Sub [("pieces", .val (.list (txs pieces11))), ("texts", .own (own11 (st11 (pre, last) x)))] ρ' := fun σ' ρ' e h => by rw [e]; exact h
    refine exs_cons (ex_if (c := (x.fmod 4 == 0) && (decide (((pre.length + 1 : Nat) : Int) < 16) && true)) (tst_and (by walk_at "ev") fun _ => tst_and (tst_peek (x := "texts") (ds := txs (pre.map T) ++ [.str (T last)]) rfl (tst_cmp ?_ ev_int op_lt_int rfl)) fun _ => tst_and_nil) (fun h => ?_) fun h => ?_)
    · rw [show pre.length + 1 = (txs (pre.map T) ++ [D.str (T last)]).length by simp]
      exact ev_lenL (ev_name rfl rfl) hlo hlen rfl rfl
    · refine exs_cons (ex_append (.str (T (last.take ((x.fdiv 4).fmod ((last.length : Int) + 1)).toNat))) rfl ?_ (show (txs (pre.map T) ++ [D.str (T last)]).length ≤ sizeLine from Nat.le_trans hlo big) rfl rfl rfl rfl (then_next (exs_nil (then_next (exs_nil ?_)))))
      · refine ev_peek (x := "texts") (ds := txs (pre.map T) ++ [.str (T last)]) rfl ?_ rfl
        have hb := fmod_bounds (a := x.fdiv 4) (m := (last.length : Int) + 1) (by omega)
        refine ev_to (ev_last (ev_name rfl rfl) ev_m1) ?_ (by omega)
        rw [Int.toNat_of_nonneg hb.1]
        exact ev_binop (ev_name rfl rfl) (ev_binop (ev_len (ev_last (ev_name rfl rfl) ev_m1) (by omega) hlen rfl rfl) ev_int op_add_int) (op_mod_int (by omega))
      · refine fin (pre ++ [last], last.take ((x.fdiv 4).fmod ((last.length : Int) + 1)).toNat) _ ?_ ?_
        · exact if_pos h
        · rw [show own11 (pre ++ [last], last.take ((x.fdiv 4).fmod ((last.length : Int) + 1)).toNat) = txs (pre.map T) ++ [.str (T last)] ++ [.str (T (last.take ((x.fdiv 4).fmod ((last.length : Int) + 1)).toNat))] by simp [own11, txs]]
          exact sub_cons rfl (sub_cons rfl sub_nil)
    · refine exs_cons (ex_if (c := decide (x.fmod 4 < 3)) (by walk_at "ev") (fun h3 => ?_) fun h3 => ?_)
      · refine exs_cons (ex_auglast (ds := txs (pre.map T)) (d₀ := .str (T last)) (d₁ := .str (pieces11.getD ((x.fdiv 4).fmod 20).toNat Str.empty)) (d := .str (T (last ++ piece11 (x.fdiv 4)))) rfl ev_m1 ?_ ?_ rfl (fun _ _ _ => rfl) (then_next (exs_nil (then_next (exs_nil (then_next (exs_nil ?_)))))))
        · exact ev_sub (ev_name rfl rfl) (by walk_at "ev") (sb_menu rfl (by decide) (by decide))
        · rw [← T_append]
          refine op_iadd_str ?_
          have := piece11_le (x.fdiv 4)
          have e : (pieces11.getD ((x.fdiv 4).fmod 20).toNat Str.empty).length = (piece11 (x.fdiv 4)).length := by simp [piece11, cs, Str.length]
          rw [T_length, e]
          omega
        · refine fin (pre, last ++ piece11 (x.fdiv 4)) _ ?_ (sub_cons rfl (sub_cons rfl sub_nil))
          exact (if_neg (by rw [h]; decide)).trans (if_pos h3)
      · walk_at "as"
        refine exs_cons (ex_auglast (ds := txs (pre.map T)) (d₀ := .str (T last)) (d₁ := .str (T [(codeOf ((x.fdiv 4).fmod 1112064)).toNat])) (d := .str (T (last ++ [(codeOf ((x.fdiv 4).fmod 1112064)).toNat]))) rfl ev_m1 ?_ ?_ rfl (fun _ _ _ => rfl) (then_next (exs_nil (then_next (exs_nil (then_next (exs_nil ?_)))))))
        · refine ev_bf (evs_more (ev_ifint (c := decide ((x.fdiv 4).fmod 1112064 < 55296)) ?_ (fun _ => ev_name rfl rfl) fun _ => ?_) evs_nil rfl) (bf_chr (i := codeOf ((x.fdiv 4).fmod 1112064)) (codeOf_bounds _).1 (codeOf_bounds _).2) hc rfl rfl rfl rfl
          · walk_at "ev"
          · walk_at "ev"
        · rw [← T_append]
          refine op_iadd_str ?_
          rw [T_length, T_length]
          simp
          omega
        · refine fin (pre, last ++ [(codeOf ((x.fdiv 4).fmod 1112064)).toNat]) _ ?_ (sub_cons rfl (sub_cons rfl sub_nil))
          exact (if_neg (by rw [h]; decide)).trans (if_neg (by rw [h3]; decide))
  · intro ρ' hsub
    refine then_next (exs_nil ⟨rfl, ?_⟩)
    rw [List.length_map, List.take_length] at hsub
    exact hsub "texts" _ rfl
  · intro x; rfl
theorem fn_part (dA : DefAt G a (fdOf (stOf pw 9) doc pm cdv ct) (bodyOf (stOf pw 9))) (hlen : nsIn G.K mainGlobals "len" = some none) (hmin : nsIn G.K mainGlobals "min" = some none) (hr : nsIn G.K mainGlobals "range" = some none) (x y : List Nat) (hx : x.length ≤ 10000) (hy : y.length ≤ 10000) :
    Fn G (n + 2) a [.str (T x), .str (T y)] (optD (part11 x y)) := by
  refine fn_of (xs := ["one", "other"]) dA (fun vs h => ?_) rfl ?_ (by decide) fun L => ?_
  · match vs, h with
    | [v, u], _ => rfl
  · walk_at "params"
  refine exs_cons ?_
  apply ex_for (fun k ρ' => Sub [("one", .val (.str (T x))), ("other", .val (.str (T y)))] ρ' ∧ x.take k = y.take k) (d := .rng 0 ((min x.length y.length : Nat) : Int)) (ds := (List.range (min x.length y.length)).map fun (i : Nat) => D.int (i : Int))
  · exact ev_bt (evs_more (ev_bf (evs_more (ev_len (ev_name rfl rfl) (by omega) hlen rfl rfl) (evs_more (ev_len (ev_name rfl rfl) (by omega) hlen rfl rfl) evs_nil rfl) rfl) bf_minN hmin rfl rfl rfl rfl) evs_nil rfl) bt_range1 hr rfl rfl rfl rfl
  · exact itr_range (by omega) (by omega) (by omega)
  · exact ⟨sub_cons rfl (sub_cons rfl sub_nil), by simp⟩
  · rintro k d ρ' hd ⟨hsub, hk⟩
    obtain ⟨hlt, rfl⟩ := at_range hd
    refine ⟨_, asg_weaken hsub (asg_name (.inl rfl)), ?_⟩
    have h1 : x[k]? = some (x[k]'(by omega)) := by simp
    have h2 : y[k]? = some (y[k]'(by omega)) := by simp
    refine exs_cons (ex_if (c := ((⟨#[x[k]'(by omega)]⟩ : Str) != ⟨#[y[k]'(by omega)]⟩)) (tst_cmp (ev_at (ev_name rfl rfl) (ev_name rfl rfl) h1 (by omega)) (ev_at (ev_name rfl rfl) (ev_name rfl rfl) h2 (by omega)) op_ne_str rfl) (fun h => ?_) fun h => ?_)
    · refine exs_cons (ex_return (ev_name rfl rfl) ?_)
      have hne : x[k]'(by omega) ≠ y[k]'(by omega) := fun e => by rw [e] at h; simp at h
      show D.int (k : Int) = optD (part11 x y)
      rw [part_at hk h1 h2 hne]; rfl
    · refine exs_nil (then_next (exs_nil ⟨sub_cons rfl (sub_cons rfl sub_nil), ?_⟩))
      have he : x[k]'(by omega) = y[k]'(by omega) := by
        rw [bne_eq_false_iff_eq] at h
        have := congrArg (fun z : Str => z.cps.toList) h
        simpa using this
      rw [List.take_add_one, List.take_add_one, hk, h1, h2, he]
  · rintro ρ' ⟨hsub, hk⟩
    rw [List.length_map, List.length_range] at hk
    refine then_next (exs_weaken hsub ?_)
    refine exs_cons (ex_return (d := optD (part11 x y)) (ev_if_same (c := ((x.length : Int) == (y.length : Int))) (tst_cmp (ev_len (ev_name rfl rfl) (by omega) hlen rfl rfl) (ev_len (ev_name rfl rfl) (by omega) hlen rfl rfl) op_eq_int rfl) (fun h => ?_) fun h => ?_) rfl)
    · have h' : x.length = y.length := by have := beq_iff_eq.mp h; omega
      rw [part_end rfl hk, if_pos h']
      exact ev_none
    · have h' : ¬ x.length = y.length := fun e => by rw [e] at h; simp at h
      rw [part_end rfl hk, if_neg h']
      exact ev_bf (evs_more (ev_len (ev_name rfl rfl) (by omega) hlen rfl rfl) (evs_more (ev_len (ev_name rfl rfl) (by omega) hlen rfl rfl) evs_nil rfl) rfl) bf_minN hmin rfl rfl rfl rfl
  · intro x; rfl
end
end Mine
end
section
open PySem PySem.W PyProof.Rows
set_option linter.unusedVariables false
set_option maxRecDepth 100000
namespace Mine
local macro_rules | `(tactic| walk_at "ev1") => `(tactic| first
  | exact ev_int | exact ev_str | exact ev_bool | exact ev_none
  | exact ev_name rfl rfl
  | exact evs_nil
  | (apply evs_more; (case hs => exact rfl))
  | apply ev_binop | (apply ev_cmp; (case hm => exact rfl)) | apply ev_sub
  | apply ev_list | apply ev_tuple
  | (apply tst_cmp; (case hm => exact rfl)) | apply tst_not | exact tst_and_nil | exact tst_or_nil
  | exact op_add_int | exact op_sub_int | exact op_iadd_int | exact op_eq_int | exact op_ne_int | exact op_lt_int | exact op_gt_int | exact op_le_int | exact op_ge_int
  | exact op_eq_str | exact op_ne_str | exact op_in_str | exact op_notin_str | exact op_in_dict | exact op_notin_dict | exact op_ne_nil | exact op_eq_nil
  | exact op_fdiv_int (by decide) (PyProof.noPylong_of_log2 (by decide +kernel)) | exact op_mod_int (by decide)
  | apply op_add_str | apply op_iadd_str
  | exact tsts_nil | apply tsts_one)
local macro_rules | `(tactic| walk_at "ev") => `(tactic| repeat' walk_at "ev1")
local macro_rules | `(tactic| walk_at "can") => `(tactic| first | exact Or.inl rfl | exact Or.inr ⟨rfl, rfl, _, rfl⟩)
local macro_rules | `(tactic| walk_at "as") => `(tactic| (refine exs_cons ?_; apply ex_assign; (case hc => walk_at "can"); (case hs => exact rfl); (case' k => refine then_next ?_); (case' h => walk_at "ev")))
local macro_rules | `(tactic| walk_at "aug") => `(tactic| (refine exs_cons ?_; apply ex_aug; (case h₀ => exact rfl); (case hc => walk_at "can"); (case' k => refine then_next ?_); (case' ho => skip); (case' h => walk_at "ev"); (try walk_at "ev")))
local macro_rules | `(tactic| walk_at "if") => `(tactic| (refine exs_cons ?_; apply ex_if; (case' h => walk_at "ev")))
local macro_rules | `(tactic| walk_at "ret") => `(tactic| (refine exs_cons ?_; apply ex_return; (case' h => walk_at "ev")))
local macro_rules | `(tactic| walk_at "params") => `(tactic| (intro x hx; simp only [List.mem_cons, List.not_mem_nil, or_false] at hx; first
  | (subst hx; first | exact .inl rfl | exact .inr ⟨rfl, fun _ => rfl⟩)
  | (rcases hx with hx | hx <;> subst hx <;> first | exact .inl rfl | exact .inr ⟨rfl, fun _ => rfl⟩)
  | (rcases hx with hx | hx | hx <;> subst hx <;> first | exact .inl rfl | exact .inr ⟨rfl, fun _ => rfl⟩)))
local macro_rules | `(tactic| walk_at "esc") => `(tactic| (refine esc_step rfl (by decide +kernel : _ = (⟨#[_]⟩ : Str)) ?_ ?_ ?_ ?_ (by assumption) rfl (by walk_at "can") rfl ?_))

section
variable {G : Gnd} {n : Nat} {doc pm cdv ct : Value} {a : Addr}
set_option maxHeartbeats 4000000
theorem op_iadd_T {x y : List Nat} (h : x.length + y.length ≤ 100000) : Op2 G (inplaceOp .Add) (.str (T x)) (.str (T y)) (.str (T (x ++ y))) := by
  rw [← T_append]
  exact op_iadd_str (by rw [T_length, T_length]; have := big_line; omega)
theorem dget_tb_nil {tb : Tbl} : dget (tb.map fun p => T [p.1]) (tb.map fun p => D.str (T p.2)) (T []) = none := by
  unfold dget
  induction tb with
  | nil => rfl
  | cons p r ih =>
    simp only [List.map_cons, List.zip_cons_cons, List.lookup_cons]
    have e : (T [] == T [p.1]) = false := by rw [T_beq]; simp
    rw [e]; exact ih
theorem ev_spellO {env : Env} {ρ : Loc} {pos apos : Pos} {o x y : PySem.Expr} {tb : Tbl} {l : List Nat} (hl : l.length ≤ 1) (ho : Ev G env n ρ o (dD tb)) (ha : Ev G env n ρ x (.str (T l))) (hb : Ev G env n ρ y (.str (T l))) (h1 : isNameCall o = false) (h2 : isStarred x = false) (h3 : isStarred y = false) (hline : (apos.endLine == pos.line) = true) :
    Ev G env n ρ (.Call (.Attribute o "get" apos) [x, y] [] pos) (.str (T (spellO tb l))) := by
  cases l with
  | nil =>
    have := ev_get (pos := pos) ho ha hb h1 h2 h3 hline
    rw [dget_tb_nil] at this
    exact this
  | cons c r =>
    cases r with
    | nil => exact ev_spell ho ha hb h1 h2 h3 hline
    | cons d r => simp at hl
theorem spellO_take (tb : Tbl) (l : List Nat) (k : Nat) : spellO tb ((l.take (k + 1)).drop k) = spellO tb (l.drop k) := by
  rw [List.drop_take, Nat.add_sub_cancel_left]
  cases l.drop k with
  | nil => rfl
  | cons c r => rfl
def signs11 : List Nat := [38, 60, 62, 34, 13, 10, 9]
def prs11 (N : Nat) : List (Nat × Nat) := (List.range N).flatMap fun j => (List.range j).map fun i => (i, j)
theorem prs11_mem {N i j : Nat} (h : (i, j) ∈ prs11 N) : i < j ∧ j < N := by
  simp only [prs11, List.mem_flatMap, List.mem_map, List.mem_range] at h
  obtain ⟨y, hy, x, hx, e⟩ := h
  cases e
  exact ⟨hx, hy⟩
theorem prs11_len (N : Nat) : (prs11 N).length ≤ N * N := by
  have key : ∀ M, M ≤ N → ((List.range M).flatMap fun j => (List.range j).map fun i => (i, j)).length ≤ M * N := by
    intro M
    induction M with
    | zero => intro _; simp
    | succ M ih =>
      intro h
      rw [List.range_succ, List.flatMap_append, List.length_append, Nat.succ_mul]
      have := ih (by omega)
      have e : ([M].flatMap fun j => (List.range j).map fun i => (i, j)).length = M := by simp
      rw [e]
      omega
  exact key N (Nat.le_refl _)
theorem fn_law (dA : DefAt G a (fdOf (stOf pw 10) doc pm cdv ct) (bodyOf (stOf pw 10))) {at₀ ap a0 a1 a2 a3 a4 : Addr}
    (hr : nsIn G.K mainGlobals "range" = some none) (hlen : nsIn G.K mainGlobals "len" = some none)
    (gt : nsIn G.K mainGlobals "_law_texts" = some (some (.ref at₀))) (kt : keepIn G.K (.ref at₀) = true) (ft : ∀ ns : List Int, ns.length ≤ 63 → FnF G (n + 2) at₀ [.list (ns.map .int)] (own11 (run11 ns)))
    (gp : nsIn G.K mainGlobals "_law_part" = some (some (.ref ap))) (kp : keepIn G.K (.ref ap) = true) (fp : ∀ (x y : List Nat), x.length ≤ 10000 → y.length ≤ 10000 → Fn G (n + 2) ap [.str (T x), .str (T y)] (optD (part11 x y)))
    (g0 : nsIn G.K mainGlobals "_escape_cdata" = some (some (.ref a0))) (g1 : nsIn G.K mainGlobals "_escape_attrib" = some (some (.ref a1))) (g2 : nsIn G.K mainGlobals "_escape_attrib_html" = some (some (.ref a2)))
    (g3 : nsIn G.K mainGlobals "_escape_cdata_c14n" = some (some (.ref a3))) (g4 : nsIn G.K mainGlobals "_escape_attrib_c14n" = some (some (.ref a4)))
    (hH : ∀ h ∈ [(a0, cdataT), (a1, attribT), (a2, htmlT), (a3, cdataCT), (a4, attribCT)], keepIn G.K (.ref h.1) = true ∧ ∀ l : List Nat, l.length ≤ 100000 → Fn G (n + 2) h.1 [.str (T l)] (.str (T (escBy h.2 l))))
    (ns : List Int) (hn : ns.length ≤ 63) : Fn G (n + 3) a [.list (ns.map .int)] (.bool true) := by
  refine fn_of (xs := ["script"]) dA (fun vs h => ?_) rfl ?_ (by decide) fun L => ?_
  · match vs, h with
    | [v], _ => rfl
  · walk_at "params"
  have big : 100000 ≤ sizeLine := by decide
  obtain ⟨sc, hsc, hle⟩ : ∃ sc : List Int, sc = (if ns.isEmpty then (List.range 63).map (fun (k : Nat) => 1 + 23 * (k : Int)) else ns) ∧ sc.length ≤ 63 := by
    refine ⟨_, rfl, ?_⟩
    cases ns with
    | nil => decide
    | cons x r => exact hn
  refine exs_if_join [("script", .val (.list (sc.map .int)))] (c := (ns.map D.int).isEmpty) ?_ ?_ ?_ ?_
  · walk_at "ev"
    decide
  · have hok := run11_ok sc
    refine exs_cons (ex_assign_callF (ev_glob gt rfl rfl) (evs_more (ev_name rfl rfl) evs_nil rfl) kt (ft sc hle) rfl rfl (by walk_at "can") rfl (then_next ?_))
    generalize run11 sc = σ at hok
    obtain ⟨pre, last⟩ := σ
    obtain ⟨ho1, ho2⟩ := hok
    dsimp only at ho1
    have hlast : last.length ≤ 315 := by have := ho2 last (by simp [all11]); omega
    have hsg : ("&<>\"\r\n\t" : Str) = T signs11 := by decide +kernel
    refine exs_cons (ex_aug_own (x := "texts") (ds := own11 (pre, last)) (es := txs ((signs11.map fun c => last ++ [c]).map T)) rfl ?_ ?_ ?_ rfl (by walk_at "can") (then_next ?_))
    · refine ev_listcomp (ρc := [("texts", .val (.list (txs (pre.map T) ++ [.str (T last)])))]) (cl := [("texts", _)]) (d := .str (T signs11)) (ds := signs11.map fun c => .str ⟨#[c]⟩) ⟨rfl, by decide, by decide, rfl, cells_cons rfl cells_nil, cap_cons rfl rfl rfl rfl cap_nil⟩ rfl (fun _ => rfl) ?_ itr_str ?_ ?_
      · rw [← hsg]; exact ev_str
      · intro C
        rw [txs, List.map_map, List.map_map, map_one]
        refine comp1 (xs := signs11) (mk := fun c => D.str ⟨#[c]⟩) fun c _ => ⟨_, true, asg_name (.inl rfl), sub_upd rfl, tsts_nil, (fun h => nomatch h), fun _ => ⟨_, ev_cat (x := last) (y := [c]) (ev_last (ev_name rfl rfl) ev_m1) (ev_name rfl rfl) (by simp; omega), rfl⟩⟩
      · simp [signs11]; omega
    · rw [List.all_eq_true]
      intro d hd
      obtain ⟨x, _, rfl⟩ := List.mem_map.mp hd
      rfl
    · simp [own11, signs11]; omega
    refine exs_freeze (x := "texts") rfl ?_
    have etx : own11 (pre, last) ++ txs ((signs11.map fun c => last ++ [c]).map T) = txs ((all11 (pre, last) ++ signs11.map fun c => last ++ [c]).map T) := by
      rw [own11_eq]; simp [txs]
    rw [etx]
    have htx1 : (all11 (pre, last) ++ signs11.map fun c => last ++ [c]).length ≤ 30 := by simp [all11, signs11]; omega
    have htx2 : ∀ t ∈ (all11 (pre, last) ++ signs11.map fun c => last ++ [c]), t.length ≤ 320 := by
      intro t ht
      rcases List.mem_append.mp ht with h | h
      · have := ho2 t h; omega
      · obtain ⟨c, _, rfl⟩ := List.mem_map.mp h
        simp; omega
    generalize (all11 (pre, last) ++ signs11.map fun c => last ++ [c]) = tx at htx1 htx2
    have eA : strDict sA = dD attribT := strDict_eq (by decide +kernel)
    have eC : strDict sC = dD cdataT := strDict_eq (by decide +kernel)
    have eH : strDict sH = dD htmlT := strDict_eq (by decide +kernel)
    have eCC : strDict sCC = dD cdataCT := strDict_eq (by decide +kernel)
    have eAC : strDict sAC = dD attribCT := strDict_eq (by decide +kernel)
    refine exs_cons (ex_assign (d := .list [.tup [.fn a0, strDict sC], .tup [.fn a1, strDict sA], .tup [.fn a2, strDict sH], .tup [.fn a3, strDict sCC], .tup [.fn a4, strDict sAC]]) ?_ (.inl rfl) rfl (then_next ?_))
    · refine ev_list (evs_more (ev_tuple (evs_more (ev_glob g0 rfl rfl) (evs_more ?_ evs_nil rfl) rfl) (by show 2 ≤ sizeLine; decide)) (evs_more (ev_tuple (evs_more (ev_glob g1 rfl rfl) (evs_more ?_ evs_nil rfl) rfl) (by show 2 ≤ sizeLine; decide))
        (evs_more (ev_tuple (evs_more (ev_glob g2 rfl rfl) (evs_more ?_ evs_nil rfl) rfl) (by show 2 ≤ sizeLine; decide)) (evs_more (ev_tuple (evs_more (ev_glob g3 rfl rfl) (evs_more ?_ evs_nil rfl) rfl) (by show 2 ≤ sizeLine; decide))
        (evs_more (ev_tuple (evs_more (ev_glob g4 rfl rfl) (evs_more ?_ evs_nil rfl) rfl) (by show 2 ≤ sizeLine; decide)) evs_nil rfl) rfl) rfl) rfl) rfl) (by show 5 ≤ sizeLine; decide)
      · exact ev_dict (r := sC) (by repeat' constructor) (by decide) (by decide) (by decide +kernel)
      · exact ev_dict (r := sA) (by repeat' constructor) (by decide) (by decide) (by decide +kernel)
      · exact ev_dict (r := sH) (by repeat' constructor) (by decide) (by decide) (by decide +kernel)
      · exact ev_dict (r := sCC) (by repeat' constructor) (by decide) (by decide) (by decide +kernel)
      · exact ev_dict (r := sAC) (by repeat' constructor) (by decide) (by decide) (by decide +kernel)
    rw [eA, eC, eH, eCC, eAC]
    have hPC : ∀ h ∈ [(a0, cdataT), (a1, attribT), (a2, htmlT), (a3, cdataCT), (a4, attribCT)], PC h.2 := by
      intro h hm
      simp only [List.mem_cons, List.not_mem_nil, or_false] at hm
      rcases hm with hm | hm | hm | hm | hm <;> subst hm <;> refine ⟨?_⟩ <;> dsimp only <;> decide +kernel
    have e0 : D.list [.tup [.fn a0, dD cdataT], .tup [.fn a1, dD attribT], .tup [.fn a2, dD htmlT], .tup [.fn a3, dD cdataCT], .tup [.fn a4, dD attribCT]] = .list ([(a0, cdataT), (a1, attribT), (a2, htmlT), (a3, cdataCT), (a4, attribCT)].map fun h => .tup [.fn h.1, dD h.2]) := rfl
    rw [e0]
    clear e0 eA eC eH eCC eAC
    generalize [(a0, cdataT), (a1, attribT), (a2, htmlT), (a3, cdataCT), (a4, attribCT)] = hs at hH hPC
    refine exs_weaken (ρ := [("texts", .val (.list (txs (tx.map T)))), ("writers", .val (.list (hs.map fun h => .tup [.fn h.1, dD h.2])))]) (sub_cons rfl (sub_cons rfl sub_nil)) ?_
    refine exs_cons ?_
    apply ex_forI (fun _ => [("texts", .val (.list (txs (tx.map T)))), ("writers", .val (.list (hs.map fun h => .tup [.fn h.1, dD h.2])))])
    · exact ev_name rfl rfl
    · exact itr_list
    · exact Sub.same
    · intro i d hd
      obtain ⟨⟨ae, tb⟩, hm, rfl⟩ := at_map hd
      have hmem := List.mem_of_getElem? hm
      obtain ⟨ke, fe⟩ := hH _ hmem
      have hP := hPC _ hmem
      dsimp only at ke fe hP ⊢
      have h8 : tb.all (fun p => decide (p.2.length ≤ 8)) = true := by
        rw [List.all_eq_true]
        intro p hp
        have h0 := hP.ok
        unfold pcode at h0
        rw [Bool.and_eq_true] at h0
        have := List.all_eq_true.mp h0.1 p hp
        rw [Bool.and_eq_true] at this
        exact this.2
      refine ⟨_, asg_tuple (asgs_cons (asg_name (by walk_at "can")) (asgs_cons (asg_name (by walk_at "can")) asgs_nil rfl) rfl), ?_⟩
      refine exs_cons (ex_assign_comp (ρc := [("writer", .val (.fn ae))]) (cl := [("writer", _)]) (d := .list (txs (tx.map T))) (out := txs ((tx.map (escBy tb)).map T)) ⟨rfl, by decide, by decide, rfl, cells_cons rfl cells_nil, cap_cons rfl rfl rfl rfl cap_nil⟩ rfl (fun _ => rfl) rfl (ev_name rfl rfl) itr_list ?_ ?_ (.inl rfl) (then_next ?_))
      · intro C
        have e1 : txs (tx.map T) = tx.map fun t => D.str (T t) := by rw [txs, List.map_map]; rfl
        have e2 : txs ((tx.map (escBy tb)).map T) = tx.flatMap fun t => [D.str (T (escBy tb t))] := by rw [txs, List.map_map, List.map_map, map_one]; rfl
        rw [e1, e2]
        refine comp1 (xs := tx) (mk := fun t => D.str (T t)) fun t ht => ⟨_, true, asg_name (.inl rfl), sub_upd rfl, tsts_nil, (fun h => nomatch h), fun _ => ⟨_, ev_call (ev_name rfl rfl) (evs_more (ev_name rfl rfl) evs_nil rfl) ke (fe t (by have := htx2 t ht; omega)) rfl rfl, rfl⟩⟩
      · simp; omega
      refine exs_cons ?_
      apply ex_forI (fun _ => [("texts", .val (.list (txs (tx.map T)))), ("writers", .val (.list (hs.map fun h => .tup [.fn h.1, dD h.2]))), ("spelling", .val (dD tb)), ("rows", .val (.list (txs ((tx.map (escBy tb)).map T))))]) (d := .list ((prs11 tx.length).map fun p => .tup [.int (p.1 : Int), .int (p.2 : Int)]))
      · refine ev_listcomp (ρc := []) (cl := []) (d := .rng 0 (tx.length : Int)) (ds := (List.range tx.length).map fun (j : Nat) => D.int (j : Int)) ⟨rfl, by decide, by decide, rfl, cells_nil, cap_nil⟩ rfl (fun _ => rfl) ?_ (itr_range (by omega) (by omega) (by omega)) ?_ ?_
        · have e : tx.length = (txs (tx.map T)).length := by simp
          refine ev_bt (evs_more ?_ evs_nil rfl) bt_range1 hr rfl rfl rfl rfl
          rw [e]
          exact ev_lenL (ev_name rfl rfl) (by rw [← e]; omega) hlen rfl rfl
        · intro C
          have e : (prs11 tx.length).map (fun p => D.tup [.int (p.1 : Int), .int (p.2 : Int)]) = (List.range tx.length).flatMap fun j => (List.range j).flatMap fun (i : Nat) => [D.tup [.int (i : Int), .int (j : Int)]] := by
            unfold prs11
            rw [List.map_flatMap]
            congr 1
            funext j
            rw [List.map_map, map_one]
            rfl
          rw [e]
          refine comp2a (fun _ => rfl) fun j hj => ⟨_, true, asg_name (.inl rfl), sub_nil, tsts_nil, (fun h => nomatch h), fun _ => ⟨.rng 0 (j : Int), _, ev_bt (evs_more (ev_name rfl rfl) evs_nil rfl) bt_range1 hr rfl rfl rfl rfl, itr_range (m := j) (by omega) (by omega) ?_, ?_⟩⟩
          · have := List.mem_range.mp hj; omega
          · exact comp2b (xs := List.range j) (mk := fun (i : Nat) => D.int (i : Int)) (F := fun (i : Nat) => [D.tup [.int (i : Int), .int (j : Int)]]) fun i _ => ⟨_, true, asg_name (.inl rfl), sub_upd rfl, tsts_nil, (fun h => nomatch h), fun _ => ⟨_, ev_tuple (evs_more (ev_name rfl rfl) (evs_more (ev_name rfl rfl) evs_nil rfl) rfl) (by show 2 ≤ sizeLine; decide), rfl⟩⟩
        · rw [List.length_map]
          have := prs11_len tx.length
          have : tx.length * tx.length ≤ 30 * 30 := Nat.mul_le_mul htx1 htx1
          omega
      · exact itr_list
      · exact sub_cons rfl (sub_cons rfl (sub_cons rfl (sub_cons rfl sub_nil)))
      · intro q d hd
        obtain ⟨⟨i, j⟩, hq, rfl⟩ := at_map hd
        obtain ⟨hij, hj⟩ := prs11_mem (List.mem_of_getElem? hq)
        obtain ⟨x, hx⟩ : ∃ x, tx[i]? = some x := ⟨tx[i]'(by omega), by simp⟩
        obtain ⟨y, hy⟩ : ∃ y, tx[j]? = some y := ⟨tx[j]'(by omega), by simp⟩
        have hxl := htx2 x (List.mem_of_getElem? hx)
        have hyl := htx2 y (List.mem_of_getElem? hy)
        have hex : (tx.map (escBy tb))[i]? = some (escBy tb x) := by rw [List.getElem?_map, hx]; rfl
        have hey : (tx.map (escBy tb))[j]? = some (escBy tb y) := by rw [List.getElem?_map, hy]; rfl
        have hxe := esc_le (m := 8) (by decide) h8 x
        have hye := esc_le (m := 8) (by decide) h8 y
        have hml : (tx.map (escBy tb)).length ≤ 100000 := by rw [List.length_map]; omega
        dsimp only
        refine ⟨_, asg_tuple (asgs_cons (asg_name (.inl rfl)) (asgs_cons (asg_name (.inl rfl)) asgs_nil rfl) rfl), ?_⟩
        refine exs_cons (ex_assign (ev_call (ev_glob gp rfl rfl) (evs_more (ev_txt (ev_name rfl rfl) (ev_name rfl rfl) hx (by omega)) (evs_more (ev_txt (ev_name rfl rfl) (ev_name rfl rfl) hy (by omega)) evs_nil rfl) rfl) kp (fp x y (by omega) (by omega)) rfl rfl) (.inl rfl) rfl (then_next ?_))
        have htk : (takeO x (part11 x y)).length ≤ x.length := by
          cases part11 x y with
          | none => exact Nat.le_refl _
          | some k => exact List.length_take_le' _ _
        refine exs_cons (ex_assign (d := .str (T (escBy tb (takeO x (part11 x y))))) ?_ (.inl rfl) rfl (then_next ?_))
        · have ej : Txt.join Str.empty ((takeO x (part11 x y)).map fun c => T (spell tb c)) = T (escBy tb (takeO x (part11 x y))) := by
            have := join_flatT ((takeO x (part11 x y)).map fun c => spell tb c)
            rw [List.map_map] at this
            exact this
          rw [← ej]
          refine ev_meth (ds := [.list (txs ((takeO x (part11 x y)).map fun c => T (spell tb c)))]) ev_str (evs_more ?_ evs_nil rfl) (getm_str F.slot_str_join F.type_str_join) (bf_join (joinOk_of (m := 8) (fun z hz => ?_) ?_)) rfl rfl (by decide) rfl
          · refine ev_listcomp (ρc := [("spelling", .val (dD tb))]) (cl := [("spelling", _)]) (d := .str (T (takeO x (part11 x y)))) (ds := (takeO x (part11 x y)).map fun c => .str ⟨#[c]⟩) ⟨rfl, by decide, by decide, rfl, cells_cons rfl cells_nil, cap_cons rfl rfl rfl rfl cap_nil⟩ rfl (fun _ => rfl) (ev_toO (ev_txt (ev_name rfl rfl) (ev_name rfl rfl) hx (by omega)) (ev_name rfl rfl) (by omega)) itr_str ?_ ?_
            · intro C
              have e : txs ((takeO x (part11 x y)).map fun c => T (spell tb c)) = (takeO x (part11 x y)).flatMap fun c => [D.str (T (spell tb c))] := by rw [txs, List.map_map, map_one]; rfl
              rw [e]
              refine comp1 (xs := takeO x (part11 x y)) (mk := fun c => D.str ⟨#[c]⟩) (F := fun c => [D.str (T (spell tb c))]) fun c _ => ⟨_, true, asg_name (.inl rfl), sub_upd rfl, tsts_nil, (fun h => nomatch h), fun _ => ⟨.str (T (spell tb c)), ?_, rfl⟩⟩
              exact ev_spell (ev_name rfl rfl) (ev_name rfl rfl) (ev_name rfl rfl) rfl rfl rfl rfl
            · rw [List.length_map, List.length_map]; omega
          · obtain ⟨c, _, rfl⟩ := List.mem_map.mp hz
            rw [T_length]
            exact spell_le (by decide) h8 c
          · rw [List.length_map]
            show _ * (8 + 0) ≤ _
            omega
        cases hk : part11 x y with
        | none =>
          have hxy := part_none hk
          subst hxy
          refine exs_cons (ex_if (c := true) (tst_cmp (ev_name rfl rfl) ev_none (op_is_none rfl) rfl) (fun _ => ?_) fun h => nomatch h)
          refine exs_cons (ex_if (c := (T (escBy tb x) != T (escBy tb x)) || ((T (escBy tb x) != T (escBy tb x)) || false)) (tst_or (tst_cmp (ev_txt (ev_name rfl rfl) (ev_name rfl rfl) hex hml) (ev_name rfl rfl) op_ne_str rfl) fun _ => tst_or (tst_cmp (ev_txt (ev_name rfl rfl) (ev_name rfl rfl) hey hml) (ev_name rfl rfl) op_ne_str rfl) fun _ => tst_or_nil) (fun h => by simp at h) fun _ => exs_nil (then_next ?_))
          refine exs_cons (ex_continue ?_)
          exact sub_cons rfl (sub_cons rfl (sub_cons rfl (sub_cons rfl sub_nil)))
        | some k =>
          obtain ⟨m, hm1, hm2, hm3, hm4, hm5⟩ := law11 hP hk
          refine exs_cons (ex_if (c := false) (tst_cmp (ev_name rfl rfl) ev_none (op_is_none rfl) rfl) (fun h => nomatch h) fun _ => exs_nil (then_next ?_))
          have hs1 : ((x.take (k + 1)).drop k).length ≤ 1 := by rw [List.length_drop, List.length_take]; omega
          have hs2 : ((y.take (k + 1)).drop k).length ≤ 1 := by rw [List.length_drop, List.length_take]; omega
          have cutE : ∀ {env : Env} {ρ : Loc} {v e e' : PySem.Expr} {sp pos : Pos} {z : List Nat}, Ev G env (n + 2) ρ v (.str (T z)) → Ev G env (n + 2) ρ e (.int (k : Int)) → Ev G env (n + 2) ρ e' (.int ((k + 1 : Nat) : Int)) → z.length ≤ 100000 → Ev G env (n + 2) ρ (.Subscript v (.Slice (some e) (some e') none sp) pos) (.str (T ((z.take (k + 1)).drop k))) := fun h1 h2 h3 h4 => ev_cut h1 h2 h3 h4
          refine exs_cons (ex_assign (ev_spellO hs1 (ev_name rfl rfl) (cutE (ev_txt (ev_name rfl rfl) (ev_name rfl rfl) hx (by omega)) (ev_name rfl rfl) (ev_plus1 (m := 1) (ev_name rfl rfl)) (by omega)) (cutE (ev_txt (ev_name rfl rfl) (ev_name rfl rfl) hx (by omega)) (ev_name rfl rfl) (ev_plus1 (m := 1) (ev_name rfl rfl)) (by omega)) rfl rfl rfl rfl) (.inl rfl) rfl (then_next ?_))
          refine exs_cons (ex_assign (ev_spellO hs2 (ev_name rfl rfl) (cutE (ev_txt (ev_name rfl rfl) (ev_name rfl rfl) hy (by omega)) (ev_name rfl rfl) (ev_plus1 (m := 1) (ev_name rfl rfl)) (by omega)) (cutE (ev_txt (ev_name rfl rfl) (ev_name rfl rfl) hy (by omega)) (ev_name rfl rfl) (ev_plus1 (m := 1) (ev_name rfl rfl)) (by omega)) rfl rfl rfl rfl) (.inl rfl) rfl (then_next ?_))
          rw [spellO_take, spellO_take]
          have so : ∀ z : List Nat, (spellO tb z).length ≤ 8 := by
            intro z
            cases z with
            | nil => exact Nat.zero_le _
            | cons c r => exact spell_le (by decide) h8 c
          have so1 := so (x.drop k)
          have so2 := so (y.drop k)
          have hfp := fp (spellO tb (x.drop k)) (spellO tb (y.drop k)) (by omega) (by omega)
          rw [hm1] at hfp
          have hfr := fp (escBy tb x) (escBy tb y) (by omega) (by omega)
          rw [hm4] at hfr
          show Exs _ _ _ (_ :: _ :: ("due", .val (.str (T (escBy tb (x.take k))))) :: _) _ _
          have hdl : (escBy tb (x.take k)).length ≤ 8 * 320 := by
            have := esc_le (m := 8) (by decide) h8 (x.take k)
            have := List.length_take_le' k x
            omega
          refine exs_cons (ex_aug (d₀ := .str (T (escBy tb (x.take k)))) (d₁ := .str (T ((spellO tb (x.drop k)).take m))) rfl (ev_toO (o := some m) (ev_name rfl rfl) (ev_call (ev_glob gp rfl rfl) (evs_more (ev_name rfl rfl) (evs_more (ev_name rfl rfl) evs_nil rfl) rfl) kp hfp rfl rfl) (by omega)) (op_iadd_T (by rw [List.length_take]; omega)) (.inl rfl) (then_next ?_))
          have hdu : (escBy tb (x.take k) ++ (spellO tb (x.drop k)).take m).length ≤ 5000 := by rw [List.length_append, List.length_take]; omega
          generalize escBy tb (x.take k) ++ (spellO tb (x.drop k)).take m = due at hm2 hm3 hm4 hfr hdu
          refine exs_cons (ex_if (c := (T due != T due) || ((T due != T due) || false)) (tst_or (tst_cmp (d₁ := .str (T due)) ?_ (ev_name rfl rfl) op_ne_str rfl) fun _ => tst_or (tst_cmp (d₁ := .str (T due)) ?_ (ev_name rfl rfl) op_ne_str rfl) fun _ => tst_or_nil) (fun h => by simp at h) fun _ => exs_nil (then_next ?_))
          · conv => arg 6; rw [← hm2]
            exact ev_to (ev_txt (ev_name rfl rfl) (ev_name rfl rfl) hex hml) (ev_len (ev_name rfl rfl) (by omega) hlen rfl rfl) (by omega)
          · conv => arg 6; rw [← hm3]
            exact ev_to (ev_txt (ev_name rfl rfl) (ev_name rfl rfl) hey hml) (ev_len (ev_name rfl rfl) (by omega) hlen rfl rfl) (by omega)
          refine exs_cons (ex_if (c := ((due.length : Int) != (due.length : Int)) || ((decide (escBy tb x < escBy tb y) != decide (spellO tb (x.drop k) < spellO tb (y.drop k))) || false)) (tst_or (tst_cmp (ev_call (ev_glob gp rfl rfl) (evs_more (ev_txt (ev_name rfl rfl) (ev_name rfl rfl) hex hml) (evs_more (ev_txt (ev_name rfl rfl) (ev_name rfl rfl) hey hml) evs_nil rfl) rfl) kp hfr rfl rfl) (ev_len (ev_name rfl rfl) (by omega) hlen rfl rfl) op_ne_int rfl) fun _ => tst_or (tst_cmp (ev_cmp (ev_txt (ev_name rfl rfl) (ev_name rfl rfl) hex hml) (ev_txt (ev_name rfl rfl) (ev_name rfl rfl) hey hml) op_lt_T rfl) (ev_cmp (ev_name rfl rfl) (ev_name rfl rfl) op_lt_T rfl) op_ne_bool rfl) fun _ => tst_or_nil) (fun h => ?_) fun _ => exs_nil (then_next (exs_nil ?_)))
          · exfalso
            have : decide (escBy tb x < escBy tb y) = decide (spellO tb (x.drop k) < spellO tb (y.drop k)) := decide_eq_decide.mpr hm5
            rw [this] at h
            simp at h
          · exact sub_cons rfl (sub_cons rfl (sub_cons rfl (sub_cons rfl sub_nil)))
      · intro ρ' hsub
        refine then_next (exs_nil ?_)
        exact (sub_cons rfl (sub_cons rfl sub_nil) : Sub _ [("texts", .val (.list (txs (tx.map T)))), ("writers", .val (.list (hs.map fun h => .tup [.fn h.1, dD h.2]))), ("spelling", .val (dD tb)), ("rows", .val (.list (txs ((tx.map (escBy tb)).map T))))]).trans hsub
      · intro x; rfl
    · intro ρ' hsub
      refine then_next ?_
      walk_at "ret"
      rfl
    · intro x; rfl
  · intro h
    rw [List.isEmpty_map] at h
    rw [hsc, if_pos h]
    refine exs_cons (ex_assign_comp (ρc := []) (cl := []) (d := .rng 0 63) (ds := (List.range 63).map fun (k : Nat) => D.int (k : Int)) (out := ((List.range 63).map fun (k : Nat) => 1 + 23 * (k : Int)).map .int) ⟨rfl, by decide, by decide, rfl, cells_nil, cap_nil⟩ rfl (fun _ => rfl) rfl (ev_bt (evs_more ev_int evs_nil rfl) bt_range1 hr rfl rfl rfl rfl) (itr_range rfl (by decide) (by decide)) ?_ (by simp; omega) (.inl rfl) (then_next (exs_nil ?_)))
    · intro C
      rw [List.map_map, map_one]
      exact comp1 (xs := List.range 63) (mk := fun (k : Nat) => D.int (k : Int)) fun k _ => ⟨_, true, asg_name (.inl rfl), sub_nil, tsts_nil, (fun h => nomatch h), fun _ => ⟨_, ev_binop ev_int (ev_binop ev_int (ev_name rfl rfl) (op_mul_int (mulOk_small_int (by decide +kernel)))) op_add_int, rfl⟩⟩
    · exact sub_cons rfl sub_nil
  · intro h
    rw [List.isEmpty_map] at h
    rw [hsc, if_neg (by rw [h]; decide)]
    exact exs_nil (sub_cons rfl sub_nil)
end
end Mine
end
open PySem PySem.W PySem.W.X PySem.W.ZRun PyProof.Rows
set_option maxRecDepth 100000
set_option maxHeartbeats 0
theorem PySem.Challenge.cw_dn0275_11_holds : PySem.Challenge.rw_dn0275_11.Holds := by
  w_on; o_law; z_head
  (case hw => w_witness2)
  k_fill
  intro w s₀ s₁ mg mb G y fa o pm cd doc dV kV ho hd hcd hD hmg hg args vals as L hpre hlay hrd hwl hlo
  z_open y L KX ZH ZN ZT
  refine Ground.open G ?_
  intro T B D TE TW
  wrow_args hpre hlay hrd hwl hlo
  obtain ⟨hat, hsz⟩ := script_at L
  have htk := script_toks L ZT
  rw [ZN] at hat hsz
  subst hat
  x_fa T KX hmg
  all_lens
  clear hcd hd hD ho
  refine Mine.finish (n := 3) (p := _) KX (topRead_of T) rfl hg (Nat.lt_of_lt_of_le (by decide) htk) (script_obj L (by assumption)) (by assumption) (fun _ => rfl) ?_ (by decide) fun nb => ?_
  · wrow_post
  refine Mine.fn_law (n := 0) (doc := _) (pm := _) (cdv := _) (ct := _) ⟨⟨_, rfl, rfl⟩, rfl, rfl, rfl, rfl, rfl, rfl, rfl, rfl⟩ rfl rfl
    rfl rfl (fun ns hn => Mine.fn_texts (doc := _) (pm := _) (cdv := _) (ct := _) ⟨⟨_, rfl, rfl⟩, rfl, rfl, rfl, rfl, rfl, rfl, rfl, rfl⟩ rfl rfl ns hn)
    rfl rfl (fun x y hx hy => Mine.fn_part (doc := _) (pm := _) (cdv := _) (ct := _) ⟨⟨_, rfl, rfl⟩, rfl, rfl, rfl, rfl, rfl, rfl, rfl, rfl⟩ rfl rfl rfl x y hx hy)
    rfl rfl rfl rfl rfl
    ?_ _ (by omega)
  intro h hm
  simp only [List.mem_cons, List.not_mem_nil, or_false] at hm
  rcases hm with hm | hm | hm | hm | hm <;> subst hm
  · exact ⟨rfl, Mine.fn_cdata (doc := _) (pm := _) (cdv := _) (ct := _) ⟨⟨_, rfl, rfl⟩, rfl, rfl, rfl, rfl, rfl, rfl, rfl, rfl⟩⟩
  · exact ⟨rfl, Mine.fn_attrib (doc := _) (pm := _) (cdv := _) (ct := _) ⟨⟨_, rfl, rfl⟩, rfl, rfl, rfl, rfl, rfl, rfl, rfl, rfl⟩⟩
  · exact ⟨rfl, Mine.fn_html (doc := _) (pm := _) (cdv := _) (ct := _) ⟨⟨_, rfl, rfl⟩, rfl, rfl, rfl, rfl, rfl, rfl, rfl, rfl⟩⟩
  · exact ⟨rfl, Mine.fn_cdataC (doc := _) (pm := _) (cdv := _) (ct := _) ⟨⟨_, rfl, rfl⟩, rfl, rfl, rfl, rfl, rfl, rfl, rfl, rfl⟩⟩
  · exact ⟨rfl, Mine.fn_attribC (doc := _) (pm := _) (cdv := _) (ct := _) ⟨⟨_, rfl, rfl⟩, rfl, rfl, rfl, rfl, rfl, rfl, rfl, rfl⟩⟩
