import PyProof.Rows.All
import Wide.All
import OpenK.AllK
import Wide.FinOn
import PySem.Challenge.RW_zo0005_01
set_option Elab.async false

-- Hd
section
open PySem PySem.W PyProof.Rows
namespace Mine
set_option maxRecDepth 100000 in
set_option maxHeartbeats 8000000 in
open_top hd for PySem.Challenge.rw_zo0005_01
end Mine
end

-- C1
section
open PySem PySem.W PyProof.Rows
namespace Mine

/- a part of a heap: what stands and will not be turned any more -/
noncomputable abbrev PM := Addr → Option Obj
noncomputable def Le (g g' : PM) : Prop := ∀ b o, g b = some o → g' b = some o
theorem Le.refl (g : PM) : Le g g := fun _ _ e => e
theorem Le.trans {a b c : PM} (x : Le a b) (y : Le b c) : Le a c := fun p o e => y p o (x p o e)

/- a kind of Python value, told by a Lean type -/
structure Ty (α : Type) where
  rep : PM → Value → α → Prop
  mono : ∀ {g g' : PM} {v : Value} {x : α}, Le g g' → rep g v x → rep g' v x

/- the program and the facts of the module's top -/
structure Pg where
  prog : Program
  w : World
  h₀ : Heap
  K : Frag
  mg : Str → Option Value
  mb : Str → Option Value
  p : Program
  loose : List Str
  kin : K.In h₀
  top : TopRead p loose mg mb h₀
  X : Flt.MathXP p mg h₀

structure StR (M : Pg) (g : PM) (P : List (Addr × Obj)) (h : Heap) : Prop where
  base : ∀ b o, M.h₀.get? b = some o → g b = some o
  keep : ∀ b o, g b = some o → h.get? b = some o
  priv : ∀ p ∈ P, h.get? p.1 = some p.2 ∧ g p.1 = none
  nd : (P.map (·.1)).Nodup

noncomputable def PM.put (g : PM) (a : Addr) (o : Obj) : PM := fun b => if b = a then some o else g b
theorem PM.put_self {g : PM} {a : Addr} {o : Obj} : g.put a o a = some o := by simp [PM.put]
theorem PM.put_ne {g : PM} {a b : Addr} {o : Obj} (h : b ≠ a) : g.put a o b = g b := by simp [PM.put, h]
theorem PM.le_put {g : PM} {a : Addr} {o : Obj} (h : g a = none) : Le g (g.put a o) := fun b o' e => by
  by_cases hb : b = a
  · subst hb; rw [h] at e; cases e
  · rw [PM.put_ne hb]; exact e

/- one object of the private list turned -/
noncomputable def updP (P : List (Addr × Obj)) (a : Addr) (o : Obj) : List (Addr × Obj) := P.map fun p => if p.1 = a then (a, o) else p
theorem updP_fst (P : List (Addr × Obj)) (a : Addr) (o : Obj) : (updP P a o).map (·.1) = P.map (·.1) := by
  unfold updP
  rw [List.map_map]
  refine List.map_congr_left fun p _ => ?_
  simp only [Function.comp]
  split
  · rename_i h; exact h.symm
  · rfl
theorem mem_updP_ne {P : List (Addr × Obj)} {a b : Addr} {o o' : Obj} (h : b ≠ a) (hm : (b, o') ∈ P) : (b, o') ∈ updP P a o :=
  List.mem_map.mpr ⟨_, hm, by simp [h]⟩
theorem mem_updP_self {P : List (Addr × Obj)} {a : Addr} {o o' : Obj} (hm : (a, o') ∈ P) : (a, o) ∈ updP P a o :=
  List.mem_map.mpr ⟨_, hm, by simp⟩
theorem updP_append (P Q : List (Addr × Obj)) (a : Addr) (o : Obj) : updP (P ++ Q) a o = updP P a o ++ updP Q a o := List.map_append ..
theorem updP_not_mem {P : List (Addr × Obj)} {a : Addr} {o : Obj} (h : a ∉ P.map (·.1)) : updP P a o = P := by
  unfold updP
  conv => rhs; rw [← List.map_id P]
  refine List.map_congr_left fun p hp => ?_
  have : p.1 ≠ a := fun e => h (e ▸ List.mem_map.mpr ⟨p, hp, rfl⟩)
  simp [this]

namespace StR
variable {M : Pg} {g : PM} {P : List (Addr × Obj)} {h h' : Heap}

theorem heap (x : StR M g P h) (hk : ∀ b o, h.get? b = some o → h'.get? b = some o) : StR M g P h' :=
  ⟨x.base, fun b o e => hk b o (x.keep b o e), fun p hp => ⟨hk _ _ (x.priv p hp).1, (x.priv p hp).2⟩, x.nd⟩
theorem based (x : StR M g P h) : ∀ b o, M.h₀.get? b = some o → h.get? b = some o := fun b o e => x.keep b o (x.base b o e)
theorem fresh {a : Addr} (x : StR M g P h) (ha : h.get? a = none) : g a = none := by
  cases e : g a with
  | none => rfl
  | some o => rw [x.keep a o e] at ha; cases ha
theorem freshP {a : Addr} (x : StR M g P h) (ha : h.get? a = none) : a ∉ P.map (·.1) := fun hm => by
  obtain ⟨p, hp, rfl⟩ := List.mem_map.mp hm
  rw [(x.priv p hp).1] at ha; cases ha
/- a new object, never to be turned -/
theorem add {a : Addr} {o : Obj} (x : StR M g P h) (ha : h.get? a = none) (hk : ∀ b o, h.get? b = some o → h'.get? b = some o) (ho : h'.get? a = some o) :
    StR M (g.put a o) P h' := by
  have hg := x.fresh ha
  refine ⟨fun b o e => PM.le_put hg b o (x.base b o e), fun b o' e => ?_, fun p hp => ⟨hk _ _ (x.priv p hp).1, ?_⟩, x.nd⟩
  · by_cases hb : b = a
    · subst hb; rw [PM.put_self] at e; cases e; exact ho
    · rw [PM.put_ne hb] at e; exact hk _ _ (x.keep b o' e)
  · have : p.1 ≠ a := fun e => x.freshP ha (e ▸ List.mem_map.mpr ⟨p, hp, rfl⟩)
    rw [PM.put_ne this]; exact (x.priv p hp).2
/- a new object of one's own -/
theorem own {a : Addr} {o : Obj} (x : StR M g P h) (ha : h.get? a = none) (hk : ∀ b o, h.get? b = some o → h'.get? b = some o) (ho : h'.get? a = some o) :
    StR M g ((a, o) :: P) h' := by
  refine ⟨x.base, fun b o e => hk _ _ (x.keep b o e), fun p hp => ?_, ?_⟩
  · rcases List.mem_cons.mp hp with rfl | hp
    · exact ⟨ho, x.fresh ha⟩
    · exact ⟨hk _ _ (x.priv p hp).1, (x.priv p hp).2⟩
  · rw [List.map_cons, List.nodup_cons]
    exact ⟨x.freshP ha, x.nd⟩
theorem drop {p : Addr × Obj} (x : StR M g (p :: P) h) : StR M g P h :=
  ⟨x.base, x.keep, fun q hq => x.priv q (List.mem_cons_of_mem _ hq), by have := x.nd; rw [List.map_cons, List.nodup_cons] at this; exact this.2⟩
theorem dropL {Q : List (Addr × Obj)} (x : StR M g (Q ++ P) h) : StR M g P h :=
  ⟨x.base, x.keep, fun q hq => x.priv q (List.mem_append_right _ hq), by have := x.nd; rw [List.map_append, List.nodup_append] at this; exact this.2.1⟩
theorem perm {P' : List (Addr × Obj)} (x : StR M g P h) (e : P.Perm P') : StR M g P' h :=
  ⟨x.base, x.keep, fun q hq => x.priv q (e.mem_iff.mpr hq), (e.map _).nodup_iff.mp x.nd⟩
/- what was one's own will not be turned any more -/
theorem freeze {a : Addr} {o : Obj} (x : StR M g ((a, o) :: P) h) : StR M (g.put a o) P h := by
  have h1 := x.priv (a, o) (List.mem_cons_self ..)
  have hn := x.nd
  rw [List.map_cons, List.nodup_cons] at hn
  refine ⟨fun b o e => PM.le_put h1.2 b o (x.base b o e), fun b o' e => ?_, fun p hp => ⟨(x.priv p (List.mem_cons_of_mem _ hp)).1, ?_⟩, hn.2⟩
  · by_cases hb : b = a
    · subst hb; rw [PM.put_self] at e; cases e; exact h1.1
    · rw [PM.put_ne hb] at e; exact x.keep b o' e
  · have : p.1 ≠ a := fun e => hn.1 (e ▸ List.mem_map.mpr ⟨p, hp, rfl⟩)
    rw [PM.put_ne this]; exact (x.priv p (List.mem_cons_of_mem _ hp)).2
theorem upd {a : Addr} {o o' : Obj} (x : StR M g P h) (hm : (a, o) ∈ P) (ho : h'.get? a = some o') (hs : ∀ b o, b ≠ a → h.get? b = some o → h'.get? b = some o) :
    StR M g (updP P a o') h' := by
  have hga := (x.priv _ hm).2
  refine ⟨x.base, fun b o e => hs b o (fun e' => by subst e'; rw [hga] at e; cases e) (x.keep b o e), fun p hp => ?_, by rw [updP_fst]; exact x.nd⟩
  obtain ⟨q, hq, rfl⟩ := List.mem_map.mp hp
  by_cases hqa : q.1 = a
  · rw [if_pos hqa]; exact ⟨ho, hga⟩
  · rw [if_neg hqa]; exact ⟨hs _ _ hqa (x.priv q hq).1, (x.priv q hq).2⟩
theorem lt (x : StR M g P h) : 3 < h.objs.size :=
  let ⟨_, _, _, ho, _⟩ := M.top.g
  Heap.lt_size (x.based _ _ ho)
end StR

/- the object that bears a frame's names -/
noncomputable def FrO (o : Obj) (m : Str → Option Value) : Prop := ∃ es ep, o.data = .dict es ep ∧ StrKeys es ∧ ∀ name, nsFind es name = m name
theorem FrO.ns {h : Heap} {L : Addr} {o : Obj} {m : Str → Option Value} (x : FrO o m) (ho : h.get? L = some o) : h.Ns L m :=
  let ⟨es, ep, a, b, c⟩ := x; ⟨o, es, ep, ho, a, b, c⟩
theorem FrO.of_ns {h : Heap} {L : Addr} {m : Str → Option Value} (x : h.Ns L m) : ∃ o, h.get? L = some o ∧ FrO o m :=
  let ⟨o, es, ep, ho, a, b, c⟩ := x; ⟨o, ho, es, ep, a, b, c⟩

/- where the walk stands: the model, the module's top, the frame -/
structure Cx where
  A : Around
  env : Env

/- room for so many calls below -/
structure Room (A : Around) (n : Nat) : Prop where
  handled : A.handled = none
  depth : A.depth + n < 600
  units : A.units + 20 * n < 9000

structure Cx.Ok (C : Cx) (n : Nat) : Prop where
  room : Room C.A n
  kind : C.env.scope.kind = .function
  globals : C.env.globals = mainGlobals
  builtins : C.env.builtins = builtinsNs

inductive Slot where
  | val {α : Type} (T : Ty α) (x : α)
  | list {α : Type} (T : Ty α) (xs : List α)
  | slist {α : Type} (T : Ty α) (xs : List α)
  | dict {α : Type} (T : Ty α) (kvs : List (Str × α))
  | dict2 {α : Type} (T : Ty α) (kvs : List (Str × List (Str × α)))

noncomputable abbrev Dl := List (Str × Slot)

inductive F2 {α β : Type} (R : α → β → Prop) : List α → List β → Prop
  | nil : F2 R [] []
  | cons {a : α} {b : β} {l : List α} {l' : List β} : R a b → F2 R l l' → F2 R (a :: l) (b :: l')
theorem F2.mono {α β : Type} {R S : α → β → Prop} (h : ∀ a b, R a b → S a b) : ∀ {l : List α} {l' : List β}, F2 R l l' → F2 S l l'
  | _, _, .nil => .nil
  | _, _, .cons a r => .cons (h _ _ a) (F2.mono h r)
theorem F2.length {α β : Type} {R : α → β → Prop} : ∀ {l : List α} {l' : List β}, F2 R l l' → l.length = l'.length
  | _, _, .nil => rfl
  | _, _, .cons _ r => by rw [List.length_cons, List.length_cons, r.length]
theorem F2.get {α β : Type} {R : α → β → Prop} : ∀ {l : List α} {l' : List β}, F2 R l l' → ∀ {i : Nat} {a : α}, l[i]? = some a → ∃ b, l'[i]? = some b ∧ R a b
  | _, _, .nil, _, _, h => by simp at h
  | _, _, .cons r _, 0, _, h => by simp at h; subst h; exact ⟨_, by simp, r⟩
  | _, _, .cons _ r, i + 1, _, h => by simp at h; obtain ⟨b, e, hr⟩ := r.get h; exact ⟨b, by simpa using e, hr⟩
theorem F2.get' {α β : Type} {R : α → β → Prop} : ∀ {l : List α} {l' : List β}, F2 R l l' → ∀ {i : Nat} {b : β}, l'[i]? = some b → ∃ a, l[i]? = some a ∧ R a b
  | _, _, .nil, _, _, h => by simp at h
  | _, _, .cons r _, 0, _, h => by simp at h; subst h; exact ⟨_, by simp, r⟩
  | _, _, .cons _ r, i + 1, _, h => by simp at h; obtain ⟨b, e, hr⟩ := r.get' h; exact ⟨b, by simpa using e, hr⟩
theorem F2.append {α β : Type} {R : α → β → Prop} : ∀ {l : List α} {l' : List β} {k : List α} {k' : List β}, F2 R l l' → F2 R k k' → F2 R (l ++ k) (l' ++ k')
  | _, _, _, _, .nil, h => h
  | _, _, _, _, .cons r t, h => .cons r (t.append h)

/- an object that is a list of values, told by their items -/
noncomputable def ListO {α : Type} (T : Ty α) (g : PM) (o : Obj) (xs : List α) : Prop :=
  ∃ (vs : List Value) (n : Nat), o.cls = .type "list" ∧ o.data = .seq vs.toArray n ∧ F2 (T.rep g) vs xs
noncomputable def PlainO {α : Type} (T : Ty α) (g : PM) (o : Obj) (xs : List α) : Prop := ListO T g o xs ∧ o.dict = none
noncomputable def TupO (_g : PM) (o : Obj) (vs : List Value) : Prop := ∃ n : Nat, o = { cls := .type "tuple", data := .seq vs.toArray n }
/- an object that is a dict with strs for keys -/
noncomputable def DictO {α : Type} (prog : Program) (w : World) (R : Value → α → Prop) (o : Obj) (kvs : List (Str × α)) : Prop :=
  ∃ ps : List (Str × Value), o.IsDictOf (strKind prog w) ps ∧ F2 (fun p q => p.1 = q.1 ∧ R p.2 q.2) ps kvs

noncomputable def Slot.holds (M : Pg) (g : PM) (Mn : List (Addr × Obj)) : Slot → Value → List Addr → Prop
  | .val T x, v, as => as = [] ∧ T.rep g v x
  | .list T xs, v, as => ∃ a o, v = .ref a ∧ as = [a] ∧ (a, o) ∈ Mn ∧ PlainO T g o xs
  | .slist T xs, v, as => ∃ a o, v = .ref a ∧ as = [a] ∧ (a, o) ∈ Mn ∧ ListO T g o xs
  | .dict T kvs, v, as => ∃ a o, v = .ref a ∧ as = [a] ∧ (a, o) ∈ Mn ∧ 3 < a ∧ DictO M.prog M.w (T.rep g) o kvs
  | .dict2 T kvs, v, as => ∃ a o bs, v = .ref a ∧ as = a :: bs ∧ (a, o) ∈ Mn ∧ 3 < a ∧
      ∃ ps : List (Str × Value), o.IsDictOf (strKind M.prog M.w) ps ∧ ps.map (·.2) = bs.map Value.ref ∧
        F2 (fun p q => p.1 = q.1 ∧ ∃ b ob, p.2 = Value.ref b ∧ 3 < b ∧ (b, ob) ∈ Mn ∧ DictO M.prog M.w (T.rep g) ob q.2) ps kvs

/- how a name of the frame's is read -/
noncomputable def Rd (env : Env) (m cm : Str → Option Value) (x : Str) (v : Value) : Prop :=
  (x == ("__debug__" : Str)) = false ∧ (x == ("__classdict__" : Str)) = false ∧
  ((env.kindOf x = some .local ∧ m x = some v) ∨ ((env.kindOf x = some .cell ∨ env.kindOf x = some .free) ∧ ∃ c, env.cells.lookup x = some c ∧ cm x = some v))

noncomputable def Bd (M : Pg) (C : Cx) (g : PM) (m cm : Str → Option Value) (Mn : List (Addr × Obj)) : Dl → List Addr → Prop
  | [], as => as = []
  | (x, sl) :: Δ, as => ∃ v as1 as2, as = as1 ++ as2 ∧ Rd C.env m cm x v ∧ sl.holds M g Mn v as1 ∧ Bd M C g m cm Mn Δ as2

/- a frame's data -/
structure FD where
  m : Str → Option Value
  cm : Str → Option Value
  Mn : List (Addr × Obj)
  as : List Addr
  P : List (Addr × Obj)

noncomputable def NdOk (env : Env) (as : List Addr) : Prop :=
  (env.locals :: as).Nodup ∧ ∀ n c, env.cells.lookup n = some c → c ≠ env.locals ∧ c ∉ as ∧ ∀ n', env.cells.lookup n' = some c → n' = n

structure Ok (M : Pg) (C : Cx) (Δ : Dl) (F : FD) (g : PM) (h : Heap) : Prop where
  st : StR M g (F.Mn ++ F.P) h
  fr : ∃ oL, (C.env.locals, oL) ∈ F.Mn ∧ FrO oL F.m
  ce : ∀ n c, C.env.cells.lookup n = some c → ∃ o, (c, o) ∈ F.Mn ∧ o.data = .cell (F.cm n)
  nd : NdOk C.env F.as
  bd : Bd M C g F.m F.cm F.Mn Δ F.as

theorem ListO.mono {α : Type} {T : Ty α} {g g' : PM} {o : Obj} {xs : List α} (hg : Le g g') (x : ListO T g o xs) : ListO T g' o xs :=
  let ⟨vs, n, c, a, b⟩ := x; ⟨vs, n, c, a, F2.mono (fun _ _ e => T.mono hg e) b⟩
theorem PlainO.mono {α : Type} {T : Ty α} {g g' : PM} {o : Obj} {xs : List α} (hg : Le g g') (x : PlainO T g o xs) : PlainO T g' o xs := ⟨x.1.mono hg, x.2⟩
theorem DictO.mono {α : Type} {prog : Program} {w : World} {R S : Value → α → Prop} {o : Obj} {kvs : List (Str × α)} (h : ∀ v x, R v x → S v x) (x : DictO prog w R o kvs) : DictO prog w S o kvs :=
  let ⟨ps, a, b⟩ := x; ⟨ps, a, F2.mono (fun _ _ e => ⟨e.1, h _ _ e.2⟩) b⟩

theorem Slot.holds_mono {M : Pg} {g g' : PM} {Mn : List (Addr × Obj)} (hg : Le g g') : ∀ {sl : Slot} {v : Value} {as : List Addr}, sl.holds M g Mn v as → sl.holds M g' Mn v as
  | .val T _, _, _, ⟨a, b⟩ => ⟨a, T.mono hg b⟩
  | .list _ _, _, _, ⟨a, o, b, c, d, e⟩ => ⟨a, o, b, c, d, e.mono hg⟩
  | .slist _ _, _, _, ⟨a, o, b, c, d, e⟩ => ⟨a, o, b, c, d, e.mono hg⟩
  | .dict T _, _, _, ⟨a, o, b, c, d, k, e⟩ => ⟨a, o, b, c, d, k, e.mono fun _ _ => T.mono hg⟩
  | .dict2 T _, _, _, ⟨a, o, bs, b, c, d, k, ps, e, f, i⟩ =>
    ⟨a, o, bs, b, c, d, k, ps, e, f, F2.mono (fun _ _ ⟨u, b, ob, u1, u4, u2, u3⟩ => ⟨u, b, ob, u1, u4, u2, u3.mono fun _ _ => T.mono hg⟩) i⟩
theorem Bd.mono {M : Pg} {C : Cx} {g g' : PM} {m cm : Str → Option Value} {Mn : List (Addr × Obj)} (hg : Le g g') : ∀ {Δ : Dl} {as : List Addr}, Bd M C g m cm Mn Δ as → Bd M C g' m cm Mn Δ as
  | [], _, h => h
  | _ :: _, _, ⟨v, as1, as2, a, b, c, d⟩ => ⟨v, as1, as2, a, b, Slot.holds_mono hg c, d.mono hg⟩

theorem Ok.ext {M : Pg} {C : Cx} {Δ : Dl} {F : FD} {g g' : PM} {h h' : Heap} (x : Ok M C Δ F g h) (hg : Le g g') (st : StR M g' (F.Mn ++ F.P) h') : Ok M C Δ F g' h' :=
  ⟨st, x.fr, x.ce, x.nd, x.bd.mono hg⟩
theorem Ok.heap {M : Pg} {C : Cx} {Δ : Dl} {F : FD} {g : PM} {h h' : Heap} (x : Ok M C Δ F g h) (hk : ∀ b o, h.get? b = some o → h'.get? b = some o) : Ok M C Δ F g h' :=
  x.ext (.refl _) (x.st.heap hk)

theorem Bd.get {M : Pg} {C : Cx} {g : PM} {m cm : Str → Option Value} {Mn : List (Addr × Obj)} {x : Str} {α : Type} {T : Ty α} {y : α} :
    ∀ {Δ : Dl} {as : List Addr}, Bd M C g m cm Mn Δ as → (x, Slot.val T y) ∈ Δ → ∃ v, Rd C.env m cm x v ∧ T.rep g v y
  | (_, _) :: Δ, as, ⟨v, as1, as2, a, b, c, d⟩, hm => by
    rcases List.mem_cons.mp hm with e | hm
    · obtain ⟨rfl, rfl⟩ := Prod.mk.inj e
      exact ⟨v, b, c.2⟩
    · exact d.get hm

/- what an expression comes to -/
noncomputable def Ev (M : Pg) (C : Cx) (Δ : Dl) (e : Expr) {α : Type} (T : Ty α) (x : α) : Prop :=
  ∀ (F : FD) (g : PM) (s : Shared) (Q : Value → Shared → Prop), Ok M C Δ F g s.heap →
    (∀ v g' h' tk, Le g g' → Ok M C Δ F g' h' → T.rep g' v x → Q v { s with heap := h', toks := tk }) →
    wpAny (model M.prog M.w) C.A (eval e C.env) Q (fun _ _ => False) s

noncomputable def EvB (M : Pg) (C : Cx) (Δ : Dl) (e : Expr) (b : Bool) : Prop :=
  ∀ (F : FD) (g : PM) (s : Shared) (Q : Bool → Shared → Prop), Ok M C Δ F g s.heap →
    (∀ g' h' tk, Le g g' → Ok M C Δ F g' h' → Q b { s with heap := h', toks := tk }) →
    wpAny (model M.prog M.w) C.A (isTrue e C.env (eval e C.env)) Q (fun _ _ => False) s

/- what a row of statements comes to: the end of the row, or a value handed back -/
noncomputable def Ws (M : Pg) (C : Cx) (Δ : Dl) (ss : List Stmt) {α : Type} (T : Ty α) (r : α) (K : Dl → Prop) : Prop :=
  ∀ (F : FD) (g : PM) (s : Shared) (Q : Flow → Shared → Prop), Ok M C Δ F g s.heap →
    (∀ Δ' F' g' h' tk, F'.P = F.P → Le g g' → Ok M C Δ' F' g' h' → K Δ' → Q .next { s with heap := h', toks := tk }) →
    (∀ v g' h' tk, Le g g' → StR M g' F.P h' → T.rep g' v r → Q (.ret v) { s with heap := h', toks := tk }) →
    wpAny (model M.prog M.w) C.A (execs ss C.env) Q (fun _ _ => False) s

end Mine
end

-- C2
section
open PySem PySem.W PyProof.Rows
set_option linter.unusedVariables false
namespace Mine

noncomputable def tInt : Ty Int := ⟨fun _ v i => ∃ t, v = .int i t, fun _ h => h⟩
noncomputable def tStr : Ty Str := ⟨fun _ v x => ∃ t, v = .str x t, fun _ h => h⟩
noncomputable def tBool : Ty Bool := ⟨fun _ v b => v = .bool b, fun _ h => h⟩
noncomputable def tBytes : Ty (List UInt8) := ⟨fun _ v b => ∃ t, v = .bytes b.toArray t, fun _ h => h⟩
noncomputable def tList {α : Type} (T : Ty α) : Ty (List α) := ⟨fun g v xs => ∃ a o, v = .ref a ∧ g a = some o ∧ ListO T g o xs, fun hg ⟨a, o, e, ho, h⟩ => ⟨a, o, e, hg _ _ ho, h.mono hg⟩⟩
noncomputable def tDict {α : Type} (prog : Program) (w : World) (T : Ty α) : Ty (List (Str × α)) :=
  ⟨fun g v kvs => ∃ a o, v = .ref a ∧ g a = some o ∧ 3 < a ∧ DictO prog w (T.rep g) o kvs, fun hg ⟨a, o, e, ho, k, h⟩ => ⟨a, o, e, hg _ _ ho, k, h.mono fun _ _ => T.mono hg⟩⟩
noncomputable def tPair {α β : Type} (T : Ty α) (U : Ty β) : Ty (α × β) :=
  ⟨fun g v x => ∃ a o v1 v2, v = .ref a ∧ g a = some o ∧ TupO g o [v1, v2] ∧ T.rep g v1 x.1 ∧ U.rep g v2 x.2,
   fun hg ⟨a, o, v1, v2, e, ho, k, h1, h2⟩ => ⟨a, o, v1, v2, e, hg _ _ ho, k, T.mono hg h1, U.mono hg h2⟩⟩
structure Five (α : Type) where
  cc : Int
  nc : Int
  tt : Int
  ct : Int
  callers : α
noncomputable def tFive {α : Type} (T : Ty α) : Ty (Five α) :=
  ⟨fun g v x => ∃ a o t1 t2 t3 t4 v5, v = .ref a ∧ g a = some o ∧ TupO g o [.int x.cc t1, .int x.nc t2, .int x.tt t3, .int x.ct t4, v5] ∧ T.rep g v5 x.callers,
   fun hg ⟨a, o, t1, t2, t3, t4, v5, e, ho, k, h⟩ => ⟨a, o, t1, t2, t3, t4, v5, e, hg _ _ ho, k, T.mono hg h⟩⟩

section
variable {M : Pg} {C : Cx} {Δ : Dl} {n : Nat}

theorem Ev.name (ok : C.Ok n) {x : Str} {pos : Pos} {α : Type} {T : Ty α} {y : α} (hm : (x, Slot.val T y) ∈ Δ) : Ev M C Δ (.Name x pos) T y := fun F g s Q st hQ => by
  obtain ⟨v, ⟨hd, hcd, hr⟩, ht⟩ := st.bd.get hm
  have fin : Q v s := hQ v g s.heap s.toks (.refl _) st ht
  refine wpAny_Name ?_ hd
  rcases hr with ⟨hl, hv⟩ | ⟨hk, c, hc, hv⟩
  · obtain ⟨oL, hL, hfo⟩ := st.fr
    exact wpAny_loadName_local ok.kind hl (hfo.ns (st.st.priv _ (List.mem_append_left _ hL)).1) hv fin
  · obtain ⟨o, ho, hdat⟩ := st.ce x c hc
    have hcell : s.heap.IsCell c (some v) := ⟨o, (st.st.priv _ (List.mem_append_left _ ho)).1, hv ▸ hdat⟩
    rcases hk with hk | hk
    · exact wpAny_loadName_cell ok.kind hk hc hcell fin
    · exact wpAny_loadName_free ok.kind hk hc hcell fin hcd

theorem Ev.int {i : Int} {k : Nat} {pos : Pos} : Ev M C Δ (.Constant (.int i) k pos) tInt i := fun F g s Q st hQ =>
  wpAny_Constant_int (hQ _ g s.heap (s.toks + 1) (.refl _) st ⟨_, rfl⟩)
theorem Ev.str {x : Str} {k : Nat} {pos : Pos} : Ev M C Δ (.Constant (.str x) k pos) tStr x := fun F g s Q st hQ =>
  wpAny_Constant_str (hQ _ g s.heap (s.toks + 1) (.refl _) st ⟨_, rfl⟩)
theorem Ev.bool {b : Bool} {k : Nat} {pos : Pos} : Ev M C Δ (.Constant (.bool b) k pos) tBool b := fun F g s Q st hQ =>
  wpAny_Constant_bool (hQ _ g s.heap s.toks (.refl _) st rfl)

theorem Ev.cast {e : Expr} {α : Type} {T : Ty α} {x y : α} (h : Ev M C Δ e T x) (hxy : x = y) : Ev M C Δ e T y := hxy ▸ h

/- two operands, then an operation upon ints that makes a number or a bool -/
theorem Ev.bin {l r : Expr} {op : Operator} {pos : Pos} {α β γ : Type} {S : Ty α} {T : Ty β} {U : Ty γ} {a : α} {b : β} {c : γ} (hl : Ev M C Δ l S a) (hr : Ev M C Δ r T b)
    (h : ∀ v u (F : FD) (g : PM) (s : Shared) (Q : Value → Shared → Prop), S.rep g v a → T.rep g u b → Ok M C Δ F g s.heap →
      (∀ v g' h' tk, Le g g' → Ok M C Δ F g' h' → U.rep g' v c → Q v { s with heap := h', toks := tk }) →
      wpAny (model M.prog M.w) C.A (binaryOp op v u) Q (fun _ _ => False) s) :
    Ev M C Δ (.BinOp l op r pos) U c := fun F g s Q st hQ => by
  refine wpAny_BinOp (hl F g s _ st fun v g1 h1 tk1 l1 st1 ht1 => hr F g1 _ _ st1 fun u g2 h2 tk2 l2 st2 ht2 => ?_)
  exact h v u F g2 _ Q (S.mono l2 ht1) ht2 st2 fun v' g3 h3 tk3 l3 st3 ht3 => hQ v' g3 h3 tk3 (l1.trans (l2.trans l3)) st3 ht3

theorem Ev.add {l r : Expr} {pos : Pos} {a b : Int} (hl : Ev M C Δ l tInt a) (hr : Ev M C Δ r tInt b) : Ev M C Δ (.BinOp l .Add r pos) tInt (a + b) :=
  Ev.bin hl hr fun v u F g s Q hv hu st hQ => by
    obtain ⟨t, rfl⟩ := hv; obtain ⟨t', rfl⟩ := hu
    exact add_int (hQ _ g s.heap _ (.refl _) st ⟨_, rfl⟩)
theorem Ev.sub {l r : Expr} {pos : Pos} {a b : Int} (hl : Ev M C Δ l tInt a) (hr : Ev M C Δ r tInt b) : Ev M C Δ (.BinOp l .Sub r pos) tInt (a - b) :=
  Ev.bin hl hr fun v u F g s Q hv hu st hQ => by
    obtain ⟨t, rfl⟩ := hv; obtain ⟨t', rfl⟩ := hu
    exact sub_int (hQ _ g s.heap _ (.refl _) st ⟨_, rfl⟩)
theorem Ev.mul {l r : Expr} {pos : Pos} {a b : Int} (hl : Ev M C Δ l tInt a) (hr : Ev M C Δ r tInt b) (hm : IntMulOk a b) : Ev M C Δ (.BinOp l .Mult r pos) tInt (a * b) :=
  Ev.bin hl hr fun v u F g s Q hv hu st hQ => by
    obtain ⟨t, rfl⟩ := hv; obtain ⟨t', rfl⟩ := hu
    exact mul_int (hQ _ g s.heap _ (.refl _) st ⟨_, rfl⟩) hm
theorem Ev.mod {l r : Expr} {pos : Pos} {a b : Int} (hl : Ev M C Δ l tInt a) (hr : Ev M C Δ r tInt b) (hb : b ≠ 0) : Ev M C Δ (.BinOp l .Mod r pos) tInt (a.fmod b) :=
  Ev.bin hl hr fun v u F g s Q hv hu st hQ => by
    obtain ⟨t, rfl⟩ := hv; obtain ⟨t', rfl⟩ := hu
    exact mod_int hb (hQ _ g s.heap _ (.refl _) st ⟨_, rfl⟩)
theorem Ev.fdiv {l r : Expr} {pos : Pos} {a b : Int} (hl : Ev M C Δ l tInt a) (hr : Ev M C Δ r tInt b) (hb : b ≠ 0) (hp : Builtin.divisionGoesByPylong a b = false) : Ev M C Δ (.BinOp l .FloorDiv r pos) tInt (a.fdiv b) :=
  Ev.bin hl hr fun v u F g s Q hv hu st hQ => by
    obtain ⟨t, rfl⟩ := hv; obtain ⟨t', rfl⟩ := hu
    exact floordiv_int hb (hQ _ g s.heap _ (.refl _) st ⟨_, rfl⟩) (.inl hp)
theorem Ev.pow {l r : Expr} {pos : Pos} {a b : Int} (hl : Ev M C Δ l tInt a) (hr : Ev M C Δ r tInt b) (h0 : 0 ≤ b) (h1 : b ≤ 1000000) (ha : a.natAbs < 2 ^ 64) : Ev M C Δ (.BinOp l .Pow r pos) tInt (a ^ b.toNat) :=
  Ev.bin hl hr fun v u F g s Q hv hu st hQ => by
    obtain ⟨t, rfl⟩ := hv; obtain ⟨t', rfl⟩ := hu
    exact pow_int_small h0 h1 ha (hQ _ g s.heap _ (.refl _) st ⟨_, rfl⟩)
theorem Ev.addStr {l r : Expr} {pos : Pos} {a b : Str} (hl : Ev M C Δ l tStr a) (hr : Ev M C Δ r tStr b) (hz : a.length + b.length ≤ sizeLine) : Ev M C Δ (.BinOp l .Add r pos) tStr (a ++ b) :=
  Ev.bin hl hr fun v u F g s Q hv hu st hQ => by
    obtain ⟨t, rfl⟩ := hv; obtain ⟨t', rfl⟩ := hu
    exact PyProof.Rows.add_str (fun t' tk => hQ _ g s.heap _ (.refl _) st ⟨_, rfl⟩) hz
theorem Ev.neg {l : Expr} {pos : Pos} {a : Int} (hl : Ev M C Δ l tInt a) : Ev M C Δ (.UnaryOp .USub l pos) tInt (-a) := fun F g s Q st hQ =>
  wpAny_UnaryOp (hl F g s _ st fun v g1 h1 tk1 l1 st1 ht1 => by
    obtain ⟨t, rfl⟩ := ht1
    exact neg_int (hQ _ g1 h1 _ l1 st1 ⟨_, rfl⟩))

theorem Ev.ite {c a b : Expr} {pos : Pos} {α : Type} {T : Ty α} {q : Bool} {x y : α} (hc : EvB M C Δ c q) (ha : q = true → Ev M C Δ a T x) (hb : q = false → Ev M C Δ b T y) :
    Ev M C Δ (.IfExp c a b pos) T (if q then x else y) := fun F g s Q st hQ => by
  refine wpAny_IfExp (hc F g s _ st fun g1 h1 tk1 l1 st1 => ?_)
  cases q with
  | true => exact ha rfl F g1 _ _ st1 fun v g2 h2 tk2 l2 st2 ht2 => hQ v g2 h2 tk2 (l1.trans l2) st2 ht2
  | false => exact hb rfl F g1 _ _ st1 fun v g2 h2 tk2 l2 st2 ht2 => hQ v g2 h2 tk2 (l1.trans l2) st2 ht2

/- a comparison, as a value -/
theorem Ev.cmp {l r : Expr} {op : CmpOp} {pos : Pos} {α β : Type} {S : Ty α} {T : Ty β} {a : α} {b : β} {q : Bool} (hl : Ev M C Δ l S a) (hr : Ev M C Δ r T b)
    (h : ∀ v u (F : FD) (g : PM) (s : Shared) (Q : Value → Shared → Prop), S.rep g v a → T.rep g u b → Ok M C Δ F g s.heap →
      (∀ g' h' tk, Le g g' → Ok M C Δ F g' h' → Q (.bool q) { s with heap := h', toks := tk }) →
      wpAny (model M.prog M.w) C.A (compareOp op v u) Q (fun _ _ => False) s)
    (hm : behindInMarks op r = false := by with_unfolding_all rfl) :
    Ev M C Δ (.Compare l [op] [r] pos) tBool q := fun F g s Q st hQ => by
  refine wpAny_Compare1 (hl F g s _ st fun v g1 h1 tk1 l1 st1 ht1 => hr F g1 _ _ st1 fun u g2 h2 tk2 l2 st2 ht2 => ?_) hm
  exact h v u F g2 _ Q (S.mono l2 ht1) ht2 st2 fun g3 h3 tk3 l3 st3 => hQ _ g3 h3 tk3 (l1.trans (l2.trans l3)) st3 rfl
theorem EvB.cmp {l r : Expr} {op : CmpOp} {pos : Pos} {α β : Type} {S : Ty α} {T : Ty β} {a : α} {b : β} {q : Bool} (hl : Ev M C Δ l S a) (hr : Ev M C Δ r T b)
    (h : ∀ v u (F : FD) (g : PM) (s : Shared) (Q : Value → Shared → Prop), S.rep g v a → T.rep g u b → Ok M C Δ F g s.heap →
      (∀ g' h' tk, Le g g' → Ok M C Δ F g' h' → Q (.bool q) { s with heap := h', toks := tk }) →
      wpAny (model M.prog M.w) C.A (compareOp op v u) Q (fun _ _ => False) s)
    (hm : behindInMarks op r = false := by with_unfolding_all rfl) :
    EvB M C Δ (.Compare l [op] [r] pos) q := fun F g s Q st hQ => by
  refine wpAny_isTrue_Compare1 (hl F g s _ st fun v g1 h1 tk1 l1 st1 ht1 => hr F g1 _ _ st1 fun u g2 h2 tk2 l2 st2 ht2 => ?_) hm
  exact h v u F g2 _ _ (S.mono l2 ht1) ht2 st2 fun g3 h3 tk3 l3 st3 => wpAny_truthy_bool (hQ g3 h3 tk3 (l1.trans (l2.trans l3)) st3)

/- what a comparison of two kinds comes to, wherever it stands -/
noncomputable def Cmp (M : Pg) (C : Cx) (op : CmpOp) {α β : Type} (S : Ty α) (T : Ty β) (a : α) (b : β) (q : Bool) : Prop :=
  ∀ Δ v u (F : FD) (g : PM) (s : Shared) (Q : Value → Shared → Prop), S.rep g v a → T.rep g u b → Ok M C Δ F g s.heap →
      (∀ g' h' tk, Le g g' → Ok M C Δ F g' h' → Q (.bool q) { s with heap := h', toks := tk }) →
      wpAny (model M.prog M.w) C.A (compareOp op v u) Q (fun _ _ => False) s
theorem Ev.of_cmp {l r : Expr} {op : CmpOp} {pos : Pos} {α β : Type} {S : Ty α} {T : Ty β} {a : α} {b : β} {q : Bool} (h : Cmp M C op S T a b q) (hl : Ev M C Δ l S a) (hr : Ev M C Δ r T b)
    (hm : behindInMarks op r = false := by with_unfolding_all rfl) : Ev M C Δ (.Compare l [op] [r] pos) tBool q := Ev.cmp hl hr (h Δ) hm
theorem EvB.of_cmp {l r : Expr} {op : CmpOp} {pos : Pos} {α β : Type} {S : Ty α} {T : Ty β} {a : α} {b : β} {q : Bool} (h : Cmp M C op S T a b q) (hl : Ev M C Δ l S a) (hr : Ev M C Δ r T b)
    (hm : behindInMarks op r = false := by with_unfolding_all rfl) : EvB M C Δ (.Compare l [op] [r] pos) q := EvB.cmp hl hr (h Δ) hm

theorem Cmp.eqStr {a b : Str} : Cmp M C .Eq tStr tStr a b (a == b) := fun Δ v u F g s Q hv hu st hQ => by
  obtain ⟨t, rfl⟩ := hv; obtain ⟨t', rfl⟩ := hu
  exact PyProof.Rows.eq_str (hQ g s.heap s.toks (.refl _) st)
theorem Cmp.neStr {a b : Str} : Cmp M C .NotEq tStr tStr a b (a != b) := fun Δ v u F g s Q hv hu st hQ => by
  obtain ⟨t, rfl⟩ := hv; obtain ⟨t', rfl⟩ := hu
  exact PyProof.Rows.ne_str (hQ g s.heap s.toks (.refl _) st)
theorem Cmp.eqInt {a b : Int} : Cmp M C .Eq tInt tInt a b (a == b) := fun Δ v u F g s Q hv hu st hQ => by
  obtain ⟨t, rfl⟩ := hv; obtain ⟨t', rfl⟩ := hu
  exact eq_int (hQ g s.heap s.toks (.refl _) st)
theorem Cmp.gtInt {a b : Int} : Cmp M C .Gt tInt tInt a b (decide (b < a)) := fun Δ v u F g s Q hv hu st hQ => by
  obtain ⟨t, rfl⟩ := hv; obtain ⟨t', rfl⟩ := hu
  exact gt_int (hQ g s.heap s.toks (.refl _) st)
theorem Cmp.inStr {a b : Str} : Cmp M C .In tStr tStr a b (!(Builtin.Str.occurrences b a 0 b.length 1).isEmpty) := fun Δ v u F g s Q hv hu st hQ => by
  obtain ⟨t, rfl⟩ := hv; obtain ⟨t', rfl⟩ := hu
  exact PyProof.Rows.in_str (hQ g s.heap s.toks (.refl _) st)

theorem EvB.of_ev {e : Expr} {b : Bool} (h : Ev M C Δ e tBool b) (he : ∀ whole, isTrue e C.env whole = (do let v ← whole; standAt e.pos; holding [v] (truthy v)) := by intro _; rfl) : EvB M C Δ e b := fun F g s Q st hQ =>
  wpAny_isTrue_value (h F g s _ st fun v g1 h1 tk1 l1 st1 ht1 => by
    subst ht1
    exact wpAny_truthy_bool (hQ g1 h1 tk1 l1 st1)) (he _)

theorem EvB.and2 {a b : Expr} {pos : Pos} {p q : Bool} (ha : EvB M C Δ a p) (hb : p = true → EvB M C Δ b q) : EvB M C Δ (.BoolOp .And [a, b] pos) (p && q) := fun F g s Q st hQ => by
  refine wpAny_isTrue_BoolOp (wpAny_allTrue_And_cons (ha F g s _ st fun g1 h1 tk1 l1 st1 => ?_))
  cases p with
  | false => exact hQ g1 h1 tk1 l1 st1
  | true =>
    refine wpAny_allTrue_And_cons (hb rfl F g1 _ _ st1 fun g2 h2 tk2 l2 st2 => ?_)
    cases q with
    | false => exact hQ g2 h2 tk2 (l1.trans l2) st2
    | true => exact wpAny_allTrue_And_nil (hQ g2 h2 tk2 (l1.trans l2) st2)
theorem EvB.and3 {a b c : Expr} {pos : Pos} {p q r : Bool} (ha : EvB M C Δ a p) (hb : p = true → EvB M C Δ b q) (hc : p = true → q = true → EvB M C Δ c r) : EvB M C Δ (.BoolOp .And [a, b, c] pos) (p && q && r) := fun F g s Q st hQ => by
  refine wpAny_isTrue_BoolOp (wpAny_allTrue_And_cons (ha F g s _ st fun g1 h1 tk1 l1 st1 => ?_))
  cases p with
  | false => exact hQ g1 h1 tk1 l1 st1
  | true =>
    refine wpAny_allTrue_And_cons (hb rfl F g1 _ _ st1 fun g2 h2 tk2 l2 st2 => ?_)
    cases q with
    | false => exact hQ g2 h2 tk2 (l1.trans l2) st2
    | true =>
      refine wpAny_allTrue_And_cons (hc rfl rfl F g2 _ _ st2 fun g3 h3 tk3 l3 st3 => ?_)
      cases r with
      | false => exact hQ g3 h3 tk3 (l1.trans (l2.trans l3)) st3
      | true => exact wpAny_allTrue_And_nil (hQ g3 h3 tk3 (l1.trans (l2.trans l3)) st3)
theorem EvB.or2 {a b : Expr} {pos : Pos} {p q : Bool} (ha : EvB M C Δ a p) (hb : p = false → EvB M C Δ b q) : EvB M C Δ (.BoolOp .Or [a, b] pos) (p || q) := fun F g s Q st hQ => by
  refine wpAny_isTrue_BoolOp (wpAny_allTrue_Or_cons (ha F g s _ st fun g1 h1 tk1 l1 st1 => ?_))
  cases p with
  | true => exact hQ g1 h1 tk1 l1 st1
  | false =>
    refine wpAny_allTrue_Or_cons (hb rfl F g1 _ _ st1 fun g2 h2 tk2 l2 st2 => ?_)
    cases q with
    | true => exact hQ g2 h2 tk2 (l1.trans l2) st2
    | false => exact wpAny_allTrue_Or_nil (hQ g2 h2 tk2 (l1.trans l2) st2)
theorem Ev.and2 {a b : Expr} {pos : Pos} {p q : Bool} (ha : Ev M C Δ a tBool p) (hb : p = true → Ev M C Δ b tBool q) : Ev M C Δ (.BoolOp .And [a, b] pos) tBool (p && q) := fun F g s Q st hQ => by
  refine wpAny_And2 (ha F g s _ st fun v g1 h1 tk1 l1 st1 ht1 => ?_)
  subst ht1
  refine wpAny_truthy_bool ?_
  cases p with
  | false => exact hQ _ g1 h1 tk1 l1 st1 rfl
  | true => exact hb rfl F g1 _ _ st1 fun v g2 h2 tk2 l2 st2 ht2 => hQ v g2 h2 tk2 (l1.trans l2) st2 ht2
end

end Mine
end

-- C3
section
open PySem PySem.W PyProof.Rows
set_option linter.unusedVariables false
namespace Mine

section
variable {M : Pg}

/- a callee's promise: from any place it hands back a value that is so -/
noncomputable def CallSp (M : Pg) (A : Around) (f : Value) (vals : List Value) (g : PM) {α : Type} (T : Ty α) (x : α) : Prop :=
  ∀ (P : List (Addr × Obj)) (s : Shared) (R : Result → Shared → Prop), StR M g P s.heap →
    (∀ v g' h' tk, Le g g' → StR M g' P h' → T.rep g' v x → R (.ok (.ret v)) { s with heap := h', toks := tk }) →
    codeAny (model M.prog M.w) A (.call f ⟨vals, []⟩) R s

/- the promise of a def of the module -/
noncomputable def Fn (M : Pg) (k : Nat) (name : Str) {ι α : Type} (reps : PM → List Value → ι → Prop) (T : Ty α) (pre : ι → Prop) (f : ι → α) : Prop :=
  ∃ a o fd, M.mg name = some (.ref a) ∧ M.h₀.get? a = some o ∧ o.data = .func fd ∧
    ∀ A, Room A k → ∀ g vals x, pre x → reps g vals x → CallSp M A (.ref a) vals g T (f x)

noncomputable def rep1 {α : Type} (S : Ty α) : PM → List Value → α → Prop := fun g vs x => ∃ v, vs = [v] ∧ S.rep g v x
noncomputable def rep2 {α β : Type} (S : Ty α) (U : Ty β) : PM → List Value → α × β → Prop := fun g vs x => ∃ v u, vs = [v, u] ∧ S.rep g v x.1 ∧ U.rep g u x.2
noncomputable def rep3 {α β γ : Type} (S : Ty α) (U : Ty β) (V : Ty γ) : PM → List Value → α × β × γ → Prop :=
  fun g vs x => ∃ v u t, vs = [v, u, t] ∧ S.rep g v x.1 ∧ U.rep g u x.2.1 ∧ V.rep g t x.2.2

noncomputable def EvArgs (M : Pg) (C : Cx) (Δ : Dl) (es : List Expr) {ι : Type} (reps : PM → List Value → ι → Prop) (x : ι) : Prop :=
  ∀ (F : FD) (g : PM) (s : Shared) (Q : List Value → Shared → Prop), Ok M C Δ F g s.heap →
    (∀ vs g' h' tk, Le g g' → Ok M C Δ F g' h' → reps g' vs x → Q vs { s with heap := h', toks := tk }) →
    wpAny (model M.prog M.w) C.A (spliced (es.map fun e => (false, eval e C.env))) Q (fun _ _ => False) s

variable {C : Cx} {Δ : Dl} {n : Nat}

theorem EvArgs.one {e : Expr} {α : Type} {S : Ty α} {x : α} (h : Ev M C Δ e S x) : EvArgs M C Δ [e] (rep1 S) x := fun F g s Q st hQ =>
  Calls.spliced_cons (h F g s _ st fun v g1 h1 tk1 l1 st1 ht1 => Calls.spliced_nil (hQ _ g1 h1 tk1 l1 st1 ⟨v, rfl, ht1⟩))
theorem EvArgs.two {e1 e2 : Expr} {α β : Type} {S : Ty α} {U : Ty β} {x : α} {y : β} (h1 : Ev M C Δ e1 S x) (h2 : Ev M C Δ e2 U y) : EvArgs M C Δ [e1, e2] (rep2 S U) (x, y) := fun F g s Q st hQ =>
  Calls.spliced_cons (h1 F g s _ st fun v g1 h1 tk1 l1 st1 ht1 => Calls.spliced_cons (h2 F g1 _ _ st1 fun u g2 h2 tk2 l2 st2 ht2 =>
    Calls.spliced_nil (hQ _ g2 h2 tk2 (l1.trans l2) st2 ⟨v, u, rfl, S.mono l2 ht1, ht2⟩)))
theorem EvArgs.three {e1 e2 e3 : Expr} {α β γ : Type} {S : Ty α} {U : Ty β} {V : Ty γ} {x : α} {y : β} {z : γ} (h1 : Ev M C Δ e1 S x) (h2 : Ev M C Δ e2 U y) (h3 : Ev M C Δ e3 V z) :
    EvArgs M C Δ [e1, e2, e3] (rep3 S U V) (x, y, z) := fun F g s Q st hQ =>
  Calls.spliced_cons (h1 F g s _ st fun v g1 h1 tk1 l1 st1 ht1 => Calls.spliced_cons (h2 F g1 _ _ st1 fun u g2 h2 tk2 l2 st2 ht2 =>
    Calls.spliced_cons (h3 F g2 _ _ st2 fun t g3 h3 tk3 l3 st3 ht3 =>
      Calls.spliced_nil (hQ _ g3 h3 tk3 (l1.trans (l2.trans l3)) st3 ⟨v, u, t, rfl, S.mono (l2.trans l3) ht1, U.mono l3 ht2, ht3⟩))))

theorem Cx.Ok.A_lt (ok : C.Ok n) : C.A.depth < recursionLimit := by have := ok.room.depth; have : recursionLimit = 1000 := rfl; omega

/- a name of the module's -/
theorem global_name (ok : C.Ok n) {F : FD} {g : PM} {s : Shared} {x : Str} {pos : Pos} {v : Value} {Q : Value → Shared → Prop} {E : Value → Shared → Prop} (st : Ok M C Δ F g s.heap)
    (hx : C.env.kindOf x = some .globalImplicit) (hd : (x == ("__debug__" : Str)) = false) (hv : M.mg x = some v) (h : Q v s) : wpAny (model M.prog M.w) C.A (eval (.Name x pos) C.env) Q E s :=
  Calls.Name_function_global ok.kind hx (Calls.loadGlobal_global (by rw [ok.globals]; exact M.top.g.keeps st.st.based) hv h) hd
theorem builtin_name (ok : C.Ok n) {F : FD} {g : PM} {s : Shared} {x : Str} {pos : Pos} {v : Value} {Q : Value → Shared → Prop} {E : Value → Shared → Prop} (st : Ok M C Δ F g s.heap)
    (hx : C.env.kindOf x = some .globalImplicit) (hd : (x == ("__debug__" : Str)) = false) (hm : M.mg x = none) (hv : M.mb x = some v) (h : Q v s) : wpAny (model M.prog M.w) C.A (eval (.Name x pos) C.env) Q E s :=
  Calls.Name_function_global ok.kind hx (Calls.loadGlobal_builtin (by rw [ok.globals]; exact M.top.g.keeps st.st.based) hm (by rw [ok.builtins]; exact M.top.b.keeps st.st.based) hv h) hd

theorem backTo_plain {pos : Pos} {env : Env} : ∀ {es : List Expr}, starEach es env = es.map (fun e => (false, eval e env)) → backTo pos (starEach es env) = es.map fun e => (false, eval e env) := by
  intro es h
  rw [h]
  unfold backTo
  rw [List.map_map]
  refine List.map_congr_left fun e _ => ?_
  simp
theorem any_plain {env : Env} (es : List Expr) : (es.map fun e => (false, eval e env)).any (·.1) = false := by
  induction es with
  | nil => rfl
  | cons e r ih => rw [List.map_cons, List.any_cons, ih]; rfl

/- what is private in a frame, seen from below -/
theorem Ok.away {F : FD} {g : PM} {h : Heap} (st : Ok M C Δ F g h) : StR M g (F.Mn ++ F.P) h := st.st

theorem Ev.call (ok : C.Ok n) {k : Nat} {f : Str} {p pos : Pos} {e : Expr} {es : List Expr} {ι α : Type} {reps : PM → List Value → ι → Prop} {T : Ty α} {pre : ι → Prop} {F : ι → α} {x : ι}
    (hf : Fn M k f reps T pre F) (hk : k ≤ n) (hx : C.env.kindOf f = some .globalImplicit) (hd : (f == ("__debug__" : Str)) = false)
    (ha : EvArgs M C Δ (e :: es) reps x) (hp : pre x) (hs : starEach (e :: es) C.env = (e :: es).map fun e => (false, eval e C.env)) :
    Ev M C Δ (.Call (.Name f p) (e :: es) [] pos) T (F x) := fun Fd g s Q st hQ => by
  obtain ⟨a, o, fd, hm, ho, hdat, hf⟩ := hf
  refine wpAny_Call_Name_kw (global_name ok st hx hd hm ?_)
  rw [backTo_plain hs]
  show wpAny _ _ (callWith pos (.ref a) [] ((false, eval e C.env) :: es.map fun e => (false, eval e C.env)) []) _ _ _
  refine Calls.callWith_function (o := o) (fd := fd) (Calls.evalArgs_plain (ha Fd g s _ st fun vs g1 h1 tk1 l1 st1 ht1 => ⟨⟨st1.st.based _ _ ho, hdat⟩, ?_⟩))
  refine wpAny_call (hf C.A ⟨ok.room.handled, by have := ok.room.depth; omega, by have := ok.room.units; omega⟩ g1 _ x hp ht1 (Fd.Mn ++ Fd.P) _ _ st1.st fun v g2 h2 tk2 l2 st2 ht2 => ?_)
  exact hQ v g2 h2 tk2 (l1.trans l2) (st1.ext l2 st2) ht2

theorem bindL_skip {k : Str → Option NameKind} {x : Str} : ∀ {bs : List (Str × Value)} {m : Str → Option Value}, x ∉ bs.map (·.1) → bindL k bs m x = m x
  | [], _, _ => rfl
  | (y, v) :: r, m, h => by
    have hy : x ≠ y := fun e => h (by rw [e]; exact List.mem_cons_self ..)
    have hr : x ∉ r.map (·.1) := fun e => h (List.mem_cons_of_mem _ e)
    unfold bindL
    rw [bindL_skip hr]
    split
    · simp [hy]
    · rfl
theorem bindL_get {k : Str → Option NameKind} {x : Str} {v : Value} (hk : k x = some .local) : ∀ {bs : List (Str × Value)} {m : Str → Option Value}, (bs.map (·.1)).Nodup → (x, v) ∈ bs → bindL k bs m x = some v
  | (y, u) :: r, m, hn, hm => by
    rw [List.map_cons, List.nodup_cons] at hn
    unfold bindL
    rcases List.mem_cons.mp hm with e | hm
    · obtain ⟨rfl, rfl⟩ := Prod.mk.inj e
      rw [bindL_skip hn.1, if_pos hk]
      simp
    · exact bindL_get hk hn.2 hm
theorem bindC_skip {k : Str → Option NameKind} {x : Str} : ∀ {bs : List (Str × Value)} {m : Str → Option Value}, x ∉ bs.map (·.1) → bindC k bs m x = m x
  | [], _, _ => rfl
  | (y, v) :: r, m, h => by
    have hy : x ≠ y := fun e => h (by rw [e]; exact List.mem_cons_self ..)
    have hr : x ∉ r.map (·.1) := fun e => h (List.mem_cons_of_mem _ e)
    unfold bindC
    rw [bindC_skip hr]
    split
    · rfl
    · simp [hy]
theorem bindC_get {k : Str → Option NameKind} {x : Str} {v : Value} (hk : k x = some .cell) : ∀ {bs : List (Str × Value)} {m : Str → Option Value}, (bs.map (·.1)).Nodup → (x, v) ∈ bs → bindC k bs m x = some v
  | (y, u) :: r, m, hn, hm => by
    rw [List.map_cons, List.nodup_cons] at hn
    unfold bindC
    rcases List.mem_cons.mp hm with e | hm
    · obtain ⟨rfl, rfl⟩ := Prod.mk.inj e
      rw [bindC_skip hn.1, if_neg (by rw [hk]; decide)]
      simp
    · exact bindC_get hk hn.2 hm

/- the frame's first words: its parameters -/
theorem enter {A : Around} {a : Addr} {o : Obj} {fd : FuncData} {body : List Stmt} {vals : List Value} {binds : List (Str × Value)} {k : Nat} (hA : Room A (k + 1))
    (ho : M.h₀.get? a = some o) (hdata : o.data = .func fd) (hcd : M.h₀.CodeRec fd.code fd.qualname)
    (hbody : fd.body = .stmts body) (hbind : bindArgs fd ⟨vals, []⟩ = pure binds) (hclo : fd.closure = [])
    (hkind : ∀ L, ∀ x ∈ binds, fd.scope.names.lookup x.1 = some .local ∨ (fd.scope.names.lookup x.1 = some .cell ∧ ((cellsFrom L fd.scope.names []).lookup x.1).isSome = true))
    (hdbg : ∀ x ∈ binds, (x.1 == ("__debug__" : Str)) = false ∧ (x.1 == ("__classdict__" : Str)) = false) (hnd : (binds.map (·.1)).Nodup)
    (hcn : ((cellsFrom 0 fd.scope.names []).map (·.1)).Nodup) (hgl : fd.globals = mainGlobals) (hbu : fd.builtins = builtinsNs) (hco : fd.scope.isCoroutine = false) (hgen : fd.scope.isGenerator = false) (hk : fd.scope.kind = .function)
    {g : PM} {α : Type} {T : Ty α} {x : α} (Δ : Dl) (hΔ : ∀ C : Cx, C.env.scope = fd.scope → ∀ m cm Mn g', Le g g' → (∀ y ∈ binds, Rd C.env m cm y.1 y.2) → Bd M C g' m cm Mn Δ [])
    (hw : ∀ C : Cx, C.Ok k → C.env.scope = fd.scope → (∃ L, C.env.cells = cellsFrom L fd.scope.names []) → Ws M C Δ body T x (fun _ => False)) :
    CallSp M A (.ref a) vals g T x := by
  intro P s R st hR
  have hroom : A.depth < recursionLimit := by have := hA.depth; have : recursionLimit = 1000 := rfl; omega
  refine codeAny_call_cells hroom (st.based _ _ ho) hdata (M.top.nolimit.keeps st.based) (hcd.keeps st.based) hbody hbind hclo (hkind _) (fun s₁ x₁ => ?_) hco hgen hk
  generalize hE : callEnvC fd s.heap.objs.size a = env at x₁ ⊢
  have hsc : env.scope = fd.scope := by rw [← hE]; rfl
  have hloc : env.locals = s.heap.objs.size := by rw [← hE]; rfl
  have hcl : env.cells = cellsFrom (s.heap.objs.size + 1) fd.scope.names [] := by rw [← hE]; rfl
  let C : Cx := ⟨A.deeper env, env⟩
  have ok : C.Ok k := ⟨⟨hA.handled, by have := hA.depth; show A.depth + 1 + k < 600; omega, by have := hA.units; show A.units + 3 + 20 * k < 9000; omega⟩, by rw [← hk, ← hsc], by show env.globals = _; rw [← hE]; exact hgl, by show env.builtins = _; rw [← hE]; exact hbu⟩
  obtain ⟨h₁, tk, rfl, hkeep⟩ := x₁.done
  obtain ⟨oL, hoL, hfo⟩ := FrO.of_ns x₁.toInCall.ns
  have fresh : ∀ b, s.heap.objs.size ≤ b → s.heap.get? b = none := fun b hb => by
    cases e : s.heap.get? b with
    | none => rfl
    | some o' => exact absurd (Heap.lt_size e) (Nat.not_lt.mpr hb)
  have above : ∀ n' c, (n', c) ∈ env.cells → s.heap.objs.size < c := fun n' c hm => by have := x₁.above n' c hm; rw [hloc] at this; exact this
  have hpw := x₁.apart
  -- the private objects
  let Cl : List (Addr × Obj) := env.cells.map fun y => (y.2, (h₁.get? y.2).getD default)
  have hcellsGet : ∀ n' c, env.cells.lookup n' = some c → ∃ o, (c, o) ∈ Cl ∧ h₁.get? c = some o ∧ o.data = .cell (bindC env.kindOf binds (fun _ => none) n') := fun n' c hc => by
    obtain ⟨o', ho', hd'⟩ := x₁.cell n' c hc
    refine ⟨o', List.mem_map.mpr ⟨(n', c), PySem.mem_of_lookup hc, ?_⟩, ho', hd'⟩
    show (c, (h₁.get? c).getD default) = (c, o')
    have e : h₁.get? c = some o' := ho'
    rw [e]; rfl
  have hlk : ∀ n' c, (n', c) ∈ env.cells → env.cells.lookup n' = some c := fun n' c hm => by
    rw [hcl] at hm ⊢
    exact lookup_of_mem_nodup (cellsFrom_names fd.scope.names 0 (s.heap.objs.size + 1) [] [] rfl ▸ hcn) hm
  have hall : ∀ p ∈ Cl, h₁.get? p.1 = some p.2 ∧ s.heap.objs.size < p.1 := fun p hp => by
    obtain ⟨⟨n', c⟩, hm, rfl⟩ := List.mem_map.mp hp
    obtain ⟨o', _, ho', _⟩ := hcellsGet n' c (hlk n' c hm)
    refine ⟨?_, above n' c hm⟩
    show h₁.get? c = some ((h₁.get? c).getD default)
    rw [ho']; rfl
  have hCl : Cl.map (·.1) = env.cells.map (·.2) := by
    show (env.cells.map _).map _ = _
    rw [List.map_map]; rfl
  have hcnd : (env.cells.map (·.2)).Nodup := by
    unfold List.Nodup
    rw [List.pairwise_map]
    exact hpw
  have hLc : env.locals ∉ env.cells.map (·.2) := fun hm => by
    obtain ⟨⟨n', c⟩, hm, e⟩ := List.mem_map.mp hm
    have h1 := above n' c hm
    rw [hloc] at e
    exact Nat.lt_irrefl _ (e ▸ h1)
  have hnd2 : (env.locals :: env.cells.map (·.2)).Nodup := List.nodup_cons.mpr ⟨hLc, hcnd⟩
  have st₁ : StR M g (((env.locals, oL) :: Cl) ++ P) h₁ := by
    refine ⟨st.base, fun b o e => hkeep _ _ (st.keep b o e), fun p hp => ?_, ?_⟩
    · rcases List.mem_append.mp hp with hp | hp
      · rcases List.mem_cons.mp hp with rfl | hp
        · exact ⟨hoL, st.fresh (fresh _ (by rw [hloc]; exact Nat.le_refl _))⟩
        · exact ⟨(hall p hp).1, st.fresh (fresh _ (Nat.le_of_lt (hall p hp).2))⟩
      · exact ⟨hkeep _ _ (st.priv p hp).1, (st.priv p hp).2⟩
    · rw [List.map_append, List.nodup_append]
      refine ⟨by rw [List.map_cons, hCl]; exact hnd2, st.nd, fun b hb b' hb' e => ?_⟩
      subst e
      have h3 : s.heap.objs.size ≤ b := by
        rw [List.map_cons, hCl] at hb
        rcases List.mem_cons.mp hb with e | hb
        · rw [e]; exact Nat.le_of_eq hloc.symm
        · obtain ⟨⟨n', c⟩, hm, e⟩ := List.mem_map.mp hb
          exact Nat.le_of_lt (e ▸ above n' c hm)
      obtain ⟨p, hp, e⟩ := List.mem_map.mp hb'
      have h4 := Heap.lt_size (st.priv p hp).1
      rw [e] at h4
      exact absurd h4 (Nat.not_lt.mpr h3)
  have hRd : ∀ y ∈ binds, Rd env (bindL env.kindOf binds fun _ => none) (bindC env.kindOf binds fun _ => none) y.1 y.2 := fun y hy => by
    refine ⟨(hdbg y hy).1, (hdbg y hy).2, ?_⟩
    rcases hkind (s.heap.objs.size + 1) y hy with hl | ⟨hc, hs⟩
    · have hl' : env.kindOf y.1 = some .local := by unfold Env.kindOf; rw [hsc]; exact hl
      exact .inl ⟨hl', bindL_get hl' hnd hy⟩
    · have hc' : env.kindOf y.1 = some .cell := by unfold Env.kindOf; rw [hsc]; exact hc
      rw [← hcl] at hs
      obtain ⟨c, hc2⟩ := Option.isSome_iff_exists.mp hs
      exact .inr ⟨.inl hc', c, hc2, bindC_get hc' hnd hy⟩
  let F : FD := ⟨bindL env.kindOf binds fun _ => none, bindC env.kindOf binds fun _ => none, (env.locals, oL) :: Cl, [], P⟩
  have okF : Ok M C Δ F g h₁ := ⟨st₁, ⟨oL, List.mem_cons_self .., hfo⟩, fun n' c hc => by
      obtain ⟨o', hm, _, hd'⟩ := hcellsGet n' c hc
      exact ⟨o', List.mem_cons_of_mem _ hm, hd'⟩, ⟨List.nodup_cons.mpr ⟨List.not_mem_nil, List.nodup_nil⟩, fun n' c hc => ⟨fun e => hLc (List.mem_map.mpr ⟨(n', c), PySem.mem_of_lookup hc, e⟩), List.not_mem_nil, fun n2 h2 =>
      (name_of_addr hpw (PySem.mem_of_lookup hc) (PySem.mem_of_lookup h2)).symm⟩⟩,
    hΔ C hsc _ _ _ _ (.refl _) hRd⟩
  refine wpAny_mono (hw C ok hsc ⟨_, hcl⟩ F g { s with heap := h₁, toks := tk } (fun f s' => R (.ok (.ret (match f with | .ret v => v | _ => .none))) s') okF ?_ ?_) (fun _ _ h => h) (fun _ _ h => h.elim)
  · intro Δ' F' g' h' tk' _ _ _ hfalse
    exact hfalse.elim
  · intro v g' h' tk' hl st' ht
    exact hR v g' h' tk' hl st' ht
end

end Mine
end

-- C4
section
open PySem PySem.W PyProof.Rows
set_option linter.unusedVariables false
namespace Mine

/- one entry taken out of a row of names -/
inductive Pick : Str × Slot → Dl → Dl → Prop
  | here {e : Str × Slot} {Δ : Dl} : Pick e (e :: Δ) Δ
  | val {x : Str} {α : Type} {T : Ty α} {y y' : α} {Δ : Dl} : y' = y → Pick (x, .val T y) ((x, .val T y') :: Δ) Δ
  | list {x : Str} {α : Type} {T : Ty α} {y y' : List α} {Δ : Dl} : y' = y → Pick (x, .list T y) ((x, .list T y') :: Δ) Δ
  | slist {x : Str} {α : Type} {T : Ty α} {y y' : List α} {Δ : Dl} : y' = y → Pick (x, .slist T y) ((x, .slist T y') :: Δ) Δ
  | dict {x : Str} {α : Type} {T : Ty α} {y y' : List (Str × α)} {Δ : Dl} : y' = y → Pick (x, .dict T y) ((x, .dict T y') :: Δ) Δ
  | dict2 {x : Str} {α : Type} {T : Ty α} {y y' : List (Str × List (Str × α))} {Δ : Dl} : y' = y → Pick (x, .dict2 T y) ((x, .dict2 T y') :: Δ) Δ
  | there {e f : Str × Slot} {Δ Δ' : Dl} : Pick e Δ Δ' → Pick e (f :: Δ) (f :: Δ')
inductive Sel : Dl → Dl → Prop
  | nil {Δ : Dl} : Sel Δ []
  | cons {e : Str × Slot} {Δ Δ' Δ2 : Dl} : Pick e Δ Δ' → Sel Δ' Δ2 → Sel Δ (e :: Δ2)
/- the entries of other names -/
inductive Drop (x : Str) : Dl → Dl → Prop
  | nil : Drop x [] []
  | skip {e : Str × Slot} {Δ Δ' : Dl} : Drop x Δ Δ' → Drop x (e :: Δ) Δ'
  | keep {y : Str} {sl : Slot} {Δ Δ' : Dl} : y ≠ x → Drop x Δ Δ' → Drop x ((y, sl) :: Δ) ((y, sl) :: Δ')

section
variable {M : Pg} {C : Cx} {Δ : Dl} {n : Nat}

theorem Bd.pick {g : PM} {m cm : Str → Option Value} {Mn : List (Addr × Obj)} {e : Str × Slot} : ∀ {Δ Δ' : Dl} {as : List Addr}, Pick e Δ Δ' → Bd M C g m cm Mn Δ as →
    ∃ v as1 as2, as.Perm (as1 ++ as2) ∧ Rd C.env m cm e.1 v ∧ e.2.holds M g Mn v as1 ∧ Bd M C g m cm Mn Δ' as2
  | _, _, _, .here, ⟨v, as1, as2, a, b, c, d⟩ => ⟨v, as1, as2, a ▸ .refl _, b, c, d⟩
  | _, _, _, .val h, ⟨v, as1, as2, a, b, c, d⟩ => ⟨v, as1, as2, a ▸ .refl _, b, h ▸ c, d⟩
  | _, _, _, .list h, ⟨v, as1, as2, a, b, c, d⟩ => ⟨v, as1, as2, a ▸ .refl _, b, h ▸ c, d⟩
  | _, _, _, .slist h, ⟨v, as1, as2, a, b, c, d⟩ => ⟨v, as1, as2, a ▸ .refl _, b, h ▸ c, d⟩
  | _, _, _, .dict h, ⟨v, as1, as2, a, b, c, d⟩ => ⟨v, as1, as2, a ▸ .refl _, b, h ▸ c, d⟩
  | _, _, _, .dict2 h, ⟨v, as1, as2, a, b, c, d⟩ => ⟨v, as1, as2, a ▸ .refl _, b, h ▸ c, d⟩
  | _, _, _, .there h, ⟨v, as1, as2, a, b, c, d⟩ => by
    obtain ⟨u, bs1, bs2, a', b', c', d'⟩ := Bd.pick h d
    refine ⟨u, bs1, as1 ++ bs2, ?_, b', c', v, as1, bs2, rfl, b, c, d'⟩
    rw [a]
    refine (a'.append_left as1).trans ?_
    rw [← List.append_assoc, ← List.append_assoc]
    exact List.perm_append_comm.append_right _
theorem Bd.sel {g : PM} {m cm : Str → Option Value} {Mn : List (Addr × Obj)} : ∀ {Δ2 Δ : Dl} {as : List Addr}, Sel Δ Δ2 → Bd M C g m cm Mn Δ as → ∃ as2 as3, as.Perm (as2 ++ as3) ∧ Bd M C g m cm Mn Δ2 as2
  | _, _, as, .nil, _ => ⟨[], as, .refl _, rfl⟩
  | _, _, _, .cons hp hs, h => by
    obtain ⟨v, as1, as2, a, b, c, d⟩ := Bd.pick hp h
    obtain ⟨bs2, bs3, a', d'⟩ := Bd.sel hs d
    refine ⟨as1 ++ bs2, bs3, ?_, v, as1, bs2, rfl, b, c, d'⟩
    rw [List.append_assoc]
    exact a.trans (a'.append_left as1)
theorem NdOk.sub {env : Env} {as as2 as3 : List Addr} (h : NdOk env as) (hp : as.Perm (as2 ++ as3)) : NdOk env as2 := by
  have h1 : (env.locals :: (as2 ++ as3)).Nodup := (hp.cons _).nodup_iff.mp h.1
  rw [List.nodup_cons, List.nodup_append] at h1
  refine ⟨List.nodup_cons.mpr ⟨fun e => h1.1 (List.mem_append_left _ e), h1.2.1⟩, fun n c hc => ?_⟩
  obtain ⟨a, b, d⟩ := h.2 n c hc
  exact ⟨a, fun e => b (hp.mem_iff.mpr (List.mem_append_left _ e)), d⟩
theorem NdOk.loc {env : Env} {as : List Addr} (h : NdOk env as) : env.locals ∉ as := (List.nodup_cons.mp h.1).1

/- from these names one may go on with those -/
noncomputable def Wk (M : Pg) (C : Cx) (Δ Δ' : Dl) : Prop := ∀ F g h, Ok M C Δ F g h → ∃ F' g', F'.P = F.P ∧ Le g g' ∧ Ok M C Δ' F' g' h
theorem Wk.refl {Δ : Dl} : Wk M C Δ Δ := fun F g h x => ⟨F, g, rfl, .refl _, x⟩
theorem Wk.trans {Δ1 Δ2 Δ3 : Dl} (x : Wk M C Δ1 Δ2) (y : Wk M C Δ2 Δ3) : Wk M C Δ1 Δ3 := fun F g h o => by
  obtain ⟨F1, g1, e1, l1, o1⟩ := x F g h o
  obtain ⟨F2, g2, e2, l2, o2⟩ := y F1 g1 h o1
  exact ⟨F2, g2, e2.trans e1, l1.trans l2, o2⟩
theorem Wk.sel {Δ Δ' : Dl} (x : Sel Δ Δ') : Wk M C Δ Δ' := fun F g h o => by
  obtain ⟨as2, as3, hp, hb⟩ := o.bd.sel x
  exact ⟨{ F with as := as2 }, g, rfl, .refl _, o.st, o.fr, o.ce, o.nd.sub hp, hb⟩

theorem Slot.holds_Mn {g : PM} {Mn Mn' : List (Addr × Obj)} : ∀ {sl : Slot} {v : Value} {as : List Addr}, (∀ a ∈ as, ∀ o, (a, o) ∈ Mn → (a, o) ∈ Mn') → sl.holds M g Mn v as → sl.holds M g Mn' v as
  | .val _ _, _, _, _, h => h
  | .list _ _, _, _, hm, ⟨a, o, b, c, d, e⟩ => ⟨a, o, b, c, hm a (by rw [c]; exact List.mem_singleton.mpr rfl) o d, e⟩
  | .slist _ _, _, _, hm, ⟨a, o, b, c, d, e⟩ => ⟨a, o, b, c, hm a (by rw [c]; exact List.mem_singleton.mpr rfl) o d, e⟩
  | .dict _ _, _, _, hm, ⟨a, o, b, c, d, k, e⟩ => ⟨a, o, b, c, hm a (by rw [c]; exact List.mem_singleton.mpr rfl) o d, k, e⟩
  | .dict2 T kvs, _, _, hm, ⟨a, o, bs, b, c, d, k, ps, e, f, i⟩ => by
    refine ⟨a, o, bs, b, c, hm a (by rw [c]; exact List.mem_cons_self ..) o d, k, ps, e, f, ?_⟩
    have hin : ∀ p ∈ ps, ∀ x, p.2 = Value.ref x → x ∈ bs := fun p hp x hx => by
      have h1 : Value.ref x ∈ bs.map Value.ref := f ▸ List.mem_map.mpr ⟨p, hp, hx⟩
      obtain ⟨y, hy, e⟩ := List.mem_map.mp h1
      injection e with e
      exact e ▸ hy
    have go : ∀ (l : List (Str × Value)) (l' : List (Str × List (Str × _))), (∀ p ∈ l, p ∈ ps) →
        F2 (fun p q => p.1 = q.1 ∧ ∃ b ob, p.2 = Value.ref b ∧ 3 < b ∧ (b, ob) ∈ Mn ∧ DictO M.prog M.w (T.rep g) ob q.2) l l' →
        F2 (fun p q => p.1 = q.1 ∧ ∃ b ob, p.2 = Value.ref b ∧ 3 < b ∧ (b, ob) ∈ Mn' ∧ DictO M.prog M.w (T.rep g) ob q.2) l l' := by
      intro l l' hl h
      induction h with
      | nil => exact .nil
      | cons hr _ ih =>
        rename_i p q r r' _
        obtain ⟨u, b', ob, u1, u4, u2, u3⟩ := hr
        refine .cons ⟨u, b', ob, u1, u4, hm b' (by rw [c]; exact List.mem_cons_of_mem _ (hin p (hl p (List.mem_cons_self ..)) b' u1)) ob u2, u3⟩ (ih fun p hp => hl p (List.mem_cons_of_mem _ hp))
    exact go ps kvs (fun _ h => h) i

theorem Bd.turn {g : PM} {m m' cm cm' : Str → Option Value} {Mn Mn' : List (Addr × Obj)} {x : Str} :
    ∀ {Δ Δ' : Dl} {as : List Addr}, Drop x Δ Δ' → (∀ a ∈ as, ∀ o, (a, o) ∈ Mn → (a, o) ∈ Mn') → (∀ y v, y ≠ x → Rd C.env m cm y v → Rd C.env m' cm' y v) →
      Bd M C g m cm Mn Δ as → ∃ as2 as3, as.Perm (as2 ++ as3) ∧ Bd M C g m' cm' Mn' Δ' as2
  | _, _, as, .nil, _, _, h => ⟨[], as, .refl _, rfl⟩
  | _, _, _, .skip hd, hm, hr, ⟨v, as1, as2, a, b, c, d⟩ => by
    subst a
    obtain ⟨bs2, bs3, a', d'⟩ := Bd.turn hd (fun y hy => hm y (List.mem_append_right _ hy)) hr d
    refine ⟨bs2, as1 ++ bs3, ?_, d'⟩
    refine (a'.append_left as1).trans ?_
    rw [← List.append_assoc, ← List.append_assoc]
    exact List.perm_append_comm.append_right _
  | _, _, _, .keep hne hd, hm, hr, ⟨v, as1, as2, a, b, c, d⟩ => by
    subst a
    obtain ⟨bs2, bs3, a', d'⟩ := Bd.turn hd (fun y hy => hm y (List.mem_append_right _ hy)) hr d
    refine ⟨as1 ++ bs2, bs3, by rw [List.append_assoc]; exact a'.append_left as1, v, as1, bs2, rfl, hr _ _ hne b, Slot.holds_Mn (fun y hy => hm y (List.mem_append_left _ hy)) c, d'⟩

theorem updP_Mn {Mn P : List (Addr × Obj)} {a : Addr} {o o' : Obj} (hm : (a, o) ∈ Mn) (hn : ((Mn ++ P).map (·.1)).Nodup) : updP (Mn ++ P) a o' = updP Mn a o' ++ P := by
  rw [updP_append]
  congr 1
  refine updP_not_mem fun h => ?_
  rw [List.map_append, List.nodup_append] at hn
  exact hn.2.2 a (List.mem_map.mpr ⟨_, hm, rfl⟩) a h rfl

theorem hp_of (ok : C.Ok n) : (C.env.scope.kind == .class || (C.env.scope.kind == .module && C.env.locals != C.env.globals)) = false := by rw [ok.kind]; rfl

/- a name of the frame's own is bound -/
theorem Ok.storeL (ok : C.Ok n) {F : FD} {g : PM} {s : Shared} {x : Str} {v : Value} {α : Type} {T : Ty α} {y : α} {Δ' : Dl} {Q : Unit → Shared → Prop} (st : Ok M C Δ F g s.heap)
    (hx : C.env.kindOf x = some .local) (hdb : (x == ("__debug__" : Str)) = false ∧ (x == ("__classdict__" : Str)) = false) (hd : Drop x Δ Δ') (hv : T.rep g v y)
    (hQ : ∀ F' h' tk, F'.P = F.P → Ok M C ((x, .val T y) :: Δ') F' g h' → Q () { s with heap := h', toks := tk }) :
    wpAny (model M.prog M.w) C.A (storeName C.env x v) Q (fun _ _ => False) s := by
  obtain ⟨oL, hL, hfo⟩ := st.fr
  have hget := (st.st.priv _ (List.mem_append_left _ hL)).1
  refine wpAny_storeName_local hx (hfo.ns hget) (fun h' hn hs => ?_) (hp_of ok)
  obtain ⟨oL', hL', hfo'⟩ := FrO.of_ns hn
  have hst := st.st.upd (List.mem_append_left _ hL) hL' fun b o hb e => hs.extBut b o hb e
  rw [updP_Mn hL st.st.nd] at hst
  obtain ⟨as2, as3, hp, hb⟩ := st.bd.turn (m' := fun z => if z = x then some v else F.m z) (cm' := F.cm) (Mn' := updP F.Mn C.env.locals oL') hd
    (fun a ha o hm => mem_updP_ne (fun e => st.nd.loc (e ▸ ha)) hm)
    (fun z u hz hr => by
      obtain ⟨h1, h2, h3⟩ := hr
      refine ⟨h1, h2, ?_⟩
      rcases h3 with ⟨hl, hm⟩ | h3
      · exact .inl ⟨hl, by simp [hz, hm]⟩
      · exact .inr h3)
  refine hQ { F with m := fun z => if z = x then some v else F.m z, Mn := updP F.Mn C.env.locals oL', as := as2 } h' (s.toks + 1) rfl
    ⟨hst, ⟨oL', mem_updP_self hL, hfo'⟩, fun n' c hc => ?_, st.nd.sub hp, v, [], as2, rfl, ⟨hdb.1, hdb.2, .inl ⟨hx, by simp⟩⟩, ⟨rfl, hv⟩, hb⟩
  obtain ⟨o, hm, hd'⟩ := st.ce n' c hc
  exact ⟨o, mem_updP_ne (st.nd.2 n' c hc).1 hm, hd'⟩

theorem Ok.storeC (ok : C.Ok n) {F : FD} {g : PM} {s : Shared} {x : Str} {v : Value} {α : Type} {T : Ty α} {y : α} {Δ' : Dl} {Q : Unit → Shared → Prop} {c : Addr} (st : Ok M C Δ F g s.heap)
    (hx : C.env.kindOf x = some .cell) (hc : C.env.cells.lookup x = some c) (hdb : (x == ("__debug__" : Str)) = false ∧ (x == ("__classdict__" : Str)) = false) (hd : Drop x Δ Δ') (hv : T.rep g v y)
    (hQ : ∀ F' h' tk, F'.P = F.P → Ok M C ((x, .val T y) :: Δ') F' g h' → Q () { s with heap := h', toks := tk }) :
    wpAny (model M.prog M.w) C.A (storeName C.env x v) Q (fun _ _ => False) s := by
  obtain ⟨oc, hL, hfo⟩ := st.ce x c hc
  have hget := (st.st.priv _ (List.mem_append_left _ hL)).1
  refine wpAny_storeName_cell ok.kind hx hc ⟨oc, hget, hfo⟩ (fun h' hn hs => ?_)
  obtain ⟨oc', hL', hfo'⟩ := hn
  obtain ⟨hcL, hcas, hcu⟩ := st.nd.2 x c hc
  have hst := st.st.upd (List.mem_append_left _ hL) hL' fun b o hb e => hs.extBut b o hb e
  rw [updP_Mn hL st.st.nd] at hst
  obtain ⟨as2, as3, hp, hb⟩ := st.bd.turn (m' := F.m) (cm' := fun z => if z = x then some v else F.cm z) (Mn' := updP F.Mn c oc') hd
    (fun a ha o hm => mem_updP_ne (fun e => hcas (e ▸ ha)) hm)
    (fun z u hz hr => by
      obtain ⟨h1, h2, h3⟩ := hr
      refine ⟨h1, h2, ?_⟩
      rcases h3 with h3 | ⟨hk, c', hc', hm⟩
      · exact .inl h3
      · exact .inr ⟨hk, c', hc', by simp [hz, hm]⟩)
  obtain ⟨oL, hLm, hfr⟩ := st.fr
  refine hQ { F with cm := fun z => if z = x then some v else F.cm z, Mn := updP F.Mn c oc', as := as2 } h' s.toks rfl
    ⟨hst, ⟨oL, mem_updP_ne (Ne.symm hcL) hLm, hfr⟩, fun n' c' hc' => ?_, st.nd.sub hp, v, [], as2, rfl, ⟨hdb.1, hdb.2, .inr ⟨.inl hx, c, hc, by simp⟩⟩, ⟨rfl, hv⟩, hb⟩
  by_cases hnx : n' = x
  · subst hnx
    rw [hc] at hc'; cases hc'
    exact ⟨oc', mem_updP_self hL, by simpa using hfo'⟩
  · obtain ⟨o, hm, hd'⟩ := st.ce n' c' hc'
    refine ⟨o, mem_updP_ne (fun e => hnx ?_) hm, by simpa [hnx] using hd'⟩
    subst e
    exact (st.nd.2 x _ hc).2.2 n' hc'

/- a name that may be bound -/
noncomputable def Bn (C : Cx) (x : Str) : Prop :=
  (C.env.kindOf x = some .local ∨ (C.env.kindOf x = some .cell ∧ ∃ c, C.env.cells.lookup x = some c)) ∧ (x == ("__debug__" : Str)) = false ∧ (x == ("__classdict__" : Str)) = false
theorem Ok.store (ok : C.Ok n) {F : FD} {g : PM} {s : Shared} {x : Str} {v : Value} {α : Type} {T : Ty α} {y : α} {Δ' : Dl} {Q : Unit → Shared → Prop} (st : Ok M C Δ F g s.heap)
    (hx : Bn C x) (hd : Drop x Δ Δ') (hv : T.rep g v y)
    (hQ : ∀ F' h' tk, F'.P = F.P → Ok M C ((x, .val T y) :: Δ') F' g h' → Q () { s with heap := h', toks := tk }) :
    wpAny (model M.prog M.w) C.A (storeName C.env x v) Q (fun _ _ => False) s := by
  obtain ⟨hk, hdb⟩ := hx
  rcases hk with hl | ⟨hk, c, hc⟩
  · exact st.storeL ok hl hdb hd hv hQ
  · exact st.storeC ok hk hc hdb hd hv hQ

theorem Ws.weak {Δ Δ' : Dl} {ss : List Stmt} {α : Type} {T : Ty α} {r : α} {K : Dl → Prop} (w : Wk M C Δ Δ') (h : Ws M C Δ' ss T r K) : Ws M C Δ ss T r K := fun F g s Q st hN hR => by
  obtain ⟨F', g', e, l, st'⟩ := w F g _ st
  exact h F' g' s Q st' (fun Δ' F2 g2 h2 tk2 e2 l2 st2 k => hN Δ' F2 g2 h2 tk2 (e2.trans e) (l.trans l2) st2 k) (fun v g2 h2 tk2 l2 st2 ht => hR v g2 h2 tk2 (l.trans l2) (e ▸ st2) ht)

theorem Ws.nil {α : Type} {T : Ty α} {r : α} {K : Dl → Prop} (h : K Δ) : Ws M C Δ [] T r K := fun F g s Q st hN hR =>
  wpAny_execs_nil (hN Δ F g s.heap s.toks rfl (.refl _) st h)
theorem Ws.ret {e : Expr} {pos : Pos} {rest : List Stmt} {α : Type} {T : Ty α} {r y : α} {K : Dl → Prop} (h : Ev M C Δ e T y) (hy : y = r) : Ws M C Δ (.Return (some e) pos :: rest) T r K := fun F g s Q st hN hR =>
  wpAny_execs_cons (wpAny_Return_some (h F g s _ st fun v g1 h1 tk1 l1 st1 ht1 => hR v g1 h1 tk1 l1 st1.st.dropL (hy ▸ ht1)))
theorem Ws.assign (ok : C.Ok n) {x : Str} {e : Expr} {px pos : Pos} {rest : List Stmt} {α β : Type} {S : Ty β} {y : β} {T : Ty α} {r : α} {K : Dl → Prop} {Δ' : Dl} (h : Ev M C Δ e S y)
    (hx : Bn C x) (hd : Drop x Δ Δ')
    (hr : Ws M C ((x, .val S y) :: Δ') rest T r K) (hs : swapsWith e (some (.Name x px)) pos.line C.env = pure false) :
    Ws M C Δ (.Assign [.Name x px] e pos :: rest) T r K := fun F g s Q st hN hR =>
  wpAny_execs_cons (wpAny_Assign_Name (h F g s _ st fun v g1 h1 tk1 l1 st1 ht1 => st1.store ok hx hd ht1 fun F2 h2 tk2 e2 st2 =>
    hr F2 g1 _ Q st2 (fun Δ3 F3 g3 h3 tk3 e3 l3 st3 k => hN Δ3 F3 g3 h3 tk3 (e3.trans e2) (l1.trans l3) st3 k)
      (fun v g3 h3 tk3 l3 st3 ht => hR v g3 h3 tk3 (l1.trans l3) (e2 ▸ st3) ht)) hs)

theorem execs_split {env : Env} {MM : Model} {Γ : Ctx} {E : Value → Pos → Shared → Prop} {Q : Flow → Pos → Shared → Prop} {b : List Stmt} : ∀ {a : List Stmt} {p : Pos} {s : Shared}, Sem.wp MM Γ (execs (a ++ b) env) Q E p s →
    Sem.wp MM Γ (execs a env) (fun f p' s' => Sem.wp MM Γ (match f with | .next => execs b env | f => pure f) Q E p' s') E p s
  | [], p, s, h => h
  | st :: r, p, s, h => by
    rw [List.cons_append, execs_cons, Sem.wp_bind'] at h
    rw [execs_cons, Sem.wp_bind']
    refine Sem.wp_mono MM Γ _ (fun f p' s' h2 => ?_) (fun _ _ _ e => e) p s h
    cases f with
    | next => exact execs_split (a := r) h2
    | brk => exact h2
    | cont => exact h2
    | ret v => exact h2

theorem Ws.ite {t : Expr} {a b rest : List Stmt} {pos : Pos} {q : Bool} {α : Type} {T : Ty α} {r : α} {K : Dl → Prop} (ht : EvB M C Δ t q)
    (ha : q = true → Ws M C Δ (a ++ rest) T r K) (hb : q = false → Ws M C Δ (b ++ rest) T r K) : Ws M C Δ (.If t a b pos :: rest) T r K := fun F g s Q st hN hR => by
  have h1 : wpAny (model M.prog M.w) C.A (isTrue t C.env (eval t C.env)) (fun q' s' => wpAny (model M.prog M.w) C.A (execs ((if q' then a else b) ++ rest) C.env) Q (fun _ _ => False) s') (fun _ _ => False) s :=
    ht F g s _ st fun g1 h1 tk1 l1 st1 => by
      cases q with
      | true => exact ha rfl F g1 _ Q st1 (fun Δ3 F3 g3 h3 tk3 e3 l3 st3 k => hN Δ3 F3 g3 h3 tk3 e3 (l1.trans l3) st3 k) (fun v g3 h3 tk3 l3 st3 ht => hR v g3 h3 tk3 (l1.trans l3) st3 ht)
      | false => exact hb rfl F g1 _ Q st1 (fun Δ3 F3 g3 h3 tk3 e3 l3 st3 k => hN Δ3 F3 g3 h3 tk3 e3 (l1.trans l3) st3 k) (fun v g3 h3 tk3 l3 st3 ht => hR v g3 h3 tk3 (l1.trans l3) st3 ht)
  intro Γ p hΓ
  rw [execs_cons, Sem.wp_bind']
  simp only [exec_If, Sem.wp_bind', Sem.wp_cmd_standAt]
  refine Sem.wp_mono _ Γ _ (fun q' p' s' h2 => ?_) (fun _ _ _ e => e) _ s (h1 Γ _ hΓ)
  have h3 := h2 Γ p' hΓ
  cases q' with
  | true => exact execs_split h3
  | false => exact execs_split h3
theorem Ws.pass {pos : Pos} {rest : List Stmt} {α : Type} {T : Ty α} {r : α} {K : Dl → Prop} (h : Ws M C Δ rest T r K) : Ws M C Δ (.Pass pos :: rest) T r K := fun F g s Q st hN hR =>
  wpAny_execs_cons (wpAny_Pass (h F g s Q st hN hR))

/- what may be gone through item by item -/
noncomputable def It (M : Pg) (C : Cx) (Δ : Dl) (e : Expr) {α : Type} (T : Ty α) (xs : List α) : Prop :=
  ∀ (F : FD) (g : PM) (s : Shared) (Q : Value → Shared → Prop), Ok M C Δ F g s.heap →
    (∀ I oI g' h' tk fp m Pi St, m = xs.length → Le g g' → Ok M C Δ F g' h' → StR M g' ((I, oI) :: (F.Mn ++ F.P)) h' → Walks M.prog M.w C.A I fp [I] m Pi St → (∀ b ∈ fp, b = I ∨ ∃ o, g' b = some o) →
      St 0 h' → (∀ i h, St i h → ∃ o, h.get? I = some o) → (∀ i v, Pi i v → ∃ a, xs[i]? = some a ∧ ∀ g'', Le g' g'' → T.rep g'' v a) → Q (.ref I) { s with heap := h', toks := tk }) →
    wpAny (model M.prog M.w) C.A (eval e C.env) (fun x s₁ => wpAny (model M.prog M.w) C.A (pyIter x) Q (fun _ _ => False) s₁) (fun _ _ => False) s

theorem Ok.withP {F : FD} {g : PM} {h : Heap} (st : Ok M C Δ F g h) {P' : List (Addr × Obj)} (hst : StR M g (F.Mn ++ P') h) : Ok M C Δ { F with P := P' } g h := ⟨hst, st.fr, st.ce, st.nd, st.bd⟩

theorem StR.out {g : PM} {P : List (Addr × Obj)} {h : Heap} {a : Addr} {o : Obj} (x : StR M g ((a, o) :: P) h) : h.get? a = some o ∧ g a = none ∧ a ∉ P.map (·.1) := by
  have hn := x.nd
  rw [List.map_cons, List.nodup_cons] at hn
  exact ⟨(x.priv _ (List.mem_cons_self ..)).1, (x.priv _ (List.mem_cons_self ..)).2, hn.1⟩
theorem StR.but {g : PM} {P : List (Addr × Obj)} {h h' : Heap} {a : Addr} (x : StR M g P h) (hg : g a = none) (hP : a ∉ P.map (·.1)) (hk : ∀ b o, b ≠ a → h.get? b = some o → h'.get? b = some o) : StR M g P h' :=
  ⟨x.base, fun b o e => hk b o (fun e' => by subst e'; rw [hg] at e; cases e) (x.keep b o e),
   fun p hp => ⟨hk _ _ (fun e => hP (e ▸ List.mem_map.mpr ⟨p, hp, rfl⟩)) (x.priv p hp).1, (x.priv p hp).2⟩, x.nd⟩
theorem StR.turnHead {g : PM} {P : List (Addr × Obj)} {h h' : Heap} {a : Addr} {o o' : Obj} (x : StR M g ((a, o) :: P) h) (ho : h'.get? a = some o') (hk : ∀ b o, b ≠ a → h.get? b = some o → h'.get? b = some o) :
    StR M g ((a, o') :: P) h' := by
  obtain ⟨_, hg, hP⟩ := x.out
  have y := x.drop.but hg hP hk
  refine ⟨y.base, y.keep, fun p hp => ?_, by rw [List.map_cons, List.nodup_cons]; exact ⟨hP, y.nd⟩⟩
  rcases List.mem_cons.mp hp with rfl | hp
  · exact ⟨ho, hg⟩
  · exact y.priv p hp
theorem perm_mid (A B : List (Addr × Obj)) (p : Addr × Obj) : (p :: (A ++ B)).Perm (A ++ p :: B) := List.perm_middle.symm

theorem Ws.for (ok : C.Ok n) {x : Str} {px pos : Pos} {iter : Expr} {body rest : List Stmt} {α β σ : Type} {S : Ty β} {xs : List β} {T : Ty α} {r : α} {K : Dl → Prop}
    (hi : It M C Δ iter S xs) (hx : Bn C x)
    (Inv : σ → Dl) (f : σ → β → σ) (s0 : σ) (h0 : Wk M C Δ (Inv s0)) (hno : ∀ s, Drop x (Inv s) (Inv s))
    (hb : ∀ i a, xs[i]? = some a → Ws M C ((x, .val S a) :: Inv ((xs.take i).foldl f s0)) body T r (fun Δ' => Wk M C Δ' (Inv (f ((xs.take i).foldl f s0) a))))
    (hr : Ws M C (Inv (xs.foldl f s0)) rest T r K)
    (hs : ∀ v, foldedSetIterable iter C.env v = pure v := by intro _; rfl) :
    Ws M C Δ (.For (.Name x px) iter body [] pos :: rest) T r K := fun F g s Q st hN hR => by
  refine wpAny_execs_cons (wpAny_For (hi F g s _ st fun I oI g1 h1 tk1 fp m Pi St hm l1 st1 stI W hfp hst hI hP => ?_) hs)
  subst hm
  have st1I : Ok M C Δ { F with P := (I, oI) :: F.P } g1 h1 := st1.withP (stI.perm (perm_mid ..))
  obtain ⟨F2, g2, e2, l2, st2⟩ := h0 _ g1 h1 st1I
  refine codeAny_forLoop
    (fun k s' => ∃ i F' g' h' tk oI', s' = { s with heap := h', toks := tk } ∧ i ≤ xs.length ∧ k = xs.length + 1 - i ∧ F'.P = (I, oI') :: F.P ∧ Le g1 g' ∧ Ok M C (Inv ((xs.take i).foldl f s0)) F' g' h' ∧ St i h')
    ?_ (xs.length + 1) ⟨0, F2, g2, h1, tk1, oI, rfl, Nat.zero_le _, rfl, e2, l2, st2, hst⟩
  rintro k s' ⟨i, F', g', h', tk', oI', rfl, hin, rfl, eP, lg, st', hst'⟩
  have stQ : StR M g' ((I, oI') :: (F'.Mn ++ F.P)) h' := by
    have := st'.st
    rw [eP] at this
    exact this.perm (perm_mid ..).symm
  by_cases hlt : i < xs.length
  · refine W.item i _ _ _ hlt hst' fun v h₁ tk₁ hPi hst₁ hk₁ => ?_
    obtain ⟨oI'', hoI⟩ := hI _ _ hst₁
    obtain ⟨a, hxa, hrep⟩ := hP i v hPi
    have hk₂ : ∀ b o, b ≠ I → h'.get? b = some o → h₁.get? b = some o := fun b o hb e => hk₁ b o (fun hm => hb (List.mem_singleton.mp hm)) e
    have stQ' := stQ.turnHead hoI hk₂
    have st'' : Ok M C (Inv ((xs.take i).foldl f s0)) { F' with P := (I, oI'') :: F.P } g' h₁ := ⟨stQ'.perm (perm_mid ..), st'.fr, st'.ce, st'.nd, st'.bd⟩
    refine wpAny_assign_Name (wpAny_mono (Ok.store ok st'' hx (hno _) (hrep _ lg) (Q := fun _ s2 => wpAny (model M.prog M.w) C.A (execs body C.env) (fun f' s₃ => match f' with
          | .next | .cont => ∃ m, m < xs.length + 1 - i ∧ ∃ i F' g' h' tk oI', s₃ = { s with heap := h', toks := tk } ∧ i ≤ xs.length ∧ m = xs.length + 1 - i ∧ F'.P = (I, oI') :: F.P ∧ Le g1 g' ∧ Ok M C (Inv ((xs.take i).foldl f s0)) F' g' h' ∧ St i h'
          | .brk => _
          | .ret v => _) _ s2) fun F3 h3 tk3 e3 st3 => ?_) (fun _ _ h => h) fun _ _ h => h.elim)
    refine wpAny_mono (hb i a hxa F3 g' _ (fun f' s₃ => match f' with
          | .next | .cont => ∃ m, m < xs.length + 1 - i ∧ ∃ i F' g' h' tk oI', s₃ = { s with heap := h', toks := tk } ∧ i ≤ xs.length ∧ m = xs.length + 1 - i ∧ F'.P = (I, oI') :: F.P ∧ Le g1 g' ∧ Ok M C (Inv ((xs.take i).foldl f s0)) F' g' h' ∧ St i h'
          | .brk => False
          | .ret v => Q (.ret v) s₃) st3 ?_ ?_) (fun f' s₃ h => ?_) fun _ _ h => h.elim
    · intro Δ4 F4 g4 h4 tk4 e4 l4 st4 kw
      obtain ⟨F5, g5, e5, l5, st5⟩ := kw F4 g4 h4 st4
      refine ⟨xs.length + 1 - (i + 1), by omega, i + 1, F5, g5, h4, tk4, oI'', rfl, hlt, rfl, by rw [e5, e4, e3], lg.trans (l4.trans l5), ?_, ?_⟩
      · have e6 : xs.take (i + 1) = xs.take i ++ [a] := by rw [List.take_add_one, hxa]; rfl
        rw [e6, List.foldl_append]
        exact st5
      · refine W.frame _ _ _ hst₁ fun b hbf o e => ?_
        rcases hfp b hbf with rfl | ⟨o', ho'⟩
        · have h6 := (st4.st.priv (b, oI'') (List.mem_append_right _ (by rw [e4, e3]; exact List.mem_cons_self ..))).1
          rw [hoI] at e
          cases e
          exact h6
        · have h6 := st'.st.keep b o' (lg b o' ho')
          have hbI : b ≠ I := fun e => by subst e; have := stQ.out.2.1; rw [lg _ _ ho'] at this; cases this
          rw [hk₂ b o' hbI h6] at e
          cases e
          exact st4.st.keep b _ (l4 b _ (lg b _ ho'))
    · intro v' g4 h4 tk4 l4 st4 ht
      rw [e3] at st4
      exact hR v' g4 h4 tk4 (l1.trans (lg.trans l4)) st4.drop ht
    · cases f' with
      | next => exact h
      | cont => exact h
      | brk => exact h.elim
      | ret v => exact h
  · have hi' : i = xs.length := by omega
    subst hi'
    refine W.done _ _ _ hst' fun h₁ tk₁ hk₁ => wpAny_execs_nil ?_
    obtain ⟨_, hgI, hPI⟩ := stQ.out
    have st6 : StR M g' (F'.Mn ++ F.P) h₁ := stQ.drop.but hgI hPI fun b o hb e => hk₁ b o (fun hm => hb (List.mem_singleton.mp hm)) e
    have st7 : Ok M C (Inv (xs.foldl f s0)) { F' with P := F.P } g' h₁ := by
      have e : (xs.take xs.length).foldl f s0 = xs.foldl f s0 := by rw [List.take_length]
      rw [← e]
      exact ⟨st6, st'.fr, st'.ce, st'.nd, st'.bd⟩
    exact hr _ g' _ Q st7 (fun Δ4 F4 g4 h4 tk4 e4 l4 st4 k => hN Δ4 F4 g4 h4 tk4 e4 (l1.trans (lg.trans l4)) st4 k)
      (fun v g4 h4 tk4 l4 st4 ht => hR v g4 h4 tk4 (l1.trans (lg.trans l4)) st4 ht)
end

end Mine
end

-- C5
section
open PySem PySem.W PyProof.Rows
set_option linter.unusedVariables false
namespace Mine

noncomputable def dget {α : Type} (kvs : List (Str × α)) (k : Str) : Option α := (kvs.find? fun kv => kv.1 = k).map (·.2)
noncomputable def dset {α : Type} (kvs : List (Str × α)) (k : Str) (v : α) : List (Str × α) :=
  if kvs.any (fun kv => kv.1 = k) then kvs.map (fun kv => if kv.1 = k then (kv.1, v) else kv) else kvs ++ [(k, v)]

noncomputable abbrev KV {α : Type} (R : Value → α → Prop) : List (Str × Value) → List (Str × α) → Prop := F2 fun p q => p.1 = q.1 ∧ R p.2 q.2

theorem KV.get_some {α : Type} {R : Value → α → Prop} {k : Str} {x : α} : ∀ {ps : List (Str × Value)} {kvs : List (Str × α)}, KV R ps kvs → dget kvs k = some x → ∃ v, valueAt ps k = some v ∧ R v x
  | _, _, .nil, h => by simp [dget] at h
  | p :: ps, q :: kvs, .cons hr t, h => by
    unfold dget at h
    unfold valueAt
    rw [List.find?_cons] at h ⊢
    rw [hr.1]
    by_cases hk : q.1 = k
    · simp only [hk, decide_true, Option.map_some] at h ⊢
      cases h
      exact ⟨_, rfl, hr.2⟩
    · simp only [hk, decide_false] at h ⊢
      exact KV.get_some t h
theorem KV.get_none {α : Type} {R : Value → α → Prop} {k : Str} : ∀ {ps : List (Str × Value)} {kvs : List (Str × α)}, KV R ps kvs → dget kvs k = none → valueAt ps k = none
  | _, _, .nil, h => rfl
  | p :: ps, q :: kvs, .cons hr t, h => by
    unfold dget at h
    unfold valueAt
    rw [List.find?_cons] at h ⊢
    rw [hr.1]
    by_cases hk : q.1 = k
    · simp [hk] at h
    · simp only [hk, decide_false] at h ⊢
      exact KV.get_none t h
theorem KV.isSome {α : Type} {R : Value → α → Prop} {k : Str} {ps : List (Str × Value)} {kvs : List (Str × α)} (h : KV R ps kvs) : (valueAt ps k).isSome = (dget kvs k).isSome := by
  cases e : dget kvs k with
  | none => rw [KV.get_none h e]; rfl
  | some x => obtain ⟨v, hv, _⟩ := KV.get_some h e; rw [hv]; rfl
theorem KV.any {α : Type} {R : Value → α → Prop} {k : Str} : ∀ {ps : List (Str × Value)} {kvs : List (Str × α)}, KV R ps kvs → (ps.any fun kv => kv.1 = k) = kvs.any fun kv => kv.1 = k
  | _, _, .nil => rfl
  | p :: ps, q :: kvs, .cons hr t => by rw [List.any_cons, List.any_cons, KV.any t, hr.1]
theorem KV.setIn {α : Type} {R : Value → α → Prop} {k : Str} {v : Value} {x : α} (hv : R v x) : ∀ {ps : List (Str × Value)} {kvs : List (Str × α)}, KV R ps kvs →
    KV R (ps.map fun kv => if kv.1 = k then (kv.1, v) else kv) (kvs.map fun kv => if kv.1 = k then (kv.1, x) else kv)
  | _, _, .nil => .nil
  | p :: ps, q :: kvs, .cons hr t => by
    refine .cons ?_ (KV.setIn hv t)
    by_cases hk : q.1 = k
    · have hk' : p.1 = k := hr.1.trans hk
      simp only [hk, hk', if_true]
      exact ⟨trivial, hv⟩
    · have hk' : p.1 ≠ k := fun e => hk (hr.1.symm.trans e)
      simp only [hk, hk', if_false]
      exact hr
theorem KV.set {α : Type} {R : Value → α → Prop} {k : Str} {v : Value} {x : α} {ps : List (Str × Value)} {kvs : List (Str × α)} (h : KV R ps kvs) (hv : R v x) : KV R (stored ps k v) (dset kvs k x) := by
  unfold stored dset
  rw [KV.any h]
  split
  · exact KV.setIn hv h
  · exact F2.append h (.cons ⟨rfl, hv⟩ .nil)
theorem KV.keys {α : Type} {R : Value → α → Prop} : ∀ {ps : List (Str × Value)} {kvs : List (Str × α)}, KV R ps kvs → ps.map (·.1) = kvs.map (·.1)
  | _, _, .nil => rfl
  | p :: ps, q :: kvs, .cons hr t => by rw [List.map_cons, List.map_cons, KV.keys t, hr.1]

theorem dset_length {α : Type} (kvs : List (Str × α)) (k : Str) (v : α) : (dset kvs k v).length ≤ kvs.length + 1 := by
  unfold dset
  split
  · rw [List.length_map]; exact Nat.le_succ _
  · rw [List.length_append]; exact Nat.le_refl _

section
variable {M : Pg} {C : Cx} {Δ : Dl} {n : Nat}

theorem ListO.isList {α : Type} {T : Ty α} {g : PM} {o : Obj} {xs : List α} {h : Heap} {a : Addr} (x : ListO T g o xs) (ho : h.get? a = some o) : ∃ vs : List Value, h.IsList a vs.toArray ∧ F2 (T.rep g) vs xs := by
  obtain ⟨vs, n, hc, hd, hf⟩ := x
  exact ⟨vs, ⟨_, ho, hc, n, hd⟩, hf⟩
theorem ListO.of {α : Type} {T : Ty α} {g : PM} {xs : List α} {h : Heap} {a : Addr} {vs : List Value} (x : h.IsList a vs.toArray) (hf : F2 (T.rep g) vs xs) : ∃ o, h.get? a = some o ∧ ListO T g o xs := by
  obtain ⟨o, ho, hc, n, hd⟩ := x
  exact ⟨o, ho, vs, n, hc, hd, hf⟩
theorem DictO.dictOf {α : Type} {R : Value → α → Prop} {o : Obj} {kvs : List (Str × α)} {h : Heap} {a : Addr} (x : DictO M.prog M.w R o kvs) (ho : h.get? a = some o) :
    ∃ ps, h.DictOf (strKind M.prog M.w) a ps ∧ KV R ps kvs := by
  obtain ⟨ps, hd, hf⟩ := x
  exact ⟨ps, Heap.dictOf_iff.mpr ⟨o, ho, hd⟩, hf⟩
theorem notMods {a : Addr} (h : 3 < a) : (a == sysModules) = false := by
  have : a ≠ 1 := by intro e; subst e; exact absurd h (by decide)
  exact beq_eq_false_iff_ne.mpr this

/- where an object stands, so that it will still stand there -/
noncomputable def Stays (F : FD) (g : PM) (a : Addr) (o : Obj) : Prop := g a = some o ∨ (a, o) ∈ F.Mn
theorem Stays.get {F : FD} {g : PM} {a : Addr} {o : Obj} {h : Heap} (x : Stays F g a o) (st : Ok M C Δ F g h) : h.get? a = some o :=
  x.elim (fun e => st.st.keep a o e) fun e => (st.st.priv _ (List.mem_append_left _ e)).1
theorem Stays.mono {F : FD} {g g' : PM} {a : Addr} {o : Obj} (x : Stays F g a o) (l : Le g g') : Stays F g' a o := x.imp (l a o) id

/- a dict, one's own or not -/
noncomputable def EvD (M : Pg) (C : Cx) (Δ : Dl) (e : Expr) {α : Type} (T : Ty α) (kvs : List (Str × α)) : Prop :=
  ∀ (F : FD) (g : PM) (s : Shared) (Q : Value → Shared → Prop), Ok M C Δ F g s.heap →
    (∀ a o g' h' tk, Le g g' → Ok M C Δ F g' h' → Stays F g' a o → 3 < a → DictO M.prog M.w (T.rep g') o kvs → Q (.ref a) { s with heap := h', toks := tk }) →
    wpAny (model M.prog M.w) C.A (eval e C.env) Q (fun _ _ => False) s
noncomputable def tAny : Ty Unit := ⟨fun _ _ _ => True, fun _ h => h⟩

theorem EvD.of {e : Expr} {α : Type} {T : Ty α} {kvs : List (Str × α)} (h : Ev M C Δ e (tDict M.prog M.w T) kvs) : EvD M C Δ e T kvs := fun F g s Q st hQ =>
  h F g s _ st fun v g1 h1 tk1 l1 st1 ht1 => by
    obtain ⟨a, o, rfl, ho, k, hd⟩ := ht1
    exact hQ a o g1 h1 tk1 l1 st1 (.inl ho) k hd
theorem Bd.slot {g : PM} {m cm : Str → Option Value} {Mn : List (Addr × Obj)} {x : Str} {sl : Slot} : ∀ {Δ : Dl} {as : List Addr}, Bd M C g m cm Mn Δ as → (x, sl) ∈ Δ →
    ∃ v as1, Rd C.env m cm x v ∧ sl.holds M g Mn v as1
  | (_, _) :: Δ, as, ⟨v, as1, as2, a, b, c, d⟩, hm => by
    rcases List.mem_cons.mp hm with e | hm
    · obtain ⟨rfl, rfl⟩ := Prod.mk.inj e
      exact ⟨v, as1, b, c⟩
    · exact d.slot hm
theorem name_at (ok : C.Ok n) {F : FD} {g : PM} {s : Shared} {x : Str} {pos : Pos} {v : Value} {Q : Value → Shared → Prop} (st : Ok M C Δ F g s.heap) (hr : Rd C.env F.m F.cm x v) (fin : Q v s) :
    wpAny (model M.prog M.w) C.A (eval (.Name x pos) C.env) Q (fun _ _ => False) s := by
  obtain ⟨hd, hcd, hr⟩ := hr
  refine wpAny_Name ?_ hd
  rcases hr with ⟨hl, hv⟩ | ⟨hk, c, hc, hv⟩
  · obtain ⟨oL, hL, hfo⟩ := st.fr
    exact wpAny_loadName_local ok.kind hl (hfo.ns (st.st.priv _ (List.mem_append_left _ hL)).1) hv fin
  · obtain ⟨o, ho, hdat⟩ := st.ce x c hc
    have hcell : s.heap.IsCell c (some v) := ⟨o, (st.st.priv _ (List.mem_append_left _ ho)).1, hv ▸ hdat⟩
    rcases hk with hk | hk
    · exact wpAny_loadName_cell ok.kind hk hc hcell fin
    · exact wpAny_loadName_free ok.kind hk hc hcell fin hcd
theorem EvD.own (ok : C.Ok n) {x : Str} {pos : Pos} {α : Type} {T : Ty α} {kvs : List (Str × α)} (hm : (x, Slot.dict T kvs) ∈ Δ) : EvD M C Δ (.Name x pos) T kvs := fun F g s Q st hQ => by
  obtain ⟨v, as1, hr, a, o, rfl, _, hM, k, hd⟩ := st.bd.slot hm
  exact name_at ok st hr (hQ a o g s.heap s.toks (.refl _) st (.inr hM) k hd)
theorem keysOnly {α : Type} {R : Value → α → Prop} : ∀ {ps : List (Str × Value)} {kvs : List (Str × α)}, KV R ps kvs → KV (fun _ (_ : Unit) => True) ps (kvs.map fun q => (q.1, ()))
  | _, _, .nil => .nil
  | _, _, .cons hr t => .cons ⟨hr.1, trivial⟩ (keysOnly t)
theorem EvD.own2 (ok : C.Ok n) {x : Str} {pos : Pos} {α : Type} {T : Ty α} {kvs : List (Str × List (Str × α))} (hm : (x, Slot.dict2 T kvs) ∈ Δ) : EvD M C Δ (.Name x pos) tAny (kvs.map fun q => (q.1, ())) := fun F g s Q st hQ => by
  obtain ⟨v, as1, hr, a, o, bs, rfl, _, hM, k, ps, hd, hb, hf⟩ := st.bd.slot hm
  refine name_at ok st hr (hQ a o g s.heap s.toks (.refl _) st (.inr hM) k ⟨ps, hd, ?_⟩)
  exact keysOnly (R := fun v q => ∃ b ob, v = Value.ref b ∧ 3 < b ∧ (b, ob) ∈ F.Mn ∧ DictO M.prog M.w (T.rep g) ob q) hf

theorem Subscript_at {e i : Expr} {pos : Pos} {Q : Value → Shared → Prop} {s : Shared} {E : Value → Shared → Prop}
    (hs : ∀ o j, subscripted i false o j = operate [o, j] (getItem o j))
    (h : wpAny (model M.prog M.w) C.A (eval e C.env) (fun o s₁ => wpAny (model M.prog M.w) C.A (eval i C.env) (fun j s₂ => ∃ T id, s₂.TypeIs o T ∧ typeLookup (.type T) "__getitem__" = pure (some (.builtin id)) ∧
      wpAny (model M.prog M.w) C.A (getItem o j) Q E s₂) E s₁) E s) : wpAny (model M.prog M.w) C.A (eval (.Subscript e i pos) C.env) Q E s :=
  Subscript_ (wpAny_mono h (fun o s₁ h₁ => wpAny_mono h₁ (fun j s₂ ⟨T, id, hT, hl, h₂⟩ => tail_any hT hl h₂ (hs o j)) fun _ _ e => e) fun _ _ e => e)

theorem Ev.itemD {e i : Expr} {pos : Pos} {α : Type} {T : Ty α} {kvs : List (Str × α)} {k : Str} {x : α} (he : EvD M C Δ e T kvs) (hi : Ev M C Δ i tStr k) (hx : dget kvs k = some x)
    (hs : ∀ o j, subscripted i false o j = operate [o, j] (getItem o j) := by intro _ _; rfl) : Ev M C Δ (.Subscript e i pos) T x := fun F g s Q st hQ => by
  refine Subscript_at hs (he F g s _ st fun a o g1 h1 tk1 l1 st1 hS hk hd => hi F g1 _ _ st1 fun j g2 h2 tk2 l2 st2 ht2 => ?_)
  obtain ⟨t, rfl⟩ := ht2
  obtain ⟨ps, hdo, hkv⟩ := hd.dictOf (M := M) ((hS.mono l2).get st2)
  obtain ⟨v, hv, hr⟩ := KV.get_some hkv hx
  exact ⟨"dict", _, hdo.typeIs, slot_dict_getitem.lookup, wpAny_getItem_of (strKind_is ..) hdo.mapOf hv (hQ v g2 h2 _ (l1.trans l2) st2 (T.mono l2 hr))⟩
theorem EvD.item2 (ok : C.Ok n) {x : Str} {i : Expr} {px pos : Pos} {α : Type} {T : Ty α} {kvs : List (Str × List (Str × α))} {k : Str} {d : List (Str × α)} (hm : (x, Slot.dict2 T kvs) ∈ Δ)
    (hi : Ev M C Δ i tStr k) (hx : dget kvs k = some d) (hs : ∀ o j, subscripted i false o j = operate [o, j] (getItem o j) := by intro _ _; rfl) : EvD M C Δ (.Subscript (.Name x px) i pos) T d := fun F g s Q st hQ => by
  obtain ⟨v, as1, hr, a, o, bs, rfl, _, hM, hk, ps, hd, hb, hf⟩ := st.bd.slot hm
  refine Subscript_at hs (name_at ok st hr (hi F g _ _ st fun j g2 h2 tk2 l2 st2 ht2 => ?_))
  obtain ⟨t, rfl⟩ := ht2
  have hdo : h2.DictOf (strKind M.prog M.w) a ps := Heap.dictOf_iff.mpr ⟨o, (st2.st.priv _ (List.mem_append_left _ hM)).1, hd⟩
  obtain ⟨v, hv, b, ob, rfl, hb3, hbM, hbd⟩ := KV.get_some (R := fun v q => ∃ b ob, v = Value.ref b ∧ 3 < b ∧ (b, ob) ∈ F.Mn ∧ DictO M.prog M.w (T.rep g) ob q) hf hx
  exact ⟨"dict", _, Heap.DictOf.typeIs (s := { s with heap := h2, toks := tk2 }) hdo, slot_dict_getitem.lookup, wpAny_getItem_of (s := { s with heap := h2, toks := tk2 }) (strKind_is ..) hdo.mapOf hv (hQ b ob g2 h2 _ l2 st2 (.inr hbM) hb3 (hbd.mono fun _ _ => T.mono l2))⟩

theorem Ev.itemL {e i : Expr} {pos : Pos} {α : Type} {T : Ty α} {xs : List α} {k : Int} {x : α} (he : Ev M C Δ e (tList T) xs) (hi : Ev M C Δ i tInt k) (h0 : 0 ≤ k) (hx : xs[k.toNat]? = some x) (hz : k < 2 ^ 62)
    (hs : ∀ o j, subscripted i false o j = operate [o, j] (getItem o j) := by intro _ _; rfl) : Ev M C Δ (.Subscript e i pos) T x := fun F g s Q st hQ => by
  refine Subscript_at hs (he F g s _ st fun v g1 h1 tk1 l1 st1 ht1 => hi F g1 _ _ st1 fun j g2 h2 tk2 l2 st2 ht2 => ?_)
  obtain ⟨t, rfl⟩ := ht2
  obtain ⟨a, o, rfl, ho, hl⟩ := ht1
  obtain ⟨vs, hL, hf⟩ := hl.isList (st2.st.keep _ _ (l2 _ _ ho))
  obtain ⟨v, hv, hr⟩ := hf.get' hx
  exact ⟨"list", _, Heap.IsList.typeIs (s := { s with heap := h2, toks := tk2 }) hL, slot_list_getitem.lookup, wpAny_getItem_list (s := { s with heap := h2, toks := tk2 }) hL h0 (by omega) (by simpa using hv) (hQ v g2 h2 _ (l1.trans l2) st2 (T.mono l2 hr))⟩
theorem Ev.itemS {e i : Expr} {pos : Pos} {x : Str} {k : Int} {c : Nat} (he : Ev M C Δ e tStr x) (hi : Ev M C Δ i tInt k) (h0 : -(2 ^ 63) ≤ k) (h1 : k < 2 ^ 63) (hc : (seqIndex? k x.length).bind (x.cps[·]?) = some c)
    (hs : ∀ o j, subscripted i false o j = operate [o, j] (getItem o j) := by intro _ _; rfl) : Ev M C Δ (.Subscript e i pos) tStr ⟨#[c]⟩ := fun F g s Q st hQ => by
  refine Subscript_at hs (he F g s _ st fun v g1 h1' tk1 l1 st1 ht1 => hi F g1 _ _ st1 fun j g2 h2 tk2 l2 st2 ht2 => ?_)
  obtain ⟨t, rfl⟩ := ht2
  obtain ⟨u, rfl⟩ := ht1
  refine ⟨"str", _, typeIs_str _ _ _, PySem.F.slot_str_getitem.lookup, P.getItem_str ?_ hc (hQ _ g2 h2 _ (l1.trans l2) st2 ⟨_, rfl⟩)⟩
  simp only [Bool.or_eq_false_iff, decide_eq_false_iff_not]
  omega
theorem Ev.itemF {e : Expr} {pos pi : Pos} {kc : Nat} {α : Type} {T : Ty α} {x : Five α} (he : Ev M C Δ e (tFive T) x) :
    Ev M C Δ (.Subscript e (.Constant (.int 4) kc pi) pos) T x.callers := fun F g s Q st hQ => by
  refine Subscript_at (by intro _ _; rfl) (he F g s _ st fun v g1 h1 tk1 l1 st1 ht1 => wpAny_Constant_int ?_)
  obtain ⟨a, o, t1, t2, t3, t4, v5, rfl, ho, ⟨nn, rfl⟩, hv⟩ := ht1
  have hT : h1.IsTuple a [Value.int x.cc t1, Value.int x.nc t2, Value.int x.tt t3, Value.int x.ct t4, v5].toArray := ⟨_, st1.st.keep _ _ ho, rfl, nn, rfl⟩
  have hTup : IsTup h1 a [Value.int x.cc t1, Value.int x.nc t2, Value.int x.tt t3, Value.int x.ct t4, v5].toArray := hT
  exact ⟨"tuple", _, hTup.typeIs (s := { s with heap := h1, toks := tk1 + 1 }), slot_tuple_getitem.lookup,
    PyProof.Rows.getItem_tuple (s := { s with heap := h1, toks := tk1 + 1 }) hTup (by omega) (by omega) (j := 4) (by rfl) (by rfl) (hQ v5 g1 h1 _ l1 st1 hv)⟩
end

end Mine
end

-- C6
section
open PySem PySem.W PyProof.Rows
set_option linter.unusedVariables false
namespace Mine

section
variable {M : Pg} {C : Cx} {Δ : Dl} {n : Nat}

/- a new object, nobody else's -/
noncomputable def EvO (M : Pg) (C : Cx) (Δ : Dl) (e : Expr) (PO : PM → Obj → Prop) : Prop :=
  ∀ (F : FD) (g : PM) (s : Shared) (Q : Value → Shared → Prop), Ok M C Δ F g s.heap →
    (∀ a o g' h' tk, Le g g' → StR M g' ((a, o) :: (F.Mn ++ F.P)) h' → 3 < a → PO g' o → Q (.ref a) { s with heap := h', toks := tk }) →
    wpAny (model M.prog M.w) C.A (eval e C.env) Q (fun _ _ => False) s

theorem Ev.ofO {e : Expr} {PO : PM → Obj → Prop} {α : Type} {T : Ty α} {x : α} (h : EvO M C Δ e PO) (hm : ∀ g g' o, Le g g' → PO g o → PO g' o)
    (hT : ∀ g a o, PO g o → g a = some o → 3 < a → T.rep g (.ref a) x) : Ev M C Δ e T x := fun F g s Q st hQ =>
  h F g s _ st fun a o g1 h1 tk1 l1 st1 ha hp => by
    have hg := st1.out.2.1
    exact hQ _ _ h1 tk1 (l1.trans (PM.le_put hg)) (st.ext (l1.trans (PM.le_put hg)) st1.freeze) (hT _ a o (hm _ _ _ (PM.le_put hg) hp) PM.put_self ha)

noncomputable def LO {α : Type} (T : Ty α) (xs : List α) : PM → Obj → Prop := fun g o => PlainO T g o xs
noncomputable def DO (M : Pg) {α : Type} (T : Ty α) (kvs : List (Str × α)) : PM → Obj → Prop := fun g o => DictO M.prog M.w (T.rep g) o kvs
theorem Ev.ofLO {e : Expr} {α : Type} {T : Ty α} {xs : List α} (h : EvO M C Δ e (LO T xs)) : Ev M C Δ e (tList T) xs :=
  Ev.ofO h (fun _ _ _ l x => x.mono l) fun g a o x ha _ => ⟨a, o, rfl, ha, x.1⟩
theorem Ev.ofDO {e : Expr} {α : Type} {T : Ty α} {kvs : List (Str × α)} (h : EvO M C Δ e (DO M T kvs)) : Ev M C Δ e (tDict M.prog M.w T) kvs :=
  Ev.ofO h (fun _ _ _ l x => x.mono fun _ _ => T.mono l) fun g a o x ha h3 => ⟨a, o, rfl, ha, h3, x⟩
theorem EvO.cast {e : Expr} {PO PO' : PM → Obj → Prop} (h : EvO M C Δ e PO) (hp : ∀ g o, PO g o → PO' g o) : EvO M C Δ e PO' := fun F g s Q st hQ =>
  h F g s Q st fun a o g1 h1 tk1 l1 st1 ha hp' => hQ a o g1 h1 tk1 l1 st1 ha (hp _ _ hp')

/- an object laid on the heap's end -/
theorem StR.push {g : PM} {P : List (Addr × Obj)} {h : Heap} (x : StR M g P h) (o : Obj) (ho : o.isFreed = false) : StR M g ((h.objs.size, o) :: P) (h.push o) := by
  refine x.own ?_ (fun b o' e => Heap.get?_push_of_some _ e) (Heap.get?_push_size _ ho)
  cases e : h.get? h.objs.size with
  | none => rfl
  | some o' => exact absurd (Heap.lt_size e) (Nat.lt_irrefl _)

noncomputable def repL {α : Type} (T : Ty α) : PM → List Value → List α → Prop := fun g vs xs => F2 (T.rep g) vs xs
theorem EvArgs.nil {α : Type} {T : Ty α} : EvArgs M C Δ [] (repL T) [] := fun F g s Q st hQ => Calls.spliced_nil (hQ [] g s.heap s.toks (.refl _) st .nil)
theorem EvArgs.cons {e : Expr} {es : List Expr} {α : Type} {T : Ty α} {x : α} {xs : List α} (h : Ev M C Δ e T x) (hr : EvArgs M C Δ es (repL T) xs) : EvArgs M C Δ (e :: es) (repL T) (x :: xs) := fun F g s Q st hQ =>
  Calls.spliced_cons (h F g s _ st fun v g1 h1 tk1 l1 st1 ht1 => hr F g1 _ _ st1 fun vs g2 h2 tk2 l2 st2 ht2 => hQ _ g2 h2 tk2 (l1.trans l2) st2 (.cons (T.mono l2 ht1) ht2))

theorem EvO.list {es : List Expr} {pos : Pos} {α : Type} {T : Ty α} {xs : List α} (h : EvArgs M C Δ es (repL T) xs) (hz : xs.length ≤ sizeLine) (hs : starEach es C.env = es.map fun e => (false, eval e C.env)) :
    EvO M C Δ (.List es pos) (LO T xs) := fun F g s Q st hQ => by
  refine wpAny_List ?_
  rw [backTo_plain hs]
  refine h F g s _ st fun vs g1 h1 tk1 l1 st1 ht1 => ⟨by rw [F2.length ht1]; exact hz, ?_⟩
  exact hQ _ _ g1 _ tk1 l1 (st1.st.push _ rfl) st1.st.lt ⟨⟨vs, 0, rfl, rfl, ht1⟩, rfl⟩
theorem Ev.tup {es : List Expr} {k : Nat} {pos : Pos} {ι α : Type} {reps : PM → List Value → ι → Prop} {y : ι} {T : Ty α} {x : α} (h : EvArgs M C Δ es reps y)
    (hm : ∀ g g' vs, Le g g' → reps g vs y → reps g' vs y) (hz : ∀ g vs, reps g vs y → vs.length ≤ sizeLine)
    (hT : ∀ g vs a, reps g vs y → g a = some { cls := .type "tuple", data := .seq vs.toArray } → T.rep g (.ref a) x) (hs : starEach es C.env = es.map fun e => (false, eval e C.env)) :
    Ev M C Δ (.Tuple es k pos) T x := fun F g s Q st hQ => by
  refine wpAny_Tuple ?_
  rw [backTo_plain hs]
  refine h F g s _ st fun vs g1 h1 tk1 l1 st1 ht1 => ⟨hz _ _ ht1, ?_⟩
  have hst := st1.st.push { cls := .type "tuple", data := .seq vs.toArray } rfl
  have hg := hst.out.2.1
  exact hQ _ _ _ tk1 (l1.trans (PM.le_put hg)) (st.ext (l1.trans (PM.le_put hg)) hst.freeze) (hT _ vs _ (hm _ _ _ (PM.le_put hg) ht1) PM.put_self)
theorem Ev.pair {e1 e2 : Expr} {k : Nat} {pos : Pos} {α β : Type} {S : Ty α} {T : Ty β} {x : α} {y : β} (h1 : Ev M C Δ e1 S x) (h2 : Ev M C Δ e2 T y)
    (hs : starEach [e1, e2] C.env = [e1, e2].map fun e => (false, eval e C.env)) : Ev M C Δ (.Tuple [e1, e2] k pos) (tPair S T) (x, y) :=
  Ev.tup (EvArgs.two h1 h2) (fun g g' vs l ⟨v, u, a, b, c⟩ => ⟨v, u, a, S.mono l b, T.mono l c⟩) (fun g vs ⟨v, u, a, _, _⟩ => by subst a; exact (by decide : 2 ≤ sizeLine))
    (fun g vs a ⟨v, u, e, b, c⟩ ha => ⟨a, _, v, u, rfl, ha, ⟨0, by rw [e]⟩, b, c⟩) hs
noncomputable def rep5 {α : Type} (T : Ty α) : PM → List Value → Five α → Prop := fun g vs x => ∃ t1 t2 t3 t4 v5, vs = [.int x.cc t1, .int x.nc t2, .int x.tt t3, .int x.ct t4, v5] ∧ T.rep g v5 x.callers
theorem EvArgs.five {e1 e2 e3 e4 e5 : Expr} {α : Type} {T : Ty α} {a b c d : Int} {x : α} (h1 : Ev M C Δ e1 tInt a) (h2 : Ev M C Δ e2 tInt b) (h3 : Ev M C Δ e3 tInt c) (h4 : Ev M C Δ e4 tInt d) (h5 : Ev M C Δ e5 T x) :
    EvArgs M C Δ [e1, e2, e3, e4, e5] (rep5 T) ⟨a, b, c, d, x⟩ := fun F g s Q st hQ =>
  Calls.spliced_cons (h1 F g s _ st fun v1 g1 hh1 tk1 l1 st1 ht1 => Calls.spliced_cons (h2 F g1 _ _ st1 fun v2 g2 hh2 tk2 l2 st2 ht2 =>
    Calls.spliced_cons (h3 F g2 _ _ st2 fun v3 g3 hh3 tk3 l3 st3 ht3 => Calls.spliced_cons (h4 F g3 _ _ st3 fun v4 g4 hh4 tk4 l4 st4 ht4 =>
      Calls.spliced_cons (h5 F g4 _ _ st4 fun v5 g5 hh5 tk5 l5 st5 ht5 => Calls.spliced_nil (by
        obtain ⟨t1, rfl⟩ := ht1; obtain ⟨t2, rfl⟩ := ht2; obtain ⟨t3, rfl⟩ := ht3; obtain ⟨t4, rfl⟩ := ht4
        exact hQ _ g5 hh5 tk5 (l1.trans (l2.trans (l3.trans (l4.trans l5)))) st5 ⟨t1, t2, t3, t4, v5, rfl, ht5⟩))))))
theorem Ev.five {e1 e2 e3 e4 e5 : Expr} {k : Nat} {pos : Pos} {α : Type} {T : Ty α} {a b c d : Int} {x : α} (h1 : Ev M C Δ e1 tInt a) (h2 : Ev M C Δ e2 tInt b) (h3 : Ev M C Δ e3 tInt c) (h4 : Ev M C Δ e4 tInt d) (h5 : Ev M C Δ e5 T x)
    (hs : starEach [e1, e2, e3, e4, e5] C.env = [e1, e2, e3, e4, e5].map fun e => (false, eval e C.env)) : Ev M C Δ (.Tuple [e1, e2, e3, e4, e5] k pos) (tFive T) ⟨a, b, c, d, x⟩ :=
  Ev.tup (EvArgs.five h1 h2 h3 h4 h5) (fun g g' vs l ⟨t1, t2, t3, t4, v5, e, r⟩ => ⟨t1, t2, t3, t4, v5, e, T.mono l r⟩) (fun g vs ⟨t1, t2, t3, t4, v5, e, r⟩ => by subst e; exact (by decide : 5 ≤ sizeLine))
    (fun g vs a ⟨t1, t2, t3, t4, v5, e, r⟩ ha => ⟨a, _, t1, t2, t3, t4, v5, rfl, ha, ⟨0, by rw [e]⟩, r⟩) hs

/- the pairs of a dict display -/
noncomputable def EvPairs (M : Pg) (C : Cx) (Δ : Dl) (ts : List (Sem Value × Sem Value)) {α : Type} (T : Ty α) (kvs : List (Str × α)) : Prop :=
  ∀ (F : FD) (g : PM) (s : Shared) (Q : List (Value × Value) → Shared → Prop), Ok M C Δ F g s.heap →
    (∀ vs g' h' tk, Le g g' → Ok M C Δ F g' h' → F2 (fun v q => (∃ t, v.1 = Value.str q.1 t) ∧ T.rep g' v.2 q.2) vs kvs → Q vs { s with heap := h', toks := tk }) →
    wpAny (model M.prog M.w) C.A (evalPairs ts) Q (fun _ _ => False) s
theorem EvPairs.nil {α : Type} {T : Ty α} : EvPairs M C Δ [] T [] := fun F g s Q st hQ => evalPairs_nil (hQ [] g s.heap s.toks (.refl _) st .nil)
theorem EvPairs.cons {k v : Expr} {pos : Pos} {ts : List (Sem Value × Sem Value)} {α : Type} {T : Ty α} {x : Str} {y : α} {kvs : List (Str × α)} (hk : Ev M C Δ k tStr x) (hv : Ev M C Δ v T y) (hr : EvPairs M C Δ ts T kvs) :
    EvPairs M C Δ ((eval k C.env, do let x ← eval v C.env; standAt pos; pure x) :: ts) T ((x, y) :: kvs) := fun F g s Q st hQ => by
  refine evalPairs_cons (hk F g s _ st fun kv g1 h1 tk1 l1 st1 ht1 => wpAny_bind (hv F g1 _ _ st1 fun vv g2 h2 tk2 l2 st2 ht2 => wpAny_bind (wpAny_standAt (wpAny_pure ?_))))
  exact hr F g2 _ _ st2 fun vs g3 h3 tk3 l3 st3 ht3 => hQ _ g3 h3 tk3 (l1.trans (l2.trans l3)) st3 (.cons ⟨ht1, T.mono l3 ht2⟩ ht3)

noncomputable def dsets {α : Type} (acc : List (Str × α)) (kvs : List (Str × α)) : List (Str × α) := kvs.foldl (fun a q => dset a q.1 q.2) acc
theorem dsets_merged {α : Type} {R : Value → α → Prop} : ∀ {vs : List (Value × Value)} {kvs : List (Str × α)} {acc : List (Str × Value)} {bcc : List (Str × α)}, F2 (fun v q => (∃ t, v.1 = Value.str q.1 t) ∧ R v.2 q.2) vs kvs → KV R acc bcc →
    ∃ ps, Carries (strKind M.prog M.w) vs ps ∧ KV R (merged acc ps) (dsets bcc kvs)
  | _, _, acc, bcc, .nil, h => ⟨[], trivial, by simpa [merged, dsets] using h⟩
  | (k, v) :: _, q :: _, acc, bcc, .cons ⟨⟨t, hk⟩, hr⟩ rest, h => by
    obtain ⟨ps, hc, hm⟩ := dsets_merged rest (KV.set (k := q.1) h hr)
    refine ⟨(q.1, v) :: ps, ⟨?_, rfl, hc⟩, ?_⟩
    · have hk' : k = Value.str q.1 t := hk
      rw [hk']; exact strKind_is ..
    · simpa [merged, dsets] using hm

theorem EvO.dict0 {pos : Pos} {α : Type} {T : Ty α} : EvO M C Δ (.Dict [] [] pos) (DO M T []) := fun F g s Q st hQ =>
  wpAny_Dict_empty (hQ _ _ g _ s.toks (.refl _) (st.st.push _ rfl) st.st.lt ⟨[], ⟨#[], 0, ⟨rfl, rfl, rfl⟩, rfl, fun _ he => by simp at he, .nil, .nil⟩, .nil⟩)
theorem EvO.dict {ks : List (Option Expr)} {vs : List Expr} {pos : Pos} {ts : List (Sem Value × Sem Value)} {α : Type} {T : Ty α} {kvs : List (Str × α)} (h : EvPairs M C Δ ts T kvs)
    (hshape : (evalEachOpt ks C.env).zip ((evalEach vs C.env).map fun v => do let x ← v; standAt pos; pure x) = ts.map fun p => (some p.1, p.2)) (h0 : ts ≠ []) (hlen : ts.length ≤ 15) :
    EvO M C Δ (.Dict ks vs pos) (DO M T (dsets [] kvs)) := fun F g s Q st hQ => by
  refine wpAny_Dict_pairs (knd := strKind M.prog M.w) hshape h0 hlen ?_
  have stP : StR M g ((s.heap.objs.size, { cls := .type "dict", data := .dict #[] }) :: (F.Mn ++ F.P)) (s.heap.push { cls := .type "dict", data := .dict #[] }) := st.st.push _ rfl
  have st0 : Ok M C Δ { F with P := (s.heap.objs.size, { cls := .type "dict", data := .dict #[] }) :: F.P } g (s.heap.push { cls := .type "dict", data := .dict #[] }) :=
    ⟨stP.perm (perm_mid ..), st.fr, st.ce, st.nd, st.bd⟩
  refine h _ g _ _ st0 fun vals g1 h1 tk1 l1 st1 ht1 => ?_
  obtain ⟨ps, hc, hm⟩ := dsets_merged (M := M) (R := T.rep g1) (acc := []) (bcc := []) ht1 .nil
  have st1P : StR M g1 ((s.heap.objs.size, { cls := .type "dict", data := .dict #[] }) :: (F.Mn ++ F.P)) h1 := st1.st.perm (perm_mid ..).symm
  refine ⟨ps, hc, ⟨_, #[], 0, st1P.out.1, ⟨rfl, rfl, rfl⟩, rfl, fun _ he => by simp at he, .nil, .nil⟩, fun h' hd hs => ?_⟩
  obtain ⟨o, ho, hdo⟩ := Heap.dictOf_iff.mp hd
  exact hQ _ o g1 h' _ l1 (st1P.turnHead ho fun b o hb e => hs.extBut b o hb e) st.st.lt ⟨_, hdo, hm⟩

end
end Mine
end

-- C7
section
open PySem PySem.W PyProof.Rows
set_option linter.unusedVariables false
namespace Mine

section
variable {M : Pg} {C : Cx} {Δ : Dl} {n : Nat}

theorem Bd.keepMn {g : PM} {m cm : Str → Option Value} {Mn Mn' : List (Addr × Obj)} : ∀ {Δ : Dl} {as : List Addr}, (∀ a ∈ as, ∀ o, (a, o) ∈ Mn → (a, o) ∈ Mn') → Bd M C g m cm Mn Δ as → Bd M C g m cm Mn' Δ as
  | [], _, _, h => h
  | _ :: _, _, hm, ⟨v, as1, as2, a, b, c, d⟩ => by
    subst a
    exact ⟨v, as1, as2, rfl, b, Slot.holds_Mn (fun y hy => hm y (List.mem_append_left _ hy)) c, d.keepMn fun y hy => hm y (List.mem_append_right _ hy)⟩
theorem Slot.as_mem {g : PM} {Mn : List (Addr × Obj)} : ∀ {sl : Slot} {v : Value} {as : List Addr}, sl.holds M g Mn v as → ∀ b ∈ as, ∃ ob, (b, ob) ∈ Mn
  | .val _ _, _, _, ⟨a, _⟩, b, hb => by subst a; cases hb
  | .list _ _, _, _, ⟨a, o, _, c, d, _⟩, b, hb => by subst c; rw [List.mem_singleton.mp hb]; exact ⟨o, d⟩
  | .slist _ _, _, _, ⟨a, o, _, c, d, _⟩, b, hb => by subst c; rw [List.mem_singleton.mp hb]; exact ⟨o, d⟩
  | .dict _ _, _, _, ⟨a, o, _, c, d, _⟩, b, hb => by subst c; rw [List.mem_singleton.mp hb]; exact ⟨o, d⟩
  | .dict2 T kvs, _, _, ⟨a, o, bs, _, c, d, _, ps, _, f, i⟩, b, hb => by
    subst c
    rcases List.mem_cons.mp hb with rfl | hb
    · exact ⟨o, d⟩
    · have h1 : Value.ref b ∈ ps.map (·.2) := f ▸ List.mem_map.mpr ⟨b, hb, rfl⟩
      obtain ⟨p, hp, e⟩ := List.mem_map.mp h1
      have go : ∀ {l : List (Str × Value)} {l' : List (Str × List (Str × _))}, F2 (fun p q => p.1 = q.1 ∧ ∃ b ob, p.2 = Value.ref b ∧ 3 < b ∧ (b, ob) ∈ Mn ∧ DictO M.prog M.w (T.rep g) ob q.2) l l' →
          p ∈ l → ∃ ob, (b, ob) ∈ Mn := by
        intro l l' h
        induction h with
        | nil => intro hp; cases hp
        | cons hr _ ih =>
          intro hp
          rcases List.mem_cons.mp hp with rfl | hp
          · obtain ⟨_, b', ob, u1, _, u2, _⟩ := hr
            rw [u1] at e
            injection e with e
            exact ⟨ob, e ▸ u2⟩
          · exact ih hp
      exact go i hp
theorem Bd.as_mem {g : PM} {m cm : Str → Option Value} {Mn : List (Addr × Obj)} : ∀ {Δ : Dl} {as : List Addr}, Bd M C g m cm Mn Δ as → ∀ b ∈ as, ∃ ob, (b, ob) ∈ Mn
  | [], _, h, b, hb => by subst h; cases hb
  | _ :: _, _, ⟨v, as1, as2, a, _, c, d⟩, b, hb => by
    subst a
    rcases List.mem_append.mp hb with hb | hb
    · exact Slot.as_mem c b hb
    · exact d.as_mem b hb

/- one's own object is turned, or gets objects within -/
theorem Ok.turn {F : FD} {g : PM} {h : Heap} {x : Str} {sl : Slot} {Δ' : Dl} (st : Ok M C Δ F g h) (pk : Pick (x, sl) Δ Δ') :
    ∃ v as1 as2, Rd C.env F.m F.cm x v ∧ sl.holds M g F.Mn v as1 ∧ as1.Nodup ∧ (∀ (Mn' : List (Addr × Obj)) (as1' : List Addr) (sl' : Slot) (g' : PM) (h' : Heap), Le g g' → StR M g' (Mn' ++ F.P) h' →
      (∀ b ob, (b, ob) ∈ F.Mn → b ∉ as1 → (b, ob) ∈ Mn') → sl'.holds M g' Mn' v as1' → (∀ b ∈ as1', b ∈ as1 ∨ b ∉ F.Mn.map (·.1)) → as1'.Nodup →
      Ok M C ((x, sl') :: Δ') { F with Mn := Mn', as := as1' ++ as2 } g' h') := by
  obtain ⟨v, as1, as2, hp, hr, hh, hb⟩ := st.bd.pick pk
  have hnd : (C.env.locals :: (as1 ++ as2)).Nodup := (hp.cons _).nodup_iff.mp st.nd.1
  have hnd' := List.nodup_cons.mp hnd
  have hap := List.nodup_append.mp hnd'.2
  refine ⟨v, as1, as2, hr, hh, hap.1, fun Mn' as1' sl' g' h' l hst hk hh' hin hn' => ?_⟩
  obtain ⟨oL, hL, hfo⟩ := st.fr
  have notin : ∀ b ∈ as1', ∀ ob, (b, ob) ∈ F.Mn → b ∈ as1 := fun b hb ob hm => (hin b hb).resolve_right fun hn => hn (List.mem_map.mpr ⟨_, hm, rfl⟩)
  refine ⟨hst, ⟨oL, hk _ _ hL fun e => hnd'.1 (List.mem_append_left _ e), hfo⟩, fun n' c hc => ?_, ⟨?_, fun n' c hc => ?_⟩, v, as1', as2, rfl, hr, hh', ?_⟩
  · obtain ⟨o, hm, hd⟩ := st.ce n' c hc
    exact ⟨o, hk _ _ hm fun e => (st.nd.2 n' c hc).2.1 (hp.mem_iff.mpr (List.mem_append_left _ e)), hd⟩
  · refine List.nodup_cons.mpr ⟨fun hm => ?_, List.nodup_append.mpr ⟨hn', hap.2.1, fun b hb b' hb' e => ?_⟩⟩
    · rcases List.mem_append.mp hm with hm | hm
      · exact hnd'.1 (List.mem_append_left _ (notin _ hm _ hL))
      · exact hnd'.1 (List.mem_append_right _ hm)
    · subst e
      obtain ⟨ob, hob⟩ := st.bd.as_mem b (hp.mem_iff.mpr (List.mem_append_right _ hb'))
      exact hap.2.2 b (notin b hb ob hob) b hb' rfl
  · obtain ⟨a1, a2, a3⟩ := st.nd.2 n' c hc
    obtain ⟨o, hm, _⟩ := st.ce n' c hc
    refine ⟨a1, fun hi => ?_, a3⟩
    rcases List.mem_append.mp hi with hi | hi
    · exact a2 (hp.mem_iff.mpr (List.mem_append_left _ (notin _ hi _ hm)))
    · exact a2 (hp.mem_iff.mpr (List.mem_append_right _ hi))
  · have hb' := hb.mono l
    have drop0 : ∀ (Δ : Dl), Bd M C g' F.m F.cm F.Mn Δ as2 → Bd M C g' F.m F.cm Mn' Δ as2 := by
      intro Δ hB
      refine Bd.keepMn (fun b hbm ob hm => hk b ob hm fun e => hap.2.2 b e b hbm rfl) hB
    exact drop0 _ hb'

/- a value of one's own is bound to a name -/
theorem Ok.storeOwn (ok : C.Ok n) {F : FD} {g : PM} {s : Shared} {x : Str} {a : Addr} {o : Obj} {sl : Slot} {Δ' : Dl} {Q : Unit → Shared → Prop} (st : Ok M C Δ F g s.heap) (sto : StR M g ((a, o) :: (F.Mn ++ F.P)) s.heap)
    (hx : C.env.kindOf x = some .local) (hdb : (x == ("__debug__" : Str)) = false ∧ (x == ("__classdict__" : Str)) = false) (hd : Drop x Δ Δ') (hv : ∀ Mn, (a, o) ∈ Mn → sl.holds M g Mn (.ref a) [a])
    (hQ : ∀ F' h' tk, F'.P = F.P → Ok M C ((x, sl) :: Δ') F' g h' → Q () { s with heap := h', toks := tk }) :
    wpAny (model M.prog M.w) C.A (storeName C.env x (.ref a)) Q (fun _ _ => False) s := by
  obtain ⟨oL, hL, hfo⟩ := st.fr
  have hget := (st.st.priv _ (List.mem_append_left _ hL)).1
  refine wpAny_storeName_local hx (hfo.ns hget) (fun h' hn hs => ?_) (hp_of ok)
  obtain ⟨oL', hL', hfo'⟩ := FrO.of_ns hn
  have hane : a ∉ (F.Mn ++ F.P).map (·.1) := sto.out.2.2
  have haL : a ≠ C.env.locals := fun e => hane (List.mem_map.mpr ⟨_, List.mem_append_left _ hL, e.symm⟩)
  have hst := sto.upd (List.mem_cons_of_mem _ (List.mem_append_left _ hL)) hL' fun b o hb e => hs.extBut b o hb e
  have e1 : updP ((a, o) :: (F.Mn ++ F.P)) C.env.locals oL' = ((a, o) :: updP F.Mn C.env.locals oL') ++ F.P := by
    show (if a = C.env.locals then _ else (a, o)) :: updP (F.Mn ++ F.P) C.env.locals oL' = _
    rw [if_neg haL, updP_Mn hL st.st.nd]; rfl
  rw [e1] at hst
  have hMas : ∀ b ∈ F.as, ∃ ob, (b, ob) ∈ F.Mn := by
    intro b hb
    exact Bd.as_mem st.bd b hb
  obtain ⟨as2, as3, hp, hb⟩ := st.bd.turn (m' := fun z => if z = x then some (.ref a) else F.m z) (cm' := F.cm) (Mn' := (a, o) :: updP F.Mn C.env.locals oL') hd
    (fun b hb o' hm => List.mem_cons_of_mem _ (mem_updP_ne (fun e => st.nd.loc (e ▸ hb)) hm))
    (fun z u hz hr => by
      obtain ⟨h1, h2, h3⟩ := hr
      refine ⟨h1, h2, ?_⟩
      rcases h3 with ⟨hl, hm⟩ | h3
      · exact .inl ⟨hl, by simp [hz, hm]⟩
      · exact .inr h3)
  have haas : a ∉ as2 := fun hm => by
    obtain ⟨ob, hob⟩ := hMas a (hp.mem_iff.mpr (List.mem_append_left _ hm))
    exact hane (List.mem_map.mpr ⟨_, List.mem_append_left _ hob, rfl⟩)
  refine hQ { F with m := fun z => if z = x then some (.ref a) else F.m z, Mn := (a, o) :: updP F.Mn C.env.locals oL', as := a :: as2 } h' (s.toks + 1) rfl
    ⟨hst, ⟨oL', List.mem_cons_of_mem _ (mem_updP_self hL), hfo'⟩, fun n' c hc => ?_, ?_, .ref a, [a], as2, rfl, ⟨hdb.1, hdb.2, .inl ⟨hx, by simp⟩⟩, hv _ (List.mem_cons_self ..), hb⟩
  · obtain ⟨o', hm, hd'⟩ := st.ce n' c hc
    exact ⟨o', List.mem_cons_of_mem _ (mem_updP_ne (st.nd.2 n' c hc).1 hm), hd'⟩
  · have h2 := st.nd.sub hp
    have h3 := List.nodup_cons.mp h2.1
    refine ⟨List.nodup_cons.mpr ⟨fun hm => ?_, List.nodup_cons.mpr ⟨haas, h3.2⟩⟩, fun n' c hc => ?_⟩
    · rcases List.mem_cons.mp hm with e | hm
      · exact haL e.symm
      · exact h3.1 hm
    · obtain ⟨b1, b2, b3⟩ := h2.2 n' c hc
      refine ⟨b1, fun hm => ?_, b3⟩
      rcases List.mem_cons.mp hm with e | hm
      · obtain ⟨o', hm', _⟩ := st.ce n' c hc
        exact hane (List.mem_map.mpr ⟨_, List.mem_append_left _ hm', e⟩)
      · exact b2 hm
end
end Mine
end

-- C8
section
open PySem PySem.W PyProof.Rows
set_option linter.unusedVariables false
namespace Mine

section
variable {M : Pg} {C : Cx} {Δ : Dl} {n : Nat}

theorem Rd.inj {env : Env} {m cm : Str → Option Value} {x : Str} {v u : Value} (h : Rd env m cm x v) (h' : Rd env m cm x u) : v = u := by
  obtain ⟨_, _, h⟩ := h
  obtain ⟨_, _, h'⟩ := h'
  rcases h with ⟨h1, h2⟩ | ⟨h1, c, hc, h2⟩
  · rcases h' with ⟨_, h3⟩ | ⟨h1', _⟩
    · rw [h2] at h3; exact Option.some.inj h3
    · rw [h1] at h1'; rcases h1' with e | e <;> cases e
  · rcases h' with ⟨h1', _⟩ | ⟨_, c', hc', h3⟩
    · rw [h1'] at h1; rcases h1 with e | e <;> cases e
    · rw [hc] at hc'; cases hc'; rw [h2] at h3; exact Option.some.inj h3
/- go on behind a statement that was an effect -/
theorem Ws.go {rest : List Stmt} {α : Type} {T : Ty α} {r : α} {K : Dl → Prop} {Δ' : Dl} (hr : Ws M C Δ' rest T r K) {F F' : FD} {g g' : PM} {s : Shared} {Q : Flow → Shared → Prop} {h' : Heap} {tk : Nat}
    (hN : ∀ Δ' F' g' h' tk, F'.P = F.P → Le g g' → Ok M C Δ' F' g' h' → K Δ' → Q .next { s with heap := h', toks := tk })
    (hR : ∀ v g' h' tk, Le g g' → StR M g' F.P h' → T.rep g' v r → Q (.ret v) { s with heap := h', toks := tk }) (e : F'.P = F.P) (l : Le g g') (st : Ok M C Δ' F' g' h') :
    wpAny (model M.prog M.w) C.A (execs rest C.env) Q (fun _ _ => False) { s with heap := h', toks := tk } :=
  hr F' g' _ Q st (fun Δ3 F3 g3 h3 tk3 e3 l3 st3 k => hN Δ3 F3 g3 h3 tk3 (e3.trans e) (l.trans l3) st3 k) (fun v g3 h3 tk3 l3 st3 ht => hR v g3 h3 tk3 (l.trans l3) (e ▸ st3) ht)

theorem Ws.assignO (ok : C.Ok n) {x : Str} {e : Expr} {px pos : Pos} {rest : List Stmt} {α : Type} {T : Ty α} {r : α} {K : Dl → Prop} {Δ' : Dl} {PO : PM → Obj → Prop} {sl : Slot} (h : EvO M C Δ e PO)
    (hsl : ∀ g a o Mn, PO g o → 3 < a → (a, o) ∈ Mn → sl.holds M g Mn (.ref a) [a])
    (hx : C.env.kindOf x = some .local) (hdb : (x == ("__debug__" : Str)) = false ∧ (x == ("__classdict__" : Str)) = false) (hd : Drop x Δ Δ')
    (hr : Ws M C ((x, sl) :: Δ') rest T r K) (hs : swapsWith e (some (.Name x px)) pos.line C.env = pure false) :
    Ws M C Δ (.Assign [.Name x px] e pos :: rest) T r K := fun F g s Q st hN hR =>
  wpAny_execs_cons (wpAny_Assign_Name (h F g s _ st fun a o g1 h1 tk1 l1 st1 ha hp =>
    (st.ext l1 st1.drop).storeOwn ok st1 hx hdb hd (fun Mn hm => hsl g1 a o Mn hp ha hm) fun F2 h2 tk2 e2 st2 => hr.go hN hR e2 l1 st2) hs)
theorem Ws.assignLO (ok : C.Ok n) {x : Str} {e : Expr} {px pos : Pos} {rest : List Stmt} {α β : Type} {S : Ty β} {xs : List β} {T : Ty α} {r : α} {K : Dl → Prop} {Δ' : Dl} (h : EvO M C Δ e (LO S xs))
    (hx : C.env.kindOf x = some .local) (hdb : (x == ("__debug__" : Str)) = false ∧ (x == ("__classdict__" : Str)) = false) (hd : Drop x Δ Δ')
    (hr : Ws M C ((x, .list S xs) :: Δ') rest T r K) (hs : swapsWith e (some (.Name x px)) pos.line C.env = pure false) : Ws M C Δ (.Assign [.Name x px] e pos :: rest) T r K :=
  Ws.assignO (sl := .list S xs) ok h (fun g a o Mn hp ha hm => ⟨a, o, rfl, rfl, hm, hp⟩) hx hdb hd hr hs
theorem Ws.assignDO (ok : C.Ok n) {x : Str} {e : Expr} {px pos : Pos} {rest : List Stmt} {α β : Type} {S : Ty β} {kvs : List (Str × β)} {T : Ty α} {r : α} {K : Dl → Prop} {Δ' : Dl} (h : EvO M C Δ e (DO M S kvs))
    (hx : C.env.kindOf x = some .local) (hdb : (x == ("__debug__" : Str)) = false ∧ (x == ("__classdict__" : Str)) = false) (hd : Drop x Δ Δ')
    (hr : Ws M C ((x, .dict S kvs) :: Δ') rest T r K) (hs : swapsWith e (some (.Name x px)) pos.line C.env = pure false) : Ws M C Δ (.Assign [.Name x px] e pos :: rest) T r K :=
  Ws.assignO (sl := .dict S kvs) ok h (fun g a o Mn hp ha hm => ⟨a, o, rfl, rfl, hm, ha, hp⟩) hx hdb hd hr hs
theorem Ws.assignSO (ok : C.Ok n) {x : Str} {e : Expr} {px pos : Pos} {rest : List Stmt} {α β : Type} {S : Ty β} {xs : List β} {T : Ty α} {r : α} {K : Dl → Prop} {Δ' : Dl} (h : EvO M C Δ e (LO S xs))
    (hx : C.env.kindOf x = some .local) (hdb : (x == ("__debug__" : Str)) = false ∧ (x == ("__classdict__" : Str)) = false) (hd : Drop x Δ Δ')
    (hr : Ws M C ((x, .slist S xs) :: Δ') rest T r K) (hs : swapsWith e (some (.Name x px)) pos.line C.env = pure false) : Ws M C Δ (.Assign [.Name x px] e pos :: rest) T r K :=
  Ws.assignO (sl := .slist S xs) ok h (fun g a o Mn hp ha hm => ⟨a, o, rfl, rfl, hm, hp.1⟩) hx hdb hd hr hs
/- a dict of dicts of one's own -/
theorem Ws.assignD2 (ok : C.Ok n) {x : Str} {p : Pos} {px pos : Pos} {rest : List Stmt} {α β : Type} {S : Ty β} {T : Ty α} {r : α} {K : Dl → Prop} {Δ' : Dl}
    (hx : C.env.kindOf x = some .local) (hdb : (x == ("__debug__" : Str)) = false ∧ (x == ("__classdict__" : Str)) = false) (hd : Drop x Δ Δ')
    (hr : Ws M C ((x, .dict2 S []) :: Δ') rest T r K) : Ws M C Δ (.Assign [.Name x px] (.Dict [] [] p) pos :: rest) T r K :=
  Ws.assignO (sl := .dict2 S []) ok (EvO.dict0 (T := tAny)) (fun g a o Mn hp ha hm => by
    obtain ⟨ps, hd, hf⟩ := hp
    cases hf
    exact ⟨a, o, [], rfl, rfl, hm, ha, [], hd, rfl, .nil⟩) hx hdb hd hr rfl

theorem updP_keep {P : List (Addr × Obj)} {a : Addr} {o : Obj} : ∀ b ob, (b, ob) ∈ P → b ∉ [a] → (b, ob) ∈ updP P a o := fun b ob hm hb => mem_updP_ne (fun e => hb (e ▸ List.mem_singleton.mpr rfl)) hm

/- the turn of a dict of one's own at one key -/
theorem Ok.setD {F : FD} {g : PM} {s : Shared} {x : Str} {α : Type} {T : Ty α} {kvs : List (Str × α)} {Δ' : Dl} (st : Ok M C Δ F g s.heap) (pk : Pick (x, .dict T kvs) Δ Δ') :
    ∃ a, Rd C.env F.m F.cm x (.ref a) ∧ ∀ {k : Str} {t : Tok} {v : Value} {y : α} {Q : Unit → Shared → Prop} {E : Value → Shared → Prop} {g' : PM} {h : Heap} {tk : Nat}, Le g g' → Ok M C Δ F g' h → T.rep g' v y → kvs.length ≤ sizeLine →
      (∀ F' h' tk', F'.P = F.P → Ok M C ((x, .dict T (dset kvs k y)) :: Δ') F' g' h' → Q () { s with heap := h', toks := tk' }) →
      wpAny (model M.prog M.w) C.A (setItem (.ref a) (.str k t) v) Q E { s with heap := h, toks := tk } := by
  obtain ⟨v₀, as1, as2, hr, ⟨a, o, rfl, rfl, hM, h3, hd⟩, hnd, turn⟩ := st.turn pk
  refine ⟨a, hr, fun {k t v y Q E g' h tk} l st' hv hz hQ => ?_⟩
  obtain ⟨v₁, bs1, bs2, hr', ⟨a', o', e1, rfl, hM', h3', hd'⟩, hnd', turn'⟩ := st'.turn pk
  have ea : a' = a := by
    have : Value.ref a' = Value.ref a := by
      rw [← e1]
      exact Rd.inj hr' hr
    injection this
  subst ea
  obtain ⟨ps, hdo, hkv⟩ := hd'.dictOf (M := M) ((st'.st.priv _ (List.mem_append_left _ hM')).1)
  refine wpAny_setItem_pairs (s := { s with heap := h, toks := tk }) (strKind_is ..) hdo (fun h' hd2 hs => ?_) (by rw [F2.length hkv]; exact hz)
  obtain ⟨o2, ho2, hdo2⟩ := Heap.dictOf_iff.mp hd2
  have hst := st'.st.upd (List.mem_append_left _ hM') ho2 fun b o hb e => hs.extBut b o hb e
  rw [updP_Mn hM' st'.st.nd] at hst
  exact hQ { F with Mn := updP F.Mn a' o2, as := [a'] ++ bs2 } h' _ rfl (turn' (updP F.Mn a' o2) [a'] (.dict T (dset kvs k y)) g' h' (.refl _) hst updP_keep
    ⟨a', o2, e1, rfl, mem_updP_self hM', h3', _, hdo2, KV.set hkv hv⟩ (fun b hb => .inl hb) hnd')

theorem Ws.setD (ok : C.Ok n) {x : Str} {i e : Expr} {px p' pos : Pos} {rest : List Stmt} {α β : Type} {S : Ty β} {kvs : List (Str × β)} {k : Str} {y : β} {T : Ty α} {r : α} {K : Dl → Prop} {Δ' : Dl} (h : Ev M C Δ e S y) (hi : Ev M C Δ i tStr k)
    (pk : Pick (x, .dict S kvs) Δ Δ') (hz : kvs.length ≤ sizeLine) (hr : Ws M C ((x, .dict S (dset kvs k y)) :: Δ') rest T r K)
    (hs : swapsWith e (some (.Subscript (.Name x px) i p')) pos.line C.env = pure false := by rfl) : Ws M C Δ (.Assign [.Subscript (.Name x px) i p'] e pos :: rest) T r K := fun F g s Q st hN hR => by
  obtain ⟨a, hrd, go⟩ := st.setD pk
  refine wpAny_execs_cons (wpAny_Assign_Subscript (h F g s _ st fun v g1 h1 tk1 l1 st1 ht1 => name_at ok st1 hrd (hi F g1 _ _ st1 fun j g2 h2 tk2 l2 st2 ht2 => ?_)) hs)
  obtain ⟨t, rfl⟩ := ht2
  exact go (l1.trans l2) st2 (S.mono l2 ht1) hz fun F' h' tk' e' st' => hr.go hN hR e' (l1.trans l2) st'

theorem F2.set {α β : Type} {R : α → β → Prop} : ∀ {l : List α} {l' : List β} {i : Nat} {a : α} {b : β}, F2 R l l' → R a b → F2 R (l.set i a) (l'.set i b)
  | _, _, _, _, _, .nil, _ => .nil
  | _, _, 0, _, _, .cons _ t, h => .cons h t
  | _, _, i + 1, _, _, .cons r t, h => .cons r (F2.set t h)

/- a list of one's own, stored into -/
theorem Ws.setL (ok : C.Ok n) {x : Str} {i e : Expr} {px p' pos : Pos} {rest : List Stmt} {α β : Type} {S : Ty β} {xs : List β} {k : Int} {y : β} {T : Ty α} {r : α} {K : Dl → Prop} {Δ' : Dl} (h : Ev M C Δ e S y) (hi : Ev M C Δ i tInt k)
    (pk : Pick (x, .slist S xs) Δ Δ') (h0 : 0 ≤ k) (hfit : k < 2 ^ 62) (hk : k < xs.length) (hr : Ws M C ((x, .slist S (xs.set k.toNat y)) :: Δ') rest T r K)
    (hs : swapsWith e (some (.Subscript (.Name x px) i p')) pos.line C.env = pure false := by rfl) : Ws M C Δ (.Assign [.Subscript (.Name x px) i p'] e pos :: rest) T r K := fun F g s Q st hN hR => by
  obtain ⟨v₀, as1, as2, hrd, ⟨a, o, rfl, rfl, hM, hd⟩, hnd, turn⟩ := st.turn pk
  refine wpAny_execs_cons (wpAny_Assign_Subscript (h F g s _ st fun v g1 h1 tk1 l1 st1 ht1 => name_at ok st1 hrd (hi F g1 _ _ st1 fun j g2 h2 tk2 l2 st2 ht2 => ?_)) hs)
  obtain ⟨t, rfl⟩ := ht2
  have hd' := hd.mono (l1.trans l2)
  obtain ⟨vs, hL, hf⟩ := hd'.isList ((st2.st.priv _ (List.mem_append_left _ hM)).1)
  refine wpAny_setItem_list (s := { s with heap := h2, toks := tk2 }) hL h0 (by omega) (by simp only [List.size_toArray]; rw [F2.length hf]; exact hk) fun h' hL' hs' => ?_
  have hL2 : h'.IsList a (vs.set k.toNat v).toArray := by simpa using hL'
  obtain ⟨o2, ho2, hd2⟩ := ListO.of hL2 (F2.set (i := k.toNat) hf (S.mono l2 ht1))
  have hst := st2.st.upd (List.mem_append_left _ hM) ho2 fun b o hb e => hs'.extBut b o hb e
  rw [updP_Mn hM st2.st.nd] at hst
  exact hr.go (F' := { F with Mn := updP F.Mn a o2, as := [a] ++ as2 }) hN hR rfl (l1.trans l2) (turn (updP F.Mn a o2) [a] (.slist S (xs.set k.toNat y)) g2 h' (l1.trans l2) hst updP_keep
    ⟨a, o2, rfl, rfl, mem_updP_self hM, hd2⟩ (fun b hb => .inl hb) hnd)

theorem hfew_of {es : List Expr} {pos : Pos} (hs : starEach es C.env = es.map fun e => (false, eval e C.env)) (hl : es.length < 29) :
    ((backTo pos (starEach es C.env)).all (fun x => !x.1) && (backToKw pos (keywordEach [] C.env)).all (fun x => x.1.isSome)
      && decide (es.length + ([] : List Keyword).length + (if ([] : List Keyword).isEmpty then 0 else 1) < 30)) = true := by
  rw [backTo_plain hs]
  have h1 : (es.map fun e => (false, eval e C.env)).all (fun x => !x.1) = true := by
    rw [List.all_map, List.all_eq_true]
    intro e _
    rfl
  rw [h1]
  simp only [Bool.true_and, keywordEach, backToKw, List.map_nil, List.all_nil, List.length_nil, List.isEmpty_nil, if_true, decide_eq_true_eq]
  omega

/- append to a list of one's own -/
theorem Ws.append (ok : C.Ok n) {x : Str} {e : Expr} {px pa pc pos : Pos} {rest : List Stmt} {α β : Type} {S : Ty β} {xs : List β} {y : β} {T : Ty α} {r : α} {K : Dl → Prop} {Δ' : Dl} (h : Ev M C Δ e S y)
    (pk : Pick (x, .list S xs) Δ Δ') (hz : xs.length ≤ sizeLine) (hr : Ws M C ((x, .list S (xs ++ [y])) :: Δ') rest T r K)
    (hs : starEach [e] C.env = [e].map fun e => (false, eval e C.env)) (hline : (pa.endLine == pc.line) = true) :
    Ws M C Δ (.Expr (.Call (.Attribute (.Name x px) "append" pa) [e] [] pc) pos :: rest) T r K := fun F g s Q st hN hR => by
  obtain ⟨v₀, as1, as2, hrd, ⟨a, o, rfl, rfl, hM, hd⟩, hnd, turn⟩ := st.turn pk
  have hget := (st.st.priv _ (List.mem_append_left _ hM)).1
  refine wpAny_execs_cons (wpAny_Expr ?_ (by unfold interactive; rw [ok.kind]; rfl) rfl)
  obtain ⟨vs0, hL0, _⟩ := hd.1.isList hget
  refine wpAny_Call_method (T := "list") (id := "list.append") rfl (hfew_of hs (by show 1 < 29; decide)) hline PySem.F.plainAttrs_list slot_list_append type_list_append (name_at ok st hrd ⟨hL0.typeIs, fun b e => by
    injection e with e
    subst e
    exact ⟨o, hget, hd.2⟩, ?_⟩)
  rw [backTo_plain hs]
  refine Calls.callWith_builtin rfl (Calls.evalArgs_plain (Calls.spliced_cons (h F g s _ st fun v g1 h1 tk1 l1 st1 ht1 => Calls.spliced_nil ?_)))
  have hget1 := (st1.st.priv _ (List.mem_append_left _ hM)).1
  have hd1 := hd.mono l1
  obtain ⟨⟨vs, nn, hc, hdat, hf⟩, hdn⟩ := hd1
  have hPL : PlainL h1 a vs.toArray := ⟨o, nn, hget1, hc, hdn, hdat⟩
  refine list_append_plainL (s := { s with heap := h1, toks := tk1 }) hPL (fun h' hP' hs' => ?_) (by rw [List.size_toArray, F2.length hf]; exact hz)
  obtain ⟨o2, n2, ho2, hc2, hdn2, hdat2⟩ := hP'
  have hst := st1.st.upd (List.mem_append_left _ hM) ho2 fun b o hb e => hs'.extBut b o hb e
  rw [updP_Mn hM st1.st.nd] at hst
  exact hr.go (F' := { F with Mn := updP F.Mn a o2, as := [a] ++ as2 }) hN hR rfl l1 (turn (updP F.Mn a o2) [a] (.list S (xs ++ [y])) g1 h' l1 hst updP_keep
    ⟨a, o2, rfl, rfl, mem_updP_self hM, ⟨vs ++ [v], n2, hc2, by rw [hdat2]; simp, F2.append hf (.cons ht1 .nil)⟩, hdn2⟩ (fun b hb => .inl hb) hnd)

end
end Mine
end

-- C9
section
open PySem PySem.W PyProof.Rows
set_option linter.unusedVariables false
namespace Mine

section
variable {M : Pg} {C : Cx} {Δ : Dl} {n : Nat}

/- a builtin of the interpreter's, not hidden by the module -/
structure Bi (M : Pg) (x : Str) (v : Value) : Prop where
  no : M.mg x = none
  yes : M.mb x = some v

theorem It.mk {e : Expr} {γ α : Type} {T0 : Ty γ} {y : γ} {T : Ty α} {xs : List α} (h : Ev M C Δ e T0 y)
    (hw : ∀ v (g : PM) (s : Shared) (Q : Value → Shared → Prop), T0.rep g v y → (∀ b o, g b = some o → s.heap.get? b = some o) → 3 < s.heap.objs.size →
      (∀ oI fp m Pi St, oI.isFreed = false → m = xs.length → Walks M.prog M.w C.A s.heap.objs.size fp [s.heap.objs.size] m Pi St → (∀ b ∈ fp, b = s.heap.objs.size ∨ ∃ o, g b = some o) → St 0 (s.heap.push oI) →
        (∀ i h, St i h → ∃ o, h.get? s.heap.objs.size = some o) → (∀ i v, Pi i v → ∃ a, xs[i]? = some a ∧ T.rep g v a) → Q (.ref s.heap.objs.size) { s with heap := s.heap.push oI }) →
      wpAny (model M.prog M.w) C.A (pyIter v) Q (fun _ _ => False) s) : It M C Δ e T xs := fun F g s Q st hQ =>
  h F g s _ st fun v g1 h1 tk1 l1 st1 ht1 => hw v g1 _ Q ht1 st1.st.keep st1.st.lt fun oI fp m Pi St hfr hm W hfp hst hI hP =>
    hQ _ oI g1 _ tk1 fp m Pi St hm l1 (st1.heap fun b o e => Heap.get?_push_of_some _ e) (st1.st.push oI hfr) W hfp hst hI fun i v' hp => by
      obtain ⟨a, e, r⟩ := hP i v' hp
      exact ⟨a, e, fun g'' l => T.mono l r⟩

theorem It.list (ok : C.Ok n) {e : Expr} {α : Type} {T : Ty α} {xs : List α} (h : Ev M C Δ e (tList T) xs) : It M C Δ e T xs :=
  It.mk h fun v g s Q hv hk h3 hQ => by
    obtain ⟨a, o, rfl, ho, hl⟩ := hv
    obtain ⟨vs, hL, hf⟩ := hl.isList (hk a o ho)
    have hne : a ≠ s.heap.objs.size := Nat.ne_of_lt (Heap.lt_size (hk a o ho))
    refine wpAny_pyIter_list hL (hQ _ _ _ _ _ rfl (by simp [F2.length hf]) (Walks.list (prog := M.prog) (w := M.w) ok.room.handled s.heap.objs.size a hne vs.toArray) ?_ ⟨⟨_, Heap.get?_push_size _ rfl, rfl, rfl⟩, hL.push _⟩ ?_ ?_)
    · intro b hb
      rcases List.mem_cons.mp hb with e | hb
      · exact .inl e
      · exact .inr ⟨o, (List.mem_singleton.mp hb) ▸ ho⟩
    · rintro i h ⟨⟨o', ho', _⟩, _⟩
      exact ⟨o', ho'⟩
    · intro i v hp
      exact F2.get hf (by simpa using hp)

theorem It.str (ok : C.Ok n) {e : Expr} {x : Str} (h : Ev M C Δ e tStr x) : It M C Δ e tStr (x.cps.toList.map fun c => (⟨#[c]⟩ : Str)) :=
  It.mk h fun v g s Q hv hk h3 hQ => by
    obtain ⟨t, rfl⟩ := hv
    have hitems : ∀ i v, SignAt x i v → ∃ a, (x.cps.toList.map fun c => (⟨#[c]⟩ : Str))[i]? = some a ∧ tStr.rep g v a := by
      rintro i v ⟨c, u, hc, rfl⟩
      exact ⟨⟨#[c]⟩, by simp [hc], _, rfl⟩
    have hlen : (x.cps.toList.map fun c => (⟨#[c]⟩ : Str)).length = x.cps.size := by simp
    cases ha : x.cps.all (· < 128)
    · have W := Walks.strWide (prog := M.prog) (w := M.w) (A := C.A) ok.room.handled s.heap.objs.size x t
      refine wpAny_pyIter_wide ha (hQ _ _ _ _ _ rfl hlen.symm W (fun b hb => .inl (List.mem_singleton.mp hb)) ⟨_, Heap.get?_push_size _ rfl, rfl, rfl⟩ ?_ hitems)
      rintro i h ⟨o', ho', _⟩
      exact ⟨o', ho'⟩
    · have W := Walks.strAscii (prog := M.prog) (w := M.w) (A := C.A) ok.room.handled s.heap.objs.size x t
      refine wpAny_pyIter_ascii ha (hQ _ _ _ _ _ rfl hlen.symm W (fun b hb => .inl (List.mem_singleton.mp hb)) ⟨_, Heap.get?_push_size _ rfl, rfl, rfl⟩ ?_ hitems)
      rintro i h ⟨o', ho', _⟩
      exact ⟨o', ho'⟩

theorem It.keys (ok : C.Ok n) {e : Expr} {α : Type} {T : Ty α} {kvs : List (Str × α)} (h : Ev M C Δ e (tDict M.prog M.w T) kvs) : It M C Δ e tStr (kvs.map (·.1)) :=
  It.mk h fun v g s Q hv hk h3 hQ => by
    obtain ⟨a, o, rfl, ho, h3a, hd⟩ := hv
    obtain ⟨ps, hD, hkv⟩ := hd.dictOf (M := M) (hk a o ho)
    obtain ⟨ep, hDA⟩ := hD.dictAt
    have hne : a ≠ s.heap.objs.size := Nat.ne_of_lt (Heap.lt_size (hk a o ho))
    have hlen : (kvs.map (·.1)).length = ps.length := by rw [← KV.keys hkv, List.length_map]
    have W := Walks.dictKeys (prog := M.prog) (w := M.w) (A := C.A) (knd := strKind M.prog M.w) ok.room.handled s.heap.objs.size a hne ps ep
    refine wpAny_pyIter_dict (notMods h3a) hDA (hQ _ _ _ _ _ rfl hlen.symm W ?_ ⟨⟨_, Heap.get?_push_size _ rfl, rfl, rfl⟩, hDA.push _⟩ ?_ ?_)
    · intro b hb
      rcases List.mem_cons.mp hb with e | hb
      · exact .inl e
      · exact .inr ⟨o, (List.mem_singleton.mp hb) ▸ ho⟩
    · rintro i h ⟨⟨o', ho', _⟩, _⟩
      exact ⟨o', ho'⟩
    · rintro i v ⟨k, x, hx, hv⟩
      obtain ⟨t, rfl⟩ := Value.isStrOf_shape (x := k) hv
      refine ⟨k, ?_, t, rfl⟩
      rw [← KV.keys hkv, List.getElem?_map, hx]; rfl

theorem range_vals (g : PM) (a : Int) (m : Nat) : ∀ i v, (i < m ∧ ∃ t, v = Value.int (a + i * 1) t) → ∃ b, ((List.range m).map fun (j : Nat) => a + (j : Int))[i]? = some b ∧ tInt.rep g v b := by
  rintro i v ⟨hi, t, rfl⟩
  exact ⟨a + (i : Int), by simp [hi], t, by simp⟩

theorem It.range1 (ok : C.Ok n) (hb : Bi M "range" (.type "range")) (hx : C.env.kindOf "range" = some .globalImplicit) {e : Expr} {p pos : Pos} {m : Int} (h : Ev M C Δ e tInt m) (hm : 0 ≤ m) (hm2 : m < 2 ^ 60)
    (hs : starEach [e] C.env = [e].map fun e => (false, eval e C.env)) : It M C Δ (.Call (.Name "range" p) [e] [] pos) tInt ((List.range m.toNat).map fun (j : Nat) => (0 : Int) + (j : Int)) := fun F g s Q st hQ => by
  refine wpAny_Call_Name_kw (builtin_name ok st hx (by decide) hb.no hb.yes ?_)
  rw [backTo_plain hs]
  refine PySem.callWith_type rfl (Calls.evalArgs_plain (Calls.spliced_cons (h F g s _ st fun v g1 h1 tk1 l1 st1 ht1 => Calls.spliced_nil ?_)))
  obtain ⟨t, rfl⟩ := ht1
  refine call_range_1 ?_
  have hR : IsRange (h1.push { cls := .type "range", data := .fields #[.int 0 tk1, .int m t, .int 1 (tk1 + 1)] }) h1.objs.size 0 m 1 tk1 t (tk1 + 1) := IsRange.new ..
  have hsm : Builtin.Range.small 0 m 1 = true := small_one (by omega) (by omega) (by omega) (by omega)
  have hsz : Builtin.Range.rangeSize 0 m 1 = ((m.toNat : Nat) : Int) := by rw [rangeSize_one]; split <;> omega
  have st2 := st1.heap (h' := h1.push { cls := .type "range", data := .fields #[.int 0 tk1, .int m t, .int 1 (tk1 + 1)] }) fun b o e => Heap.get?_push_of_some _ e
  refine wpAny_pyIter_range (s := { s with heap := h1.push { cls := .type "range", data := .fields #[.int 0 tk1, .int m t, .int 1 (tk1 + 1)] }, toks := tk1 + 1 + 1 }) hR hsm ?_
  have W : Walks M.prog M.w C.A (h1.push { cls := .type "range", data := .fields #[.int 0 tk1, .int m t, .int 1 (tk1 + 1)] }).objs.size [(h1.push { cls := .type "range", data := .fields #[.int 0 tk1, .int m t, .int 1 (tk1 + 1)] }).objs.size] [(h1.push { cls := .type "range", data := .fields #[.int 0 tk1, .int m t, .int 1 (tk1 + 1)] }).objs.size] m.toNat (fun i v => i < m.toNat ∧ ∃ t, v = .int (0 + i * 1) t)
      (fun i h => IsRangeIter h (h1.push { cls := .type "range", data := .fields #[.int 0 tk1, .int m t, .int 1 (tk1 + 1)] }).objs.size (0 + (i : Nat) * 1) ((m.toNat : Int) - (i : Nat)) 1) := (Walks.range ok.room.handled _ 0 1 m.toNat).bound
  refine hQ _ _ g1 _ _ _ _ _ _ (by simp) l1 (st2.heap fun b o e => Heap.get?_push_of_some _ e) (st2.st.push _ rfl) W (fun b hb => .inl (List.mem_singleton.mp hb)) ?_ ?_ ?_
  · show IsRangeIter _ _ (0 + ((0 : Nat) : Int) * 1) ((m.toNat : Int) - ((0 : Nat) : Int)) 1
    rw [show (0 + ((0 : Nat) : Int) * 1 : Int) = 0 by simp, show ((m.toNat : Int) - ((0 : Nat) : Int)) = (m.toNat : Int) by simp, ← hsz]
    exact Heap.get?_push_size _ rfl
  · intro i h hi
    exact ⟨_, hi⟩
  · intro i v hp
    obtain ⟨b, e, r⟩ := range_vals g1 0 m.toNat i v hp
    exact ⟨b, e, fun g'' l => r⟩

theorem It.range2 (ok : C.Ok n) (hb : Bi M "range" (.type "range")) (hx : C.env.kindOf "range" = some .globalImplicit) {e1 e2 : Expr} {p pos : Pos} {a b : Int} (h1 : Ev M C Δ e1 tInt a) (h2 : Ev M C Δ e2 tInt b)
    (ha : -(2 ^ 60) ≤ a) (ha2 : a < 2 ^ 60) (hb1 : -(2 ^ 60) ≤ b) (hb2 : b < 2 ^ 60)
    (hs : starEach [e1, e2] C.env = [e1, e2].map fun e => (false, eval e C.env)) : It M C Δ (.Call (.Name "range" p) [e1, e2] [] pos) tInt ((List.range (b - a).toNat).map fun (j : Nat) => a + (j : Int)) := fun F g s Q st hQ => by
  refine wpAny_Call_Name_kw (builtin_name ok st hx (by decide) hb.no hb.yes ?_)
  rw [backTo_plain hs]
  refine PySem.callWith_type rfl (Calls.evalArgs_plain (Calls.spliced_cons (h1 F g s _ st fun v g1 hh1 tk1 l1 st1 ht1 => Calls.spliced_cons (h2 F g1 _ _ st1 fun u g2 hh2 tk2 l2 st2 ht2 => Calls.spliced_nil ?_))))
  obtain ⟨t, rfl⟩ := ht1
  obtain ⟨t', rfl⟩ := ht2
  refine call_range_2 ?_
  have hR : IsRange (hh2.push { cls := .type "range", data := .fields #[.int a t, .int b t', .int 1 tk2] }) hh2.objs.size a b 1 t t' tk2 := IsRange.new ..
  have hsm : Builtin.Range.small a b 1 = true := small_one (by omega) (by omega) (by omega) (by omega)
  have hsz : Builtin.Range.rangeSize a b 1 = (((b - a).toNat : Nat) : Int) := by rw [rangeSize_one]; split <;> omega
  have st3 := st2.heap (h' := hh2.push { cls := .type "range", data := .fields #[.int a t, .int b t', .int 1 tk2] }) fun b o e => Heap.get?_push_of_some _ e
  refine wpAny_pyIter_range (s := { s with heap := hh2.push { cls := .type "range", data := .fields #[.int a t, .int b t', .int 1 tk2] }, toks := tk2 + 1 }) hR hsm ?_
  have W : Walks M.prog M.w C.A (hh2.push { cls := .type "range", data := .fields #[.int a t, .int b t', .int 1 tk2] }).objs.size [(hh2.push { cls := .type "range", data := .fields #[.int a t, .int b t', .int 1 tk2] }).objs.size] [(hh2.push { cls := .type "range", data := .fields #[.int a t, .int b t', .int 1 tk2] }).objs.size] (b - a).toNat (fun i v => i < (b - a).toNat ∧ ∃ t, v = .int (a + i * 1) t)
      (fun i h => IsRangeIter h (hh2.push { cls := .type "range", data := .fields #[.int a t, .int b t', .int 1 tk2] }).objs.size (a + (i : Nat) * 1) (((b - a).toNat : Int) - (i : Nat)) 1) := (Walks.range ok.room.handled _ a 1 (b - a).toNat).bound
  refine hQ _ _ g2 _ _ _ _ _ _ (by simp) (l1.trans l2) (st3.heap fun b o e => Heap.get?_push_of_some _ e) (st3.st.push _ rfl) W (fun b hb => .inl (List.mem_singleton.mp hb)) ?_ ?_ ?_
  · show IsRangeIter _ _ (a + ((0 : Nat) : Int) * 1) (((b - a).toNat : Int) - ((0 : Nat) : Int)) 1
    rw [show (a + ((0 : Nat) : Int) * 1 : Int) = a by simp, show (((b - a).toNat : Int) - ((0 : Nat) : Int)) = ((b - a).toNat : Int) by simp, ← hsz]
    exact Heap.get?_push_size _ rfl
  · intro i h hi
    exact ⟨_, hi⟩
  · intro i v hp
    obtain ⟨b, e, r⟩ := range_vals g2 a _ i v hp
    exact ⟨b, e, fun g'' l => r⟩

end
end Mine
end

-- C10
section
open PySem PySem.W PyProof.Rows
set_option linter.unusedVariables false
namespace Mine

section
variable {M : Pg}

/- a parameter's kind -/
noncomputable def PK (sc : Scope) (x : Str) : Prop :=
  (∀ L, sc.names.lookup x = some .local ∨ (sc.names.lookup x = some .cell ∧ ((cellsFrom L sc.names []).lookup x).isSome = true)) ∧ (x == ("__debug__" : Str)) = false ∧ (x == ("__classdict__" : Str)) = false

theorem PK.loc {sc : Scope} {x : Str} (h : sc.names.lookup x = some .local) (h1 : (x == ("__debug__" : Str)) = false) (h2 : (x == ("__classdict__" : Str)) = false) : PK sc x := ⟨fun _ => .inl h, h1, h2⟩
theorem PK.cell {sc : Scope} {x : Str} (h : sc.names.lookup x = some .cell) (hs : ∀ L, ((cellsFrom L sc.names []).lookup x).isSome = true) (h1 : (x == ("__debug__" : Str)) = false) (h2 : (x == ("__classdict__" : Str)) = false) : PK sc x := ⟨fun L => .inr ⟨h, hs L⟩, h1, h2⟩

section
variable {K : Frag} {name nm qual : Str} {a : Addr} {oc : Value} {od : Option Addr} {params : Arguments} {body : List Stmt} {sc : Scope} {dV kV doc pm : Value} {an : Option Addr} {cdv ct : Value} {osl : Array (Option Value)}

theorem Fn.def1 (hK : M.K = K) {p1 : Str} {α β : Type} {S : Ty α} {T : Ty β} {pre : α → Prop} {f : α → β} {k : Nat}
    (hn : nsIn K mainGlobals name = some (some (.ref a))) (ho : K.lookup a = some ⟨oc, od, .func (fnOf nm qual params body sc dV kV doc pm an cdv ct), osl⟩) (hcd : codeIn K cdv qual = true)
    (hbind : ∀ v, bindArgs (fnOf nm qual params body sc dV kV doc pm an cdv ct) ⟨[v], []⟩ = pure [(p1, v)]) (h1 : PK sc p1) (hcn : ((cellsFrom 0 sc.names []).map (·.1)).Nodup)
    (hco : sc.isCoroutine = false) (hgen : sc.isGenerator = false) (hk : sc.kind = .function)
    (hw : ∀ x, pre x → ∀ C : Cx, C.Ok k → C.env.scope = sc → (∃ L, C.env.cells = cellsFrom L sc.names []) → Ws M C [(p1, .val S x)] body T (f x) (fun _ => False)) :
    Fn M (k + 1) name (rep1 S) T pre f := by
  have hkin : K.In M.h₀ := hK ▸ M.kin
  refine ⟨a, _, _, mg_of hkin M.top.g hn, hkin _ _ ho, rfl, fun A hA g vals x hp hr => ?_⟩
  obtain ⟨v, rfl, hv⟩ := hr
  refine enter (fd := fnOf nm qual params body sc dV kV doc pm an cdv ct) (body := body) (binds := [(p1, v)]) hA (hkin _ _ ho) rfl (codeRec_of hkin hcd) rfl (hbind v) rfl (fun L y hy => ?_) (fun y hy => ?_) (by simp) hcn rfl rfl hco hgen hk [(p1, .val S x)] ?_ (hw x hp)
  · rw [List.mem_singleton.mp hy]; exact h1.1 L
  · rw [List.mem_singleton.mp hy]; exact h1.2
  · intro C hsc m cm Mn g' l hrd
    exact ⟨v, [], [], rfl, hrd _ (List.mem_singleton.mpr rfl), ⟨rfl, S.mono l hv⟩, rfl⟩

theorem Fn.def2 (hK : M.K = K) {p1 p2 : Str} {α1 α2 β : Type} {S1 : Ty α1} {S2 : Ty α2} {T : Ty β} {pre : α1 × α2 → Prop} {f : α1 × α2 → β} {k : Nat}
    (hn : nsIn K mainGlobals name = some (some (.ref a))) (ho : K.lookup a = some ⟨oc, od, .func (fnOf nm qual params body sc dV kV doc pm an cdv ct), osl⟩) (hcd : codeIn K cdv qual = true)
    (hbind : ∀ v u, bindArgs (fnOf nm qual params body sc dV kV doc pm an cdv ct) ⟨[v, u], []⟩ = pure [(p1, v), (p2, u)]) (h1 : PK sc p1) (h2 : PK sc p2) (hne : [p1, p2].Nodup) (hcn : ((cellsFrom 0 sc.names []).map (·.1)).Nodup)
    (hco : sc.isCoroutine = false) (hgen : sc.isGenerator = false) (hk : sc.kind = .function)
    (hw : ∀ x, pre x → ∀ C : Cx, C.Ok k → C.env.scope = sc → (∃ L, C.env.cells = cellsFrom L sc.names []) → Ws M C [(p1, .val S1 x.1), (p2, .val S2 x.2)] body T (f x) (fun _ => False)) :
    Fn M (k + 1) name (rep2 S1 S2) T pre f := by
  have hkin : K.In M.h₀ := hK ▸ M.kin
  refine ⟨a, _, _, mg_of hkin M.top.g hn, hkin _ _ ho, rfl, fun A hA g vals x hp hr => ?_⟩
  obtain ⟨v, u, rfl, hv, hu⟩ := hr
  refine enter (fd := fnOf nm qual params body sc dV kV doc pm an cdv ct) (body := body) (binds := [(p1, v), (p2, u)]) hA (hkin _ _ ho) rfl (codeRec_of hkin hcd) rfl (hbind v u) rfl (fun L y hy => ?_) (fun y hy => ?_) hne hcn rfl rfl hco hgen hk [(p1, .val S1 x.1), (p2, .val S2 x.2)] ?_ (hw x hp)
  · rcases List.mem_cons.mp hy with rfl | hy
    · exact h1.1 L
    · rw [List.mem_singleton.mp hy]; exact h2.1 L
  · rcases List.mem_cons.mp hy with rfl | hy
    · exact h1.2
    · rw [List.mem_singleton.mp hy]; exact h2.2
  · intro C hsc m cm Mn g' l hrd
    exact ⟨v, [], [], rfl, hrd (p1, v) (List.mem_cons_self ..), ⟨rfl, S1.mono l hv⟩, u, [], [], rfl, hrd (p2, u) (List.mem_cons_of_mem _ (List.mem_cons_self ..)), ⟨rfl, S2.mono l hu⟩, rfl⟩

theorem Fn.def3 (hK : M.K = K) {p1 p2 p3 : Str} {α1 α2 α3 β : Type} {S1 : Ty α1} {S2 : Ty α2} {S3 : Ty α3} {T : Ty β} {pre : α1 × α2 × α3 → Prop} {f : α1 × α2 × α3 → β} {k : Nat}
    (hn : nsIn K mainGlobals name = some (some (.ref a))) (ho : K.lookup a = some ⟨oc, od, .func (fnOf nm qual params body sc dV kV doc pm an cdv ct), osl⟩) (hcd : codeIn K cdv qual = true)
    (hbind : ∀ v u t, bindArgs (fnOf nm qual params body sc dV kV doc pm an cdv ct) ⟨[v, u, t], []⟩ = pure [(p1, v), (p2, u), (p3, t)]) (h1 : PK sc p1) (h2 : PK sc p2) (h3 : PK sc p3) (hne : [p1, p2, p3].Nodup) (hcn : ((cellsFrom 0 sc.names []).map (·.1)).Nodup)
    (hco : sc.isCoroutine = false) (hgen : sc.isGenerator = false) (hk : sc.kind = .function)
    (hw : ∀ x, pre x → ∀ C : Cx, C.Ok k → C.env.scope = sc → (∃ L, C.env.cells = cellsFrom L sc.names []) → Ws M C [(p1, .val S1 x.1), (p2, .val S2 x.2.1), (p3, .val S3 x.2.2)] body T (f x) (fun _ => False)) :
    Fn M (k + 1) name (rep3 S1 S2 S3) T pre f := by
  have hkin : K.In M.h₀ := hK ▸ M.kin
  refine ⟨a, _, _, mg_of hkin M.top.g hn, hkin _ _ ho, rfl, fun A hA g vals x hp hr => ?_⟩
  obtain ⟨v, u, t, rfl, hv, hu, ht⟩ := hr
  refine enter (fd := fnOf nm qual params body sc dV kV doc pm an cdv ct) (body := body) (binds := [(p1, v), (p2, u), (p3, t)]) hA (hkin _ _ ho) rfl (codeRec_of hkin hcd) rfl (hbind v u t) rfl (fun L y hy => ?_) (fun y hy => ?_) hne hcn rfl rfl hco hgen hk [(p1, .val S1 x.1), (p2, .val S2 x.2.1), (p3, .val S3 x.2.2)] ?_ (hw x hp)
  · rcases List.mem_cons.mp hy with rfl | hy
    · exact h1.1 L
    · rcases List.mem_cons.mp hy with rfl | hy
      · exact h2.1 L
      · rw [List.mem_singleton.mp hy]; exact h3.1 L
  · rcases List.mem_cons.mp hy with rfl | hy
    · exact h1.2
    · rcases List.mem_cons.mp hy with rfl | hy
      · exact h2.2
      · rw [List.mem_singleton.mp hy]; exact h3.2
  · intro C hsc m cm Mn g' l hrd
    exact ⟨v, [], [], rfl, hrd (p1, v) (List.mem_cons_self ..), ⟨rfl, S1.mono l hv⟩, u, [], [], rfl, hrd (p2, u) (List.mem_cons_of_mem _ (List.mem_cons_self ..)), ⟨rfl, S2.mono l hu⟩,
      t, [], [], rfl, hrd (p3, t) (List.mem_cons_of_mem _ (List.mem_cons_of_mem _ (List.mem_cons_self ..))), ⟨rfl, S3.mono l ht⟩, rfl⟩
end

variable {C : Cx} {sc : Scope}
theorem kind_of {x : Str} {k : NameKind} (hsc : C.env.scope = sc) (h : sc.names.lookup x = some k) : C.env.kindOf x = some k := by unfold Env.kindOf; rw [hsc]; exact h
theorem Bn.loc {x : Str} (hsc : C.env.scope = sc) (h : sc.names.lookup x = some .local) (h1 : (x == ("__debug__" : Str)) = false) (h2 : (x == ("__classdict__" : Str)) = false) : Bn C x := ⟨.inl (kind_of hsc h), h1, h2⟩
theorem Bn.cell {x : Str} (hsc : C.env.scope = sc) (hcl : ∃ L, C.env.cells = cellsFrom L sc.names []) (h : sc.names.lookup x = some .cell) (hs : ∀ L, ((cellsFrom L sc.names []).lookup x).isSome = true)
    (h1 : (x == ("__debug__" : Str)) = false) (h2 : (x == ("__classdict__" : Str)) = false) : Bn C x := by
  obtain ⟨L, hL⟩ := hcl
  exact ⟨.inr ⟨kind_of hsc h, Option.isSome_iff_exists.mp (by rw [hL]; exact hs L)⟩, h1, h2⟩
end
end Mine
end

-- C11
section
open PySem PySem.W PyProof.Rows
set_option linter.unusedVariables false
namespace Mine

noncomputable def clFrom (env : Env) : List (Str × NameKind) → List (Str × Addr) → List (Str × Addr)
  | [], acc => acc
  | (x, k) :: r, acc => if k == .free then clFrom env r ((x, (env.cells.lookup x).getD 0) :: acc) else clFrom env r acc
theorem closure_go {env : Env} (f : Str × NameKind → List (Str × Addr) → Sem (ForInStep (List (Str × Addr))))
    (hf : ∀ x k cs, f (x, k) cs = if k == .free then (do let a ← cellOf env x; pure (.yield ((x, a) :: cs))) else pure (.yield cs)) :
    ∀ (names : List (Str × NameKind)) (acc : List (Str × Addr)), (∀ y ∈ names, y.2 = .free → (env.cells.lookup y.1).isSome = true) → forIn names acc f = pure (clFrom env names acc)
  | [], acc, _ => rfl
  | (x, k) :: r, acc, hy => by
    rw [List.forIn_cons, hf]
    unfold clFrom
    by_cases hk : (k == NameKind.free) = true
    · rw [if_pos hk, if_pos hk]
      obtain ⟨c, hc⟩ := Option.isSome_iff_exists.mp (hy (x, k) (List.mem_cons_self ..) (beq_iff_eq.mp hk))
      have e : cellOf env x = pure c := by unfold cellOf; rw [hc]
      rw [e]
      simp only [pure_bind, hc, Option.getD_some]
      exact closure_go f hf r _ fun z hz => hy z (List.mem_cons_of_mem _ hz)
    · rw [if_neg hk, if_neg hk]
      simp only [pure_bind]
      exact closure_go f hf r _ fun z hz => hy z (List.mem_cons_of_mem _ hz)
theorem closure_is {env : Env} {scope : Scope} (h : ∀ y ∈ scope.names, y.2 = .free → (env.cells.lookup y.1).isSome = true) : closureFor scope env = pure (clFrom env scope.names []) := by
  unfold closureFor
  refine Eq.trans (congrArg (fun z => z >>= fun s => pure s) (closure_go (env := env) _ (fun x k cs => ?_) scope.names [] h)) (by rfl)
  cases hk : (k == NameKind.free) <;> simp [hk]
theorem clFrom_lookup {env : Env} : ∀ (names : List (Str × NameKind)) (acc : List (Str × Addr)), (∀ y ∈ names, y.2 = .free → (env.cells.lookup y.1).isSome = true) →
    (∀ n c, acc.lookup n = some c → env.cells.lookup n = some c) → ∀ n c, (clFrom env names acc).lookup n = some c → env.cells.lookup n = some c
  | [], acc, _, ha, n, c, h => ha n c h
  | (x, k) :: r, acc, hy, ha, n, c, h => by
    unfold clFrom at h
    by_cases hk : (k == NameKind.free) = true
    · rw [if_pos hk] at h
      obtain ⟨c', hc'⟩ := Option.isSome_iff_exists.mp (hy (x, k) (List.mem_cons_self ..) (beq_iff_eq.mp hk))
      have hc'' : env.cells.lookup x = some c' := hc'
      refine clFrom_lookup r _ (fun z hz => hy z (List.mem_cons_of_mem _ hz)) (fun n2 c2 h2 => ?_) n c h
      rw [List.lookup_cons] at h2
      cases hb : n2 == x with
      | true =>
        rw [hb, hc''] at h2
        simp at h2
        subst h2
        rw [beq_iff_eq.mp hb]; exact hc''
      | false => rw [hb] at h2; exact ha n2 c2 h2
    · rw [if_neg hk] at h
      exact clFrom_lookup r acc (fun z hz => hy z (List.mem_cons_of_mem _ hz)) ha n c h
theorem clFrom_has {env : Env} {n : Str} {c : Addr} (hc : env.cells.lookup n = some c) : ∀ (names : List (Str × NameKind)) (acc : List (Str × Addr)), (acc.lookup n = some c ∨ (acc.lookup n = none ∧ (n, NameKind.free) ∈ names)) →
    (clFrom env names acc).lookup n = some c
  | [], acc, h => h.elim id fun h => by cases h.2
  | (x, k) :: r, acc, h => by
    unfold clFrom
    by_cases hk : (k == NameKind.free) = true
    · rw [if_pos hk]
      refine clFrom_has hc r _ ?_
      rw [List.lookup_cons]
      cases hb : n == x with
      | true => left; rw [← beq_iff_eq.mp hb, hc]; rfl
      | false =>
        rcases h with h | ⟨h, hm⟩
        · exact .inl h
        · refine .inr ⟨h, ?_⟩
          rcases List.mem_cons.mp hm with e | hm
          · cases e; simp at hb
          · exact hm
    · rw [if_neg hk]
      refine clFrom_has hc r acc ?_
      rcases h with h | ⟨h, hm⟩
      · exact .inl h
      · refine .inr ⟨h, ?_⟩
        rcases List.mem_cons.mp hm with e | hm
        · cases e; exact absurd rfl hk
        · exact hm

noncomputable def relabelS (scope sc : Scope) : Scope :=
  { scope with names := scope.names.map fun (n, k) => if (k == .free && sc.kind == .function && sc.names.lookup n == some .cell) then (n, .cell) else (n, k) }
theorem relabel_is (scope : Scope) (env : Env) : relabel scope env = relabelS scope env.scope := rfl

section
variable {M : Pg} {C : Cx} {Δ : Dl} {n : Nat}

/- the names that a comprehension takes from around -/
structure Cap (C : Cx) (scope sc : Scope) (Δc : Dl) : Prop where
  vals : ∀ e ∈ Δc, ∃ α T x, e.2 = @Slot.val α T x
  kinds : ∀ e ∈ Δc, (e.1, NameKind.free) ∈ scope.names ∧ (relabelS scope sc).names.lookup e.1 = some .cell
  all : ∀ y ∈ scope.names, y.2 = .free → ∃ sl, (y.1, sl) ∈ Δc
  outer : ∀ e ∈ Δc, sc.names.lookup e.1 = some .cell

theorem Bd.nil_of_vals {g : PM} {m cm : Str → Option Value} {Mn : List (Addr × Obj)} : ∀ {Δc : Dl} {as : List Addr}, (∀ e ∈ Δc, ∃ α T x, e.2 = @Slot.val α T x) → Bd M C g m cm Mn Δc as → as = []
  | [], _, _, h => h
  | e :: _, _, hv, ⟨v, as1, as2, a, _, c, d⟩ => by
    obtain ⟨α, T, x, he⟩ := hv e (List.mem_cons_self ..)
    have h1 : as1 = [] := by
      have c' := c
      rw [he] at c'
      exact c'.1
    have h2 := d.nil_of_vals fun e he => hv e (List.mem_cons_of_mem _ he)
    rw [a, h1, h2]; rfl
theorem Bd.inner {g : PM} {m cm m' : Str → Option Value} {Mn Mn' : List (Addr × Obj)} {C' : Cx} : ∀ {Δc : Dl}, (∀ e ∈ Δc, ∃ α T x, e.2 = @Slot.val α T x) → (∀ e ∈ Δc, ∀ v, Rd C.env m cm e.1 v → Rd C'.env m' cm e.1 v) →
    Bd M C g m cm Mn Δc [] → Bd M C' g m' cm Mn' Δc []
  | [], _, _, h => h
  | e :: Δc, hv, hr, ⟨v, as1, as2, a, b, c, d⟩ => by
    obtain ⟨α, T, x, he⟩ := hv e (List.mem_cons_self ..)
    obtain ⟨e1, e2⟩ := e
    simp only at he
    subst he
    obtain ⟨rfl, rfl⟩ : as1 = [] ∧ as2 = [] := by simpa using a.symm
    exact ⟨v, [], [], rfl, hr _ (List.mem_cons_self ..) v b, ⟨rfl, c.2⟩, d.inner (fun e he => hv e (List.mem_cons_of_mem _ he)) fun e he => hr e (List.mem_cons_of_mem _ he)⟩

/- the tests of a comprehension -/
noncomputable def EvIf (M : Pg) (C : Cx) (Δ : Dl) (ifs : List Expr) (b : Bool) : Prop :=
  ∀ (F : FD) (g : PM) (s : Shared) (Q : Bool → Shared → Prop), Ok M C Δ F g s.heap → (∀ g' h' tk, Le g g' → Ok M C Δ F g' h' → Q b { s with heap := h', toks := tk }) →
    wpAny (model M.prog M.w) C.A (forIn ifs true fun c r => if r = true then do let ok ← isTrue c C.env (eval c C.env); pure (ForInStep.yield ok) else pure (ForInStep.yield r)) Q (fun _ _ => False) s
theorem EvIf.nil : EvIf M C Δ [] true := fun F g s Q st hQ => by
  rw [List.forIn_nil]
  exact wpAny_pure (hQ g s.heap s.toks (.refl _) st)
theorem EvIf.one {c : Expr} {b : Bool} (h : EvB M C Δ c b) : EvIf M C Δ [c] b := fun F g s Q st hQ => by
  rw [List.forIn_cons]
  refine wpAny_bind ?_
  rw [if_pos rfl]
  refine wpAny_bind (h F g s _ st fun g1 h1 tk1 l1 st1 => wpAny_pure ?_)
  show wpAny _ _ (forIn [] b _) _ _ _
  rw [List.forIn_nil]
  exact wpAny_pure (hQ g1 h1 tk1 l1 st1)

/- the frame within a comprehension -/
noncomputable def inC (C : Cx) (scope : Scope) (L : Addr) : Cx := ⟨C.A, compEnvC scope (clFrom C.env scope.names []) L C.env⟩

theorem inC_ok (ok : C.Ok n) {scope : Scope} {L : Addr} (hk : scope.kind = .function) : (inC C scope L).Ok n := ⟨ok.room, hk, ok.globals, ok.builtins⟩

theorem mkInner (ok : C.Ok n) {F : FD} {g g' : PM} {h h' : Heap} {scope sc : Scope} {Δc : Dl} {L : Addr} {oC : Obj} {m' : Str → Option Value} {P' : List (Addr × Obj)} (st : Ok M C Δ F g h) (hsc : C.env.scope = sc) (sel : Sel Δ Δc) (cap : Cap C scope sc Δc) (l : Le g g')
    (hst : StR M g' (((L, oC) :: F.Mn) ++ P') h') (hfr : FrO oC m') :
    Ok M (inC C scope L) Δc ⟨m', F.cm, (L, oC) :: F.Mn, [], P'⟩ g' h' ∧
    ∀ {x : Str} {v : Value} {α : Type} {S : Ty α} {a : α}, (relabelS scope sc).names.lookup x = some .local → (x == ("__debug__" : Str)) = false ∧ (x == ("__classdict__" : Str)) = false → m' x = some v → S.rep g' v a →
      Ok M (inC C scope L) ((x, .val S a) :: Δc) ⟨m', F.cm, (L, oC) :: F.Mn, [], P'⟩ g' h' := by
  have hall : ∀ y ∈ scope.names, y.2 = .free → (C.env.cells.lookup y.1).isSome = true := fun y hy hf => by
    obtain ⟨sl, hm⟩ := cap.all y hy hf
    obtain ⟨as2, as3, hp, hb⟩ := st.bd.sel sel
    obtain ⟨v, as1, hr, _⟩ := hb.slot hm
    have hk : C.env.kindOf y.1 = some .cell := by unfold Env.kindOf; rw [hsc]; exact cap.outer _ hm
    rcases hr.2.2 with ⟨h1, _⟩ | ⟨_, c, hc, _⟩
    · rw [hk] at h1; cases h1
    · rw [hc]; rfl
  have hlk : ∀ n c, (clFrom C.env scope.names []).lookup n = some c → C.env.cells.lookup n = some c := clFrom_lookup scope.names [] hall fun n c h => by cases h
  have hLn : L ∉ (F.Mn ++ P').map (·.1) := by
    have := hst.nd
    rw [List.cons_append, List.map_cons, List.nodup_cons] at this
    exact this.1
  have hcells : ∀ n' c, (clFrom C.env scope.names []).lookup n' = some c → ∃ o, (c, o) ∈ F.Mn ∧ o.data = .cell (F.cm n') := fun n' c hc => st.ce n' c (hlk n' c hc)
  have hRd : ∀ e ∈ Δc, ∀ v, Rd C.env F.m F.cm e.1 v → Rd (inC C scope L).env m' F.cm e.1 v := fun e he v hr => by
    have hk : C.env.kindOf e.1 = some .cell := by unfold Env.kindOf; rw [hsc]; exact cap.outer _ he
    obtain ⟨h1, h2, h3⟩ := hr
    refine ⟨h1, h2, .inr ⟨.inl ?_, ?_⟩⟩
    · show (relabel scope C.env).names.lookup e.1 = _
      rw [relabel_is, hsc]
      exact (cap.kinds e he).2
    · rcases h3 with ⟨h3, _⟩ | ⟨_, c, hc, hv⟩
      · rw [hk] at h3; cases h3
      · exact ⟨c, clFrom_has hc scope.names [] (.inr ⟨rfl, (cap.kinds e he).1⟩), hv⟩
  obtain ⟨as2, as3, hp, hb⟩ := st.bd.sel sel
  have has2 := hb.nil_of_vals cap.vals
  subst has2
  have hbI : Bd M (inC C scope L) g' m' F.cm ((L, oC) :: F.Mn) Δc [] := (hb.mono l).inner cap.vals hRd
  have base : ∀ (Δ' : Dl), Bd M (inC C scope L) g' m' F.cm ((L, oC) :: F.Mn) Δ' [] → Ok M (inC C scope L) Δ' ⟨m', F.cm, (L, oC) :: F.Mn, [], P'⟩ g' h' := fun Δ' hB =>
    ⟨hst, ⟨oC, List.mem_cons_self .., hfr⟩, fun n' c hc => by
      obtain ⟨o, hm, hd⟩ := hcells n' c hc
      exact ⟨o, List.mem_cons_of_mem _ hm, hd⟩, ⟨List.nodup_cons.mpr ⟨List.not_mem_nil, List.nodup_nil⟩, fun n' c hc => by
        obtain ⟨o, hm, hd⟩ := hcells n' c hc
        refine ⟨fun e => hLn (List.mem_map.mpr ⟨_, List.mem_append_left _ hm, e⟩), List.not_mem_nil, fun n2 h2 => (st.nd.2 n' c (hlk n' c hc)).2.2 n2 (hlk n2 c h2)⟩⟩, hB⟩
  refine ⟨base Δc hbI, fun {x v α S a} hx hdb hm hv => base _ ⟨v, [], [], rfl, ⟨hdb.1, hdb.2, .inl ⟨?_, hm⟩⟩, ⟨rfl, hv⟩, hbI⟩⟩
  show (relabel scope C.env).names.lookup x = _
  rw [relabel_is, hsc]
  exact hx
end
end Mine
end

-- C12
section
open PySem PySem.W PyProof.Rows
set_option linter.unusedVariables false
namespace Mine

theorem StR.turnMid {M : Pg} {g : PM} {P Q : List (Addr × Obj)} {h h' : Heap} {a : Addr} {o o' : Obj} (x : StR M g (P ++ (a, o) :: Q) h) (ho : h'.get? a = some o') (hk : ∀ b o, b ≠ a → h.get? b = some o → h'.get? b = some o) :
    StR M g (P ++ (a, o') :: Q) h' := (StR.turnHead (x.perm (perm_mid ..).symm) ho hk).perm (perm_mid ..)
theorem StR.midOut {M : Pg} {g : PM} {P Q : List (Addr × Obj)} {h : Heap} {a : Addr} {o : Obj} (x : StR M g (P ++ (a, o) :: Q) h) : h.get? a = some o ∧ g a = none := x.priv (a, o) (List.mem_append_right _ (List.mem_cons_self ..))

section
variable {M : Pg} {C : Cx} {Δ : Dl} {n : Nat}

/- what stands around a comprehension's turn -/
structure Turn (M : Pg) (C : Cx) (F : FD) (Cf D I : Addr) (g₀ : PM) (PO : PM → Obj → Prop) (St : Nat → Heap → Prop) (i : Nat) (g : PM) (h : Heap) (oC oD oI : Obj) (m : Str → Option Value) : Prop where
  le : Le g₀ g
  st : StR M g (((Cf, oC) :: F.Mn) ++ ((D, oD) :: (I, oI) :: F.P)) h
  fr : FrO oC m
  po : PO g oD
  at_ : St i h

theorem hpC (ok : C.Ok n) {scope : Scope} {L : Addr} (hk : scope.kind = .function) : (((inC C scope L).env.scope.kind == .class || ((inC C scope L).env.scope.kind == .module && (inC C scope L).env.locals != (inC C scope L).env.globals)) = false) := hp_of (inC_ok ok hk)

/- one name of a comprehension's frame is bound -/
theorem bindIn (ok : C.Ok n) {F : FD} {g g₀ : PM} {h₀ : Heap} {s : Shared} {scope sc : Scope} {Δc : Dl} {L : Addr} {oC : Obj} {m' : Str → Option Value} {P' : List (Addr × Obj)} {x : Str} {px : Pos} {v : Value} {β : Type} {S : Ty β} {a : β}
    {Q : Unit → Shared → Prop} {E : Value → Shared → Prop} (hkind : scope.kind = .function)
    (st : Ok M C Δ F g₀ h₀) (hsc : C.env.scope = sc) (sel : Sel Δ Δc) (cap : Cap C scope sc Δc) (l : Le g₀ g) (hx : (relabelS scope sc).names.lookup x = some .local) (hdb : (x == ("__debug__" : Str)) = false ∧ (x == ("__classdict__" : Str)) = false)
    (hst : StR M g (((L, oC) :: F.Mn) ++ P') s.heap) (hfr : FrO oC m') (hv : S.rep g v a)
    (hQ : ∀ oC' h' tk, FrO oC' (fun z => if z = x then some v else m' z) → StR M g (((L, oC') :: F.Mn) ++ P') h' → (∀ b o, b ≠ L → s.heap.get? b = some o → h'.get? b = some o) →
      Ok M (inC C scope L) ((x, .val S a) :: Δc) ⟨fun z => if z = x then some v else m' z, F.cm, (L, oC') :: F.Mn, [], P'⟩ g h' → Q () { s with heap := h', toks := tk }) :
    wpAny (model M.prog M.w) C.A (assign (.Name x px) (inC C scope L).env v) Q E s := by
  have hk : (inC C scope L).env.kindOf x = some .local := by
    show (relabel scope C.env).names.lookup x = _
    rw [relabel_is, hsc]; exact hx
  refine wpAny_assign_Name (wpAny_storeName_local hk (hfr.ns hst.out.1) (fun h' hn hs => ?_) (hpC ok hkind))
  obtain ⟨oC', hoC', hfr'⟩ := FrO.of_ns hn
  have hst' : StR M g (((L, oC') :: F.Mn) ++ P') h' := StR.turnHead hst hoC' fun b o hb e => hs.extBut b o hb e
  exact hQ oC' h' _ hfr' hst' (fun b o hb e => hs.extBut b o hb e) ((mkInner ok st hsc sel cap l hst' hfr').2 hx hdb (by simp) hv)

theorem compL (ok : C.Ok n) {elt iter : Expr} {x : Str} {px : Pos} {ifs : List Expr} {scope sc : Scope} {pos : Pos} {Δc : Dl} {α β : Type} {xs : List β} {S : Ty β} {T : Ty α} (p : β → Bool) (f : β → α)
    (hsc : C.env.scope = sc) (sel : Sel Δ Δc) (cap : Cap C scope sc Δc) (hx : (relabelS scope sc).names.lookup x = some .local) (hdb : (x == ("__debug__" : Str)) = false ∧ (x == ("__classdict__" : Str)) = false)
    (hkind : scope.kind = .function) (hcell : ∀ y ∈ scope.names, y.2 ≠ .cell)
    (hif : ∀ a ∈ xs, ∀ L, EvIf M (inC C scope L) ((x, .val S a) :: Δc) ifs (p a))
    (he : ∀ a ∈ xs, p a = true → ∀ L, Ev M (inC C scope L) ((x, .val S a) :: Δc) elt T (f a)) (hsz : xs.length ≤ sizeLine)
    {F : FD} {g : PM} {s : Shared} (st : Ok M C Δ F g s.heap) {I : Addr} {oI : Obj} (stI : StR M g ((I, oI) :: (F.Mn ++ F.P)) s.heap) {fp : List Addr} {Pi : Nat → Value → Prop} {St : Nat → Heap → Prop} (W : Walks M.prog M.w C.A I fp [I] xs.length Pi St)
    (hfp : ∀ b ∈ fp, b = I ∨ ∃ o, g b = some o) (hst : St 0 s.heap) (hI : ∀ i h, St i h → ∃ o, h.get? I = some o) (hP : ∀ i v, Pi i v → ∃ a, xs[i]? = some a ∧ ∀ g'', Le g g'' → S.rep g'' v a)
    {RR : Value → Addr → Result → Shared → Prop} {E : Value → Shared → Prop}
    (hR : ∀ D oD Cf oC m' g' h' tk, Le g g' → StR M g' ((D, oD) :: (Cf, oC) :: (F.Mn ++ F.P)) h' → 3 < D → LO T ((xs.filter p).map f) g' oD → FrO oC m' → RR (.ref D) Cf (.ok .next) { s with heap := h', toks := tk }) :
    wpAny (model M.prog M.w) C.A (newList []) (fun acc s₃ => wpAny (model M.prog M.w) C.A (newFunctionEnv scope C.env.globals (clFrom C.env scope.names []) [] C.env.qual none .none (some C.env)) (fun cenv s₄ =>
      codeAny (model M.prog M.w) C.A (.compStart (.ListComp elt [⟨.Name x px, iter, ifs, 0⟩] scope pos) 0 (.ref I) acc { cenv with scope := relabel scope C.env }) (RR acc cenv.locals) s₄) E s₃) E s := by
  refine wpAny_newObj_type (wpAny_newFunctionEnv hcell (by intro y hy; simp at hy) (fun h₁ hns₁ hsb₁ => ?_) hkind)
  dsimp only at hns₁ hsb₁ ⊢
  have stD : StR M g ((s.heap.objs.size, { cls := .type "list", dict := none, data := .seq ([] : List Value).toArray }) :: ((I, oI) :: (F.Mn ++ F.P))) (s.heap.push { cls := .type "list", dict := none, data := .seq ([] : List Value).toArray }) := stI.push _ rfl
  have hD3 : 3 < s.heap.objs.size := st.st.lt
  have hstD : St 0 (s.heap.push { cls := .type "list", dict := none, data := .seq ([] : List Value).toArray }) := W.frame _ _ _ hst fun b _ o e => Heap.get?_push_of_some _ e
  generalize hH2 : s.heap.push { cls := .type "list", dict := none, data := .seq ([] : List Value).toArray } = H2 at hns₁ hsb₁ stD hstD ⊢
  generalize hDD : s.heap.objs.size = D at stD hD3 hns₁ hsb₁ ⊢
  generalize hCC : H2.objs.size = L at hns₁ hsb₁ ⊢
  have hLnone : H2.get? L = none := by
    cases e : H2.get? L with
    | none => rfl
    | some o' => exact absurd (Heap.lt_size e) (by rw [hCC]; exact Nat.lt_irrefl _)
  obtain ⟨oC, hoC, hfC⟩ := FrO.of_ns hns₁
  have old : ∀ b o, H2.get? b = some o → h₁.get? b = some o := fun b o e => hsb₁.extBut b o (fun e' => by subst e'; rw [hLnone] at e; cases e) (Heap.get?_push_of_some _ e)
  have stC : StR M g ((L, oC) :: ((D, { cls := .type "list", dict := none, data := .seq ([] : List Value).toArray }) :: ((I, oI) :: (F.Mn ++ F.P)))) h₁ := stD.own hLnone old hoC
  have hst₁ : St 0 h₁ := W.frame _ _ _ hstD fun b _ o e => old b o e
  have perm0 : ∀ (c d i : Addr × Obj), (c :: (d :: (i :: (F.Mn ++ F.P)))).Perm ((c :: F.Mn) ++ (d :: i :: F.P)) := fun c d i => by
    refine List.Perm.cons c ?_
    refine (List.Perm.cons d (perm_mid F.Mn F.P i)).trans ?_
    exact perm_mid F.Mn (i :: F.P) d
  have T0 : Turn M C F L D I g (LO T (((xs.take 0).filter p).map f)) St 0 g h₁ oC { cls := .type "list", dict := none, data := .seq ([] : List Value).toArray } oI (fun x => ([] : List (Str × Value)).reverse.lookup x) :=
    ⟨.refl _, stC.perm (perm0 _ _ _), hfC, ⟨⟨[], 0, rfl, rfl, .nil⟩, rfl⟩, hst₁⟩
  have loop : ∀ tk, codeAny (model M.prog M.w) C.A (.compLoop (.ListComp elt [⟨.Name x px, iter, ifs, 0⟩] scope pos) 0 (.ref I) (.ref D) (inC C scope L).env) (RR (.ref D) L) { s with heap := h₁, toks := tk } := fun tk => by
    refine codeAny_compLoop_tests
      (fun k s' => ∃ i g' h' tk oC oD oI' m, s' = { s with heap := h', toks := tk } ∧ i ≤ xs.length ∧ k = xs.length + 1 - i ∧ Turn M C F L D I g (LO T (((xs.take i).filter p).map f)) St i g' h' oC oD oI' m)
      ?_ (xs.length + 1) ⟨0, g, h₁, tk, oC, _, oI, _, rfl, Nat.zero_le _, rfl, T0⟩
    rintro k s' ⟨i, g', h', tk', oC', oD', oI', m', rfl, hin, rfl, hT⟩
    by_cases hlt : i < xs.length
    · refine W.item i _ _ _ hlt hT.at_ fun v h₂ tk₂ hPi hst₂ hk₂ => ?_
      obtain ⟨oI₂, hoI₂⟩ := hI _ _ hst₂
      obtain ⟨a, hxa, hrep⟩ := hP i v hPi
      have ham : a ∈ xs := List.mem_of_getElem? hxa
      have st₂ : StR M g' (((L, oC') :: F.Mn) ++ ((D, oD') :: (I, oI₂) :: F.P)) h₂ := by
        have e : ∀ y, ((L, oC') :: F.Mn) ++ ((D, oD') :: (I, y) :: F.P) = (((L, oC') :: F.Mn) ++ [(D, oD')]) ++ ((I, y) :: F.P) := fun y => by simp
        rw [e]
        refine StR.turnMid (o := oI') (by rw [← e]; exact hT.st) hoI₂ fun b o hb e => hk₂ b o (fun hm => hb (List.mem_singleton.mp hm)) e
      refine bindIn ok hkind (s := { s with heap := h₂, toks := tk₂ }) st hsc sel cap hT.le hx hdb st₂ hT.fr (hrep g' hT.le) fun oC₃ h₃ tk₃ hfC₃ st₃ hk₃ ok₃ => ?_
      have stay : ∀ g₄ h₄, Le g' g₄ → StR M g₄ (((L, oC₃) :: F.Mn) ++ ((D, oD') :: (I, oI₂) :: F.P)) h₄ → St (i + 1) h₄ := fun g₄ h₄ l₄ st₄ => by
        refine W.frame _ _ _ hst₂ fun b hb o e => ?_
        rcases hfp b hb with rfl | ⟨o', ho'⟩
        · rw [hoI₂] at e; cases e
          exact (st₄.priv (b, oI₂) (by simp)).1
        · have h6 := st₂.keep b o' (hT.le b o' ho')
          have e' : h₂.get? b = some o := e
          rw [h6] at e'; cases e'
          exact st₄.keep b _ (l₄ b _ (hT.le b _ ho'))
      refine wpAny_mono (hif a ham L _ g' _ (fun okb s₃ => if okb = true then _ else _) ok₃ fun g₄ h₄ tk₄ l₄ ok₄ => ?_) (fun okb s₃ h => h) fun _ _ h => h.elim
      have etake : xs.take (i + 1) = xs.take i ++ [a] := by rw [List.take_add_one, hxa]; rfl
      cases hpa : p a with
      | false =>
        simp only [Bool.false_eq_true, if_false]
        refine ⟨xs.length + 1 - (i + 1), by omega, i + 1, g₄, h₄, tk₄, oC₃, oD', oI₂, _, rfl, hlt, rfl, hT.le.trans l₄, ok₄.st, hfC₃, ?_, stay _ _ l₄ ok₄.st⟩
        rw [etake, List.filter_append, List.filter_cons_of_neg (by simp [hpa]), List.filter_nil, List.append_nil]
        exact PlainO.mono l₄ hT.po
      | true =>
        simp only [if_true]
        refine wpAny_mono (he a ham hpa L _ g₄ _ (fun y s₄ => wpAny (model M.prog M.w) C.A (call (.builtin "list.append") [.ref D, y]) _ _ s₄) ok₄ fun y g₅ h₅ tk₅ l₅ ok₅ hy => ?_) (fun _ _ h => h) fun _ _ h => h.elim
        have st₅ : StR M g₅ (((L, oC₃) :: F.Mn) ++ ((D, oD') :: (I, oI₂) :: F.P)) h₅ := ok₅.st
        obtain ⟨⟨vs, nn, hc, hdat, hf⟩, hdn⟩ := PlainO.mono (l₄.trans l₅) hT.po
        have hPL : PlainL h₅ D vs.toArray := ⟨oD', nn, st₅.midOut.1, hc, hdn, hdat⟩
        have hlen : vs.length ≤ sizeLine := by
          rw [F2.length hf, List.length_map]
          have h1 := List.length_filter_le p (xs.take i)
          have h2 : (xs.take i).length ≤ xs.length := by rw [List.length_take]; omega
          omega
        refine list_append_plainL (s := { s with heap := h₅, toks := tk₅ }) hPL (fun h₆ hP' hs' => ?_) (by rw [List.size_toArray]; exact hlen)
        obtain ⟨o₆, n₆, ho₆, hc₆, hdn₆, hdat₆⟩ := hP'
        have st₆ := st₅.turnMid ho₆ fun b o hb e => hs'.extBut b o hb e
        have hlast : St (i + 1) h₆ := by
          refine W.frame _ _ _ (stay _ _ (l₄.trans l₅) st₅) fun b hb o e => ?_
          refine hs'.extBut b o (fun e' => ?_) e
          subst e'
          rcases hfp b hb with e1 | ⟨o', ho'⟩
          · subst e1
            have hn := st₅.nd
            simp only [List.cons_append, List.map_cons, List.map_append, List.nodup_cons, List.nodup_append] at hn
            exact hn.2.2.1.1 (List.mem_cons_self ..)
          · have := st₅.midOut.2
            rw [(hT.le.trans (l₄.trans l₅)) _ _ ho'] at this; cases this
        refine ⟨xs.length + 1 - (i + 1), by omega, i + 1, g₅, h₆, tk₅, oC₃, o₆, oI₂, _, rfl, hlt, rfl, hT.le.trans (l₄.trans l₅), st₆, hfC₃, ?_, hlast⟩
        rw [etake, List.filter_append, List.filter_cons_of_pos (by simp [hpa]), List.filter_nil, List.map_append]
        exact ⟨⟨vs ++ [y], n₆, hc₆, by rw [hdat₆]; simp, F2.append hf (.cons hy .nil)⟩, hdn₆⟩
    · have hi' : i = xs.length := by omega
      subst hi'
      refine W.done _ _ _ hT.at_ fun h₂ tk₂ hk₂ => ?_
      have e : xs.take xs.length = xs := List.take_length
      have hpo := hT.po
      rw [e] at hpo
      have st0 : StR M g' ((I, oI') :: ((D, oD') :: (L, oC') :: (F.Mn ++ F.P))) h' := by
        refine hT.st.perm ?_
        refine ((perm0 (L, oC') (D, oD') (I, oI')).symm).trans ?_
        refine (List.Perm.cons _ (List.Perm.swap ..)).trans ?_
        refine (List.Perm.swap ..).trans ?_
        exact List.Perm.cons _ (List.Perm.swap ..)
      have st₂ : StR M g' ((D, oD') :: (L, oC') :: (F.Mn ++ F.P)) h₂ := st0.drop.but st0.out.2.1 st0.out.2.2 fun b o hb e => hk₂ b o (fun hm => hb (List.mem_singleton.mp hm)) e
      exact hR D oD' L oC' m' g' h₂ tk₂ hT.le st₂ hD3 hpo hT.fr
  refine codeAny_compStart_list (loop _) (W.self 0 _ _ _ hst₁ (loop _))

end
end Mine
end

-- C13
section
open PySem PySem.W PyProof.Rows
set_option linter.unusedVariables false
namespace Mine

theorem dsets_length {α : Type} : ∀ (kvs acc : List (Str × α)), (dsets acc kvs).length ≤ acc.length + kvs.length
  | [], acc => Nat.le_refl _
  | q :: r, acc => by
    have h1 := dsets_length r (dset acc q.1 q.2)
    have h2 := dset_length acc q.1 q.2
    show (dsets (dset acc q.1 q.2) r).length ≤ _
    rw [List.length_cons]; omega

section
variable {M : Pg} {C : Cx} {Δ : Dl} {n : Nat}

theorem compD (ok : C.Ok n) {kx vx iter : Expr} {x : Str} {px : Pos} {ifs : List Expr} {scope sc : Scope} {pos : Pos} {Δc : Dl} {α β : Type} {xs : List β} {S : Ty β} {T : Ty α} (p : β → Bool) (kf : β → Str) (vf : β → α)
    (hsc : C.env.scope = sc) (sel : Sel Δ Δc) (cap : Cap C scope sc Δc) (hx : (relabelS scope sc).names.lookup x = some .local) (hdb : (x == ("__debug__" : Str)) = false ∧ (x == ("__classdict__" : Str)) = false)
    (hkind : scope.kind = .function) (hcell : ∀ y ∈ scope.names, y.2 ≠ .cell)
    (hif : ∀ a ∈ xs, ∀ L, EvIf M (inC C scope L) ((x, .val S a) :: Δc) ifs (p a))
    (hek : ∀ a ∈ xs, p a = true → ∀ L, Ev M (inC C scope L) ((x, .val S a) :: Δc) kx tStr (kf a)) (hev : ∀ a ∈ xs, p a = true → ∀ L, Ev M (inC C scope L) ((x, .val S a) :: Δc) vx T (vf a)) (hsz : xs.length ≤ sizeLine)
    {F : FD} {g : PM} {s : Shared} (st : Ok M C Δ F g s.heap) {I : Addr} {oI : Obj} (stI : StR M g ((I, oI) :: (F.Mn ++ F.P)) s.heap) {fp : List Addr} {Pi : Nat → Value → Prop} {St : Nat → Heap → Prop} (W : Walks M.prog M.w C.A I fp [I] xs.length Pi St)
    (hfp : ∀ b ∈ fp, b = I ∨ ∃ o, g b = some o) (hst : St 0 s.heap) (hI : ∀ i h, St i h → ∃ o, h.get? I = some o) (hP : ∀ i v, Pi i v → ∃ a, xs[i]? = some a ∧ ∀ g'', Le g g'' → S.rep g'' v a)
    {RR : Value → Addr → Result → Shared → Prop} {E : Value → Shared → Prop}
    (hR : ∀ D oD Cf oC m' g' h' tk, Le g g' → StR M g' ((D, oD) :: (Cf, oC) :: (F.Mn ++ F.P)) h' → 3 < D → DO M T (dsets [] ((xs.filter p).map fun a => (kf a, vf a))) g' oD → FrO oC m' → RR (.ref D) Cf (.ok .next) { s with heap := h', toks := tk }) :
    wpAny (model M.prog M.w) C.A newDict (fun acc s₃ => wpAny (model M.prog M.w) C.A (newFunctionEnv scope C.env.globals (clFrom C.env scope.names []) [] C.env.qual none .none (some C.env)) (fun cenv s₄ =>
      codeAny (model M.prog M.w) C.A (.compStart (.DictComp kx vx [⟨.Name x px, iter, ifs, 0⟩] scope pos) 0 (.ref I) acc { cenv with scope := relabel scope C.env }) (RR acc cenv.locals) s₄) E s₃) E s := by
  refine wpAny_newObj_type (wpAny_newFunctionEnv hcell (by intro y hy; simp at hy) (fun h₁ hns₁ hsb₁ => ?_) hkind)
  dsimp only at hns₁ hsb₁ ⊢
  have stD : StR M g ((s.heap.objs.size, { cls := .type "dict", dict := none, data := .dict #[] }) :: ((I, oI) :: (F.Mn ++ F.P))) (s.heap.push { cls := .type "dict", dict := none, data := .dict #[] }) := stI.push _ rfl
  have hD3 : 3 < s.heap.objs.size := st.st.lt
  have hstD : St 0 (s.heap.push { cls := .type "dict", dict := none, data := .dict #[] }) := W.frame _ _ _ hst fun b _ o e => Heap.get?_push_of_some _ e
  generalize hH2 : s.heap.push { cls := .type "dict", dict := none, data := .dict #[] } = H2 at hns₁ hsb₁ stD hstD ⊢
  generalize hDD : s.heap.objs.size = D at stD hD3 hns₁ hsb₁ ⊢
  generalize hCC : H2.objs.size = L at hns₁ hsb₁ ⊢
  have hLnone : H2.get? L = none := by
    cases e : H2.get? L with
    | none => rfl
    | some o' => exact absurd (Heap.lt_size e) (by rw [hCC]; exact Nat.lt_irrefl _)
  obtain ⟨oC, hoC, hfC⟩ := FrO.of_ns hns₁
  have old : ∀ b o, H2.get? b = some o → h₁.get? b = some o := fun b o e => hsb₁.extBut b o (fun e' => by subst e'; rw [hLnone] at e; cases e) (Heap.get?_push_of_some _ e)
  have stC : StR M g ((L, oC) :: ((D, { cls := .type "dict", dict := none, data := .dict #[] }) :: ((I, oI) :: (F.Mn ++ F.P)))) h₁ := stD.own hLnone old hoC
  have hst₁ : St 0 h₁ := W.frame _ _ _ hstD fun b _ o e => old b o e
  have perm0 : ∀ (c d i : Addr × Obj), (c :: (d :: (i :: (F.Mn ++ F.P)))).Perm ((c :: F.Mn) ++ (d :: i :: F.P)) := fun c d i => by
    refine List.Perm.cons c ?_
    refine (List.Perm.cons d (perm_mid F.Mn F.P i)).trans ?_
    exact perm_mid F.Mn (i :: F.P) d
  have T0 : Turn M C F L D I g (DO M T (dsets [] (((xs.take 0).filter p).map fun a => (kf a, vf a)))) St 0 g h₁ oC { cls := .type "dict", dict := none, data := .dict #[] } oI (fun x => ([] : List (Str × Value)).reverse.lookup x) :=
    ⟨.refl _, stC.perm (perm0 _ _ _), hfC, ⟨[], ⟨#[], 0, ⟨rfl, rfl, rfl⟩, rfl, fun _ he => by simp at he, .nil, .nil⟩, .nil⟩, hst₁⟩
  have loop : ∀ tk, codeAny (model M.prog M.w) C.A (.compLoop (.DictComp kx vx [⟨.Name x px, iter, ifs, 0⟩] scope pos) 0 (.ref I) (.ref D) (inC C scope L).env) (RR (.ref D) L) { s with heap := h₁, toks := tk } := fun tk => by
    refine codeAny_compLoop_testsD
      (fun k s' => ∃ i g' h' tk oC oD oI' m, s' = { s with heap := h', toks := tk } ∧ i ≤ xs.length ∧ k = xs.length + 1 - i ∧ Turn M C F L D I g (DO M T (dsets [] (((xs.take i).filter p).map fun a => (kf a, vf a)))) St i g' h' oC oD oI' m)
      ?_ (xs.length + 1) ⟨0, g, h₁, tk, oC, _, oI, _, rfl, Nat.zero_le _, rfl, T0⟩
    rintro k s' ⟨i, g', h', tk', oC', oD', oI', m', rfl, hin, rfl, hT⟩
    by_cases hlt : i < xs.length
    · refine W.item i _ _ _ hlt hT.at_ fun v h₂ tk₂ hPi hst₂ hk₂ => ?_
      obtain ⟨oI₂, hoI₂⟩ := hI _ _ hst₂
      obtain ⟨a, hxa, hrep⟩ := hP i v hPi
      have ham : a ∈ xs := List.mem_of_getElem? hxa
      have st₂ : StR M g' (((L, oC') :: F.Mn) ++ ((D, oD') :: (I, oI₂) :: F.P)) h₂ := by
        have e : ∀ y, ((L, oC') :: F.Mn) ++ ((D, oD') :: (I, y) :: F.P) = (((L, oC') :: F.Mn) ++ [(D, oD')]) ++ ((I, y) :: F.P) := fun y => by simp
        rw [e]
        refine StR.turnMid (o := oI') (by rw [← e]; exact hT.st) hoI₂ fun b o hb e => hk₂ b o (fun hm => hb (List.mem_singleton.mp hm)) e
      refine bindIn ok hkind (s := { s with heap := h₂, toks := tk₂ }) st hsc sel cap hT.le hx hdb st₂ hT.fr (hrep g' hT.le) fun oC₃ h₃ tk₃ hfC₃ st₃ hk₃ ok₃ => ?_
      have stay : ∀ g₄ h₄, Le g' g₄ → StR M g₄ (((L, oC₃) :: F.Mn) ++ ((D, oD') :: (I, oI₂) :: F.P)) h₄ → St (i + 1) h₄ := fun g₄ h₄ l₄ st₄ => by
        refine W.frame _ _ _ hst₂ fun b hb o e => ?_
        rcases hfp b hb with rfl | ⟨o', ho'⟩
        · rw [hoI₂] at e; cases e
          exact (st₄.priv (b, oI₂) (by simp)).1
        · have h6 := st₂.keep b o' (hT.le b o' ho')
          have e' : h₂.get? b = some o := e
          rw [h6] at e'; cases e'
          exact st₄.keep b _ (l₄ b _ (hT.le b _ ho'))
      refine wpAny_mono (hif a ham L _ g' _ (fun okb s₃ => if okb = true then _ else _) ok₃ fun g₄ h₄ tk₄ l₄ ok₄ => ?_) (fun okb s₃ h => h) fun _ _ h => h.elim
      have etake : xs.take (i + 1) = xs.take i ++ [a] := by rw [List.take_add_one, hxa]; rfl
      cases hpa : p a with
      | false =>
        simp only [Bool.false_eq_true, if_false]
        refine ⟨xs.length + 1 - (i + 1), by omega, i + 1, g₄, h₄, tk₄, oC₃, oD', oI₂, _, rfl, hlt, rfl, hT.le.trans l₄, ok₄.st, hfC₃, ?_, stay _ _ l₄ ok₄.st⟩
        rw [etake, List.filter_append, List.filter_cons_of_neg (by simp [hpa]), List.filter_nil, List.append_nil]
        exact DictO.mono (fun _ _ => T.mono l₄) hT.po
      | true =>
        simp only [if_true]
        refine wpAny_mono (hek a ham hpa L _ g₄ _ (fun kv s₄ => wpAny (model M.prog M.w) C.A (eval vx (inC C scope L).env) (fun vv s₅ => wpAny (model M.prog M.w) C.A (dictSet D kv vv) _ _ s₅) _ s₄) ok₄ fun kv g₅ h₅ tk₅ l₅ ok₅ hkv => ?_) (fun _ _ h => h) fun _ _ h => h.elim
        refine wpAny_mono (hev a ham hpa L _ g₅ _ (fun vv s₅ => wpAny (model M.prog M.w) C.A (dictSet D kv vv) _ _ s₅) ok₅ fun vv g₅' h₅' tk₅' l₅' ok₅' hvv => ?_) (fun _ _ h => h) fun _ _ h => h.elim
        obtain ⟨t, rfl⟩ := hkv
        have st₅ : StR M g₅' (((L, oC₃) :: F.Mn) ++ ((D, oD') :: (I, oI₂) :: F.P)) h₅' := ok₅'.st
        obtain ⟨ps, hdo, hf⟩ := (DictO.mono (fun _ _ => T.mono (l₄.trans (l₅.trans l₅'))) hT.po).dictOf (M := M) st₅.midOut.1
        have hlen : ps.length ≤ sizeLine := by
          rw [F2.length hf]
          have h0 := dsets_length ((List.filter p (List.take i xs)).map fun a => (kf a, vf a)) []
          rw [List.length_map, List.length_nil] at h0
          have h1 := List.length_filter_le p (xs.take i)
          have h2 : (xs.take i).length ≤ xs.length := by rw [List.length_take]; omega
          omega
        refine wpAny_dictSet_pairs (s := { s with heap := h₅', toks := tk₅' }) (knd := strKind M.prog M.w) (k := kf a) (strKind_is ..) hdo (hsz := hlen) fun h₆ hd₆ hs' => ?_
        obtain ⟨o₆, ho₆, hdo₆⟩ := Heap.dictOf_iff.mp hd₆
        have st₆ := st₅.turnMid ho₆ fun b o hb e => hs'.extBut b o hb e
        have hlast : St (i + 1) h₆ := by
          refine W.frame _ _ _ (stay _ _ (l₄.trans (l₅.trans l₅')) st₅) fun b hb o e => ?_
          refine hs'.extBut b o (fun e' => ?_) e
          subst e'
          rcases hfp b hb with e1 | ⟨o', ho'⟩
          · subst e1
            have hn := st₅.nd
            simp only [List.cons_append, List.map_cons, List.map_append, List.nodup_cons, List.nodup_append] at hn
            exact hn.2.2.1.1 (List.mem_cons_self ..)
          · have := st₅.midOut.2
            rw [(hT.le.trans (l₄.trans (l₅.trans l₅'))) _ _ ho'] at this; cases this
        refine ⟨xs.length + 1 - (i + 1), by omega, i + 1, g₅', h₆, _, oC₃, o₆, oI₂, _, rfl, hlt, rfl, hT.le.trans (l₄.trans (l₅.trans l₅')), st₆, hfC₃, ?_, hlast⟩
        rw [etake, List.filter_append, List.filter_cons_of_pos (by simp [hpa]), List.filter_nil, List.map_append]
        refine ⟨_, hdo₆, ?_⟩
        unfold dsets
        rw [List.foldl_append]
        exact KV.set hf hvv
    · have hi' : i = xs.length := by omega
      subst hi'
      refine W.done _ _ _ hT.at_ fun h₂ tk₂ hk₂ => ?_
      have e : xs.take xs.length = xs := List.take_length
      have hpo := hT.po
      rw [e] at hpo
      have st0 : StR M g' ((I, oI') :: ((D, oD') :: (L, oC') :: (F.Mn ++ F.P))) h' := by
        refine hT.st.perm ?_
        refine ((perm0 (L, oC') (D, oD') (I, oI')).symm).trans ?_
        refine (List.Perm.cons _ (List.Perm.swap ..)).trans ?_
        refine (List.Perm.swap ..).trans ?_
        exact List.Perm.cons _ (List.Perm.swap ..)
      have st₂ : StR M g' ((D, oD') :: (L, oC') :: (F.Mn ++ F.P)) h₂ := st0.drop.but st0.out.2.1 st0.out.2.2 fun b o hb e => hk₂ b o (fun hm => hb (List.mem_singleton.mp hm)) e
      exact hR D oD' L oC' m' g' h₂ tk₂ hT.le st₂ hD3 hpo hT.fr
  refine codeAny_compStart_dict (loop _) (W.self 0 _ _ _ hst₁ (loop _))

end
end Mine
end

-- C14
section
open PySem PySem.W PyProof.Rows
set_option linter.unusedVariables false
namespace Mine

noncomputable def compOk (scope sc : Scope) (x : Str) (caps : List Str) : Bool :=
  scope.kind == .function && scope.names.all (fun y => y.2 != .cell) && scope.names.all (fun y => y.2 != .local || scope.names.lookup y.1 == some .local) &&
  (relabelS scope sc).names.lookup x == some .local && (x == ("__debug__" : Str)) == false && (x == ("__classdict__" : Str)) == false &&
  caps.all (fun z => scope.names.any (fun y => y.1 == z && y.2 == .free) && (relabelS scope sc).names.lookup z == some .cell && sc.names.lookup z == some .cell) &&
  scope.names.all (fun y => y.2 != .free || caps.any fun z => z == y.1)

inductive Vals : Dl → Prop
  | nil : Vals []
  | cons {x : Str} {α : Type} {T : Ty α} {y : α} {Δ : Dl} : Vals Δ → Vals ((x, .val T y) :: Δ)
theorem Vals.all : ∀ {Δ : Dl}, Vals Δ → ∀ e ∈ Δ, ∃ α T x, e.2 = @Slot.val α T x
  | _, .nil, _, h => by cases h
  | _, .cons r, e, h => by
    rcases List.mem_cons.mp h with rfl | h
    · exact ⟨_, _, _, rfl⟩
    · exact r.all e h

structure CompFacts (C : Cx) (scope sc : Scope) (x : Str) (Δc : Dl) : Prop where
  cap : Cap C scope sc Δc
  kind : scope.kind = .function
  cell : ∀ y ∈ scope.names, y.2 ≠ .cell
  names : ∀ y ∈ scope.names, y.2 = .local → scope.names.lookup y.1 = some .local
  loc : (relabelS scope sc).names.lookup x = some .local
  dbg : (x == ("__debug__" : Str)) = false ∧ (x == ("__classdict__" : Str)) = false

theorem compFacts {C : Cx} {scope sc : Scope} {x : Str} {Δc : Dl} (hv : Vals Δc) (h : compOk scope sc x (Δc.map (·.1)) = true) : CompFacts C scope sc x Δc := by
  unfold compOk at h
  simp only [Bool.and_eq_true, List.all_eq_true, List.any_eq_true, beq_iff_eq, bne_iff_ne, ne_eq, Bool.or_eq_true] at h
  obtain ⟨⟨⟨⟨⟨⟨⟨h1, h2⟩, h3⟩, h4⟩, h5⟩, h6⟩, h7⟩, h8⟩ := h
  refine ⟨⟨hv.all, fun e he => ?_, fun y hy hf => ?_, fun e he => ?_⟩, h1, h2, fun y hy hl => ?_, h4, ⟨by simpa using h5, by simpa using h6⟩⟩
  · obtain ⟨⟨⟨y, hy, e1, e2⟩, e3⟩, _⟩ := h7 e.1 (List.mem_map.mpr ⟨e, he, rfl⟩)
    refine ⟨?_, e3⟩
    obtain ⟨y1, y2⟩ := y
    simp only at e1 e2
    subst e1 e2
    exact hy
  · rcases h8 y hy with h | ⟨z, hz, e⟩
    · exact absurd hf h
    · obtain ⟨⟨z1, z2⟩, hz2, rfl⟩ := List.mem_map.mp hz
      exact ⟨z2, by simp only at e; rw [← e]; exact hz2⟩
  · exact (h7 e.1 (List.mem_map.mpr ⟨e, he, rfl⟩)).2
  · rcases h3 y hy with h | h
    · exact absurd hl h
    · exact h

section
variable {M : Pg} {C : Cx} {Δ : Dl} {n : Nat}

theorem cap_closed {F : FD} {g : PM} {h : Heap} {scope sc : Scope} {Δc : Dl} (st : Ok M C Δ F g h) (hsc : C.env.scope = sc) (sel : Sel Δ Δc) (cap : Cap C scope sc Δc) :
    ∀ y ∈ scope.names, y.2 = .free → (C.env.cells.lookup y.1).isSome = true := fun y hy hf => by
  obtain ⟨sl, hm⟩ := cap.all y hy hf
  obtain ⟨as2, as3, hp, hb⟩ := st.bd.sel sel
  obtain ⟨v, as1, hr, _⟩ := hb.slot hm
  have hk : C.env.kindOf y.1 = some .cell := by unfold Env.kindOf; rw [hsc]; exact cap.outer _ hm
  rcases hr.2.2 with ⟨h1, _⟩ | ⟨_, c, hc, _⟩
  · rw [hk] at h1; cases h1
  · rw [hc]; rfl

theorem EvO.listComp (ok : C.Ok n) {elt iter : Expr} {x : Str} {px : Pos} {ifs : List Expr} {scope sc : Scope} {pos : Pos} {Δc : Dl} {α β : Type} {xs : List β} {S : Ty β} {T : Ty α} (p : β → Bool) (f : β → α)
    (hsc : C.env.scope = sc) (sel : Sel Δ Δc) (cf : CompFacts C scope sc x Δc) (hi : It M C Δ iter S xs)
    (hif : ∀ a ∈ xs, ∀ C' : Cx, C'.Ok n → C'.env.scope = relabelS scope sc → EvIf M C' ((x, .val S a) :: Δc) ifs (p a))
    (he : ∀ a ∈ xs, p a = true → ∀ C' : Cx, C'.Ok n → C'.env.scope = relabelS scope sc → Ev M C' ((x, .val S a) :: Δc) elt T (f a)) (hsz : xs.length ≤ sizeLine)
    (hs : ∀ v, foldedSetIterable iter C.env v = pure v := by intro _; rfl) :
    EvO M C Δ (.ListComp elt [⟨.Name x px, iter, ifs, 0⟩] scope pos) (LO T ((xs.filter p).map f)) := fun F g s Q st hQ => by
  have hrs : ∀ L, (inC C scope L).env.scope = relabelS scope sc := fun L => by
    show relabel scope C.env = _
    rw [relabel_is, hsc]
  rw [eval_ListComp]
  refine wpAny_comprehension_free (use := none) rfl hs (closure_is (cap_closed st hsc sel cf.cap)) cf.kind cf.names (hi F g s _ st fun I oI g1 h1 tk1 fp m Pi St hm l1 st1 stI W hfp hst hI hP => ?_)
  subst hm
  refine compL (s := { s with heap := h1, toks := tk1 }) (RR := fun acc L => compPost (model M.prog M.w) C.A (fun _ _ => False) none Q acc L) ok p f hsc sel cf.cap cf.loc cf.dbg cf.kind cf.cell (fun a ha L => hif a ha _ (inC_ok ok cf.kind) (hrs L)) (fun a ha hp L => he a ha hp _ (inC_ok ok cf.kind) (hrs L)) hsz st1 stI W hfp hst hI hP ?_
  intro D oD Cf oC m' g' h' tk l stD h3 hpo hfr
  refine ⟨m', hfr.ns stD.drop.out.1, fun h2 hs2 => hQ D oD g' h2 tk (l1.trans l) ?_ h3 hpo⟩
  have st2 : StR M g' ((Cf, oC) :: ((D, oD) :: (F.Mn ++ F.P))) h' := stD.perm (List.Perm.swap ..)
  exact st2.drop.but st2.out.2.1 st2.out.2.2 fun b o hb e => hs2.extBut b o hb e

theorem EvO.dictComp (ok : C.Ok n) {kx vx iter : Expr} {x : Str} {px : Pos} {ifs : List Expr} {scope sc : Scope} {pos : Pos} {Δc : Dl} {α β : Type} {xs : List β} {S : Ty β} {T : Ty α} (p : β → Bool) (kf : β → Str) (vf : β → α)
    (hsc : C.env.scope = sc) (sel : Sel Δ Δc) (cf : CompFacts C scope sc x Δc) (hi : It M C Δ iter S xs)
    (hif : ∀ a ∈ xs, ∀ C' : Cx, C'.Ok n → C'.env.scope = relabelS scope sc → EvIf M C' ((x, .val S a) :: Δc) ifs (p a))
    (hek : ∀ a ∈ xs, p a = true → ∀ C' : Cx, C'.Ok n → C'.env.scope = relabelS scope sc → Ev M C' ((x, .val S a) :: Δc) kx tStr (kf a))
    (hev : ∀ a ∈ xs, p a = true → ∀ C' : Cx, C'.Ok n → C'.env.scope = relabelS scope sc → Ev M C' ((x, .val S a) :: Δc) vx T (vf a)) (hsz : xs.length ≤ sizeLine)
    (hs : ∀ v, foldedSetIterable iter C.env v = pure v := by intro _; rfl) :
    EvO M C Δ (.DictComp kx vx [⟨.Name x px, iter, ifs, 0⟩] scope pos) (DO M T (dsets [] ((xs.filter p).map fun a => (kf a, vf a)))) := fun F g s Q st hQ => by
  have hrs : ∀ L, (inC C scope L).env.scope = relabelS scope sc := fun L => by
    show relabel scope C.env = _
    rw [relabel_is, hsc]
  rw [arm_eval_DictComp]
  refine wpAny_comprehension_free (use := none) rfl hs (closure_is (cap_closed st hsc sel cf.cap)) cf.kind cf.names (hi F g s _ st fun I oI g1 h1 tk1 fp m Pi St hm l1 st1 stI W hfp hst hI hP => ?_)
  subst hm
  refine compD (s := { s with heap := h1, toks := tk1 }) (RR := fun acc L => compPost (model M.prog M.w) C.A (fun _ _ => False) none Q acc L) ok p kf vf hsc sel cf.cap cf.loc cf.dbg cf.kind cf.cell (fun a ha L => hif a ha _ (inC_ok ok cf.kind) (hrs L)) (fun a ha hp L => hek a ha hp _ (inC_ok ok cf.kind) (hrs L)) (fun a ha hp L => hev a ha hp _ (inC_ok ok cf.kind) (hrs L)) hsz st1 stI W hfp hst hI hP ?_
  intro D oD Cf oC m' g' h' tk l stD h3 hpo hfr
  refine ⟨m', hfr.ns stD.drop.out.1, fun h2 hs2 => hQ D oD g' h2 tk (l1.trans l) ?_ h3 hpo⟩
  have st2 : StR M g' ((Cf, oC) :: ((D, oD) :: (F.Mn ++ F.P))) h' := stD.perm (List.Perm.swap ..)
  exact st2.drop.but st2.out.2.1 st2.out.2.2 fun b o hb e => hs2.extBut b o hb e

/- what is made is bound before the comprehension's frame goes -/
theorem useComp (ok : C.Ok n) {F : FD} {g : PM} {s : Shared} {y : Str} {py : Pos} {Δ' : Dl} {sl : Slot} {PO : PM → Obj → Prop} {Q : Value → Shared → Prop} (st : Ok M C Δ F g s.heap)
    (hsl : ∀ g a o Mn, PO g o → 3 < a → (a, o) ∈ Mn → sl.holds M g Mn (.ref a) [a])
    (hy : C.env.kindOf y = some .local) (hdb : (y == ("__debug__" : Str)) = false ∧ (y == ("__classdict__" : Str)) = false) (hd : Drop y Δ Δ')
    {D Cf : Addr} {oD oC : Obj} {m' : Str → Option Value} {g' : PM} {h' : Heap} {tk : Nat} (l : Le g g') (stD : StR M g' ((D, oD) :: (Cf, oC) :: (F.Mn ++ F.P)) h') (h3 : 3 < D) (hpo : PO g' oD) (hfr : FrO oC m')
    (hQ : ∀ F' h2 tk, F'.P = F.P → Ok M C ((y, sl) :: Δ') F' g' h2 → Q .none { s with heap := h2, toks := tk }) :
    compPost (model M.prog M.w) C.A (fun _ _ => False) (some (PySem.assign (.Name y py) C.env)) Q (.ref D) Cf (.ok .next) { s with heap := h', toks := tk } := by
  have st1 : StR M g' ((D, oD) :: (F.Mn ++ (Cf, oC) :: F.P)) h' := stD.perm (List.Perm.cons _ (perm_mid ..))
  have ok1 : Ok M C Δ { F with P := (Cf, oC) :: F.P } g' h' := ⟨st1.drop, st.fr, st.ce, st.nd, st.bd.mono l⟩
  refine wpAny_assign_Name (wpAny_mono (Ok.storeOwn (s := { s with heap := h', toks := tk }) ok ok1 st1 hy hdb hd (fun Mn hm => hsl g' D oD Mn hpo h3 hm)
    (Q := fun _ s'' => ∃ m, s''.heap.Ns Cf m ∧ ∀ h', Heap.SameBut Cf s''.heap h' → Q .none { s'' with heap := h' }) fun F' h2 tk2 e2 st2 => ?_) (fun _ _ h => h) fun _ _ h => h.elim)
  have e2' : F'.P = (Cf, oC) :: F.P := e2
  have st2M : StR M g' (F'.Mn ++ (Cf, oC) :: F.P) h2 := by rw [← e2']; exact st2.st
  refine ⟨m', hfr.ns st2M.midOut.1, fun h4 hs4 => hQ { F' with P := F.P } h4 _ rfl ⟨?_, st2.fr, st2.ce, st2.nd, st2.bd⟩⟩
  have st3 := st2M.perm (perm_mid ..).symm
  exact st3.drop.but st3.out.2.1 st3.out.2.2 fun b o hb e => hs4.extBut b o hb e

theorem Ws.assignLC (ok : C.Ok n) {elt iter : Expr} {x y : Str} {px py : Pos} {ifs : List Expr} {scope sc : Scope} {pos spos : Pos} {Δc Δ' : Dl} {α β γ : Type} {xs : List β} {S : Ty β} {T : Ty α} (p : β → Bool) (f : β → α)
    {rest : List Stmt} {U : Ty γ} {r : γ} {K : Dl → Prop}
    (hsc : C.env.scope = sc) (sel : Sel Δ Δc) (cf : CompFacts C scope sc x Δc) (hi : It M C Δ iter S xs)
    (hif : ∀ a ∈ xs, ∀ C' : Cx, C'.Ok n → C'.env.scope = relabelS scope sc → EvIf M C' ((x, .val S a) :: Δc) ifs (p a))
    (he : ∀ a ∈ xs, p a = true → ∀ C' : Cx, C'.Ok n → C'.env.scope = relabelS scope sc → Ev M C' ((x, .val S a) :: Δc) elt T (f a)) (hsz : xs.length ≤ sizeLine)
    (hy : C.env.kindOf y = some .local) (hdb : (y == ("__debug__" : Str)) = false ∧ (y == ("__classdict__" : Str)) = false) (hd : Drop y Δ Δ')
    (hr : Ws M C ((y, .list T ((xs.filter p).map f)) :: Δ') rest U r K)
    (hsw : swapsWith (.ListComp elt [⟨.Name x px, iter, ifs, 0⟩] scope pos) (some (.Name y py)) spos.line C.env = pure true)
    (hs : ∀ v, foldedSetIterable iter C.env v = pure v := by intro _; rfl) :
    Ws M C Δ (.Assign [.Name y py] (.ListComp elt [⟨.Name x px, iter, ifs, 0⟩] scope pos) spos :: rest) U r K := fun F g s Q st hN hR => by
  have hrs : ∀ L, (inC C scope L).env.scope = relabelS scope sc := fun L => by
    show relabel scope C.env = _
    rw [relabel_is, hsc]
  refine wpAny_execs_cons ?_
  rw [exec_Assign_Name_used _ _ _ _ hsw]
  refine wpAny_bind (wpAny_standAt (wpAny_bind ?_))
  show wpAny _ C.A (do let _ ← comprehension (.ListComp elt [⟨.Name x px, iter, ifs, 0⟩] scope pos) scope C.env _ (newList []) false (eval iter C.env) (some (PySem.assign (.Name y py) C.env))) _ _ s
  refine wpAny_bind (wpAny_mono (wpAny_comprehension_free (use := some (PySem.assign (.Name y py) C.env)) (Q := fun _ s' => wpAny (model M.prog M.w) C.A (execs rest C.env) Q (fun _ _ => False) s') rfl hs (closure_is (cap_closed st hsc sel cf.cap)) cf.kind cf.names
    (hi F g s _ st fun I oI g1 h1 tk1 fp m Pi St hm l1 st1 stI W hfp hst hI hP => ?_)) (fun _ s' hq => wpAny_pure (wpAny_pure hq)) fun _ _ e => e)
  subst hm
  refine compL (s := { s with heap := h1, toks := tk1 }) (RR := fun acc L => compPost (model M.prog M.w) C.A (fun _ _ => False) (some (PySem.assign (.Name y py) C.env)) (fun _ s' => wpAny (model M.prog M.w) C.A (execs rest C.env) Q (fun _ _ => False) s') acc L)
    ok p f hsc sel cf.cap cf.loc cf.dbg cf.kind cf.cell (fun a ha L => hif a ha _ (inC_ok ok cf.kind) (hrs L)) (fun a ha hp L => he a ha hp _ (inC_ok ok cf.kind) (hrs L)) hsz st1 stI W hfp hst hI hP ?_
  intro D oD Cf oC m' g' h' tk l stD h3 hpo hfr
  exact useComp (sl := .list T ((xs.filter p).map f)) (s := { s with heap := h1, toks := tk1 }) ok st1 (fun g a o Mn hp ha hm => ⟨a, o, rfl, rfl, hm, hp⟩) hy hdb hd l stD h3 hpo hfr fun F' h2 tk2 e2 st2 => hr.go hN hR e2 (l1.trans l) st2

theorem Ws.assignDC (ok : C.Ok n) {kx vx iter : Expr} {x y : Str} {px py : Pos} {ifs : List Expr} {scope sc : Scope} {pos spos : Pos} {Δc Δ' : Dl} {α β γ : Type} {xs : List β} {S : Ty β} {T : Ty α} (p : β → Bool) (kf : β → Str) (vf : β → α)
    {rest : List Stmt} {U : Ty γ} {r : γ} {K : Dl → Prop}
    (hsc : C.env.scope = sc) (sel : Sel Δ Δc) (cf : CompFacts C scope sc x Δc) (hi : It M C Δ iter S xs)
    (hif : ∀ a ∈ xs, ∀ C' : Cx, C'.Ok n → C'.env.scope = relabelS scope sc → EvIf M C' ((x, .val S a) :: Δc) ifs (p a))
    (hek : ∀ a ∈ xs, p a = true → ∀ C' : Cx, C'.Ok n → C'.env.scope = relabelS scope sc → Ev M C' ((x, .val S a) :: Δc) kx tStr (kf a))
    (hev : ∀ a ∈ xs, p a = true → ∀ C' : Cx, C'.Ok n → C'.env.scope = relabelS scope sc → Ev M C' ((x, .val S a) :: Δc) vx T (vf a)) (hsz : xs.length ≤ sizeLine)
    (hy : C.env.kindOf y = some .local) (hdb : (y == ("__debug__" : Str)) = false ∧ (y == ("__classdict__" : Str)) = false) (hd : Drop y Δ Δ')
    (hr : Ws M C ((y, .dict T (dsets [] ((xs.filter p).map fun a => (kf a, vf a)))) :: Δ') rest U r K)
    (hsw : swapsWith (.DictComp kx vx [⟨.Name x px, iter, ifs, 0⟩] scope pos) (some (.Name y py)) spos.line C.env = pure true)
    (hs : ∀ v, foldedSetIterable iter C.env v = pure v := by intro _; rfl) :
    Ws M C Δ (.Assign [.Name y py] (.DictComp kx vx [⟨.Name x px, iter, ifs, 0⟩] scope pos) spos :: rest) U r K := fun F g s Q st hN hR => by
  have hrs : ∀ L, (inC C scope L).env.scope = relabelS scope sc := fun L => by
    show relabel scope C.env = _
    rw [relabel_is, hsc]
  refine wpAny_execs_cons ?_
  rw [exec_Assign_Name_used _ _ _ _ hsw]
  refine wpAny_bind (wpAny_standAt (wpAny_bind ?_))
  show wpAny _ C.A (do let _ ← comprehension (.DictComp kx vx [⟨.Name x px, iter, ifs, 0⟩] scope pos) scope C.env _ newDict false (eval iter C.env) (some (PySem.assign (.Name y py) C.env))) _ _ s
  refine wpAny_bind (wpAny_mono (wpAny_comprehension_free (use := some (PySem.assign (.Name y py) C.env)) (Q := fun _ s' => wpAny (model M.prog M.w) C.A (execs rest C.env) Q (fun _ _ => False) s') rfl hs (closure_is (cap_closed st hsc sel cf.cap)) cf.kind cf.names
    (hi F g s _ st fun I oI g1 h1 tk1 fp m Pi St hm l1 st1 stI W hfp hst hI hP => ?_)) (fun _ s' hq => wpAny_pure (wpAny_pure hq)) fun _ _ e => e)
  subst hm
  refine compD (s := { s with heap := h1, toks := tk1 }) (RR := fun acc L => compPost (model M.prog M.w) C.A (fun _ _ => False) (some (PySem.assign (.Name y py) C.env)) (fun _ s' => wpAny (model M.prog M.w) C.A (execs rest C.env) Q (fun _ _ => False) s') acc L)
    ok p kf vf hsc sel cf.cap cf.loc cf.dbg cf.kind cf.cell (fun a ha L => hif a ha _ (inC_ok ok cf.kind) (hrs L)) (fun a ha hp L => hek a ha hp _ (inC_ok ok cf.kind) (hrs L)) (fun a ha hp L => hev a ha hp _ (inC_ok ok cf.kind) (hrs L)) hsz st1 stI W hfp hst hI hP ?_
  intro D oD Cf oC m' g' h' tk l stD h3 hpo hfr
  exact useComp (sl := .dict T (dsets [] ((xs.filter p).map fun a => (kf a, vf a)))) (PO := DO M T _) (s := { s with heap := h1, toks := tk1 }) ok st1 (fun g a o Mn hp ha hm => ⟨a, o, rfl, rfl, hm, ha, hp⟩) hy hdb hd l stD h3 hpo hfr fun F' h2 tk2 e2 st2 => hr.go hN hR e2 (l1.trans l) st2

/- what was one's own will not be turned any more -/
theorem freezeAll {F : FD} {h : Heap} : ∀ (as : List Addr) {g : PM} {Mn : List (Addr × Obj)}, StR M g (Mn ++ F.P) h → as.Nodup → (∀ a ∈ as, ∃ o, (a, o) ∈ Mn) →
    ∃ g' Mn', Le g g' ∧ StR M g' (Mn' ++ F.P) h ∧ (∀ b ob, (b, ob) ∈ Mn → b ∉ as → (b, ob) ∈ Mn') ∧ (∀ a ∈ as, ∀ o, (a, o) ∈ Mn → g' a = some o)
  | [], g, Mn, st, _, _ => ⟨g, Mn, .refl _, st, fun _ _ hm _ => hm, fun _ h => by cases h⟩
  | a :: as, g, Mn, st, hn, hm => by
    obtain ⟨o, ho⟩ := hm a (List.mem_cons_self ..)
    obtain ⟨p, q, rfl⟩ := List.append_of_mem ho
    rw [List.nodup_cons] at hn
    have st1 : StR M g ((a, o) :: ((p ++ q) ++ F.P)) h := by
      refine st.perm ?_
      rw [List.append_assoc, List.append_assoc]
      exact (perm_mid p (q ++ F.P) (a, o)).symm
    have hgn := st1.out.2.1
    have hother : ∀ b ob, (b, ob) ∈ p ++ (a, o) :: q → b ≠ a → (b, ob) ∈ p ++ q := fun b ob hb hne => by
      rcases List.mem_append.mp hb with hb | hb
      · exact List.mem_append_left _ hb
      · rcases List.mem_cons.mp hb with e | hb
        · cases e; exact absurd rfl hne
        · exact List.mem_append_right _ hb
    obtain ⟨g', Mn', l', st', hk', hg'⟩ := freezeAll as st1.freeze hn.2 fun b hb => by
      obtain ⟨ob, hob⟩ := hm b (List.mem_cons_of_mem _ hb)
      exact ⟨ob, hother b ob hob fun e => hn.1 (e ▸ hb)⟩
    refine ⟨g', Mn', (PM.le_put hgn).trans l', st', fun b ob hb hnb => hk' b ob (hother b ob hb fun e => hnb (e ▸ List.mem_cons_self ..)) fun hb' => hnb (List.mem_cons_of_mem _ hb'), fun b hb ob hob => ?_⟩
    by_cases e : b = a
    · subst e
      have : ob = o := by
        have h1 := (st.priv (b, ob) (List.mem_append_left _ hob)).1
        have h2 := st1.out.1
        rw [h2] at h1; exact (Option.some.inj h1).symm
      subst this
      exact l' b ob PM.put_self
    · rcases List.mem_cons.mp hb with e' | hb
      · exact absurd e' e
      · exact hg' b hb ob (hother b ob hob e)

theorem Wk.freezeL {x : Str} {α : Type} {T : Ty α} {xs : List α} {Δ' : Dl} (pk : Pick (x, .list T xs) Δ Δ') : Wk M C Δ ((x, .val (tList T) xs) :: Δ') := fun F g h st => by
  obtain ⟨v, as1, as2, hr, ⟨a, o, rfl, rfl, hM, hp⟩, hnd, turn⟩ := st.turn pk
  obtain ⟨g', Mn', l, st', hk, hg⟩ := freezeAll [a] st.st hnd (fun b hb => by rw [List.mem_singleton.mp hb]; exact ⟨o, hM⟩)
  refine ⟨{ F with Mn := Mn', as := [] ++ as2 }, g', rfl, l, turn Mn' [] (.val (tList T) xs) g' h l st' hk ⟨rfl, a, o, rfl, hg a (List.mem_singleton.mpr rfl) o hM, (hp.mono l).1⟩ (fun b hb => by cases hb) List.nodup_nil⟩
theorem Wk.freezeS {x : Str} {α : Type} {T : Ty α} {xs : List α} {Δ' : Dl} (pk : Pick (x, .slist T xs) Δ Δ') : Wk M C Δ ((x, .val (tList T) xs) :: Δ') := fun F g h st => by
  obtain ⟨v, as1, as2, hr, ⟨a, o, rfl, rfl, hM, hp⟩, hnd, turn⟩ := st.turn pk
  obtain ⟨g', Mn', l, st', hk, hg⟩ := freezeAll [a] st.st hnd (fun b hb => by rw [List.mem_singleton.mp hb]; exact ⟨o, hM⟩)
  refine ⟨{ F with Mn := Mn', as := [] ++ as2 }, g', rfl, l, turn Mn' [] (.val (tList T) xs) g' h l st' hk ⟨rfl, a, o, rfl, hg a (List.mem_singleton.mpr rfl) o hM, hp.mono l⟩ (fun b hb => by cases hb) List.nodup_nil⟩
theorem Wk.freezeD {x : Str} {α : Type} {T : Ty α} {kvs : List (Str × α)} {Δ' : Dl} (pk : Pick (x, .dict T kvs) Δ Δ') : Wk M C Δ ((x, .val (tDict M.prog M.w T) kvs) :: Δ') := fun F g h st => by
  obtain ⟨v, as1, as2, hr, ⟨a, o, rfl, rfl, hM, h3, hp⟩, hnd, turn⟩ := st.turn pk
  obtain ⟨g', Mn', l, st', hk, hg⟩ := freezeAll [a] st.st hnd (fun b hb => by rw [List.mem_singleton.mp hb]; exact ⟨o, hM⟩)
  refine ⟨{ F with Mn := Mn', as := [] ++ as2 }, g', rfl, l, turn Mn' [] (.val (tDict M.prog M.w T) kvs) g' h l st' hk ⟨rfl, a, o, rfl, hg a (List.mem_singleton.mpr rfl) o hM, h3, hp.mono fun _ _ => T.mono l⟩ (fun b hb => by cases hb) List.nodup_nil⟩
theorem Wk.freezeD2 {x : Str} {α : Type} {T : Ty α} {kvs : List (Str × List (Str × α))} {Δ' : Dl} (pk : Pick (x, .dict2 T kvs) Δ Δ') : Wk M C Δ ((x, .val (tDict M.prog M.w (tDict M.prog M.w T)) kvs) :: Δ') := fun F g h st => by
  obtain ⟨v, as1, as2, hr, hh, hnd, turn⟩ := st.turn pk
  have hmem := Slot.as_mem hh
  obtain ⟨a, o, bs, rfl, rfl, hM, h3, ps, hd, hb, hf⟩ := hh
  obtain ⟨g', Mn', l, st', hk, hg⟩ := freezeAll (a :: bs) st.st hnd hmem
  refine ⟨{ F with Mn := Mn', as := [] ++ as2 }, g', rfl, l, turn Mn' [] (.val (tDict M.prog M.w (tDict M.prog M.w T)) kvs) g' h l st' hk ⟨rfl, a, o, rfl, hg a (List.mem_cons_self ..) o hM, h3, ps, hd, ?_⟩ (fun b hb => by cases hb) List.nodup_nil⟩
  have hin : ∀ p ∈ ps, ∀ b, p.2 = Value.ref b → b ∈ bs := fun p hp b e => by
    have h1 : Value.ref b ∈ bs.map Value.ref := hb ▸ List.mem_map.mpr ⟨p, hp, e⟩
    obtain ⟨y, hy, e⟩ := List.mem_map.mp h1
    injection e with e
    exact e ▸ hy
  have go : ∀ (l1 : List (Str × Value)) (l2 : List (Str × List (Str × α))), (∀ p ∈ l1, p ∈ ps) →
      F2 (fun p q => p.1 = q.1 ∧ ∃ b ob, p.2 = Value.ref b ∧ 3 < b ∧ (b, ob) ∈ F.Mn ∧ DictO M.prog M.w (T.rep g) ob q.2) l1 l2 → KV ((tDict M.prog M.w T).rep g') l1 l2 := by
    intro l1 l2 hl h
    induction h with
    | nil => exact .nil
    | cons hr _ ih =>
      rename_i p q r r' _
      obtain ⟨u, b, ob, u1, u4, u2, u3⟩ := hr
      refine .cons ⟨u, b, ob, u1, hg b (List.mem_cons_of_mem _ (hin p (hl p (List.mem_cons_self ..)) b u1)) ob u2, u4, u3.mono fun _ _ => T.mono l⟩ (ih fun p hp => hl p (List.mem_cons_of_mem _ hp))
  exact go ps kvs (fun _ h => h) hf
end
end Mine
end

-- C15
section
open PySem PySem.W PyProof.Rows
set_option linter.unusedVariables false
namespace Mine

theorem F2.strs {g : PM} : ∀ {vs : List Value} {xs : List Str}, F2 (tStr.rep g) vs xs → StrsAre vs xs
  | _, _, .nil => .nil
  | _, _, .cons ⟨t, e⟩ r => by subst e; exact .cons _ t r.strs
theorem F2.ints {g : PM} : ∀ {vs : List Value} {xs : List Int}, F2 (tInt.rep g) vs xs → IntsAre vs xs
  | _, _, .nil => .nil
  | _, _, .cons ⟨t, e⟩ r => by subst e; exact .cons _ t r.ints

section
variable {M : Pg} {C : Cx} {Δ : Dl} {n : Nat}

theorem EvB.inD {l r : Expr} {pos : Pos} {k : Str} {α : Type} {T : Ty α} {kvs : List (Str × α)} (hl : Ev M C Δ l tStr k) (hr : EvD M C Δ r T kvs)
    (hm : behindInMarks .In r = false := by with_unfolding_all rfl) : EvB M C Δ (.Compare l [.In] [r] pos) (dget kvs k).isSome := fun F g s Q st hQ => by
  refine wpAny_isTrue_Compare1 (hl F g s _ st fun v g1 h1 tk1 l1 st1 ht1 => hr F g1 _ _ st1 fun a o g2 h2 tk2 l2 st2 hS hk hd => ?_) hm
  obtain ⟨t, rfl⟩ := ht1
  obtain ⟨ps, hdo, hkv⟩ := hd.dictOf (M := M) (hS.get st2)
  refine wpAny_in_of (s := { s with heap := h2, toks := tk2 }) (strKind_is ..) (notMods hk) hdo.mapOf (wpAny_truthy_bool ?_)
  rw [KV.isSome hkv]
  exact hQ g2 h2 _ (l1.trans l2) st2
theorem EvB.notInD {l r : Expr} {pos : Pos} {k : Str} {α : Type} {T : Ty α} {kvs : List (Str × α)} (hl : Ev M C Δ l tStr k) (hr : EvD M C Δ r T kvs)
    (hm : behindInMarks .NotIn r = false := by with_unfolding_all rfl) : EvB M C Δ (.Compare l [.NotIn] [r] pos) (!(dget kvs k).isSome) := fun F g s Q st hQ => by
  refine wpAny_isTrue_Compare1 (hl F g s _ st fun v g1 h1 tk1 l1 st1 ht1 => hr F g1 _ _ st1 fun a o g2 h2 tk2 l2 st2 hS hk hd => ?_) hm
  obtain ⟨t, rfl⟩ := ht1
  obtain ⟨ps, hdo, hkv⟩ := hd.dictOf (M := M) (hS.get st2)
  refine wpAny_notIn_of (s := { s with heap := h2, toks := tk2 }) (strKind_is ..) (notMods hk) hdo.mapOf (wpAny_truthy_bool ?_)
  rw [KV.isSome hkv]
  exact hQ g2 h2 _ (l1.trans l2) st2
theorem Cmp.inListS {k : Str} {xs : List Str} : Cmp M C .In tStr (tList tStr) k xs (xs.any (· == k)) := fun Δ v u F g s Q hv hu st hQ => by
  obtain ⟨t, rfl⟩ := hv
  obtain ⟨a, o, rfl, ho, hl⟩ := hu
  obtain ⟨vs, hL, hf⟩ := hl.isList (st.st.keep _ _ ho)
  exact in_list_strs hL hf.strs (hQ g s.heap s.toks (.refl _) st)

/- a dict's item, or what stands for it -/
theorem Ev.getD (ok : C.Ok n) {e ek ed : Expr} {pa pos : Pos} {α : Type} {T : Ty α} {kvs : List (Str × α)} {k : Str} {d : α} (he : EvD M C Δ e T kvs) (hk : Ev M C Δ ek tStr k) (hd : Ev M C Δ ed T d)
    (hs : starEach [ek, ed] C.env = [ek, ed].map fun e => (false, eval e C.env)) (hline : (pa.endLine == pos.line) = true)
    (hbase : attributeBase e "get" C.env (eval e C.env) = eval e C.env := by rfl) :
    Ev M C Δ (.Call (.Attribute e "get" pa) [ek, ed] [] pos) T ((dget kvs k).getD d) := fun F g s Q st hQ => by
  refine wpAny_Call_method (T := "dict") (id := "dict.get") hbase (hfew_of hs (by show 2 < 29; decide)) hline PySem.F.plainAttrs_dict PySem.F.slot_dict_get PySem.F.type_dict_get
    (he F g s _ st fun a o g1 h1 tk1 l1 st1 hS h3 hdo => ?_)
  obtain ⟨ps, hdd, hkv⟩ := hdo.dictOf (M := M) (hS.get st1)
  refine ⟨Heap.DictOf.typeIs (s := { s with heap := h1, toks := tk1 }) hdd, hdd.mapOf.noDict, ?_⟩
  rw [backTo_plain hs]
  refine wpAny_dict_get2 (knd := strKind M.prog M.w) (notMods h3) (hk F g1 _ _ st1 fun kv g2 h2 tk2 l2 st2 ht2 => hd F g2 _ _ st2 fun dv g3 h3' tk3 l3 st3 ht3 => ?_)
  obtain ⟨t, rfl⟩ := ht2
  obtain ⟨ps', hdd', hkv'⟩ := (hdo.mono fun _ _ => T.mono (l2.trans l3)).dictOf (M := M) ((hS.mono (l2.trans l3)).get st3)
  refine ⟨k, valueAt ps', strKind_is .., hdd'.mapOf, hQ _ g3 h3' _ (l1.trans (l2.trans l3)) st3 ?_⟩
  cases e : dget kvs k with
  | none => rw [KV.get_none hkv' e]; exact ht3
  | some x => obtain ⟨v, hv, hr⟩ := KV.get_some hkv' e; rw [hv]; exact hr

/- a builtin function called with one value -/
theorem Ev.callB1 (ok : C.Ok n) {x : Str} {id : String} (hb : Bi M x (.builtin id)) (hx : C.env.kindOf x = some .globalImplicit) (hdb : (x == ("__debug__" : Str)) = false) {e : Expr} {p pos : Pos} {α β : Type} {S : Ty α} {T : Ty β} {a : α} {b : β}
    (he : Ev M C Δ e S a)
    (hc : ∀ v (F : FD) (g : PM) (s : Shared) (Q : Value → Shared → Prop), S.rep g v a → Ok M C Δ F g s.heap →
      (∀ v g' h' tk, Le g g' → Ok M C Δ F g' h' → T.rep g' v b → Q v { s with heap := h', toks := tk }) → wpAny (model M.prog M.w) C.A (PySem.call (.builtin id) [v]) Q (fun _ _ => False) s)
    (hs : starEach [e] C.env = [e].map fun e => (false, eval e C.env)) : Ev M C Δ (.Call (.Name x p) [e] [] pos) T b := fun F g s Q st hQ => by
  refine wpAny_Call_Name_kw (builtin_name ok st hx hdb hb.no hb.yes ?_)
  rw [backTo_plain hs]
  refine Calls.callWith_builtin rfl (Calls.evalArgs_plain (Calls.spliced_cons (he F g s _ st fun v g1 h1 tk1 l1 st1 ht1 => Calls.spliced_nil ?_)))
  exact hc v F g1 _ Q ht1 st1 fun v' g2 h2 tk2 l2 st2 ht2 => hQ v' g2 h2 tk2 (l1.trans l2) st2 ht2
theorem Ev.callB2 (ok : C.Ok n) {x : Str} {id : String} (hb : Bi M x (.builtin id)) (hx : C.env.kindOf x = some .globalImplicit) (hdb : (x == ("__debug__" : Str)) = false) {e1 e2 : Expr} {p pos : Pos} {α1 α2 β : Type} {S1 : Ty α1} {S2 : Ty α2} {T : Ty β} {a1 : α1} {a2 : α2} {b : β}
    (he1 : Ev M C Δ e1 S1 a1) (he2 : Ev M C Δ e2 S2 a2)
    (hc : ∀ v u (F : FD) (g : PM) (s : Shared) (Q : Value → Shared → Prop), S1.rep g v a1 → S2.rep g u a2 → Ok M C Δ F g s.heap →
      (∀ v g' h' tk, Le g g' → Ok M C Δ F g' h' → T.rep g' v b → Q v { s with heap := h', toks := tk }) → wpAny (model M.prog M.w) C.A (PySem.call (.builtin id) [v, u]) Q (fun _ _ => False) s)
    (hs : starEach [e1, e2] C.env = [e1, e2].map fun e => (false, eval e C.env)) : Ev M C Δ (.Call (.Name x p) [e1, e2] [] pos) T b := fun F g s Q st hQ => by
  refine wpAny_Call_Name_kw (builtin_name ok st hx hdb hb.no hb.yes ?_)
  rw [backTo_plain hs]
  refine Calls.callWith_builtin rfl (Calls.evalArgs_plain (Calls.spliced_cons (he1 F g s _ st fun v g1 h1 tk1 l1 st1 ht1 => Calls.spliced_cons (he2 F g1 _ _ st1 fun u g2 h2 tk2 l2 st2 ht2 => Calls.spliced_nil ?_))))
  exact hc v u F g2 _ Q (S1.mono l2 ht1) ht2 st2 fun v' g3 h3 tk3 l3 st3 ht3 => hQ v' g3 h3 tk3 (l1.trans (l2.trans l3)) st3 ht3

theorem Ev.lenStr (ok : C.Ok n) (hb : Bi M "len" (.builtin "len")) (hx : C.env.kindOf "len" = some .globalImplicit) {e : Expr} {p pos : Pos} {x : Str} (he : Ev M C Δ e tStr x) (hz : (x.length : Int) < 2 ^ 63)
    (hs : starEach [e] C.env = [e].map fun e => (false, eval e C.env)) : Ev M C Δ (.Call (.Name "len" p) [e] [] pos) tInt (x.length : Int) :=
  Ev.callB1 ok hb hx (by decide) he (fun v F g s Q hv st hQ => by
    obtain ⟨t, rfl⟩ := hv
    exact P.len_str (by omega) (hQ _ g s.heap _ (.refl _) st ⟨_, rfl⟩)) hs
theorem Ev.lenList (ok : C.Ok n) (hb : Bi M "len" (.builtin "len")) (hx : C.env.kindOf "len" = some .globalImplicit) {e : Expr} {p pos : Pos} {α : Type} {T : Ty α} {xs : List α} (he : Ev M C Δ e (tList T) xs) (hz : (xs.length : Int) < 2 ^ 63)
    (hs : starEach [e] C.env = [e].map fun e => (false, eval e C.env)) : Ev M C Δ (.Call (.Name "len" p) [e] [] pos) tInt (xs.length : Int) :=
  Ev.callB1 ok hb hx (by decide) he (fun v F g s Q hv st hQ => by
    obtain ⟨a, o, rfl, ho, hl⟩ := hv
    obtain ⟨vs, hL, hf⟩ := hl.isList (st.st.keep _ _ ho)
    have e : (vs.toArray.size : Int) = (xs.length : Int) := by rw [List.size_toArray, F2.length hf]
    refine Calls.call_len_list hL (by rw [e]; exact hz) (hQ _ g s.heap _ (.refl _) st ⟨_, by rw [e]⟩)) hs
theorem Ev.ord (ok : C.Ok n) (hb : Bi M "ord" (.builtin "ord")) (hx : C.env.kindOf "ord" = some .globalImplicit) {e : Expr} {p pos : Pos} {x : Str} (he : Ev M C Δ e tStr x) (h1 : x.length = 1)
    (hs : starEach [e] C.env = [e].map fun e => (false, eval e C.env)) : Ev M C Δ (.Call (.Name "ord" p) [e] [] pos) tInt ((x.cps.getD 0 0 : Nat) : Int) :=
  Ev.callB1 ok hb hx (by decide) he (fun v F g s Q hv st hQ => by
    obtain ⟨t, rfl⟩ := hv
    exact ord_of_one h1 (hQ _ g s.heap _ (.refl _) st ⟨_, rfl⟩)) hs
theorem Ev.chr (ok : C.Ok n) (hb : Bi M "chr" (.builtin "chr")) (hx : C.env.kindOf "chr" = some .globalImplicit) {e : Expr} {p pos : Pos} {i : Int} (he : Ev M C Δ e tInt i) (h0 : 0 ≤ i) (h1 : i ≤ 1114111)
    (hs : starEach [e] C.env = [e].map fun e => (false, eval e C.env)) : Ev M C Δ (.Call (.Name "chr" p) [e] [] pos) tStr ⟨#[i.toNat]⟩ :=
  Ev.callB1 ok hb hx (by decide) he (fun v F g s Q hv st hQ => by
    obtain ⟨t, rfl⟩ := hv
    exact chr_of_range h0 h1 (hQ _ g s.heap _ (.refl _) st ⟨_, rfl⟩)) hs
theorem Ev.max2 (ok : C.Ok n) (hb : Bi M "max" (.builtin "max")) (hx : C.env.kindOf "max" = some .globalImplicit) {e1 e2 : Expr} {p pos : Pos} {a b : Int} (h1 : Ev M C Δ e1 tInt a) (h2 : Ev M C Δ e2 tInt b)
    (hs : starEach [e1, e2] C.env = [e1, e2].map fun e => (false, eval e C.env)) : Ev M C Δ (.Call (.Name "max" p) [e1, e2] [] pos) tInt (if b > a then b else a) :=
  Ev.callB2 ok hb hx (by decide) h1 h2 (fun v u F g s Q hv hu st hQ => by
    obtain ⟨t, rfl⟩ := hv
    obtain ⟨t', rfl⟩ := hu
    refine max_two_ints ok.room.handled fun h' tk hk => hQ _ g h' tk (.refl _) (st.heap hk) ?_
    split
    · exact ⟨_, rfl⟩
    · exact ⟨_, rfl⟩) hs
theorem preSum_getD (xs : List Int) : ∀ k, k ≤ xs.length → preSum (fun i => xs.getD i 0) k = (xs.take k).sum
  | 0, _ => by simp [preSum]
  | k + 1, h => by
    have hk : k < xs.length := h
    show preSum _ k + xs.getD k 0 = _
    rw [preSum_getD xs k (by omega), List.take_add_one, List.getElem?_eq_getElem hk, List.sum_append]
    simp [List.getD, hk]
theorem Ev.sum (ok : C.Ok n) (hb : Bi M "sum" (.builtin "sum")) (hx : C.env.kindOf "sum" = some .globalImplicit) {e : Expr} {p pos : Pos} {xs : List Int} (he : Ev M C Δ e (tList tInt) xs)
    (hfit : ∀ j, j < xs.length → InLong (xs.getD j 0) ∧ InLong (xs.take (j + 1)).sum)
    (hs : starEach [e] C.env = [e].map fun e => (false, eval e C.env)) : Ev M C Δ (.Call (.Name "sum" p) [e] [] pos) tInt xs.sum :=
  Ev.callB1 ok hb hx (by decide) he (fun v F g s Q hv st hQ => by
    obtain ⟨a, o, rfl, ho, hl⟩ := hv
    have hget := st.st.keep _ _ ho
    obtain ⟨vs, hL, hf⟩ := hl.isList hget
    have hlt : a < s.heap.objs.size := Heap.lt_size hget
    refine call_sum_walk (wpAny_pyIter_list hL ⟨s.heap.objs.size, _, _, _, _, _, fun i => xs.getD i 0, rfl, Walks.list (prog := M.prog) (w := M.w) (A := C.A.in1) ok.room.handled s.heap.objs.size a (Nat.ne_of_lt hlt) vs.toArray, ⟨⟨_, Heap.get?_push_size _ rfl, rfl, rfl⟩, hL.push _⟩, ?_, ?_, ?_, ?_⟩)
    · intro b hb
      show b < (s.heap.push _).objs.size
      rw [Heap.size_push]
      rcases List.mem_cons.mp hb with rfl | hb
      · exact Nat.lt_succ_self _
      · rw [List.mem_singleton.mp hb]; exact Nat.lt_succ_of_lt hlt
    · intro i v hv
      obtain ⟨b, hb, t, e⟩ := F2.get hf (i := i) (a := v) (by simpa using hv)
      exact ⟨t, by rw [e]; simp [List.getD, hb]⟩
    · intro j hj
      have hj' : j < xs.length := by rw [← F2.length hf]; simpa using hj
      rw [preSum_getD xs (j + 1) hj']
      exact hfit j hj'
    · intro h' tk t' hk
      have e1 : preSum (fun i => xs.getD i 0) vs.toArray.size = xs.sum := by
        rw [List.size_toArray, F2.length hf, preSum_getD xs _ (Nat.le_refl _), List.take_length]
      rw [e1]
      refine hQ _ g h' tk (.refl _) (st.heap fun b o e => ?_) ⟨t', rfl⟩
      refine hk b o (fun hm => ?_) (Heap.get?_push_of_some _ e)
      rw [List.mem_singleton.mp hm] at e
      exact absurd (Heap.lt_size e) (Nat.lt_irrefl _)) hs
theorem Ev.isTuple (ok : C.Ok n) (hb : Bi M "isinstance" (.builtin "isinstance")) (ht : Bi M "tuple" (.type "tuple")) (hx : C.env.kindOf "isinstance" = some .globalImplicit) (hxt : C.env.kindOf "tuple" = some .globalImplicit) {e : Expr} {p pt pos : Pos} {i : Int} (he : Ev M C Δ e tInt i)
    (hs : starEach [e, .Name "tuple" pt] C.env = [e, .Name "tuple" pt].map fun e => (false, eval e C.env)) : Ev M C Δ (.Call (.Name "isinstance" p) [e, .Name "tuple" pt] [] pos) tBool false := by
  have hT : Ev M C Δ (.Name "tuple" pt) (⟨fun _ v (_ : Unit) => v = .type "tuple", fun _ h => h⟩ : Ty Unit) () := fun F g s Q st hQ =>
    builtin_name ok st hxt (by decide) ht.no ht.yes (hQ _ g s.heap s.toks (.refl _) st rfl)
  refine Ev.callB2 ok hb hx (by decide) he hT (fun v u F g s Q hv hu st hQ => ?_) hs
  obtain ⟨t, rfl⟩ := hv
  subst hu
  exact IsiPair.int_tuple (hQ _ g s.heap _ (.refl _) st rfl)
end
end Mine
end

-- C16
section
open PySem PySem.W PyProof.Rows
set_option linter.unusedVariables false
namespace Mine

structure Wkr (prog : Program) (w : World) (A : Around) (I : Addr) (fp : List Addr) (n : Nat) (Pt : Nat → Array Value → Prop) (St : Nat → Heap → Prop) (Mid : Nat → Addr → Heap → Prop) : Prop where
  frame : ∀ i h h', St i h → (∀ b ∈ fp, ∀ o, h.get? b = some o → h'.get? b = some o) → St i h'
  item : ∀ i (s : Shared) (Q : Option Value → Shared → Prop) (E : Value → Shared → Prop), i < n → St i s.heap →
    (∀ T vals h' tk, Pt i vals → h'.IsTuple T vals → Mid i T h' → (∀ b o, b ≠ I → s.heap.get? b = some o → h'.get? b = some o) → Q (some (.ref T)) { s with heap := h', toks := tk }) →
    wpAny (model prog w) A (pyNext (.ref I)) Q E s
  go : ∀ (elts : List Expr) (k : Nat) (pos : Pos) i T (s : Shared) (Q : Unit → Shared → Prop) (E : Value → Shared → Prop), Mid i T s.heap →
    (∀ h', St (i + 1) h' → (∀ b o, b ≠ I → s.heap.get? b = some o → h'.get? b = some o) → Q () { s with heap := h' }) →
    wpAny (model prog w) A (letOwnedTupleGo (.Tuple elts k pos) (.ref I) (.ref T)) Q E s
  apart : ∀ i T h, Mid i T h → T ≠ I
  done : ∀ (s : Shared) (Q : Option Value → Shared → Prop) (E : Value → Shared → Prop), St n s.heap →
    (∀ h' tk, (∀ b o, b ≠ I → s.heap.get? b = some o → h'.get? b = some o) → Q none { s with heap := h', toks := tk }) → wpAny (model prog w) A (pyNext (.ref I)) Q E s

theorem Wkr.ofU {prog : Program} {w : World} {A : Around} {I : Addr} {fp : List Addr} {n : Nat} {Pt : Nat → Array Value → Prop} {St : Nat → Heap → Prop} {Mid : Nat → Addr → Heap → Prop}
    (W : WalksU prog w A I fp [I] n Pt St Mid) : Wkr prog w A I fp n Pt St Mid where
  frame := W.frame
  item := fun i s Q E hi st hQ => W.item i s Q E hi st fun T vals h' tk a b c k => hQ T vals h' tk a b c fun x o hx e => k x o (fun hm => hx (List.mem_singleton.mp hm)) e
  go := fun elts k pos i T s Q E m hQ => W.go elts k pos i T s Q E m fun h' st k => hQ h' st fun x o hx e => k x o (fun hm => hx (List.mem_singleton.mp hm)) e
  apart := fun i T h m e => W.apart i T h m (List.mem_singleton.mpr e)
  done := fun s Q E st hQ => W.done s Q E st fun h' tk k => hQ h' tk fun x o hx e => k x o (fun hm => hx (List.mem_singleton.mp hm)) e

theorem Wkr.items {prog : Program} {w : World} {A : Around} {K : Type} [DecidableEq K] {knd : KeyKind prog w K} (hh : A.handled = none) (I d : Addr) (hne : d ≠ I) (kvs : List (K × Value)) (ep : Nat) :
    Wkr prog w A I [I, d] kvs.length (fun i vals => ∃ k x key, kvs[i]? = some (k, x) ∧ knd.is k key = true ∧ vals = #[key, x])
      (fun i h => (∃ ok ov, IsItemIter h I d i kvs.length ep ok ov) ∧ h.DictAt knd d kvs ep)
      (fun i T h => T ≠ I ∧ (∃ ok ov, IsItemIterOut h I d (i + 1) kvs.length ep ok ov T) ∧ h.DictAt knd d kvs ep) where
  frame := fun i h h' ⟨⟨ok, ov, hi⟩, hd⟩ hk => ⟨⟨ok, ov, hk I (by simp) _ hi⟩, hd.at' fun o e => hk d (by simp) o e⟩
  item := fun i s Q E hi ⟨⟨ok, ov, hit⟩, hd⟩ hQ => by
    obtain ⟨⟨k, x⟩, hx⟩ : ∃ p, kvs[i]? = some p := ⟨kvs[i], by simp [hi]⟩
    refine wpAny_pyNext_items_item hit hd hx fun key h' hkey hout hT hsz hk => ?_
    refine hQ _ #[key, x] h' s.toks ⟨k, x, key, hx, hkey, rfl⟩ ⟨_, hT, rfl, 0, rfl⟩ ⟨fun e => ?_, ⟨key, x, hout⟩, hd.at' fun o e => hk d o hne e⟩ hk
    have := Heap.lt_size hit
    rw [← e] at this
    exact Nat.lt_irrefl _ this
  go := fun elts k pos i T s Q E ⟨_, ⟨ok, ov, hout⟩, hd⟩ hQ => wpAny_letOwnedTupleGo_items hout fun h' hi hs => hQ h' ⟨⟨ok, ov, hi⟩, hd.extBut hs.extBut hne⟩ fun b o hb e => hs.extBut b o hb e
  apart := fun i T h m => m.1
  done := fun s Q E ⟨⟨ok, ov, hit⟩, hd⟩ hQ => wpAny_pyNext_items_end hh hit hd (by simp) fun h' he => hQ h' s.toks fun b o hb e => he b o hb e

section
variable {M : Pg} {C : Cx} {Δ : Dl} {n : Nat}

noncomputable def It2 (M : Pg) (C : Cx) (Δ : Dl) (e : Expr) {α β : Type} (S : Ty α) (T : Ty β) (xs : List (α × β)) : Prop :=
  ∀ (F : FD) (g : PM) (s : Shared) (Q : Value → Shared → Prop), Ok M C Δ F g s.heap →
    (∀ I oI g' h' tk fp m Pt St Mid, m = xs.length → Le g g' → Ok M C Δ F g' h' → StR M g' ((I, oI) :: (F.Mn ++ F.P)) h' → Wkr M.prog M.w C.A I fp m Pt St Mid → (∀ b ∈ fp, b = I ∨ ∃ o, g' b = some o) →
      St 0 h' → (∀ i h, St i h → ∃ o, h.get? I = some o) → (∀ i vals, i < m → Pt i vals → ∃ v u a, vals = #[v, u] ∧ xs[i]? = some a ∧ ∀ g'', Le g' g'' → S.rep g'' v a.1 ∧ T.rep g'' u a.2) → Q (.ref I) { s with heap := h', toks := tk }) →
    wpAny (model M.prog M.w) C.A (eval e C.env) (fun x s₁ => wpAny (model M.prog M.w) C.A (pyIter x) Q (fun _ _ => False) s₁) (fun _ _ => False) s

/- two names are bound to a pair's parts -/
theorem bind2 (ok : C.Ok n) {F : FD} {g : PM} {s : Shared} {x y : Str} {px py pt : Pos} {k : Nat} {T : Addr} {v u : Value} {α β : Type} {S : Ty α} {U : Ty β} {a : α} {b : β} {Q : Unit → Shared → Prop} {E : Value → Shared → Prop} (st : Ok M C Δ F g s.heap)
    (hT : s.heap.IsTuple T #[v, u]) (hx : Bn C x) (hy : Bn C y) (hxy : x ≠ y) (hdx : Drop x Δ Δ) (hdy : Drop y Δ Δ) (hv : S.rep g v a) (hu : U.rep g u b)
    (hQ : ∀ F' h' tk, F'.P = F.P → Ok M C ((y, .val U b) :: (x, .val S a) :: Δ) F' g h' → Q () { s with heap := h', toks := tk }) :
    wpAny (model M.prog M.w) C.A (PySem.assign (.Tuple [.Name x px, .Name y py] k pt) C.env (.ref T)) Q E s := by
  refine wpAny_assign_Tuple ok.room.handled hT rfl rfl fun h₃ hx₃ => ?_
  have st₃ : Ok M C Δ F g h₃ := st.heap fun b o e => hx₃ b o (Nat.ne_of_lt (Heap.lt_size e)) e
  show wpAny _ _ (do holding [u] (PySem.assign (.Name x px) C.env v); do holding [] (PySem.assign (.Name y py) C.env u); pure ()) _ _ _
  refine wpAny_bind (wpAny_holding (wpAny_assign_Name (wpAny_mono (Ok.store (s := { s with heap := h₃ }) ok st₃ hx hdx hv
    (Q := fun _ s' => wpAny (model M.prog M.w) C.A (do holding [] (PySem.assign (.Name y py) C.env u); pure ()) Q E s') fun F1 h1 tk1 e1 st1 => ?_) (fun _ _ h => h) fun _ _ h => h.elim)))
  refine wpAny_bind (wpAny_holding (wpAny_assign_Name (wpAny_mono (Ok.store (s := { s with heap := h1, toks := tk1 }) ok st1 hy (.keep hxy hdy) hu
    (Q := fun _ s' => wpAny (model M.prog M.w) C.A (pure ()) Q E s') fun F2 h2 tk2 e2 st2 => wpAny_pure ?_) (fun _ _ h => h) fun _ _ h => h.elim)))
  exact hQ F2 h2 tk2 (e2.trans e1) st2

theorem Ws.for2 (ok : C.Ok n) {x y : Str} {px py pt pos : Pos} {k : Nat} {iter : Expr} {body rest : List Stmt} {α β γ σ : Type} {S : Ty β} {U : Ty γ} {xs : List (β × γ)} {T : Ty α} {r : α} {K : Dl → Prop}
    (hi : It2 M C Δ iter S U xs) (hx : Bn C x) (hy : Bn C y) (hxy : x ≠ y)
    (Inv : σ → Dl) (f : σ → β × γ → σ) (s0 : σ) (h0 : Wk M C Δ (Inv s0)) (hno : ∀ s, Drop x (Inv s) (Inv s)) (hno2 : ∀ s, Drop y (Inv s) (Inv s))
    (hb : ∀ i a, xs[i]? = some a → Ws M C ((y, .val U a.2) :: (x, .val S a.1) :: Inv ((xs.take i).foldl f s0)) body T r (fun Δ' => Wk M C Δ' (Inv (f ((xs.take i).foldl f s0) a))))
    (hr : Ws M C (Inv (xs.foldl f s0)) rest T r K)
    (hs : ∀ v, foldedSetIterable iter C.env v = pure v := by intro _; rfl) :
    Ws M C Δ (.For (.Tuple [.Name x px, .Name y py] k pt) iter body [] pos :: rest) T r K := fun F g s Q st hN hR => by
  refine wpAny_execs_cons (wpAny_For (hi F g s _ st fun I oI g1 h1 tk1 fp m Pt St Mid hm l1 st1 stI W hfp hst hI hP => ?_) hs)
  subst hm
  have st1I : Ok M C Δ { F with P := (I, oI) :: F.P } g1 h1 := st1.withP (stI.perm (perm_mid ..))
  obtain ⟨F2, g2, e2, l2, st2⟩ := h0 _ g1 h1 st1I
  refine codeAny_forLoop_any
    (fun k s' => ∃ i F' g' h' tk oI', s' = { s with heap := h', toks := tk } ∧ i ≤ xs.length ∧ k = xs.length + 1 - i ∧ F'.P = (I, oI') :: F.P ∧ Le g1 g' ∧ Ok M C (Inv ((xs.take i).foldl f s0)) F' g' h' ∧ St i h')
    ?_ (xs.length + 1) ⟨0, F2, g2, h1, tk1, oI, rfl, Nat.zero_le _, rfl, e2, l2, st2, hst⟩
  rintro k s' ⟨i, F', g', h', tk', oI', rfl, hin, rfl, eP, lg, st', hst'⟩
  have stQ : StR M g' ((I, oI') :: (F'.Mn ++ F.P)) h' := by
    have := st'.st
    rw [eP] at this
    exact this.perm (perm_mid ..).symm
  by_cases hlt : i < xs.length
  · refine W.item i _ _ _ hlt hst' fun TT vals hA tkA hPi hTT hmid hkA => ?_
    refine W.go _ _ _ i TT _ _ _ hmid fun h₁ hst₁ hkB => ?_
    have hkB' : ∀ b o, b ≠ I → hA.get? b = some o → h₁.get? b = some o := hkB
    obtain ⟨oI'', hoI⟩ := hI _ _ hst₁
    obtain ⟨v, u, a, rfl, hxa, hrep⟩ := hP i vals hlt hPi
    have hk₂ : ∀ b o, b ≠ I → h'.get? b = some o → h₁.get? b = some o := fun b o hb e => hkB' b o hb (hkA b o hb e)
    have hTT₁ : h₁.IsTuple TT #[v, u] := hTT.at fun o e => hkB' TT o (W.apart i TT hA hmid) e
    have stQ' := stQ.turnHead hoI hk₂
    have st'' : Ok M C (Inv ((xs.take i).foldl f s0)) { F' with P := (I, oI'') :: F.P } g' h₁ := ⟨stQ'.perm (perm_mid ..), st'.fr, st'.ce, st'.nd, st'.bd⟩
    refine bind2 (s := { s with heap := h₁, toks := tkA }) ok st'' hTT₁ hx hy hxy (hno _) (hno2 _) (hrep _ lg).1 (hrep _ lg).2 fun F3 h3 tk3 e3 st3 => ?_
    refine wpAny_mono (hb i a hxa F3 g' _ (fun f' s₃ => match f' with
          | .next | .cont => ∃ m, m < xs.length + 1 - i ∧ ∃ i F' g' h' tk oI', s₃ = { s with heap := h', toks := tk } ∧ i ≤ xs.length ∧ m = xs.length + 1 - i ∧ F'.P = (I, oI') :: F.P ∧ Le g1 g' ∧ Ok M C (Inv ((xs.take i).foldl f s0)) F' g' h' ∧ St i h'
          | .brk => False
          | .ret v => Q (.ret v) s₃) st3 ?_ ?_) (fun f' s₃ h => ?_) fun _ _ h => h.elim
    · intro Δ4 F4 g4 h4 tk4 e4 l4 st4 kw
      obtain ⟨F5, g5, e5, l5, st5⟩ := kw F4 g4 h4 st4
      refine ⟨xs.length + 1 - (i + 1), by omega, i + 1, F5, g5, h4, tk4, oI'', rfl, hlt, rfl, by rw [e5, e4, e3], lg.trans (l4.trans l5), ?_, ?_⟩
      · have e6 : xs.take (i + 1) = xs.take i ++ [a] := by rw [List.take_add_one, hxa]; rfl
        rw [e6, List.foldl_append]
        exact st5
      · refine W.frame _ _ _ hst₁ fun b hbf o e => ?_
        rcases hfp b hbf with rfl | ⟨o', ho'⟩
        · have h6 := (st4.st.priv (b, oI'') (List.mem_append_right _ (by rw [e4, e3]; exact List.mem_cons_self ..))).1
          have e' : h₁.get? b = some o := e
          rw [hoI] at e'
          cases e'
          exact h6
        · have h6 := st'.st.keep b o' (lg b o' ho')
          have hbI : b ≠ I := fun e => by subst e; have := stQ.out.2.1; rw [lg _ _ ho'] at this; cases this
          have e' : h₁.get? b = some o := e
          rw [hk₂ b o' hbI h6] at e'
          cases e'
          exact st4.st.keep b _ (l4 b _ (lg b _ ho'))
    · intro v' g4 h4 tk4 l4 st4 ht
      rw [e3] at st4
      exact hR v' g4 h4 tk4 (l1.trans (lg.trans l4)) st4.drop ht
    · cases f' with
      | next => exact h
      | cont => exact h
      | brk => exact h.elim
      | ret v => exact h
  · have hi' : i = xs.length := by omega
    subst hi'
    refine W.done _ _ _ hst' fun h₁ tk₁ hk₁ => wpAny_execs_nil ?_
    obtain ⟨_, hgI, hPI⟩ := stQ.out
    have st6 : StR M g' (F'.Mn ++ F.P) h₁ := stQ.drop.but hgI hPI fun b o hb e => hk₁ b o hb e
    have st7 : Ok M C (Inv (xs.foldl f s0)) { F' with P := F.P } g' h₁ := by
      have e : (xs.take xs.length).foldl f s0 = xs.foldl f s0 := by rw [List.take_length]
      rw [← e]
      exact ⟨st6, st'.fr, st'.ce, st'.nd, st'.bd⟩
    exact hr _ g' _ Q st7 (fun Δ4 F4 g4 h4 tk4 e4 l4 st4 k => hN Δ4 F4 g4 h4 tk4 e4 (l1.trans (lg.trans l4)) st4 k)
      (fun v g4 h4 tk4 l4 st4 ht => hR v g4 h4 tk4 (l1.trans (lg.trans l4)) st4 ht)

/- the items of a dict -/
theorem It2.items (ok : C.Ok n) {o : Expr} {pa pos : Pos} {α : Type} {T : Ty α} {kvs : List (Str × α)} (ho : Ev M C Δ o (tDict M.prog M.w T) kvs) (hline : (pa.endLine == pos.line) = true)
    (hbase : attributeBase o "items" C.env (eval o C.env) = eval o C.env := by rfl) : It2 M C Δ (.Call (.Attribute o "items" pa) [] [] pos) tStr T kvs := fun F g s Q st hQ => by
  refine wpAny_Call_method (T := "dict") (id := "dict.items") hbase rfl hline PySem.F.plainAttrs_dict PySem.F.slot_dict_items PySem.F.type_dict_items (ho F g s _ st fun v g1 h1 tk1 l1 st1 ht1 => ?_)
  obtain ⟨a, oa, rfl, hoa, h3, hd⟩ := ht1
  have hget := st1.st.keep _ _ hoa
  obtain ⟨ps, hD, hkv⟩ := hd.dictOf (M := M) hget
  obtain ⟨ep, hDA⟩ := hD.dictAt
  have hlt : a < h1.objs.size := Heap.lt_size hget
  refine ⟨Heap.DictOf.typeIs (s := { s with heap := h1, toks := tk1 }) hD, hD.mapOf.noDict, ?_⟩
  show wpAny _ _ (callWith pos (.builtin "dict.items") [.ref a] [] []) _ _ _
  refine method_meetsIn PySem.F.slot_dict_items PySem.F.entry_dict_items rfl (PySem.evalArgs_none ⟨rfl, Heap.DictOf.typeIs (s := { s with heap := h1, toks := tk1 }) hD, PySem.F.args_dict_items_1 _, _, meets_dict_items (strKind M.prog M.w) a (notMods h3), ⟨ps, hD⟩, ?_⟩)
  refine wpAny_pyIter_items (s := { s with heap := h1.push { cls := .type "dict_items", data := .fields #[.ref a] }, toks := tk1 }) (knd := strKind M.prog M.w) (d := a) (kvs := ps) (ep := ep) ⟨_, Heap.get?_push_size _ rfl, rfl, rfl⟩ (hDA.push _) ?_
  have hsz : (h1.push { cls := .type "dict_items", data := .fields #[.ref a] }).objs.size = h1.objs.size + 1 := Heap.size_push ..
  have st2 := st1.heap (h' := h1.push { cls := .type "dict_items", data := .fields #[.ref a] }) fun b o e => Heap.get?_push_of_some _ e
  have hlen : kvs.length = ps.length := (F2.length hkv).symm
  refine hQ _ _ g1 _ tk1 [(h1.push { cls := .type "dict_items", data := .fields #[.ref a] }).objs.size, a] _ _ _ _ hlen.symm l1 (st2.heap fun b o e => Heap.get?_push_of_some _ e) (st2.st.push _ rfl)
    (Wkr.items (knd := strKind M.prog M.w) ok.room.handled _ a (by rw [hsz]; exact Nat.ne_of_lt (Nat.lt_succ_of_lt hlt)) ps ep) ?_ ⟨⟨.none, .none, Heap.get?_push_size _ rfl⟩, (hDA.push _).push _⟩ ?_ ?_
  · intro b hb
    rcases List.mem_cons.mp hb with e | hb
    · exact .inl e
    · exact .inr ⟨oa, (List.mem_singleton.mp hb) ▸ hoa⟩
  · rintro i h ⟨⟨_, _, hi⟩, _⟩
    exact ⟨_, hi⟩
  · rintro i vals hi ⟨k, x, key, hx, hkey, rfl⟩
    obtain ⟨t, rfl⟩ := Value.isStrOf_shape (x := k) hkey
    obtain ⟨q, hq, e, hr⟩ := F2.get hkv hx
    simp only at e hr
    exact ⟨_, _, q, rfl, hq, fun g'' l => ⟨⟨t, by rw [e]⟩, T.mono l hr⟩⟩

/- a list of pairs -/
theorem It2.pairs (ok : C.Ok n) {e : Expr} {α β : Type} {S : Ty α} {T : Ty β} {xs : List (α × β)} (h : Ev M C Δ e (tList (tPair S T)) xs) : It2 M C Δ e S T xs := fun F g s Q st hQ =>
  h F g s _ st fun v g1 h1 tk1 l1 st1 ht1 => by
    obtain ⟨a, oa, rfl, hoa, hl⟩ := ht1
    have hget := st1.st.keep _ _ hoa
    obtain ⟨vs, hL, hf⟩ := hl.isList hget
    have hlt : a < h1.objs.size := Heap.lt_size hget
    have hall : ∀ j : Nat, ∃ p : Addr × Value × Value, j < vs.length → ∃ x o, xs[j]? = some x ∧ vs[j]? = some (.ref p.1) ∧ g1 p.1 = some o ∧ TupO g1 o [p.2.1, p.2.2] ∧ S.rep g1 p.2.1 x.1 ∧ T.rep g1 p.2.2 x.2 := fun j => by
      by_cases hj : j < vs.length
      · obtain ⟨x, hx, a', o', v1, v2, e, ho, ht, hr1, hr2⟩ := F2.get hf (List.getElem?_eq_getElem hj)
        exact ⟨(a', v1, v2), fun _ => ⟨x, o', hx, by rw [List.getElem?_eq_getElem hj, e], ho, ht, hr1, hr2⟩⟩
      · exact ⟨(0, .none, .none), fun h => absurd h hj⟩
    have ⟨pf, hpf⟩ := Classical.axiomOfChoice hall
    have hlen : vs.length = xs.length := F2.length hf
    have hTI : ∀ j, j < vs.length → (pf j).1 ≠ h1.objs.size := fun j hj => by
      obtain ⟨x, o, _, _, ho, _⟩ := hpf j hj
      exact Nat.ne_of_lt (Heap.lt_size (st1.st.keep _ _ ho))
    have hTup : ∀ j, j < vs.length → h1.IsTuple (pf j).1 #[(pf j).2.1, (pf j).2.2] := fun j hj => by
      obtain ⟨x, o, _, _, ho, ⟨nn, rfl⟩, _⟩ := hpf j hj
      exact ⟨_, st1.st.keep _ _ ho, rfl, nn, rfl⟩
    refine wpAny_pyIter_list (s := { s with heap := h1, toks := tk1 }) hL ?_
    refine hQ _ _ g1 _ tk1 _ _ _ _ _ (by simp [hlen]) l1 (st1.heap fun b o e => Heap.get?_push_of_some _ e) (st1.st.push _ rfl)
      (Wkr.ofU (WalksU.listOfTuples (prog := M.prog) (w := M.w) ok.room.handled h1.objs.size a (Nat.ne_of_lt hlt) vs.toArray (fun j => (pf j).1) (fun j => #[(pf j).2.1, (pf j).2.2])
        (fun j hj => by obtain ⟨x, o, _, e, _⟩ := hpf j (by simpa using hj); simpa using e) (fun j hj => hTI j (by simpa using hj)))) ?_ ⟨⟨_, Heap.get?_push_size _ rfl, rfl, rfl⟩, hL.push _, fun k hk => (hTup k (by simpa using hk)).push _⟩ ?_ ?_
    · intro b hb
      rcases List.mem_cons.mp hb with e | hb
      · exact .inl e
      · rcases List.mem_cons.mp hb with e | hb
        · exact .inr ⟨oa, e ▸ hoa⟩
        · obtain ⟨j, hj, rfl⟩ := List.mem_map.mp hb
          obtain ⟨x, o, _, _, ho, _⟩ := hpf j (by simpa using hj)
          exact .inr ⟨o, ho⟩
    · rintro i h ⟨⟨o', ho', _⟩, _⟩
      exact ⟨o', ho'⟩
    · intro i vals hi hv
      obtain ⟨x, o, hx, _, _, _, h1, h2⟩ := hpf i (by simpa using hi)
      exact ⟨_, _, x, hv, hx, fun g'' l => ⟨S.mono l h1, T.mono l h2⟩⟩
end
end Mine
end

-- C17
section
open PySem PySem.W PyProof.Rows
set_option linter.unusedVariables false
namespace Mine

section
variable {M : Pg} {C : Cx} {Δ : Dl} {n : Nat}

theorem load_at (ok : C.Ok n) {F : FD} {g : PM} {s : Shared} {x : Str} {v : Value} {Q : Value → Shared → Prop} (st : Ok M C Δ F g s.heap) (hr : Rd C.env F.m F.cm x v) (fin : Q v s) :
    wpAny (model M.prog M.w) C.A (loadName C.env x) Q (fun _ _ => False) s := by
  obtain ⟨hd, hcd, hr⟩ := hr
  rcases hr with ⟨hl, hv⟩ | ⟨hk, c, hc, hv⟩
  · obtain ⟨oL, hL, hfo⟩ := st.fr
    exact wpAny_loadName_local ok.kind hl (hfo.ns (st.st.priv _ (List.mem_append_left _ hL)).1) hv fin
  · obtain ⟨o, ho, hdat⟩ := st.ce x c hc
    have hcell : s.heap.IsCell c (some v) := ⟨o, (st.st.priv _ (List.mem_append_left _ ho)).1, hv ▸ hdat⟩
    rcases hk with hk | hk
    · exact wpAny_loadName_cell ok.kind hk hc hcell fin
    · exact wpAny_loadName_free ok.kind hk hc hcell fin hcd

theorem Ws.augName (ok : C.Ok n) {x : Str} {e : Expr} {px pos : Pos} {rest : List Stmt} {α : Type} {T : Ty α} {r : α} {K : Dl → Prop} {Δ' : Dl} {a b : Int} (hx : Bn C x) (hm : (x, Slot.val tInt a) ∈ Δ) (he : Ev M C Δ e tInt b)
    (hd : Drop x Δ Δ') (hr : Ws M C ((x, .val tInt (a + b)) :: Δ') rest T r K) : Ws M C Δ (.AugAssign (.Name x px) .Add e pos :: rest) T r K := fun F g s Q st hN hR => by
  obtain ⟨v, hrd, hv⟩ := st.bd.get hm
  obtain ⟨t, rfl⟩ := hv
  refine wpAny_execs_cons (wpAny_AugAssign_Name (load_at ok st hrd (he F g s _ st fun v g1 h1 tk1 l1 st1 ht1 => ?_)))
  obtain ⟨t', rfl⟩ := ht1
  refine PyProof.Rows.iadd_int ?_
  exact Ok.store (s := { s with heap := h1, toks := tk1 + 1 }) (T := tInt) ok st1 hx hd ⟨_, rfl⟩ fun F' h' tk' e' st' => hr.go hN hR e' l1 st'

/- d[k] += e, a dict of one's own -/
theorem Ws.augD (ok : C.Ok n) {x : Str} {i : Str} {e : Expr} {px pi p' pos : Pos} {rest : List Stmt} {α : Type} {kvs : List (Str × Int)} {k : Str} {a b : Int} {T : Ty α} {r : α} {K : Dl → Prop} {Δ' : Dl} (he : Ev M C Δ e tInt b) (hi : (i, Slot.val tStr k) ∈ Δ)
    (pk : Pick (x, .dict tInt kvs) Δ Δ') (hx : dget kvs k = some a) (hz : kvs.length ≤ sizeLine) (hr : Ws M C ((x, .dict tInt (dset kvs k (a + b))) :: Δ') rest T r K) :
    Ws M C Δ (.AugAssign (.Subscript (.Name x px) (.Name i pi) p') .Add e pos :: rest) T r K := fun F g s Q st hN hR => by
  obtain ⟨a', hrd, go⟩ := st.setD pk
  obtain ⟨v₀, as1, as2, hrd', ⟨a2, o, rfl, _, hM, h3, hd⟩, _, _⟩ := st.turn pk
  have ea : a2 = a' := by
    have := Rd.inj hrd' hrd
    injection this
  subst ea
  obtain ⟨vi, hri, hvi⟩ := st.bd.get hi
  obtain ⟨t, rfl⟩ := hvi
  have hget := (st.st.priv _ (List.mem_append_left _ hM)).1
  obtain ⟨ps, hdo, hkv⟩ := hd.dictOf (M := M) hget
  obtain ⟨v, hv, t2, rfl⟩ := KV.get_some hkv hx
  refine wpAny_execs_cons (wpAny_AugAssign_Subscript (name_at ok st hrd (name_at ok st hri (wpAny_getItem_of (strKind_is ..) hdo.mapOf hv ?_))))
  have st' : Ok M C Δ F g ({ s with toks := s.toks + 1 } : Shared).heap := st
  refine he F g _ _ st' fun v g1 h1 tk1 l1 st1 ht1 => ?_
  obtain ⟨t', rfl⟩ := ht1
  refine PyProof.Rows.iadd_int ?_
  exact go (tk := tk1 + 1) l1 st1 ⟨_, rfl⟩ hz fun F' h' tk' e' st2 => hr.go hN hR e' l1 st2

/- the place of a dict within a dict -/
theorem setIn2 {α : Type} {T : Ty α} {g : PM} {Mn : List (Addr × Obj)} {k : Str} {d : List (Str × α)} : ∀ {ps : List (Str × Value)} {kvs : List (Str × List (Str × α))} {bs : List Addr},
    F2 (fun p q => p.1 = q.1 ∧ ∃ b ob, p.2 = Value.ref b ∧ 3 < b ∧ (b, ob) ∈ Mn ∧ DictO M.prog M.w (T.rep g) ob q.2) ps kvs → ps.map (·.2) = bs.map Value.ref → bs.Nodup → (ps.map (·.1)).Nodup → dget kvs k = some d →
    ∃ b ob, b ∈ bs ∧ valueAt ps k = some (.ref b) ∧ 3 < b ∧ (b, ob) ∈ Mn ∧ DictO M.prog M.w (T.rep g) ob d ∧
      ∀ (ob' : Obj) (Mn' : List (Addr × Obj)) (g' : PM), Le g g' → (b, ob') ∈ Mn' → (∀ c oc, c ≠ b → (c, oc) ∈ Mn → (c, oc) ∈ Mn') → ∀ d', DictO M.prog M.w (T.rep g') ob' d' →
        F2 (fun p q => p.1 = q.1 ∧ ∃ b ob, p.2 = Value.ref b ∧ 3 < b ∧ (b, ob) ∈ Mn' ∧ DictO M.prog M.w (T.rep g') ob q.2) ps (kvs.map fun kv => if kv.1 = k then (kv.1, d') else kv)
  | _, _, _, .nil, _, _, _, h => by simp [dget] at h
  | p :: ps, q :: kvs, bs, .cons ⟨e1, b, ob, e2, h3, hm, hd⟩ rest, hb, hn, hk, hx => by
    cases bs with
    | nil => simp at hb
    | cons b' bs =>
      rw [List.map_cons, List.map_cons, List.cons.injEq] at hb
      obtain ⟨hb1, hb2⟩ := hb
      rw [e2] at hb1
      injection hb1 with hb1
      subst hb1
      rw [List.nodup_cons] at hn
      rw [List.map_cons, List.nodup_cons] at hk
      have hin : ∀ {ps : List (Str × Value)} {kvs : List (Str × List (Str × α))} {bs : List Addr}, ps.map (·.2) = bs.map Value.ref → (∀ c ∈ bs, c ≠ b) → (∀ z ∈ ps.map (·.1), z ≠ k) →
          F2 (fun p q => p.1 = q.1 ∧ ∃ b ob, p.2 = Value.ref b ∧ 3 < b ∧ (b, ob) ∈ Mn ∧ DictO M.prog M.w (T.rep g) ob q.2) ps kvs →
          ∀ (Mn' : List (Addr × Obj)) (g' : PM), Le g g' → (∀ c oc, c ≠ b → (c, oc) ∈ Mn → (c, oc) ∈ Mn') → ∀ d' : List (Str × α),
            F2 (fun p q => p.1 = q.1 ∧ ∃ b ob, p.2 = Value.ref b ∧ 3 < b ∧ (b, ob) ∈ Mn' ∧ DictO M.prog M.w (T.rep g') ob q.2) ps (kvs.map fun kv => if kv.1 = k then (kv.1, d') else kv) := by
        intro ps kvs bs hbs hne hkk hf Mn' g' l hMn' d'
        induction hf generalizing bs with
        | nil => exact .nil
        | cons hr _ ih =>
          rename_i p q r r' _
          obtain ⟨u, c, oc, u1, u4, u2, u3⟩ := hr
          cases bs with
          | nil => simp at hbs
          | cons c' bs =>
            rw [List.map_cons, List.map_cons, List.cons.injEq] at hbs
            obtain ⟨hc1, hc2⟩ := hbs
            rw [u1] at hc1
            injection hc1 with hc1
            subst hc1
            have hkq : q.1 ≠ k := fun e => hkk p.1 (List.mem_map.mpr ⟨p, List.mem_cons_self .., rfl⟩) (u.trans e)
            refine .cons ?_ (ih hc2 (fun x hx => hne x (List.mem_cons_of_mem _ hx)) fun z hz => hkk z (by rw [List.map_cons]; exact List.mem_cons_of_mem _ hz))
            simp only [hkq, if_false]
            exact ⟨u, c, oc, u1, u4, hMn' c oc (hne c (List.mem_cons_self ..)) u2, u3.mono fun _ _ => T.mono l⟩
      unfold dget at hx
      rw [List.find?_cons] at hx
      by_cases hqk : q.1 = k
      · simp only [hqk, decide_true, Option.map_some] at hx
        cases hx
        refine ⟨b, ob, List.mem_cons_self .., ?_, h3, hm, hd, fun ob' Mn' g' l hb' hMn' d' hd' => ?_⟩
        · unfold valueAt
          rw [List.find?_cons]
          simp [e1, hqk, e2]
        · refine .cons ?_ (hin hb2 (fun c hc e => hn.1 (e ▸ hc)) (fun z hz e => hk.1 (by rw [e1, hqk, ← e]; exact hz)) rest Mn' g' l hMn' d')
          simp only [hqk, if_true]
          exact ⟨e1.trans hqk, b, ob', e2, h3, hb', hd'⟩
      · simp only [hqk, decide_false] at hx
        obtain ⟨c, oc, hc, hv, hc3, hcm, hcd, turn⟩ := setIn2 rest hb2 hn.2 hk.2 hx
        refine ⟨c, oc, List.mem_cons_of_mem _ hc, ?_, hc3, hcm, hcd, fun ob' Mn' g' l hb' hMn' d' hd' => ?_⟩
        · unfold valueAt at hv ⊢
          rw [List.find?_cons]
          simp only [e1, hqk, decide_false]
          exact hv
        · refine .cons ?_ (turn ob' Mn' g' l hb' hMn' d' hd')
          simp only [hqk, if_false]
          exact ⟨e1, b, ob, e2, h3, hMn' b ob (fun e => hn.1 (e ▸ hc)) hm, hd.mono fun _ _ => T.mono l⟩

theorem dset_of_some {α : Type} {kvs : List (Str × α)} {k : Str} {d v : α} (h : dget kvs k = some d) : dset kvs k v = kvs.map fun kv => if kv.1 = k then (kv.1, v) else kv := by
  unfold dset
  rw [if_pos]
  unfold dget at h
  rw [List.any_eq_true]
  cases e : kvs.find? fun kv => kv.1 = k with
  | none => rw [e] at h; cases h
  | some p => exact ⟨p, List.mem_of_find?_eq_some e, by have := List.find?_some e; simpa using this⟩
theorem dset_of_none {α : Type} {kvs : List (Str × α)} {k : Str} {v : α} (h : dget kvs k = none) : dset kvs k v = kvs ++ [(k, v)] := by
  unfold dset
  rw [if_neg]
  unfold dget at h
  rw [Option.map_eq_none_iff, List.find?_eq_none] at h
  rw [List.any_eq_true]
  rintro ⟨p, hp, e⟩
  exact h p hp e

/- x[k1][k2] = e, a dict of dicts of one's own -/
theorem Ws.setD2 (ok : C.Ok n) {x : Str} {i1 i2 e : Expr} {px p1 p2 pos : Pos} {rest : List Stmt} {α β : Type} {S : Ty β} {kvs : List (Str × List (Str × β))} {d : List (Str × β)} {k1 k2 : Str} {y : β} {T : Ty α} {r : α} {K : Dl → Prop} {Δ' : Dl}
    (h : Ev M C Δ e S y) (hi1 : Ev M C Δ i1 tStr k1) (hi2 : Ev M C Δ i2 tStr k2) (pk : Pick (x, .dict2 S kvs) Δ Δ') (hx : dget kvs k1 = some d) (hz : d.length ≤ sizeLine)
    (hr : Ws M C ((x, .dict2 S (dset kvs k1 (dset d k2 y))) :: Δ') rest T r K)
    (hsub : ∀ o j, subscripted i1 false o j = operate [o, j] (getItem o j) := by intro _ _; rfl)
    (hs : swapsWith e (some (.Subscript (.Subscript (.Name x px) i1 p1) i2 p2)) pos.line C.env = pure false := by rfl) :
    Ws M C Δ (.Assign [.Subscript (.Subscript (.Name x px) i1 p1) i2 p2] e pos :: rest) T r K := fun F g s Q st hN hR => by
  obtain ⟨v₀, as1, as2, hrd, ⟨a, o, bs, rfl, rfl, hM, h3, ps, hd, hb, hf⟩, hnd, turn⟩ := st.turn pk
  have hkn : (ps.map (·.1)).Nodup := by obtain ⟨_, _, _, _, _, _, hn⟩ := hd; exact hn
  have hnd' := List.nodup_cons.mp hnd
  obtain ⟨b, ob, hbb, hvb, hb3, hbM, hbd, upd⟩ := setIn2 hf hb hnd'.2 hkn hx
  have hab : b ≠ a := fun e => hnd'.1 (e ▸ hbb)
  refine wpAny_execs_cons (wpAny_Assign_Subscript (h F g s _ st fun v g1 h1 tk1 l1 st1 ht1 => Subscript_at hsub (name_at ok st1 hrd (hi1 F g1 _ _ st1 fun j g2 h2 tk2 l2 st2 ht2 => ?_))) hs)
  obtain ⟨t, rfl⟩ := ht2
  have hdo : h2.DictOf (strKind M.prog M.w) a ps := Heap.dictOf_iff.mpr ⟨o, (st2.st.priv _ (List.mem_append_left _ hM)).1, hd⟩
  refine ⟨"dict", _, Heap.DictOf.typeIs (s := { s with heap := h2, toks := tk2 }) hdo, slot_dict_getitem.lookup, wpAny_getItem_of (s := { s with heap := h2, toks := tk2 }) (strKind_is ..) hdo.mapOf hvb ?_⟩
  have st2' : Ok M C Δ F g2 ({ s with heap := h2, toks := tk2 + 1 } : Shared).heap := st2
  refine hi2 F g2 _ _ st2' fun j g3 h3' tk3 l3 st3 ht3 => ?_
  obtain ⟨t', rfl⟩ := ht3
  obtain ⟨psb, hdb, hkvb⟩ := (hbd.mono fun _ _ => S.mono (l1.trans (l2.trans l3))).dictOf (M := M) ((st3.st.priv _ (List.mem_append_left _ hbM)).1)
  refine wpAny_setItem_pairs (s := { s with heap := h3', toks := tk3 }) (strKind_is ..) hdb (fun h' hd2 hs => ?_) (by rw [F2.length hkvb]; exact hz)
  obtain ⟨o2, ho2, hdo2⟩ := Heap.dictOf_iff.mp hd2
  have hst := st3.st.upd (List.mem_append_left _ hbM) ho2 fun b o hb e => hs.extBut b o hb e
  rw [updP_Mn hbM st3.st.nd] at hst
  have lg := l1.trans (l2.trans l3)
  have hdy : DictO M.prog M.w (S.rep g3) o2 (dset d k2 y) := ⟨_, hdo2, KV.set hkvb (S.mono (l2.trans l3) ht1)⟩
  have hF := upd o2 (updP F.Mn b o2) g3 lg (mem_updP_self hbM) (fun c oc hc hm => mem_updP_ne hc hm) _ hdy
  rw [← dset_of_some hx] at hF
  refine hr.go (F' := { F with Mn := updP F.Mn b o2, as := (a :: bs) ++ as2 }) hN hR rfl lg (turn (updP F.Mn b o2) (a :: bs) (.dict2 S (dset kvs k1 (dset d k2 y))) g3 h' lg hst (fun c oc hm hc => mem_updP_ne (fun e => hc (e ▸ List.mem_cons_of_mem _ hbb)) hm)
    ⟨a, o, bs, rfl, rfl, mem_updP_ne (Ne.symm hab) hM, h3, ps, hd, hb, hF⟩ (fun c hc => .inl hc) hnd)

/- x[k] = {}, a new dict within a dict of dicts -/
theorem Ws.newD2 (ok : C.Ok n) {x : Str} {i : Expr} {px p1 pd pos : Pos} {rest : List Stmt} {α β : Type} {S : Ty β} {kvs : List (Str × List (Str × β))} {k : Str} {T : Ty α} {r : α} {K : Dl → Prop} {Δ' : Dl}
    (hi : Ev M C Δ i tStr k) (pk : Pick (x, .dict2 S kvs) Δ Δ') (hx : dget kvs k = none) (hz : kvs.length ≤ sizeLine)
    (hr : Ws M C ((x, .dict2 S (dset kvs k [])) :: Δ') rest T r K)
    (hs : swapsWith (.Dict [] [] pd) (some (.Subscript (.Name x px) i p1)) pos.line C.env = pure false := by rfl) :
    Ws M C Δ (.Assign [.Subscript (.Name x px) i p1] (.Dict [] [] pd) pos :: rest) T r K := fun F g s Q st hN hR => by
  obtain ⟨v₀, as1, as2, hrd, ⟨a, o, bs, rfl, rfl, hM, h3, ps, hd, hb, hf⟩, hnd, turn⟩ := st.turn pk
  refine wpAny_execs_cons (wpAny_Assign_Subscript (EvO.dict0 (T := S) F g s _ st fun b ob g1 h1 tk1 l1 st1 hb3 hpo => ?_) hs)
  have st1' : Ok M C Δ { F with P := (b, ob) :: F.P } g1 h1 := ⟨st1.perm (perm_mid ..), st.fr, st.ce, st.nd, st.bd.mono l1⟩
  refine name_at (s := { s with heap := h1, toks := tk1 }) ok st1' hrd (hi _ g1 _ _ st1' fun j g2 h2 tk2 l2 st2 ht2 => ?_)
  obtain ⟨t, rfl⟩ := ht2
  have hdo : h2.DictOf (strKind M.prog M.w) a ps := Heap.dictOf_iff.mpr ⟨o, (st2.st.priv _ (List.mem_append_left _ hM)).1, hd⟩
  refine wpAny_setItem_pairs (s := { s with heap := h2, toks := tk2 }) (strKind_is ..) hdo (fun h' hd2 hs => ?_) (by rw [F2.length hf]; exact hz)
  obtain ⟨o2, ho2, hdo2⟩ := Heap.dictOf_iff.mp hd2
  have hst := st2.st.upd (List.mem_append_left _ hM) ho2 fun b o hb e => hs.extBut b o hb e
  rw [updP_Mn hM st2.st.nd] at hst
  have hst2 : StR M g2 (((b, ob) :: updP F.Mn a o2) ++ F.P) h' := hst.perm (perm_mid ..).symm
  have lg := l1.trans l2
  have hbn : b ∉ F.Mn.map (·.1) := fun hm => by
    have := st1.out.2.2
    rw [List.map_append] at this
    exact this (List.mem_append_left _ hm)
  have hkn : valueAt ps k = none := KV.get_none (R := fun v q => ∃ b ob, v = Value.ref b ∧ 3 < b ∧ (b, ob) ∈ F.Mn ∧ DictO M.prog M.w (S.rep g) ob q) hf hx
  have hst0 : stored ps k (.ref b) = ps ++ [(k, .ref b)] := by
    unfold stored
    rw [if_neg]
    unfold valueAt at hkn
    rw [Option.map_eq_none_iff, List.find?_eq_none] at hkn
    rw [List.any_eq_true]
    rintro ⟨p, hp, e⟩
    exact hkn p hp e
  rw [hst0] at hdo2
  have hbs : ∀ c ∈ a :: bs, c ∈ F.Mn.map (·.1) := fun c hc => by
    have hh : Slot.holds M g F.Mn (.dict2 S kvs) (.ref a) (a :: bs) := ⟨a, o, bs, rfl, rfl, hM, h3, ps, hd, hb, hf⟩
    obtain ⟨oc, hoc⟩ := Slot.as_mem hh c hc
    exact List.mem_map.mpr ⟨_, hoc, rfl⟩
  have hnew : (a :: (bs ++ [b])).Nodup := by
    have e : a :: (bs ++ [b]) = (a :: bs) ++ [b] := rfl
    rw [e, List.nodup_append]
    refine ⟨hnd, by simp, fun c hc c' hc' e => ?_⟩
    rw [List.mem_singleton.mp hc'] at e
    exact hbn (e ▸ hbs c hc)
  have hin : ∀ p ∈ ps, ∀ c, p.2 = Value.ref c → c ∈ bs := fun p hp c e => by
    have h1 : Value.ref c ∈ bs.map Value.ref := hb ▸ List.mem_map.mpr ⟨p, hp, e⟩
    obtain ⟨y, hy, e⟩ := List.mem_map.mp h1
    injection e with e
    exact e ▸ hy
  have go : ∀ (l1 : List (Str × Value)) (l2 : List (Str × List (Str × β))), (∀ p ∈ l1, p ∈ ps) →
      F2 (fun p q => p.1 = q.1 ∧ ∃ b ob, p.2 = Value.ref b ∧ 3 < b ∧ (b, ob) ∈ F.Mn ∧ DictO M.prog M.w (S.rep g) ob q.2) l1 l2 →
      F2 (fun p q => p.1 = q.1 ∧ ∃ c oc, p.2 = Value.ref c ∧ 3 < c ∧ (c, oc) ∈ ((b, ob) :: updP F.Mn a o2) ∧ DictO M.prog M.w (S.rep g2) oc q.2) l1 l2 := by
    intro l1 l2 hl h
    induction h with
    | nil => exact .nil
    | cons hr _ ih =>
      rename_i p q r r' _
      obtain ⟨u, c, oc, u1, u4, u2, u3⟩ := hr
      refine .cons ⟨u, c, oc, u1, u4, List.mem_cons_of_mem _ (mem_updP_ne (fun e => ?_) u2), u3.mono fun _ _ => S.mono lg⟩ (ih fun p hp => hl p (List.mem_cons_of_mem _ hp))
      exact (List.nodup_cons.mp hnd).1 (e ▸ hin p (hl p (List.mem_cons_self ..)) c u1)
  refine hr.go (F' := { F with Mn := (b, ob) :: updP F.Mn a o2, as := (a :: (bs ++ [b])) ++ as2 }) hN hR rfl lg (turn ((b, ob) :: updP F.Mn a o2) (a :: (bs ++ [b])) (.dict2 S (dset kvs k [])) g2 h' lg hst2
    (fun c oc hm hc => List.mem_cons_of_mem _ (mem_updP_ne (fun e => hc (e ▸ List.mem_cons_self ..)) hm))
    ⟨a, o2, bs ++ [b], rfl, rfl, List.mem_cons_of_mem _ (mem_updP_self hM), h3, _, hdo2, by simp [hb], ?_⟩ (fun c hc => ?_) hnew)
  · rw [dset_of_none hx]
    refine F2.append (go ps kvs (fun _ h => h) hf) (.cons ⟨rfl, b, ob, rfl, hb3, List.mem_cons_self .., ?_⟩ .nil)
    exact hpo.mono fun _ _ => S.mono l2
  · rcases List.mem_cons.mp hc with rfl | hc
    · exact .inl (List.mem_cons_self ..)
    · rcases List.mem_append.mp hc with hc | hc
      · exact .inl (List.mem_cons_of_mem _ hc)
      · exact .inr (by rw [List.mem_singleton.mp hc]; exact hbn)

/- five names at once -/
theorem Ws.assign5 (ok : C.Ok n) {x1 x2 x3 x4 x5 : Str} {q1 q2 q3 q4 q5 pt pos : Pos} {k : Nat} {e : Expr} {rest : List Stmt} {α β : Type} {S : Ty β} {y : Five β} {T : Ty α} {r : α} {K : Dl → Prop} (he : Ev M C Δ e (tFive S) y)
    (b1 : Bn C x1) (b2 : Bn C x2) (b3 : Bn C x3) (b4 : Bn C x4) (b5 : Bn C x5) (hn : [x1, x2, x3, x4, x5].Nodup)
    (d1 : Drop x1 Δ Δ) (d2 : Drop x2 Δ Δ) (d3 : Drop x3 Δ Δ) (d4 : Drop x4 Δ Δ) (d5 : Drop x5 Δ Δ)
    (hr : Ws M C ((x5, .val S y.callers) :: (x4, .val tInt y.ct) :: (x3, .val tInt y.tt) :: (x2, .val tInt y.nc) :: (x1, .val tInt y.cc) :: Δ) rest T r K)
    (hs : swapsWithSole [.Tuple [.Name x1 q1, .Name x2 q2, .Name x3 q3, .Name x4 q4, .Name x5 q5] k pt] e pos.line C.env = pure false)
    (hw : swappedStores [.Tuple [.Name x1 q1, .Name x2 q2, .Name x3 q3, .Name x4 q4, .Name x5 q5] k pt] e C.env = pure none) :
    Ws M C Δ (.Assign [.Tuple [.Name x1 q1, .Name x2 q2, .Name x3 q3, .Name x4 q4, .Name x5 q5] k pt] e pos :: rest) T r K := fun F g s Q st hN hR => by
  simp only [List.nodup_cons, List.mem_cons, List.not_mem_nil, or_false, not_or] at hn
  obtain ⟨⟨n12, n13, n14, n15⟩, ⟨n23, n24, n25⟩, ⟨n34, n35⟩, n45, _⟩ := hn
  refine wpAny_execs_cons (Assign_Tuple (he F g s _ st fun v g1 h1 tk1 l1 st1 ht1 => ?_) hs hw)
  obtain ⟨a, o, t1, t2, t3, t4, v5, rfl, ho, ⟨nn, rfl⟩, hv⟩ := ht1
  have hT : h1.IsTuple a [Value.int y.cc t1, Value.int y.nc t2, Value.int y.tt t3, Value.int y.ct t4, v5].toArray := ⟨_, st1.st.keep _ _ ho, rfl, nn, rfl⟩
  refine wpAny_assign_Tuple ok.room.handled hT rfl rfl fun h₃ hx₃ => ?_
  have st₃ : Ok M C Δ F g1 h₃ := st1.heap fun b o e => hx₃ b o (Nat.ne_of_lt (Heap.lt_size e)) e
  show wpAny _ _ (do holding _ (PySem.assign (.Name x1 q1) C.env (.int y.cc t1)); do holding _ (PySem.assign (.Name x2 q2) C.env (.int y.nc t2)); do holding _ (PySem.assign (.Name x3 q3) C.env (.int y.tt t3)); do holding _ (PySem.assign (.Name x4 q4) C.env (.int y.ct t4)); do holding _ (PySem.assign (.Name x5 q5) C.env v5); pure ()) _ _ _
  refine wpAny_bind (wpAny_holding (wpAny_assign_Name (Ok.store (s := { s with heap := h₃, toks := tk1 }) (T := tInt) ok st₃ b1 d1 ⟨_, rfl⟩ fun F1 h1 tk1 e1 st1 => ?_)))
  refine wpAny_bind (wpAny_holding (wpAny_assign_Name (Ok.store (s := { s with heap := h1, toks := tk1 }) (T := tInt) ok st1 b2 (.keep n12 d2) ⟨_, rfl⟩ fun F2 h2 tk2 e2 st2 => ?_)))
  refine wpAny_bind (wpAny_holding (wpAny_assign_Name (Ok.store (s := { s with heap := h2, toks := tk2 }) (T := tInt) ok st2 b3 (.keep n23 (.keep n13 d3)) ⟨_, rfl⟩ fun F3 h3 tk3 e3 st3 => ?_)))
  refine wpAny_bind (wpAny_holding (wpAny_assign_Name (Ok.store (s := { s with heap := h3, toks := tk3 }) (T := tInt) ok st3 b4 (.keep n34 (.keep n24 (.keep n14 d4))) ⟨_, rfl⟩ fun F4 h4 tk4 e4 st4 => ?_)))
  refine wpAny_bind (wpAny_holding (wpAny_assign_Name (Ok.store (s := { s with heap := h4, toks := tk4 }) (T := S) ok st4 b5 (.keep n45 (.keep n35 (.keep n25 (.keep n15 d5)))) hv fun F5 h5 tk5 e5 st5 => wpAny_pure ?_)))
  exact hr.go hN hR (e5.trans (e4.trans (e3.trans (e2.trans e1)))) l1 st5

theorem Ws.tryRet {body : List Stmt} {h₀ : ExceptHandler} {hs : List ExceptHandler} {pos : Pos} {rest : List Stmt} {α : Type} {T : Ty α} {r : α} {K : Dl → Prop} (h : Ws M C Δ body T r (fun _ => False)) :
    Ws M C Δ (.Try body (h₀ :: hs) [] [] pos :: rest) T r K := fun F g s Q st hN hR => by
  refine wpAny_execs_cons (wpAny_Try_except (wpAny_mono (h F g s (fun f s' => match f with | .ret v => Q (.ret v) s' | _ => False) st (fun _ _ _ _ _ _ _ _ hk => hk.elim) fun v g' h' tk l st' ht => hR v g' h' tk l st' ht) (fun f s₁ h => ?_) fun _ _ h => h.elim))
  cases f with
  | next => exact h.elim
  | brk => exact h.elim
  | cont => exact h.elim
  | ret v => exact h

/- the values of a dict -/
noncomputable def tVals {α : Type} (prog : Program) (w : World) (T : Ty α) : Ty (List (Str × α)) :=
  ⟨fun g v kvs => ∃ a o d od, v = .ref a ∧ g a = some o ∧ o.cls = .type "dict_values" ∧ o.data = .fields #[.ref d] ∧ g d = some od ∧ 3 < d ∧ DictO prog w (T.rep g) od kvs,
   fun l ⟨a, o, d, od, e, h1, h2, h3, h4, h5, h6⟩ => ⟨a, o, d, od, e, l _ _ h1, h2, h3, l _ _ h4, h5, h6.mono fun _ _ => T.mono l⟩⟩
theorem Ev.values (ok : C.Ok n) {o : Expr} {pa pos : Pos} {α : Type} {T : Ty α} {kvs : List (Str × α)} (ho : Ev M C Δ o (tDict M.prog M.w T) kvs) (hline : (pa.endLine == pos.line) = true)
    (hbase : attributeBase o "values" C.env (eval o C.env) = eval o C.env := by rfl) : Ev M C Δ (.Call (.Attribute o "values" pa) [] [] pos) (tVals M.prog M.w T) kvs := fun F g s Q st hQ => by
  refine wpAny_Call_method (T := "dict") (id := "dict.values") hbase rfl hline PySem.F.plainAttrs_dict PySem.F.slot_dict_values PySem.F.type_dict_values (ho F g s _ st fun v g1 h1 tk1 l1 st1 ht1 => ?_)
  obtain ⟨a, oa, rfl, hoa, h3, hd⟩ := ht1
  have hget := st1.st.keep _ _ hoa
  obtain ⟨ps, hD, hkv⟩ := hd.dictOf (M := M) hget
  refine ⟨Heap.DictOf.typeIs (s := { s with heap := h1, toks := tk1 }) hD, hD.mapOf.noDict, ?_⟩
  show wpAny _ _ (callWith pos (.builtin "dict.values") [.ref a] [] []) _ _ _
  refine method_meetsIn PySem.F.slot_dict_values PySem.F.entry_dict_values rfl (PySem.evalArgs_none ⟨rfl, Heap.DictOf.typeIs (s := { s with heap := h1, toks := tk1 }) hD, PySem.F.args_dict_values_1 _, _, meets_dict_values (strKind M.prog M.w) a (notMods h3), ⟨ps, hD⟩, ?_⟩)
  have hst := st1.st.push { cls := .type "dict_values", data := .fields #[.ref a] } rfl
  have hg := hst.out.2.1
  exact hQ _ _ _ tk1 (l1.trans (PM.le_put hg)) (st1.ext (PM.le_put hg) hst.freeze) ⟨_, _, a, oa, rfl, PM.put_self, rfl, rfl, PM.le_put hg _ _ hoa, h3, hd.mono fun _ _ => T.mono (PM.le_put hg)⟩
theorem It.values (ok : C.Ok n) {e : Expr} {α : Type} {T : Ty α} {kvs : List (Str × α)} (h : Ev M C Δ e (tVals M.prog M.w T) kvs) : It M C Δ e T (kvs.map (·.2)) :=
  It.mk h fun v g s Q hv hk h3 hQ => by
    obtain ⟨a, o, d, od, rfl, ho, hc, hdat, hod, h3d, hd⟩ := hv
    obtain ⟨ps, hD, hkv⟩ := hd.dictOf (M := M) (hk d od hod)
    obtain ⟨ep, hDA⟩ := hD.dictAt
    have hne : d ≠ s.heap.objs.size := Nat.ne_of_lt (Heap.lt_size (hk d od hod))
    have hlen : (kvs.map (·.2)).length = ps.length := by rw [List.length_map, F2.length hkv]
    have W := Walks.dictValues (prog := M.prog) (w := M.w) (A := C.A) (knd := strKind M.prog M.w) ok.room.handled s.heap.objs.size d hne ps ep
    refine wpAny_pyIter_values ⟨o, hk a o ho, hc, hdat⟩ hDA (hQ _ _ _ _ _ rfl hlen.symm W ?_ ⟨⟨_, Heap.get?_push_size _ rfl, rfl, rfl⟩, hDA.push _⟩ ?_ ?_)
    · intro b hb
      rcases List.mem_cons.mp hb with e | hb
      · exact .inl e
      · exact .inr ⟨od, (List.mem_singleton.mp hb) ▸ hod⟩
    · rintro i h ⟨⟨o', ho', _⟩, _⟩
      exact ⟨o', ho'⟩
    · rintro i v ⟨k, hx⟩
      obtain ⟨q, hq, e, hr⟩ := F2.get hkv hx
      exact ⟨q.2, by rw [List.getElem?_map, hq]; rfl, hr⟩
end
end Mine
end

-- C18
section
open PySem PySem.W PyProof.Rows
set_option linter.unusedVariables false
set_option maxRecDepth 100000
namespace Mine

/- two values compared, in this program's world -/
noncomputable def EqW (M : Pg) (A : Around) (s : Shared) (v u : Value) (b : Bool) : Prop :=
  ∀ (E : Value → Shared → Prop) (Q : Bool → Shared → Prop), Q b s → wpAny (model M.prog M.w) A (eqBool v u) Q E s
noncomputable def RcW (M : Pg) (A : Around) (s : Shared) (v u : Value) (b : Bool) : Prop :=
  ∀ (E : Value → Shared → Prop) (Q : Value → Shared → Prop), Q (.bool b) s → wpAny (model M.prog M.w) A (richCompare .Eq v u) Q E s

section
variable {M : Pg} {A : Around} {s : Shared}

theorem EqW.same (v : Value) : EqW M A s v v true := fun E Q h => SeqAt.EqAt.same v M.prog M.w E Q h
theorem EqW.of_at {v u : Value} {b : Bool} (h : SeqAt.EqAt A s v u b) : EqW M A s v u b := fun E Q hq => h M.prog M.w E Q hq
theorem EqW.of_rc {l b : Addr} {k : Bool} (hne : l ≠ b) (h : RcW M A s (.ref l) (.ref b) k) : EqW M A s (.ref l) (.ref b) k := fun E Q hq => by
  unfold eqBool
  refine wpAny_holding (wpAny_ite_split (fun hab => absurd (by have := eq_of_beq hab; injection this) hne) fun _ => ?_)
  exact wpAny_bind (h E _ (wpAny_truthy_bool hq))

theorem pairsLoop {a b : Addr} {ka kb : List (Str × Value)} (f : Str → Bool) {Q : Bool → Shared → Prop} {E : Value → Shared → Prop} {nm : String} (ha : (a == sysModules) = false) (hb : (b == sysModules) = false)
    (da : s.heap.DictOf (strKind M.prog M.w) a ka) (db : s.heap.DictOf (strKind M.prog M.w) b kb)
    (hits : ∀ p ∈ ka, (valueAt kb p.1 = none ∧ f p.1 = false) ∨ ∃ y, valueAt kb p.1 = some y ∧ EqW M A s p.2 y (f p.1)) (h : Q (ka.length == kb.length && ka.all fun p => f p.1) s) :
    wpAny (model M.prog M.w) A (Builtin.Dict.samePairs nm a b) Q E s := by
  obtain ⟨oa, ea, pa, hoa, _, hda, hka, hpa, _⟩ := da
  obtain ⟨ob, eb, pb, hob, _, hdb, hkb, hpb, _⟩ := db
  have na : ea.size = ka.length := by rw [← hpa.length]; exact Array.length_toList.symm
  have nb : eb.size = kb.length := by rw [← hpb.length]; exact Array.length_toList.symm
  have look : ∀ k, findBy (strKind M.prog M.w).is eb k = valueAt kb k := fun k => by
    rw [← hpb.find k]
    obtain ⟨l⟩ := eb
    simp [findBy]
  unfold Builtin.Dict.samePairs Builtin.Dict.showsAll
  rw [if_neg (by rw [ha]; exact Bool.false_ne_true), if_neg (by rw [hb]; exact Bool.false_ne_true)]
  refine wpAny_bind (wpAny_pure (wpAny_bind (wpAny_pure (wpAny_bind (wpAny_dictEntries hoa hda ?_)))))
  dsimp only
  refine wpAny_bind (wpAny_dictEntries hob hdb ?_)
  by_cases hsz : ea.size = eb.size
  · have hQ : Q (ka.all fun p => f p.1) s := by
      have e : (ka.length == kb.length) = true := by rw [← na, ← nb, hsz]; exact beq_self_eq_true _
      rwa [e, Bool.true_and] at h
    rw [if_neg (by rw [hsz]; simp)]
    refine wpAny_bind (wpAny_dictEpoch hoa hda (wpAny_bind ?_))
    rw [Std.Legacy.Range.forIn_eq_forIn_range']
    simp only [Std.Legacy.Range.size, Nat.sub_zero, Nat.add_sub_cancel, Nat.div_one]
    refine wpAny_forIn_list _ (fun rest q s' => s' = s ∧ q = (none, ()) ∧ ∃ i, rest = List.range' i (ea.size - i) ∧ i ≤ ea.size ∧ (ka.all fun p => f p.1) = ((ka.drop i).all fun p => f p.1)) _ ?_ ?_ _ _
      ⟨rfl, rfl, 0, by simp, Nat.zero_le _, by simp⟩
    · rintro j rest q s' ⟨rfl, rfl, i, hr, hi, hall⟩
      have hlt : i < ea.size := by
        rcases Nat.lt_or_ge i ea.size with h | h
        · exact h
        · rw [Nat.sub_eq_zero_of_le h] at hr; cases hr
      have hr' : j = i ∧ rest = List.range' (i + 1) (ea.size - (i + 1)) := by
        rw [show ea.size - i = (ea.size - (i + 1)) + 1 by omega, List.range'_succ] at hr
        injection hr with h1 h2
        exact ⟨h1, h2⟩
      obtain ⟨rfl, hrest⟩ := hr'
      have hlk : j < ka.length := by rw [← na]; exact hlt
      refine wpAny_bind (wpAny_dictEntries hoa hda ?_)
      rw [Array.getElem?_eq_getElem hlt]
      obtain ⟨hkey, hval⟩ := hpa.get? (i := j) (e := ea[j]) (k := ka[j].1) (v := ka[j].2) (by rw [Array.getElem?_toList]; exact Array.getElem?_eq_getElem hlt) (by rw [List.getElem?_eq_getElem hlk])
      obtain ⟨k', hk', hh⟩ := hka ea[j] (Array.getElem_mem hlt)
      rw [(strKind M.prog M.w).inj _ _ _ hk' hkey] at hh
      have hdrop : ka.drop j = ka[j] :: ka.drop (j + 1) := List.drop_eq_getElem_cons hlk
      rw [hdrop, List.all_cons] at hall
      show wpAny _ _ (holding [ea[j].key, ea[j].val] _ >>= _) _ _ _
      rw [hh]
      refine wpAny_bind (wpAny_holding (wpAny_bind (wpAny_dictFind_of hkey hob hdb hkb ?_)))
      have hhit := hits ka[j] (List.getElem_mem hlk)
      cases hj : eb.findIdx? fun e => (strKind M.prog M.w).is ka[j].1 e.key with
      | none =>
        have hn : valueAt kb ka[j].1 = none := by rw [← look, findBy_of_findIdx?, hj]
        have hf : f ka[j].1 = false := by
          rcases hhit with h | ⟨y, hy, _⟩
          · exact h.2
          · rw [hn] at hy; cases hy
        rw [hf, Bool.false_and] at hall
        rw [hall] at hQ
        refine wpAny_pure ?_
        show wpAny _ _ (if (!false) = true then _ else _) _ _ _
        rw [if_pos (by decide)]
        exact wpAny_pure (wpAny_pure hQ)
      | some i2 =>
        obtain ⟨hi2, _, _⟩ := Array.findIdx?_eq_some_iff_getElem.mp hj
        have hv : valueAt kb ka[j].1 = some eb[i2].val := by
          rw [← look, findBy_of_findIdx?, hj]
          simp [Array.getElem?_eq_getElem hi2]
        refine wpAny_bind (wpAny_dictEntries hob hdb ?_)
        rw [Array.getElem?_eq_getElem hi2]
        rcases hhit with h | ⟨y, hy, he⟩
        · rw [hv] at h; cases h.1
        rw [hv] at hy
        cases hy
        rw [← hval] at he
        refine wpAny_holding (he _ _ ?_)
        cases hf : f ka[j].1 with
        | false =>
          rw [hf, Bool.false_and] at hall
          rw [hall] at hQ
          show wpAny _ _ (if (!false) = true then _ else _) _ _ _
          rw [if_pos (by decide)]
          exact wpAny_pure (wpAny_pure hQ)
        | true =>
          rw [hf, Bool.true_and] at hall
          show wpAny _ _ (if (!true) = true then _ else _) _ _ _
          rw [if_neg (by decide)]
          refine wpAny_bind (wpAny_dictEpoch hoa hda ?_)
          rw [if_neg (by simp)]
          exact wpAny_pure ⟨rfl, rfl, j + 1, hrest, hlt, hall⟩
    · rintro q s' ⟨rfl, rfl, i, hr, hi, hall⟩
      have hin : i = ea.size := by
        rcases Nat.lt_or_ge i ea.size with h | h
        · rw [show ea.size - i = (ea.size - (i + 1)) + 1 by omega, List.range'_succ] at hr; cases hr
        · exact Nat.le_antisymm hi h
      rw [hin, na, List.drop_length] at hall
      rw [hall] at hQ
      exact wpAny_pure hQ
  · rw [if_pos (by simpa using hsz)]
    have e : (ka.length == kb.length) = false := by rw [← na, ← nb]; simpa using hsz
    rw [e, Bool.false_and] at h
    exact wpAny_bind (wpAny_rule (wpAny_pure h))

theorem RcW.dicts {a b : Addr} {ka kb : List (Str × Value)} (f : Str → Bool) (ha : (a == sysModules) = false) (hb : (b == sysModules) = false)
    (da : s.heap.DictOf (strKind M.prog M.w) a ka) (db : s.heap.DictOf (strKind M.prog M.w) b kb) (hu : A.units < cLine)
    (hits : ∀ p ∈ ka, (valueAt kb p.1 = none ∧ f p.1 = false) ∨ ∃ y, valueAt kb p.1 = some y ∧ EqW M A.in1 s p.2 y (f p.1)) :
    RcW M A s (.ref a) (.ref b) (ka.length == kb.length && ka.all fun p => f p.1) := fun E Q h => by
  refine wpAny_richCompare_same_room (op := .Eq) da.typeIs db.typeIs PySem.F.slot_dict_eq (wpAny_call_entry PySem.F.slot_dict_eq da.typeIs PySem.F.entry_dict_eq ?_ (PySem.F.args_dict_eq_2 _ _)) hu
  show wpAny _ _ (Builtin.Dict.dictSlotArgs "__eq__" ⟨[.ref a, .ref b], []⟩ >>= _) _ _ s
  unfold Builtin.Dict.dictSlotArgs
  refine wpAny_bind (wpAny_bind (wpAny_notOrdered_dict da.typeIs (wpAny_pure ?_)))
  refine wpAny_bind (wpAny_isInstance (T := "dict") db.typeIs PySem.F.sub_dict_dict ?_)
  simp only [Bool.not_true, Bool.false_eq_true, if_false]
  refine wpAny_bind (wpAny_pure (wpAny_bind (wpAny_pure (wpAny_bind (pairsLoop f ha hb da db hits ?_)))))
  exact wpAny_pure ⟨_, rfl, (fun x => nomatch x), by simpa using h⟩
theorem dicts_ne {a b : Addr} {ka kb : List (Str × Value)} (f : Str → Bool) {Q : Value → Shared → Prop} {E : Value → Shared → Prop} (ha : (a == sysModules) = false) (hb : (b == sysModules) = false)
    (da : s.heap.DictOf (strKind M.prog M.w) a ka) (db : s.heap.DictOf (strKind M.prog M.w) b kb) (hu : A.units < cLine)
    (hits : ∀ p ∈ ka, (valueAt kb p.1 = none ∧ f p.1 = false) ∨ ∃ y, valueAt kb p.1 = some y ∧ EqW M A.in1 s p.2 y (f p.1))
    (h : Q (.bool (!(ka.length == kb.length && ka.all fun p => f p.1))) s) : wpAny (model M.prog M.w) A (compareOp .NotEq (.ref a) (.ref b)) Q E s := by
  refine wpAny_richCompare_same_room (op := .NotEq) da.typeIs db.typeIs PySem.F.slot_dict_ne (wpAny_call_entry PySem.F.slot_dict_ne da.typeIs PySem.F.entry_dict_ne ?_ (PySem.F.args_dict_ne_2 _ _)) hu
  show wpAny _ _ (Builtin.Dict.dictSlotArgs "__ne__" ⟨[.ref a, .ref b], []⟩ >>= _) _ _ s
  unfold Builtin.Dict.dictSlotArgs
  refine wpAny_bind (wpAny_bind (wpAny_notOrdered_dict da.typeIs (wpAny_pure ?_)))
  refine wpAny_bind (wpAny_isInstance (T := "dict") db.typeIs PySem.F.sub_dict_dict ?_)
  simp only [Bool.not_true, Bool.false_eq_true, if_false]
  refine wpAny_bind (wpAny_pure (wpAny_bind (wpAny_pure (wpAny_bind (pairsLoop f ha hb da db hits ?_)))))
  exact wpAny_pure ⟨_, rfl, (fun x => nomatch x), by simpa using h⟩
end
end Mine
end

-- C19
section
open PySem PySem.W PyProof.Rows
set_option linter.unusedVariables false
set_option maxRecDepth 100000
namespace Mine
open AutoSeq1 (wpAny_loadPart')

inductive EqsW (M : Pg) (A : Around) (s : Shared) : List (Value × Value) → Bool → Prop
  | nil : EqsW M A s [] true
  | cons {v u : Value} {r : List (Value × Value)} {b c : Bool} : EqW M A s v u b → EqsW M A s r c → EqsW M A s ((v, u) :: r) (b && c)

section
variable {M : Pg} {A : Around} {s : Shared}

theorem RcW.tuples {l b : Addr} {xs ys : List Value} {n n2 : Nat} {c : Bool} (hl : s.heap.get? l = some { cls := .type "tuple", data := .seq xs.toArray n }) (hb : s.heap.get? b = some { cls := .type "tuple", data := .seq ys.toArray n2 })
    (hsz : xs.length = ys.length) (hu : A.units < cLine) (he : EqsW M A.in1 s (xs.zip ys) c) : RcW M A s (.ref l) (.ref b) c := fun E Q hq => by
  have tl : s.TypeIs (.ref l) "tuple" := ⟨_, hl, rfl⟩
  have tb : s.TypeIs (.ref b) "tuple" := ⟨_, hb, rfl⟩
  refine wpAny_richCompare_same_room (op := .Eq) tl tb PySem.F.slot_tuple_eq (wpAny_call_entry PySem.F.slot_tuple_eq tl PySem.F.entry_tuple_eq ?_ (PySem.F.args_tuple_eq_2 _ _)) hu
  obtain ⟨hp, g, d, tk, os⟩ := s
  have f2 := AutoSeq1.sub_tuple_tuple
  have hl' : hp.get? l = some { cls := .type "tuple", data := .seq xs.toArray n } := hl
  have hb' : hp.get? b = some { cls := .type "tuple", data := .seq ys.toArray n2 } := hb
  wp_walk using wpAny_loadPart' hl', wpAny_loadPart' hb', wpAny_forIn_list _ (fun rest q s' => q.1 = none ∧ s' = ⟨hp, g, d, tk, os⟩ ∧ ∃ c', EqsW M A.in1 ⟨hp, g, d, tk, os⟩ rest c' ∧ c = c') _
  case turn =>
    rintro ⟨y, x⟩ rest q s' ⟨hq', rfl, c', hE, rfl⟩
    cases hE with
    | @cons _ _ _ b1 c1 h1 h2 =>
      refine wpAny_bind (h1 _ _ ?_)
      cases b1 with
      | true =>
        wp_walk
        exact ⟨rfl, rfl, c1, h2, by simp⟩
      | false =>
        wp_walk
        exact ⟨_, rfl, (fun x => nomatch x), by simpa using hq⟩
  case fin =>
    rintro ⟨q1, q2⟩ s' ⟨hq', rfl, c', hE, rfl⟩
    simp only at hq'
    subst hq'
    cases hE
    wp_walk
    refine ⟨_, rfl, (fun x => nomatch x), ?_⟩
    simpa [Builtin.Tuple.tupleCompareSizes, hsz] using hq
  case h =>
    exact ⟨rfl, rfl, c, by simpa using he, rfl⟩

/- a kind of values that may be compared -/
structure EqTy (M : Pg) {α : Type} (T : Ty α) (e : α → α → Bool) (d : Nat) : Prop where
  same : ∀ g v x y, T.rep g v x → T.rep g v y → e x y = true
  at_ : ∀ (A : Around) (s : Shared) g v u x y, (∀ b o, g b = some o → s.heap.get? b = some o) → A.units + d < cLine → T.rep g v x → T.rep g u y → EqW M A s v u (e x y)

theorem EqTy.int : EqTy M tInt (fun a b => a == b) 0 where
  same := fun g v x y ⟨t, h1⟩ ⟨t', h2⟩ => by rw [h1] at h2; injection h2 with h2; simp [h2]
  at_ := fun A s g v u x y hk hu ⟨t, h1⟩ ⟨t', h2⟩ => by
    subst h1 h2
    exact EqW.of_at ((MeetsSeq.EqGives.int x y t t').at A s)

noncomputable def eqFive {α : Type} (e : α → α → Bool) (x y : Five α) : Bool := x.cc == y.cc && (x.nc == y.nc && (x.tt == y.tt && (x.ct == y.ct && (e x.callers y.callers && true))))
theorem EqTy.five {α : Type} {T : Ty α} {e : α → α → Bool} {d : Nat} (h : EqTy M T e d) : EqTy M (tFive T) (eqFive e) (d + 1) where
  same := fun g v x y ⟨a, o, t1, t2, t3, t4, v5, h1, ho, ⟨nn, hT⟩, hv⟩ ⟨a', o', t1', t2', t3', t4', v5', h1', ho', ⟨nn', hT'⟩, hv'⟩ => by
    rw [h1] at h1'
    injection h1' with ha
    subst ha
    have hE := Option.some.inj (ho.symm.trans ho')
    rw [hT, hT'] at hE
    have hE2 := congrArg Obj.data hE
    injection hE2 with hE3 _
    have hE4 : [Value.int x.cc t1, Value.int x.nc t2, Value.int x.tt t3, Value.int x.ct t4, v5] = [Value.int y.cc t1', Value.int y.nc t2', Value.int y.tt t3', Value.int y.ct t4', v5'] := congrArg Array.toList hE3
    simp only [List.cons.injEq, Value.int.injEq, and_true] at hE4
    obtain ⟨⟨e1, _⟩, ⟨e2, _⟩, ⟨e3, _⟩, ⟨e4, _⟩, e5⟩ := hE4
    subst e5
    simp [eqFive, e1, e2, e3, e4, h.same _ _ _ _ hv hv']
  at_ := fun A s g v u x y hk hu ⟨a, o, t1, t2, t3, t4, v5, h1, ho, ⟨nn, hT⟩, hv⟩ ⟨a', o', t1', t2', t3', t4', v5', h1', ho', ⟨nn', hT'⟩, hv'⟩ => by
    subst h1 h1'
    by_cases haa : a = a'
    · subst haa
      have hE := Option.some.inj (ho.symm.trans ho')
      rw [hT, hT'] at hE
      have hE2 := congrArg Obj.data hE
      injection hE2 with hE3 _
      have hE4 : [Value.int x.cc t1, Value.int x.nc t2, Value.int x.tt t3, Value.int x.ct t4, v5] = [Value.int y.cc t1', Value.int y.nc t2', Value.int y.tt t3', Value.int y.ct t4', v5'] := congrArg Array.toList hE3
      simp only [List.cons.injEq, Value.int.injEq, and_true] at hE4
      obtain ⟨⟨e1, _⟩, ⟨e2, _⟩, ⟨e3, _⟩, ⟨e4, _⟩, e5⟩ := hE4
      subst e5
      have e : eqFive e x y = true := by simp [eqFive, e1, e2, e3, e4, h.same _ _ _ _ hv hv']
      rw [e]
      exact EqW.same _
    · refine EqW.of_rc haa (RcW.tuples (xs := [.int x.cc t1, .int x.nc t2, .int x.tt t3, .int x.ct t4, v5]) (ys := [.int y.cc t1', .int y.nc t2', .int y.tt t3', .int y.ct t4', v5']) (n := nn) (n2 := nn') (by rw [← hT]; exact hk _ _ ho) (by rw [← hT']; exact hk _ _ ho') rfl (by omega) ?_)
      refine .cons (EqTy.int.at_ A.in1 s g _ _ _ _ hk (by show A.units + 1 + 0 < cLine; omega) ⟨_, rfl⟩ ⟨_, rfl⟩) (.cons (EqTy.int.at_ A.in1 s g _ _ _ _ hk (by show A.units + 1 + 0 < cLine; omega) ⟨_, rfl⟩ ⟨_, rfl⟩)
        (.cons (EqTy.int.at_ A.in1 s g _ _ _ _ hk (by show A.units + 1 + 0 < cLine; omega) ⟨_, rfl⟩ ⟨_, rfl⟩) (.cons (EqTy.int.at_ A.in1 s g _ _ _ _ hk (by show A.units + 1 + 0 < cLine; omega) ⟨_, rfl⟩ ⟨_, rfl⟩)
          (.cons (h.at_ A.in1 s g _ _ _ _ hk (by show A.units + 1 + d < cLine; omega) hv hv') .nil))))

noncomputable def eqDict {α : Type} (e : α → α → Bool) (kvs kvs' : List (Str × α)) : Bool :=
  kvs.length == kvs'.length && kvs.all fun q => match dget kvs' q.1 with | none => false | some y => e q.2 y

theorem pairs_unique : ∀ {es : List DictEntry} {ps qs : List (Str × Value)}, Pairs (strKind M.prog M.w) es ps → Pairs (strKind M.prog M.w) es qs → ps = qs
  | _, _, _, .nil, .nil => rfl
  | _, _, _, .cons h1 h2 r, .cons h1' h2' r' => by rw [Prod.ext ((strKind M.prog M.w).inj _ _ _ h1 h1') (h2.symm.trans h2'), pairs_unique r r']
theorem isDict_unique {o : Obj} {ps qs : List (Str × Value)} (h : o.IsDictOf (strKind M.prog M.w) ps) (h' : o.IsDictOf (strKind M.prog M.w) qs) : ps = qs := by
  obtain ⟨es, ep, _, hd, _, hp, _⟩ := h
  obtain ⟨es', ep', _, hd', _, hp', _⟩ := h'
  rw [hd] at hd'
  injection hd' with hd'
  subst hd'
  exact pairs_unique hp hp'
theorem dget_of_mem {α : Type} {kvs : List (Str × α)} (hn : (kvs.map (·.1)).Nodup) {q : Str × α} (hq : q ∈ kvs) : dget kvs q.1 = some q.2 := by
  induction kvs with
  | nil => cases hq
  | cons p r ih =>
    rw [List.map_cons, List.nodup_cons] at hn
    unfold dget
    rw [List.find?_cons]
    rcases List.mem_cons.mp hq with rfl | hq
    · simp
    · have hne : p.1 ≠ q.1 := fun e => hn.1 (e ▸ List.mem_map.mpr ⟨q, hq, rfl⟩)
      simp only [hne, decide_false]
      exact ih hn.2 hq
theorem F2.both {α β γ : Type} {R : α → β → Prop} {S : α → γ → Prop} : ∀ {l : List α} {l1 : List β} {l2 : List γ}, F2 R l l1 → F2 S l l2 → ∀ {q : β}, q ∈ l1 → ∃ (a : α) (r : γ), a ∈ l ∧ r ∈ l2 ∧ R a q ∧ S a r
  | _, _, _, .nil, .nil, _, h => by cases h
  | _, _, _, .cons h1 t1, .cons h2 t2, q, h => by
    rcases List.mem_cons.mp h with rfl | h
    · exact ⟨_, _, List.mem_cons_self .., List.mem_cons_self .., h1, h2⟩
    · obtain ⟨a, r, ha, hr, x, y⟩ := F2.both t1 t2 h
      exact ⟨a, r, List.mem_cons_of_mem _ ha, List.mem_cons_of_mem _ hr, x, y⟩
theorem DictO.keysNodup {α : Type} {R : Value → α → Prop} {o : Obj} {kvs : List (Str × α)} (h : DictO M.prog M.w R o kvs) : (kvs.map (·.1)).Nodup := by
  obtain ⟨ps, ⟨_, _, _, _, _, _, hn⟩, hf⟩ := h
  rw [← KV.keys hf]; exact hn
theorem eqDict_same {α : Type} {T : Ty α} {e : α → α → Bool} {d : Nat} (h : EqTy M T e d) {g : PM} {o : Obj} {x y : List (Str × α)} (hx : DictO M.prog M.w (T.rep g) o x) (hy : DictO M.prog M.w (T.rep g) o y) : eqDict e x y = true := by
  have hn := hy.keysNodup (M := M)
  obtain ⟨ps, hd, hf⟩ := hx
  obtain ⟨ps', hd', hf'⟩ := hy
  have ep := isDict_unique hd hd'
  subst ep
  unfold eqDict
  rw [Bool.and_eq_true]
  refine ⟨by rw [← F2.length hf, ← F2.length hf']; exact beq_self_eq_true _, List.all_eq_true.mpr fun q hq => ?_⟩
  obtain ⟨a, r, _, hr, ⟨e1, h1⟩, ⟨e2, h2⟩⟩ := F2.both hf hf' hq
  rw [← e1, e2, dget_of_mem hn hr]
  exact h.same g a.2 _ _ h1 h2
theorem F2.mem {α β : Type} {R : α → β → Prop} : ∀ {l : List α} {l' : List β}, F2 R l l' → ∀ {a : α}, a ∈ l → ∃ b, b ∈ l' ∧ R a b
  | _, _, .nil, _, h => by cases h
  | _, _, .cons h t, a, hm => by
    rcases List.mem_cons.mp hm with rfl | hm
    · exact ⟨_, List.mem_cons_self .., h⟩
    · obtain ⟨b, hb, hr⟩ := t.mem hm
      exact ⟨b, List.mem_cons_of_mem _ hb, hr⟩
theorem all_keys {α : Type} {R : Value → α → Prop} (f : Str → Bool) : ∀ {ps : List (Str × Value)} {kvs : List (Str × α)}, KV R ps kvs → (ps.all fun p => f p.1) = kvs.all fun q => f q.1
  | _, _, .nil => rfl
  | _, _, .cons h t => by rw [List.all_cons, List.all_cons, h.1, all_keys f t]
noncomputable def hitF {α : Type} (e : α → α → Bool) (x y : List (Str × α)) (k : Str) : Bool := match dget x k with | none => false | some a => match dget y k with | none => false | some b => e a b
/- two dicts, what their comparing comes to -/
theorem dict_hits {α : Type} {T : Ty α} {e : α → α → Bool} {d : Nat} (h : EqTy M T e d) {g : PM} {x y : List (Str × α)} {ps ps' : List (Str × Value)} (hk : ∀ b o, g b = some o → s.heap.get? b = some o) (hu : A.units + d < cLine)
    (hf : KV (T.rep g) ps x) (hf' : KV (T.rep g) ps' y) (hn : (x.map (·.1)).Nodup) :
    ∃ f : Str → Bool, (∀ p ∈ ps, (valueAt ps' p.1 = none ∧ f p.1 = false) ∨ ∃ u, valueAt ps' p.1 = some u ∧ EqW M A s p.2 u (f p.1)) ∧ (ps.length == ps'.length && ps.all fun p => f p.1) = eqDict e x y := by
  refine ⟨hitF e x y, fun p hp => ?_, ?_⟩
  · obtain ⟨q, hq, e1, hr⟩ := F2.mem hf hp
    unfold hitF
    rw [e1, dget_of_mem hn hq]
    dsimp only
    cases ey : dget y q.1 with
    | none => exact .inl ⟨KV.get_none hf' ey, rfl⟩
    | some b =>
      obtain ⟨u, hu', hr'⟩ := KV.get_some hf' ey
      exact .inr ⟨u, hu', h.at_ A s g _ _ _ _ hk hu hr hr'⟩
  · have key : ∀ f : Str → Bool, (ps.length == ps'.length && ps.all fun p => f p.1) = (x.length == y.length && x.all fun q => f q.1) := fun f => by rw [all_keys f hf, F2.length hf, F2.length hf']
    refine (key (hitF e x y)).trans ?_
    unfold eqDict hitF
    congr 1
    rw [Bool.eq_iff_iff, List.all_eq_true, List.all_eq_true]
    constructor
    · intro hh q hq
      have := hh q hq
      rw [dget_of_mem hn hq] at this
      exact this
    · intro hh q hq
      have := hh q hq
      rw [dget_of_mem hn hq]
      exact this
theorem EqTy.dict {α : Type} {T : Ty α} {e : α → α → Bool} {d : Nat} (h : EqTy M T e d) : EqTy M (tDict M.prog M.w T) (eqDict e) (d + 1) where
  same := fun g v x y ⟨a, o, h1, ho, h3, hx⟩ ⟨a', o', h1', ho', h3', hy⟩ => by
    rw [h1] at h1'
    injection h1' with ha
    subst ha
    rw [ho] at ho'
    cases ho'
    exact eqDict_same h hx hy
  at_ := fun A s g v u x y hk hu ⟨a, o, h1, ho, h3, hx⟩ ⟨a', o', h1', ho', h3', hy⟩ => by
    subst h1 h1'
    by_cases haa : a = a'
    · subst haa
      rw [ho] at ho'
      cases ho'
      rw [eqDict_same h hx hy]
      exact EqW.same _
    · obtain ⟨ps, hd, hf⟩ := hx.dictOf (M := M) (hk _ _ ho)
      obtain ⟨ps', hd', hf'⟩ := hy.dictOf (M := M) (hk _ _ ho')
      obtain ⟨f, hits, er⟩ := dict_hits (A := A.in1) (s := s) h hk (by show A.units + 1 + d < cLine; omega) hf hf' (hx.keysNodup (M := M))
      rw [← er]
      exact EqW.of_rc haa (RcW.dicts f (notMods h3) (notMods h3') hd hd' (by omega) hits)

variable {C : Cx} {Δ : Dl} {n : Nat}
theorem Cmp.neDict (ok : C.Ok n) {α : Type} {T : Ty α} {e : α → α → Bool} {d : Nat} (h : EqTy M T e d) (hd : d < 100) {x y : List (Str × α)} : Cmp M C .NotEq (tDict M.prog M.w T) (tDict M.prog M.w T) x y (!eqDict e x y) := fun Δ v u F g s Q hv hu st hQ => by
  obtain ⟨a, o, rfl, ho, h3, hx⟩ := hv
  obtain ⟨a', o', rfl, ho', h3', hy⟩ := hu
  have hcl : cLine = 9900 := rfl
  have hun := ok.room.units
  obtain ⟨ps, hdo, hf⟩ := hx.dictOf (M := M) (st.st.keep _ _ ho)
  obtain ⟨ps', hdo', hf'⟩ := hy.dictOf (M := M) (st.st.keep _ _ ho')
  obtain ⟨f, hits, er⟩ := dict_hits (A := C.A.in1) (s := s) h st.st.keep (by show C.A.units + 1 + d < cLine; omega) hf hf' (hx.keysNodup (M := M))
  refine dicts_ne f (notMods h3) (notMods h3') hdo hdo' (by omega) hits ?_
  rw [er]
  exact hQ g s.heap s.toks (.refl _) st
/- a list beside an empty one -/
theorem Cmp.eqNil (ok : C.Ok n) {α β : Type} {T : Ty α} {U : Ty β} {xs : List α} : Cmp M C .Eq (tList T) (tList U) xs [] xs.isEmpty := fun Δ v u F g s Q hv hu st hQ => by
  obtain ⟨a, o, rfl, ho, hl⟩ := hv
  obtain ⟨a', o', rfl, ho', hl'⟩ := hu
  have hcl : cLine = 9900 := rfl
  have hun := ok.room.units
  obtain ⟨vs, hL, hf⟩ := hl.isList (st.st.keep _ _ ho)
  obtain ⟨vs', hL', hf'⟩ := hl'.isList (st.st.keep _ _ ho')
  have e' : vs' = [] := by cases hf'; rfl
  subst e'
  cases xs with
  | nil =>
    have e : vs = [] := by cases hf; rfl
    subst e
    refine SeqAt.eq_listAt (e := fun _ => true) hL hL' rfl (by omega) (fun j h1 _ => by simp at h1) ?_
    exact hQ g s.heap s.toks (.refl _) st
  | cons x r =>
    have hlen := F2.length hf
    refine SeqAt.eq_list_lengthsAt hL hL' (by simp [hlen]) (by omega) ?_
    exact hQ g s.heap s.toks (.refl _) st
end
end Mine
end

-- C20
section
open PySem PySem.W PyProof.Rows
set_option linter.unusedVariables false
set_option maxRecDepth 100000
namespace Mine

section
variable {M : Pg} {C : Cx} {Δ : Dl} {n : Nat}

/- the texts of a list, joined -/
theorem Ev.join (ok : C.Ok n) {sep : Str} {kc : Nat} {pc pa pos : Pos} {e : Expr} {xs : List Str} (he : Ev M C Δ e (tList tStr) xs) (hz : (xs.map (·.length)).sum + xs.length * sep.length ≤ 16777216)
    (hs : starEach [e] C.env = [e].map fun e => (false, eval e C.env)) (hline : (pa.endLine == pos.line) = true)
    (hbase : attributeBase (.Constant (.str sep) kc pc) "join" C.env (eval (.Constant (.str sep) kc pc) C.env) = eval (.Constant (.str sep) kc pc) C.env := by rfl) :
    Ev M C Δ (.Call (.Attribute (.Constant (.str sep) kc pc) "join" pa) [e] [] pos) tStr (Txt.join sep xs) := fun F g s Q st hQ => by
  refine wpAny_Call_method (T := "str") (id := "str.join") hbase (hfew_of hs (by show 1 < 29; decide)) hline PySem.F.plainAttrs_str PySem.F.slot_str_join PySem.F.type_str_join (wpAny_Constant_str ⟨typeIs_str _ _ _, (fun a e => nomatch e), ?_⟩)
  rw [backTo_plain hs]
  have st' : Ok M C Δ F g ({ s with toks := s.toks + 1 } : Shared).heap := st
  refine Calls.callWith_builtin rfl (Calls.evalArgs_plain (Calls.spliced_cons (he F g _ _ st' fun v g1 h1 tk1 l1 st1 ht1 => Calls.spliced_nil ?_)))
  obtain ⟨a, o, rfl, ho, hl⟩ := ht1
  obtain ⟨vs, hL, hf⟩ := hl.isList (st1.st.keep _ _ ho)
  exact join_list (s := { s with heap := h1, toks := tk1 }) hL hf.strs hz fun t' k => hQ _ g1 h1 k l1 st1 ⟨t', rfl⟩

/- a str that has a sign gets it replaced -/
theorem Ws.ifReplace (ok : C.Ok n) {x : Str} {c z : Str} {kc kc2 kz : Nat} {p1 p2 p3 p4 p5 p6 p7 p8 p9 pos : Pos} {rest : List Stmt} {α : Type} {T : Ty α} {r : α} {K : Dl → Prop} {Δ' : Dl} {y : Str} (hm : (x, Slot.val tStr y) ∈ Δ) (hx : C.env.kindOf x = some .local)
    (hd : Drop x Δ Δ') (hcz : (c == z) = false) (hy : y.length ≤ 1048576) (hz : z.length ≤ 14)
    (hr : Ws M C ((x, .val tStr (if !(Builtin.Str.occurrences y c 0 y.length 1).isEmpty then Txt.replace y c z else y)) :: Δ') rest T r K)
    (hs : starEach [.Constant (.str c) kc2 p6, .Constant (.str z) kz p7] C.env = [.Constant (.str c) kc2 p6, .Constant (.str z) kz p7].map fun e => (false, eval e C.env)) (hline : (p5.endLine == p8.line) = true)
    (hbase : attributeBase (.Name x p4) "replace" C.env (eval (.Name x p4) C.env) = eval (.Name x p4) C.env := by rfl)
    (hsw : swapsWith (.Call (.Attribute (.Name x p4) "replace" p5) [.Constant (.str c) kc2 p6, .Constant (.str z) kz p7] [] p8) (some (.Name x p9)) pos.line C.env = pure false := by rfl) :
    Ws M C Δ (.If (.Compare (.Constant (.str c) kc p1) [.In] [.Name x p2] p3) [.Assign [.Name x p9] (.Call (.Attribute (.Name x p4) "replace" p5) [.Constant (.str c) kc2 p6, .Constant (.str z) kz p7] [] p8) pos] [] pos2 :: rest) T r K := fun F g s Q st hN hR => by
  obtain ⟨v, hrd, hv⟩ := st.bd.get hm
  obtain ⟨t, rfl⟩ := hv
  have hdb : (x == ("__debug__" : Str)) = false ∧ (x == ("__classdict__" : Str)) = false := ⟨hrd.1, hrd.2.1⟩
  refine wpAny_execs_cons (wpAny_If (wpAny_isTrue_Compare1 (wpAny_Constant_str ?_) rfl))
  have st' : Ok M C Δ F g ({ s with toks := s.toks + 1 } : Shared).heap := st
  refine name_at (s := { s with toks := s.toks + 1 }) ok st' hrd (PyProof.Rows.in_str (wpAny_truthy_bool ?_))
  cases hb : !(Builtin.Str.occurrences y c 0 y.length 1).isEmpty with
  | false =>
    rw [hb] at hr
    simp only [Bool.false_eq_true, if_false] at hr ⊢
    refine wpAny_execs_nil ?_
    have w : Wk M C Δ ((x, .val tStr y) :: Δ') := fun F g h o => by
      obtain ⟨v, hrd, hv⟩ := o.bd.get hm
      obtain ⟨as2, as3, hp, hb⟩ := o.bd.turn (m' := F.m) (cm' := F.cm) (Mn' := F.Mn) hd (fun _ _ _ h => h) (fun _ _ _ h => h)
      exact ⟨{ F with as := as2 }, g, rfl, .refl _, o.st, o.fr, o.ce, o.nd.sub hp, v, [], as2, rfl, hrd, ⟨rfl, hv⟩, hb⟩
    obtain ⟨F', g', e, l, st2⟩ := w F g _ st'
    exact hr.go (s := s) hN hR e l st2
  | true =>
    rw [hb] at hr
    simp only [if_true] at hr ⊢
    refine wpAny_execs_cons (wpAny_Assign_Name ?_ hsw)
    refine wpAny_Call_method (T := "str") (id := "str.replace") hbase (hfew_of hs (by show 2 < 29; decide)) hline PySem.F.plainAttrs_str PySem.F.slot_str_replace PySem.F.type_str_replace
      (name_at (s := { s with toks := s.toks + 1 }) ok st' hrd ⟨typeIs_str _ _ _, (fun a e => nomatch e), ?_⟩)
    rw [backTo_plain hs]
    refine Calls.callWith_builtin rfl (Calls.evalArgs_plain (Calls.spliced_cons (wpAny_Constant_str (Calls.spliced_cons (wpAny_Constant_str (Calls.spliced_nil ?_))))))
    refine SC.replaceW (u := s.toks + 1) (v := s.toks + 1 + 1) (Nat.succ_ne_zero _) (Nat.succ_ne_zero _) (Nat.ne_of_lt (Nat.lt_succ_self _)) hcz hy hz fun t' k => ?_
    have st'' : Ok M C Δ F g ({ s with toks := k } : Shared).heap := st
    refine Ok.storeL (s := { s with toks := k }) (T := tStr) ok st'' hx hdb hd ⟨t', rfl⟩ fun F' h' tk' e' st2 => wpAny_execs_nil ?_
    exact hr.go (s := s) hN hR e' (.refl _) st2

/- bytes of a list of ints -/
theorem Ev.bytes (ok : C.Ok n) (hb : Bi M "bytes" (.type "bytes")) (hx : C.env.kindOf "bytes" = some .globalImplicit) {e : Expr} {p pos : Pos} {xs : List Int} (he : Ev M C Δ e (tList tInt) xs) (hr : ∀ i ∈ xs, 0 ≤ i ∧ i < 256) (hz : xs.length ≤ sizeLine)
    (hs : starEach [e] C.env = [e].map fun e => (false, eval e C.env)) : Ev M C Δ (.Call (.Name "bytes" p) [e] [] pos) tBytes (xs.map fun i => i.toNat.toUInt8) := fun F g s Q st hQ => by
  refine wpAny_Call_Name_kw (builtin_name ok st hx (by decide) hb.no hb.yes ?_)
  rw [backTo_plain hs]
  refine PySem.callWith_type rfl (Calls.evalArgs_plain (Calls.spliced_cons (he F g s _ st fun v g1 h1 tk1 l1 st1 ht1 => Calls.spliced_nil ?_)))
  obtain ⟨a, o, rfl, ho, hl⟩ := ht1
  obtain ⟨vs, hL, hf⟩ := hl.isList (st1.st.keep _ _ ho)
  exact call_bytes_ints (s := { s with heap := h1, toks := tk1 }) hL hf.ints hr (by rw [F2.length hf]; exact hz) ok.room.handled fun h' t k hk => hQ _ g1 h' k l1 (st1.heap hk) ⟨t, rfl⟩

theorem It.bytes (ok : C.Ok n) {e : Expr} {b : List UInt8} (h : Ev M C Δ e tBytes b) : It M C Δ e tInt (b.map fun c => (c.toNat : Int)) :=
  It.mk h fun v g s Q hv hk h3 hQ => by
    obtain ⟨t, rfl⟩ := hv
    refine KBw.pyIter_bytes (hQ _ _ _ _ _ rfl (by simp) (KBw.walks (prog := M.prog) (w := M.w) ok.room.handled s.heap.objs.size b.toArray t) (fun b hb => .inl (List.mem_singleton.mp hb)) ⟨_, Heap.get?_push_size _ rfl, rfl, rfl⟩ ?_ ?_)
    · rintro i h ⟨o', ho', _⟩
      exact ⟨o', ho'⟩
    · rintro i v ⟨c, u, hc, rfl⟩
      exact ⟨(c.toNat : Int), by simp at hc; simp [hc], u, rfl⟩

/- a part of a str -/
theorem Ev.sliceS {e el eu : Expr} {p pos : Pos} {x : Str} {i j : Int} (he : Ev M C Δ e tStr x) (hl : Ev M C Δ el tInt i) (hu : Ev M C Δ eu tInt j) (hz : x.length ≤ sizeLine)
    (ht : ∀ o r, letTemporaryGo e o r = pure () := by intro _ _; rfl) : Ev M C Δ (.Subscript e (.Slice (some el) (some eu) none p) pos) tStr (Txt.slice x (some i) (some j)) := fun F g s Q st hQ => by
  refine wpAny_Subscript_str_slice (he F g s _ st fun v g1 h1 tk1 l1 st1 ht1 => ?_) ht
  refine hl F g1 _ _ st1 fun vl g2 h2 tk2 l2 st2 ht2 => ?_
  refine hu F g2 _ _ st2 fun vu g3 h3 tk3 l3 st3 ht3 => ?_
  obtain ⟨t1, rfl⟩ := ht1
  obtain ⟨t2, rfl⟩ := ht2
  obtain ⟨t3, rfl⟩ := ht3
  refine ⟨x, t1, some (i, t2), some (j, t3), rfl, rfl, rfl, ?_⟩
  exact post_val_or_str ⟨Nat.le_trans (Txt.slice_le x _ _) hz, fun t' k => hQ _ g3 _ k (l1.trans (l2.trans l3)) (st3.heap fun b o e => Heap.get?_push_of_some _ e) ⟨t', rfl⟩⟩

theorem F2.take {α β : Type} {R : α → β → Prop} : ∀ {l : List α} {l' : List β} (k : Nat), F2 R l l' → F2 R (l.take k) (l'.take k)
  | _, _, 0, _ => by simp only [List.take_zero]; exact .nil
  | _, _, k + 1, .nil => .nil
  | _, _, k + 1, .cons h t => .cons h (F2.take k t)
theorem F2.drop {α β : Type} {R : α → β → Prop} : ∀ {l : List α} {l' : List β} (k : Nat), F2 R l l' → F2 R (l.drop k) (l'.drop k)
  | _, _, 0, h => h
  | _, _, k + 1, .nil => .nil
  | _, _, k + 1, .cons h t => F2.drop k t

/- the first items of a list -/
theorem Ev.takeL {e eu : Expr} {p pos : Pos} {α : Type} {T : Ty α} {xs : List α} {j : Int} (he : Ev M C Δ e (tList T) xs) (hu : Ev M C Δ eu tInt j) (h0 : 0 ≤ j) (hz : xs.length ≤ sizeLine)
    (ht : ∀ o r, letTemporaryGo e o r = pure () := by intro _ _; rfl) : Ev M C Δ (.Subscript e (.Slice none (some eu) none p) pos) (tList T) (xs.take j.toNat) := fun F g s Q st hQ => by
  refine wpAny_Subscript_list_slice (he F g s _ st fun v g1 h1 tk1 l1 st1 ht1 => ?_) ht
  rw [evalPart_none]
  refine wpAny_pure (hu F g1 _ _ st1 fun vu g3 h3 tk3 l3 st3 ht3 => ?_)
  obtain ⟨a, o, rfl, ho, hl⟩ := ht1
  obtain ⟨t3, rfl⟩ := ht3
  obtain ⟨vs, hL, hf⟩ := (hl.mono l3).isList (st3.st.keep _ _ (l3 _ _ ho))
  refine ⟨a, vs.toArray, none, some j, rfl, hL, by rw [List.size_toArray, F2.length hf]; exact hz, .none, .int j t3, ?_⟩
  have e1 : slicePick vs.toArray none (some j) none = (vs.take j.toNat).toArray := by
    have := slicePick_upto' vs.toArray j.toNat
    rw [show ((j.toNat : Nat) : Int) = j by omega] at this
    rw [this]
  have st4 := st3.heap (h' := h3.push { cls := .type "slice", data := .fields #[.none, .int j t3, .none] }) fun b o e => Heap.get?_push_of_some _ e
  have hst := st4.st.push { cls := .type "list", data := .seq (slicePick vs.toArray none (some j) none) } rfl
  rw [Heap.size_push] at hst
  have hg := hst.out.2.1
  refine hQ _ _ _ tk3 (l1.trans (l3.trans (PM.le_put hg))) (st4.ext (PM.le_put hg) hst.freeze) ⟨_, _, rfl, PM.put_self, ?_⟩
  rw [e1]
  exact ⟨vs.take j.toNat, 0, rfl, rfl, F2.mono (fun _ _ r => T.mono (PM.le_put hg) r) (F2.take _ hf)⟩
/- the items of a list from one on -/
theorem Ev.dropL {e el : Expr} {p pos : Pos} {α : Type} {T : Ty α} {xs : List α} {i : Int} (he : Ev M C Δ e (tList T) xs) (hu : Ev M C Δ el tInt i) (h0 : 0 ≤ i) (hz : xs.length ≤ sizeLine)
    (ht : ∀ o r, letTemporaryGo e o r = pure () := by intro _ _; rfl) : Ev M C Δ (.Subscript e (.Slice (some el) none none p) pos) (tList T) (xs.drop i.toNat) := fun F g s Q st hQ => by
  refine wpAny_Subscript_list_slice (he F g s _ st fun v g1 h1 tk1 l1 st1 ht1 => ?_) ht
  refine hu F g1 _ _ st1 fun vu g3 h3 tk3 l3 st3 ht3 => ?_
  rw [evalPart_none]
  refine wpAny_pure ?_
  obtain ⟨a, o, rfl, ho, hl⟩ := ht1
  obtain ⟨t3, rfl⟩ := ht3
  obtain ⟨vs, hL, hf⟩ := (hl.mono l3).isList (st3.st.keep _ _ (l3 _ _ ho))
  refine ⟨a, vs.toArray, some i, none, rfl, hL, by rw [List.size_toArray, F2.length hf]; exact hz, .int i t3, .none, ?_⟩
  have e1 : slicePick vs.toArray (some i) none none = (vs.drop i.toNat).toArray := by
    have := slicePick_from' vs.toArray i.toNat
    rw [show ((i.toNat : Nat) : Int) = i by omega] at this
    rw [this]
  have st4 := st3.heap (h' := h3.push { cls := .type "slice", data := .fields #[.int i t3, .none, .none] }) fun b o e => Heap.get?_push_of_some _ e
  have hst := st4.st.push { cls := .type "list", data := .seq (slicePick vs.toArray (some i) none none) } rfl
  rw [Heap.size_push] at hst
  have hg := hst.out.2.1
  refine hQ _ _ _ tk3 (l1.trans (l3.trans (PM.le_put hg))) (st4.ext (PM.le_put hg) hst.freeze) ⟨_, _, rfl, PM.put_self, ?_⟩
  rw [e1]
  exact ⟨vs.drop i.toNat, 0, rfl, rfl, F2.mono (fun _ _ r => T.mono (PM.le_put hg) r) (F2.drop _ hf)⟩

/- two lists, one behind the other -/
theorem Ev.addL {l r : Expr} {pos : Pos} {α : Type} {T : Ty α} {xs ys : List α} (hl : Ev M C Δ l (tList T) xs) (hr : Ev M C Δ r (tList T) ys) (hz : xs.length + ys.length ≤ sizeLine) : Ev M C Δ (.BinOp l .Add r pos) (tList T) (xs ++ ys) :=
  Ev.bin hl hr fun v u F g s Q hv hu st hQ => by
    obtain ⟨a, o, rfl, ho, hl⟩ := hv
    obtain ⟨b, o', rfl, ho', hl'⟩ := hu
    obtain ⟨vs, n1, hc, hd, hf⟩ := hl
    obtain ⟨ws, n2, hc', hd', hf'⟩ := hl'
    have hget := st.st.keep _ _ ho
    have hget' := st.st.keep _ _ ho'
    obtain ⟨cls, dd, data, sl⟩ := o
    obtain ⟨cls2, dd2, data2, sl2⟩ := o'
    simp only at hc hd hc' hd'
    subst hc hd hc' hd'
    have e : vs.toArray ++ ws.toArray = (vs ++ ws).toArray := by simp
    refine concat_meets ⟨_, hget, rfl⟩ ⟨_, hget', rfl⟩ noFill_list_add seq_list_add PySem.F.slot_list_add PySem.F.entry_list_add (PySem.F.args_list_add_2 _ _)
      (list_addW a b vs.toArray ws.toArray n1 n2 dd dd2 sl sl2 (by simpa [F2.length hf, F2.length hf'] using hz)) ⟨hget, hget', ?_⟩
    rw [e]
    have hst := st.st.push { cls := .type "list", data := .seq (vs ++ ws).toArray } rfl
    have hg := hst.out.2.1
    exact hQ _ _ _ _ (PM.le_put hg) (st.ext (PM.le_put hg) hst.freeze) ⟨_, _, rfl, PM.put_self, _, 0, rfl, rfl, F2.mono (fun _ _ r => T.mono (PM.le_put hg) r) (F2.append hf hf')⟩
end
end Mine
end

-- C21
section
open PySem PySem.W PyProof.Rows
set_option linter.unusedVariables false
set_option maxRecDepth 100000
namespace Mine

theorem re_attrs : PlainAttrs "re.Pattern" :=
  ⟨⟨"object.__getattribute__", by rw [typeLookup_type, builtinLookup_eq_fast]; kernel_rfl, by decide +kernel⟩, by rw [typeLookup_type, builtinLookup_eq_fast]; kernel_rfl⟩
theorem re_owner : Manifest.owners.lookup (String.ofList ['n', 'r', 'e', 't', 't', 'a', 'P', '.', 'e', 'r'].reverse) = some Manifest.sig_re_Pattern := by kernel_rfl
theorem re_slot : PySem.Slot "re.Pattern" "sub" "re.Pattern.sub" :=
  .of (owner := "re.Pattern") (n := "sub") (by rw [typeLookup_type, builtinLookup_eq_fast]; kernel_rfl) (by decide +kernel) (by decide +kernel) (by decide +kernel)
    (by first | exact .inl (by decide +kernel) | exact .inr (by decide +kernel)) (by rw [isSubtype_type]; kernel_rfl)
theorem re_type : typeOf (.builtin "re.Pattern.sub") = pure (.type "method_descriptor") := by show builtinType _ = _; rw [builtinType_eq_fast]; kernel_rfl
theorem re_entry : entryFor table "re.Pattern.sub" = some Builtin.«re.Pattern.sub» := entryFor_of_tree (by kernel_rfl)
theorem re_loop_entry : entryFor table "re.Pattern.sub.loop" = some Builtin.«re.Pattern.sub.loop» := entryFor_of_tree (by kernel_rfl)
theorem re_loop_plain : plainId "re.Pattern.sub.loop" = true := by decide +kernel
theorem re_args (a b c : Value) : argsOk "re.Pattern.sub" ⟨[a, b, c], []⟩ := by
  unfold argsOk; rw [signature?_of (id := "re.Pattern.sub") (n := ['b', 'u', 's']) (o := ['n', 'r', 'e', 't', 't', 'a', 'P', '.', 'e', 'r']) (by kernel_rfl) re_owner]; kernel_rfl
end Mine
end

-- R1
section
open PySem PySem.W
set_option linter.unusedVariables false
set_option linter.unusedSimpArgs false
set_option maxRecDepth 100000
namespace Mine
open Sre

theorem runFor_done {m : M} (h : m.outcome.isSome = true) : ∀ n, M.runFor n m = m
  | 0 => rfl
  | n + 1 => by unfold M.runFor; rw [if_pos h]
theorem runFor_succ {m : M} (h : m.outcome = none) (n : Nat) : M.runFor (n + 1) m = M.runFor n m.step := by
  conv => lhs; unfold M.runFor
  rw [if_neg (by rw [h]; exact Bool.false_ne_true)]
theorem runFor_add {m : M} : ∀ (a b : Nat), M.runFor (a + b) m = M.runFor b (M.runFor a m)
  | 0, b => by rw [Nat.zero_add]; rfl
  | a + 1, b => by
    cases h : m.outcome with
    | none => rw [show a + 1 + b = (a + b) + 1 by omega, runFor_succ h, runFor_succ h]; exact runFor_add a b
    | some o =>
      have h' : m.outcome.isSome = true := by rw [h]; rfl
      rw [runFor_done h', runFor_done h', runFor_done h']

/- what a search comes to within so many steps -/
noncomputable def Ends (m : M) (n : Nat) (r : Option (Nat × Nat)) : Prop :=
  match r with
  | some (b, e) => (M.runFor n m).outcome = some .matched ∧ (M.runFor n m).start = b ∧ (M.runFor n m).handed = e
  | none => (M.runFor n m).outcome = some .failed
theorem Ends.isSome {m : M} {n : Nat} {r : Option (Nat × Nat)} (h : Ends m n r) : (M.runFor n m).outcome.isSome = true := by
  cases r with
  | none => unfold Ends at h; rw [h]; rfl
  | some p => unfold Ends at h; rw [h.1]; rfl
theorem Ends.after {m : M} {n k : Nat} {r : Option (Nat × Nat)} (h : Ends (M.runFor k m) n r) : Ends m (k + n) r := by
  unfold Ends at h ⊢
  rw [runFor_add]
  exact h

noncomputable def codeB : Array Nat := #[14, 4, 0, 1, 1, 6, 1, 16, 46, 1]
/- the machine at an attempt -/
noncomputable def atB (text : Array Nat) (lim s : Nat) (hd : Nat) (first : Bool) (seen : Sre.Seen) : M :=
  { code := codeB, text, lim, start := s, lastStart := lim, pc := 5, pos := s, handed := hd, outermost := first, marks := #[],
    frames := [{ wait := .nextStart, pc := 5, pos := s, outermost := first }], weight := 1, seen }

theorem Ends.step {m m' : M} {n : Nat} {r : Option (Nat × Nat)} (h0 : m.outcome = none) (e : m.step = m') (h : Ends m' n r) : Ends m (n + 1) r := by
  unfold Ends at h ⊢
  rw [runFor_succ h0, e]
  exact h
noncomputable def g0 (s : Nat) (first : Bool) : Sre.Frame := { wait := .nextStart, pc := 5, pos := s, outermost := first }
/- the machine on its way -/
noncomputable def stB (text : Array Nat) (lim s : Nat) (seen : Sre.Seen) (pc pos handed : Nat) (out : Bool) (frames : List Sre.Frame) (weight : Nat) (answer : Option Bool) : M :=
  { code := codeB, text, lim, start := s, lastStart := lim, pc, pos, handed, outermost := out, marks := #[], frames, weight, answer, seen }
section
variable {text : Array Nat} {lim s : Nat} {seen : Sre.Seen} {pos handed : Nat} {out first : Bool} {frames : List Sre.Frame} {weight n : Nat} {r : Option (Nat × Nat)}
theorem at_step (b : Bool) (h : (pos == 0 || text.getD (pos - 1) 0 == 10) = b) : M.step (stB text lim s seen 5 pos handed out frames weight none) = (if b = true then stB text lim s ((seen.add 6).add 44) 7 pos handed out frames weight none else stB text lim s ((seen.add 6).add 44) 5 pos handed out frames weight (some false)) := by
  show (let yes := (pos == 0 || text.getD (pos - 1) 0 == 10); if yes = true then stB text lim s ((seen.add 6).add 44) 7 pos handed out frames weight none else stB text lim s ((seen.add 6).add 44) 5 pos handed out frames weight (some false)) = _
  rw [h]
theorem at_yes (h1 : pos = 0 ∨ text[pos - 1]?.getD 0 = 10) : M.step (stB text lim s seen 5 pos handed out frames weight none) = stB text lim s ((seen.add 6).add 44) 7 pos handed out frames weight none := at_step true (by
  rw [Bool.or_eq_true, beq_iff_eq, beq_iff_eq]
  simpa using h1)
theorem at_no (h1 : ¬ (pos = 0 ∨ text[pos - 1]?.getD 0 = 10)) : M.step (stB text lim s seen 5 pos handed out frames weight none) = stB text lim s ((seen.add 6).add 44) 5 pos handed out frames weight (some false) := at_step false (by
  rw [Bool.eq_false_iff]
  intro x
  rw [Bool.or_eq_true, beq_iff_eq, beq_iff_eq] at x
  exact h1 (by simpa using x))
theorem litB (b : Bool) (hl : pos < lim) (hc : (text.getD pos 0 == 46) = b) :
    M.step (stB text lim s seen 7 pos handed out frames weight none) = (if b = true then stB text lim s (seen.add 16) 9 (pos + 1) handed out frames weight none else stB text lim s (seen.add 16) 7 pos handed out frames weight (some false)) := by
  show (if pos ≥ lim then _ else (match (Except.ok (text.getD pos 0 == 46, seen.add 16) : Except String (Bool × Seen)) with | .error why => _ | .ok (false, seen) => stB text lim s seen 7 pos handed out frames weight (some false) | .ok (true, seen) => stB text lim s seen 9 (pos + 1) handed out frames weight none)) = _
  rw [if_neg (by omega), hc]
  cases b <;> rfl
theorem litB_end (hl : ¬ pos < lim) : M.step (stB text lim s seen 7 pos handed out frames weight none) = stB text lim s (seen.add 16) 7 pos handed out frames weight (some false) := by
  show (if pos ≥ lim then stB text lim s (seen.add 16) 7 pos handed out frames weight (some false) else _) = _
  rw [if_pos (by omega)]
theorem start_next (pc : Nat) (h : s < lim) : M.step (stB text lim s seen pc pos handed out [g0 s first] 1 (some false)) = atB text lim (s + 1) (s + 1) false seen := by
  show (if s < lim then atB text lim (s + 1) (s + 1) false seen else _) = _
  rw [if_pos h]
theorem start_end (pc : Nat) : Ends (stB text lim lim seen pc pos handed out [g0 lim first] 1 (some false)) 2 none := by
  refine Ends.step (m' := stB text lim lim seen 5 lim handed first [] 0 (some false)) rfl ?_ rfl
  show (if lim < lim then _ else stB text lim lim seen 5 lim handed first [] 0 (some false)) = _
  rw [if_neg (Nat.lt_irrefl _)]
end
theorem atB_hit {text : Array Nat} {lim s hd : Nat} {first : Bool} {seen : Sre.Seen} (h1 : s = 0 ∨ text[s - 1]?.getD 0 = 10) (h2 : s < lim) (h3 : text[s]?.getD 0 = 46) :
    Ends (atB text lim s hd first seen) 5 (some (s, s + 1)) := by
  refine Ends.step (m := stB text lim s seen 5 s hd first [g0 s first] 1 none) rfl (at_yes h1) ?_
  refine Ends.step rfl (litB true h2 (by simpa using h3)) ?_
  show Ends (stB text lim s _ 9 (s + 1) hd first [g0 s first] 1 none) 3 _
  cases first <;> exact ⟨rfl, rfl, rfl⟩
theorem atB_no1 {text : Array Nat} {lim s hd : Nat} {first : Bool} {seen : Sre.Seen} (h1 : ¬ (s = 0 ∨ text[s - 1]?.getD 0 = 10)) (h2 : s < lim) :
    ∃ seen', M.runFor 2 (atB text lim s hd first seen) = atB text lim (s + 1) (s + 1) false seen' := by
  refine ⟨(seen.add 6).add 44, ?_⟩
  have e : M.step (atB text lim s hd first seen) = _ := at_no h1
  rw [runFor_succ rfl 1, e, runFor_succ rfl 0]
  exact start_next 5 h2
theorem atB_no2 {text : Array Nat} {lim s hd : Nat} {first : Bool} {seen : Sre.Seen} (h1 : s = 0 ∨ text[s - 1]?.getD 0 = 10) (h2 : s < lim) (h3 : ¬ text[s]?.getD 0 = 46) :
    ∃ seen', M.runFor 3 (atB text lim s hd first seen) = atB text lim (s + 1) (s + 1) false seen' := by
  refine ⟨((seen.add 6).add 44).add 16, ?_⟩
  have e : M.step (atB text lim s hd first seen) = _ := at_yes h1
  have h4 : (text.getD s 0 == 46) = false := beq_eq_false_iff_ne.mpr (by simpa using h3)
  have e2 : M.step (stB text lim s ((seen.add 6).add 44) 7 s hd first [g0 s first] 1 none) = stB text lim s (((seen.add 6).add 44).add 16) 7 s hd first [g0 s first] 1 (some false) := litB false h2 h4
  rw [runFor_succ rfl 2, e]
  show M.runFor 2 (stB text lim s ((seen.add 6).add 44) 7 s hd first [g0 s first] 1 none) = _
  rw [runFor_succ rfl 1, e2, runFor_succ rfl 0]
  exact start_next 7 h2
theorem atB_end1 {text : Array Nat} {lim hd : Nat} {first : Bool} {seen : Sre.Seen} (h1 : ¬ (lim = 0 ∨ text[lim - 1]?.getD 0 = 10)) : Ends (atB text lim lim hd first seen) 3 none :=
  Ends.step (m := stB text lim lim seen 5 lim hd first [g0 lim first] 1 none) rfl (at_no h1) (start_end 5)
theorem atB_end2 {text : Array Nat} {lim hd : Nat} {first : Bool} {seen : Sre.Seen} (h1 : lim = 0 ∨ text[lim - 1]?.getD 0 = 10) : Ends (atB text lim lim hd first seen) 4 none :=
  Ends.step (m := stB text lim lim seen 5 lim hd first [g0 lim first] 1 none) rfl (at_yes h1) (Ends.step rfl (litB_end (Nat.lt_irrefl _)) (start_end 7))

noncomputable def stopM (code : Array Nat) (pc : Nat) (text : Array Nat) (lim p : Nat) : M := { code, text, lim, start := p, pc, pos := p, handed := p, marks := #[], answer := some false, seen := ({} : Sre.Seen).add 14 }
/- where the next '.' stands at the start of a line -/
noncomputable def nextB (text : Array Nat) (lim : Nat) : (fuel s : Nat) → Option (Nat × Nat)
  | 0, _ => none
  | fuel + 1, s => if s < lim then (if (s = 0 ∨ text[s - 1]?.getD 0 = 10) ∧ text[s]?.getD 0 = 46 then some (s, s + 1) else nextB text lim fuel (s + 1)) else none

theorem atB_ends {text : Array Nat} {lim : Nat} : ∀ (fuel s hd : Nat) (first : Bool) (seen : Sre.Seen), s + fuel = lim + 1 → s ≤ lim → ∃ n, n ≤ 5 * fuel ∧ Ends (atB text lim s hd first seen) n (nextB text lim fuel s)
  | 0, s, _, _, _, h, h' => by omega
  | fuel + 1, s, hd, first, seen, h, h' => by
    unfold nextB
    by_cases hs : s < lim
    · rw [if_pos hs]
      by_cases h1 : s = 0 ∨ text[s - 1]?.getD 0 = 10
      · by_cases h3 : text[s]?.getD 0 = 46
        · rw [if_pos ⟨h1, h3⟩]
          exact ⟨5, by omega, atB_hit h1 hs h3⟩
        · rw [if_neg (fun x => h3 x.2)]
          obtain ⟨seen', e⟩ := atB_no2 (lim := lim) (hd := hd) (first := first) (seen := seen) h1 hs h3
          obtain ⟨n, hn, he⟩ := atB_ends (text := text) (lim := lim) fuel (s + 1) (s + 1) false seen' (by omega) (by omega)
          exact ⟨3 + n, by omega, Ends.after (e ▸ he)⟩
      · rw [if_neg (fun x => h1 x.1)]
        obtain ⟨seen', e⟩ := atB_no1 (lim := lim) (hd := hd) (first := first) (seen := seen) h1 hs
        obtain ⟨n, hn, he⟩ := atB_ends (text := text) (lim := lim) fuel (s + 1) (s + 1) false seen' (by omega) (by omega)
        exact ⟨2 + n, by omega, Ends.after (e ▸ he)⟩
    · rw [if_neg hs]
      have e : s = lim := by omega
      subst e
      by_cases h1 : s = 0 ∨ text[s - 1]?.getD 0 = 10
      · exact ⟨4, by omega, atB_end2 h1⟩
      · exact ⟨3, by omega, atB_end1 h1⟩
theorem searchB {text : Array Nat} {p : Nat} (hp : p ≤ text.size) : ∃ n, n ≤ 5 * (text.size + 1) ∧ Ends (forSearch codeB text 0 p text.size false) n (nextB text text.size (text.size + 1 - p) p) := by
  by_cases h : p < text.size
  · obtain ⟨n, hn, he⟩ := atB_ends (text := text) (lim := text.size) (text.size + 1 - p) p p true (({} : Sre.Seen).add 14) (by omega) hp
    refine ⟨n, by omega, ?_⟩
    have e : forSearch codeB text 0 p text.size false = atB text text.size p p true (({} : Sre.Seen).add 14) := by
      have a1 : ¬ (p > text.size) := by omega
      have a2 : ¬ (text.size - p < 1) := by omega
      show (if (decide (p > text.size) || decide (text.size - p < 1)) = true then _ else atB text text.size p p true (({} : Sre.Seen).add 14)) = _
      rw [decide_eq_false a1, decide_eq_false a2]
      rfl
    rw [e]; exact he
  · have e : p = text.size := by omega
    subst e
    refine ⟨1, by omega, ?_⟩
    have e1 : nextB text text.size (text.size + 1 - text.size) text.size = none := by
      rw [show text.size + 1 - text.size = 1 by omega]
      simp [nextB]
    rw [e1]
    have e2 : forSearch codeB text 0 text.size text.size false = stopM codeB 5 text text.size text.size := by
      show (if (decide (text.size > text.size) || decide (text.size - text.size < 1)) = true then stopM codeB 5 text text.size text.size else _) = _
      rw [decide_eq_false (Nat.lt_irrefl _), decide_eq_true (show text.size - text.size < 1 by omega)]
      rfl
    rw [e2]
    rfl
end Mine
end

-- R2
section
open PySem PySem.W
set_option linter.unusedVariables false
set_option linter.unusedSimpArgs false
set_option maxRecDepth 100000
namespace Mine
open Sre

noncomputable def codeS : Array Nat := #[14, 9, 4, 1, 2, 16, 10, 16, 13, 0, 7, 7, 16, 13, 16, 10, 15, 18, 5, 16, 10, 15, 13, 11, 16, 13, 5, 5, 0, 16, 10, 1, 15, 2, 0, 1]
noncomputable def atS (text : Array Nat) (lim s : Nat) (hd : Nat) (first : Bool) (seen : Sre.Seen) : M :=
  { code := codeS, text, lim, start := s, lastStart := lim, pc := 10, pos := s, handed := hd, outermost := first, marks := #[],
    frames := [{ wait := .nextStart, pc := 10, pos := s, outermost := first }], weight := 1, seen }

noncomputable def f0 (s : Nat) (first : Bool) : Sre.Frame := { wait := .nextStart, pc := 10, pos := s, outermost := first }
noncomputable def f1 (s pc : Nat) (first : Bool) : Sre.Frame := { wait := .nextBranch, pc, pos := s, outermost := first }
noncomputable def f2 (s pc : Nat) (first : Bool) : Sre.Frame := { wait := .lookNot, pc, pos := s, outermost := first }
/- the machine on its way -/
noncomputable def stS (text : Array Nat) (lim s : Nat) (seen : Sre.Seen) (pc pos handed : Nat) (out : Bool) (frames : List Sre.Frame) (weight : Nat) (answer : Option Bool) : M :=
  { code := codeS, text, lim, start := s, lastStart := lim, pc, pos, handed, outermost := out, marks := #[], frames, weight, answer, seen }
section
variable {text : Array Nat} {lim s : Nat} {seen : Sre.Seen} {pos handed : Nat} {out first : Bool} {frames : List Sre.Frame} {weight n : Nat} {r : Option (Nat × Nat)}
theorem lit_yes (pc : Nat) (h2 : pc < 36) (h3 : ops[codeS.getD pc 0]? = some .LITERAL) (hl : pos < lim) (hc : text.getD pos 0 = codeS.getD (pc + 1) 0)
    (h : Ends (stS text lim s (seen.add (codeS.getD pc 0)) (pc + 2) (pos + 1) handed out frames weight none) n r) : Ends (stS text lim s seen pc pos handed out frames weight none) (n + 1) r := by
  refine Ends.step rfl ?_ h
  unfold M.step
  show (if pc < 36 then M.exec _ else _) = _
  rw [if_pos h2]
  unfold M.exec
  rw [show ops[M.word (stS text lim s seen pc pos handed out frames weight none) 0]? = some .LITERAL from h3]
  show (if pos ≥ lim then _ else _) = _
  rw [if_neg (by omega)]
  have e : accepts codeS pc (text.getD pos 0) (seen.add (codeS.getD pc 0)) = .ok (true, seen.add (codeS.getD pc 0)) := by
    unfold accepts
    rw [h3, hc]
    simp
  have e2 : itemWidth codeS pc = 2 := by unfold itemWidth; rw [h3]
  show (match accepts codeS pc (text.getD pos 0) (seen.add (codeS.getD pc 0)) with | .error why => _ | .ok (false, seen) => _ | .ok (true, seen) => ({ stS text lim s seen pc pos handed out frames weight none with pc := pc + itemWidth codeS pc, pos := pos + 1 } : M)) = _
  rw [e, e2]
  rfl
theorem lit_no (pc : Nat) (h2 : pc < 36) (h3 : ops[codeS.getD pc 0]? = some .LITERAL) (hc : pos < lim → ¬ text.getD pos 0 = codeS.getD (pc + 1) 0)
    (h : Ends (stS text lim s (seen.add (codeS.getD pc 0)) pc pos handed out frames weight (some false)) n r) : Ends (stS text lim s seen pc pos handed out frames weight none) (n + 1) r := by
  refine Ends.step rfl ?_ h
  unfold M.step
  show (if pc < 36 then M.exec _ else _) = _
  rw [if_pos h2]
  unfold M.exec
  rw [show ops[M.word (stS text lim s seen pc pos handed out frames weight none) 0]? = some .LITERAL from h3]
  show (if pos ≥ lim then _ else _) = _
  by_cases hl : pos < lim
  · rw [if_neg (by omega)]
    have e : accepts codeS pc (text.getD pos 0) (seen.add (codeS.getD pc 0)) = .ok (false, seen.add (codeS.getD pc 0)) := by
      unfold accepts
      rw [h3]
      simp only [beq_eq_false_iff_ne.mpr (hc hl)]
    show (match accepts codeS pc (text.getD pos 0) (seen.add (codeS.getD pc 0)) with | .error why => _ | .ok (false, seen) => M.say ({ stS text lim s seen pc pos handed out frames weight none with seen := seen } : M) false | .ok (true, seen) => _) = _
    rw [e]
    rfl
  · rw [if_pos (by omega)]
    rfl
theorem fin2 (pc w : Nat) : Ends (stS text lim s seen 35 pos handed out [f1 s pc first, f0 s first] w none) 4 (some (s, pos)) := by
  cases out <;> exact ⟨rfl, rfl, rfl⟩
theorem branch0 {hd : Nat} (h : Ends (stS text lim s (seen.add 7) 12 s s first [f1 s 11 first, f0 s first] 2 none) n r) : Ends (atS text lim s hd first seen) (n + 1) r := Ends.step rfl rfl h
theorem jump (pc to : Nat) (he : ∀ seen : Sre.Seen, M.step (stS text lim s seen pc pos handed out frames weight none) = stS text lim s (seen.add 15) to pos handed out frames weight none)
    (h : Ends (stS text lim s (seen.add 15) to pos handed out frames weight none) n r) : Ends (stS text lim s seen pc pos handed out frames weight none) (n + 1) r := Ends.step rfl (he seen) h
theorem next1 {pc : Nat} (h : Ends (stS text lim s seen 19 s s first [f1 s 18 first, f0 s first] 2 none) n r) : Ends (stS text lim s seen pc pos handed out [f1 s 11 first, f0 s first] 2 (some false)) (n + 1) r := Ends.step rfl rfl h
theorem next2 {pc : Nat} (h : Ends (stS text lim s seen 24 s s first [f1 s 23 first, f0 s first] 2 none) n r) : Ends (stS text lim s seen pc pos handed out [f1 s 18 first, f0 s first] 2 (some false)) (n + 1) r := Ends.step rfl rfl h
end
/- LF -/
theorem atS_lf {text : Array Nat} {lim s hd : Nat} {first : Bool} {seen : Sre.Seen} (h2 : s < lim) (h3 : text[s]?.getD 0 = 10) : Ends (atS text lim s hd first seen) 9 (some (s, s + 1)) := by
  have g3 : text.getD s 0 = 10 := by simpa using h3
  refine branch0 (lit_no 12 (by decide) rfl (fun _ => by rw [g3]; decide) (next1 (lit_yes 19 (by decide) rfl h2 g3 (jump 21 35 (fun _ => rfl) (fin2 18 2)))))
/- CR LF -/
theorem atS_crlf {text : Array Nat} {lim s hd : Nat} {first : Bool} {seen : Sre.Seen} (h2 : s + 1 < lim) (h3 : text[s]?.getD 0 = 13) (h4 : text[s + 1]?.getD 0 = 10) : Ends (atS text lim s hd first seen) 8 (some (s, s + 2)) := by
  have g3 : text.getD s 0 = 13 := by simpa using h3
  have g4 : text.getD (s + 1) 0 = 10 := by simpa using h4
  exact branch0 (lit_yes 12 (by decide) rfl (by omega) g3 (lit_yes 14 (by decide) rfl h2 g4 (jump 16 35 (fun _ => rfl) (fin2 11 2))))
/- CR, no LF behind -/
theorem atS_cr {text : Array Nat} {lim s hd : Nat} {first : Bool} {seen : Sre.Seen} (h2 : s < lim) (h3 : text[s]?.getD 0 = 13) (h4 : s + 1 < lim → ¬ text[s + 1]?.getD 0 = 10) : Ends (atS text lim s hd first seen) 15 (some (s, s + 1)) := by
  have g3 : text.getD s 0 = 13 := by simpa using h3
  have g4 : s + 1 < lim → ¬ text.getD (s + 1) 0 = 10 := fun h => by simpa using h4 h
  refine branch0 (lit_yes 12 (by decide) rfl h2 g3 (lit_no 14 (by decide) rfl g4 (next1 (lit_no 19 (by decide) rfl (fun _ => by rw [g3]; decide) (next2 (lit_yes 24 (by decide) rfl h2 g3 ?_))))))
  refine Ends.step (m' := stS text lim s (((((((seen.add 7).add 16).add 16).add 16).add 16)).add 5) 29 (s + 1) (s + 1) false [f2 (s + 1) 26 first, f1 s 23 first, f0 s first] 3 none) rfl rfl ?_
  refine lit_no 29 (by decide) rfl g4 ?_
  refine Ends.step (m' := stS text lim s ((((((((seen.add 7).add 16).add 16).add 16).add 16)).add 5).add 16) 32 (s + 1) (s + 1) first [f1 s 23 first, f0 s first] 2 none) rfl rfl ?_
  exact jump 32 35 (fun _ => rfl) (fin2 23 2)

theorem inSetS (c : Nat) (seen : Sre.Seen) : ∃ seen', inSet codeS c 36 5 true seen = .ok (c == 10 || c == 13, seen') := by
  have e : inSet codeS c 36 5 true seen = (if (c == 10) = true then .ok (true, seen.add 16) else if (c == 13) = true then .ok (true, (seen.add 16).add 16) else .ok (false, ((seen.add 16).add 16).add 0)) := rfl
  rw [e]
  cases c == 10
  · cases c == 13 <;> exact ⟨_, rfl⟩
  · exact ⟨_, rfl⟩

/- where the next line end's first sign stands -/
noncomputable def signS (text : Array Nat) (lim : Nat) : (fuel s : Nat) → Option Nat
  | 0, _ => none
  | fuel + 1, s => if s < lim then (if text[s]?.getD 0 = 10 ∨ text[s]?.getD 0 = 13 then some s else signS text lim fuel (s + 1)) else none
noncomputable def nextS (text : Array Nat) (lim fuel s : Nat) : Option (Nat × Nat) := (signS text lim fuel s).map fun b => (b, if text[b]?.getD 0 = 13 ∧ b + 1 < lim ∧ text[b + 1]?.getD 0 = 10 then b + 2 else b + 1)

theorem admittedS {m : M} {text : Array Nat} {lim : Nat} (hc : m.code = codeS) (ht : m.text = text) (hl : m.lim = lim) : ∀ (fuel s : Nat) (seen : Sre.Seen), ∃ seen', M.admitted m fuel s seen = .ok (signS text lim fuel s, seen')
  | 0, s, seen => ⟨seen, rfl⟩
  | fuel + 1, s, seen => by
    unfold M.admitted signS
    rw [hc, ht, hl]
    by_cases hs : s < lim
    · rw [if_neg (by omega), if_pos hs]
      obtain ⟨seen', e⟩ := inSetS (text.getD s 0) seen
      have e0 : codeS.size = 36 := rfl
      rw [e0, e]
      have e1 : text.getD s 0 = text[s]?.getD 0 := by simp
      rw [e1]
      by_cases h : text[s]?.getD 0 = 10 ∨ text[s]?.getD 0 = 13
      · have hb : (text[s]?.getD 0 == 10 || text[s]?.getD 0 == 13) = true := by simpa using h
        rw [hb, if_pos h]
        exact ⟨_, rfl⟩
      · have hb : (text[s]?.getD 0 == 10 || text[s]?.getD 0 == 13) = false := by
          rw [Bool.eq_false_iff]; intro x; exact h (by simpa using x)
        rw [hb, if_neg h]
        exact admittedS hc ht hl fuel (s + 1) _
    · rw [if_pos (by omega), if_neg hs]
      exact ⟨_, rfl⟩

theorem signS_some {text : Array Nat} {lim : Nat} : ∀ {fuel s b : Nat}, signS text lim fuel s = some b → s ≤ b ∧ b < lim ∧ (text[b]?.getD 0 = 10 ∨ text[b]?.getD 0 = 13)
  | 0, _, _, h => by cases h
  | fuel + 1, s, b, h => by
    unfold signS at h
    by_cases hs : s < lim
    · rw [if_pos hs] at h
      by_cases hh : text[s]?.getD 0 = 10 ∨ text[s]?.getD 0 = 13
      · rw [if_pos hh] at h
        cases h
        exact ⟨Nat.le_refl _, hs, hh⟩
      · rw [if_neg hh] at h
        obtain ⟨a, b, c⟩ := signS_some h
        exact ⟨by omega, b, c⟩
    · rw [if_neg hs] at h; cases h

theorem atS_ends {text : Array Nat} {lim s hd : Nat} {first : Bool} {seen : Sre.Seen} (h2 : s < lim) (h3 : text[s]?.getD 0 = 10 ∨ text[s]?.getD 0 = 13) :
    ∃ n, n ≤ 22 ∧ Ends (atS text lim s hd first seen) n (some (s, if text[s]?.getD 0 = 13 ∧ s + 1 < lim ∧ text[s + 1]?.getD 0 = 10 then s + 2 else s + 1)) := by
  rcases h3 with h | h
  · rw [if_neg (fun x => by rw [h] at x; exact absurd x.1 (by decide))]
    exact ⟨9, by omega, atS_lf h2 h⟩
  · by_cases h4 : s + 1 < lim ∧ text[s + 1]?.getD 0 = 10
    · rw [if_pos ⟨h, h4⟩]
      exact ⟨8, by omega, atS_crlf h4.1 h h4.2⟩
    · rw [if_neg (fun x => h4 x.2)]
      exact ⟨15, by omega, atS_cr h2 h fun x y => h4 ⟨x, y⟩⟩

theorem searchS {text : Array Nat} {p : Nat} (hp : p ≤ text.size) : ∃ n, n ≤ 22 ∧ Ends (forSearch codeS text 0 p text.size false) n (nextS text text.size (text.size + 1 - p) p) := by
  by_cases h : p < text.size
  · have a1 : ¬ (p > text.size) := by omega
    have a2 : ¬ (text.size - p < 1) := by omega
    obtain ⟨seen', e⟩ := admittedS (m := { code := codeS, text, lim := text.size, start := p, lastStart := text.size, pc := 10, pos := p, handed := p, marks := #[], seen := ({} : Sre.Seen).add 14 }) rfl rfl rfl (text.size + 1 - p) p (({} : Sre.Seen).add 14)
    have e1 : forSearch codeS text 0 p text.size false = M.attemptFrom { code := codeS, text, lim := text.size, start := p, lastStart := text.size, pc := 10, pos := p, handed := p, marks := #[], seen := ({} : Sre.Seen).add 14 } p true := by
      show (if (decide (p > text.size) || decide (text.size - p < 1)) = true then _ else M.attemptFrom { code := codeS, text, lim := text.size, start := p, lastStart := text.size, pc := 10, pos := p, handed := p, marks := #[], seen := ({} : Sre.Seen).add 14 } p true) = _
      rw [decide_eq_false a1, decide_eq_false a2]
      rfl
    rw [e1]
    unfold M.attemptFrom
    have hf : (M.hasFirstSet { code := codeS, text, lim := text.size, start := p, lastStart := text.size, pc := 10, pos := p, handed := p, marks := #[], seen := ({} : Sre.Seen).add 14 }) = true := rfl
    rw [hf]
    simp only [Bool.not_true, Bool.false_eq_true, if_false]
    rw [e]
    unfold nextS
    cases hs : signS text text.size (text.size + 1 - p) p with
    | none => exact ⟨1, by omega, rfl⟩
    | some b =>
      obtain ⟨h1, h2, h3⟩ := signS_some hs
      obtain ⟨n, hn, he⟩ := atS_ends (lim := text.size) (hd := b) (first := true) (seen := seen') h2 h3
      exact ⟨n, hn, he⟩
  · have e : p = text.size := by omega
    subst e
    have e1 : nextS text text.size (text.size + 1 - text.size) text.size = none := by
      rw [show text.size + 1 - text.size = 1 by omega]
      simp [nextS, signS]
    rw [e1]
    have e2 : forSearch codeS text 0 text.size text.size false = stopM codeS 10 text text.size text.size := by
      show (if (decide (text.size > text.size) || decide (text.size - text.size < 1)) = true then stopM codeS 10 text text.size text.size else _) = _
      rw [decide_eq_false (Nat.lt_irrefl _), decide_eq_true (show text.size - text.size < 1 by omega)]
      rfl
    exact ⟨1, by omega, by rw [e2]; rfl⟩
end Mine
end

-- R3
section
open PySem PySem.W
set_option linter.unusedVariables false
set_option linter.unusedSimpArgs false
set_option maxRecDepth 100000
namespace Mine
open Builtin

theorem bj_slot : PySem.Slot "bytes" "join" "bytes.join" :=
  .of (owner := "bytes") (n := "join") (by rw [typeLookup_type, builtinLookup_eq_fast]; kernel_rfl) (by decide +kernel) (by decide +kernel) (by decide +kernel)
    (by first | exact .inl (by decide +kernel) | exact .inr (by decide +kernel)) (by rw [isSubtype_type]; kernel_rfl)
theorem bj_entry : entryFor table "bytes.join" = some Builtin.«bytes.join» := entryFor_of_tree (by kernel_rfl)
theorem bj_args (a b : Value) : argsOk "bytes.join" ⟨[a, b], []⟩ := by
  unfold argsOk; rw [signature?_of (id := "bytes.join") (n := ['n', 'i', 'o', 'j']) (o := ['s', 'e', 't', 'y', 'b']) (by kernel_rfl) FB.owner_bytes]; kernel_rfl

theorem take_eq {b : Array UInt8} {t : Tok} {id : String} : Bytes.takeBufferQuiet? id (.bytes b t) 0 = pure (some (b, none)) := by
  have e : Bytes.takeBuffer? id (.bytes b t) 0 = pure (some (b, none)) := by
    unfold Bytes.takeBuffer?
    rw [KBy.special_eq KBy.look_buffer, KBy.own_buffer]
    have e2 : ∀ f, Bytes.buffer? id (.bytes b t) f = pure (some b) := fun f => by
      unfold Bytes.buffer?
      rw [KBy.special_eq KBy.look_buffer, KBy.own_buffer, KBy.own_release]
      kernel_rfl
    simp only [pure_bind]
    rw [e2]
    kernel_rfl
  unfold Bytes.takeBufferQuiet?
  rw [e]
  rfl

/- bytes, one behind the other, as values -/
inductive BytesAre : List Value → List (Array UInt8) → Prop
  | nil : BytesAre [] []
  | cons (b : Array UInt8) (t : Tok) {vs : List Value} {bs : List (Array UInt8)} : BytesAre vs bs → BytesAre (.bytes b t :: vs) (b :: bs)
theorem BytesAre.length : ∀ {vs : List Value} {bs : List (Array UInt8)}, BytesAre vs bs → vs.length = bs.length
  | _, _, .nil => rfl
  | _, _, .cons b t r => by rw [List.length_cons, List.length_cons, r.length]
theorem BytesAre.get : ∀ {vs : List Value} {bs : List (Array UInt8)}, BytesAre vs bs → ∀ {i : Nat} (h : i < vs.length), ∃ t b, vs[i]? = some (.bytes b t) ∧ bs[i]? = some b
  | _, _, .cons b t r, 0, _ => ⟨t, b, by simp, by simp⟩
  | _, _, .cons b t r, i + 1, h => by
    obtain ⟨t', b', h1, h2⟩ := r.get (i := i) (by simpa using h)
    exact ⟨t', b', by simpa using h1, by simpa using h2⟩

section
variable {prog : Program} {w : World} {A : Around} {E : Value → Shared → Prop} {s : Shared}

theorem letGo_bytes {taken : List (Value × Option Value)} (h : ∀ p ∈ taken, ∃ b t, p = (.bytes b t, none)) (keep : List Value) {Q : Unit → Shared → Prop} (hq : Q () s) : wpAny (model prog w) A (Bytes.joinLetGo taken keep) Q E s := by
  induction taken with
  | nil => exact wpAny_pure hq
  | cons p r ih =>
    obtain ⟨b, t, rfl⟩ := h p (List.mem_cons_self ..)
    unfold Bytes.joinLetGo
    refine wpAny_bind (wpAny_letGo ?_)
    exact ih (fun p hp => h p (List.mem_cons_of_mem _ hp))

theorem join_bytes {l : Addr} {sep : Array UInt8} {t : Tok} {vs : List Value} {bs : List (Array UInt8)} {Q : Value → Shared → Prop} (hl : s.heap.IsList l vs.toArray) (hi : BytesAre vs bs) (hne : vs ≠ [])
    (hsz : Bytes.tooLong (bs.toArray.foldl (· + ·.size) (sep.size * (bs.length - 1))) = false) (hfit : (Bytes.joined sep bs).size ≤ sizeLine)
    (hq : ∀ t' k, Q (.bytes (Bytes.joined sep bs) t') { s with toks := k }) : wpAny (model prog w) A (call (.builtin "bytes.join") [.bytes sep t, .ref l]) Q E s := by
  obtain ⟨o, ho, hc, n, hd⟩ := id hl
  refine wpAny_call_entry bj_slot (typeIs_bytes s sep t) bj_entry ?_ (bj_args _ _)
  show wpAny _ _ (Bytes.joinM .bytes _) _ _ s
  unfold Bytes.joinM
  refine wpAny_bind (wpAny_of_eq (a := (Value.bytes sep t, Value.ref l)) rfl ?_)
  dsimp only
  rw [if_pos (by decide)]
  refine wpAny_bind ?_
  unfold Bytes.joinItems
  refine wpAny_bind (wpAny_typeOf hl.typeIs ?_)
  rw [if_pos (by decide)]
  refine wpAny_pure ?_
  refine wpAny_bind (wpAny_seqItems ho hd ?_)
  dsimp only
  rw [if_pos (by decide)]
  cases hi with
  | nil => exact absurd rfl hne
  | cons b1 t1 hr =>
    rename_i vs1 bs1
    cases hr with
    | nil =>
      refine wpAny_bind (wpAny_typeOf (typeIs_bytes s b1 t1) ?_)
      rw [if_pos (by decide)]
      refine wpAny_bind (wpAny_rule (wpAny_pure ⟨_, rfl, ?_⟩))
      have e : Bytes.joined sep [b1] = b1 := by simp [Bytes.joined]
      have := hq t1 s.toks
      rw [e] at this
      exact this
    | cons b2 t2 hr =>
      rename_i vs2 bs2
      refine wpAny_bind ?_
      rw [Std.Legacy.Range.forIn_eq_forIn_range']
      simp only [Std.Legacy.Range.size, Nat.sub_zero, Nat.add_sub_cancel, Nat.div_one, List.size_toArray]
      have hi : BytesAre (Value.bytes b1 t1 :: Value.bytes b2 t2 :: vs2) (b1 :: b2 :: bs2) := .cons _ _ (.cons _ _ hr)
      clear hne hr
      generalize (Value.bytes b1 t1 :: Value.bytes b2 t2 :: vs2) = vs at hi hl hd ⊢
      generalize (b1 :: b2 :: bs2) = bs at hi hsz hfit hq
      refine wpAny_forIn_list _ (fun rest q s' => s' = s ∧ ∃ i, rest = List.range' i (vs.length - i) ∧ i ≤ vs.length ∧ q.1 = (bs.take i).toArray ∧ ∀ p ∈ q.2, ∃ b t, p = (Value.bytes b t, none)) _ ?_ ?_ _ _
        ⟨rfl, 0, by simp, Nat.zero_le _, by simp, fun p hp => by simp at hp⟩
      · rintro j rest q s' ⟨rfl, i, hr, hin, hq1, hq2⟩
        have hlt : i < vs.length := by
          rcases Nat.lt_or_ge i vs.length with h | h
          · exact h
          · rw [Nat.sub_eq_zero_of_le h] at hr; cases hr
        have hr' : j = i ∧ rest = List.range' (i + 1) (vs.length - (i + 1)) := by
          rw [show vs.length - i = (vs.length - (i + 1)) + 1 by omega, List.range'_succ] at hr
          injection hr with h1 h2
          exact ⟨h1, h2⟩
        obtain ⟨rfl, hrest⟩ := hr'
        obtain ⟨tb, b, hv, hb⟩ := hi.get hlt
        have hv' : vs.toArray.getD j Value.none = .bytes b tb := by simp [hv]
        refine wpAny_bind (wpAny_seqItems ho hd ?_)
        dsimp only
        have hh : (Bytes.Kind.bytes == Bytes.Kind.bytearray || q.2.any fun x => x.1.onHeap) = false := by
          rw [Bool.or_eq_false_iff]
          refine ⟨by decide, ?_⟩
          rw [List.any_eq_false]
          intro p hp
          obtain ⟨b, t, rfl⟩ := hq2 p hp
          exact Bool.false_ne_true
        rw [hh]
        simp only [Bool.false_eq_true, if_false]
        rw [hv']
        refine wpAny_bind (wpAny_holding (wpAny_of_eq take_eq ?_))
        dsimp only
        refine wpAny_bind (wpAny_seqItems ho hd ?_)
        dsimp only
        rw [if_neg (by simp)]
        refine wpAny_pure ⟨rfl, j + 1, hrest, hlt, ?_, fun p hp => ?_⟩
        · dsimp only
          rw [hq1, List.take_add_one, hb]
          simp
        · rcases List.mem_append.mp hp with hp | hp
          · exact hq2 p hp
          · rw [List.mem_singleton.mp hp]; exact ⟨b, tb, rfl⟩
      · rintro q s' ⟨rfl, i, hr, hin, hq1, hq2⟩
        have hi' : i = vs.length := by
          rcases Nat.lt_or_ge i vs.length with h | h
          · rw [show vs.length - i = (vs.length - (i + 1)) + 1 by omega, List.range'_succ] at hr; cases hr
          · exact Nat.le_antisymm hin h
        rw [hi', hi.length, List.take_length] at hq1
        have hpay : Bytes.payload (.bytes sep t) = pure sep := rfl
        refine wpAny_bind (wpAny_of_eq hpay ?_)
        rw [hq1]
        refine wpAny_ite_split (fun h => absurd (hsz.symm.trans h) Bool.false_ne_true) (fun _ => ?_)
        refine wpAny_bind (wpAny_mkBytes ?_ hfit)
        refine wpAny_bind (wpAny_holding (wpAny_point ?_))
        refine wpAny_bind (letGo_bytes hq2 _ (wpAny_pure ⟨_, rfl, hq _ _⟩))
end
end Mine
end

-- R4
section
open PySem PySem.W
set_option linter.unusedVariables false
set_option linter.unusedSimpArgs false
set_option maxRecDepth 100000
namespace Mine
open Builtin

section
variable {prog : Program} {w : World} {A : Around} {E : Value → Shared → Prop} {s : Shared}

theorem drive_ok {Q : Sre.M → Shared → Prop} : ∀ (t n : Nat) (m : Sre.M), (Sre.M.runFor n m).outcome.isSome = true → n ≤ 4 * t → 1 ≤ t → Q (Sre.M.runFor n m) s → wpAny (model prog w) A (Re.reDrive t m) Q E s
  | 0, _, _, _, _, h, _ => by omega
  | t + 1, n, m, hs, hn, _, hq => by
    unfold Re.reDrive
    by_cases h4 : (Sre.M.runFor Re.reTurnSteps m).outcome.isSome = true
    · dsimp only
      rw [if_pos h4]
      refine wpAny_pure ?_
      have e : Sre.M.runFor Re.reTurnSteps m = Sre.M.runFor n m := by
        rcases Nat.le_total n Re.reTurnSteps with h | h
        · have h1 := runFor_add (m := m) n (Re.reTurnSteps - n)
          rw [show n + (Re.reTurnSteps - n) = Re.reTurnSteps by omega, runFor_done hs] at h1
          exact h1
        · have h1 := runFor_add (m := m) Re.reTurnSteps (n - Re.reTurnSteps)
          rw [show Re.reTurnSteps + (n - Re.reTurnSteps) = n by omega, runFor_done h4] at h1
          exact h1.symm
      rw [e]; exact hq
    · dsimp only
      rw [if_neg h4]
      have hgt : Re.reTurnSteps < n := by
        rcases Nat.lt_or_ge Re.reTurnSteps n with h | h
        · exact h
        · have h1 := runFor_add (m := m) n (Re.reTurnSteps - n)
          rw [show n + (Re.reTurnSteps - n) = Re.reTurnSteps by omega, runFor_done hs] at h1
          rw [h1] at h4
          exact absurd hs h4
      have h4' : Re.reTurnSteps = 4 := rfl
      have e : Sre.M.runFor n m = Sre.M.runFor (n - Re.reTurnSteps) (Sre.M.runFor Re.reTurnSteps m) := by
        rw [← runFor_add, show Re.reTurnSteps + (n - Re.reTurnSteps) = n by omega]
      refine wpAny_bind (wpAny_rule (drive_ok t (n - Re.reTurnSteps) _ (by rw [← e]; exact hs) (by omega) (by omega) (by rw [← e]; exact hq)))

/- a search, run to its end -/
theorem found_ok {m : Sre.M} {n : Nat} {r : Option (Nat × Nat)} {Q : Option Sre.M → Shared → Prop} (he : Ends m n r) (hn : n ≤ 4 * 2 ^ 64)
    (hq : match r with
      | some (b, e) => ∀ m', m'.start = b → m'.handed = e → Q (some m') s
      | none => Q none s) : wpAny (model prog w) A (Re.reRunToEnd m) Q E s := by
  unfold Re.reRunToEnd
  refine wpAny_bind (drive_ok (2 ^ 64) n m he.isSome hn (by decide) ?_)
  refine wpAny_bind (wpAny_forIn_list _ (fun _ _ s' => s' = s) _ (fun x rest b s' h => ?_) (fun b s' h => ?_) _ _ rfl)
  · subst h
    exact wpAny_ite_split (fun _ => wpAny_bind (wpAny_rule (wpAny_pure rfl))) (fun _ => wpAny_pure rfl)
  · subst h
    cases r with
    | none =>
      unfold Ends at he
      rw [he]
      exact wpAny_pure hq
    | some p =>
      obtain ⟨p1, p2⟩ := p
      unfold Ends at he
      rw [he.1]
      exact wpAny_pure (hq _ he.2.1 he.2.2)

theorem whole_str {h₀ : Heap} {P : Addr} {r : Flt.PatRec} {x : Str} {t : Tok} {Q : Re.ReTarget → Shared → Prop} (hp : Flt.IsPattern h₀ P r) (hkind : r.kind = 0) (hk : ∀ b o, h₀.get? b = some o → s.heap.get? b = some o)
    (hq : Q ⟨.ref P, .str x t, r.code.toArray, x.cps, 0, r.groups, 0, x.cps.size⟩ s) : wpAny (model prog w) A (Re.reWholeTarget (.ref P) (.str x t)) Q E s := by
  obtain ⟨fs, T, ws, n, h1, h2, h3, h4, h5, h6⟩ := hp
  unfold Re.reWholeTarget
  refine wpAny_bind (wpAny_fieldsOf (hk _ _ h1) rfl ?_)
  refine wpAny_bind (wpAny_of_eq (a := (x.cps, 0)) rfl ?_)
  dsimp only
  rw [h4, hkind]
  rw [if_neg (by decide), if_neg (by decide)]
  refine wpAny_bind (wpAny_of_eq (a := ()) rfl ?_)
  rw [h2]
  unfold Re.reRawItems
  refine wpAny_bind (wpAny_bind (wpAny_seqItems (hk _ _ h5) rfl (wpAny_pure (wpAny_pure ?_))))
  rw [h3]
  have e : (Array.map Re.reRawOf ((some ws).getD #[])).map (·.toNat) = r.code.toArray := by
    rw [← h6]; rfl
  rw [e]
  exact hq
theorem whole_bytes {h₀ : Heap} {P : Addr} {r : Flt.PatRec} {x : Array UInt8} {t : Tok} {Q : Re.ReTarget → Shared → Prop} (hp : Flt.IsPattern h₀ P r) (hkind : r.kind = 1) (hk : ∀ b o, h₀.get? b = some o → s.heap.get? b = some o)
    (hq : Q ⟨.ref P, .bytes x t, r.code.toArray, x.map (·.toNat), 1, r.groups, 0, (x.map (·.toNat)).size⟩ s) : wpAny (model prog w) A (Re.reWholeTarget (.ref P) (.bytes x t)) Q E s := by
  obtain ⟨fs, T, ws, n, h1, h2, h3, h4, h5, h6⟩ := hp
  unfold Re.reWholeTarget
  refine wpAny_bind (wpAny_fieldsOf (hk _ _ h1) rfl ?_)
  refine wpAny_bind ?_
  unfold Re.reTextOf
  refine wpAny_bind (wpAny_of_eq (a := none) rfl ?_)
  dsimp only
  refine wpAny_bind (wpAny_of_eq KBy.quiet_eq ?_)
  dsimp only
  refine wpAny_pure ?_
  dsimp only
  rw [h4, hkind]
  rw [if_neg (by decide), if_neg (by decide)]
  refine wpAny_bind ?_
  unfold Re.reNoCollectionInside
  rw [if_pos (by decide)]
  refine wpAny_bind (wpAny_of_eq KBy.isInstance_eq ?_)
  rw [if_neg (by decide)]
  refine wpAny_pure ?_
  rw [h2]
  unfold Re.reRawItems
  refine wpAny_bind (wpAny_bind (wpAny_seqItems (hk _ _ h5) rfl (wpAny_pure (wpAny_pure ?_))))
  rw [h3]
  have e : (Array.map Re.reRawOf ((some ws).getD #[])).map (·.toNat) = r.code.toArray := by
    rw [← h6]; rfl
  rw [e]
  exact hq
end
end Mine
end

-- R5
section
open PySem PySem.W PyProof.Rows
set_option linter.unusedVariables false
set_option linter.unusedSimpArgs false
set_option maxRecDepth 100000
namespace Mine
open Builtin

noncomputable def piecesS (text : Array Nat) (rp : Str) : (fuel p : Nat) → List Str
  | 0, _ => []
  | fuel + 1, p => match nextS text text.size (text.size + 1 - p) p with
    | some (b, e) => (if p < b then [⟨text.extract p b⟩] else []) ++ rp :: piecesS text rp fuel e
    | none => if p < text.size then [⟨text.extract p text.size⟩] else []

theorem nextS_some {text : Array Nat} {lim fuel s b e : Nat} (h : nextS text lim fuel s = some (b, e)) : s ≤ b ∧ b < e ∧ e ≤ lim := by
  unfold nextS at h
  cases hs : signS text lim fuel s with
  | none => rw [hs] at h; cases h
  | some b' =>
    rw [hs] at h
    obtain ⟨h1, h2, _⟩ := signS_some hs
    simp only [Option.map_some, Option.some.injEq, Prod.mk.injEq] at h
    obtain ⟨rfl, rfl⟩ := h
    split
    · rename_i hc
      exact ⟨h1, by omega, by omega⟩
    · exact ⟨h1, by omega, by omega⟩

theorem sum_le {ys : List Str} {c : Nat} (h : ∀ y ∈ ys, y.length ≤ c) : (ys.map (·.length)).sum ≤ ys.length * c := by
  induction ys with
  | nil => simp
  | cons y r ih =>
    rw [List.map_cons, List.sum_cons, List.length_cons, Nat.add_mul, Nat.one_mul]
    have h1 := h y (List.mem_cons_self ..)
    have h2 := ih fun z hz => h z (List.mem_cons_of_mem _ hz)
    omega
theorem strsAre_append : ∀ {vs ws : List Value} {xs ys : List Str}, StrsAre vs xs → StrsAre ws ys → StrsAre (vs ++ ws) (xs ++ ys)
  | _, _, _, _, .nil, h => h
  | _, _, _, _, .cons y t r, h => .cons y t (strsAre_append r h)

section
variable {prog : Program} {w : World} {A : Around} {E : Value → Shared → Prop} {s : Shared}

/- a value pushed to the list of pieces -/
theorem push_piece {h₀ h : Heap} {L : Addr} {ps : List Value} {v : Value} {tk : Tok} {Q : Unit → Shared → Prop} (hp : PlainL h L ps.toArray) (h0 : h₀.get? L = none) (hk : ∀ b o, h₀.get? b = some o → h.get? b = some o) (hsz : ps.length ≤ sizeLine)
    (hq : ∀ h', (∀ b o, h₀.get? b = some o → h'.get? b = some o) → PlainL h' L (ps ++ [v]).toArray → Q () { s with heap := h', toks := tk }) :
    wpAny (model prog w) A (updateSeq L (·.push v)) Q E { s with heap := h, toks := tk } := by
  obtain ⟨o, n, ho, hc, hdn, hd⟩ := id hp
  obtain ⟨n', hd'⟩ := Obj.data_mapSeq hd (·.push v)
  refine wpAny_updateSeq (s := { s with heap := h, toks := tk }) ho hd (hq _ (fun b o' e => ?_) ?_) (by rw [List.size_toArray]; exact hsz) (by rw [Array.size_push, List.size_toArray]; omega)
  · have hb : b ≠ L := fun e' => by subst e'; rw [h0] at e; cases e
    exact (Heap.SameBut.update ..).extBut b o' hb (hk b o' e)
  · refine ⟨_, n', Heap.get?_update_self _ ho (Obj.isFreed_of_seq hd'), (Obj.cls_mapSeq ..).trans hc, ?_, by rw [hd']; simp⟩
    obtain ⟨c, d, dt, sl⟩ := o
    subst hd
    exact hdn

theorem loopS {h₀ : Heap} {P L : Addr} {r : Flt.PatRec} {x rp : Str} {tx tr : Tok} (hp : Flt.IsPattern h₀ P r) (hkind : r.kind = 0) (hcode : r.code.toArray = codeS) (hgroups : r.groups = 0) (hx : x.length ≤ 1000) (hrp : rp.length ≤ 1000) (h0 : h₀.get? L = none) (R : Result → Shared → Prop) :
    ∀ (fuel p : Nat) (ps : List Value) (ys : List Str) (n : Int) (h : Heap) (tk : Tok), x.length + 1 - p ≤ fuel → p ≤ x.length → (∀ b o, h₀.get? b = some o → h.get? b = some o) → PlainL h L ps.toArray → StrsAre ps ys → ys.length ≤ 2 * p → (∀ y ∈ ys, y.length ≤ 1000) →
      (∀ h' t k, (∀ b o, h₀.get? b = some o → h'.get? b = some o) → R (.ok (.ret (.str (Txt.join ⟨#[]⟩ (ys ++ piecesS x.cps rp fuel p)) t))) { s with heap := h', toks := k }) →
      wpAny (model prog w) A.in1 («re.Pattern.sub.loop» ⟨[.ref P, .str x tx, .str rp tr, rawInt 0, rawInt 0, rawInt n, rawInt p, rawInt p, .bool false, .ref L, .bool false], []⟩)
        (fun fin s' => match fin with | .done f => R (.ok f) s' | .again c' => c'.quiet = true ∧ codeAny (model prog w) A c' R s') (fun e s' => R (.error e) s') { s with heap := h, toks := tk }
  | 0, p, _, _, _, _, _, hf, hpx, _, _, _, _, _, _ => by omega
  | fuel + 1, p, ps, ys, n, h, tk, hf, hpx, hk, hL, hys, hlen, hall, hR => by
    have hxs : x.cps.size = x.length := rfl
    have hz : sizeLine = 16777216 := by decide
    show wpAny _ _ (Re.reWholeTarget (.ref P) (.str x tx) >>= _) _ _ _
    refine wpAny_bind (whole_str (s := { s with heap := h, toks := tk }) hp hkind hk ?_)
    rw [hcode, hgroups]
    show wpAny _ _ (Re.reLiteralCannotBeTurned (.str rp tr) >>= _) _ _ _
    refine wpAny_bind (wpAny_of_eq (a := ()) rfl ?_)
    show wpAny _ _ (Re.reNextFound ⟨.ref P, .str x tx, codeS, x.cps, 0, 0, 0, x.cps.size⟩ ((p : Int)).toNat false >>= _) _ _ _
    rw [Int.toNat_natCast]
    obtain ⟨ns, hns, he⟩ := searchS (text := x.cps) (p := p) hpx
    refine wpAny_bind (found_ok (s := { s with heap := h, toks := tk }) he (by omega) ?_)
    have hpsl : ps.length ≤ sizeLine := by rw [hys.length]; omega
    cases hn : nextS x.cps x.cps.size (x.cps.size + 1 - p) p with
    | some be =>
      obtain ⟨b, e⟩ := be
      obtain ⟨hb1, hb2, hb3⟩ := nextS_some hn
      dsimp only
      intro m' hm1 hm2
      subst hm1 hm2
      have hmust : (m'.handed == m'.start) = false := beq_eq_false_iff_ne.mpr (Nat.ne_of_gt hb2)
      rw [hmust]
      refine wpAny_ite_split (fun hlt => ?_) (fun hge => ?_)
      · have hpl : (⟨x.cps.extract p m'.start⟩ : Str).length ≤ x.length := by
          show (x.cps.extract p m'.start).size ≤ x.cps.size
          rw [Array.size_extract]; omega
        refine wpAny_bind ?_
        unfold Re.reSlice
        rw [if_pos (by decide)]
        refine wpAny_mkStr (s := { s with heap := h, toks := tk }) ?_ (by omega)
        refine wpAny_bind (push_piece (s := s) hL h0 hk hpsl fun h1 hk1 hL1 => ?_)
        rw [if_pos (by decide)]
        refine wpAny_bind (wpAny_pure ?_)
        rw [if_pos (by rfl)]
        refine wpAny_bind (push_piece (s := s) hL1 h0 hk1 (by rw [List.length_append, List.length_singleton, hys.length]; omega) fun h2 hk2 hL2 => ?_)
        refine wpAny_pure ⟨plainId_quiet re_loop_plain _, codeAny_builtin re_loop_entry ?_⟩
        rw [Around.under_plainId re_loop_plain _]
        refine loopS hp hkind hcode hgroups hx hrp h0 R fuel m'.handed _ (ys ++ [⟨x.cps.extract p m'.start⟩] ++ [rp]) (n + 1) h2 _ (by omega) hb3 hk2 hL2 (strsAre_append (strsAre_append hys (.cons _ _ .nil)) (.cons _ _ .nil)) (by simp only [List.length_append, List.length_singleton]; omega)
          (fun y hy => ?_) fun h' t k hk' => ?_
        · rcases List.mem_append.mp hy with hy | hy
          · rcases List.mem_append.mp hy with hy | hy
            · exact hall y hy
            · rw [List.mem_singleton.mp hy]; omega
          · rw [List.mem_singleton.mp hy]; exact hrp
        · have := hR h' t k hk'
          unfold piecesS at this
          rw [hn] at this
          simp only [hlt, if_true] at this
          simpa using this
      · rw [if_pos (by decide)]
        refine wpAny_bind (wpAny_pure ?_)
        rw [if_pos (by rfl)]
        refine wpAny_bind (push_piece (s := s) hL h0 hk hpsl fun h2 hk2 hL2 => ?_)
        refine wpAny_pure ⟨plainId_quiet re_loop_plain _, codeAny_builtin re_loop_entry ?_⟩
        rw [Around.under_plainId re_loop_plain _]
        refine loopS hp hkind hcode hgroups hx hrp h0 R fuel m'.handed _ (ys ++ [rp]) (n + 1) h2 _ (by omega) hb3 hk2 hL2 (strsAre_append hys (.cons _ _ .nil)) (by simp only [List.length_append, List.length_singleton]; omega)
          (fun y hy => ?_) fun h' t k hk' => ?_
        · rcases List.mem_append.mp hy with hy | hy
          · exact hall y hy
          · rw [List.mem_singleton.mp hy]; exact hrp
        · have := hR h' t k hk'
          unfold piecesS at this
          rw [hn] at this
          simp only [hge, if_false] at this
          simpa using this
    | none =>
      dsimp only
      have hsum : ∀ zs : List Str, zs.length ≤ 2 * p + 1 → (∀ y ∈ zs, y.length ≤ 1000) → (zs.map (·.length)).sum + zs.length * (⟨#[]⟩ : Str).length ≤ 16777216 := fun zs h1 h2 => by
        have h3 := sum_le h2
        have h4 : (⟨#[]⟩ : Str).length = 0 := rfl
        rw [h4, Nat.mul_zero, Nat.add_zero]
        have h5 : zs.length * 1000 ≤ 2001 * 1000 := Nat.mul_le_mul_right _ (by omega)
        omega
      have hx0 : (⟨x.cps.extract 0 0⟩ : Str) = ⟨#[]⟩ := by simp
      have hj0 : Txt.join ⟨#[]⟩ ([] : List Str) = ⟨#[]⟩ := rfl
      have hfin := hR
      unfold piecesS at hfin
      rw [hn] at hfin
      refine wpAny_ite_split (fun hlt => ?_) (fun hge => ?_)
      · have hpl : (⟨x.cps.extract p x.cps.size⟩ : Str).length ≤ x.length := by
          show (x.cps.extract p x.cps.size).size ≤ x.cps.size
          rw [Array.size_extract]; omega
        simp only [hlt, if_true] at hfin
        refine wpAny_bind ?_
        unfold Re.reSlice
        rw [if_pos (by decide)]
        refine wpAny_mkStr (s := { s with heap := h, toks := tk }) ?_ (by omega)
        refine wpAny_bind (push_piece (s := s) hL h0 hk hpsl fun h1 hk1 hL1 => ?_)
        have hys1 := strsAre_append hys (.cons (⟨x.cps.extract p x.cps.size⟩ : Str) tk .nil)
        refine wpAny_bind ?_
        rw [if_pos (by decide)]
        refine wpAny_mkStr ?_ (by show (x.cps.extract 0 0).size ≤ sizeLine; rw [Array.size_extract]; omega)
        rw [hx0]
        obtain ⟨oL, nL, hoL, hcL, hdnL, hdL⟩ := id hL1
        refine wpAny_bind (wpAny_seqItems hoL hdL ?_)
        refine wpAny_ite_split (fun hem => ?_) (fun hem => ?_)
        · simp at hem
        · refine wpAny_bind ?_
          rw [if_pos (by decide)]
          refine join_list (x := ⟨#[]⟩) hL1.isList hys1 (hsum _ (by simp only [List.length_append, List.length_singleton]; omega) fun y hy => ?_) fun t' k => ?_
          · rcases List.mem_append.mp hy with hy | hy
            · exact hall y hy
            · rw [List.mem_singleton.mp hy]; omega
          · rw [if_neg (by decide)]
            exact wpAny_pure (hfin _ _ _ hk1)
      · simp only [hge, if_false, List.append_nil] at hfin
        refine wpAny_bind ?_
        unfold Re.reSlice
        rw [if_pos (by decide)]
        refine wpAny_mkStr ?_ (by show (x.cps.extract 0 0).size ≤ sizeLine; rw [Array.size_extract]; omega)
        rw [hx0]
        obtain ⟨oL, nL, hoL, hcL, hdnL, hdL⟩ := id hL
        refine wpAny_bind (wpAny_seqItems hoL hdL ?_)
        refine wpAny_ite_split (fun hem => ?_) (fun hem => ?_)
        · have hps : ps = [] := by simpa using hem
          subst hps
          cases hys
          refine wpAny_bind (wpAny_pure ?_)
          rw [if_neg (by decide)]
          rw [hj0] at hfin
          exact wpAny_pure (hfin _ _ _ hk)
        · refine wpAny_bind ?_
          rw [if_pos (by decide)]
          refine join_list (x := ⟨#[]⟩) hL.isList hys (hsum _ (by omega) hall) fun t' k => ?_
          rw [if_neg (by decide)]
          exact wpAny_pure (hfin _ _ _ hk)
end
end Mine
end

-- R6
section
open PySem PySem.W PyProof.Rows
set_option linter.unusedVariables false
set_option linter.unusedSimpArgs false
set_option maxRecDepth 100000
namespace Mine
open Builtin

noncomputable def sliceB (x : Array UInt8) (p e : Nat) : Array UInt8 := ((x.map (·.toNat)).extract p e).map (·.toUInt8)
theorem sliceB_is (x : Array UInt8) (p e : Nat) : sliceB x p e = x.extract p e := by
  unfold sliceB
  apply Array.ext
  · simp
  · intro i h1 h2
    simp
noncomputable def piecesB (x : Array UInt8) (rp : Array UInt8) : (fuel p : Nat) → List (Array UInt8)
  | 0, _ => []
  | fuel + 1, p => match nextB (x.map (·.toNat)) (x.map (·.toNat)).size ((x.map (·.toNat)).size + 1 - p) p with
    | some (b, e) => (if p < b then [sliceB x p b] else []) ++ rp :: piecesB x rp fuel e
    | none => if p < (x.map (·.toNat)).size then [sliceB x p (x.map (·.toNat)).size] else []

theorem nextB_some {text : Array Nat} {lim : Nat} : ∀ {fuel s b e : Nat}, nextB text lim fuel s = some (b, e) → s ≤ b ∧ b < e ∧ e ≤ lim
  | 0, _, _, _, h => by cases h
  | fuel + 1, s, b, e, h => by
    unfold nextB at h
    by_cases hs : s < lim
    · rw [if_pos hs] at h
      by_cases hh : (s = 0 ∨ text[s - 1]?.getD 0 = 10) ∧ text[s]?.getD 0 = 46
      · rw [if_pos hh] at h
        cases h
        exact ⟨Nat.le_refl _, by omega, by omega⟩
      · rw [if_neg hh] at h
        obtain ⟨a, b, c⟩ := nextB_some h
        exact ⟨by omega, b, c⟩
    · rw [if_neg hs] at h; cases h

theorem sum_leB {ys : List (Array UInt8)} {c : Nat} (h : ∀ y ∈ ys, y.size ≤ c) : (ys.map (·.size)).sum ≤ ys.length * c := by
  induction ys with
  | nil => simp
  | cons y r ih =>
    rw [List.map_cons, List.sum_cons, List.length_cons, Nat.add_mul, Nat.one_mul]
    have h1 := h y (List.mem_cons_self ..)
    have h2 := ih fun z hz => h z (List.mem_cons_of_mem _ hz)
    omega
theorem bytesAre_append : ∀ {vs ws : List Value} {xs ys : List (Array UInt8)}, BytesAre vs xs → BytesAre ws ys → BytesAre (vs ++ ws) (xs ++ ys)
  | _, _, _, _, .nil, h => h
  | _, _, _, _, .cons y t r, h => .cons y t (bytesAre_append r h)
theorem lit_bytes {b : Array UInt8} {t : Tok} : Re.reLiteralCannotBeTurned (.bytes b t) = pure () := by
  unfold Re.reLiteralCannotBeTurned
  rw [show asStr? (.bytes b t) = pure none from rfl]
  simp only [pure_bind]
  rw [KBy.isInstance_eq]
  rfl
theorem joined_go : ∀ (bs : List (Array UInt8)) (k : Nat) (acc : Array UInt8), ((bs.zipIdx k).foldl (fun out (p : Array UInt8 × Nat) => (if p.2 > 0 then out ++ #[] else out) ++ p.1) acc).toList = acc.toList ++ (bs.map (·.toList)).flatten
  | [], k, acc => by simp
  | b :: r, k, acc => by
    rw [List.zipIdx_cons, List.foldl_cons, joined_go r (k + 1)]
    by_cases h : k > 0 <;> simp [h]
theorem joined_list (bs : List (Array UInt8)) : (Bytes.joined #[] bs).toList = (bs.map (·.toList)).flatten := by
  have := joined_go bs 0 #[]
  simpa [Bytes.joined] using this
theorem flatten_size (bs : List (Array UInt8)) : ((bs.map (·.toList)).flatten).length = (bs.map (·.size)).sum := by
  induction bs with
  | nil => rfl
  | cons b r ih => rw [List.map_cons, List.flatten_cons, List.length_append, ih, List.map_cons, List.sum_cons, Array.length_toList]
theorem joined_size (bs : List (Array UInt8)) : (Bytes.joined #[] bs).size = (bs.map (·.size)).sum := by
  rw [← Array.length_toList, joined_list, flatten_size]
theorem fold_size : ∀ (bs : List (Array UInt8)) (k : Nat), bs.foldl (fun a b => a + b.size) k = k + (bs.map (·.size)).sum
  | [], k => by simp
  | b :: r, k => by rw [List.foldl_cons, fold_size r, List.map_cons, List.sum_cons]; omega

section
variable {prog : Program} {w : World} {A : Around} {E : Value → Shared → Prop} {s : Shared}

theorem join_bytesW {l : Addr} {t : Tok} {vs : List Value} {bs : List (Array UInt8)} {Q : Value → Shared → Prop} (hl : s.heap.IsList l vs.toArray) (hi : BytesAre vs bs) (hne : vs ≠ []) (hsz : (bs.map (·.size)).sum ≤ 16777216)
    (hq : ∀ t' k, Q (.bytes (Bytes.joined #[] bs) t') { s with toks := k }) : wpAny (model prog w) A (call (.builtin "bytes.join") [.bytes #[] t, .ref l]) Q E s := by
  have hz : sizeLine = 16777216 := by decide
  refine join_bytes hl hi hne ?_ (by rw [joined_size]; omega) hq
  unfold Bytes.tooLong
  rw [List.foldl_toArray, fold_size]
  have h0 : (#[] : Array UInt8).size = 0 := rfl
  rw [h0, Nat.zero_mul, Nat.zero_add]
  exact decide_eq_false (by omega)

theorem loopB {h₀ : Heap} {P L : Addr} {r : Flt.PatRec} {x rp : Array UInt8} {tx tr : Tok} (hp : Flt.IsPattern h₀ P r) (hkind : r.kind = 1) (hcode : r.code.toArray = codeB) (hgroups : r.groups = 0) (hx : x.size ≤ 1000) (hrp : rp.size ≤ 1000) (h0 : h₀.get? L = none) (R : Result → Shared → Prop) :
    ∀ (fuel p : Nat) (ps : List Value) (ys : List (Array UInt8)) (n : Int) (h : Heap) (tk : Tok), x.size + 1 - p ≤ fuel → p ≤ x.size → (∀ b o, h₀.get? b = some o → h.get? b = some o) → PlainL h L ps.toArray → BytesAre ps ys → ys.length ≤ 2 * p → (∀ y ∈ ys, y.size ≤ 1000) →
      (∀ h' t k, (∀ b o, h₀.get? b = some o → h'.get? b = some o) → R (.ok (.ret (.bytes (Bytes.joined #[] (ys ++ piecesB x rp fuel p)) t))) { s with heap := h', toks := k }) →
      wpAny (model prog w) A.in1 («re.Pattern.sub.loop» ⟨[.ref P, .bytes x tx, .bytes rp tr, rawInt 0, rawInt 0, rawInt n, rawInt p, rawInt p, .bool false, .ref L, .bool false], []⟩)
        (fun fin s' => match fin with | .done f => R (.ok f) s' | .again c' => c'.quiet = true ∧ codeAny (model prog w) A c' R s') (fun e s' => R (.error e) s') { s with heap := h, toks := tk }
  | 0, p, _, _, _, _, _, hf, hpx, _, _, _, _, _, _ => by omega
  | fuel + 1, p, ps, ys, n, h, tk, hf, hpx, hk, hL, hys, hlen, hall, hR => by
    have hxs : (x.map (·.toNat)).size = x.size := Array.size_map ..
    have hz : sizeLine = 16777216 := by decide
    show wpAny _ _ (Re.reWholeTarget (.ref P) (.bytes x tx) >>= _) _ _ _
    refine wpAny_bind (whole_bytes (s := { s with heap := h, toks := tk }) hp hkind hk ?_)
    rw [hcode, hgroups]
    generalize hT : Array.map (fun (c : UInt8) => c.toNat) x = T
    show wpAny _ _ (Re.reLiteralCannotBeTurned (.bytes rp tr) >>= _) _ _ _
    refine wpAny_bind (wpAny_of_eq (a := ()) lit_bytes ?_)
    show wpAny _ _ (Re.reNextFound ⟨.ref P, .bytes x tx, codeB, T, 1, 0, 0, T.size⟩ ((p : Int)).toNat false >>= _) _ _ _
    rw [Int.toNat_natCast]
    subst hT
    obtain ⟨ns, hns, he⟩ := searchB (text := x.map (·.toNat)) (p := p) (by rw [hxs]; exact hpx)
    refine wpAny_bind (found_ok (s := { s with heap := h, toks := tk }) he (by omega) ?_)
    have hpsl : ps.length ≤ sizeLine := by rw [hys.length]; omega
    cases hn : nextB (x.map (·.toNat)) (x.map (·.toNat)).size ((x.map (·.toNat)).size + 1 - p) p with
    | some be =>
      obtain ⟨b, e⟩ := be
      obtain ⟨hb1, hb2, hb3⟩ := nextB_some hn
      dsimp only
      intro m' hm1 hm2
      subst hm1 hm2
      have hmust : (m'.handed == m'.start) = false := beq_eq_false_iff_ne.mpr (Nat.ne_of_gt hb2)
      rw [hmust]
      refine wpAny_ite_split (fun hlt => ?_) (fun hge => ?_)
      · have hpl : (sliceB x p m'.start).size ≤ x.size := by
          rw [sliceB_is, Array.size_extract]; omega
        refine wpAny_bind ?_
        unfold Re.reSlice
        rw [if_neg (by decide)]
        refine wpAny_mkBytes (s := { s with heap := h, toks := tk }) ?_ (by show (sliceB _ _ _).size ≤ _; omega)
        refine wpAny_bind (push_piece (s := s) hL h0 hk hpsl fun h1 hk1 hL1 => ?_)
        rw [if_pos (by decide)]
        refine wpAny_bind (wpAny_pure ?_)
        rw [if_pos (by rfl)]
        refine wpAny_bind (push_piece (s := s) hL1 h0 hk1 (by rw [List.length_append, List.length_singleton, hys.length]; omega) fun h2 hk2 hL2 => ?_)
        refine wpAny_pure ⟨plainId_quiet re_loop_plain _, codeAny_builtin re_loop_entry ?_⟩
        rw [Around.under_plainId re_loop_plain _]
        refine loopB hp hkind hcode hgroups hx hrp h0 R fuel m'.handed _ (ys ++ [sliceB x p m'.start] ++ [rp]) (n + 1) h2 _ (by omega) (hxs ▸ hb3) hk2 hL2 (bytesAre_append (bytesAre_append hys (.cons _ _ .nil)) (.cons _ _ .nil)) (by simp only [List.length_append, List.length_singleton]; omega)
          (fun y hy => ?_) fun h' t k hk' => ?_
        · rcases List.mem_append.mp hy with hy | hy
          · rcases List.mem_append.mp hy with hy | hy
            · exact hall y hy
            · rw [List.mem_singleton.mp hy]; omega
          · rw [List.mem_singleton.mp hy]; exact hrp
        · have := hR h' t k hk'
          unfold piecesB at this
          rw [hn] at this
          simp only [hlt, if_true] at this
          simpa using this
      · rw [if_pos (by decide)]
        refine wpAny_bind (wpAny_pure ?_)
        rw [if_pos (by rfl)]
        refine wpAny_bind (push_piece (s := s) hL h0 hk hpsl fun h2 hk2 hL2 => ?_)
        refine wpAny_pure ⟨plainId_quiet re_loop_plain _, codeAny_builtin re_loop_entry ?_⟩
        rw [Around.under_plainId re_loop_plain _]
        refine loopB hp hkind hcode hgroups hx hrp h0 R fuel m'.handed _ (ys ++ [rp]) (n + 1) h2 _ (by omega) (hxs ▸ hb3) hk2 hL2 (bytesAre_append hys (.cons _ _ .nil)) (by simp only [List.length_append, List.length_singleton]; omega)
          (fun y hy => ?_) fun h' t k hk' => ?_
        · rcases List.mem_append.mp hy with hy | hy
          · exact hall y hy
          · rw [List.mem_singleton.mp hy]; exact hrp
        · have := hR h' t k hk'
          unfold piecesB at this
          rw [hn] at this
          simp only [hge, if_false] at this
          simpa using this
    | none =>
      dsimp only
      have hsum : ∀ zs : List (Array UInt8), zs.length ≤ 2 * p + 1 → (∀ y ∈ zs, y.size ≤ 1000) → (zs.map (·.size)).sum ≤ 16777216 := fun zs h1 h2 => by
        have h3 := sum_leB h2
        have h5 : zs.length * 1000 ≤ 2001 * 1000 := Nat.mul_le_mul_right _ (by omega)
        omega
      have hx0 : sliceB x 0 0 = #[] := by rw [sliceB_is]; simp
      have hj0 : Bytes.joined #[] ([] : List (Array UInt8)) = #[] := rfl
      have hfin := hR
      unfold piecesB at hfin
      rw [hn] at hfin
      refine wpAny_ite_split (fun hlt => ?_) (fun hge => ?_)
      · have hpl : (sliceB x p (x.map (·.toNat)).size).size ≤ x.size := by
          rw [sliceB_is, Array.size_extract]; omega
        simp only [hlt, if_true] at hfin
        refine wpAny_bind ?_
        unfold Re.reSlice
        rw [if_neg (by decide)]
        refine wpAny_mkBytes (s := { s with heap := h, toks := tk }) ?_ (by show (sliceB _ _ _).size ≤ _; omega)
        refine wpAny_bind (push_piece (s := s) hL h0 hk hpsl fun h1 hk1 hL1 => ?_)
        have hys1 := bytesAre_append hys (.cons (sliceB x p (x.map (·.toNat)).size) tk .nil)
        refine wpAny_bind ?_
        rw [if_neg (by decide)]
        refine wpAny_mkBytes ?_ (by show (sliceB _ _ _).size ≤ _; rw [hx0]; decide)
        show wpAny _ _ _ _ _ _
        have hx0' : Array.map (fun (n : Nat) => n.toUInt8) ((x.map (·.toNat)).extract 0 0) = #[] := hx0
        rw [hx0']
        obtain ⟨oL, nL, hoL, hcL, hdnL, hdL⟩ := id hL1
        refine wpAny_bind (wpAny_seqItems hoL hdL ?_)
        refine wpAny_ite_split (fun hem => ?_) (fun hem => ?_)
        · simp at hem
        · refine wpAny_bind ?_
          rw [if_neg (by decide)]
          refine join_bytesW (s := ⟨_, _, _, _, _⟩) hL1.isList hys1 (by simp) (hsum _ (by simp only [List.length_append, List.length_singleton]; omega) fun y hy => ?_) fun t' k => ?_
          · rcases List.mem_append.mp hy with hy | hy
            · exact hall y hy
            · rw [List.mem_singleton.mp hy]; omega
          · rw [if_neg (by decide)]
            exact wpAny_pure (hfin _ _ _ hk1)
      · simp only [hge, if_false, List.append_nil] at hfin
        refine wpAny_bind ?_
        unfold Re.reSlice
        rw [if_neg (by decide)]
        refine wpAny_mkBytes ?_ (by show (sliceB _ _ _).size ≤ _; rw [hx0]; decide)
        show wpAny _ _ _ _ _ _
        have hx0' : Array.map (fun (n : Nat) => n.toUInt8) ((x.map (·.toNat)).extract 0 0) = #[] := hx0
        rw [hx0']
        obtain ⟨oL, nL, hoL, hcL, hdnL, hdL⟩ := id hL
        refine wpAny_bind (wpAny_seqItems hoL hdL ?_)
        refine wpAny_ite_split (fun hem => ?_) (fun hem => ?_)
        · have hps : ps = [] := by simpa using hem
          subst hps
          cases hys
          refine wpAny_bind (wpAny_pure ?_)
          rw [if_neg (by decide)]
          rw [hj0] at hfin
          exact wpAny_pure (hfin _ _ _ hk)
        · refine wpAny_bind ?_
          rw [if_neg (by decide)]
          refine join_bytesW (s := ⟨_, _, _, _, _⟩) hL.isList hys (fun e => hem (by rw [e]; rfl)) (hsum _ (by omega) hall) fun t' k => ?_
          rw [if_neg (by decide)]
          exact wpAny_pure (hfin _ _ _ hk)
end
end Mine
end

-- R7
section
open PySem PySem.W PyProof.Rows
set_option linter.unusedVariables false
set_option linter.unusedSimpArgs false
set_option maxRecDepth 100000
namespace Mine
open Builtin

theorem no_call_str : typeLookup (.type "str") "__call__" = pure none := by rw [typeLookup_type, builtinLookup_eq_fast]; kernel_rfl
theorem no_call_bytes : typeLookup (.type "bytes") "__call__" = pure none := by rw [typeLookup_type, builtinLookup_eq_fast]; kernel_rfl

section
variable {prog : Program} {w : World} {A : Around} {E : Value → Shared → Prop} {s : Shared}

theorem call_subS {P : Addr} {r : Flt.PatRec} {x rp : Str} {tx tr : Tok} {Q : Value → Shared → Prop} (hp : Flt.IsPattern s.heap P r) (hkind : r.kind = 0) (hcode : r.code.toArray = codeS) (hgroups : r.groups = 0) (hx : x.length ≤ 1000) (hrp : rp.length ≤ 1000) (h92 : rp.cps.contains 92 = false)
    (hq : ∀ h' t k, (∀ b o, s.heap.get? b = some o → h'.get? b = some o) → Q (.str (Txt.join ⟨#[]⟩ (piecesS x.cps rp (x.length + 1) 0)) t) { s with heap := h', toks := k }) :
    wpAny (model prog w) A (call (.builtin "re.Pattern.sub") [.ref P, .str rp tr, .str x tx]) Q E s := by
  obtain ⟨fs, T, ws, n, h1, _⟩ := id hp
  have hT : s.TypeIs (.ref P) "re.Pattern" := ⟨_, h1, rfl⟩
  refine wpAny_call (codeAny_call_builtin re_slot.plain re_entry (re_slot.check _ _ _ _ _ _ _ _ hT (re_args _ _ _) ?_))
  show wpAny _ _ (Re.reNamed "re.Pattern.sub" "sub" ["repl", "string", "count"] 2 [.str rp tr, .str x tx] [] >>= _) _ _ _
  refine wpAny_bind (wpAny_of_eq (a := [some (.str rp tr), some (.str x tx), none]) rfl ?_)
  dsimp only
  refine wpAny_bind (wpAny_pure ?_)
  refine wpAny_bind (wpAny_specialOf (typeIs_str s rp tr) no_call_str ?_)
  refine wpAny_ite_split (fun h => nomatch h) (fun _ => ?_)
  refine wpAny_bind (wpAny_of_eq (a := some rp) rfl ?_)
  dsimp only
  rw [h92]
  refine wpAny_bind (wpAny_pure ?_)
  refine wpAny_ite_split (fun h => nomatch h) (fun _ => ?_)
  refine wpAny_ite_split (fun _ => ?_) (fun h => absurd rfl h)
  refine wpAny_bind (wpAny_pure ?_)
  refine wpAny_bind (wpAny_holding (whole_str (h₀ := s.heap) hp hkind (fun _ _ e => e) ?_))
  refine wpAny_ite_split (fun h => nomatch h) (fun _ => ?_)
  refine wpAny_bind (wpAny_newObj_type ?_)
  refine wpAny_pure ⟨plainId_quiet re_loop_plain _, codeAny_builtin re_loop_entry ?_⟩
  rw [Around.under_plainId re_loop_plain _]
  have hnone : s.heap.get? s.heap.objs.size = none := by
    cases e : s.heap.get? s.heap.objs.size with
    | none => rfl
    | some o' => exact absurd (Heap.lt_size e) (Nat.lt_irrefl _)
  refine loopS (s := s) (A := A) hp hkind hcode hgroups hx hrp hnone (fun r s' => match r with | .ok (.ret v) => Q v s' | .ok _ => False | .error e => E e s') (x.length + 1) 0 [] [] 0 _ s.toks (by omega) (Nat.zero_le _) (fun b o e => Heap.get?_push_of_some _ e) ⟨_, 0, Heap.get?_push_size _ rfl, rfl, rfl, rfl⟩ .nil (Nat.zero_le _) (fun y hy => by cases hy) fun h' t k hk => ?_
  exact hq h' t k hk

theorem call_subB {P : Addr} {r : Flt.PatRec} {x rp : Array UInt8} {tx tr : Tok} {Q : Value → Shared → Prop} (hp : Flt.IsPattern s.heap P r) (hkind : r.kind = 1) (hcode : r.code.toArray = codeB) (hgroups : r.groups = 0) (hx : x.size ≤ 1000) (hrp : rp.size ≤ 1000) (h92 : rp.contains 92 = false)
    (hq : ∀ h' t k, (∀ b o, s.heap.get? b = some o → h'.get? b = some o) → Q (.bytes (Bytes.joined #[] (piecesB x rp (x.size + 1) 0)) t) { s with heap := h', toks := k }) :
    wpAny (model prog w) A (call (.builtin "re.Pattern.sub") [.ref P, .bytes rp tr, .bytes x tx]) Q E s := by
  obtain ⟨fs, T, ws, n, h1, _⟩ := id hp
  have hT : s.TypeIs (.ref P) "re.Pattern" := ⟨_, h1, rfl⟩
  refine wpAny_call (codeAny_call_builtin re_slot.plain re_entry (re_slot.check _ _ _ _ _ _ _ _ hT (re_args _ _ _) ?_))
  show wpAny _ _ (Re.reNamed "re.Pattern.sub" "sub" ["repl", "string", "count"] 2 [.bytes rp tr, .bytes x tx] [] >>= _) _ _ _
  refine wpAny_bind (wpAny_of_eq (a := [some (.bytes rp tr), some (.bytes x tx), none]) rfl ?_)
  dsimp only
  refine wpAny_bind (wpAny_pure ?_)
  refine wpAny_bind (wpAny_specialOf (typeIs_bytes s rp tr) no_call_bytes ?_)
  refine wpAny_ite_split (fun h => nomatch h) (fun _ => ?_)
  refine wpAny_bind (wpAny_of_eq (a := none) rfl ?_)
  dsimp only
  refine wpAny_bind (wpAny_of_eq KBy.quiet_eq ?_)
  dsimp only
  rw [h92]
  refine wpAny_bind (wpAny_pure ?_)
  refine wpAny_ite_split (fun h => nomatch h) (fun _ => ?_)
  refine wpAny_ite_split (fun _ => ?_) (fun h => absurd rfl h)
  refine wpAny_bind (wpAny_pure ?_)
  refine wpAny_bind (wpAny_holding (whole_bytes (h₀ := s.heap) hp hkind (fun _ _ e => e) ?_))
  refine wpAny_ite_split (fun h => nomatch h) (fun _ => ?_)
  refine wpAny_bind (wpAny_newObj_type ?_)
  refine wpAny_pure ⟨plainId_quiet re_loop_plain _, codeAny_builtin re_loop_entry ?_⟩
  rw [Around.under_plainId re_loop_plain _]
  have hnone : s.heap.get? s.heap.objs.size = none := by
    cases e : s.heap.get? s.heap.objs.size with
    | none => rfl
    | some o' => exact absurd (Heap.lt_size e) (Nat.lt_irrefl _)
  refine loopB (s := s) (A := A) hp hkind hcode hgroups hx hrp hnone (fun r s' => match r with | .ok (.ret v) => Q v s' | .ok _ => False | .error e => E e s') (x.size + 1) 0 [] [] 0 _ s.toks (by omega) (Nat.zero_le _) (fun b o e => Heap.get?_push_of_some _ e) ⟨_, 0, Heap.get?_push_size _ rfl, rfl, rfl, rfl⟩ .nil (Nat.zero_le _) (fun y hy => by cases hy) fun h' t k hk => ?_
  exact hq h' t k hk
end

section
variable {M : Pg} {C : Cx} {Δ : Dl} {n : Nat}

/- the pattern of the module's -/
structure PatN (M : Pg) (x : Str) (kind : Nat) (code : Array Nat) : Prop where
  ex : ∃ P r, M.mg x = some (.ref P) ∧ Flt.IsPattern M.h₀ P r ∧ r.kind = kind ∧ r.code.toArray = code ∧ r.groups = 0

theorem Ev.bytesConst {b : List UInt8} {k : Nat} {pos : Pos} : Ev M C Δ (.Constant (.bytes b) k pos) tBytes b := fun F g s Q st hQ =>
  Constant_bytes (hQ _ g s.heap (s.toks + 1) (.refl _) st ⟨_, rfl⟩)

theorem Ev.subS (ok : C.Ok n) {px : Str} {e1 e2 : Expr} {p1 pa pos : Pos} {x rp : Str} (hpat : PatN M px 0 codeS) (hx : C.env.kindOf px = some .globalImplicit) (hdb : (px == ("__debug__" : Str)) = false)
    (h1 : Ev M C Δ e1 tStr rp) (h2 : Ev M C Δ e2 tStr x) (hxl : x.length ≤ 1000) (hrp : rp.length ≤ 1000) (h92 : rp.cps.contains 92 = false)
    (hs : starEach [e1, e2] C.env = [e1, e2].map fun e => (false, eval e C.env)) (hline : (pa.endLine == pos.line) = true)
    (hbase : attributeBase (.Name px p1) "sub" C.env (eval (.Name px p1) C.env) = eval (.Name px p1) C.env := by rfl) :
    Ev M C Δ (.Call (.Attribute (.Name px p1) "sub" pa) [e1, e2] [] pos) tStr (Txt.join ⟨#[]⟩ (piecesS x.cps rp (x.length + 1) 0)) := fun F g s Q st hQ => by
  obtain ⟨P, r, hm, hpt, hk, hc, hg⟩ := hpat.ex
  obtain ⟨fs, _, _, _, hP, _⟩ := id hpt
  have hget := st.st.based _ _ hP
  refine wpAny_Call_method (T := "re.Pattern") (id := "re.Pattern.sub") hbase (hfew_of hs (by show 2 < 29; decide)) hline re_attrs re_slot re_type (global_name ok st hx hdb hm ⟨⟨_, hget, rfl⟩, fun b e => by
    injection e with e
    subst e
    exact ⟨_, hget, rfl⟩, ?_⟩)
  rw [backTo_plain hs]
  refine Calls.callWith_builtin rfl (Calls.evalArgs_plain (Calls.spliced_cons (h1 F g s _ st fun v g1 hh1 tk1 l1 st1 ht1 => Calls.spliced_cons (h2 F g1 _ _ st1 fun u g2 hh2 tk2 l2 st2 ht2 => Calls.spliced_nil ?_))))
  obtain ⟨t1, rfl⟩ := ht1
  obtain ⟨t2, rfl⟩ := ht2
  exact call_subS (s := { s with heap := hh2, toks := tk2 }) (hpt.keeps st2.st.based) hk hc hg hxl hrp h92 fun h' t k hkk => hQ _ g2 h' k (l1.trans l2) (st2.heap hkk) ⟨t, rfl⟩
theorem Ev.subB (ok : C.Ok n) {px : Str} {e1 e2 : Expr} {p1 pa pos : Pos} {x rp : List UInt8} (hpat : PatN M px 1 codeB) (hx : C.env.kindOf px = some .globalImplicit) (hdb : (px == ("__debug__" : Str)) = false)
    (h1 : Ev M C Δ e1 tBytes rp) (h2 : Ev M C Δ e2 tBytes x) (hxl : x.length ≤ 1000) (hrp : rp.length ≤ 1000) (h92 : rp.toArray.contains 92 = false)
    (hs : starEach [e1, e2] C.env = [e1, e2].map fun e => (false, eval e C.env)) (hline : (pa.endLine == pos.line) = true)
    (hbase : attributeBase (.Name px p1) "sub" C.env (eval (.Name px p1) C.env) = eval (.Name px p1) C.env := by rfl) :
    Ev M C Δ (.Call (.Attribute (.Name px p1) "sub" pa) [e1, e2] [] pos) tBytes (((piecesB x.toArray rp.toArray (x.length + 1) 0).map (·.toList)).flatten) := fun F g s Q st hQ => by
  obtain ⟨P, r, hm, hpt, hk, hc, hg⟩ := hpat.ex
  obtain ⟨fs, _, _, _, hP, _⟩ := id hpt
  have hget := st.st.based _ _ hP
  refine wpAny_Call_method (T := "re.Pattern") (id := "re.Pattern.sub") hbase (hfew_of hs (by show 2 < 29; decide)) hline re_attrs re_slot re_type (global_name ok st hx hdb hm ⟨⟨_, hget, rfl⟩, fun b e => by
    injection e with e
    subst e
    exact ⟨_, hget, rfl⟩, ?_⟩)
  rw [backTo_plain hs]
  refine Calls.callWith_builtin rfl (Calls.evalArgs_plain (Calls.spliced_cons (h1 F g s _ st fun v g1 hh1 tk1 l1 st1 ht1 => Calls.spliced_cons (h2 F g1 _ _ st1 fun u g2 hh2 tk2 l2 st2 ht2 => Calls.spliced_nil ?_))))
  obtain ⟨t1, rfl⟩ := ht1
  obtain ⟨t2, rfl⟩ := ht2
  refine call_subB (s := { s with heap := hh2, toks := tk2 }) (hpt.keeps st2.st.based) hk hc hg (by simpa using hxl) (by simpa using hrp) h92 fun h' t k hkk => hQ _ g2 h' k (l1.trans l2) (st2.heap hkk) ⟨t, ?_⟩
  congr 1
  rw [← joined_list, List.size_toArray]
end
end Mine
end

-- L1
section
open PySem PySem.W PyProof.Rows
set_option linter.unusedVariables false
namespace Mine
theorem mulR {a b : Int} (h : b.natAbs < 2 ^ 63) : IntMulOk a b := .of_right (by
  unfold Builtin.Int.intBits
  split
  · exact Nat.zero_le _
  · rename_i hb
    have hb' : b.natAbs ≠ 0 := fun e => hb (by simpa using Int.natAbs_eq_zero.mp e)
    have := (Nat.log2_lt hb').mpr h
    omega)
theorem mulL {a b : Int} (h : a.natAbs < 2 ^ 63) : IntMulOk a b := .of_left (by
  unfold Builtin.Int.intBits
  split
  · exact Nat.zero_le _
  · rename_i hb
    have hb' : a.natAbs ≠ 0 := fun e => hb (by simpa using Int.natAbs_eq_zero.mp e)
    have := (Nat.log2_lt hb').mpr h
    omega)
/- a fold that grows a row by one at the most at each turn -/
theorem fold_len {α β : Type} {f : List α → β → List α} (hf : ∀ a b, (f a b).length ≤ a.length + 1) : ∀ (l : List β) (a : List α), (l.foldl f a).length ≤ a.length + l.length
  | [], a => Nat.le_refl _
  | b :: r, a => by
    have h1 := fold_len hf r (f a b)
    have h2 := hf a b
    rw [List.foldl_cons, List.length_cons]; omega
theorem fold_take_len {α β : Type} {f : List α → β → List α} (hf : ∀ a b, (f a b).length ≤ a.length + 1) (l : List β) (i : Nat) (a : List α) : ((l.take i).foldl f a).length ≤ a.length + l.length := by
  have h1 := fold_len hf (l.take i) a
  have h2 : (l.take i).length ≤ l.length := by rw [List.length_take]; omega
  omega
inductive EvKV (M : Pg) (C : Cx) (Δ : Dl) {α : Type} (T : Ty α) : List (Option Expr) → List Expr → List (Str × α) → Prop
  | nil : EvKV M C Δ T [] [] []
  | cons {k v : Expr} {ks : List (Option Expr)} {vs : List Expr} {x : Str} {y : α} {kvs : List (Str × α)} : Ev M C Δ k tStr x → Ev M C Δ v T y → EvKV M C Δ T ks vs kvs → EvKV M C Δ T (some k :: ks) (v :: vs) ((x, y) :: kvs)
theorem EvKV.pairs {M : Pg} {C : Cx} {Δ : Dl} {α : Type} {T : Ty α} {pos : Pos} {ks : List (Option Expr)} {vs : List Expr} {kvs : List (Str × α)} (h : EvKV M C Δ T ks vs kvs) :
    ∃ ts : List (Sem Value × Sem Value), EvPairs M C Δ ts T kvs ∧ ts.length = kvs.length ∧ (evalEachOpt ks C.env).zip ((evalEach vs C.env).map fun v => do let x ← v; standAt pos; pure x) = ts.map fun p => (some p.1, p.2) := by
  induction h with
  | nil => exact ⟨[], EvPairs.nil, rfl, rfl⟩
  | cons hk hv _ ih =>
    obtain ⟨ts, h1, h2, h3⟩ := ih
    exact ⟨_ :: ts, EvPairs.cons (pos := pos) hk hv h1, by rw [List.length_cons, List.length_cons, h2], by rw [List.map_cons, ← h3]; rfl⟩
theorem EvO.dictK {M : Pg} {C : Cx} {Δ : Dl} {α : Type} {T : Ty α} {pos : Pos} {ks : List (Option Expr)} {vs : List Expr} {kvs : List (Str × α)} (h : EvKV M C Δ T ks vs kvs) (h0 : kvs ≠ []) (hlen : kvs.length ≤ 15) : EvO M C Δ (.Dict ks vs pos) (DO M T (dsets [] kvs)) := by
  obtain ⟨ts, h1, h2, h3⟩ := h.pairs (pos := pos)
  exact EvO.dict h1 h3 (fun e => h0 (List.length_eq_zero_iff.mp (by rw [← h2, e]; rfl))) (by omega)
theorem sz16 : sizeLine = 16777216 := by decide

noncomputable def pfact (n : Int) : Int := ((List.range (n + 1 - 2).toNat).map fun (j : Nat) => (2 : Int) + (j : Int)).foldl (fun p k => p * k) 1
noncomputable def n0 : List (Str × Str) := [("&", "&amp;"), ("<", "&lt;"), (">", "&gt;")]
noncomputable def n1 : List (Str × Str) := [("&", "&amp;"), (">", "&gt;"), ("\"", "&quot;")]
noncomputable def n2 : List (Str × Str) := [("&", "&amp;"), ("<", "&lt;"), (">", "&gt;"), ("\r", "&#xD;")]
noncomputable def pnames (which : Int) : List (Str × Str) := if which == 0 then dsets [] n0 else if which == 1 then dsets [] n1 else dsets [] n2
noncomputable def plast (x : Str × List (Str × Str)) : Str := if (dget x.2 x.1).isSome then ";" else if x.1 == "\r" || x.1 == "\n" then "\n" else x.1
noncomputable def pcount (c : List (Str × Int)) : Int := (c.map (·.2)).foldl (fun a b => a + b) 0
noncomputable def addStep (acc : List (Str × Int)) (q : Str × Int) : List (Str × Int) := match dget acc q.1 with | some a => dset acc q.1 (a + q.2) | none => dset acc q.1 q.2
noncomputable def paddc (x : List (Str × Int) × List (Str × Int)) : List (Str × Int) := x.2.foldl addStep (x.1.foldl (fun acc q => dset acc q.1 q.2) [])
noncomputable def paddf (x : Five (List (Str × Int)) × Five (List (Str × Int))) : Five (List (Str × Int)) := ⟨x.2.cc + x.1.cc, x.2.nc + x.1.nc, x.2.tt + x.1.tt, x.2.ct + x.1.ct, paddc (x.1.callers, x.2.callers)⟩
theorem addStep_len (a : List (Str × Int)) (b : Str × Int) : (addStep a b).length ≤ a.length + 1 := by
  unfold addStep
  split <;> exact dset_length ..
theorem paddc_len (x : List (Str × Int) × List (Str × Int)) : (paddc x).length ≤ x.1.length + x.2.length := by
  have h1 := fold_len (f := fun (acc : List (Str × Int)) (q : Str × Int) => dset acc q.1 q.2) (fun a b => dset_length ..) x.1 []
  have h2 := fold_len addStep_len x.2 (x.1.foldl (fun acc q => dset acc q.1 q.2) [])
  rw [List.length_nil] at h1
  unfold paddc
  omega
end Mine
end

-- L2
section
open PySem PySem.W PyProof.Rows
set_option linter.unusedVariables false
set_option linter.unusedSimpArgs false
namespace Mine

noncomputable def S (l : List Nat) : Str := ⟨l.toArray⟩
theorem S_length (l : List Nat) : (S l).length = l.length := List.size_toArray ..
theorem S_cps (l : List Nat) : (S l).cps.toList = l := rfl
theorem S_eta (x : Str) : S x.cps.toList = x := by cases x; rfl
theorem S_inj {a b : List Nat} (h : S a = S b) : a = b := by rw [← S_cps a, h, S_cps]

noncomputable def sub1 (c : Nat) (z l : List Nat) : List Nat := l.flatMap fun a => if a = c then z else [a]
theorem sub1_append (c : Nat) (z a b : List Nat) : sub1 c z (a ++ b) = sub1 c z a ++ sub1 c z b := List.flatMap_append ..
theorem sub1_free {c : Nat} {z : List Nat} : ∀ {l : List Nat}, c ∉ l → sub1 c z l = l
  | [], _ => rfl
  | a :: r, h => by
    have h1 : a ≠ c := fun e => h (e ▸ List.mem_cons_self ..)
    have h2 : c ∉ r := fun e => h (List.mem_cons_of_mem _ e)
    have ih := sub1_free (z := z) h2
    unfold sub1 at ih ⊢
    rw [List.flatMap_cons, if_neg h1, ih]
    rfl
theorem sub1_one (c : Nat) (z : List Nat) : sub1 c z [c] = z := by simp [sub1]
theorem sub1_join (c : Nat) (z : Str) : ∀ parts : List Str, (∀ p ∈ parts, c ∉ p.cps.toList) → sub1 c z.cps.toList (Str.join ⟨#[c]⟩ parts).cps.toList = (Str.join z parts).cps.toList
  | [], _ => rfl
  | [p], h => sub1_free (h p (List.mem_singleton.mpr rfl))
  | p :: q :: r, h => by
    have ih := sub1_join c z (q :: r) fun a ha => h a (List.mem_cons_of_mem _ ha)
    show sub1 c z.cps.toList (p ++ ⟨#[c]⟩ ++ Str.join ⟨#[c]⟩ (q :: r)).cps.toList = (p ++ z ++ Str.join z (q :: r)).cps.toList
    simp only [Str.cps_append, Array.toList_append]
    rw [sub1_append, sub1_append, ih, sub1_free (h p (List.mem_cons_self ..))]
    show p.cps.toList ++ sub1 c z.cps.toList [c] ++ _ = _
    rw [sub1_one]
theorem replace_sub (x z : Str) (c : Nat) : (Txt.replace x ⟨#[c]⟩ z).cps.toList = sub1 c z.cps.toList x.cps.toList := by
  rw [StrLaws.replace_one, ← sub1_join c z _ (StrLaws.split_free x c), StrLaws.join_split]
theorem esc_is (y z : Str) (c : Nat) : (if !(Builtin.Str.occurrences y ⟨#[c]⟩ 0 y.length 1).isEmpty then Txt.replace y ⟨#[c]⟩ z else y) = S (sub1 c z.cps.toList y.cps.toList) := by
  rw [StrLaws.found_one]
  by_cases h : c ∈ y.cps.toList
  · rw [if_pos (decide_eq_true h), ← replace_sub, S_eta]
  · rw [if_neg (by simpa using h), sub1_free h, S_eta]
theorem sub1_len (c : Nat) (z : List Nat) (hz : z.length ≤ 14) : ∀ l : List Nat, (sub1 c z l).length ≤ 15 * l.length
  | [] => Nat.le_refl _
  | a :: r => by
    have ih := sub1_len c z hz r
    unfold sub1 at ih ⊢
    rw [List.flatMap_cons, List.length_append, List.length_cons]
    have : (if a = c then z else [a]).length ≤ 14 := by split <;> simp [hz]
    omega
theorem sub1_flat (c : Nat) (z l : List Nat) (f : Nat → List Nat) : sub1 c z (l.flatMap f) = l.flatMap fun a => sub1 c z (f a) := by
  induction l with
  | nil => rfl
  | cons a r ih => rw [List.flatMap_cons, List.flatMap_cons, sub1_append, ih]

section
variable {M : Pg} {C : Cx} {Δ : Dl} {n : Nat}
theorem Ws.ifSub (ok : C.Ok n) {x : Str} {c z : Str} {kc kc2 kz : Nat} {p1 p2 p3 p4 p5 p6 p7 p8 p9 pos pos2 : Pos} {rest : List Stmt} {α : Type} {T : Ty α} {r : α} {K : Dl → Prop} {Δ' : Dl} {y : Str} (cn : Nat) (zl : List Nat) (hcn : c = ⟨#[cn]⟩) (hzl : z = S zl)
    (hm : (x, Slot.val tStr y) ∈ Δ) (hx : C.env.kindOf x = some .local)
    (hd : Drop x Δ Δ') (hcz : zl ≠ [cn]) (hy : y.length ≤ 1048576) (hz : zl.length ≤ 14)
    (hr : Ws M C ((x, .val tStr (S (sub1 cn zl y.cps.toList))) :: Δ') rest T r K)
    (hs : starEach [.Constant (.str c) kc2 p6, .Constant (.str z) kz p7] C.env = [.Constant (.str c) kc2 p6, .Constant (.str z) kz p7].map fun e => (false, eval e C.env)) (hline : (p5.endLine == p8.line) = true)
    (hbase : attributeBase (.Name x p4) "replace" C.env (eval (.Name x p4) C.env) = eval (.Name x p4) C.env := by rfl)
    (hsw : swapsWith (.Call (.Attribute (.Name x p4) "replace" p5) [.Constant (.str c) kc2 p6, .Constant (.str z) kz p7] [] p8) (some (.Name x p9)) pos.line C.env = pure false := by rfl) :
    Ws M C Δ (.If (.Compare (.Constant (.str c) kc p1) [.In] [.Name x p2] p3) [.Assign [.Name x p9] (.Call (.Attribute (.Name x p4) "replace" p5) [.Constant (.str c) kc2 p6, .Constant (.str z) kz p7] [] p8) pos] [] pos2 :: rest) T r K := by
  refine Ws.ifReplace ok hm hx hd ?_ hy ?_ ?_ hs hline hbase hsw
  · rw [hcn, hzl]
    refine beq_eq_false_iff_ne.mpr fun e => hcz ?_
    have e' : S [cn] = S zl := e
    exact (S_inj e').symm
  · rw [hzl, S_length]; exact hz
  · subst hcn hzl
    rw [esc_is]
    exact hr
end

noncomputable def amp : List Nat := [38, 97, 109, 112, 59]
noncomputable def lt : List Nat := [38, 108, 116, 59]
noncomputable def gt : List Nat := [38, 103, 116, 59]
noncomputable def quot : List Nat := [38, 113, 117, 111, 116, 59]
noncomputable def xd : List Nat := [38, 35, 120, 68, 59]
theorem S_amp : ("&amp;" : Str) = S amp := by rfl
theorem S_lt : ("&lt;" : Str) = S lt := by rfl
theorem S_gt : ("&gt;" : Str) = S gt := by rfl
theorem S_quot : ("&quot;" : Str) = S quot := by rfl
theorem S_xd : ("&#xD;" : Str) = S xd := by rfl
noncomputable def esc0 (x : Str) : Str := S (sub1 62 gt (sub1 60 lt (sub1 38 amp x.cps.toList)))
noncomputable def esc1 (x : Str) : Str := S (sub1 34 quot (sub1 62 gt (sub1 38 amp x.cps.toList)))
noncomputable def esc2 (x : Str) : Str := S (sub1 13 xd (sub1 62 gt (sub1 60 lt (sub1 38 amp x.cps.toList))))
end Mine
end

-- L3
section
open PySem PySem.W PyProof.Rows
set_option linter.unusedVariables false
set_option linter.unusedSimpArgs false
namespace Mine

theorem join_S : ∀ ys : List Str, Str.join ⟨#[]⟩ ys = S ((ys.map (·.cps.toList)).flatten)
  | [] => rfl
  | [x] => by
    show x = _
    rw [List.map_cons, List.map_nil, List.flatten_cons, List.flatten_nil, List.append_nil, S_eta]
  | x :: y :: r => by
    have ih := join_S (y :: r)
    show x ++ ⟨#[]⟩ ++ Str.join ⟨#[]⟩ (y :: r) = _
    rw [ih]
    have e : ∀ L : List Nat, x ++ (⟨#[]⟩ : Str) ++ S L = S (x.cps.toList ++ L) := fun L => by
      have e : (x ++ (⟨#[]⟩ : Str) ++ S L).cps.toList = x.cps.toList ++ L := by
        simp only [Str.cps_append, Array.toList_append]
        rw [S_cps]
        simp
      rw [← S_eta (x ++ (⟨#[]⟩ : Str) ++ S L), e]
    rw [e]
    rfl
theorem joinT_S (ys : List Str) : Txt.join ⟨#[]⟩ ys = S ((ys.map (·.cps.toList)).flatten) := by
  rw [eq_of_beq (join_plain_closes ⟨#[]⟩ ys), join_S]

noncomputable def crlf : List Nat → List Nat
  | [] => []
  | [c] => if c = 10 ∨ c = 13 then [13, 10] else [c]
  | c :: d :: r => if c = 13 ∧ d = 10 then 13 :: 10 :: crlf r else if c = 10 ∨ c = 13 then 13 :: 10 :: crlf (d :: r) else c :: crlf (d :: r)
theorem crlf_plain {c : Nat} (h : ¬ (c = 10 ∨ c = 13)) : ∀ r : List Nat, crlf (c :: r) = c :: crlf r
  | [] => by simp [crlf, h]
  | d :: r => by
    have h1 : ¬ (c = 13 ∧ d = 10) := fun x => h (.inr x.1)
    simp [crlf, h, h1]
theorem crlf_lf (r : List Nat) : crlf (10 :: r) = 13 :: 10 :: crlf r := by
  cases r with
  | nil => rfl
  | cons d r => simp [crlf]
theorem crlf_crlf (r : List Nat) : crlf (13 :: 10 :: r) = 13 :: 10 :: crlf r := by simp [crlf]
theorem crlf_cr {r : List Nat} (h : r.head? ≠ some 10) : crlf (13 :: r) = 13 :: 10 :: crlf r := by
  cases r with
  | nil => rfl
  | cons d r =>
    have h1 : d ≠ 10 := fun e => h (by rw [e]; rfl)
    simp [crlf, h1]
theorem crlf_pre : ∀ (a b : List Nat), (∀ c ∈ a, ¬ (c = 10 ∨ c = 13)) → crlf (a ++ b) = a ++ crlf b
  | [], b, _ => rfl
  | c :: r, b, h => by
    rw [List.cons_append, crlf_plain (h c (List.mem_cons_self ..)), crlf_pre r b fun x hx => h x (List.mem_cons_of_mem _ hx)]
    rfl
theorem crlf_len : ∀ l : List Nat, (crlf l).length ≤ 2 * l.length
  | [] => Nat.le_refl _
  | [c] => by unfold crlf; split <;> simp
  | c :: d :: r => by
    unfold crlf
    have h1 := crlf_len r
    have h2 := crlf_len (d :: r)
    simp only [List.length_cons] at h2 ⊢
    split
    · simp only [List.length_cons]; omega
    · split
      · simp only [List.length_cons]; omega
      · simp only [List.length_cons]; omega
theorem crlf_all {p : Nat → Prop} (h13 : p 13) (h10 : p 10) : ∀ l : List Nat, (∀ c ∈ l, p c) → ∀ c ∈ crlf l, p c
  | [], h, c, hc => h c hc
  | [d], h, c, hc => by
    unfold crlf at hc
    split at hc
    · simp only [List.mem_cons, List.not_mem_nil, or_false] at hc
      rcases hc with rfl | rfl <;> assumption
    · exact h c hc
  | d :: e :: r, h, c, hc => by
    have h1 := crlf_all h13 h10 r fun x hx => h x (List.mem_cons_of_mem _ (List.mem_cons_of_mem _ hx))
    have h2 := crlf_all h13 h10 (e :: r) fun x hx => h x (List.mem_cons_of_mem _ hx)
    unfold crlf at hc
    split at hc
    · rcases List.mem_cons.mp hc with rfl | hc
      · exact h13
      · rcases List.mem_cons.mp hc with rfl | hc
        · exact h10
        · exact h1 c hc
    · split at hc
      · rcases List.mem_cons.mp hc with rfl | hc
        · exact h13
        · rcases List.mem_cons.mp hc with rfl | hc
          · exact h10
          · exact h2 c hc
      · rcases List.mem_cons.mp hc with rfl | hc
        · exact h c (List.mem_cons_self ..)
        · exact h2 c hc

theorem extract_drop (t : Array Nat) (p b : Nat) : (t.extract p b).toList = (t.toList.drop p).take (b - p) := by
  rw [Array.toList_extract, List.extract_eq_take_drop]
theorem signS_pre {t : Array Nat} : ∀ {fuel p b : Nat}, signS t t.size fuel p = some b → ∀ c ∈ (t.toList.drop p).take (b - p), ¬ (c = 10 ∨ c = 13)
  | 0, _, _, h => by cases h
  | fuel + 1, p, b, h => by
    obtain ⟨hpb, hbl, _⟩ := signS_some h
    unfold signS at h
    by_cases hs : p < t.size
    · rw [if_pos hs] at h
      by_cases hh : t[p]?.getD 0 = 10 ∨ t[p]?.getD 0 = 13
      · rw [if_pos hh] at h
        cases h
        simp
      · rw [if_neg hh] at h
        have ih := signS_pre h
        obtain ⟨hpb2, _, _⟩ := signS_some h
        have hd : t.toList.drop p = t.toList[p]'(by simpa using hs) :: t.toList.drop (p + 1) := List.drop_eq_getElem_cons (by simpa using hs)
        rw [hd, show b - p = (b - (p + 1)) + 1 by omega, List.take_succ_cons]
        intro c hc
        rcases List.mem_cons.mp hc with rfl | hc
        · have : t[p]?.getD 0 = t.toList[p]'(by simpa using hs) := by simp [hs]
          rw [← this]; exact hh
        · exact ih c hc
    · rw [if_neg hs] at h; cases h
theorem signS_none {t : Array Nat} : ∀ {fuel p : Nat}, t.size < fuel + p → signS t t.size fuel p = none → ∀ c ∈ t.toList.drop p, ¬ (c = 10 ∨ c = 13)
  | 0, p, hf, _, c, hc => by
    rw [List.drop_of_length_le (by simp; omega)] at hc
    cases hc
  | fuel + 1, p, hf, h, c, hc => by
    unfold signS at h
    by_cases hs : p < t.size
    · rw [if_pos hs] at h
      by_cases hh : t[p]?.getD 0 = 10 ∨ t[p]?.getD 0 = 13
      · rw [if_pos hh] at h; cases h
      · rw [if_neg hh] at h
        have hd : t.toList.drop p = t.toList[p]'(by simpa using hs) :: t.toList.drop (p + 1) := List.drop_eq_getElem_cons (by simpa using hs)
        rw [hd] at hc
        rcases List.mem_cons.mp hc with rfl | hc
        · have : t[p]?.getD 0 = t.toList[p]'(by simpa using hs) := by simp [hs]
          rw [← this]; exact hh
        · exact signS_none (by omega) h c hc
    · rw [List.drop_of_length_le (by simp; omega)] at hc
      cases hc

theorem flat_pieces (t : Array Nat) (rp : Str) (p b : Nat) (r : List Str) (hb : p ≤ b) : ((((if p < b then [(⟨t.extract p b⟩ : Str)] else []) ++ rp :: r)).map (·.cps.toList)).flatten = (t.toList.drop p).take (b - p) ++ (rp.cps.toList ++ (r.map (·.cps.toList)).flatten) := by
  rw [List.map_append, List.flatten_append, List.map_cons, List.flatten_cons]
  congr 1
  by_cases h : p < b
  · rw [if_pos h, List.map_cons, List.map_nil, List.flatten_cons, List.flatten_nil, List.append_nil]
    exact extract_drop t p b
  · rw [if_neg h, show b - p = 0 by omega]
    simp
theorem pieces_crlf {t : Array Nat} : ∀ (fuel p : Nat), t.size < fuel + p → p ≤ t.size → ((piecesS t (S [13, 10]) fuel p).map (·.cps.toList)).flatten = crlf (t.toList.drop p)
  | 0, p, h, h' => by omega
  | fuel + 1, p, h, h' => by
    unfold piecesS
    unfold nextS
    cases hs : signS t t.size (t.size + 1 - p) p with
    | none =>
      simp only [Option.map_none]
      have hn := signS_none (t := t) (by omega) hs
      have e : crlf (t.toList.drop p) = t.toList.drop p := by
        have := crlf_pre (t.toList.drop p) [] hn
        rw [List.append_nil] at this
        rw [this]; simp [crlf]
      rw [e]
      by_cases hp : p < t.size
      · rw [if_pos hp, List.map_cons, List.map_nil, List.flatten_cons, List.flatten_nil, List.append_nil]
        show (t.extract p t.size).toList = _
        rw [extract_drop, List.take_of_length_le (by simp)]
      · rw [if_neg hp, List.drop_of_length_le (by simp; omega)]
        rfl
    | some b =>
      obtain ⟨hpb, hbl, hc⟩ := signS_some hs
      have hpre := signS_pre hs
      simp only [Option.map_some]
      rw [flat_pieces _ _ _ _ _ hpb]
      have hsplit : t.toList.drop p = (t.toList.drop p).take (b - p) ++ t.toList.drop b := by
        have := List.take_append_drop (b - p) (t.toList.drop p)
        rw [List.drop_drop, show p + (b - p) = b by omega] at this
        exact this.symm
      conv => rhs; rw [hsplit]
      rw [crlf_pre _ _ hpre]
      congr 1
      have hb' : b < t.toList.length := by simpa using hbl
      have hd : t.toList.drop b = t.toList[b] :: t.toList.drop (b + 1) := List.drop_eq_getElem_cons hb'
      have hg : t[b]?.getD 0 = t.toList[b] := by simp [hbl]
      rw [hg] at hc ⊢
      by_cases hcl : t.toList[b] = 13 ∧ b + 1 < t.size ∧ t[b + 1]?.getD 0 = 10
      · rw [if_pos hcl, pieces_crlf fuel (b + 2) (by omega) (by omega)]
        have hb2 : b + 1 < t.toList.length := by simpa using hcl.2.1
        have hd2 : t.toList.drop (b + 1) = t.toList[b + 1] :: t.toList.drop (b + 2) := List.drop_eq_getElem_cons hb2
        have hg2 : t[b + 1]?.getD 0 = t.toList[b + 1] := by simp [hcl.2.1]
        rw [hd, hd2, hcl.1, ← hg2, hcl.2.2, crlf_crlf]
        rfl
      · rw [if_neg hcl, pieces_crlf fuel (b + 1) (by omega) (by omega), hd]
        rcases hc with hc | hc
        · rw [hc, crlf_lf]; rfl
        · rw [hc, crlf_cr]
          · rfl
          · intro hh
            apply hcl
            have hlt : b + 1 < t.size := by
              rcases Nat.lt_or_ge (b + 1) t.size with h | h
              · exact h
              · rw [List.drop_of_length_le (by simp; omega)] at hh; cases hh
            refine ⟨hc, hlt, ?_⟩
            rw [List.head?_drop] at hh
            have : t[b + 1]?.getD 0 = (t.toList[b + 1]?).getD 0 := by simp
            rw [this, hh]; rfl
theorem eols_is (x : Str) : Txt.join ⟨#[]⟩ (piecesS x.cps "\r\n" (x.length + 1) 0) = S (crlf x.cps.toList) := by
  rw [joinT_S, show ("\r\n" : Str) = S [13, 10] from rfl, pieces_crlf _ _ (by show x.cps.size < x.cps.size + 1 + 0; omega) (Nat.zero_le _)]
  rfl
end Mine
end

-- L4
section
open PySem PySem.W PyProof.Rows
set_option linter.unusedVariables false
set_option linter.unusedSimpArgs false
namespace Mine

/- a '.' at a line's start twice -/
noncomputable def dotq : Bool → List Nat → List Nat
  | _, [] => []
  | b, c :: r => (if b = true ∧ c = 46 then [46, 46] else [c]) ++ dotq (c == 10) r
noncomputable def ls (t : Array Nat) (p : Nat) : Bool := p == 0 || t[p - 1]?.getD 0 == 10
theorem ls_iff (t : Array Nat) (p : Nat) : ls t p = true ↔ (p = 0 ∨ t[p - 1]?.getD 0 = 10) := by
  unfold ls
  rw [Bool.or_eq_true, beq_iff_eq, beq_iff_eq]
theorem ls_succ (t : Array Nat) (p : Nat) : ls t (p + 1) = (t[p]?.getD 0 == 10) := by
  unfold ls
  rw [show (p + 1 == 0) = false from rfl, Bool.false_or]
  rfl
theorem nextB_dot {t : Array Nat} : ∀ {fuel p b e : Nat}, nextB t t.size fuel p = some (b, e) → e = b + 1 ∧ dotq (ls t p) (t.toList.drop p) = (t.toList.drop p).take (b - p) ++ (46 :: 46 :: dotq false (t.toList.drop (b + 1)))
  | 0, _, _, _, h => by cases h
  | fuel + 1, p, b, e, h => by
    obtain ⟨h1, h2, h3⟩ := nextB_some h
    unfold nextB at h
    by_cases hs : p < t.size
    · rw [if_pos hs] at h
      have hs' : p < t.toList.length := by simpa using hs
      have hd : t.toList.drop p = t.toList[p] :: t.toList.drop (p + 1) := List.drop_eq_getElem_cons hs'
      have hg : t[p]?.getD 0 = t.toList[p] := by simp [hs]
      by_cases hh : (p = 0 ∨ t[p - 1]?.getD 0 = 10) ∧ t[p]?.getD 0 = 46
      · rw [if_pos hh] at h
        cases h
        refine ⟨rfl, ?_⟩
        have hl : ls t p = true := (ls_iff t p).mpr hh.1
        have hc : t.toList[p] = 46 := by rw [← hg]; exact hh.2
        rw [hd, hl, hc]
        simp [dotq]
      · rw [if_neg hh] at h
        obtain ⟨i1, i2, i3⟩ := nextB_some h
        obtain ⟨e1, e2⟩ := nextB_dot h
        refine ⟨e1, ?_⟩
        rw [hd, show b - p = (b - (p + 1)) + 1 by omega, List.take_succ_cons, List.cons_append, ← e2, ls_succ, hg]
        have hno : ¬ (ls t p = true ∧ t.toList[p] = 46) := fun x => hh ⟨(ls_iff t p).mp x.1, by rw [hg]; exact x.2⟩
        rw [dotq, if_neg hno]
        rfl
    · rw [if_neg hs] at h; cases h
theorem nextB_nodot {t : Array Nat} : ∀ {fuel p : Nat}, t.size < fuel + p → nextB t t.size fuel p = none → dotq (ls t p) (t.toList.drop p) = t.toList.drop p
  | 0, p, hf, _ => by
    rw [List.drop_of_length_le (by simp; omega)]
    rfl
  | fuel + 1, p, hf, h => by
    unfold nextB at h
    by_cases hs : p < t.size
    · rw [if_pos hs] at h
      have hs' : p < t.toList.length := by simpa using hs
      have hd : t.toList.drop p = t.toList[p] :: t.toList.drop (p + 1) := List.drop_eq_getElem_cons hs'
      have hg : t[p]?.getD 0 = t.toList[p] := by simp [hs]
      by_cases hh : (p = 0 ∨ t[p - 1]?.getD 0 = 10) ∧ t[p]?.getD 0 = 46
      · rw [if_pos hh] at h; cases h
      · rw [if_neg hh] at h
        have ih := nextB_nodot (by omega) h
        rw [ls_succ, hg] at ih
        have hno : ¬ (ls t p = true ∧ t.toList[p] = 46) := fun x => hh ⟨(ls_iff t p).mp x.1, by rw [hg]; exact x.2⟩
        rw [hd, dotq, if_neg hno, ih]
        rfl
    · rw [List.drop_of_length_le (by simp; omega)]
      rfl

theorem extractB (x : Array UInt8) (p b : Nat) : (sliceB x p b).toList.map (·.toNat) = ((x.map (·.toNat)).toList.drop p).take (b - p) := by
  rw [sliceB_is, Array.toList_extract, List.extract_eq_take_drop]
  simp [List.map_take, List.map_drop]
theorem pieces_dot {x : Array UInt8} : ∀ (fuel p : Nat), (x.map (·.toNat)).size < fuel + p → p ≤ (x.map (·.toNat)).size →
    (((piecesB x #[46, 46] fuel p).map (·.toList)).flatten).map (·.toNat) = dotq (ls (x.map (·.toNat)) p) ((x.map (·.toNat)).toList.drop p)
  | 0, p, h, h' => by omega
  | fuel + 1, p, h, h' => by
    unfold piecesB
    cases hs : nextB (x.map (·.toNat)) (x.map (·.toNat)).size ((x.map (·.toNat)).size + 1 - p) p with
    | none =>
      dsimp only
      rw [nextB_nodot (by omega) hs]
      by_cases hp : p < (x.map (·.toNat)).size
      · rw [if_pos hp, List.map_cons, List.map_nil, List.flatten_cons, List.flatten_nil, List.append_nil, extractB, List.take_of_length_le (by simp)]
      · rw [if_neg hp, List.drop_of_length_le (by simp at hp ⊢; omega)]
        rfl
    | some be =>
      obtain ⟨b, e⟩ := be
      obtain ⟨h1, h2, h3⟩ := nextB_some hs
      obtain ⟨e1, e2⟩ := nextB_dot hs
      subst e1
      dsimp only
      rw [e2, List.map_append, List.flatten_append, List.map_append, List.map_cons, List.flatten_cons, List.map_append, pieces_dot fuel (b + 1) (by omega) h3]
      have hls : ls (x.map (·.toNat)) (b + 1) = false := by
        rw [ls_succ]
        have hm : (x.map (·.toNat))[b]?.getD 0 = 46 := by
          have key : ∀ {fuel p : Nat}, nextB (x.map (·.toNat)) (x.map (·.toNat)).size fuel p = some (b, b + 1) → (x.map (·.toNat))[b]?.getD 0 = 46 := by
            intro fuel
            induction fuel with
            | zero => intro p h; cases h
            | succ fuel ih =>
              intro p h
              unfold nextB at h
              by_cases hs : p < (x.map (·.toNat)).size
              · rw [if_pos hs] at h
                by_cases hh : (p = 0 ∨ (x.map (·.toNat))[p - 1]?.getD 0 = 10) ∧ (x.map (·.toNat))[p]?.getD 0 = 46
                · rw [if_pos hh] at h
                  simp only [Option.some.injEq, Prod.mk.injEq] at h
                  rw [← h.1]; exact hh.2
                · rw [if_neg hh] at h
                  exact ih h
              · rw [if_neg hs] at h; cases h
          exact key hs
        rw [hm]
        rfl
      rw [hls]
      congr 1
      · by_cases hp : p < b
        · rw [if_pos hp, List.map_cons, List.map_nil, List.flatten_cons, List.flatten_nil, List.append_nil, extractB]
        · rw [if_neg hp, show b - p = 0 by omega]
          simp
theorem quote_is (x : List UInt8) : (((piecesB x.toArray #[46, 46] (x.length + 1) 0).map (·.toList)).flatten).map (·.toNat) = dotq true (x.map (·.toNat)) := by
  rw [pieces_dot _ _ (by simp) (Nat.zero_le _)]
  simp [ls]
theorem dotq_len : ∀ (b : Bool) (l : List Nat), (dotq b l).length ≤ 2 * l.length
  | _, [] => Nat.le_refl _
  | b, c :: r => by
    have ih := dotq_len (c == 10) r
    rw [dotq, List.length_append, List.length_cons]
    have : (if b = true ∧ c = 46 then [46, 46] else [c]).length ≤ 2 := by split <;> simp
    omega
end Mine
end

-- L5
section
open PySem PySem.W PyProof.Rows
set_option linter.unusedVariables false
set_option linter.unusedSimpArgs false
namespace Mine

theorem execs_join {env : Env} {MM : Model} {Γ : Ctx} {E : Value → Pos → Shared → Prop} {Q : Flow → Pos → Shared → Prop} {b : List Stmt} : ∀ {a : List Stmt} {p : Pos} {s : Shared},
    Sem.wp MM Γ (execs a env) (fun f p' s' => Sem.wp MM Γ (match f with | .next => execs b env | f => pure f) Q E p' s') E p s → Sem.wp MM Γ (execs (a ++ b) env) Q E p s
  | [], p, s, h => h
  | st :: r, p, s, h => by
    rw [List.cons_append, execs_cons, Sem.wp_bind']
    rw [execs_cons, Sem.wp_bind'] at h
    refine Sem.wp_mono MM Γ _ (fun f p' s' h2 => ?_) (fun _ _ _ e => e) p s h
    cases f with
    | next => exact execs_join (a := r) h2
    | brk => exact h2
    | cont => exact h2
    | ret v => exact h2

section
variable {M : Pg} {C : Cx} {Δ : Dl} {n : Nat}
theorem Ws.seq {a rest : List Stmt} {α : Type} {T : Ty α} {r : α} {K : Dl → Prop} {Δj : Dl} (ha : Ws M C Δ a T r (fun Δ' => Wk M C Δ' Δj)) (hr : Ws M C Δj rest T r K) : Ws M C Δ (a ++ rest) T r K := fun F g s Q st hN hR => by
  have h1 : wpAny (model M.prog M.w) C.A (execs a C.env) (fun f s' => wpAny (model M.prog M.w) C.A (match f with | .next => execs rest C.env | f => pure f) Q (fun _ _ => False) s') (fun _ _ => False) s :=
    ha F g s _ st (fun Δ' F' g' h' tk e l st' kw => by
      obtain ⟨F2, g2, e2, l2, st2⟩ := kw F' g' h' st'
      exact hr.go hN hR (e2.trans e) (l.trans l2) st2) (fun v g' h' tk l st' ht => wpAny_pure (hR v g' h' tk l st' ht))
  intro Γ p hΓ
  refine execs_join (Sem.wp_mono _ Γ _ (fun f p' s' h2 => h2 Γ p' hΓ) (fun _ _ _ e => e) p s (h1 Γ p hΓ))
theorem Ws.iteJ {t : Expr} {a b rest : List Stmt} {pos : Pos} {q : Bool} {α : Type} {T : Ty α} {r : α} {K : Dl → Prop} (Δj : Dl) (ht : EvB M C Δ t q)
    (ha : q = true → Ws M C Δ a T r (fun Δ' => Wk M C Δ' Δj)) (hb : q = false → Ws M C Δ b T r (fun Δ' => Wk M C Δ' Δj)) (hr : Ws M C Δj rest T r K) : Ws M C Δ (.If t a b pos :: rest) T r K :=
  Ws.ite ht (fun h => (ha h).seq hr) (fun h => (hb h).seq hr)
/- a row of statements, its tail known -/
theorem Ws.iteN {t : Expr} {a b : List Stmt} {pos : Pos} {q : Bool} {α : Type} {T : Ty α} {r : α} {K : Dl → Prop} (ht : EvB M C Δ t q)
    (ha : q = true → Ws M C Δ a T r K) (hb : q = false → Ws M C Δ b T r K) : Ws M C Δ [.If t a b pos] T r K :=
  Ws.ite ht (fun h => by rw [List.append_nil]; exact ha h) (fun h => by rw [List.append_nil]; exact hb h)
end

noncomputable def e0 (a : Nat) : List Nat := sub1 62 gt (sub1 60 lt (sub1 38 amp [a]))
noncomputable def e1 (a : Nat) : List Nat := sub1 34 quot (sub1 62 gt (sub1 38 amp [a]))
noncomputable def e2 (a : Nat) : List Nat := sub1 13 xd (sub1 62 gt (sub1 60 lt (sub1 38 amp [a])))
noncomputable def esc (which : Int) (l : List Nat) : List Nat := l.flatMap (if which == 0 then e0 else if which == 1 then e1 else e2)
theorem sub1_map (c : Nat) (z l : List Nat) : sub1 c z l = l.flatMap fun a => sub1 c z [a] := by
  unfold sub1
  simp
theorem esc0_is (x : Str) : esc0 x = S (x.cps.toList.flatMap e0) := by
  unfold esc0
  rw [sub1_map 38 amp x.cps.toList, sub1_flat, sub1_flat]
  rfl
theorem esc1_is (x : Str) : esc1 x = S (x.cps.toList.flatMap e1) := by
  unfold esc1
  rw [sub1_map 38 amp x.cps.toList, sub1_flat, sub1_flat]
  rfl
theorem esc2_is (x : Str) : esc2 x = S (x.cps.toList.flatMap e2) := by
  unfold esc2
  rw [sub1_map 38 amp x.cps.toList, sub1_flat, sub1_flat, sub1_flat]
  rfl
theorem sub1_ne {c a : Nat} {z : List Nat} (h : a ≠ c) : sub1 c z [a] = [a] := by simp [sub1, h]
theorem e_cases (e : Nat → List Nat) (he : e = e0 ∨ e = e1 ∨ e = e2) (a : Nat) : (e a).length ≤ 6 ∧ (a < 128 → ∀ c ∈ e a, c < 128) := by
  by_cases h38 : a = 38
  · subst h38; rcases he with rfl | rfl | rfl <;> decide
  by_cases h60 : a = 60
  · subst h60; rcases he with rfl | rfl | rfl <;> decide
  by_cases h62 : a = 62
  · subst h62; rcases he with rfl | rfl | rfl <;> decide
  by_cases h34 : a = 34
  · subst h34; rcases he with rfl | rfl | rfl <;> decide
  by_cases h13 : a = 13
  · subst h13; rcases he with rfl | rfl | rfl <;> decide
  have e : e a = [a] := by
    rcases he with rfl | rfl | rfl
    · unfold e0; rw [sub1_ne h38, sub1_ne h60, sub1_ne h62]
    · unfold e1; rw [sub1_ne h38, sub1_ne h62, sub1_ne h34]
    · unfold e2; rw [sub1_ne h38, sub1_ne h60, sub1_ne h62, sub1_ne h13]
  rw [e]
  exact ⟨by show 1 ≤ 6; omega, fun h c hc => by rw [List.mem_singleton.mp hc]; exact h⟩
theorem esc_e (which : Int) : (if which == 0 then e0 else if which == 1 then e1 else e2) = e0 ∨ (if which == 0 then e0 else if which == 1 then e1 else e2) = e1 ∨ (if which == 0 then e0 else if which == 1 then e1 else e2) = e2 := by
  split
  · exact .inl rfl
  · split
    · exact .inr (.inl rfl)
    · exact .inr (.inr rfl)
theorem esc_len (which : Int) : ∀ l : List Nat, (esc which l).length ≤ 6 * l.length
  | [] => Nat.le_refl _
  | a :: r => by
    have ih := esc_len which r
    have h1 := (e_cases _ (esc_e which) a).1
    unfold esc at ih ⊢
    rw [List.flatMap_cons, List.length_append, List.length_cons]
    omega
theorem esc_small (which : Int) (l : List Nat) (h : ∀ c ∈ l, c < 128) : ∀ c ∈ esc which l, c < 128 := fun c hc => by
  unfold esc at hc
  obtain ⟨a, ha, hc⟩ := List.mem_flatMap.mp hc
  exact (e_cases _ (esc_e which) a).2 (h a ha) c hc
noncomputable def ppage (x : Str × Int) : Str := S (esc x.2 x.1.cps.toList)
noncomputable def psent (x : Str × Int) : Str := S (dotq true (crlf (esc x.2 x.1.cps.toList)))
theorem ppage_is (x : Str × Int) : (if x.2 == 0 then esc0 x.1 else if x.2 == 1 then esc1 x.1 else esc2 x.1) = ppage x := by
  unfold ppage esc
  split
  · rw [esc0_is]
  · split
    · rw [esc1_is]
    · rw [esc2_is]
end Mine
end

-- C23
section
open PySem PySem.W PyProof.Rows
set_option linter.unusedVariables false
namespace Mine

section
variable {M : Pg} {C : Cx} {Δ : Dl} {n : Nat}
theorem Ok.addVal {F : FD} {g : PM} {h : Heap} {y : Str} {v : Value} {β : Type} {U : Ty β} {b : β} (st : Ok M C Δ F g h) (hr : Rd C.env F.m F.cm y v) (hv : U.rep g v b) : Ok M C ((y, .val U b) :: Δ) F g h :=
  ⟨st.st, st.fr, st.ce, st.nd, v, [], F.as, rfl, hr, ⟨rfl, hv⟩, st.bd⟩
noncomputable def It2S (M : Pg) (C : Cx) (Δ : Dl) (e : Expr) {α β : Type} (S : Ty α) (T : Ty β) (xs : List (α × β)) : Prop :=
  ∀ (F : FD) (g : PM) (s : Shared) (Q : Value → Shared → Prop), Ok M C Δ F g s.heap →
    (∀ I oI g' h' tk fp m Pt St Mid, (∀ i (s : Shared) (Q : Value → Shared → Prop) (E : Value → Shared → Prop), St i s.heap → Q (.ref I) s → wpAny (model M.prog M.w) C.A (pyIter (.ref I)) Q E s) → m = xs.length → Le g g' → Ok M C Δ F g' h' → StR M g' ((I, oI) :: (F.Mn ++ F.P)) h' → Wkr M.prog M.w C.A I fp m Pt St Mid → (∀ b ∈ fp, b = I ∨ ∃ o, g' b = some o) →
      St 0 h' → (∀ i h, St i h → ∃ o, h.get? I = some o) → (∀ i vals, i < m → Pt i vals → ∃ v u a, vals = #[v, u] ∧ xs[i]? = some a ∧ ∀ g'', Le g' g'' → S.rep g'' v a.1 ∧ T.rep g'' u a.2) → Q (.ref I) { s with heap := h', toks := tk }) →
    wpAny (model M.prog M.w) C.A (eval e C.env) (fun x s₁ => wpAny (model M.prog M.w) C.A (pyIter x) Q (fun _ _ => False) s₁) (fun _ _ => False) s

/- a list of pairs -/
theorem It2S.pairs (ok : C.Ok n) {e : Expr} {α β : Type} {S : Ty α} {T : Ty β} {xs : List (α × β)} (h : Ev M C Δ e (tList (tPair S T)) xs) : It2S M C Δ e S T xs := fun F g s Q st hQ =>
  h F g s _ st fun v g1 h1 tk1 l1 st1 ht1 => by
    obtain ⟨a, oa, rfl, hoa, hl⟩ := ht1
    have hget := st1.st.keep _ _ hoa
    obtain ⟨vs, hL, hf⟩ := hl.isList hget
    have hlt : a < h1.objs.size := Heap.lt_size hget
    have hall : ∀ j : Nat, ∃ p : Addr × Value × Value, j < vs.length → ∃ x o, xs[j]? = some x ∧ vs[j]? = some (.ref p.1) ∧ g1 p.1 = some o ∧ TupO g1 o [p.2.1, p.2.2] ∧ S.rep g1 p.2.1 x.1 ∧ T.rep g1 p.2.2 x.2 := fun j => by
      by_cases hj : j < vs.length
      · obtain ⟨x, hx, a', o', v1, v2, e, ho, ht, hr1, hr2⟩ := F2.get hf (List.getElem?_eq_getElem hj)
        exact ⟨(a', v1, v2), fun _ => ⟨x, o', hx, by rw [List.getElem?_eq_getElem hj, e], ho, ht, hr1, hr2⟩⟩
      · exact ⟨(0, .none, .none), fun h => absurd h hj⟩
    have ⟨pf, hpf⟩ := Classical.axiomOfChoice hall
    have hlen : vs.length = xs.length := F2.length hf
    have hTI : ∀ j, j < vs.length → (pf j).1 ≠ h1.objs.size := fun j hj => by
      obtain ⟨x, o, _, _, ho, _⟩ := hpf j hj
      exact Nat.ne_of_lt (Heap.lt_size (st1.st.keep _ _ ho))
    have hTup : ∀ j, j < vs.length → h1.IsTuple (pf j).1 #[(pf j).2.1, (pf j).2.2] := fun j hj => by
      obtain ⟨x, o, _, _, ho, ⟨nn, rfl⟩, _⟩ := hpf j hj
      exact ⟨_, st1.st.keep _ _ ho, rfl, nn, rfl⟩
    refine wpAny_pyIter_list (s := { s with heap := h1, toks := tk1 }) hL ?_
    refine hQ _ _ g1 _ tk1 _ _ _ _ _ (fun i s Q E st hQ => wpAny_pyIter_listiter st.1 hQ) (by simp [hlen]) l1 (st1.heap fun b o e => Heap.get?_push_of_some _ e) (st1.st.push _ rfl)
      (Wkr.ofU (WalksU.listOfTuples (prog := M.prog) (w := M.w) ok.room.handled h1.objs.size a (Nat.ne_of_lt hlt) vs.toArray (fun j => (pf j).1) (fun j => #[(pf j).2.1, (pf j).2.2])
        (fun j hj => by obtain ⟨x, o, _, e, _⟩ := hpf j (by simpa using hj); simpa using e) (fun j hj => hTI j (by simpa using hj)))) ?_ ⟨⟨_, Heap.get?_push_size _ rfl, rfl, rfl⟩, hL.push _, fun k hk => (hTup k (by simpa using hk)).push _⟩ ?_ ?_
    · intro b hb
      rcases List.mem_cons.mp hb with e | hb
      · exact .inl e
      · rcases List.mem_cons.mp hb with e | hb
        · exact .inr ⟨oa, e ▸ hoa⟩
        · obtain ⟨j, hj, rfl⟩ := List.mem_map.mp hb
          obtain ⟨x, o, _, _, ho, _⟩ := hpf j (by simpa using hj)
          exact .inr ⟨o, ho⟩
    · rintro i h ⟨⟨o', ho', _⟩, _⟩
      exact ⟨o', ho'⟩
    · intro i vals hi hv
      obtain ⟨x, o, hx, _, _, _, h1, h2⟩ := hpf i (by simpa using hi)
      exact ⟨_, _, x, hv, hx, fun g'' l => ⟨S.mono l h1, T.mono l h2⟩⟩
theorem compL2 (ok : C.Ok n) {elt iter : Expr} {x y : Str} {px py pt : Pos} {kk : Nat} {scope sc : Scope} {pos : Pos} {Δc : Dl} {α β γ : Type} {xs : List (β × γ)} {S : Ty β} {U : Ty γ} {T : Ty α} (f : β × γ → α)
    (hsc : C.env.scope = sc) (sel : Sel Δ Δc) (cap : Cap C scope sc Δc) (hx : (relabelS scope sc).names.lookup x = some .local) (hdb : (x == ("__debug__" : Str)) = false ∧ (x == ("__classdict__" : Str)) = false) (hy : (relabelS scope sc).names.lookup y = some .local) (hdb2 : (y == ("__debug__" : Str)) = false ∧ (y == ("__classdict__" : Str)) = false) (hxy : x ≠ y)
    (hkind : scope.kind = .function) (hcell : ∀ y ∈ scope.names, y.2 ≠ .cell)
    (he : ∀ a ∈ xs, ∀ L, Ev M (inC C scope L) ((y, .val U a.2) :: (x, .val S a.1) :: Δc) elt T (f a)) (hsz : xs.length ≤ sizeLine)
    {F : FD} {g : PM} {s : Shared} (st : Ok M C Δ F g s.heap) {I : Addr} {oI : Obj} (stI : StR M g ((I, oI) :: (F.Mn ++ F.P)) s.heap) {fp : List Addr} {Pt : Nat → Array Value → Prop} {St : Nat → Heap → Prop} {Mid : Nat → Addr → Heap → Prop} (W : Wkr M.prog M.w C.A I fp xs.length Pt St Mid) (hself : ∀ i (s : Shared) (Q : Value → Shared → Prop) (E : Value → Shared → Prop), St i s.heap → Q (.ref I) s → wpAny (model M.prog M.w) C.A (pyIter (.ref I)) Q E s)
    (hfp : ∀ b ∈ fp, b = I ∨ ∃ o, g b = some o) (hst : St 0 s.heap) (hI : ∀ i h, St i h → ∃ o, h.get? I = some o) (hP : ∀ i vals, i < xs.length → Pt i vals → ∃ v u a, vals = #[v, u] ∧ xs[i]? = some a ∧ ∀ g'', Le g g'' → S.rep g'' v a.1 ∧ U.rep g'' u a.2)
    {RR : Value → Addr → Result → Shared → Prop} {E : Value → Shared → Prop}
    (hR : ∀ D oD Cf oC m' g' h' tk, Le g g' → StR M g' ((D, oD) :: (Cf, oC) :: (F.Mn ++ F.P)) h' → 3 < D → LO T (xs.map f) g' oD → FrO oC m' → RR (.ref D) Cf (.ok .next) { s with heap := h', toks := tk }) :
    wpAny (model M.prog M.w) C.A (newList []) (fun acc s₃ => wpAny (model M.prog M.w) C.A (newFunctionEnv scope C.env.globals (clFrom C.env scope.names []) [] C.env.qual none .none (some C.env)) (fun cenv s₄ =>
      codeAny (model M.prog M.w) C.A (.compStart (.ListComp elt [⟨.Tuple [.Name x px, .Name y py] kk pt, iter, [], 0⟩] scope pos) 0 (.ref I) acc { cenv with scope := relabel scope C.env }) (RR acc cenv.locals) s₄) E s₃) E s := by
  refine wpAny_newObj_type (wpAny_newFunctionEnv hcell (by intro y hy; simp at hy) (fun h₁ hns₁ hsb₁ => ?_) hkind)
  dsimp only at hns₁ hsb₁ ⊢
  have stD : StR M g ((s.heap.objs.size, { cls := .type "list", dict := none, data := .seq ([] : List Value).toArray }) :: ((I, oI) :: (F.Mn ++ F.P))) (s.heap.push { cls := .type "list", dict := none, data := .seq ([] : List Value).toArray }) := stI.push _ rfl
  have hD3 : 3 < s.heap.objs.size := st.st.lt
  have hstD : St 0 (s.heap.push { cls := .type "list", dict := none, data := .seq ([] : List Value).toArray }) := W.frame _ _ _ hst fun b _ o e => Heap.get?_push_of_some _ e
  generalize hH2 : s.heap.push { cls := .type "list", dict := none, data := .seq ([] : List Value).toArray } = H2 at hns₁ hsb₁ stD hstD ⊢
  generalize hDD : s.heap.objs.size = D at stD hD3 hns₁ hsb₁ ⊢
  generalize hCC : H2.objs.size = L at hns₁ hsb₁ ⊢
  have hLnone : H2.get? L = none := by
    cases e : H2.get? L with
    | none => rfl
    | some o' => exact absurd (Heap.lt_size e) (by rw [hCC]; exact Nat.lt_irrefl _)
  obtain ⟨oC, hoC, hfC⟩ := FrO.of_ns hns₁
  have old : ∀ b o, H2.get? b = some o → h₁.get? b = some o := fun b o e => hsb₁.extBut b o (fun e' => by subst e'; rw [hLnone] at e; cases e) (Heap.get?_push_of_some _ e)
  have stC : StR M g ((L, oC) :: ((D, { cls := .type "list", dict := none, data := .seq ([] : List Value).toArray }) :: ((I, oI) :: (F.Mn ++ F.P)))) h₁ := stD.own hLnone old hoC
  have hst₁ : St 0 h₁ := W.frame _ _ _ hstD fun b _ o e => old b o e
  have perm0 : ∀ (c d i : Addr × Obj), (c :: (d :: (i :: (F.Mn ++ F.P)))).Perm ((c :: F.Mn) ++ (d :: i :: F.P)) := fun c d i => by
    refine List.Perm.cons c ?_
    refine (List.Perm.cons d (perm_mid F.Mn F.P i)).trans ?_
    exact perm_mid F.Mn (i :: F.P) d
  have T0 : Turn M C F L D I g (LO T ((xs.take 0).map f)) St 0 g h₁ oC { cls := .type "list", dict := none, data := .seq ([] : List Value).toArray } oI (fun x => ([] : List (Str × Value)).reverse.lookup x) :=
    ⟨.refl _, stC.perm (perm0 _ _ _), hfC, ⟨⟨[], 0, rfl, rfl, .nil⟩, rfl⟩, hst₁⟩
  have loop : ∀ tk, codeAny (model M.prog M.w) C.A (.compLoop (.ListComp elt [⟨.Tuple [.Name x px, .Name y py] kk pt, iter, [], 0⟩] scope pos) 0 (.ref I) (.ref D) (inC C scope L).env) (RR (.ref D) L) { s with heap := h₁, toks := tk } := fun tk => by
    refine kcp_loop
      (fun k s' => ∃ i g' h' tk oC oD oI' m, s' = { s with heap := h', toks := tk } ∧ i ≤ xs.length ∧ k = xs.length + 1 - i ∧ Turn M C F L D I g (LO T ((xs.take i).map f)) St i g' h' oC oD oI' m)
      ?_ (xs.length + 1) ⟨0, g, h₁, tk, oC, _, oI, _, rfl, Nat.zero_le _, rfl, T0⟩
    rintro k s' ⟨i, g', h', tk', oC', oD', oI', m', rfl, hin, rfl, hT⟩
    by_cases hlt : i < xs.length
    · refine W.item i _ _ _ hlt hT.at_ fun TT vals h₂a tk₂ hPi hTT hmid hk₂a => ?_
      refine W.go _ _ _ i TT _ _ _ hmid fun h₂ hst₂ hk₂b => ?_
      have hk₂b' : ∀ b o, b ≠ I → h₂a.get? b = some o → h₂.get? b = some o := hk₂b
      have hk₂ : ∀ b o, b ≠ I → h'.get? b = some o → h₂.get? b = some o := fun b o hb e => hk₂b' b o hb (hk₂a b o hb e)
      obtain ⟨oI₂, hoI₂⟩ := hI _ _ hst₂
      obtain ⟨v, u, a, rfl, hxa, hrep⟩ := hP i vals hlt hPi
      have ham : a ∈ xs := List.mem_of_getElem? hxa
      have hTT₂ : h₂.IsTuple TT #[v, u] := hTT.at fun o e => hk₂b' TT o (W.apart i TT h₂a hmid) e
      have st₂ : StR M g' (((L, oC') :: F.Mn) ++ ((D, oD') :: (I, oI₂) :: F.P)) h₂ := by
        have e : ∀ y, ((L, oC') :: F.Mn) ++ ((D, oD') :: (I, y) :: F.P) = (((L, oC') :: F.Mn) ++ [(D, oD')]) ++ ((I, y) :: F.P) := fun y => by simp
        rw [e]
        exact StR.turnMid (o := oI') (by rw [← e]; exact hT.st) hoI₂ fun b o hb e => hk₂ b o hb e
      have hkx : (inC C scope L).env.kindOf x = some .local := by
        show (relabel scope C.env).names.lookup x = _
        rw [relabel_is, hsc]; exact hx
      have hky : (inC C scope L).env.kindOf y = some .local := by
        show (relabel scope C.env).names.lookup y = _
        rw [relabel_is, hsc]; exact hy
      refine kcp_assign (s := { s with heap := h₂, toks := tk₂ }) ok.room.handled hTT₂ hkx hky (hpC ok hkind) (hT.fr.ns st₂.out.1) fun h₃ tk₃ hn₃ hk₃ => ?_
      have hk₃' : ∀ b o, b ≠ L → h₂.get? b = some o → h₃.get? b = some o := hk₃
      obtain ⟨oC₃, hoC₃, hfC₃⟩ := FrO.of_ns hn₃
      have st₃ : StR M g' (((L, oC₃) :: F.Mn) ++ ((D, oD') :: (I, oI₂) :: F.P)) h₃ := StR.turnHead st₂ hoC₃ hk₃'
      obtain ⟨_, hin2⟩ := mkInner ok st hsc sel cap hT.le st₃ hfC₃
      have ok₃ := (@hin2 x v β S a.1 hx hdb (by simp [hxy]) (hrep g' hT.le).1).addVal (y := y) (v := u) (U := U) (b := a.2) ⟨hdb2.1, hdb2.2, .inl ⟨hky, by simp⟩⟩ (hrep g' hT.le).2
      have stay : ∀ g₄ h₄, Le g' g₄ → StR M g₄ (((L, oC₃) :: F.Mn) ++ ((D, oD') :: (I, oI₂) :: F.P)) h₄ → St (i + 1) h₄ := fun g₄ h₄ l₄ st₄ => by
        refine W.frame _ _ _ hst₂ fun b hb o e => ?_
        rcases hfp b hb with rfl | ⟨o', ho'⟩
        · have e' : h₂.get? b = some o := e
          rw [hoI₂] at e'; cases e'
          exact (st₄.priv (b, oI₂) (by simp)).1
        · have h6 := st₂.keep b o' (hT.le b o' ho')
          have e' : h₂.get? b = some o := e
          rw [h6] at e'; cases e'
          exact st₄.keep b _ (l₄ b _ (hT.le b _ ho'))
      have etake : xs.take (i + 1) = xs.take i ++ [a] := by rw [List.take_add_one, hxa]; rfl
      refine wpAny_mono (he a ham L _ g' _ (fun y s₄ => wpAny (model M.prog M.w) C.A (call (.builtin "list.append") [.ref D, y]) _ _ s₄) ok₃ fun y₀ g₅ h₅ tk₅ l₅ ok₅ hy₀ => ?_) (fun _ _ h => h) fun _ _ h => h.elim
      have st₅ : StR M g₅ (((L, oC₃) :: F.Mn) ++ ((D, oD') :: (I, oI₂) :: F.P)) h₅ := ok₅.st
      obtain ⟨⟨vs, nn, hc, hdat, hf⟩, hdn⟩ := PlainO.mono l₅ hT.po
      have hPL : PlainL h₅ D vs.toArray := ⟨oD', nn, st₅.midOut.1, hc, hdn, hdat⟩
      have hlen : vs.length ≤ sizeLine := by
        rw [F2.length hf, List.length_map]
        have h2 : (xs.take i).length ≤ xs.length := by rw [List.length_take]; omega
        omega
      refine list_append_plainL (s := { s with heap := h₅, toks := tk₅ }) hPL (fun h₆ hP' hs' => ?_) (by rw [List.size_toArray]; exact hlen)
      obtain ⟨o₆, n₆, ho₆, hc₆, hdn₆, hdat₆⟩ := hP'
      have st₆ := st₅.turnMid ho₆ fun b o hb e => hs'.extBut b o hb e
      have hlast : St (i + 1) h₆ := by
        refine W.frame _ _ _ (stay _ _ l₅ st₅) fun b hb o e => ?_
        refine hs'.extBut b o (fun e' => ?_) e
        subst e'
        rcases hfp b hb with e1 | ⟨o', ho'⟩
        · subst e1
          have hn := st₅.nd
          simp only [List.cons_append, List.map_cons, List.map_append, List.nodup_cons, List.nodup_append] at hn
          exact hn.2.2.1.1 (List.mem_cons_self ..)
        · have := st₅.midOut.2
          rw [(hT.le.trans l₅) _ _ ho'] at this; cases this
      refine ⟨xs.length + 1 - (i + 1), by omega, i + 1, g₅, h₆, tk₅, oC₃, o₆, oI₂, _, rfl, hlt, rfl, hT.le.trans l₅, st₆, hfC₃, ?_, hlast⟩
      rw [etake, List.map_append]
      exact ⟨⟨vs ++ [y₀], n₆, hc₆, by rw [hdat₆]; simp, F2.append hf (.cons hy₀ .nil)⟩, hdn₆⟩
    · have hi' : i = xs.length := by omega
      subst hi'
      refine W.done _ _ _ hT.at_ fun h₂ tk₂ hk₂ => ?_
      have e : xs.take xs.length = xs := List.take_length
      have hpo := hT.po
      rw [e] at hpo
      have st0 : StR M g' ((I, oI') :: ((D, oD') :: (L, oC') :: (F.Mn ++ F.P))) h' := by
        refine hT.st.perm ?_
        refine ((perm0 (L, oC') (D, oD') (I, oI')).symm).trans ?_
        refine (List.Perm.cons _ (List.Perm.swap ..)).trans ?_
        refine (List.Perm.swap ..).trans ?_
        exact List.Perm.cons _ (List.Perm.swap ..)
      have st₂ : StR M g' ((D, oD') :: (L, oC') :: (F.Mn ++ F.P)) h₂ := st0.drop.but st0.out.2.1 st0.out.2.2 fun b o hb e => hk₂ b o hb e
      exact hR D oD' L oC' m' g' h₂ tk₂ hT.le st₂ hD3 hpo hT.fr
  refine codeAny_compStart_list (loop _) (hself 0 _ _ _ hst₁ (loop _))


theorem EvO.listComp2 (ok : C.Ok n) {elt iter : Expr} {x y : Str} {px py pt : Pos} {kk : Nat} {scope sc : Scope} {pos : Pos} {Δc : Dl} {α β γ : Type} {xs : List (β × γ)} {S : Ty β} {U : Ty γ} {T : Ty α} (f : β × γ → α)
    (hsc : C.env.scope = sc) (sel : Sel Δ Δc) (cf : CompFacts C scope sc x Δc) (hy : (relabelS scope sc).names.lookup y = some .local) (hdb2 : (y == ("__debug__" : Str)) = false ∧ (y == ("__classdict__" : Str)) = false) (hxy : x ≠ y) (hi : It2S M C Δ iter S U xs)
    (he : ∀ a ∈ xs, ∀ C' : Cx, C'.Ok n → C'.env.scope = relabelS scope sc → Ev M C' ((y, .val U a.2) :: (x, .val S a.1) :: Δc) elt T (f a)) (hsz : xs.length ≤ sizeLine)
    (hs : ∀ v, foldedSetIterable iter C.env v = pure v := by intro _; rfl) :
    EvO M C Δ (.ListComp elt [⟨.Tuple [.Name x px, .Name y py] kk pt, iter, [], 0⟩] scope pos) (LO T (xs.map f)) := fun F g s Q st hQ => by
  have hrs : ∀ L, (inC C scope L).env.scope = relabelS scope sc := fun L => by
    show relabel scope C.env = _
    rw [relabel_is, hsc]
  rw [eval_ListComp]
  refine wpAny_comprehension_free (use := none) rfl hs (closure_is (cap_closed st hsc sel cf.cap)) cf.kind cf.names (hi F g s _ st fun I oI g1 h1 tk1 fp m Pt St Mid hself hm l1 st1 stI W hfp hst hI hP => ?_)
  subst hm
  refine compL2 (s := { s with heap := h1, toks := tk1 }) (RR := fun acc L => compPost (model M.prog M.w) C.A (fun _ _ => False) none Q acc L) ok f hsc sel cf.cap cf.loc cf.dbg hy hdb2 hxy cf.kind cf.cell (fun a ha L => he a ha _ (inC_ok ok cf.kind) (hrs L)) hsz st1 stI W hself hfp hst hI hP ?_
  intro D oD Cf oC m' g' h' tk l stD h3 hpo hfr
  refine ⟨m', hfr.ns stD.drop.out.1, fun h2 hs2 => hQ D oD g' h2 tk (l1.trans l) ?_ h3 hpo⟩
  have st2 : StR M g' ((Cf, oC) :: ((D, oD) :: (F.Mn ++ F.P))) h' := stD.perm (List.Perm.swap ..)
  exact st2.drop.but st2.out.2.1 st2.out.2.2 fun b o hb e => hs2.extBut b o hb e
end
end Mine
end

-- L6
section
open PySem PySem.W PyProof.Rows
set_option linter.unusedVariables false
set_option linter.unusedSimpArgs false
namespace Mine

section
variable {M : Pg} {C : Cx} {Δ : Dl} {n : Nat}
theorem Ev.itemSL (ok : C.Ok n) {x : Str} {i : Expr} {px pos : Pos} {α : Type} {T : Ty α} {xs : List α} {k : Int} {y : α} (hm : (x, Slot.slist T xs) ∈ Δ) (hi : Ev M C Δ i tInt k) (h0 : 0 ≤ k) (hx : xs[k.toNat]? = some y) (hz : k < 2 ^ 62)
    (hs : ∀ o j, subscripted i false o j = operate [o, j] (getItem o j) := by intro _ _; rfl) : Ev M C Δ (.Subscript (.Name x px) i pos) T y := fun F g s Q st hQ => by
  obtain ⟨v, as1, hr, a, o, rfl, _, hM, hd⟩ := st.bd.slot hm
  refine Subscript_at hs (name_at ok st hr (hi F g _ _ st fun j g2 h2 tk2 l2 st2 ht2 => ?_))
  obtain ⟨t, rfl⟩ := ht2
  obtain ⟨vs, hL, hf⟩ := (hd.mono l2).isList ((st2.st.priv _ (List.mem_append_left _ hM)).1)
  obtain ⟨v, hv, hr⟩ := hf.get' hx
  exact ⟨"list", _, Heap.IsList.typeIs (s := { s with heap := h2, toks := tk2 }) hL, slot_list_getitem.lookup, wpAny_getItem_list (s := { s with heap := h2, toks := tk2 }) hL h0 (by omega) (by simpa using hv) (hQ v g2 h2 _ l2 st2 hr)⟩
end

theorem swapL {C : Cx} {n : Nat} (ok : C.Ok n) {elt : Expr} {gens : List Comprehension} {scope : Scope} {pos py : Pos} {y : Str} {l : Nat} (hy : C.env.kindOf y = some .local) (hline : (py.line == pos.line) = true)
    (hn : (scope.names.any fun (n, k) => n == y && (k == .local || k == .cell)) = false) : swapsWith (.ListComp elt gens scope pos) (some (.Name y py)) l C.env = pure true := by
  have hb : C.env.blockKind = .function := by unfold Env.blockKind; rw [ok.kind]; rfl
  show (pure (C.env.blockKind == .function && C.env.kindOf y == some .local && py.line == pos.line && !(scope.names.any fun (n, k) => n == y && (k == .local || k == .cell))) : Sem Bool) = _
  rw [hb, hy, hline, hn]
  rfl
theorem swapD {C : Cx} {n : Nat} (ok : C.Ok n) {kx vx : Expr} {gens : List Comprehension} {scope : Scope} {pos py : Pos} {y : Str} {l : Nat} (hy : C.env.kindOf y = some .local) (hline : (py.line == pos.line) = true)
    (hn : (scope.names.any fun (n, k) => n == y && (k == .local || k == .cell)) = false) : swapsWith (.DictComp kx vx gens scope pos) (some (.Name y py)) l C.env = pure true := by
  have hb : C.env.blockKind = .function := by unfold Env.blockKind; rw [ok.kind]; rfl
  show (pure (C.env.blockKind == .function && C.env.kindOf y == some .local && py.line == pos.line && !(scope.names.any fun (n, k) => n == y && (k == .local || k == .cell))) : Sem Bool) = _
  rw [hb, hy, hline, hn]
  rfl
theorem compFactsN {C : Cx} {scope sc : Scope} {x : Str} {Δc : Dl} (caps : List Str) (hv : Vals Δc) (h : compOk scope sc x caps = true) (hc : Δc.map (·.1) = caps := by rfl) : CompFacts C scope sc x Δc := compFacts hv (hc ▸ h)
theorem getD_is {l : List Int} {k : Nat} (h : k < l.length) : l[k]? = some (l.getD k 0) := by simp [List.getD, h]
noncomputable def drawStep (script : List Int) (d : List Int) (k : Int) : List Int := d.set (k.fmod 7).toNat (d.getD (k.fmod 7).toNat 0 + (script.getD k.toNat 0).fmod 1000000)
noncomputable def pdrawn (script : List Int) : List Int := ((List.range script.length).map fun (j : Nat) => (0 : Int) + (j : Int)).foldl (drawStep script) [0, 3, 0, 2, 0, 0, 1]
theorem draw_len (script : List Int) : ∀ (l : List Int) (d : List Int), (l.foldl (drawStep script) d).length = d.length
  | [], d => rfl
  | k :: r, d => by rw [List.foldl_cons, draw_len script r, drawStep, List.length_set]

theorem dset_mem {α : Type} {kvs : List (Str × α)} {k : Str} {v : α} {q : Str × α} (h : q ∈ dset kvs k v) : q ∈ kvs ∨ q.2 = v := by
  unfold dset at h
  split at h
  · obtain ⟨p, hp, rfl⟩ := List.mem_map.mp h
    split
    · exact .inr rfl
    · exact .inl hp
  · rcases List.mem_append.mp h with h | h
    · exact .inl h
    · rw [List.mem_singleton.mp h]; exact .inr rfl
theorem dget_mem {α : Type} {kvs : List (Str × α)} {k : Str} {v : α} (h : dget kvs k = some v) : (k, v) ∈ kvs := by
  unfold dget at h
  cases e : kvs.find? fun kv => kv.1 = k with
  | none => rw [e] at h; cases h
  | some p =>
    rw [e] at h
    simp only [Option.map_some, Option.some.injEq] at h
    have h1 := List.mem_of_find?_eq_some e
    have h2 : p.1 = k := by simpa using List.find?_some e
    rw [← h2, ← h]
    exact h1

noncomputable abbrev Tab := List (Str × Int)
noncomputable abbrev Prof := List (Str × Five Tab)
noncomputable def zeroF : Five Tab := ⟨0, 0, 0, 0, []⟩
noncomputable def codeOf (sign : Str) : Int := ((sign.cps.getD 0 0 : Nat) : Int)
noncomputable def entryOf (a sign : Str) : Five Tab := ⟨if sign == a then 0 else 1, 1, codeOf sign, (if sign == a then 0 else 1) * codeOf sign, [(a, 1)]⟩
noncomputable def profStep (s : Prof × Str) (sign : Str) : Prof × Str := (dset s.1 sign (paddf ((dget s.1 sign).getD zeroF, entryOf s.2 sign)), sign)
noncomputable def signs (x : Str) : List Str := x.cps.toList.map fun c => (⟨#[c]⟩ : Str)
noncomputable def pprofile (x : Str) : Prof := ((signs x).foldl profStep ([], "")).1
structure ProfSmall (k : Nat) (p : Prof) : Prop where
  len : p.length ≤ k
  call : ∀ q ∈ p, q.2.callers.length ≤ k
theorem ProfSmall.step {k : Nat} {s : Prof × Str} (h : ProfSmall k s.1) (sign : Str) : ProfSmall (k + 1) (profStep s sign).1 := by
  have hd : ((dget s.1 sign).getD zeroF).callers.length ≤ k := by
    cases e : dget s.1 sign with
    | none => exact Nat.zero_le _
    | some f => exact h.call _ (dget_mem e)
  refine ⟨?_, fun q hq => ?_⟩
  · have h1 := dset_length s.1 sign (paddf ((dget s.1 sign).getD zeroF, entryOf s.2 sign))
    have h2 := h.len
    show (dset _ _ _).length ≤ _
    omega
  · rcases dset_mem hq with hq | hq
    · have := h.call q hq; omega
    · rw [hq]
      have h1 := paddc_len (((dget s.1 sign).getD zeroF).callers, (entryOf s.2 sign).callers)
      have h2 : (entryOf s.2 sign).callers.length = 1 := rfl
      simp only [h2] at h1
      show (paddc (((dget s.1 sign).getD zeroF).callers, (entryOf s.2 sign).callers)).length ≤ _
      omega
theorem prof_small : ∀ (l : List Str) (s : Prof × Str) (k : Nat), ProfSmall k s.1 → ProfSmall (k + l.length) (l.foldl profStep s).1
  | [], s, k, h => h
  | a :: r, s, k, h => by
    have := prof_small r (profStep s a) (k + 1) (h.step a)
    rw [List.foldl_cons, List.length_cons, show k + (r.length + 1) = k + 1 + r.length by omega]
    exact this
theorem prof_take (l : List Str) (i : Nat) : ProfSmall l.length ((l.take i).foldl profStep ([], "")).1 := by
  have h := prof_small (l.take i) ([], "") 0 ⟨Nat.le_refl _, fun q hq => by cases hq⟩
  have h2 : (l.take i).length ≤ l.length := by rw [List.length_take]; omega
  exact ⟨by have := h.len; omega, fun q hq => by have := h.call q hq; omega⟩

noncomputable abbrev Told := List (Str × Tab)
noncomputable def newIn (p : Told) (k : Str) : Told := if (dget p k).isSome then p else dset p k []
noncomputable def pairStep (s : Told × Str) (sign : Str) : Told × Str :=
  let p := newIn s.1 sign
  let d := (dget p sign).getD []
  (dset p sign (dset d s.2 ((dget d s.2).getD 0 + 1)), sign)
noncomputable def ppairs (x : Str) : Told := ((signs x).foldl pairStep ([], "")).1
structure ToldSmall (k : Nat) (p : Told) : Prop where
  len : p.length ≤ k
  call : ∀ q ∈ p, q.2.length ≤ k
theorem dget_dset_same {α : Type} (kvs : List (Str × α)) (k : Str) (v : α) : dget (dset kvs k v) k = some v := by
  cases h : dget kvs k with
  | none =>
    rw [dset_of_none h]
    unfold dget at h ⊢
    rw [Option.map_eq_none_iff] at h
    rw [List.find?_append, h]
    simp
  | some d =>
    rw [dset_of_some h]
    induction kvs with
    | nil => simp [dget] at h
    | cons p r ih =>
      unfold dget at h ih ⊢
      rw [List.find?_cons] at h
      rw [List.map_cons, List.find?_cons]
      by_cases hp : p.1 = k
      · simp [hp]
      · simp only [hp, if_false, decide_false] at h ⊢
        exact ih h
theorem newIn_some (p : Told) (k : Str) : ∃ d, dget (newIn p k) k = some d := by
  unfold newIn
  split
  · rename_i h; exact Option.isSome_iff_exists.mp h
  · exact ⟨[], dget_dset_same ..⟩
theorem ToldSmall.newIn {k : Nat} {p : Told} (h : ToldSmall k p) (x : Str) : ToldSmall (k + 1) (newIn p x) := by
  unfold Mine.newIn
  split
  · exact ⟨by have := h.len; omega, fun q hq => by have := h.call q hq; omega⟩
  · refine ⟨?_, fun q hq => ?_⟩
    · have h1 := dset_length p x ([] : Tab)
      have := h.len
      omega
    · rcases dset_mem hq with hq | hq
      · have := h.call q hq; omega
      · rw [hq]; exact Nat.zero_le _
theorem ToldSmall.get {k : Nat} {p : Told} {x : Str} {d : Tab} (h : ToldSmall k p) (e : dget p x = some d) : d.length ≤ k := h.call _ (dget_mem e)
theorem ToldSmall.step {k : Nat} {p : Told} (h : ToldSmall k p) (x a : Str) (v : Int) : ToldSmall (k + 1) (dset (Mine.newIn p x) x (dset ((dget (Mine.newIn p x) x).getD []) a v)) := by
  obtain ⟨d, hd⟩ := newIn_some p x
  have hdl : d.length ≤ k := by
    unfold Mine.newIn at hd
    split at hd
    · exact h.get hd
    · rw [dget_dset_same] at hd
      cases hd
      exact Nat.zero_le _
  refine ⟨?_, fun q hq => ?_⟩
  · rw [dset_of_some hd, List.length_map]
    exact (h.newIn x).len
  · rcases dset_mem hq with hq | hq
    · unfold Mine.newIn at hq
      split at hq
      · have := h.call q hq; omega
      · rcases dset_mem hq with hq | hq
        · have := h.call q hq; omega
        · rw [hq]; exact Nat.zero_le _
    · rw [hq, hd]
      have := dset_length d a v
      show (dset d a v).length ≤ _
      omega
theorem told_small : ∀ (l : List Str) (s : Told × Str) (k : Nat), ToldSmall k s.1 → ToldSmall (k + l.length) (l.foldl pairStep s).1
  | [], s, k, h => h
  | a :: r, s, k, h => by
    have := told_small r (pairStep s a) (k + 1) (h.step a s.2 _)
    rw [List.foldl_cons, List.length_cons, show k + (r.length + 1) = k + 1 + r.length by omega]
    exact this
theorem told_take (l : List Str) (i : Nat) : ToldSmall l.length ((l.take i).foldl pairStep ([], "")).1 := by
  have h := told_small (l.take i) ([], "") 0 ⟨Nat.le_refl _, fun q hq => by cases hq⟩
  have h2 : (l.take i).length ≤ l.length := by rw [List.length_take]; omega
  exact ⟨by have := h.len; omega, fun q hq => by have := h.call q hq; omega⟩
theorem dget_keys {α : Type} (kvs : List (Str × α)) (k : Str) : (dget (kvs.map fun q => (q.1, ())) k).isSome = (dget kvs k).isSome := by
  unfold dget
  induction kvs with
  | nil => rfl
  | cons p r ih =>
    rw [List.map_cons, List.find?_cons, List.find?_cons]
    by_cases h : p.1 = k
    · simp [h]
    · simp only [h, decide_false]; exact ih

noncomputable def bareOf (names : List (Str × Str)) : List Str := (["\r", "\n"] : List Str).filter fun e => !(dget names e).isSome
noncomputable def pbecomes (x : Str × Str × List (Str × Str)) : Str :=
  let bare := bareOf x.2.2
  match dget x.2.2 x.2.1 with
  | some v => v
  | none =>
    if x.2.1 == "." then (if x.1 == "" || bare.any (· == x.1) then ".." else ".")
    else if x.2.1 == "\n" && x.1 == "\r" && bare.any (· == x.1) then ""
    else if bare.any (· == x.2.1) then "\r\n" else x.2.1
end Mine
end

-- L7
section
open PySem PySem.W PyProof.Rows
set_option linter.unusedVariables false
set_option linter.unusedSimpArgs false
namespace Mine

theorem ToldSmall.mono {k k' : Nat} {p : Told} (h : ToldSmall k p) (hk : k ≤ k') : ToldSmall k' p := ⟨by have := h.len; omega, fun q hq => by have := h.call q hq; omega⟩
noncomputable def toldOne (v : Int) (s : Told × Str) (one : Str) : Told × Str :=
  let p := newIn s.1 one
  let d := (dget p one).getD []
  (dset p one (dset d s.2 ((dget d s.2).getD 0 + v)), one)
noncomputable def toldAhead (names : List (Str × Str)) (sign : Str) (callers : Tab) (t : Told) (ahead : Str) : Told := ((signs (pbecomes (ahead, sign, names))).foldl (toldOne ((dget callers ahead).getD 0)) (t, plast (ahead, names))).1
noncomputable def callersOf (p : Prof) (sign : Str) : Tab := ((dget p sign).getD zeroF).callers
noncomputable def toldSign (p : Prof) (names : List (Str × Str)) (t : Told) (sign : Str) : Told := ((callersOf p sign).map (·.1)).foldl (toldAhead names sign (callersOf p sign)) t
noncomputable def ptold (x : Prof × List (Str × Str)) : Told := (x.1.map (·.1)).foldl (toldSign x.1 x.2) []
theorem fold_small {β σ : Type} (R : Nat → σ → Prop) (hm : ∀ k k' s, R k s → k ≤ k' → R k' s) {f : σ → β → σ} (c : Nat) : ∀ (l : List β) (s : σ) (k : Nat), (∀ b ∈ l, ∀ k s, R k s → R (k + c) (f s b)) → R k s → R (k + c * l.length) (l.foldl f s)
  | [], s, k, _, h => h
  | b :: r, s, k, hf, h => by
    have := fold_small R hm c r (f s b) (k + c) (fun b hb => hf b (List.mem_cons_of_mem _ hb)) (hf b (List.mem_cons_self ..) k s h)
    rw [List.foldl_cons, List.length_cons, show k + c * (r.length + 1) = k + c + c * r.length by rw [Nat.mul_add, Nat.mul_one]; omega]
    exact this
theorem toldOne_small {v : Int} {k : Nat} {s : Told × Str} (h : ToldSmall k s.1) (one : Str) : ToldSmall (k + 1) (toldOne v s one).1 := h.step one s.2 _
theorem toldOne_fold {v : Int} (l : List Str) {k : Nat} {s : Told × Str} (h : ToldSmall k s.1) : ToldSmall (k + 1 * l.length) (l.foldl (toldOne v) s).1 :=
  fold_small (fun k (s : Told × Str) => ToldSmall k s.1) (fun _ _ _ h hk => h.mono hk) 1 l s k (fun b _ k s h => toldOne_small h b) h

/- the prerequisites of what is told -/
structure ProfOk (p : Prof) (names : List (Str × Str)) : Prop where
  len : p.length ≤ 100
  call : ∀ q ∈ p, q.2.callers.length ≤ 100
  sign : ∀ q ∈ p, q.1.length ≤ 10
  names : ∀ q ∈ names, q.2.length ≤ 10
theorem becomes_len {names : List (Str × Str)} (h : ∀ q ∈ names, q.2.length ≤ 10) {a s : Str} (hs : s.length ≤ 10) : (pbecomes (a, s, names)).length ≤ 10 := by
  unfold pbecomes
  dsimp only
  cases e : dget names s with
  | some v => exact h _ (dget_mem e)
  | none =>
    dsimp only
    split
    · split <;> decide
    · split
      · decide
      · split
        · decide
        · exact hs
theorem signs_len (x : Str) : (signs x).length = x.length := by unfold signs; rw [List.length_map]; rfl
theorem toldAhead_small {names : List (Str × Str)} (h : ∀ q ∈ names, q.2.length ≤ 10) {s : Str} (hs : s.length ≤ 10) (c : Tab) {k : Nat} {t : Told} (ht : ToldSmall k t) (a : Str) : ToldSmall (k + 10) (toldAhead names s c t a) := by
  have h1 := toldOne_fold (v := (dget c a).getD 0) (signs (pbecomes (a, s, names))) (s := (t, plast (a, names))) ht
  refine ToldSmall.mono h1 ?_
  have := becomes_len h (a := a) hs
  rw [signs_len]
  omega
theorem toldSign_small {p : Prof} {names : List (Str × Str)} (h : ProfOk p names) {s : Str} (hs : s ∈ p.map (·.1)) {k : Nat} {t : Told} (ht : ToldSmall k t) : ToldSmall (k + 1000) (toldSign p names t s) := by
  obtain ⟨q, hq, rfl⟩ := List.mem_map.mp hs
  have hl : (callersOf p q.1).length ≤ 100 := by
    unfold callersOf
    cases e : dget p q.1 with
    | none => exact Nat.zero_le _
    | some f => exact h.call _ (dget_mem e)
  have h1 := fold_small ToldSmall (fun _ _ _ h hk => h.mono hk) 10 ((callersOf p q.1).map (·.1)) t k (fun b _ k s hk => toldAhead_small h.names (h.sign q hq) (callersOf p q.1) hk b) ht
  refine ToldSmall.mono h1 ?_
  rw [List.length_map]
  omega
theorem told_at {p : Prof} {names : List (Str × Str)} (h : ProfOk p names) (i : Nat) : ToldSmall 100000 (((p.map (·.1)).take i).foldl (toldSign p names) []) := by
  have h1 := fold_small ToldSmall (fun _ _ _ h hk => h.mono hk) 1000 ((p.map (·.1)).take i) [] 0 (fun b hb k s hk => toldSign_small h (List.mem_of_mem_take hb) hk) ⟨Nat.le_refl _, fun q hq => by cases hq⟩
  refine h1.mono ?_
  have h2 : ((p.map (·.1)).take i).length ≤ p.length := by rw [List.length_take, List.length_map]; omega
  have := h.len
  omega
theorem dget_key {α : Type} {kvs : List (Str × α)} {k : Str} (h : k ∈ kvs.map (·.1)) : ∃ v, dget kvs k = some v := by
  cases e : dget kvs k with
  | some v => exact ⟨v, rfl⟩
  | none =>
    unfold dget at e
    rw [Option.map_eq_none_iff, List.find?_eq_none] at e
    obtain ⟨q, hq, rfl⟩ := List.mem_map.mp h
    exact absurd (by simp) (e q hq)

noncomputable def callsOf (t : Tab) : Int := ((t.map (·.1)).map fun a => (dget t a).getD 0).sum
noncomputable def dueStep (told : Told) (d : Prof) (sign : Str) : Prof :=
  let t := (dget told sign).getD []
  dset d sign ⟨callsOf t - (dget t sign).getD 0, callsOf t, callsOf t * codeOf sign, (callsOf t - (dget t sign).getD 0) * codeOf sign, t⟩
noncomputable def pdue (told : Told) : Prof := (told.map (·.1)).foldl (dueStep told) []
structure ToldOk (t : Told) : Prop where
  len : t.length ≤ 1000
  call : ∀ q ∈ t, q.2.length ≤ 1000
  num : ∀ q ∈ t, ∀ r ∈ q.2, -1000000 ≤ r.2 ∧ r.2 ≤ 1000000
  sign : ∀ q ∈ t, ∃ c, c < 1000000 ∧ q.1 = ⟨#[c]⟩
theorem due_len (told : Told) (l : List Str) (d : Prof) : (l.foldl (dueStep told) d).length ≤ d.length + l.length := fold_len (fun a b => dset_length ..) l d
theorem sum_bound {B : Int} : ∀ (l : List Int), (∀ x ∈ l, -B ≤ x ∧ x ≤ B) → -(B * l.length) ≤ l.sum ∧ l.sum ≤ B * l.length
  | [], _ => by simp
  | a :: r, h => by
    have ih := sum_bound r fun x hx => h x (List.mem_cons_of_mem _ hx)
    have ha := h a (List.mem_cons_self ..)
    rw [List.sum_cons, List.length_cons]
    have e : B * ((r.length + 1 : Nat) : Int) = B * (r.length : Int) + B := by push_cast; rw [Int.mul_add, Int.mul_one]
    rw [e]
    omega
theorem long_ok {l : List Int} (h : ∀ x ∈ l, -1000000 ≤ x ∧ x ≤ 1000000) (hl : l.length ≤ 1000) : ∀ j, j < l.length → InLong (l.getD j 0) ∧ InLong (l.take (j + 1)).sum := fun j hj => by
  have h1 : l.getD j 0 ∈ l := by
    have : l.getD j 0 = l[j] := by simp [List.getD, hj]
    rw [this]; exact List.getElem_mem hj
  have h2 := sum_bound (B := 1000000) (l.take (j + 1)) fun x hx => h x (List.mem_of_mem_take hx)
  have h3 : (l.take (j + 1)).length ≤ 1000 := by rw [List.length_take]; omega
  have h4 := h _ h1
  unfold InLong
  omega

noncomputable def behindAt (x : Str) (k : Nat) : Str := S ((x.cps.toList.drop (k - 1)).take (k - (k - 1)))
noncomputable def charAt (x : Str) (k : Nat) : Str := ⟨#[x.cps.getD k 0]⟩
noncomputable def ppg (x : Str × List (Str × Str)) : Str := Txt.join ⟨#[]⟩ (((List.range x.1.length)).map fun k => pbecomes (behindAt x.1 k, charAt x.1 k, x.2))
end Mine
end

-- L8
section
open PySem PySem.W PyProof.Rows
set_option linter.unusedVariables false
set_option linter.unusedSimpArgs false
namespace Mine

theorem dset_mem2 {α : Type} {kvs : List (Str × α)} {k : Str} {v : α} {q : Str × α} (h : q ∈ dset kvs k v) : q ∈ kvs ∨ q = (k, v) := by
  unfold dset at h
  split at h
  · obtain ⟨p, hp, rfl⟩ := List.mem_map.mp h
    split
    · rename_i e; exact .inr (by rw [e])
    · exact .inl hp
  · rcases List.mem_append.mp h with h | h
    · exact .inl h
    · exact .inr (List.mem_singleton.mp h)
theorem dsets_mem {α : Type} {q : Str × α} : ∀ {l acc : List (Str × α)}, q ∈ dsets acc l → q ∈ acc ∨ q ∈ l
  | [], acc, h => .inl h
  | p :: r, acc, h => by
    rcases dsets_mem (l := r) (acc := dset acc p.1 p.2) h with h | h
    · rcases dset_mem2 h with h | h
      · exact .inl h
      · exact .inr (h ▸ List.mem_cons_self ..)
    · exact .inr (List.mem_cons_of_mem _ h)

noncomputable def copyT (left : Told) : Told := dsets [] ((left.map (·.1)).map fun o => (o, (dget left o).getD []))
noncomputable def copyP (p : Prof) : Told := dsets [] ((p.map (·.1)).map fun s => (s, callersOf p s))
noncomputable def lastOf (t : Str) : Str := ⟨#[t.cps.getD (t.length - 1) 0]⟩
noncomputable abbrev Ways := List (Str × Told)
noncomputable def lessOf (left : Told) (sign last : Str) : Told := dset (copyT left) sign (paddc ((dget left sign).getD [], [(last, -1)]))
noncomputable def wayStep (text : Str) (left : Told) (acc : Ways) (sign : Str) : Ways :=
  if decide (0 < (dget ((dget left sign).getD []) (lastOf text)).getD 0) then acc ++ [(text ++ sign, lessOf left sign (lastOf text))] else acc
noncomputable def wayText (acc : Ways) (w : Str × Told) : Ways := (w.2.map (·.1)).foldl (wayStep w.1 w.2) acc
noncomputable def longerOf (ways : Ways) (_ : Int) : Ways := ways.foldl wayText []
noncomputable def pways (x : Prof × Str × Int) : Ways := ((List.range (x.2.2 - 1).toNat).map fun (j : Nat) => (1 : Int) + (j : Int)).foldl longerOf [(x.2.1, copyP x.1)]
noncomputable def ptexts (x : Prof × Str × Int) : List Str := (pways x).map (·.1)

structure WayOk (i : Nat) (w : Str × Told) : Prop where
  text : w.1.length = i + 1
  len : w.2.length ≤ 8 + i
  call : ∀ q ∈ w.2, q.2.length ≤ 100 + i
  key : ∀ q ∈ w.2, q.1.length = 1
structure WaysOk (i : Nat) (ways : Ways) : Prop where
  len : ways.length ≤ 14 ^ i
  all : ∀ w ∈ ways, WayOk i w
theorem copyT_len (left : Told) : (copyT left).length ≤ left.length := by
  have := dsets_length ((left.map (·.1)).map fun o => (o, (dget left o).getD [])) ([] : Told)
  rw [List.length_nil, List.length_map, List.length_map] at this
  unfold copyT
  omega
theorem copyT_mem {left : Told} {q : Str × Tab} (h : q ∈ copyT left) : q.1 ∈ left.map (·.1) ∧ q.2 = (dget left q.1).getD [] := by
  unfold copyT at h
  rcases dsets_mem h with h | h
  · cases h
  · obtain ⟨o, ho, rfl⟩ := List.mem_map.mp h
    exact ⟨ho, rfl⟩
theorem less_ok {i : Nat} {w : Str × Told} (h : WayOk i w) {sign : Str} (hs : sign ∈ w.2.map (·.1)) : WayOk (i + 1) (w.1 ++ sign, lessOf w.2 sign (lastOf w.1)) := by
  have hsl : sign.length = 1 := by
    obtain ⟨q, hq, rfl⟩ := List.mem_map.mp hs
    exact h.key q hq
  have hget : ∀ k, ((dget w.2 k).getD []).length ≤ 100 + i := fun k => by
    cases e : dget w.2 k with
    | none => exact Nat.zero_le _
    | some v => exact h.call _ (dget_mem e)
  refine ⟨?_, ?_, fun q hq => ?_, fun q hq => ?_⟩
  · show (w.1 ++ sign).length = _
    rw [Str.length_append, h.text, hsl]
  · have h1 := dset_length (copyT w.2) sign (paddc ((dget w.2 sign).getD [], [(lastOf w.1, -1)]))
    have h2 := copyT_len w.2
    have h3 := h.len
    show (dset _ _ _).length ≤ _
    omega
  · rcases dset_mem2 hq with hq | hq
    · obtain ⟨_, h2⟩ := copyT_mem hq
      rw [h2]
      have := hget q.1
      omega
    · rw [hq]
      have h1 := paddc_len ((dget w.2 sign).getD [], [(lastOf w.1, (-1 : Int))])
      have h2 := hget sign
      simp only [List.length_cons, List.length_nil] at h1
      show (paddc _).length ≤ _
      omega
  · rcases dset_mem2 hq with hq | hq
    · obtain ⟨h1, _⟩ := copyT_mem hq
      obtain ⟨p, hp, e⟩ := List.mem_map.mp h1
      rw [← e]
      exact h.key p hp
    · rw [hq]; exact hsl
/- a row of ways that grows -/
structure Growing (i k : Nat) (acc : Ways) : Prop where
  len : acc.length ≤ k
  all : ∀ w ∈ acc, WayOk (i + 1) w
theorem Growing.mono {i k k' : Nat} {acc : Ways} (h : Growing i k acc) (hk : k ≤ k') : Growing i k' acc := ⟨by have := h.len; omega, h.all⟩
theorem wayStep_ok {i k : Nat} {w : Str × Told} (h : WayOk i w) {acc : Ways} (ha : Growing i k acc) {sign : Str} (hs : sign ∈ w.2.map (·.1)) : Growing i (k + 1) (wayStep w.1 w.2 acc sign) := by
  unfold wayStep
  split
  · refine ⟨?_, fun x hx => ?_⟩
    · rw [List.length_append, List.length_singleton]; have := ha.len; omega
    · rcases List.mem_append.mp hx with hx | hx
      · exact ha.all x hx
      · rw [List.mem_singleton.mp hx]; exact less_ok h hs
  · exact ha.mono (by omega)
theorem waySteps_ok {i k : Nat} {w : Str × Told} (h : WayOk i w) {acc : Ways} (ha : Growing i k acc) (l : List Str) (hl : ∀ s ∈ l, s ∈ w.2.map (·.1)) : Growing i (k + 1 * l.length) (l.foldl (wayStep w.1 w.2) acc) :=
  fold_small (Growing i) (fun _ _ _ h hk => h.mono hk) 1 l acc k (fun b hb k s hk => wayStep_ok h hk (hl b hb)) ha
theorem wayText_ok {i k : Nat} (hi : i ≤ 6) {w : Str × Told} (h : WayOk i w) {acc : Ways} (ha : Growing i k acc) : Growing i (k + 14) (wayText acc w) := by
  have h1 := waySteps_ok h ha (w.2.map (·.1)) (fun s hs => hs)
  refine h1.mono ?_
  rw [List.length_map]
  have := h.len
  omega
theorem wayTexts_ok {i k : Nat} (hi : i ≤ 6) {acc : Ways} (ha : Growing i k acc) (l : Ways) (hl : ∀ w ∈ l, WayOk i w) : Growing i (k + 14 * l.length) (l.foldl wayText acc) :=
  fold_small (Growing i) (fun _ _ _ h hk => h.mono hk) 14 l acc k (fun b hb k s hk => wayText_ok hi (hl b hb) hk) ha
theorem longer_ok {i : Nat} (hi : i ≤ 6) {ways : Ways} (h : WaysOk i ways) (s : Int) : WaysOk (i + 1) (longerOf ways s) := by
  have h1 := wayTexts_ok hi (k := 0) (acc := []) ⟨Nat.le_refl _, fun w hw => by cases hw⟩ ways h.all
  refine ⟨?_, h1.all⟩
  have h2 := h1.len
  have h3 := h.len
  rw [Nat.pow_succ]
  unfold longerOf
  omega
theorem ways_ok {ways : Ways} (h : WaysOk 0 ways) : ∀ (l : List Int), l.length ≤ 6 → WaysOk l.length (l.foldl longerOf ways) := by
  suffices hh : ∀ (l : List Int) (i : Nat) (ways : Ways), i + l.length ≤ 6 → WaysOk i ways → WaysOk (i + l.length) (l.foldl longerOf ways) by
    intro l hl
    have := hh l 0 ways (by omega) h
    rwa [Nat.zero_add] at this
  intro l
  induction l with
  | nil => intro i ways _ h; exact h
  | cons a r ih =>
    intro i ways hl h
    rw [List.length_cons] at hl
    have := ih (i + 1) (longerOf ways a) (by omega) (longer_ok (by omega) h a)
    rw [List.foldl_cons, List.length_cons, show i + (r.length + 1) = i + 1 + r.length by omega]
    exact this
structure TextsOk (x : Prof × Str × Int) : Prop where
  len : x.1.length ≤ 8
  call : ∀ q ∈ x.1, q.2.callers.length ≤ 100
  key : ∀ q ∈ x.1, q.1.length = 1
  first : x.2.1.length = 1
  size : x.2.2 ≤ 7
  lo : -(2 ^ 60) ≤ x.2.2
theorem copyP_ok {x : Prof × Str × Int} (h : TextsOk x) : WaysOk 0 [(x.2.1, copyP x.1)] := by
  refine ⟨by show 1 ≤ 1; omega, fun w hw => ?_⟩
  rw [List.mem_singleton.mp hw]
  have hm : ∀ q ∈ copyP x.1, q.1 ∈ x.1.map (·.1) ∧ q.2 = callersOf x.1 q.1 := fun q hq => by
    rcases dsets_mem hq with hq | hq
    · cases hq
    · obtain ⟨o, ho, rfl⟩ := List.mem_map.mp hq
      exact ⟨ho, rfl⟩
  refine ⟨h.first, ?_, fun q hq => ?_, fun q hq => ?_⟩
  · have := dsets_length ((x.1.map (·.1)).map fun s => (s, callersOf x.1 s)) ([] : Told)
    rw [List.length_nil, List.length_map, List.length_map] at this
    have h1 := h.len
    show (copyP x.1).length ≤ _
    unfold copyP
    omega
  · rw [(hm q hq).2]
    unfold callersOf
    cases e : dget x.1 q.1 with
    | none => exact Nat.zero_le _
    | some f => exact h.call _ (dget_mem e)
  · obtain ⟨p, hp, e⟩ := List.mem_map.mp (hm q hq).1
    rw [← e]
    exact h.key p hp
end Mine
end

-- L9
section
open PySem PySem.W PyProof.Rows
set_option linter.unusedVariables false
set_option linter.unusedSimpArgs false
namespace Mine

noncomputable def minorOf (t : List (List Int)) (k : Nat) : List (List Int) := (t.drop 1).map fun row => row.take k ++ row.drop (k + 1)
noncomputable def detStep (d : List (List Int) → Int) (t : List (List Int)) (tot : Int) (k : Int) : Int := tot + (-1) ^ k.toNat * (t.headD []).getD k.toNat 0 * d (minorOf t k.toNat)
noncomputable def pdet : Nat → List (List Int) → Int
  | 0, _ => 1
  | n + 1, t => ((List.range t.length).map fun (j : Nat) => (0 : Int) + (j : Int)).foldl (detStep (pdet n) t) 0
structure DetOk (n : Nat) (t : List (List Int)) : Prop where
  len : t.length = n
  row : ∀ r ∈ t, r.length = n
  ent : ∀ r ∈ t, ∀ x ∈ r, -1000 ≤ x ∧ x ≤ 1000
theorem minor_ok {n : Nat} {t : List (List Int)} (h : DetOk (n + 1) t) {k : Nat} (hk : k < n + 1) : DetOk n (minorOf t k) := by
  refine ⟨?_, fun r hr => ?_, fun r hr x hx => ?_⟩
  · unfold minorOf
    rw [List.length_map, List.length_drop, h.len]
    omega
  · obtain ⟨q, hq, rfl⟩ := List.mem_map.mp hr
    have := h.row q (List.mem_of_mem_drop hq)
    rw [List.length_append, List.length_take, List.length_drop]
    omega
  · obtain ⟨q, hq, rfl⟩ := List.mem_map.mp hr
    refine h.ent q (List.mem_of_mem_drop hq) x ?_
    rcases List.mem_append.mp hx with hx | hx
    · exact List.mem_of_mem_take hx
    · exact List.mem_of_mem_drop hx
theorem pow_neg1 (k : Nat) : ((-1 : Int) ^ k).natAbs = 1 := by
  rw [Int.natAbs_pow]
  simp
theorem fact_small : ∀ n : Nat, n ≤ 8 → (pfact (n : Int)).natAbs ≤ 40320 := by decide
theorem fact_small7 : ∀ n : Nat, n ≤ 7 → (pfact (n : Int)).natAbs ≤ 5040 := by decide
theorem fact_is {i : Int} (h0 : 0 ≤ i) (h1 : i ≤ 8) : (pfact i).natAbs ≤ 40320 := by
  have := fact_small i.toNat (by omega)
  rwa [Int.toNat_of_nonneg h0] at this
theorem fact_is7 {i : Int} (h0 : 0 ≤ i) (h1 : i ≤ 7) : (pfact i).natAbs ≤ 5040 := by
  have := fact_small7 i.toNat (by omega)
  rwa [Int.toNat_of_nonneg h0] at this

noncomputable def rowStep (p : Prof) (last sign : Str) (row : List Int) (other : Str) : List Int :=
  if other == sign then row ++ [pcount (callersOf p sign) - (dget (callersOf p sign) sign).getD 0]
  else if other != last then row ++ [-(dget (callersOf p other) sign).getD 0] else row
noncomputable def sharedStep (c : Tab) (sh : Int) (a : Str) : Int := sh * pfact ((dget c a).getD 0)
noncomputable def whitStep (p : Prof) (last : Str) (s : Int × Int × List (List Int)) (sign : Str) : Int × Int × List (List Int) :=
  (s.1 * pfact (pcount (callersOf p sign) - 1), ((callersOf p sign).map (·.1)).foldl (sharedStep (callersOf p sign)) s.2.1,
    if sign != last then s.2.2 ++ [(p.map (·.1)).foldl (rowStep p last sign) []] else s.2.2)
noncomputable def whits (p : Prof) (last : Str) : Int × Int × List (List Int) := (p.map (·.1)).foldl (whitStep p last) (1, 1, [])
noncomputable def pwhit (x : Prof × Str × Int) : Bool := x.2.2 * (whits x.1 x.2.1).2.1 == (whits x.1 x.2.1).1 * pdet (whits x.1 x.2.1).2.2.length (whits x.1 x.2.1).2.2
structure WhitOk (x : Prof × Str × Int) : Prop where
  len : x.1.length ≤ 4
  calls : ∀ q ∈ x.1, 1 ≤ pcount q.2.callers ∧ pcount q.2.callers ≤ 8
  num : ∀ q ∈ x.1, ∀ r ∈ q.2.callers, 0 ≤ r.2 ∧ r.2 ≤ 8
  many : x.2.2.natAbs < 2 ^ 63
theorem row_len (p : Prof) (last sign : Str) (hs : sign ≠ last) : ∀ (l : List Str) (row : List Int), (l.foldl (rowStep p last sign) row).length = row.length + (l.filter fun o => o != last).length
  | [], row => rfl
  | o :: r, row => by
    rw [List.foldl_cons, row_len p last sign hs r]
    unfold rowStep
    by_cases h1 : o == sign
    · rw [if_pos h1]
      have e : o = sign := eq_of_beq h1
      have h2 : (o != last) = true := by rw [e]; exact bne_iff_ne.mpr hs
      rw [List.filter_cons_of_pos (p := fun o => o != last) h2, List.length_append]
      simp only [List.length_cons, List.length_nil]
      omega
    · rw [if_neg h1]
      by_cases h2 : (o != last) = true
      · rw [if_pos h2, List.filter_cons_of_pos (p := fun o => o != last) h2, List.length_append]
        simp only [List.length_cons, List.length_nil]
        omega
      · rw [if_neg h2, List.filter_cons_of_neg (p := fun o => o != last) h2]
theorem WhitOk.callers {x : Prof × Str × Int} (h : WhitOk x) {s : Str} (hs : s ∈ x.1.map (·.1)) : 1 ≤ pcount (callersOf x.1 s) ∧ pcount (callersOf x.1 s) ≤ 8 ∧ ∀ k v, dget (callersOf x.1 s) k = some v → 0 ≤ v ∧ v ≤ 8 := by
  obtain ⟨f, hf⟩ := dget_key hs
  have e : callersOf x.1 s = f.callers := by unfold callersOf; rw [hf]; rfl
  have hm := dget_mem hf
  rw [e]
  exact ⟨(h.calls _ hm).1, (h.calls _ hm).2, fun k v hv => h.num _ hm _ (dget_mem hv)⟩
theorem WhitOk.get {x : Prof × Str × Int} (h : WhitOk x) {s : Str} (hs : s ∈ x.1.map (·.1)) (k : Str) : 0 ≤ (dget (callersOf x.1 s) k).getD 0 ∧ (dget (callersOf x.1 s) k).getD 0 ≤ 8 := by
  cases e : dget (callersOf x.1 s) k with
  | none => exact ⟨by decide, by decide⟩
  | some v => exact (h.callers hs).2.2 k v e
theorem row_ent {x : Prof × Str × Int} (h : WhitOk x) {last sign : Str} (hs : sign ∈ x.1.map (·.1)) : ∀ (l : List Str) (row : List Int), (∀ o ∈ l, o ∈ x.1.map (·.1)) → (∀ y ∈ row, -1000 ≤ y ∧ y ≤ 1000) → ∀ y ∈ l.foldl (rowStep x.1 last sign) row, -1000 ≤ y ∧ y ≤ 1000
  | [], row, _, hr, y, hy => hr y hy
  | o :: r, row, hl, hr, y, hy => by
    refine row_ent h hs r (rowStep x.1 last sign row o) (fun o ho => hl o (List.mem_cons_of_mem _ ho)) (fun z hz => ?_) y hy
    unfold rowStep at hz
    have h1 := h.callers hs
    have h2 := h.get hs sign
    have h3 := h.get (hl o (List.mem_cons_self ..)) sign
    split at hz
    · rcases List.mem_append.mp hz with hz | hz
      · exact hr z hz
      · rw [List.mem_singleton.mp hz]; omega
    · split at hz
      · rcases List.mem_append.mp hz with hz | hz
        · exact hr z hz
        · rw [List.mem_singleton.mp hz]; omega
      · exact hr z hz
/- what the count has come to -/
structure WhitAt (x : Prof × Str × Int) (done : List Str) (s : Int × Int × List (List Int)) : Prop where
  inner : s.1.natAbs ≤ 5040 ^ done.length
  len : s.2.2.length = (done.filter fun o => o != x.2.1).length
  row : ∀ r ∈ s.2.2, r.length = ((x.1.map (·.1)).filter fun o => o != x.2.1).length
  ent : ∀ r ∈ s.2.2, ∀ y ∈ r, -1000 ≤ y ∧ y ≤ 1000
theorem whitStep_at {x : Prof × Str × Int} (h : WhitOk x) {done : List Str} {s : Int × Int × List (List Int)} (hs : WhitAt x done s) {sign : Str} (hm : sign ∈ x.1.map (·.1)) : WhitAt x (done ++ [sign]) (whitStep x.1 x.2.1 s sign) := by
  have hc := h.callers hm
  refine ⟨?_, ?_, fun r hr => ?_, fun r hr => ?_⟩
  · show (s.1 * pfact (pcount (callersOf x.1 sign) - 1)).natAbs ≤ _
    rw [Int.natAbs_mul, List.length_append, List.length_singleton, Nat.pow_succ]
    exact Nat.mul_le_mul hs.inner (fact_is7 (by omega) (by omega))
  · show (if sign != x.2.1 then _ else _ : List (List Int)).length = _
    rw [List.filter_append, List.length_append]
    by_cases h1 : (sign != x.2.1) = true
    · rw [if_pos h1, List.filter_cons_of_pos (p := fun o => o != x.2.1) h1, List.length_append, hs.len]; rfl
    · rw [if_neg h1, List.filter_cons_of_neg (p := fun o => o != x.2.1) h1, hs.len]; rfl
  · change r ∈ (if sign != x.2.1 then _ else _ : List (List Int)) at hr
    by_cases h1 : (sign != x.2.1) = true
    · rw [if_pos h1] at hr
      rcases List.mem_append.mp hr with hr | hr
      · exact hs.row r hr
      · rw [List.mem_singleton.mp hr, row_len _ _ _ (bne_iff_ne.mp h1)]
        simp
    · rw [if_neg h1] at hr
      exact hs.row r hr
  · change r ∈ (if sign != x.2.1 then _ else _ : List (List Int)) at hr
    by_cases h1 : (sign != x.2.1) = true
    · rw [if_pos h1] at hr
      rcases List.mem_append.mp hr with hr | hr
      · exact hs.ent r hr
      · rw [List.mem_singleton.mp hr]
        exact row_ent h hm _ _ (fun o ho => ho) (fun y hy => by cases hy)
    · rw [if_neg h1] at hr
      exact hs.ent r hr
theorem whits_at {x : Prof × Str × Int} (h : WhitOk x) : ∀ (l done : List Str) (s : Int × Int × List (List Int)), (∀ o ∈ l, o ∈ x.1.map (·.1)) → WhitAt x done s → WhitAt x (done ++ l) (l.foldl (whitStep x.1 x.2.1) s)
  | [], done, s, _, hs => by rw [List.append_nil]; exact hs
  | o :: r, done, s, hl, hs => by
    have := whits_at h r (done ++ [o]) (whitStep x.1 x.2.1 s o) (fun o ho => hl o (List.mem_cons_of_mem _ ho)) (whitStep_at h hs (hl o (List.mem_cons_self ..)))
    rw [List.append_assoc] at this
    exact this
theorem whit0 (x : Prof × Str × Int) : WhitAt x [] (1, 1, []) := ⟨by show 1 ≤ 1; omega, rfl, (fun r hr => nomatch hr), (fun r hr => nomatch hr)⟩
theorem whit_det {x : Prof × Str × Int} (h : WhitOk x) : DetOk (whits x.1 x.2.1).2.2.length (whits x.1 x.2.1).2.2 := by
  have := whits_at h (x.1.map (·.1)) [] (1, 1, []) (fun o ho => ho) (whit0 x)
  rw [List.nil_append] at this
  exact ⟨rfl, fun r hr => by rw [this.row r hr]; exact this.len.symm, this.ent⟩
end Mine
end

-- L10
section
open PySem PySem.W PyProof.Rows
set_option linter.unusedVariables false
set_option linter.unusedSimpArgs false
namespace Mine

noncomputable def totalOf (s : List Int) : Int := (s.map fun n => n.fmod 1000000).sum
noncomputable def markOf (t : Int) : Nat := [38, 60, 62, 34].getD (t.fmod 4).toNat 0
noncomputable def kindsOf (t : Int) : List Str := [".", "\r", "\n", S [markOf t]]
noncomputable def textOf (s : List Int) : Str := Txt.join ⟨#[]⟩ ((pdrawn s).map fun n => (kindsOf (totalOf s)).getD (n.fmod 4).toNat "")
noncomputable def whichOf (s : List Int) : Int := ((totalOf s).fdiv 4).fmod 3
theorem total_bound : ∀ s : List Int, s.length ≤ 63 → 0 ≤ totalOf s ∧ totalOf s ≤ 63000000 := by
  suffices h : ∀ s : List Int, 0 ≤ totalOf s ∧ totalOf s ≤ 1000000 * s.length by
    intro s hs
    have := h s
    omega
  intro s
  induction s with
  | nil => exact ⟨by decide, by decide⟩
  | cons a r ih =>
    have h1 : 0 ≤ a.fmod 1000000 := Int.fmod_nonneg_of_pos _ (by decide)
    have h2 : a.fmod 1000000 < 1000000 := Int.fmod_lt_of_pos _ (by decide)
    unfold totalOf at ih ⊢
    rw [List.map_cons, List.sum_cons, List.length_cons]
    omega
noncomputable def firstOf (x : Str) : Str := ⟨#[x.cps.getD 0 0]⟩
noncomputable abbrev eqProf : Prof → Prof → Bool := eqDict (eqFive (eqDict fun a b => a == b))
noncomputable abbrev eqTold : Told → Told → Bool := eqDict (eqDict fun a b => a == b)
noncomputable def toldOf (t : Str) (w : Int) : Told := ptold (pprofile t, pnames w)
noncomputable def textsOf (t : Str) : List Str := ptexts (pprofile t, firstOf t, (t.length : Int))
/- all that the law asks of a text -/
structure Good (t : Str) (w : Int) : Prop where
  len : 1 ≤ t.length ∧ t.length ≤ 20
  small : ∀ c ∈ t.cps.toList, c < 128
  prof : ProfOk (pprofile t) (pnames w)
  told : ToldOk (toldOf t w)
  texts : TextsOk (pprofile t, firstOf t, (t.length : Int))
  whit : WhitOk (pprofile t, lastOf t, ((textsOf t).length : Int))
  sent : (psent (t, w)).length ≤ 400
  due : eqProf (pprofile (psent (t, w))) (pdue (toldOf t w)) = true
  other : ∀ o ∈ textsOf t, o.length ≤ 20 ∧ (∀ c ∈ o.cps.toList, c < 128) ∧ (psent (o, w)).length ≤ 400 ∧ (o ≠ t → eqTold (ppairs (psent (o, w))) (toldOf t w) = true)
  few : (textsOf t).length ≤ 16777216
  page : psent (t, w) = ppg (t, pnames w)
  count : pwhit (pprofile t, lastOf t, ((textsOf t).length : Int)) = true
end Mine
end

section
open PySem PySem.W PyProof.Rows
set_option linter.unusedVariables false
set_option linter.unusedSimpArgs false
set_option maxRecDepth 100000
set_option maxHeartbeats 4000000
namespace Mine
theorem fill_F1 : (PySem.Challenge.rw_zo0005_01 = PySem.Challenge.rw_zo0005_01) ∧ (Mine.hd.heap_39 = Mine.hd.heap_39) := by
  k_fill
  exact ⟨rfl, rfl⟩

local macro_rules | `(tactic| walk_at "mem") => `(tactic| with_reducible first | exact List.mem_cons_self | (refine' List.mem_cons_of_mem _ ?mm; case mm => walk_at "mem"))
local macro_rules | `(tactic| walk_at "pick") => `(tactic| first | exact Pick.here | exact Pick.val rfl | exact Pick.list rfl | exact Pick.slist rfl | exact Pick.dict rfl | exact Pick.dict2 rfl | (refine' Pick.there ?pk; case pk => walk_at "pick"))
local macro_rules | `(tactic| walk_at "drop") => `(tactic| first | exact Drop.nil | (refine' Drop.keep ?dk ?dr; (case dk => decide); (case dr => walk_at "drop")) | (refine' Drop.skip ?dr; case dr => walk_at "drop"))
local macro_rules | `(tactic| walk_at "sel") => `(tactic| first | exact Sel.nil | (refine' Sel.cons ?sp ?ss; (case sp => walk_at "pick"); (case ss => walk_at "sel")))
local macro_rules | `(tactic| walk_at "kind") => `(tactic| (refine kind_of (by assumption) ?_; rfl))
local macro_rules | `(tactic| walk_at "bn") => `(tactic| first | (refine Bn.loc (by assumption) ?_ (by decide) (by decide); rfl) | (refine Bn.cell (by assumption) (by assumption) ?_ ?_ (by decide) (by decide); rfl; (intro _; rfl)))
local macro_rules | `(tactic| walk_at "pk") => `(tactic| first | exact PK.loc rfl (by decide) (by decide) | exact PK.cell rfl (fun _ => rfl) (by decide) (by decide))

-- F1
theorem fn_factorial {M : Pg} (hK : M.K = Mine.hd.heap_39 M.w.params) (hb : Bi M "range" (.type "range")) : Fn M 1 "_law_factorial" (rep1 tInt) tInt (fun x => 0 ≤ x ∧ x ≤ 100) pfact := by
  refine Fn.def1 hK (p1 := "number") (hn := by k_is) (ho := by k_is) (hcd := by k_is) (hbind := fun _ => by rfl) (h1 := by walk_at "pk") (hcn := by decide) rfl rfl rfl ?_
  intro x hx C ok hsc hcl
  refine Ws.assign ok Ev.int (by walk_at "bn") (by walk_at "drop") ?_ rfl
  refine Ws.for ok (It.range2 ok hb (by walk_at "kind") Ev.int (Ev.add (Ev.name ok (by walk_at "mem")) Ev.int) (by omega) (by omega) (by omega) (by omega) rfl) (by walk_at "bn")
    (fun p => [("product", .val tInt p)]) (fun p k => p * k) 1 (Wk.sel (by walk_at "sel")) (fun s => by walk_at "drop") ?_ ?_
  · intro i a hi
    have ha : a.natAbs < 2 ^ 63 := by
      have h1 := List.mem_of_getElem? hi
      obtain ⟨j, hj, rfl⟩ := List.mem_map.mp h1
      have := List.mem_range.mp hj
      omega
    refine Ws.assign ok (Ev.mul (Ev.name ok (by walk_at "mem")) (Ev.name ok (by walk_at "mem")) (mulR ha)) (by walk_at "bn") (by walk_at "drop") ?_ rfl
    exact Ws.nil (Wk.sel (by walk_at "sel"))
  · refine Ws.ret (Ev.name ok (by walk_at "mem")) ?_
    rfl

theorem fn_names {M : Pg} (hK : M.K = Mine.hd.heap_39 M.w.params) : Fn M 1 "_law_names" (rep1 tInt) (tDict M.prog M.w tStr) (fun _ => True) pnames := by
  refine Fn.def1 hK (p1 := "which") (hn := by k_is) (ho := by k_is) (hcd := by k_is) (hbind := fun _ => by rfl) (h1 := by walk_at "pk") (hcn := by decide) rfl rfl rfl ?_
  intro x hx C ok hsc hcl
  refine Ws.ite (EvB.of_cmp Cmp.eqInt (Ev.name ok (by walk_at "mem")) Ev.int) (fun h => ?_) (fun h => ?_)
  · refine Ws.ret (y := dsets [] n0) ?hret ?_
    case hret =>
      refine Ev.ofDO ?_
      refine EvO.dictK (T := tStr) (kvs := n0) ?_ ?_ ?_
      · repeat' first | exact EvKV.nil | exact Ev.str | refine EvKV.cons ?_ ?_ ?_
      · exact List.cons_ne_nil _ _
      · exact Nat.le_of_ble_eq_true rfl
    unfold pnames
    rw [if_pos h]
  · refine Ws.ite (EvB.of_cmp Cmp.eqInt (Ev.name ok (by walk_at "mem")) Ev.int) (fun h1 => ?_) (fun h1 => ?_)
    · refine Ws.ret (y := dsets [] n1) ?hret ?_
      case hret =>
        refine Ev.ofDO ?_
        refine EvO.dictK (T := tStr) (kvs := n1) ?_ ?_ ?_
        · repeat' first | exact EvKV.nil | exact Ev.str | refine EvKV.cons ?_ ?_ ?_
        · exact List.cons_ne_nil _ _
        · exact Nat.le_of_ble_eq_true rfl
      unfold pnames
      rw [if_neg (by rw [h]; exact Bool.false_ne_true), if_pos h1]
    · refine Ws.ret (y := dsets [] n2) ?hret ?_
      case hret =>
        refine Ev.ofDO ?_
        refine EvO.dictK (T := tStr) (kvs := n2) ?_ ?_ ?_
        · repeat' first | exact EvKV.nil | exact Ev.str | refine EvKV.cons ?_ ?_ ?_
        · exact List.cons_ne_nil _ _
        · exact Nat.le_of_ble_eq_true rfl
      unfold pnames
      rw [if_neg (by rw [h]; exact Bool.false_ne_true), if_neg (by rw [h1]; exact Bool.false_ne_true)]

theorem fn_last {M : Pg} (hK : M.K = Mine.hd.heap_39 M.w.params) : Fn M 1 "_law_last" (rep2 tStr (tDict M.prog M.w tStr)) tStr (fun _ => True) plast := by
  refine Fn.def2 hK (p1 := "sign") (p2 := "names") (hn := by k_is) (ho := by k_is) (hcd := by k_is) (hbind := fun _ _ => by rfl) (h1 := by walk_at "pk") (h2 := by walk_at "pk") (hne := by decide) (hcn := by decide) rfl rfl rfl ?_
  intro x hx C ok hsc hcl
  refine Ws.ite (EvB.inD (Ev.name ok (by walk_at "mem")) (EvD.of (Ev.name ok (by walk_at "mem")))) (fun h => ?_) (fun h => ?_)
  · refine Ws.ret Ev.str ?_
    unfold plast
    rw [if_pos h]
  · refine Ws.ret (Ev.ite (EvB.or2 (EvB.of_cmp Cmp.eqStr (Ev.name ok (by walk_at "mem")) Ev.str) (fun _ => EvB.of_cmp Cmp.eqStr (Ev.name ok (by walk_at "mem")) Ev.str)) (fun _ => Ev.str) (fun _ => Ev.name ok (by walk_at "mem"))) ?_
    unfold plast
    rw [h]
    rfl

theorem fn_count {M : Pg} (hK : M.K = Mine.hd.heap_39 M.w.params) : Fn M 1 "count_calls" (rep1 (tDict M.prog M.w tInt)) tInt (fun _ => True) pcount := by
  refine Fn.def1 hK (p1 := "callers") (hn := by k_is) (ho := by k_is) (hcd := by k_is) (hbind := fun _ => by rfl) (h1 := by walk_at "pk") (hcn := by decide) rfl rfl rfl ?_
  intro x hx C ok hsc hcl
  refine Ws.assign ok Ev.int (by walk_at "bn") (by walk_at "drop") ?_ rfl
  refine Ws.for ok (It.values ok (Ev.values ok (Ev.name ok (by walk_at "mem")) rfl)) (by walk_at "bn") (fun p => [("nc", .val tInt p)]) (fun a b => a + b) 0 (Wk.sel (by walk_at "sel")) (fun s => by walk_at "drop") ?_ ?_
  · intro i a hi
    refine Ws.augName ok (by walk_at "bn") (by walk_at "mem") (Ev.name ok (by walk_at "mem")) (by walk_at "drop") ?_
    exact Ws.nil (Wk.sel (by walk_at "sel"))
  · refine Ws.ret (Ev.name ok (by walk_at "mem")) ?_
    rfl

theorem fn_addc {M : Pg} (hK : M.K = Mine.hd.heap_39 M.w.params) (hb : Bi M "isinstance" (.builtin "isinstance")) (ht : Bi M "tuple" (.type "tuple")) :
    Fn M 1 "add_callers" (rep2 (tDict M.prog M.w tInt) (tDict M.prog M.w tInt)) (tDict M.prog M.w tInt) (fun x => x.1.length + x.2.length ≤ 1000) paddc := by
  refine Fn.def2 hK (p1 := "target") (p2 := "source") (hn := by k_is) (ho := by k_is) (hcd := by k_is) (hbind := fun _ _ => by rfl) (h1 := by walk_at "pk") (h2 := by walk_at "pk") (hne := by decide) (hcn := by decide) rfl rfl rfl ?_
  intro x hx C ok hsc hcl
  refine Ws.assignDO (S := tInt) (kvs := []) ok EvO.dict0 (by walk_at "kind") ⟨by decide, by decide⟩ (by walk_at "drop") ?_ rfl
  refine Ws.for2 ok (It2.items ok (Ev.name ok (by walk_at "mem")) rfl) (by walk_at "bn") (by walk_at "bn") (by decide)
    (fun d => [("new_callers", .dict tInt d), ("source", .val (tDict M.prog M.w tInt) x.2)]) (fun acc q => dset acc q.1 q.2) [] (Wk.sel (by walk_at "sel")) (fun s => by walk_at "drop") (fun s => by walk_at "drop") ?_ ?_
  · intro i a hi
    have hl := fold_take_len (f := fun (acc : List (Str × Int)) (q : Str × Int) => dset acc q.1 q.2) (fun a b => dset_length ..) x.1 i []
    refine Ws.setD ok (Ev.name ok (by walk_at "mem")) (Ev.name ok (by walk_at "mem")) (by walk_at "pick") (by rw [sz16]; simp only [List.length_nil] at hl; omega) ?_
    exact Ws.nil (Wk.sel (by walk_at "sel"))
  · refine Ws.for2 ok (It2.items ok (Ev.name ok (by walk_at "mem")) rfl) (by walk_at "bn") (by walk_at "bn") (by decide)
      (fun d => [("new_callers", .dict tInt d)]) addStep _ (Wk.sel (by walk_at "sel")) (fun s => by walk_at "drop") (fun s => by walk_at "drop") ?_ ?_
    · intro i a hi
      have hl1 := fold_len (f := fun (acc : List (Str × Int)) (q : Str × Int) => dset acc q.1 q.2) (fun a b => dset_length ..) x.1 []
      have hl := fold_take_len addStep_len x.2 i (x.1.foldl (fun acc q => dset acc q.1 q.2) [])
      rw [List.length_nil] at hl1
      generalize hd : List.foldl addStep (List.foldl (fun acc q => dset acc q.1 q.2) [] x.1) (List.take i x.2) = d at hl ⊢
      refine Ws.ite (EvB.inD (Ev.name ok (by walk_at "mem")) (EvD.own ok (by walk_at "mem"))) (fun h => ?_) (fun h => ?_)
      · refine Ws.ite (EvB.of_ev (Ev.isTuple ok hb ht (by walk_at "kind") (by walk_at "kind") (Ev.name ok (by walk_at "mem")) rfl)) (fun h => by cases h) (fun _ => ?_)
        obtain ⟨v, hv⟩ := Option.isSome_iff_exists.mp h
        refine Ws.augD ok (Ev.name ok (by walk_at "mem")) (by walk_at "mem") (by walk_at "pick") hv (by rw [sz16]; omega) ?_
        have e : addStep d a = dset d a.1 (v + a.2) := by unfold addStep; rw [hv]
        rw [e]
        exact Ws.nil (Wk.sel (by walk_at "sel"))
      · have hv : dget d a.1 = none := by simpa using h
        refine Ws.setD ok (Ev.name ok (by walk_at "mem")) (Ev.name ok (by walk_at "mem")) (by walk_at "pick") (by rw [sz16]; omega) ?_
        have e : addStep d a = dset d a.1 a.2 := by unfold addStep; rw [hv]
        rw [e]
        exact Ws.nil (Wk.sel (by walk_at "sel"))
    · refine Ws.weak (Wk.freezeD (by walk_at "pick")) ?_
      refine Ws.ret (Ev.name ok (by walk_at "mem")) ?_
      rfl

theorem fn_addf {M : Pg} (hK : M.K = Mine.hd.heap_39 M.w.params) (hb : Bi M "isinstance" (.builtin "isinstance")) (ht : Bi M "tuple" (.type "tuple")) :
    Fn M 2 "add_func_stats" (rep2 (tFive (tDict M.prog M.w tInt)) (tFive (tDict M.prog M.w tInt))) (tFive (tDict M.prog M.w tInt)) (fun x => x.1.callers.length + x.2.callers.length ≤ 1000) paddf := by
  refine Fn.def2 hK (p1 := "target") (p2 := "source") (hn := by k_is) (ho := by k_is) (hcd := by k_is) (hbind := fun _ _ => by rfl) (h1 := by walk_at "pk") (h2 := by walk_at "pk") (hne := by decide) (hcn := by decide) rfl rfl rfl ?_
  intro x hx C ok hsc hcl
  refine Ws.assign5 ok (Ev.name ok (by walk_at "mem")) (by walk_at "bn") (by walk_at "bn") (by walk_at "bn") (by walk_at "bn") (by walk_at "bn") (by decide) (by walk_at "drop") (by walk_at "drop") (by walk_at "drop") (by walk_at "drop") (by walk_at "drop") ?_ rfl rfl
  refine Ws.assign5 ok (Ev.name ok (by walk_at "mem")) (by walk_at "bn") (by walk_at "bn") (by walk_at "bn") (by walk_at "bn") (by walk_at "bn") (by decide) (by walk_at "drop") (by walk_at "drop") (by walk_at "drop") (by walk_at "drop") (by walk_at "drop") ?_ rfl rfl
  refine Ws.ret (Ev.five (Ev.add (Ev.name ok (by walk_at "mem")) (Ev.name ok (by walk_at "mem"))) (Ev.add (Ev.name ok (by walk_at "mem")) (Ev.name ok (by walk_at "mem"))) (Ev.add (Ev.name ok (by walk_at "mem")) (Ev.name ok (by walk_at "mem"))) (Ev.add (Ev.name ok (by walk_at "mem")) (Ev.name ok (by walk_at "mem")))
    (Ev.call ok (fn_addc hK hb ht) (by decide) (by walk_at "kind") (by decide) (EvArgs.two (Ev.name ok (by walk_at "mem")) (Ev.name ok (by walk_at "mem"))) (by exact hx) rfl) rfl) ?_
  rfl

-- F2
theorem fn_esc0 {M : Pg} (hK : M.K = Mine.hd.heap_39 M.w.params) : Fn M 1 "_escape_cdata" (rep1 tStr) tStr (fun x => x.length ≤ 100) esc0 := by
  refine Fn.def1 hK (p1 := "text") (hn := by k_is) (ho := by k_is) (hcd := by k_is) (hbind := fun _ => by rfl) (h1 := by walk_at "pk") (hcn := by decide) rfl rfl rfl ?_
  intro x hx C ok hsc hcl
  have l1 := sub1_len 38 amp (by decide) x.cps.toList
  have l2 := sub1_len 60 lt (by decide) (sub1 38 amp x.cps.toList)
  have hx' : x.cps.toList.length ≤ 100 := hx
  refine Ws.tryRet ?_
  refine Ws.ifSub ok 38 amp rfl rfl (by walk_at "mem") (by walk_at "kind") (by walk_at "drop") (by decide) (by omega) (by decide) ?_ rfl rfl
  refine Ws.ifSub ok 60 lt rfl rfl (by walk_at "mem") (by walk_at "kind") (by walk_at "drop") (by decide) (by rw [S_length]; omega) (by decide) ?_ rfl rfl
  rw [S_cps]
  refine Ws.ifSub ok 62 gt rfl rfl (by walk_at "mem") (by walk_at "kind") (by walk_at "drop") (by decide) (by rw [S_length]; omega) (by decide) ?_ rfl rfl
  rw [S_cps]
  refine Ws.ret (Ev.name ok (by walk_at "mem")) ?_
  rfl
theorem fn_esc1 {M : Pg} (hK : M.K = Mine.hd.heap_39 M.w.params) : Fn M 1 "_escape_attrib_html" (rep1 tStr) tStr (fun x => x.length ≤ 100) esc1 := by
  refine Fn.def1 hK (p1 := "text") (hn := by k_is) (ho := by k_is) (hcd := by k_is) (hbind := fun _ => by rfl) (h1 := by walk_at "pk") (hcn := by decide) rfl rfl rfl ?_
  intro x hx C ok hsc hcl
  have l1 := sub1_len 38 amp (by decide) x.cps.toList
  have l2 := sub1_len 62 gt (by decide) (sub1 38 amp x.cps.toList)
  have hx' : x.cps.toList.length ≤ 100 := hx
  refine Ws.tryRet ?_
  refine Ws.ifSub ok 38 amp rfl rfl (by walk_at "mem") (by walk_at "kind") (by walk_at "drop") (by decide) (by omega) (by decide) ?_ rfl rfl
  refine Ws.ifSub ok 62 gt rfl rfl (by walk_at "mem") (by walk_at "kind") (by walk_at "drop") (by decide) (by rw [S_length]; omega) (by decide) ?_ rfl rfl
  rw [S_cps]
  refine Ws.ifSub ok 34 quot rfl rfl (by walk_at "mem") (by walk_at "kind") (by walk_at "drop") (by decide) (by rw [S_length]; omega) (by decide) ?_ rfl rfl
  rw [S_cps]
  refine Ws.ret (Ev.name ok (by walk_at "mem")) ?_
  rfl
theorem fn_esc2 {M : Pg} (hK : M.K = Mine.hd.heap_39 M.w.params) : Fn M 1 "_escape_cdata_c14n" (rep1 tStr) tStr (fun x => x.length ≤ 100) esc2 := by
  refine Fn.def1 hK (p1 := "text") (hn := by k_is) (ho := by k_is) (hcd := by k_is) (hbind := fun _ => by rfl) (h1 := by walk_at "pk") (hcn := by decide) rfl rfl rfl ?_
  intro x hx C ok hsc hcl
  have l1 := sub1_len 38 amp (by decide) x.cps.toList
  have l2 := sub1_len 60 lt (by decide) (sub1 38 amp x.cps.toList)
  have l3 := sub1_len 62 gt (by decide) (sub1 60 lt (sub1 38 amp x.cps.toList))
  have hx' : x.cps.toList.length ≤ 100 := hx
  refine Ws.tryRet ?_
  refine Ws.ifSub ok 38 amp rfl rfl (by walk_at "mem") (by walk_at "kind") (by walk_at "drop") (by decide) (by omega) (by decide) ?_ rfl rfl
  refine Ws.ifSub ok 60 lt rfl rfl (by walk_at "mem") (by walk_at "kind") (by walk_at "drop") (by decide) (by rw [S_length]; omega) (by decide) ?_ rfl rfl
  rw [S_cps]
  refine Ws.ifSub ok 62 gt rfl rfl (by walk_at "mem") (by walk_at "kind") (by walk_at "drop") (by decide) (by rw [S_length]; omega) (by decide) ?_ rfl rfl
  rw [S_cps]
  refine Ws.ifSub ok 13 xd rfl rfl (by walk_at "mem") (by walk_at "kind") (by walk_at "drop") (by decide) (by rw [S_length]; omega) (by decide) ?_ rfl rfl
  rw [S_cps]
  refine Ws.ret (Ev.name ok (by walk_at "mem")) ?_
  rfl

noncomputable def peols (x : Str) : Str := Txt.join ⟨#[]⟩ (piecesS x.cps "\r\n" (x.length + 1) 0)
noncomputable def pquote (x : List UInt8) : List UInt8 := ((piecesB x.toArray #[46, 46] (x.length + 1) 0).map (·.toList)).flatten
theorem Ev.glob {M : Pg} {C : Cx} {Δ : Dl} {n : Nat} (ok : C.Ok n) {x : Str} {pos : Pos} {y : Str} {t : Tok} (hm : M.mg x = some (.str y t)) (hx : C.env.kindOf x = some .globalImplicit) (hd : (x == ("__debug__" : Str)) = false) : Ev M C Δ (.Name x pos) tStr y := fun F g s Q st hQ =>
  global_name ok st hx hd hm (hQ _ g s.heap s.toks (.refl _) st ⟨t, rfl⟩)
theorem fn_eols {M : Pg} (hK : M.K = Mine.hd.heap_39 M.w.params) (hp : PatN M "_twin_re_2" 0 codeS) : Fn M 1 "_fix_eols" (rep1 tStr) tStr (fun x => x.length ≤ 1000) peols := by
  have hkin : (Mine.hd.heap_39 M.w.params).In M.h₀ := hK ▸ M.kin
  have hm : ∃ t, M.mg "CRLF" = some (.str "\r\n" t) := ⟨_, mg_of hkin M.top.g (by k_is)⟩
  obtain ⟨t, hm⟩ := hm
  refine Fn.def1 hK (p1 := "data") (hn := by k_is) (ho := by k_is) (hcd := by k_is) (hbind := fun _ => by rfl) (h1 := by walk_at "pk") (hcn := by decide) rfl rfl rfl ?_
  intro x hx C ok hsc hcl
  refine Ws.ret (Ev.subS ok hp (by walk_at "kind") (by decide) (Ev.glob ok hm (by walk_at "kind") (by decide)) (Ev.name ok (by walk_at "mem")) hx (by decide) (by decide +kernel) rfl rfl) ?_
  rfl
theorem fn_quote {M : Pg} (hK : M.K = Mine.hd.heap_39 M.w.params) (hp : PatN M "_twin_re_1" 1 codeB) : Fn M 1 "_quote_periods" (rep1 tBytes) tBytes (fun x => x.length ≤ 1000) pquote := by
  refine Fn.def1 hK (p1 := "bindata") (hn := by k_is) (ho := by k_is) (hcd := by k_is) (hbind := fun _ => by rfl) (h1 := by walk_at "pk") (hcn := by decide) rfl rfl rfl ?_
  intro x hx C ok hsc hcl
  refine Ws.ret (Ev.subB ok hp (by walk_at "kind") (by decide) Ev.bytesConst (Ev.name ok (by walk_at "mem")) hx (by decide) (by decide +kernel) rfl rfl) ?_
  rfl

-- F3
theorem fn_sent {M : Pg} (hK : M.K = Mine.hd.heap_39 M.w.params) (hp1 : PatN M "_twin_re_1" 1 codeB) (hp2 : PatN M "_twin_re_2" 0 codeS) (hbo : Bi M "ord" (.builtin "ord")) (hbc : Bi M "chr" (.builtin "chr")) (hbb : Bi M "bytes" (.type "bytes")) :
    Fn M 2 "_law_sent" (rep2 tStr tInt) tStr (fun x => x.1.length ≤ 20 ∧ ∀ c ∈ x.1.cps.toList, c < 128) psent := by
  refine Fn.def2 hK (p1 := "text") (p2 := "which") (hn := by k_is) (ho := by k_is) (hcd := by k_is) (hbind := fun _ _ => by rfl) (h1 := by walk_at "pk") (h2 := by walk_at "pk") (hne := by decide) (hcn := by decide) rfl rfl rfl ?_
  intro x hx C ok hsc hcl
  obtain ⟨hx1, hx2⟩ := hx
  refine Ws.iteJ [("page", .val tStr (ppage x))] (EvB.of_cmp Cmp.eqInt (Ev.name ok (by walk_at "mem")) Ev.int rfl) (fun h => ?_) (fun h => ?_) ?_
  · refine Ws.assign ok (Ev.call ok (fn_esc0 hK) (by decide) (by walk_at "kind") (by decide) (EvArgs.one (Ev.name ok (by walk_at "mem"))) (by show x.1.length ≤ 100; omega) rfl) (by walk_at "bn") (by walk_at "drop") ?_ rfl
    have e : esc0 x.1 = ppage x := by rw [← ppage_is, if_pos h]
    rw [e]
    exact Ws.nil (Wk.sel (by walk_at "sel"))
  · refine Ws.iteN (EvB.of_cmp Cmp.eqInt (Ev.name ok (by walk_at "mem")) Ev.int rfl) (fun h1 => ?_) (fun h1 => ?_)
    · refine Ws.assign ok (Ev.call ok (fn_esc1 hK) (by decide) (by walk_at "kind") (by decide) (EvArgs.one (Ev.name ok (by walk_at "mem"))) (by show x.1.length ≤ 100; omega) rfl) (by walk_at "bn") (by walk_at "drop") ?_ rfl
      have e : esc1 x.1 = ppage x := by rw [← ppage_is, if_neg (by rw [h]; exact Bool.false_ne_true), if_pos h1]
      rw [e]
      exact Ws.nil (Wk.sel (by walk_at "sel"))
    · refine Ws.assign ok (Ev.call ok (fn_esc2 hK) (by decide) (by walk_at "kind") (by decide) (EvArgs.one (Ev.name ok (by walk_at "mem"))) (by show x.1.length ≤ 100; omega) rfl) (by walk_at "bn") (by walk_at "drop") ?_ rfl
      have e : esc2 x.1 = ppage x := by rw [← ppage_is, if_neg (by rw [h]; exact Bool.false_ne_true), if_neg (by rw [h1]; exact Bool.false_ne_true)]
      rw [e]
      exact Ws.nil (Wk.sel (by walk_at "sel"))
  · have hl : (esc x.2 x.1.cps.toList).length ≤ 120 := by
      have h1 := esc_len x.2 x.1.cps.toList
      have h2 : x.1.cps.toList.length ≤ 20 := hx1
      omega
    have hsm := esc_small x.2 x.1.cps.toList hx2
    generalize hL : esc x.2 x.1.cps.toList = L at hl hsm
    have hc1 := crlf_len L
    have hc2 : ∀ c ∈ crlf L, c < 128 := crlf_all (p := fun c => c < 128) (by decide) (by decide) L hsm
    have hpg : ppage x = S L := by unfold ppage; rw [hL]
    have hfx : peols (S L) = S (crlf L) := eols_is (S L)
    have hLS : (S L).length ≤ 1000 := by rw [S_length]; omega
    rw [hpg]
    have hsig : ∀ c : Nat, c ∈ crlf L → c.toUInt8.toNat = c := fun c hc => by
      have := hc2 c hc
      rw [Nat.toUInt8_eq, UInt8.toNat_ofNat']
      exact Nat.mod_eq_of_lt (by omega)
    have hq := quote_is ((crlf L).map (·.toUInt8))
    have hqm : ((crlf L).map (·.toUInt8)).map (·.toNat) = crlf L := by
      rw [List.map_map]
      conv => rhs; rw [← List.map_id (crlf L)]
      exact List.map_congr_left fun c hc => hsig c hc
    rw [hqm] at hq
    have hqt : (pquote ((crlf L).map (·.toUInt8))).map (·.toNat) = dotq true (crlf L) := by
      unfold pquote
      rw [← hq]
    have hdl := dotq_len true (crlf L)
    refine Ws.assign ok (Ev.call ok (fn_quote hK hp1) (by decide) (by walk_at "kind") (by decide) (x := (crlf L).map (·.toUInt8)) (EvArgs.one ?hq) (by show _ ≤ 1000; rw [List.length_map]; omega) rfl) (by walk_at "bn") (by walk_at "drop") ?hrest rfl
    case hq =>
      refine Ev.cast (Ev.bytes (xs := (crlf L).map fun (c : Nat) => (c : Int)) ok hbb (by walk_at "kind") ?hcodes (fun i hi => by
        obtain ⟨c, hc, rfl⟩ := List.mem_map.mp hi
        have := hc2 c hc
        omega) (by rw [List.length_map, sz16]; omega) rfl) (by rw [List.map_map]; rfl)
      case hcodes =>
        refine Ev.cast (Ev.ofLO (EvO.listComp ok (T := tInt) (fun _ => true) (fun (sign : Str) => ((sign.cps.getD 0 0 : Nat) : Int)) hsc Sel.nil ?hcf
          (It.str ok (Ev.call ok (fn_eols hK hp2) (by decide) (by walk_at "kind") (by decide) (EvArgs.one (Ev.name ok (by walk_at "mem"))) hLS rfl)) ?hif ?hel ?hsz)) ?heq
        case hcf => exact compFacts Vals.nil (by decide +kernel)
        case hif => exact fun a ha C' ok' hsc' => EvIf.nil
        case hel =>
          intro a ha _ C' ok' hsc'
          exact Ev.ord ok' hbo (by walk_at "kind") (Ev.name ok' (by walk_at "mem")) (by
            obtain ⟨c, _, rfl⟩ := List.mem_map.mp ha
            rfl) rfl
        case hsz => rw [List.length_map, hfx, S_cps, sz16]; omega
        case heq =>
          rw [hfx, S_cps, List.filter_eq_self.mpr (fun _ _ => rfl), List.map_map]
          rfl
    case hrest =>
      refine Ws.ret (y := psent x) ?hret rfl
      case hret =>
        refine Ev.cast (Ev.join (xs := (dotq true (crlf L)).map fun (c : Nat) => (⟨#[c]⟩ : Str)) ok ?hjl ?hsum rfl rfl) ?heq
        case hjl =>
          refine Ev.cast (Ev.ofLO (EvO.listComp ok (T := tStr) (fun _ => true) (fun (i : Int) => (⟨#[i.toNat]⟩ : Str)) hsc Sel.nil ?hcf2 (It.bytes ok (Ev.name ok (by walk_at "mem"))) ?hif2 ?hel2 ?hsz2)) ?heq2
          case hcf2 => exact compFacts Vals.nil (by decide +kernel)
          case hif2 => exact fun a ha C' ok' hsc' => EvIf.nil
          case hel2 =>
            intro a ha _ C' ok' hsc'
            obtain ⟨c, _, rfl⟩ := List.mem_map.mp ha
            have hlt := c.toNat_lt
            exact Ev.chr ok' hbc (by walk_at "kind") (Ev.name ok' (by walk_at "mem")) (by omega) (by omega) rfl
          case hsz2 =>
            have := congrArg List.length hqt
            rw [List.length_map] at this
            rw [List.length_map, this, sz16]; omega
          case heq2 =>
            rw [List.filter_eq_self.mpr (fun _ _ => rfl), List.map_map, ← hqt, List.map_map]
            rfl
        case hsum =>
          have h1 : ∀ l : List Nat, ((l.map fun (c : Nat) => (⟨#[c]⟩ : Str)).map (·.length)).sum = l.length := fun l => by
            induction l with
            | nil => rfl
            | cons a r ih => rw [List.map_cons, List.map_cons, List.sum_cons, ih, List.length_cons]; show 1 + _ = _; omega
          rw [h1, List.length_map]
          show _ + _ * 0 ≤ _
          omega
        case heq =>
          show Txt.join ⟨#[]⟩ _ = _
          rw [joinT_S]
          unfold psent
          rw [hL]
          congr 1
          generalize dotq true (crlf L) = l
          induction l with
          | nil => rfl
          | cons a r ih =>
            rw [List.map_cons, List.map_cons, List.flatten_cons, ih]
            rfl

-- F4
theorem fn_drawn {M : Pg} (hK : M.K = Mine.hd.heap_39 M.w.params) (hbr : Bi M "range" (.type "range")) (hbl : Bi M "len" (.builtin "len")) : Fn M 1 "_law_drawn" (rep1 (tList tInt)) (tList tInt) (fun x => x.length ≤ 1000) pdrawn := by
  refine Fn.def1 hK (p1 := "script") (hn := by k_is) (ho := by k_is) (hcd := by k_is) (hbind := fun _ => by rfl) (h1 := by walk_at "pk") (hcn := by decide) rfl rfl rfl ?_
  intro x hx C ok hsc hcl
  refine Ws.assignSO (S := tInt) (xs := [0, 3, 0, 2, 0, 0, 1]) ok ?hlist (by walk_at "kind") ⟨by decide, by decide⟩ (by walk_at "drop") ?_ rfl
  case hlist =>
    refine EvO.list ?_ (by decide) rfl
    repeat' first | exact EvArgs.nil | exact Ev.int | refine EvArgs.cons ?_ ?_
  refine Ws.for ok (It.range1 (m := (x.length : Int)) ok hbr (by walk_at "kind") (Ev.lenList ok hbl (by walk_at "kind") (Ev.name ok (by walk_at "mem")) (by omega) rfl) (by omega) (by omega) rfl) (by walk_at "bn")
    (fun d => [("drawn", .slist tInt d), ("script", .val (tList tInt) x)]) (drawStep x) [0, 3, 0, 2, 0, 0, 1] (Wk.sel (by walk_at "sel")) (fun s => by walk_at "drop") ?_ ?_
  · intro i a hi
    have hdl := draw_len x (((List.range (x.length : Int).toNat).map fun (j : Nat) => (0 : Int) + (j : Int)).take i) [0, 3, 0, 2, 0, 0, 1]
    obtain ⟨j, hj, rfl⟩ := List.mem_map.mp (List.mem_of_getElem? hi)
    have hj' := List.mem_range.mp hj
    generalize hd : List.foldl (drawStep x) [0, 3, 0, 2, 0, 0, 1] (((List.range (x.length : Int).toNat).map fun (j : Nat) => (0 : Int) + (j : Int)).take i) = d at hdl ⊢
    have h7 : d.length = 7 := hdl
    have hk0 : 0 ≤ ((0 : Int) + (j : Int)).fmod 7 := Int.fmod_nonneg_of_pos _ (by decide)
    have hk7 : ((0 : Int) + (j : Int)).fmod 7 < 7 := Int.fmod_lt_of_pos _ (by decide)
    refine Ws.setL ok (Ev.add (Ev.itemSL ok (by walk_at "mem") (Ev.mod (Ev.name ok (by walk_at "mem")) Ev.int (by decide)) hk0 (y := d.getD (((0 : Int) + (j : Int)).fmod 7).toNat 0) (getD_is (by omega)) (by omega))
      (Ev.mod (Ev.itemL (Ev.name ok (by walk_at "mem")) (Ev.name ok (by walk_at "mem")) (by omega) (x := x.getD ((0 : Int) + (j : Int)).toNat 0) (getD_is (by omega)) (by omega)) Ev.int (by decide)))
      (Ev.mod (Ev.name ok (by walk_at "mem")) Ev.int (by decide)) (by walk_at "pick") hk0 (by omega) (by omega) ?_
    exact Ws.nil (Wk.sel (by walk_at "sel"))
  · refine Ws.weak (Wk.freezeS (by walk_at "pick")) ?_
    refine Ws.ret (Ev.name ok (by walk_at "mem")) ?_
    rfl

theorem fn_profile {M : Pg} (hK : M.K = Mine.hd.heap_39 M.w.params) (hb : Bi M "isinstance" (.builtin "isinstance")) (ht : Bi M "tuple" (.type "tuple")) (hbo : Bi M "ord" (.builtin "ord")) :
    Fn M 3 "_law_profile" (rep1 tStr) (tDict M.prog M.w (tFive (tDict M.prog M.w tInt))) (fun x => x.length ≤ 400) pprofile := by
  refine Fn.def1 hK (p1 := "text") (hn := by k_is) (ho := by k_is) (hcd := by k_is) (hbind := fun _ => by rfl) (h1 := by walk_at "pk") (hcn := by decide) rfl rfl rfl ?_
  intro x hx C ok hsc hcl
  refine Ws.assignDO (S := tFive (tDict M.prog M.w tInt)) (kvs := []) ok EvO.dict0 (by walk_at "kind") ⟨by decide, by decide⟩ (by walk_at "drop") ?_ rfl
  refine Ws.assign ok Ev.str (by walk_at "bn") (by walk_at "drop") ?_ rfl
  refine Ws.for ok (It.str ok (Ev.name ok (by walk_at "mem"))) (by walk_at "bn")
    (fun (s : Prof × Str) => [("profile", .dict (tFive (tDict M.prog M.w tInt)) s.1), ("ahead", .val tStr s.2)]) profStep ([], "") (Wk.sel (by walk_at "sel")) (fun s => by walk_at "drop") ?_ ?_
  · intro i a hi
    have hps := prof_take (signs x) i
    have hls : (signs x).length ≤ 400 := by unfold signs; rw [List.length_map]; exact hx
    have h1 : a.length = 1 := by
      obtain ⟨c, _, rfl⟩ := List.mem_map.mp (List.mem_of_getElem? hi)
      rfl
    change Ws M C (("sign", .val tStr a) :: [("profile", .dict _ ((((signs x).take i).foldl profStep ([], "")).1)), ("ahead", .val tStr ((((signs x).take i).foldl profStep ([], "")).2))]) _ _ _ (fun Δ' => Wk M C Δ' [("profile", .dict (tFive (tDict M.prog M.w tInt)) ((profStep (((signs x).take i).foldl profStep ([], "")) a).1)), ("ahead", .val tStr ((profStep (((signs x).take i).foldl profStep ([], "")) a).2))])
    generalize hd : ((signs x).take i).foldl profStep ([], "") = d at hps ⊢
    obtain ⟨p, ah⟩ := d
    have honce : (if a == ah then (0 : Int) else 1).natAbs < 2 ^ 63 := by split <;> decide
    refine Ws.assign ok (Ev.ite (EvB.of_cmp Cmp.eqStr (Ev.name ok (by walk_at "mem")) (Ev.name ok (by walk_at "mem")) rfl) (fun _ => Ev.int) (fun _ => Ev.int)) (by walk_at "bn") (by walk_at "drop") ?_ rfl
    refine Ws.assign (S := tFive (tDict M.prog M.w tInt)) (y := entryOf ah a) ok ?hent (by walk_at "bn") (by walk_at "drop") ?_ rfl
    case hent =>
      refine Ev.five (T := tDict M.prog M.w tInt) (x := [(ah, 1)]) (Ev.name ok (by walk_at "mem")) Ev.int (Ev.ord ok hbo (by walk_at "kind") (Ev.name ok (by walk_at "mem")) h1 rfl) (Ev.mul (Ev.name ok (by walk_at "mem")) (Ev.ord ok hbo (by walk_at "kind") (Ev.name ok (by walk_at "mem")) h1 rfl) (mulL honce)) ?hd1 rfl
      case hd1 =>
        refine Ev.ofDO ?_
        refine EvO.cast (EvO.dictK (T := tInt) (kvs := [(ah, 1)]) ?_ ?_ ?_) ?_
        · exact .cons (Ev.name ok (by walk_at "mem")) Ev.int .nil
        · exact List.cons_ne_nil _ _
        · exact Nat.le_of_ble_eq_true rfl
        · exact fun g o h => h
    refine Ws.setD (y := paddf ((dget p a).getD zeroF, entryOf ah a)) ok ?hval (Ev.name ok (by walk_at "mem")) (by walk_at "pick") (by rw [sz16]; have hpl : p.length ≤ (signs x).length := hps.len; show List.length p ≤ 16777216; omega) ?_
    case hval =>
      refine Ev.call ok (fn_addf hK hb ht) (by decide) (by walk_at "kind") (by decide) (x := ((dget p a).getD zeroF, entryOf ah a)) (EvArgs.two ?hget (Ev.name ok (by walk_at "mem"))) ?hpre rfl
      case hget =>
        refine Ev.getD (d := zeroF) ok (EvD.own ok (by walk_at "mem")) (Ev.name ok (by walk_at "mem")) ?_ rfl rfl
        refine Ev.five (T := tDict M.prog M.w tInt) (x := []) Ev.int Ev.int Ev.int Ev.int ?_ rfl
        refine Ev.ofDO ?_
        exact EvO.dict0
      case hpre =>
        have h2 : ((dget p a).getD zeroF).callers.length ≤ (signs x).length := by
          cases e : dget p a with
          | none => exact Nat.zero_le _
          | some f => exact hps.call _ (dget_mem e)
        have h3 : (entryOf ah a).callers.length = 1 := rfl
        show ((dget p a).getD zeroF).callers.length + (entryOf ah a).callers.length ≤ 1000
        omega
    refine Ws.assign ok (Ev.name ok (by walk_at "mem")) (by walk_at "bn") (by walk_at "drop") ?_ rfl
    exact Ws.nil (Wk.sel (by walk_at "sel"))
  · refine Ws.weak (Wk.freezeD (by walk_at "pick")) ?_
    refine Ws.ret (Ev.name ok (by walk_at "mem")) ?_
    rfl

-- F5
theorem fn_pairs {M : Pg} (hK : M.K = Mine.hd.heap_39 M.w.params) : Fn M 1 "_law_pairs" (rep1 tStr) (tDict M.prog M.w (tDict M.prog M.w tInt)) (fun x => x.length ≤ 400) ppairs := by
  refine Fn.def1 hK (p1 := "text") (hn := by k_is) (ho := by k_is) (hcd := by k_is) (hbind := fun _ => by rfl) (h1 := by walk_at "pk") (hcn := by decide) rfl rfl rfl ?_
  intro x hx C ok hsc hcl
  refine Ws.assignD2 (S := tInt) ok (by walk_at "kind") ⟨by decide, by decide⟩ (by walk_at "drop") ?_
  refine Ws.assign ok Ev.str (by walk_at "bn") (by walk_at "drop") ?_ rfl
  refine Ws.for ok (It.str ok (Ev.name ok (by walk_at "mem"))) (by walk_at "bn")
    (fun (s : Told × Str) => [("pairs", .dict2 tInt s.1), ("ahead", .val tStr s.2)]) pairStep ([], "") (Wk.sel (by walk_at "sel")) (fun s => by walk_at "drop") ?_ ?_
  · intro i a hi
    have hps := told_take (signs x) i
    have hls : (signs x).length ≤ 400 := by unfold signs; rw [List.length_map]; exact hx
    change Ws M C (("sign", .val tStr a) :: [("pairs", .dict2 tInt ((((signs x).take i).foldl pairStep ([], "")).1)), ("ahead", .val tStr ((((signs x).take i).foldl pairStep ([], "")).2))]) _ _ _ (fun Δ' => Wk M C Δ' [("pairs", .dict2 tInt ((pairStep (((signs x).take i).foldl pairStep ([], "")) a).1)), ("ahead", .val tStr ((pairStep (((signs x).take i).foldl pairStep ([], "")) a).2))])
    generalize hd : ((signs x).take i).foldl pairStep ([], "") = d at hps ⊢
    obtain ⟨p, ah⟩ := d
    have hpl : List.length p ≤ (signs x).length := hps.len
    refine Ws.iteJ [("sign", .val tStr a), ("pairs", .dict2 tInt (newIn p a)), ("ahead", .val tStr ah)] (EvB.notInD (Ev.name ok (by walk_at "mem")) (EvD.own2 ok (by walk_at "mem"))) (fun h => ?_) (fun h => ?_) ?_
    · have hn : dget p a = none := by rw [dget_keys] at h; simpa using h
      refine Ws.newD2 ok (Ev.name ok (by walk_at "mem")) (by walk_at "pick") hn (by rw [sz16]; show List.length p ≤ 16777216; omega) ?_
      have e : newIn p a = dset p a [] := by unfold newIn; rw [hn]; rfl
      rw [e]
      exact Ws.nil (Wk.sel (by walk_at "sel"))
    · have e : newIn p a = p := by rw [dget_keys] at h; unfold newIn; rw [if_pos (by simpa using h)]
      rw [e]
      exact Ws.nil (Wk.sel (by walk_at "sel"))
    · obtain ⟨t, ht⟩ := newIn_some p a
      have htl : t.length ≤ 401 := by
        have := (hps.newIn a).get ht
        omega
      refine Ws.setD2 (d := t) (y := (dget t ah).getD 0 + 1) ok (Ev.add (Ev.getD (d := 0) ok (EvD.item2 ok (by walk_at "mem") (Ev.name ok (by walk_at "mem")) ht) (Ev.name ok (by walk_at "mem")) Ev.int rfl rfl) Ev.int) (Ev.name ok (by walk_at "mem")) (Ev.name ok (by walk_at "mem")) (by walk_at "pick") ht (by rw [sz16]; omega) ?_
      refine Ws.assign ok (Ev.name ok (by walk_at "mem")) (by walk_at "bn") (by walk_at "drop") ?_ rfl
      have e : (pairStep (p, ah) a).1 = dset (newIn p a) a (dset t ah ((dget t ah).getD 0 + 1)) := by
        show dset (newIn p a) a (dset ((dget (newIn p a) a).getD []) ah _) = _
        rw [ht]
        rfl
      rw [e]
      exact Ws.nil (Wk.sel (by walk_at "sel"))
  · refine Ws.weak (Wk.freezeD2 (by walk_at "pick")) ?_
    refine Ws.ret (Ev.name ok (by walk_at "mem")) ?_
    rfl

theorem fn_becomes {M : Pg} (hK : M.K = Mine.hd.heap_39 M.w.params) : Fn M 1 "_law_becomes" (rep3 tStr tStr (tDict M.prog M.w tStr)) tStr (fun _ => True) pbecomes := by
  refine Fn.def3 hK (p1 := "ahead") (p2 := "sign") (p3 := "names") (hn := by k_is) (ho := by k_is) (hcd := by k_is) (hbind := fun _ _ _ => by rfl) (h1 := by walk_at "pk") (h2 := by walk_at "pk") (h3 := by walk_at "pk") (hne := by decide) (hcn := by decide) rfl rfl rfl ?_
  intro x hx C ok hsc hcl
  refine Ws.assignLC ok (T := tStr) (S := tStr) (xs := (["\r", "\n"] : List Str)) (Δc := [("names", .val (tDict M.prog M.w tStr) x.2.2)]) (fun e => !(dget x.2.2 e).isSome) (fun e => e) hsc (by walk_at "sel") ?hcf ?hit ?hif ?hel (by decide) (by walk_at "kind") ⟨by decide, by decide⟩ (by walk_at "drop") ?_ (swapL ok (by walk_at "kind") rfl (by decide))
  case hcf => exact compFactsN ["names"] (.cons .nil) (by decide +kernel)
  case hit =>
    refine It.list ok (Ev.ofLO (EvO.list ?_ (by decide) rfl))
    repeat' first | exact EvArgs.nil | exact Ev.str | refine EvArgs.cons ?_ ?_
  case hif =>
    intro a ha C' ok' hsc'
    exact EvIf.one (EvB.notInD (Ev.name ok' (by walk_at "mem")) (EvD.of (Ev.name ok' (by walk_at "mem"))))
  case hel =>
    intro a ha _ C' ok' hsc'
    exact Ev.name ok' (by walk_at "mem")
  rw [List.map_id']
  refine Ws.weak (Wk.freezeL (by walk_at "pick")) ?_
  change Ws M C (("bare", .val (tList tStr) (bareOf x.2.2)) :: _) _ _ _ _
  refine Ws.ite (EvB.inD (Ev.name ok (by walk_at "mem")) (EvD.of (Ev.name ok (by walk_at "mem")))) (fun h => ?_) (fun h => ?_)
  · obtain ⟨v, hv⟩ := Option.isSome_iff_exists.mp h
    refine Ws.ret (Ev.itemD (EvD.of (Ev.name ok (by walk_at "mem"))) (Ev.name ok (by walk_at "mem")) hv) ?_
    unfold pbecomes
    rw [hv]
  · have hv : dget x.2.2 x.2.1 = none := by simpa using h
    refine Ws.ite (EvB.of_cmp Cmp.eqStr (Ev.name ok (by walk_at "mem")) Ev.str rfl) (fun h1 => ?_) (fun h1 => ?_)
    · refine Ws.ret (Ev.ite (EvB.or2 (EvB.of_cmp Cmp.eqStr (Ev.name ok (by walk_at "mem")) Ev.str rfl) (fun _ => EvB.of_cmp Cmp.inListS (Ev.name ok (by walk_at "mem")) (Ev.name ok (by walk_at "mem")) rfl)) (fun _ => Ev.str) (fun _ => Ev.str)) ?_
      unfold pbecomes
      rw [hv]
      dsimp only
      rw [if_pos h1]
    · refine Ws.ite (EvB.and3 (EvB.of_cmp Cmp.eqStr (Ev.name ok (by walk_at "mem")) Ev.str rfl) (fun _ => EvB.of_cmp Cmp.eqStr (Ev.name ok (by walk_at "mem")) Ev.str rfl) (fun _ _ => EvB.of_cmp Cmp.inListS (Ev.name ok (by walk_at "mem")) (Ev.name ok (by walk_at "mem")) rfl)) (fun h2 => ?_) (fun h2 => ?_)
      · refine Ws.ret Ev.str ?_
        unfold pbecomes
        rw [hv]
        dsimp only
        rw [if_neg (by rw [h1]; exact Bool.false_ne_true), if_pos h2]
      · refine Ws.ret (Ev.ite (EvB.of_cmp Cmp.inListS (Ev.name ok (by walk_at "mem")) (Ev.name ok (by walk_at "mem")) rfl) (fun _ => Ev.str) (fun _ => Ev.name ok (by walk_at "mem"))) ?_
        unfold pbecomes
        rw [hv]
        dsimp only
        rw [h1, h2]
        rfl

-- F6
theorem fn_told {M : Pg} (hK : M.K = Mine.hd.heap_39 M.w.params) : Fn M 2 "_law_told" (rep2 (tDict M.prog M.w (tFive (tDict M.prog M.w tInt))) (tDict M.prog M.w tStr)) (tDict M.prog M.w (tDict M.prog M.w tInt)) (fun x => ProfOk x.1 x.2) ptold := by
  refine Fn.def2 hK (p1 := "profile") (p2 := "names") (hn := by k_is) (ho := by k_is) (hcd := by k_is) (hbind := fun _ _ => by rfl) (h1 := by walk_at "pk") (h2 := by walk_at "pk") (hne := by decide) (hcn := by decide) rfl rfl rfl ?_
  intro x hx C ok hsc hcl
  obtain ⟨pr, nm⟩ := x
  have hx' : ProfOk pr nm := hx
  refine Ws.assignD2 (S := tInt) ok (by walk_at "kind") ⟨by decide, by decide⟩ (by walk_at "drop") ?_
  refine Ws.for ok (It.keys ok (Ev.name ok (by walk_at "mem"))) (by walk_at "bn")
    (fun (t : Told) => [("told", .dict2 tInt t), ("profile", .val (tDict M.prog M.w (tFive (tDict M.prog M.w tInt))) pr), ("names", .val (tDict M.prog M.w tStr) nm)]) (toldSign pr nm) [] (Wk.sel (by walk_at "sel")) (fun s => by walk_at "drop") ?_ ?_
  · intro i sg hi
    have ht0 := told_at hx' i
    have hsg : sg ∈ pr.map (·.1) := List.mem_of_getElem? hi
    generalize hd : ((pr.map (·.1)).take i).foldl (toldSign pr nm) [] = t0 at ht0 ⊢
    obtain ⟨f, hf⟩ := dget_key hsg
    have hfc : callersOf pr sg = f.callers := by unfold callersOf; rw [hf]; rfl
    have hfl : f.callers.length ≤ 100 := hx'.call _ (dget_mem hf)
    have hsl : sg.length ≤ 10 := hx'.sign _ (dget_mem hf)
    refine Ws.assign (S := tDict M.prog M.w tInt) (y := f.callers) ok ?hcal (by walk_at "bn") (by walk_at "drop") ?_ rfl
    case hcal =>
      refine Ev.itemF (x := f) ?_
      exact Ev.itemD (EvD.of (Ev.name ok (by walk_at "mem"))) (Ev.name ok (by walk_at "mem")) hf
    refine Ws.for ok (It.keys ok (Ev.name ok (by walk_at "mem"))) (by walk_at "bn")
      (fun (t : Told) => [("told", .dict2 tInt t), ("callers", .val (tDict M.prog M.w tInt) f.callers), ("sign", .val tStr sg), ("profile", .val (tDict M.prog M.w (tFive (tDict M.prog M.w tInt))) pr), ("names", .val (tDict M.prog M.w tStr) nm)]) (toldAhead nm sg f.callers) t0 (Wk.sel (by walk_at "sel")) (fun s => by walk_at "drop") ?_ ?_
    · intro j ah hj
      have ht1 := fold_small ToldSmall (fun _ _ _ h hk => h.mono hk) 10 ((f.callers.map (·.1)).take j) t0 100000 (fun b _ k s hk => toldAhead_small hx'.names hsl f.callers hk b) ht0
      have hah : ah ∈ f.callers.map (·.1) := List.mem_of_getElem? hj
      obtain ⟨v, hv⟩ := dget_key hah
      have hjl : ((f.callers.map (·.1)).take j).length ≤ 100 := by rw [List.length_take, List.length_map]; omega
      generalize hd1 : ((f.callers.map (·.1)).take j).foldl (toldAhead nm sg f.callers) t0 = t1 at ht1 ⊢
      replace ht1 := ht1.mono (show _ ≤ 101000 by omega)
      refine Ws.assign ok (Ev.call ok (fn_last hK) (by decide) (by walk_at "kind") (by decide) (x := (ah, nm)) (EvArgs.two (Ev.name ok (by walk_at "mem")) (Ev.name ok (by walk_at "mem"))) trivial rfl) (by walk_at "bn") (by walk_at "drop") ?_ rfl
      have hbl := becomes_len hx'.names (a := ah) hsl
      refine Ws.for ok (It.str ok (Ev.call ok (fn_becomes hK) (by decide) (by walk_at "kind") (by decide) (x := (ah, sg, nm)) (EvArgs.three (Ev.name ok (by walk_at "mem")) (Ev.name ok (by walk_at "mem")) (Ev.name ok (by walk_at "mem"))) trivial rfl)) (by walk_at "bn")
        (fun (s : Told × Str) => [("told", .dict2 tInt s.1), ("last", .val tStr s.2), ("ahead", .val tStr ah), ("callers", .val (tDict M.prog M.w tInt) f.callers), ("sign", .val tStr sg), ("profile", .val (tDict M.prog M.w (tFive (tDict M.prog M.w tInt))) pr), ("names", .val (tDict M.prog M.w tStr) nm)])
        (toldOne v) (t1, plast (ah, nm)) (Wk.sel (by walk_at "sel")) (fun s => by walk_at "drop") ?_ ?_
      · intro k one hk
        have ht2 := toldOne_fold (v := v) ((signs (pbecomes (ah, sg, nm))).take k) (s := (t1, plast (ah, nm))) ht1
        have hkl : ((signs (pbecomes (ah, sg, nm))).take k).length ≤ 10 := by rw [List.length_take, signs_len]; omega
        change Ws M C (("one", .val tStr one) :: [("told", .dict2 tInt ((((signs (pbecomes (ah, sg, nm))).take k).foldl (toldOne v) (t1, plast (ah, nm))).1)), ("last", .val tStr ((((signs (pbecomes (ah, sg, nm))).take k).foldl (toldOne v) (t1, plast (ah, nm))).2)), ("ahead", .val tStr ah), ("callers", .val (tDict M.prog M.w tInt) f.callers), ("sign", .val tStr sg), ("profile", .val (tDict M.prog M.w (tFive (tDict M.prog M.w tInt))) pr), ("names", .val (tDict M.prog M.w tStr) nm)]) _ _ _
          (fun Δ' => Wk M C Δ' [("told", .dict2 tInt ((toldOne v (((signs (pbecomes (ah, sg, nm))).take k).foldl (toldOne v) (t1, plast (ah, nm))) one).1)), ("last", .val tStr ((toldOne v (((signs (pbecomes (ah, sg, nm))).take k).foldl (toldOne v) (t1, plast (ah, nm))) one).2)), ("ahead", .val tStr ah), ("callers", .val (tDict M.prog M.w tInt) f.callers), ("sign", .val tStr sg), ("profile", .val (tDict M.prog M.w (tFive (tDict M.prog M.w tInt))) pr), ("names", .val (tDict M.prog M.w tStr) nm)])
        generalize hd2 : ((signs (pbecomes (ah, sg, nm))).take k).foldl (toldOne v) (t1, plast (ah, nm)) = d at ht2 ⊢
        obtain ⟨p, la⟩ := d
        replace ht2 : ToldSmall 102000 p := ht2.mono (by omega)
        have hpl : List.length p ≤ 102000 := ht2.len
        refine Ws.iteJ [("one", .val tStr one), ("told", .dict2 tInt (newIn p one)), ("last", .val tStr la), ("ahead", .val tStr ah), ("callers", .val (tDict M.prog M.w tInt) f.callers), ("sign", .val tStr sg), ("profile", .val (tDict M.prog M.w (tFive (tDict M.prog M.w tInt))) pr), ("names", .val (tDict M.prog M.w tStr) nm)]
          (EvB.notInD (Ev.name ok (by walk_at "mem")) (EvD.own2 ok (by walk_at "mem"))) (fun h => ?_) (fun h => ?_) ?_
        · have hn : dget p one = none := by rw [dget_keys] at h; simpa using h
          refine Ws.newD2 ok (Ev.name ok (by walk_at "mem")) (by walk_at "pick") hn (by rw [sz16]; show List.length p ≤ 16777216; omega) ?_
          have e : newIn p one = dset p one [] := by unfold newIn; rw [hn]; rfl
          rw [e]
          exact Ws.nil (Wk.sel (by walk_at "sel"))
        · have e : newIn p one = p := by rw [dget_keys] at h; unfold newIn; rw [if_pos (by simpa using h)]
          rw [e]
          exact Ws.nil (Wk.sel (by walk_at "sel"))
        · obtain ⟨t, ht⟩ := newIn_some p one
          have htl : t.length ≤ 102001 := (ht2.newIn one).get ht
          refine Ws.setD2 (d := t) (y := (dget t la).getD 0 + v) ok (Ev.add (Ev.getD (d := 0) ok (EvD.item2 ok (by walk_at "mem") (Ev.name ok (by walk_at "mem")) ht) (Ev.name ok (by walk_at "mem")) Ev.int rfl rfl) (Ev.itemD (EvD.of (Ev.name ok (by walk_at "mem"))) (Ev.name ok (by walk_at "mem")) hv)) (Ev.name ok (by walk_at "mem")) (Ev.name ok (by walk_at "mem")) (by walk_at "pick") ht (by rw [sz16]; omega) ?_
          refine Ws.assign ok (Ev.name ok (by walk_at "mem")) (by walk_at "bn") (by walk_at "drop") ?_ rfl
          have e : (toldOne v (p, la) one).1 = dset (newIn p one) one (dset t la ((dget t la).getD 0 + v)) := by
            show dset (newIn p one) one (dset ((dget (newIn p one) one).getD []) la _) = _
            rw [ht]
            rfl
          rw [e]
          exact Ws.nil (Wk.sel (by walk_at "sel"))
      · have e : toldAhead nm sg f.callers t1 ah = ((signs (pbecomes (ah, sg, nm))).foldl (toldOne v) (t1, plast (ah, nm))).1 := by
          unfold toldAhead
          rw [hv]
          rfl
        rw [e]
        exact Ws.nil (Wk.sel (by walk_at "sel"))
    · have e : toldSign pr nm t0 sg = (f.callers.map (·.1)).foldl (toldAhead nm sg f.callers) t0 := by
        unfold toldSign
        rw [hfc]
      rw [e]
      exact Ws.nil (Wk.sel (by walk_at "sel"))
  · refine Ws.weak (Wk.freezeD2 (by walk_at "pick")) ?_
    refine Ws.ret (Ev.name ok (by walk_at "mem")) ?_
    rfl

theorem fn_due {M : Pg} (hK : M.K = Mine.hd.heap_39 M.w.params) (hbs : Bi M "sum" (.builtin "sum")) (hbo : Bi M "ord" (.builtin "ord")) : Fn M 1 "_law_due" (rep1 (tDict M.prog M.w (tDict M.prog M.w tInt))) (tDict M.prog M.w (tFive (tDict M.prog M.w tInt))) (fun x => ToldOk x) pdue := by
  refine Fn.def1 hK (p1 := "told") (hn := by k_is) (ho := by k_is) (hcd := by k_is) (hbind := fun _ => by rfl) (h1 := by walk_at "pk") (hcn := by decide) rfl rfl rfl ?_
  intro x hx C ok hsc hcl
  refine Ws.assignDO (S := tFive (tDict M.prog M.w tInt)) (kvs := []) ok EvO.dict0 (by walk_at "kind") ⟨by decide, by decide⟩ (by walk_at "drop") ?_ rfl
  refine Ws.for ok (It.keys ok (Ev.name ok (by walk_at "mem"))) (by walk_at "bn")
    (fun (d : Prof) => [("due", .dict (tFive (tDict M.prog M.w tInt)) d), ("told", .val (tDict M.prog M.w (tDict M.prog M.w tInt)) x)]) (dueStep x) [] (Wk.sel (by walk_at "sel")) (fun s => by walk_at "drop") ?_ ?_
  · intro i sg hi
    have hsg : sg ∈ x.map (·.1) := List.mem_of_getElem? hi
    have hdl := due_len x ((x.map (·.1)).take i) []
    have hil : ((x.map (·.1)).take i).length ≤ x.length := by rw [List.length_take, List.length_map]; omega
    have hxl := hx.len
    generalize hd : ((x.map (·.1)).take i).foldl (dueStep x) [] = d at hdl ⊢
    rw [List.length_nil] at hdl
    obtain ⟨t, ht⟩ := dget_key hsg
    obtain ⟨c, hc, hsc1⟩ := hx.sign _ (dget_mem ht)
    have hsg1 : sg.length = 1 := by simp only at hsc1; rw [hsc1]; rfl
    have hcode : (codeOf sg).natAbs < 2 ^ 63 := by
      simp only at hsc1
      rw [hsc1]
      show c < 2 ^ 63
      omega
    have htl := hx.call _ (dget_mem ht)
    have htn := hx.num _ (dget_mem ht)
    have hnum : ∀ y ∈ (t.map (·.1)).map fun a => (dget t a).getD 0, -1000000 ≤ y ∧ y ≤ 1000000 := fun y hy => by
      obtain ⟨a, _, rfl⟩ := List.mem_map.mp hy
      cases e : dget t a with
      | none => exact ⟨by decide, by decide⟩
      | some v => exact htn _ (dget_mem e)
    refine Ws.assign (S := tInt) (y := callsOf t) ok ?hcalls (by walk_at "bn") (by walk_at "drop") ?_ rfl
    case hcalls =>
      refine Ev.sum (xs := (t.map (·.1)).map fun a => (dget t a).getD 0) ok hbs (by walk_at "kind") ?hl (long_ok hnum (by rw [List.length_map, List.length_map]; exact htl)) ?hst
      case hst => rfl
      case hl =>
        refine Ev.cast (Ev.ofLO (EvO.listComp ok (T := tInt) (Δc := [("told", .val (tDict M.prog M.w (tDict M.prog M.w tInt)) x), ("sign", .val tStr sg)]) (fun _ => true) (fun a => (dget t a).getD 0) hsc (by walk_at "sel") ?hcf
          (It.keys (kvs := t) ok (Ev.itemD (EvD.of (Ev.name ok (by walk_at "mem"))) (Ev.name ok (by walk_at "mem")) ht)) ?hif ?hel ?hsz)) ?heq
        case hcf => exact compFactsN ["told", "sign"] (.cons (.cons .nil)) (by decide +kernel)
        case hif => exact fun a ha C' ok' hsc' => EvIf.nil
        case hel =>
          intro a ha _ C' ok' hsc'
          obtain ⟨v, hv⟩ := dget_key ha
          refine Ev.cast (Ev.itemD (EvD.of (Ev.itemD (EvD.of (Ev.name ok' (by walk_at "mem"))) (Ev.name ok' (by walk_at "mem")) ht)) (Ev.name ok' (by walk_at "mem")) hv) ?_
          rw [hv]
          rfl
        case hsz => rw [List.length_map, sz16]; simp only at htl; omega
        case heq => rw [List.filter_eq_self.mpr (fun _ _ => rfl)]
    refine Ws.assign ok (Ev.sub (Ev.name ok (by walk_at "mem")) (Ev.getD (d := 0) ok (EvD.of (Ev.itemD (EvD.of (Ev.name ok (by walk_at "mem"))) (Ev.name ok (by walk_at "mem")) ht)) (Ev.name ok (by walk_at "mem")) Ev.int rfl rfl)) (by walk_at "bn") (by walk_at "drop") ?_ rfl
    refine Ws.setD (y := (⟨callsOf t - (dget t sg).getD 0, callsOf t, callsOf t * codeOf sg, (callsOf t - (dget t sg).getD 0) * codeOf sg, t⟩ : Five Tab)) ok ?hval (Ev.name ok (by walk_at "mem")) (by walk_at "pick") (by rw [sz16]; omega) ?_
    case hval =>
      refine Ev.five (Ev.name ok (by walk_at "mem")) (Ev.name ok (by walk_at "mem")) (Ev.mul (Ev.name ok (by walk_at "mem")) (Ev.ord ok hbo (by walk_at "kind") (Ev.name ok (by walk_at "mem")) hsg1 rfl) (mulR hcode)) (Ev.mul (Ev.name ok (by walk_at "mem")) (Ev.ord ok hbo (by walk_at "kind") (Ev.name ok (by walk_at "mem")) hsg1 rfl) (mulR hcode)) ?_ rfl
      exact Ev.itemD (EvD.of (Ev.name ok (by walk_at "mem"))) (Ev.name ok (by walk_at "mem")) ht
    have e : dueStep x d sg = dset d sg ⟨callsOf t - (dget t sg).getD 0, callsOf t, callsOf t * codeOf sg, (callsOf t - (dget t sg).getD 0) * codeOf sg, t⟩ := by
      unfold dueStep
      rw [ht]
      rfl
    rw [e]
    exact Ws.nil (Wk.sel (by walk_at "sel"))
  · refine Ws.weak (Wk.freezeD (by walk_at "pick")) ?_
    refine Ws.ret (Ev.name ok (by walk_at "mem")) ?_
    rfl

-- F7
theorem slice_is (x : Str) (k : Nat) (hk : k ≤ x.length) : Txt.slice x (some (if (0 : Int) + (k : Int) - 1 > 0 then (0 : Int) + (k : Int) - 1 else 0)) (some ((0 : Int) + (k : Int))) = behindAt x k := by
  have h1 : ((if (0 : Int) + (k : Int) - 1 > 0 then (0 : Int) + (k : Int) - 1 else 0)) = ((k - 1 : Nat) : Int) := by split <;> omega
  rw [h1, Int.zero_add]
  have h2 := eq_of_beq (slice_closesL (x := x) (i := ((k - 1 : Nat) : Int)) (j := (k : Int)) (by omega) (by omega) (by omega))
  rw [h2]
  unfold behindAt S
  rw [Int.toNat_natCast, show ((k : Int) - ((k - 1 : Nat) : Int)).toNat = k - (k - 1) by omega]
theorem fn_page {M : Pg} (hK : M.K = Mine.hd.heap_39 M.w.params) (hbr : Bi M "range" (.type "range")) (hbl : Bi M "len" (.builtin "len")) (hbm : Bi M "max" (.builtin "max")) :
    Fn M 2 "_law_page" (rep2 tStr (tDict M.prog M.w tStr)) tStr (fun x => x.1.length ≤ 1000 ∧ ∀ q ∈ x.2, q.2.length ≤ 10) ppg := by
  refine Fn.def2 hK (p1 := "text") (p2 := "names") (hn := by k_is) (ho := by k_is) (hcd := by k_is) (hbind := fun _ _ => by rfl) (h1 := by walk_at "pk") (h2 := by walk_at "pk") (hne := by decide) (hcn := by decide) rfl rfl rfl ?_
  intro x hx C ok hsc hcl
  obtain ⟨hx1, hx2⟩ := hx
  refine Ws.ret (y := ppg x) ?hret rfl
  case hret =>
    refine Ev.cast (Ev.join (xs := ((List.range x.1.length)).map fun k => pbecomes (behindAt x.1 k, charAt x.1 k, x.2)) ok ?hjl ?hsum rfl rfl) rfl
    case hjl =>
      refine Ev.cast (Ev.ofLO (EvO.listComp ok (T := tStr) (S := tInt) (Δc := [("text", .val tStr x.1), ("names", .val (tDict M.prog M.w tStr) x.2)]) (fun _ => true) (fun (k : Int) => pbecomes (behindAt x.1 k.toNat, charAt x.1 k.toNat, x.2)) hsc (by walk_at "sel") ?hcf
        (It.range1 (m := (x.1.length : Int)) ok hbr (by walk_at "kind") (Ev.lenStr ok hbl (by walk_at "kind") (Ev.name ok (by walk_at "mem")) (by omega) rfl) (by omega) (by omega) rfl) ?hif ?hel ?hsz)) ?heq
      case hcf => exact compFactsN ["text", "names"] (.cons (.cons .nil)) (by decide +kernel)
      case hif => exact fun a ha C' ok' hsc' => EvIf.nil
      case hel =>
        intro a ha _ C' ok' hsc'
        obtain ⟨k, hk, rfl⟩ := List.mem_map.mp ha
        have hk' : k < x.1.length := by have := List.mem_range.mp hk; omega
        have hkn : ((0 : Int) + (k : Int)).toNat = k := by omega
        rw [hkn]
        refine Ev.call ok' (fn_becomes hK) (by decide) (by walk_at "kind") (by decide) (x := (behindAt x.1 k, charAt x.1 k, x.2)) (EvArgs.three ?h1 ?h2 (Ev.name ok' (by walk_at "mem"))) trivial rfl
        case h1 =>
          refine Ev.cast (Ev.sliceS (Ev.name ok' (by walk_at "mem")) (Ev.max2 ok' hbm (by walk_at "kind") Ev.int (Ev.sub (Ev.name ok' (by walk_at "mem")) Ev.int) rfl) (Ev.name ok' (by walk_at "mem")) (by rw [sz16]; omega)) ?_
          exact slice_is x.1 k (by omega)
        case h2 =>
          refine Ev.itemS (c := x.1.cps.getD k 0) (Ev.name ok' (by walk_at "mem")) (Ev.name ok' (by walk_at "mem")) (by omega) (by omega) ?_
          have h3 : k < x.1.cps.size := hk'
          have e : seqIndex? ((0 : Int) + (k : Int)) x.1.length = some k := by
            unfold seqIndex?
            simp
            omega
          rw [e]
          simp [h3, Array.getD]
      case hsz => rw [List.length_map, List.length_range, sz16]; omega
      case heq =>
        rw [List.filter_eq_self.mpr (fun _ _ => rfl), List.map_map, show ((x.1.length : Int)).toNat = x.1.length by omega]
        refine List.map_congr_left fun k _ => ?_
        simp only [Function.comp]
        rw [show ((0 : Int) + (k : Int)).toNat = k by omega]
    case hsum =>
      have h1 := sum_le (c := 10) (ys := ((List.range x.1.length)).map fun k => pbecomes (behindAt x.1 k, charAt x.1 k, x.2)) fun y hy => by
        obtain ⟨k, _, rfl⟩ := List.mem_map.mp hy
        refine becomes_len hx2 ?_
        show 1 ≤ 10
        decide
      rw [List.length_map, List.length_range] at h1 ⊢
      have h2 : (Str.ofString "").length = 0 := by rfl
      rw [h2]
      omega

-- F8
theorem last_ix {x : Str} (h : 0 < x.length) : (seqIndex? (-1) x.length).bind (x.cps[·]?) = some (x.cps.getD (x.length - 1) 0) := by
  have e : seqIndex? (-1) x.length = some (x.length - 1) := by
    unfold seqIndex?
    simp
    omega
  rw [e]
  have h3 : x.length - 1 < x.cps.size := by show x.cps.size - 1 < x.cps.size; have : 0 < x.cps.size := h; omega
  simp [h3, Array.getD]
theorem fn_texts {M : Pg} (hK : M.K = Mine.hd.heap_39 M.w.params) (hb : Bi M "isinstance" (.builtin "isinstance")) (ht : Bi M "tuple" (.type "tuple")) (hbr : Bi M "range" (.type "range")) :
    Fn M 2 "_law_texts" (rep3 (tDict M.prog M.w (tFive (tDict M.prog M.w tInt))) tStr tInt) (tList tStr) (fun x => TextsOk x) ptexts := by
  refine Fn.def3 hK (p1 := "profile") (p2 := "first") (p3 := "size") (hn := by k_is) (ho := by k_is) (hcd := by k_is) (hbind := fun _ _ _ => by rfl) (h1 := by walk_at "pk") (h2 := by walk_at "pk") (h3 := by walk_at "pk") (hne := by decide) (hcn := by decide) rfl rfl rfl ?_
  intro x hx C ok hsc hcl
  have hx' : TextsOk x := hx
  have hlen := hx'.len
  have hsize := hx'.size
  refine Ws.assign (S := tList (tPair tStr (tDict M.prog M.w (tDict M.prog M.w tInt)))) (y := [(x.2.1, copyP x.1)]) ok ?hways (by walk_at "bn") (by walk_at "drop") ?_ rfl
  case hways =>
    refine Ev.ofLO (EvO.list (.cons (Ev.pair (Ev.name ok (by walk_at "mem")) ?hd rfl) .nil) (by show 1 ≤ _; rw [sz16]; omega) rfl)
    case hd =>
      refine Ev.ofDO ?_
      refine EvO.cast (EvO.dictComp ok (T := tDict M.prog M.w tInt) (S := tStr) (xs := x.1.map (·.1)) (Δc := [("profile", .val (tDict M.prog M.w (tFive (tDict M.prog M.w tInt))) x.1)]) (fun _ => true) (fun s => s) (fun s => callersOf x.1 s) hsc (by walk_at "sel") ?hcf (It.keys ok (Ev.name ok (by walk_at "mem"))) ?hif ?hk ?hv ?hsz) ?hc
      case hcf => exact compFactsN ["profile"] (.cons .nil) (by decide +kernel)
      case hif => exact fun a ha C' ok' hsc' => EvIf.nil
      case hk => exact fun a ha _ C' ok' hsc' => Ev.name ok' (by walk_at "mem")
      case hv =>
        intro a ha _ C' ok' hsc'
        obtain ⟨f, hf⟩ := dget_key ha
        have e : callersOf x.1 a = f.callers := by unfold callersOf; rw [hf]; rfl
        rw [e]
        refine Ev.itemF (x := f) ?_
        exact Ev.itemD (EvD.of (Ev.name ok' (by walk_at "mem"))) (Ev.name ok' (by walk_at "mem")) hf
      case hsz => rw [List.length_map, sz16]; omega
      case hc =>
        intro g o h
        rw [List.filter_eq_self.mpr (fun _ _ => rfl)] at h
        exact h
  have hw0 := copyP_ok hx'
  refine Ws.for ok (It.range2 ok hbr (by walk_at "kind") Ev.int (Ev.name ok (by walk_at "mem")) (by omega) (by omega) ?hlo (by omega) rfl) (by walk_at "bn")
    (fun (ways : Ways) => [("ways", .val (tList (tPair tStr (tDict M.prog M.w (tDict M.prog M.w tInt)))) ways)]) longerOf [(x.2.1, copyP x.1)] (Wk.sel (by walk_at "sel")) (fun s => by walk_at "drop") ?_ ?_
  case hlo => exact hx'.lo
  · intro i st hi
    have hil : (((List.range (x.2.2 - 1).toNat).map fun (j : Nat) => (1 : Int) + (j : Int)).take i).length ≤ 5 := by
      have h1 : i < ((List.range (x.2.2 - 1).toNat).map fun (j : Nat) => (1 : Int) + (j : Int)).length := (List.getElem?_eq_some_iff.mp hi).1
      rw [List.length_map, List.length_range] at h1
      rw [List.length_take]
      omega
    have hwi := ways_ok hw0 (((List.range (x.2.2 - 1).toNat).map fun (j : Nat) => (1 : Int) + (j : Int)).take i) (by omega)
    generalize hd : (((List.range (x.2.2 - 1).toNat).map fun (j : Nat) => (1 : Int) + (j : Int)).take i).foldl longerOf [(x.2.1, copyP x.1)] = ways at hwi ⊢
    generalize hI : (((List.range (x.2.2 - 1).toNat).map fun (j : Nat) => (1 : Int) + (j : Int)).take i).length = I at hil hwi
    have hpow : 14 ^ I ≤ 14 ^ 5 := Nat.pow_le_pow_right (by decide) hil
    have hwl := hwi.len
    refine Ws.assignLO (S := tPair tStr (tDict M.prog M.w (tDict M.prog M.w tInt))) (xs := []) ok (EvO.list .nil (by decide) rfl) (by walk_at "kind") ⟨by decide, by decide⟩ (by walk_at "drop") ?_ rfl
    refine Ws.for2 ok (It2.pairs ok (Ev.name ok (by walk_at "mem"))) (by walk_at "bn") (by walk_at "bn") (by decide)
      (fun (acc : Ways) => [("longer", .list (tPair tStr (tDict M.prog M.w (tDict M.prog M.w tInt))) acc), ("ways", .val (tList (tPair tStr (tDict M.prog M.w (tDict M.prog M.w tInt)))) ways)]) wayText [] (Wk.sel (by walk_at "sel")) (fun s => by walk_at "drop") (fun s => by walk_at "drop") ?_ ?_
    · intro j w hj
      have hwok := hwi.all _ (List.mem_of_getElem? hj)
      have hacc := wayTexts_ok (i := I) (k := 0) (acc := []) (by omega) ⟨Nat.le_refl _, fun w hw => by cases hw⟩ (ways.take j) (fun w hw => hwi.all w (List.mem_of_mem_take hw))
      have hjl : (ways.take j).length ≤ ways.length := by rw [List.length_take]; omega
      generalize hd1 : (ways.take j).foldl wayText [] = acc at hacc ⊢
      replace hacc : Growing I (14 ^ 6) acc := hacc.mono (by omega)
      obtain ⟨tx, lf⟩ := w
      have htx : 0 < tx.length := by have := hwok.text; simp only at this; omega
      have hlfl : List.length lf ≤ 13 := by have := hwok.len; simp only at this; omega
      refine Ws.assign (S := tStr) (y := lastOf tx) ok (Ev.itemS (Ev.name ok (by walk_at "mem")) (Ev.neg Ev.int) (by decide) (by decide) (last_ix htx)) (by walk_at "bn") (by walk_at "drop") ?_ rfl
      refine Ws.for ok (It.keys ok (Ev.name ok (by walk_at "mem"))) (by walk_at "bn")
        (fun (acc : Ways) => [("longer", .list (tPair tStr (tDict M.prog M.w (tDict M.prog M.w tInt))) acc), ("last", .val tStr (lastOf tx)), ("left", .val (tDict M.prog M.w (tDict M.prog M.w tInt)) lf), ("text", .val tStr tx), ("ways", .val (tList (tPair tStr (tDict M.prog M.w (tDict M.prog M.w tInt)))) ways)]) (wayStep tx lf) acc (Wk.sel (by walk_at "sel")) (fun s => by walk_at "drop") ?_ ?_
      · intro k sg hk
        have hsg : sg ∈ lf.map (·.1) := List.mem_of_getElem? hk
        have hac2 := waySteps_ok hwok hacc ((lf.map (·.1)).take k) (fun s hs => List.mem_of_mem_take hs)
        have hkl : ((lf.map (·.1)).take k).length ≤ 13 := by rw [List.length_take, List.length_map]; omega
        change Growing I _ (((lf.map (·.1)).take k).foldl (wayStep tx lf) acc) at hac2
        generalize hd2 : ((lf.map (·.1)).take k).foldl (wayStep tx lf) acc = ac at hac2 ⊢
        have hacl := hac2.len
        obtain ⟨t, ht'⟩ := dget_key hsg
        have htl : t.length ≤ 106 := by have := hwok.call _ (dget_mem ht'); simp only at this; omega
        have hsgl : sg.length = 1 := by
          obtain ⟨q, hq, rfl⟩ := List.mem_map.mp hsg
          exact hwok.key q hq
        refine Ws.iteN (EvB.of_cmp Cmp.gtInt (Ev.getD (d := 0) ok (EvD.of (Ev.itemD (EvD.of (Ev.name ok (by walk_at "mem"))) (Ev.name ok (by walk_at "mem")) ht')) (Ev.name ok (by walk_at "mem")) Ev.int rfl rfl) Ev.int rfl) (fun h => ?_) (fun h => ?_)
        · refine Ws.assignDC ok (T := tDict M.prog M.w tInt) (S := tStr) (xs := lf.map (·.1)) (Δc := [("left", .val (tDict M.prog M.w (tDict M.prog M.w tInt)) lf)]) (fun _ => true) (fun s => s) (fun o => (dget lf o).getD []) hsc (by walk_at "sel") ?hcf (It.keys ok (Ev.name ok (by walk_at "mem"))) ?hif ?hk ?hv ?hsz (by walk_at "kind") ⟨by decide, by decide⟩ (by walk_at "drop") ?_ (swapD ok (by walk_at "kind") rfl (by decide))
          case hcf => exact compFactsN ["left"] (.cons .nil) (by decide +kernel)
          case hif => exact fun a ha C' ok' hsc' => EvIf.nil
          case hk => exact fun a ha _ C' ok' hsc' => Ev.name ok' (by walk_at "mem")
          case hv =>
            intro a ha _ C' ok' hsc'
            obtain ⟨f, hf⟩ := dget_key ha
            have e : (dget lf a).getD [] = f := by rw [hf]; rfl
            rw [e]
            exact Ev.itemD (EvD.of (Ev.name ok' (by walk_at "mem"))) (Ev.name ok' (by walk_at "mem")) hf
          case hsz => rw [List.length_map, sz16]; omega
          rw [List.filter_eq_self.mpr (fun _ _ => rfl)]
          change Ws M C (("less", .dict (tDict M.prog M.w tInt) (copyT lf)) :: _) _ _ _ _
          refine Ws.setD (y := paddc (t, [(lastOf tx, -1)])) ok ?hval (Ev.name ok (by walk_at "mem")) (by walk_at "pick") (by have := copyT_len lf; rw [sz16]; omega) ?_
          case hval =>
            refine Ev.call ok (fn_addc hK hb ht) (by decide) (by walk_at "kind") (by decide) (x := (t, [(lastOf tx, -1)])) (EvArgs.two (Ev.itemD (EvD.of (Ev.name ok (by walk_at "mem"))) (Ev.name ok (by walk_at "mem")) ht') ?hdd) (by show t.length + 1 ≤ 1000; omega) rfl
            case hdd =>
              refine Ev.ofDO ?_
              refine EvO.cast (EvO.dictK (T := tInt) (kvs := [(lastOf tx, -1)]) ?_ ?_ ?_) (fun g o h => h)
              · exact .cons (Ev.name ok (by walk_at "mem")) (Ev.neg Ev.int) .nil
              · exact List.cons_ne_nil _ _
              · exact Nat.le_of_ble_eq_true rfl
          have eless : dset (copyT lf) sg (paddc (t, [(lastOf tx, -1)])) = lessOf lf sg (lastOf tx) := by unfold lessOf; rw [ht']; rfl
          rw [eless]
          refine Ws.weak (Wk.freezeD (by walk_at "pick")) ?_
          refine Ws.append (y := (tx ++ sg, lessOf lf sg (lastOf tx))) ok (Ev.pair (Ev.addStr (Ev.name ok (by walk_at "mem")) (Ev.name ok (by walk_at "mem")) ?hzz) (Ev.name ok (by walk_at "mem")) rfl) (by walk_at "pick") (by rw [sz16]; omega) ?_ rfl rfl
          case hzz => have := hwok.text; simp only at this; rw [sz16]; omega
          have e : wayStep tx lf ac sg = ac ++ [(tx ++ sg, lessOf lf sg (lastOf tx))] := by
            unfold wayStep
            rw [ht']
            exact if_pos h
          rw [e]
          exact Ws.nil (Wk.sel (by walk_at "sel"))
        · have e : wayStep tx lf ac sg = ac := by
            unfold wayStep
            rw [ht']
            exact if_neg (by rw [Option.getD_some, h]; exact Bool.false_ne_true)
          rw [e]
          exact Ws.nil (Wk.sel (by walk_at "sel"))
      · exact Ws.nil (Wk.sel (by walk_at "sel"))
    · refine Ws.weak (Wk.freezeL (by walk_at "pick")) ?_
      refine Ws.assign ok (Ev.name ok (by walk_at "mem")) (by walk_at "bn") (by walk_at "drop") ?_ rfl
      exact Ws.nil (Wk.sel (by walk_at "sel"))
  · refine Ws.ret (y := ptexts x) ?hret rfl
    case hret =>
      refine Ev.cast (Ev.ofLO (EvO.listComp2 ok (T := tStr) (S := tStr) (U := tDict M.prog M.w (tDict M.prog M.w tInt)) (xs := pways x) (fun w => w.1) hsc Sel.nil ?hcf rfl ⟨by decide, by decide⟩ (by decide) (It2S.pairs ok (Ev.name ok (List.mem_cons_self ..))) ?hel ?hsz)) rfl
      case hcf => exact compFactsN [] .nil (by decide +kernel)
      case hel => exact fun a ha C' ok' hsc' => Ev.name ok' (by walk_at "mem")
      case hsz =>
        have h1 := ways_ok hw0 ((List.range (x.2.2 - 1).toNat).map fun (j : Nat) => (1 : Int) + (j : Int)) (by rw [List.length_map, List.length_range]; omega)
        have h2 := h1.len
        have h3 : 14 ^ (((List.range (x.2.2 - 1).toNat).map fun (j : Nat) => (1 : Int) + (j : Int)).length) ≤ 14 ^ 6 := Nat.pow_le_pow_right (by decide) (by rw [List.length_map, List.length_range]; omega)
        have h4 : (pways x).length ≤ 14 ^ 6 := Nat.le_trans h2 h3
        rw [sz16]
        omega

-- F9
theorem fn_det {M : Pg} (hK : M.K = Mine.hd.heap_39 M.w.params) (hbr : Bi M "range" (.type "range")) (hbl : Bi M "len" (.builtin "len")) : ∀ m : Nat, m ≤ 100 → Fn M (m + 1) "_law_determinant" (rep1 (tList (tList tInt))) tInt (DetOk m) (pdet m) := by
  intro m
  induction m with
  | zero =>
    intro _
    refine Fn.def1 hK (p1 := "table") (hn := by k_is) (ho := by k_is) (hcd := by k_is) (hbind := fun _ => by rfl) (h1 := by walk_at "pk") (hcn := by decide) rfl rfl rfl ?_
    intro x hx C ok hsc hcl
    have hx0 : x = [] := List.length_eq_zero_iff.mp hx.len
    subst hx0
    refine Ws.ite (EvB.of_cmp (Cmp.eqNil (U := tInt) ok) (Ev.name ok (by walk_at "mem")) (Ev.ofLO (EvO.list .nil (by decide) rfl)) rfl) (fun h => ?_) (fun h => by cases h)
    refine Ws.ret Ev.int ?_
    rfl
  | succ m ih =>
    intro hm
    have ih := ih (by omega)
    refine Fn.def1 hK (p1 := "table") (hn := by k_is) (ho := by k_is) (hcd := by k_is) (hbind := fun _ => by rfl) (h1 := by walk_at "pk") (hcn := by decide) rfl rfl rfl ?_
    intro x hx C ok hsc hcl
    have hxl := hx.len
    refine Ws.ite (EvB.of_cmp (Cmp.eqNil (U := tInt) ok) (Ev.name ok (by walk_at "mem")) (Ev.ofLO (EvO.list .nil (by decide) rfl)) rfl) (fun h => ?_) (fun h => ?_)
    · have : x = [] := List.isEmpty_iff.mp h
      rw [this] at hxl
      cases hxl
    · refine Ws.assign ok Ev.int (by walk_at "bn") (by walk_at "drop") ?_ rfl
      refine Ws.for ok (It.range1 (m := (x.length : Int)) ok hbr (by walk_at "kind") (Ev.lenList ok hbl (by walk_at "kind") (Ev.name ok (by walk_at "mem")) (by omega) rfl) (by omega) (by omega) rfl) (by walk_at "bn")
        (fun (tot : Int) => [("total", .val tInt tot), ("table", .val (tList (tList tInt)) x)]) (detStep (pdet m) x) 0 (Wk.sel (by walk_at "sel")) (fun s => by walk_at "drop") ?_ ?_
      · intro i a hi
        obtain ⟨k, hk, rfl⟩ := List.mem_map.mp (List.mem_of_getElem? hi)
        have hk' : k < m + 1 := by have := List.mem_range.mp hk; omega
        have hkn : ((0 : Int) + (k : Int)).toNat = k := by omega
        generalize hd : List.foldl (detStep (pdet m) x) 0 (((List.range (x.length : Int).toNat).map fun (j : Nat) => (0 : Int) + (j : Int)).take i) = tot
        have hrow : ∀ r ∈ x.drop 1, r.length ≤ 101 := fun r hr => by have := hx.row r (List.mem_of_mem_drop hr); omega
        refine Ws.assignLC ok (T := tList tInt) (S := tList tInt) (xs := x.drop 1) (Δc := [("k", .val tInt ((0 : Int) + (k : Int)))]) (fun _ => true) (fun row => row.take k ++ row.drop (k + 1)) hsc (by walk_at "sel") ?hcf ?hit ?hif ?hel (by rw [List.length_drop, sz16]; omega) (by walk_at "kind") ⟨by decide, by decide⟩ (by walk_at "drop") ?_ (swapL ok (by walk_at "kind") rfl (by decide))
        case hcf => exact compFactsN ["k"] (.cons .nil) (by decide +kernel)
        case hit => exact It.list ok (Ev.dropL (Ev.name ok (by walk_at "mem")) Ev.int (by decide) (by rw [sz16]; omega))
        case hif => exact fun a ha C' ok' hsc' => EvIf.nil
        case hel =>
          intro r hr _ C' ok' hsc'
          have hrl := hrow r hr
          refine Ev.cast (Ev.addL (Ev.takeL (Ev.name ok' (by walk_at "mem")) (Ev.name ok' (by walk_at "mem")) (by omega) (by rw [sz16]; omega)) (Ev.dropL (Ev.name ok' (by walk_at "mem")) (Ev.add (Ev.name ok' (by walk_at "mem")) Ev.int) (by omega) (by rw [sz16]; omega)) (by rw [List.length_take, List.length_drop, sz16]; omega)) ?_
          rw [hkn, show ((0 : Int) + (k : Int) + 1).toNat = k + 1 by omega]
        rw [List.filter_eq_self.mpr (fun _ _ => rfl)]
        refine Ws.weak (Wk.freezeL (by walk_at "pick")) ?_
        change Ws M C (("rest", .val (tList (tList tInt)) (minorOf x k)) :: _) _ _ _ _
        obtain ⟨r0, hr0⟩ : ∃ r0, x[0]? = some r0 := ⟨x[0]'(by omega), List.getElem?_eq_getElem (by omega)⟩
        have hr0m : r0 ∈ x := List.mem_of_getElem? hr0
        have hhd : x.headD [] = r0 := by
          cases x with
          | nil => cases hr0
          | cons a r => simp at hr0; exact hr0
        have hr0l := hx.row r0 hr0m
        have hge : r0[k]? = some (r0.getD k 0) := getD_is (by omega)
        have hent := hx.ent r0 hr0m (r0.getD k 0) (List.mem_of_getElem? hge)
        have hp1 := pow_neg1 k
        refine Ws.assign (S := tInt) (y := tot + (-1) ^ k * r0.getD k 0 * pdet m (minorOf x k)) ok ?hv (by walk_at "bn") (by walk_at "drop") ?_ rfl
        case hv =>
          refine Ev.add (Ev.name ok (by walk_at "mem")) (Ev.mul (Ev.mul ?hpow ?hcell (mulL (by rw [hp1]; decide))) ?hrec (mulL ?hfit))
          case hpow =>
            refine Ev.cast (Ev.pow (Ev.neg Ev.int) (Ev.name ok (by walk_at "mem")) (by omega) (by omega) (by decide)) ?_
            rw [hkn]
          case hcell =>
            refine Ev.itemL (xs := r0) (Ev.itemL (Ev.name ok (by walk_at "mem")) Ev.int (by decide) hr0 (by decide)) (Ev.name ok (by walk_at "mem")) (by omega) ?_ (by omega)
            rw [hkn]; exact hge
          case hrec => exact Ev.call ok ih (Nat.le_refl _) (by walk_at "kind") (by decide) (EvArgs.one (Ev.name ok (by walk_at "mem"))) (minor_ok hx hk') rfl
          case hfit =>
            rw [Int.natAbs_mul, hp1]
            omega
        have e : detStep (pdet m) x tot ((0 : Int) + (k : Int)) = tot + (-1) ^ k * r0.getD k 0 * pdet m (minorOf x k) := by
          unfold detStep
          rw [hkn, hhd]
        rw [e]
        exact Ws.nil (Wk.sel (by walk_at "sel"))
      · refine Ws.ret (Ev.name ok (by walk_at "mem")) ?_
        rfl

-- F10
theorem fn_whits {M : Pg} (hK : M.K = Mine.hd.heap_39 M.w.params) (hbr : Bi M "range" (.type "range")) (hbl : Bi M "len" (.builtin "len")) :
    Fn M 7 "_law_is_whittles" (rep3 (tDict M.prog M.w (tFive (tDict M.prog M.w tInt))) tStr tInt) tBool (fun x => WhitOk x) pwhit := by
  refine Fn.def3 hK (p1 := "profile") (p2 := "last") (p3 := "many") (hn := by k_is) (ho := by k_is) (hcd := by k_is) (hbind := fun _ _ _ => by rfl) (h1 := by walk_at "pk") (h2 := by walk_at "pk") (h3 := by walk_at "pk") (hne := by decide) (hcn := by decide) rfl rfl rfl ?_
  intro x hx C ok hsc hcl
  have hx' : WhitOk x := hx
  have hxl := hx'.len
  obtain ⟨pr, la, mn⟩ := x
  change pr.length ≤ 4 at hxl
  refine Ws.assign ok Ev.int (by walk_at "bn") (by walk_at "drop") ?_ rfl
  refine Ws.assign ok Ev.int (by walk_at "bn") (by walk_at "drop") ?_ rfl
  refine Ws.assignLO (S := tList tInt) (xs := []) ok (EvO.list .nil (by decide) rfl) (by walk_at "kind") ⟨by decide, by decide⟩ (by walk_at "drop") ?_ rfl
  refine Ws.for ok (It.keys ok (Ev.name ok (by walk_at "mem"))) (by walk_at "bn")
    (fun (s : Int × Int × List (List Int)) => [("inner", .val tInt s.1), ("shared", .val tInt s.2.1), ("table", .list (tList tInt) s.2.2), ("profile", .val (tDict M.prog M.w (tFive (tDict M.prog M.w tInt))) pr), ("last", .val tStr la), ("many", .val tInt mn)]) (whitStep pr la) (1, 1, []) (Wk.sel (by walk_at "sel")) (fun s => by walk_at "drop") ?_ ?_
  · intro i sg hi
    have hsg : sg ∈ pr.map (·.1) := List.mem_of_getElem? hi
    have hat := whits_at hx' ((pr.map (·.1)).take i) [] (1, 1, []) (fun o ho => List.mem_of_mem_take ho) (whit0 _)
    rw [List.nil_append] at hat
    have hil : ((pr.map (·.1)).take i).length ≤ 4 := by rw [List.length_take, List.length_map]; omega
    change WhitAt _ _ (((pr.map (·.1)).take i).foldl (whitStep pr la) (1, 1, [])) at hat
    generalize hd : ((pr.map (·.1)).take i).foldl (whitStep pr la) (1, 1, []) = s at hat ⊢
    generalize hT : (pr.map (·.1)).take i = tk at hat hil
    obtain ⟨inn, sh, tb⟩ := s
    have htl : List.length tb ≤ 4 := by
      have h1 := hat.len
      have h2 := List.length_filter_le (fun o => o != la) tk
      change List.length tb = (tk.filter fun o => o != la).length at h1
      omega
    obtain ⟨f, hf⟩ := dget_key hsg
    have hfc : callersOf pr sg = f.callers := by unfold callersOf; rw [hf]; rfl
    have hcal := hx'.callers hsg
    change 1 ≤ pcount (callersOf pr sg) ∧ pcount (callersOf pr sg) ≤ 8 ∧ _ at hcal
    have hget := hx'.get hsg
    change ∀ k, 0 ≤ (dget (callersOf pr sg) k).getD 0 ∧ (dget (callersOf pr sg) k).getD 0 ≤ 8 at hget
    have hstep : whitStep pr la (inn, sh, tb) sg = (inn * pfact (pcount f.callers - 1), (f.callers.map (·.1)).foldl (sharedStep f.callers) sh, if sg != la then tb ++ [(pr.map (·.1)).foldl (rowStep pr la sg) []] else tb) := by
      unfold whitStep
      rw [hfc]
    rw [hfc] at hcal hget
    refine Ws.assign (S := tDict M.prog M.w tInt) (y := f.callers) ok ?hcl1 (by walk_at "bn") (by walk_at "drop") ?_ rfl
    case hcl1 =>
      refine Ev.itemF (x := f) ?_
      exact Ev.itemD (EvD.of (Ev.name ok (by walk_at "mem"))) (Ev.name ok (by walk_at "mem")) hf
    refine Ws.assign ok (Ev.call ok (fn_count hK) (by decide) (by walk_at "kind") (by decide) (EvArgs.one (Ev.name ok (by walk_at "mem"))) trivial rfl) (by walk_at "bn") (by walk_at "drop") ?_ rfl
    have hfact := fact_is7 (i := pcount f.callers - 1) (by omega) (by omega)
    refine Ws.assign ok (Ev.mul (Ev.name ok (by walk_at "mem")) (Ev.call ok (fn_factorial hK hbr) (by decide) (by walk_at "kind") (by decide) (EvArgs.one (Ev.sub (Ev.name ok (by walk_at "mem")) Ev.int)) (by exact ⟨by omega, by omega⟩) rfl) (mulR (by omega))) (by walk_at "bn") (by walk_at "drop") ?_ rfl
    refine Ws.for ok (It.keys ok (Ev.name ok (by walk_at "mem"))) (by walk_at "bn")
      (fun (sh : Int) => [("shared", .val tInt sh), ("inner", .val tInt (inn * pfact (pcount f.callers - 1))), ("calls", .val tInt (pcount f.callers)), ("callers", .val (tDict M.prog M.w tInt) f.callers), ("sign", .val tStr sg), ("table", .list (tList tInt) tb), ("profile", .val (tDict M.prog M.w (tFive (tDict M.prog M.w tInt))) pr), ("last", .val tStr la), ("many", .val tInt mn)]) (sharedStep f.callers) sh (Wk.sel (by walk_at "sel")) (fun s => by walk_at "drop") ?_ ?_
    · intro j ah hj
      have hah : ah ∈ f.callers.map (·.1) := List.mem_of_getElem? hj
      obtain ⟨v, hv⟩ := dget_key hah
      have hvb := hcal.2.2 ah v hv
      have hfv := fact_is (i := v) (by omega) (by omega)
      generalize hd2 : ((f.callers.map (·.1)).take j).foldl (sharedStep f.callers) sh = sh1
      refine Ws.assign ok (Ev.mul (Ev.name ok (by walk_at "mem")) (Ev.call ok (fn_factorial hK hbr) (by decide) (by walk_at "kind") (by decide) (x := v) (EvArgs.one (Ev.itemD (EvD.of (Ev.name ok (by walk_at "mem"))) (Ev.name ok (by walk_at "mem")) hv)) (by exact ⟨by omega, by omega⟩) rfl) (mulR (by omega))) (by walk_at "bn") (by walk_at "drop") ?_ rfl
      have e : sharedStep f.callers sh1 ah = sh1 * pfact v := by unfold sharedStep; rw [hv]; rfl
      rw [e]
      exact Ws.nil (Wk.sel (by walk_at "sel"))
    · refine Ws.iteN (EvB.of_cmp Cmp.neStr (Ev.name ok (by walk_at "mem")) (Ev.name ok (by walk_at "mem")) rfl) (fun h => ?_) (fun h => ?_)
      · refine Ws.assignLO (S := tInt) (xs := []) ok (EvO.list .nil (by decide) rfl) (by walk_at "kind") ⟨by decide, by decide⟩ (by walk_at "drop") ?_ rfl
        have hne : sg ≠ la := bne_iff_ne.mp h
        refine Ws.for ok (It.keys ok (Ev.name ok (by walk_at "mem"))) (by walk_at "bn")
          (fun (row : List Int) => [("row", .list tInt row), ("shared", .val tInt ((f.callers.map (·.1)).foldl (sharedStep f.callers) sh)), ("inner", .val tInt (inn * pfact (pcount f.callers - 1))), ("calls", .val tInt (pcount f.callers)), ("callers", .val (tDict M.prog M.w tInt) f.callers), ("sign", .val tStr sg), ("table", .list (tList tInt) tb), ("profile", .val (tDict M.prog M.w (tFive (tDict M.prog M.w tInt))) pr), ("last", .val tStr la), ("many", .val tInt mn)]) (rowStep pr la sg) [] (Wk.sel (by walk_at "sel")) (fun s => by walk_at "drop") ?_ ?_
        · intro j ot hj
          have hot : ot ∈ pr.map (·.1) := List.mem_of_getElem? hj
          have hrl := row_len pr la sg hne ((pr.map (·.1)).take j) []
          have hjl : (((pr.map (·.1)).take j).filter fun o => o != la).length ≤ 4 := by
            have h1 := List.length_filter_le (fun o => o != la) ((pr.map (·.1)).take j)
            have h2 : ((pr.map (·.1)).take j).length ≤ 4 := by rw [List.length_take, List.length_map]; omega
            omega
          generalize hd3 : ((pr.map (·.1)).take j).foldl (rowStep pr la sg) [] = row at hrl ⊢
          rw [List.length_nil] at hrl
          obtain ⟨fo, hfo⟩ := dget_key hot
          have hfoc : callersOf pr ot = fo.callers := by unfold callersOf; rw [hfo]; rfl
          refine Ws.iteN (EvB.of_cmp Cmp.eqStr (Ev.name ok (by walk_at "mem")) (Ev.name ok (by walk_at "mem")) rfl) (fun h1 => ?_) (fun h1 => ?_)
          · refine Ws.append ok (Ev.sub (Ev.name ok (by walk_at "mem")) (Ev.getD (d := 0) ok (EvD.of (Ev.name ok (by walk_at "mem"))) (Ev.name ok (by walk_at "mem")) Ev.int rfl rfl)) (by walk_at "pick") (by rw [sz16]; omega) ?_ rfl rfl
            have e : rowStep pr la sg row ot = row ++ [pcount f.callers - (dget f.callers sg).getD 0] := by
              unfold rowStep
              rw [if_pos h1, hfc]
            rw [e]
            exact Ws.nil (Wk.sel (by walk_at "sel"))
          · refine Ws.iteN (EvB.of_cmp Cmp.neStr (Ev.name ok (by walk_at "mem")) (Ev.name ok (by walk_at "mem")) rfl) (fun h2 => ?_) (fun h2 => ?_)
            · refine Ws.append (y := -(dget fo.callers sg).getD 0) ok ?hneg (by walk_at "pick") (by rw [sz16]; omega) ?_ rfl rfl
              case hneg =>
                refine Ev.neg (Ev.getD (d := 0) ok (EvD.of ?hdd) (Ev.name ok (by walk_at "mem")) Ev.int rfl rfl)
                case hdd =>
                  refine Ev.itemF (x := fo) ?_
                  exact Ev.itemD (EvD.of (Ev.name ok (by walk_at "mem"))) (Ev.name ok (by walk_at "mem")) hfo
              have e : rowStep pr la sg row ot = row ++ [-(dget fo.callers sg).getD 0] := by
                unfold rowStep
                rw [if_neg (by rw [h1]; exact Bool.false_ne_true), if_pos h2, hfoc]
              rw [e]
              exact Ws.nil (Wk.sel (by walk_at "sel"))
            · have e : rowStep pr la sg row ot = row := by
                unfold rowStep
                rw [if_neg (by rw [h1]; exact Bool.false_ne_true), if_neg (by rw [h2]; exact Bool.false_ne_true)]
              rw [e]
              exact Ws.nil (Wk.sel (by walk_at "sel"))
        · refine Ws.weak (Wk.freezeL (x := "row") (by walk_at "pick")) ?_
          refine Ws.append ok (Ev.name ok (by walk_at "mem")) (by walk_at "pick") (by rw [sz16]; omega) ?_ rfl rfl
          rw [hstep, if_pos h]
          exact Ws.nil (Wk.sel (by walk_at "sel"))
      · rw [hstep, if_neg (by rw [h]; exact Bool.false_ne_true)]
        exact Ws.nil (Wk.sel (by walk_at "sel"))
  · have hfin := whits_at hx' (pr.map (·.1)) [] (1, 1, []) (fun o ho => ho) (whit0 _)
    have hdet := whit_det hx'
    rw [List.nil_append] at hfin
    change WhitAt _ _ (whits pr la) at hfin
    change DetOk (whits pr la).2.2.length (whits pr la).2.2 at hdet
    change Ws M C [("inner", .val tInt (whits pr la).1), ("shared", .val tInt (whits pr la).2.1), ("table", .list (tList tInt) (whits pr la).2.2), ("profile", .val (tDict M.prog M.w (tFive (tDict M.prog M.w tInt))) pr), ("last", .val tStr la), ("many", .val tInt mn)] _ _ _ _
    have hmany : mn.natAbs < 2 ^ 63 := hx'.many
    have hinner := hfin.inner
    rw [List.length_map] at hinner
    have hpw : 5040 ^ pr.length ≤ 5040 ^ 4 := Nat.pow_le_pow_right (by decide) hxl
    have hwl := hfin.len
    have hwf := List.length_filter_le (fun o => o != la) (pr.map (·.1))
    rw [List.length_map] at hwf
    change (whits pr la).2.2.length = ((pr.map (·.1)).filter fun o => o != la).length at hwl
    generalize hW : whits pr la = W at hfin hdet hinner hwl ⊢
    obtain ⟨inn, sh, tb⟩ := W
    change tb.length = _ at hwl
    change inn.natAbs ≤ _ at hinner
    refine Ws.weak (Wk.freezeL (x := "table") (by walk_at "pick")) ?_
    refine Ws.ret (Ev.of_cmp Cmp.eqInt (Ev.mul (Ev.name ok (by walk_at "mem")) (Ev.name ok (by walk_at "mem")) (mulL hmany)) (Ev.mul (Ev.name ok (by walk_at "mem")) (Ev.call ok (fn_det hK hbr hbl tb.length (by omega)) (by omega) (by walk_at "kind") (by decide) (x := tb) (EvArgs.one (Ev.name ok (by walk_at "mem"))) hdet rfl) (mulL (by omega))) rfl) ?_
    unfold pwhit
    dsimp only
    rw [hW]

-- F11
theorem fn_law {M : Pg} (hK : M.K = Mine.hd.heap_39 M.w.params) (hp1 : PatN M "_twin_re_1" 1 codeB) (hp2 : PatN M "_twin_re_2" 0 codeS)
    (hbr : Bi M "range" (.type "range")) (hbl : Bi M "len" (.builtin "len")) (hbo : Bi M "ord" (.builtin "ord")) (hbc : Bi M "chr" (.builtin "chr")) (hbb : Bi M "bytes" (.type "bytes")) (hbi : Bi M "isinstance" (.builtin "isinstance")) (hbt : Bi M "tuple" (.type "tuple")) (hbs : Bi M "sum" (.builtin "sum")) (hbm : Bi M "max" (.builtin "max"))
    (hgood : ∀ s : List Int, s.length ≤ 63 → Good (textOf s) (whichOf s)) :
    Fn M 20 "law" (rep1 (tList tInt)) tBool (fun x => x.length ≤ 63) (fun _ => true) := by
  refine Fn.def1 hK (p1 := "script") (hn := by k_is) (ho := by k_is) (hcd := by k_is) (hbind := fun _ => by rfl) (h1 := by walk_at "pk") (hcn := by decide) rfl rfl rfl ?_
  intro x hx C ok hsc hcl
  have hG := hgood x hx
  have htb := total_bound x hx
  have hdl : (pdrawn x).length = 7 := draw_len x _ _
  refine Ws.assign (S := tInt) (y := totalOf x) ok ?htot (by walk_at "bn") (by walk_at "drop") ?_ rfl
  case htot =>
    refine Ev.sum (xs := x.map fun n => n.fmod 1000000) ok hbs (by walk_at "kind") ?hl (long_ok (fun y hy => by
      obtain ⟨n, _, rfl⟩ := List.mem_map.mp hy
      have h1 : 0 ≤ n.fmod 1000000 := Int.fmod_nonneg_of_pos _ (by decide)
      have h2 : n.fmod 1000000 < 1000000 := Int.fmod_lt_of_pos _ (by decide)
      omega) (by rw [List.length_map]; omega)) ?hst
    case hst => rfl
    case hl =>
      refine Ev.cast (Ev.ofLO (EvO.listComp ok (T := tInt) (S := tInt) (xs := x) (fun _ => true) (fun n => n.fmod 1000000) hsc Sel.nil ?hcf (It.list ok (Ev.name ok (by walk_at "mem"))) ?hif ?hel ?hsz)) ?heq
      case hcf => exact compFactsN [] .nil (by decide +kernel)
      case hif => exact fun a ha C' ok' hsc' => EvIf.nil
      case hel => exact fun a ha _ C' ok' hsc' => Ev.mod (Ev.name ok' (by walk_at "mem")) Ev.int (by decide)
      case hsz => rw [sz16]; omega
      case heq => rw [List.filter_eq_self.mpr (fun _ _ => rfl)]
  have hm0 : 0 ≤ (totalOf x).fmod 4 := Int.fmod_nonneg_of_pos _ (by decide)
  have hm4 : (totalOf x).fmod 4 < 4 := Int.fmod_lt_of_pos _ (by decide)
  refine Ws.assign (S := tList tStr) (y := kindsOf (totalOf x)) ok ?hkinds (by walk_at "bn") (by walk_at "drop") ?_ rfl
  case hkinds =>
    refine Ev.ofLO (EvO.list (.cons Ev.str (.cons Ev.str (.cons Ev.str (.cons ?hmk .nil)))) (by show 4 ≤ _; rw [sz16]; omega) rfl)
    case hmk =>
      refine Ev.itemS (c := markOf (totalOf x)) Ev.str (Ev.mod (Ev.name ok (by walk_at "mem")) Ev.int (by decide)) (by omega) (by omega) ?_
      unfold markOf
      generalize (totalOf x).fmod 4 = q at hm0 hm4
      have h4 : q = 0 ∨ q = 1 ∨ q = 2 ∨ q = 3 := by omega
      rcases h4 with rfl | rfl | rfl | rfl <;> rfl
  refine Ws.assign (S := tStr) (y := textOf x) ok ?htext (by walk_at "bn") (by walk_at "drop") ?_ rfl
  case htext =>
    refine Ev.cast (Ev.join (xs := (pdrawn x).map fun n => (kindsOf (totalOf x)).getD (n.fmod 4).toNat "") ok ?hjl ?hsum rfl rfl) rfl
    case hjl =>
      refine Ev.cast (Ev.ofLO (EvO.listComp ok (T := tStr) (S := tInt) (xs := pdrawn x) (Δc := [("kinds", .val (tList tStr) (kindsOf (totalOf x)))]) (fun _ => true) (fun n => (kindsOf (totalOf x)).getD (n.fmod 4).toNat "") hsc (by walk_at "sel") ?hcf
        (It.list ok (Ev.call ok (fn_drawn hK hbr hbl) (by decide) (by walk_at "kind") (by decide) (EvArgs.one (Ev.name ok (by walk_at "mem"))) (by show x.length ≤ 1000; omega) rfl)) ?hif ?hel ?hsz)) ?heq
      case hcf => exact compFactsN ["kinds"] (.cons .nil) (by decide +kernel)
      case hif => exact fun a ha C' ok' hsc' => EvIf.nil
      case hel =>
        intro a ha _ C' ok' hsc'
        have h1 : 0 ≤ a.fmod 4 := Int.fmod_nonneg_of_pos _ (by decide)
        have h2 : a.fmod 4 < 4 := Int.fmod_lt_of_pos _ (by decide)
        refine Ev.itemL (xs := kindsOf (totalOf x)) (Ev.name ok' (by walk_at "mem")) (Ev.mod (Ev.name ok' (by walk_at "mem")) Ev.int (by decide)) h1 ?_ (by omega)
        have h3 : (a.fmod 4).toNat < (kindsOf (totalOf x)).length := by show _ < 4; omega
        simp [List.getD, h3]
      case hsz => rw [hdl, sz16]; omega
      case heq => rw [List.filter_eq_self.mpr (fun _ _ => rfl)]
    case hsum =>
      have h1 := sum_le (c := 1) (ys := (pdrawn x).map fun n => (kindsOf (totalOf x)).getD (n.fmod 4).toNat "") (fun y hy => by
        obtain ⟨n, _, rfl⟩ := List.mem_map.mp hy
        have h1 : 0 ≤ n.fmod 4 := Int.fmod_nonneg_of_pos _ (by decide)
        have h2 : n.fmod 4 < 4 := Int.fmod_lt_of_pos _ (by decide)
        generalize n.fmod 4 = q at h1 h2
        have h4 : q = 0 ∨ q = 1 ∨ q = 2 ∨ q = 3 := by omega
        rcases h4 with rfl | rfl | rfl | rfl
        · exact Nat.le_refl 1
        · exact Nat.le_refl 1
        · exact Nat.le_refl 1
        · exact Nat.le_refl 1)
      rw [List.length_map, hdl] at h1 ⊢
      have h2 : (Str.ofString "").length = 0 := by rfl
      rw [h2]
      omega
  refine Ws.assign (S := tInt) (y := whichOf x) ok (Ev.mod (Ev.fdiv (Ev.name ok (by walk_at "mem")) Ev.int (by decide) (PyProof.noPylong_of_log2 (by decide))) Ev.int (by decide)) (by walk_at "bn") (by walk_at "drop") ?_ rfl
  have hlen := hG.len
  have hsm := hG.small
  generalize hT : textOf x = t at hG hlen hsm
  generalize hW : whichOf x = w at hG
  refine Ws.assign ok (Ev.call ok (fn_names hK) (by decide) (by walk_at "kind") (by decide) (x := w) (EvArgs.one (Ev.name ok (by walk_at "mem"))) trivial rfl) (by walk_at "bn") (by walk_at "drop") ?_ rfl
  refine Ws.assign ok (Ev.call ok (fn_profile hK hbi hbt hbo) (by decide) (by walk_at "kind") (by decide) (x := t) (EvArgs.one (Ev.name ok (by walk_at "mem"))) (by show t.length ≤ 400; omega) rfl) (by walk_at "bn") (by walk_at "drop") ?_ rfl
  refine Ws.assign (S := tDict M.prog M.w (tDict M.prog M.w tInt)) (y := toldOf t w) ok (Ev.call ok (fn_told hK) (by decide) (by walk_at "kind") (by decide) (x := (pprofile t, pnames w)) (EvArgs.two (Ev.name ok (by walk_at "mem")) (Ev.name ok (by walk_at "mem"))) hG.prof rfl) (by walk_at "bn") (by walk_at "drop") ?_ rfl
  refine Ws.assign ok (Ev.call ok (fn_sent hK hp1 hp2 hbo hbc hbb) (by decide) (by walk_at "kind") (by decide) (x := (t, w)) (EvArgs.two (Ev.name ok (by walk_at "mem")) (Ev.name ok (by walk_at "mem"))) (by exact ⟨hlen.2, hsm⟩) rfl) (by walk_at "bn") (by walk_at "drop") ?_ rfl
  have hdue := hG.due
  refine Ws.ite (q := !eqProf (pprofile (psent (t, w))) (pdue (toldOf t w))) ?hne (fun h => by rw [hdue] at h; cases h) (fun _ => ?_)
  case hne =>
    refine EvB.of_cmp (Cmp.neDict ok (EqTy.five (EqTy.dict EqTy.int)) (by decide)) (Ev.call ok (fn_profile hK hbi hbt hbo) (by decide) (by walk_at "kind") (by decide) (x := psent (t, w)) (EvArgs.one (Ev.name ok (by walk_at "mem"))) hG.sent rfl) (Ev.call ok (fn_due hK hbs hbo) (by decide) (by walk_at "kind") (by decide) (x := toldOf t w) (EvArgs.one (Ev.name ok (by walk_at "mem"))) hG.told rfl) rfl
  refine Ws.assign (S := tList tStr) (y := textsOf t) ok ?htx (by walk_at "bn") (by walk_at "drop") ?_ rfl
  case htx =>
    refine Ev.call ok (fn_texts hK hbi hbt hbr) (by decide) (by walk_at "kind") (by decide) (x := (pprofile t, firstOf t, (t.length : Int))) (EvArgs.three (Ev.name ok (by walk_at "mem")) ?hfirst (Ev.lenStr ok hbl (by walk_at "kind") (Ev.name ok (by walk_at "mem")) (by omega) rfl)) hG.texts rfl
    case hfirst =>
      refine Ev.itemS (c := t.cps.getD 0 0) (Ev.name ok (by walk_at "mem")) Ev.int (by decide) (by decide) ?_
      have h3 : 0 < t.cps.size := hlen.1
      have e : seqIndex? (0 : Int) t.length = some 0 := by
        unfold seqIndex?
        simp
        omega
      rw [e]
      simp [h3, Array.getD]
  refine Ws.for ok (It.list ok (Ev.name ok (by walk_at "mem"))) (by walk_at "bn")
    (fun (_ : Unit) => [("texts", .val (tList tStr) (textsOf t)), ("sent", .val tStr (psent (t, w))), ("told", .val (tDict M.prog M.w (tDict M.prog M.w tInt)) (toldOf t w)), ("profile", .val (tDict M.prog M.w (tFive (tDict M.prog M.w tInt))) (pprofile t)), ("names", .val (tDict M.prog M.w tStr) (pnames w)), ("which", .val tInt w), ("text", .val tStr t)]) (fun _ _ => ()) () (Wk.sel (by walk_at "sel")) (fun s => by walk_at "drop") ?_ ?_
  · intro i o hi
    obtain ⟨ho1, ho2, ho3, ho4⟩ := hG.other o (List.mem_of_getElem? hi)
    refine Ws.iteN (q := (o != t) && !eqTold (ppairs (psent (o, w))) (toldOf t w)) ?hc (fun h => ?_) (fun _ => ?_)
    case hc =>
      refine EvB.and2 (EvB.of_cmp Cmp.neStr (Ev.name ok (by walk_at "mem")) (Ev.name ok (by walk_at "mem")) rfl) (fun _ => ?_)
      refine EvB.of_cmp (Cmp.neDict ok (EqTy.dict EqTy.int) (by decide)) (Ev.call ok (fn_pairs hK) (by decide) (by walk_at "kind") (by decide) (x := psent (o, w)) (EvArgs.one (Ev.call ok (fn_sent hK hp1 hp2 hbo hbc hbb) (by decide) (by walk_at "kind") (by decide) (x := (o, w)) (EvArgs.two (Ev.name ok (by walk_at "mem")) (Ev.name ok (by walk_at "mem"))) (by exact ⟨ho1, ho2⟩) rfl)) ho3 rfl) (Ev.name ok (by walk_at "mem")) rfl
    · rw [Bool.and_eq_true] at h
      have h1 := ho4 (bne_iff_ne.mp h.1)
      rw [h1] at h
      exact absurd h.2 (by decide)
    · exact Ws.nil (Wk.sel (by walk_at "sel"))
  · refine Ws.ret (Ev.and2 (q := pwhit (pprofile t, lastOf t, ((textsOf t).length : Int))) (Ev.of_cmp Cmp.eqStr (Ev.name ok (by walk_at "mem")) (Ev.call ok (fn_page hK hbr hbl hbm) (by decide) (by walk_at "kind") (by decide) (x := (t, pnames w)) (EvArgs.two (Ev.name ok (by walk_at "mem")) (Ev.name ok (by walk_at "mem"))) (by exact ⟨by show t.length ≤ 1000; omega, hG.prof.names⟩) rfl) rfl) (fun _ => ?hwh)) ?_
    case hwh =>
      refine Ev.call ok (fn_whits hK hbr hbl) (by decide) (by walk_at "kind") (by decide) (x := (pprofile t, lastOf t, ((textsOf t).length : Int))) (EvArgs.three (Ev.name ok (by walk_at "mem")) ?hl (Ev.lenList ok hbl (by walk_at "kind") (Ev.name ok (by walk_at "mem")) (by have := hG.few; omega) rfl)) hG.whit rfl
      case hl => exact Ev.itemS (Ev.name ok (by walk_at "mem")) (Ev.neg Ev.int) (by decide) (by decide) (last_ix (by omega))
    rw [hG.count, hG.page]
    simp
end Mine
end

-- P1
section
open PySem PySem.W PyProof.Rows
set_option linter.unusedVariables false
set_option maxRecDepth 100000
namespace Mine

theorem law_good {w : World} {s₁ : Shared} {mg mb : Str → Option Value} {fa ra : Addr} {prog : Program} {p : Program} {loose : List Str} {mean : ExcName → Option Value} {ns : List Int} {vals : List Value} {c : ClaimW} {cl : Str → Option Addr} {args : List WData}
    (KX : (Mine.hd.heap_39 w.params).In s₁.heap) (X : Flt.MathXP p mg s₁.heap) (T : Top p loose mean mg mb s₁.heap) (hg : s₁.gens = #[]) (hmg : mg "law" = some (.ref fa))
    (hl : s₁.heap.IsList ra vals.toArray) (hi : IntsAre vals ns) (hlen : ns.length ≤ 63) (hn : ∀ cls, c.raises args cls = false) (hpost : c.post args (.bool true) args = true)
    (hpat1 : ∃ r, (Flt.patsOf p).find? (·.name == ("_twin_re_1" : Str)) = some r ∧ r.kind = 1 ∧ r.code = codeB.toList ∧ r.groups = 0)
    (hpat2 : ∃ r, (Flt.patsOf p).find? (·.name == ("_twin_re_2" : Str)) = some r ∧ r.kind = 0 ∧ r.code = codeS.toList ∧ r.groups = 0)
    (hno : ∀ x ∈ (["range", "len", "ord", "chr", "bytes", "isinstance", "tuple", "sum", "max"] : List Str), mg x = none)
    (hgood : ∀ s : List Int, s.length ≤ 63 → Good (textOf s) (whichOf s)) :
    wpAny (model prog w) callerA (call (.ref fa) [.ref ra]) (fun v s' => GoodWG c cl mean args s₁ (.ok (.ret v)) s') (fun e s' => GoodWG c cl mean args s₁ (.error e) s') s₁ := by
  let M : Pg := ⟨prog, w, s₁.heap, Mine.hd.heap_39 w.params, mg, mb, p, loose, KX, topRead_of T, X⟩
  have bi : ∀ (x : Str) (v : Value), mg x = none → bootBuiltins x = some v → x ≠ "__name__" → Bi M x v := fun x v h1 h2 h3 => ⟨h1, by show mb x = some v; rw [T.builtins x h3]; exact h2⟩
  have pat : ∀ (x : Str) (k : Nat) (code : Array Nat), (∃ r, (Flt.patsOf p).find? (·.name == x) = some r ∧ r.kind = k ∧ r.code = code.toList ∧ r.groups = 0) → PatN M x k code := fun x k code ⟨r, h1, h2, h3, h4⟩ => by
    obtain ⟨P, e, b⟩ := X.pats r (List.mem_of_find?_eq_some h1)
    have hnm : r.name = x := by simpa using List.find?_some h1
    exact ⟨P, r, hnm ▸ e, b, h2, by rw [h3], h4⟩
  have hf := fn_law (M := M) rfl (pat _ _ _ hpat1) (pat _ _ _ hpat2) (bi "range" _ (hno _ (by decide)) boot_range (by decide)) (bi "len" _ (hno _ (by decide)) boot_len (by decide)) (bi "ord" _ (hno _ (by decide)) boot_ord (by decide)) (bi "chr" _ (hno _ (by decide)) boot_chr (by decide))
    (bi "bytes" _ (hno _ (by decide)) boot_bytes (by decide)) (bi "isinstance" _ (hno _ (by decide)) boot_isinstance (by decide)) (bi "tuple" _ (hno _ (by decide)) PyProof.Rows.boot_tuple (by decide)) (bi "sum" _ (hno _ (by decide)) boot_sum (by decide)) (bi "max" _ (hno _ (by decide)) boot_max (by decide)) hgood
  obtain ⟨a, o, fd, hm, ho, hdat, hf⟩ := hf
  have ea : a = fa := by
    have h1 : mg "law" = some (.ref a) := hm
    rw [hmg] at h1
    injection h1 with h1
    injection h1 with h1
    exact h1.symm
  subst ea
  obtain ⟨ol, hol, hcl, nl, hdl⟩ := hl
  have hints : ∀ {vs : List Value} {xs : List Int}, IntsAre vs xs → F2 (tInt.rep fun b => s₁.heap.get? b) vs xs := by
    intro vs xs h
    induction h with
    | nil => exact .nil
    | cons n t _ ih => exact .cons ⟨t, rfl⟩ ih
  have hroom : Room callerA 20 := ⟨rfl, by decide, by decide⟩
  refine wpAny_call (hf callerA hroom (fun b => s₁.heap.get? b) [.ref ra] ns hlen ⟨.ref ra, rfl, ra, ol, rfl, hol, vals, nl, hcl, hdl, hints hi⟩ [] s₁ _ ⟨fun b o e => e, fun b o e => e, (fun p hp => by cases hp), List.nodup_nil⟩ fun v g' h' tk l st' ht => ?_)
  have hv : v = .bool true := ht
  subst hv
  exact ⟨.inl ⟨.bool true, .bool true, [], rfl, hn, .bool true, hpost, unshared_nil⟩, .of_keep (fun b o e => st'.keep b o (l b o e)), rfl, by show AllBare s₁.gens; exact .of_eq hg⟩
end Mine
end

-- Q1
section
open PySem PySem.W PyProof.Rows
set_option linter.unusedVariables false
set_option linter.unusedSimpArgs false
namespace Mine

section
variable {α : Type}
theorem dget_cons (q : Str × α) (r : List (Str × α)) (k : Str) : dget (q :: r) k = if q.1 = k then some q.2 else dget r k := by
  unfold dget
  rw [List.find?_cons]
  by_cases h : q.1 = k <;> simp [h]
theorem dset_cons (q : Str × α) (r : List (Str × α)) (k : Str) (v : α) (h : ¬ q.1 = k) : dset (q :: r) k v = q :: dset r k v := by
  unfold dset
  rw [List.any_cons]
  simp only [h, decide_false, Bool.false_or]
  split
  · rw [List.map_cons, if_neg h]
  · rfl
theorem dget_none_iff {kvs : List (Str × α)} {k : Str} : dget kvs k = none ↔ k ∉ kvs.map (·.1) := by
  unfold dget
  rw [Option.map_eq_none_iff, List.find?_eq_none]
  constructor
  · intro h hm
    obtain ⟨q, hq, rfl⟩ := List.mem_map.mp hm
    exact h q hq (by simp)
  · intro h q hq e
    exact h (by rw [← (of_decide_eq_true e : q.1 = k)]; exact List.mem_map_of_mem hq)
theorem dget_dset (kvs : List (Str × α)) (k : Str) (v : α) (k' : Str) : dget (dset kvs k v) k' = if k' = k then some v else dget kvs k' := by
  by_cases e : k' = k
  · rw [if_pos e, e, dget_dset_same]
  · rw [if_neg e]
    unfold dset
    split
    · rename_i h9
      clear h9
      induction kvs with
      | nil => rfl
      | cons q r ih =>
        rw [List.map_cons, dget_cons, dget_cons, ih]
        by_cases h : q.1 = k
        · have h2 : ¬ q.1 = k' := fun x => e (x.symm.trans h)
          rw [if_pos h, if_neg h2]
          exact (if_neg h2).symm
        · rw [if_neg h]
    · rename_i h9
      clear h9
      induction kvs with
      | nil => rw [List.nil_append, dget_cons]; exact if_neg fun h => e h.symm
      | cons q r ih => rw [List.cons_append, dget_cons, dget_cons, ih]
theorem dset_keys (kvs : List (Str × α)) (k : Str) (v : α) : (dset kvs k v).map (·.1) = if k ∈ kvs.map (·.1) then kvs.map (·.1) else kvs.map (·.1) ++ [k] := by
  cases h : dget kvs k with
  | none =>
    rw [if_neg (dget_none_iff.mp h), dset_of_none h, List.map_append]
    rfl
  | some d =>
    have hm : k ∈ kvs.map (·.1) := by
      have := dget_mem h
      exact List.mem_map.mpr ⟨_, this, rfl⟩
    rw [if_pos hm, dset_of_some h, List.map_map]
    apply List.map_congr_left
    intro q _
    show (if q.1 = k then _ else _ : Str × α).1 = q.1
    split <;> rfl
theorem dset_nodup {kvs : List (Str × α)} (h : (kvs.map (·.1)).Nodup) (k : Str) (v : α) : ((dset kvs k v).map (·.1)).Nodup := by
  rw [dset_keys]
  split
  · exact h
  · rename_i hk
    exact List.nodup_append.mpr ⟨h, List.nodup_cons.mpr ⟨List.not_mem_nil, List.nodup_nil⟩, fun a ha b hb e => hk (by rw [← List.mem_singleton.mp hb, ← e]; exact ha)⟩
/- two tables with the same keys, nothing twice -/
theorem eqDict_of {e : α → α → Bool} {kvs kvs' : List (Str × α)} (h : (kvs.map (·.1)).Nodup) (h' : (kvs'.map (·.1)).Nodup)
    (hk : ∀ k, (dget kvs k).isSome = (dget kvs' k).isSome) (he : ∀ k a b, dget kvs k = some a → dget kvs' k = some b → e a b = true) : eqDict e kvs kvs' = true := by
  have mem : ∀ {l : List (Str × α)} {k : Str}, k ∈ l.map (·.1) ↔ (dget l k).isSome = true := fun {l k} => by
    cases e : dget l k with
    | none => simp [dget_none_iff.mp e]
    | some d => simpa using ⟨d, dget_mem e⟩
  have hp : (kvs.map (·.1)).Perm (kvs'.map (·.1)) := (List.perm_ext_iff_of_nodup h h').mpr fun k => by rw [mem, mem, hk]
  unfold eqDict
  rw [Bool.and_eq_true]
  refine ⟨by have := hp.length_eq; rw [List.length_map, List.length_map] at this; simp [this], List.all_eq_true.mpr fun q hq => ?_⟩
  have h1 := dget_of_mem h hq
  have h2 := hk q.1
  rw [h1] at h2
  cases h3 : dget kvs' q.1 with
  | none => rw [h3] at h2; cases h2
  | some y => exact he q.1 _ _ h1 h3
end

noncomputable def bump (d : Told) (x y : Str) (v : Int) : Told :=
  let p := newIn d x
  let t := (dget p x).getD []
  dset p x (dset t y ((dget t y).getD 0 + v))
theorem toldOne_bump (v : Int) (s : Told × Str) (one : Str) : toldOne v s one = (bump s.1 one s.2 v, one) := rfl
theorem pairStep_bump (s : Told × Str) (x : Str) : pairStep s x = (bump s.1 x s.2 1, x) := rfl
noncomputable def rowOf (d : Told) (x : Str) : Tab := (dget d x).getD []
noncomputable def cntT (d : Told) (x y : Str) : Int := (dget (rowOf d x) y).getD 0
theorem dget_newIn (d : Told) (x x' : Str) : dget (newIn d x) x' = if x' = x then some (rowOf d x) else dget d x' := by
  unfold newIn rowOf
  split
  · rename_i h
    obtain ⟨v, hv⟩ := Option.isSome_iff_exists.mp h
    split
    · rename_i e; rw [e, hv]; rfl
    · rfl
  · rename_i h
    rw [dget_dset]
    have : dget d x = none := by simpa using h
    rw [this]
    rfl
theorem dget_bump (d : Told) (x y : Str) (v : Int) (x' : Str) : dget (bump d x y v) x' = if x' = x then some (dset (rowOf d x) y (cntT d x y + v)) else dget d x' := by
  unfold bump
  simp only [dget_newIn, dget_dset, if_pos, Option.getD_some]
  split
  · rfl
  · rfl
theorem rowOf_bump (d : Told) (x y : Str) (v : Int) (x' : Str) : rowOf (bump d x y v) x' = if x' = x then dset (rowOf d x) y (cntT d x y + v) else rowOf d x' := by
  show (dget (bump d x y v) x').getD [] = _
  rw [dget_bump]
  split <;> rfl
theorem cnt_bump (d : Told) (x y : Str) (v : Int) (a b : Str) : cntT (bump d x y v) a b = cntT d a b + if a = x ∧ b = y then v else 0 := by
  show (dget (rowOf (bump d x y v) a) b).getD 0 = _
  rw [rowOf_bump]
  by_cases h : a = x
  · subst h
    rw [if_pos rfl, dget_dset]
    by_cases h2 : b = y
    · subst h2; simp
    · simp [h2, cntT]
  · simp [h, cntT]
/- a table of tables: nothing twice, nothing empty, all counts above zero -/
structure WF (d : Told) : Prop where
  keys : (d.map (·.1)).Nodup
  row : ∀ q ∈ d, (q.2.map (·.1)).Nodup ∧ q.2 ≠ [] ∧ ∀ r ∈ q.2, 0 < r.2
theorem WF.rowOk {d : Told} (h : WF d) (x : Str) : ((rowOf d x).map (·.1)).Nodup ∧ ∀ r ∈ rowOf d x, 0 < r.2 := by
  unfold rowOf
  cases e : dget d x with
  | none => exact ⟨List.nodup_nil, fun r hr => by cases hr⟩
  | some t => have := h.row _ (dget_mem e); exact ⟨this.1, this.2.2⟩
theorem WF.cnt_nonneg {d : Told} (h : WF d) (x y : Str) : 0 ≤ cntT d x y := by
  unfold cntT
  cases e : dget (rowOf d x) y with
  | none => exact Int.le_refl _
  | some v => exact Int.le_of_lt ((h.rowOk x).2 _ (dget_mem e))
theorem WF.nil : WF [] := ⟨List.nodup_nil, fun q hq => by cases hq⟩
theorem WF.bump {d : Told} (h : WF d) (x y : Str) {v : Int} (hv : 0 < v) : WF (bump d x y v) := by
  have hn : ((newIn d x).map (·.1)).Nodup := by
    unfold newIn
    split
    · exact h.keys
    · exact dset_nodup h.keys ..
  refine ⟨dset_nodup hn .., fun q hq => ?_⟩
  have hk : ((Mine.bump d x y v).map (·.1)).Nodup := dset_nodup hn ..
  have h1 := dget_of_mem hk hq
  rw [dget_bump] at h1
  split at h1
  · have e : dset (rowOf d x) y (cntT d x y + v) = q.2 := Option.some.inj h1
    have hr := h.rowOk x
    rw [← e]
    refine ⟨dset_nodup hr.1 .., ?_, fun r hr' => ?_⟩
    · intro e2
      have := dget_dset_same (rowOf d x) y (cntT d x y + v)
      rw [e2] at this
      cases this
    · rcases dset_mem hr' with hr' | hr'
      · exact hr.2 r hr'
      · rw [hr']; have := h.cnt_nonneg x y; omega
  · exact h.row _ (by have := dget_mem h1; exact this)
theorem WF.some_iff {d : Told} (h : WF d) (x : Str) : (dget d x).isSome = true ↔ ∃ y, 0 < cntT d x y := by
  constructor
  · intro hs
    obtain ⟨t, ht⟩ := Option.isSome_iff_exists.mp hs
    obtain ⟨h1, h2, h3⟩ := h.row _ (dget_mem ht)
    obtain ⟨r, hr⟩ := List.exists_mem_of_ne_nil _ h2
    refine ⟨r.1, ?_⟩
    unfold cntT rowOf
    rw [ht]
    show 0 < (dget t r.1).getD 0
    rw [dget_of_mem h1 hr]
    exact h3 r hr
  · intro ⟨y, hy⟩
    unfold cntT rowOf at hy
    cases e : dget d x with
    | some t => rfl
    | none => rw [e] at hy; exact absurd hy (Int.lt_irrefl 0)
theorem WF.eqTold {d d' : Told} (h : WF d) (h' : WF d') (hc : ∀ x y, cntT d x y = cntT d' x y) : eqTold d d' = true := by
  refine eqDict_of h.keys h'.keys (fun k => ?_) fun k a b ha hb => ?_
  · rw [Bool.eq_iff_iff, h.some_iff, h'.some_iff]
    simp only [hc]
  · have hra := h.row _ (dget_mem ha)
    have hrb := h'.row _ (dget_mem hb)
    have hc' : ∀ y, (dget a y).getD 0 = (dget b y).getD 0 := fun y => by
      have := hc k y
      unfold cntT rowOf at this
      rw [ha, hb] at this
      exact this
    refine eqDict_of hra.1 hrb.1 (fun y => ?_) fun y u v hu hv => ?_
    · have := hc' y
      cases e1 : dget a y with
      | none =>
        cases e2 : dget b y with
        | none => rfl
        | some v =>
          rw [e1, e2] at this
          have h4 := hrb.2.2 _ (dget_mem e2)
          simp only [Option.getD_none, Option.getD_some] at this
          omega
      | some u =>
        cases e2 : dget b y with
        | some v => rfl
        | none =>
          rw [e1, e2] at this
          have h4 := hra.2.2 _ (dget_mem e1)
          simp only [Option.getD_none, Option.getD_some] at this
          omega
    · have := hc' y
      rw [hu, hv] at this
      simpa using this
end Mine
end

-- Q2
section
open PySem PySem.W PyProof.Rows
set_option linter.unusedVariables false
set_option linter.unusedSimpArgs false
namespace Mine

section
variable {α β : Type}
theorem dset_here {q : Str × α} {r : List (Str × α)} (h : ((q :: r).map (·.1)).Nodup) {k : Str} (e : q.1 = k) (v : α) : dset (q :: r) k v = (k, v) :: r := by
  rw [List.map_cons, List.nodup_cons] at h
  unfold dset
  rw [if_pos (by simp [e]), List.map_cons, if_pos e, e]
  congr 1
  conv => rhs; rw [← List.map_id r]
  apply List.map_congr_left
  intro p hp
  have : ¬ p.1 = k := fun x => h.1 (by rw [e, ← x]; exact List.mem_map_of_mem hp)
  rw [if_neg this]
  rfl
noncomputable def sumD (h : Str → α → Int) (kvs : List (Str × α)) : Int := (kvs.map fun q => h q.1 q.2).sum
theorem sumD_dset (h : Str → α → Int) (k : Str) (v : α) : ∀ {kvs : List (Str × α)}, (kvs.map (·.1)).Nodup → sumD h (dset kvs k v) = sumD h kvs - (match dget kvs k with | some u => h k u | none => 0) + h k v
  | [], _ => by simp [sumD, dset, dget]
  | q :: r, hn => by
    by_cases e : q.1 = k
    · rw [dset_here hn e, dget_cons, if_pos e]
      simp only [sumD, List.map_cons, List.sum_cons, e]
      omega
    · have hn' : (r.map (·.1)).Nodup := by rw [List.map_cons, List.nodup_cons] at hn; exact hn.2
      have ih := sumD_dset h k v hn'
      rw [dset_cons q r k v e, dget_cons, if_neg e]
      simp only [sumD, List.map_cons, List.sum_cons] at ih ⊢
      rw [ih]
      omega
theorem dset_dset (kvs : List (Str × α)) (k : Str) (u v : α) : dset (dset kvs k u) k v = dset kvs k v := by
  cases h : dget kvs k with
  | some d =>
    rw [dset_of_some (dget_dset_same kvs k u), dset_of_some h, dset_of_some h, List.map_map]
    apply List.map_congr_left
    intro q _
    by_cases e : q.1 = k <;> simp [e]
  | none =>
    rw [dset_of_some (dget_dset_same kvs k u), dset_of_none h, dset_of_none h, List.map_append]
    have hk := dget_none_iff.mp h
    have e1 : kvs.map (fun kv => if kv.1 = k then (kv.1, v) else kv) = kvs := by
      conv => rhs; rw [← List.map_id kvs]
      apply List.map_congr_left
      intro p hp
      have : ¬ p.1 = k := fun x => hk (by rw [← x]; exact List.mem_map_of_mem hp)
      rw [if_neg this]
      rfl
    rw [e1]
    simp
theorem dget_mapv (f : Str → α → β) (kvs : List (Str × α)) (k : Str) : dget (kvs.map fun q => (q.1, f q.1 q.2)) k = (dget kvs k).map (f k) := by
  induction kvs with
  | nil => rfl
  | cons q r ih =>
    rw [List.map_cons, dget_cons, dget_cons, ih]
    by_cases e : q.1 = k
    · simp [e]
    · simp [e]
theorem dset_mapv (f : Str → α → β) (kvs : List (Str × α)) (k : Str) (v : α) : dset (kvs.map fun q => (q.1, f q.1 q.2)) k (f k v) = (dset kvs k v).map fun q => (q.1, f q.1 q.2) := by
  cases h : dget kvs k with
  | some d =>
    rw [dset_of_some (d := f k d) (by rw [dget_mapv, h]; rfl), dset_of_some h, List.map_map, List.map_map]
    apply List.map_congr_left
    intro q _
    by_cases e : q.1 = k <;> simp [e]
  | none =>
    rw [dset_of_none (by rw [dget_mapv, h]; rfl), dset_of_none h, List.map_append]
    rfl
/- a table laid again, key by key -/
theorem dset_fold (kvs : List (Str × α)) : ∀ acc : List (Str × α), ((acc ++ kvs).map (·.1)).Nodup → kvs.foldl (fun acc q => dset acc q.1 q.2) acc = acc ++ kvs := by
  induction kvs with
  | nil => intro acc _; rw [List.append_nil]; rfl
  | cons q r ih =>
    intro acc h
    have hk : q.1 ∉ acc.map (·.1) := fun hm => by
      rw [List.map_append, List.nodup_append] at h
      exact h.2.2 _ hm _ (by rw [List.map_cons]; exact List.mem_cons_self ..) rfl
    rw [List.foldl_cons, dset_of_none (dget_none_iff.mpr hk), ih _ (by rw [List.append_assoc]; exact h), List.append_assoc]
    rfl
end

theorem bump_eq (d : Told) (x y : Str) (v : Int) : bump d x y v = dset d x (dset (rowOf d x) y (cntT d x y + v)) := by
  have h : rowOf (newIn d x) x = rowOf d x := by
    unfold rowOf
    rw [dget_newIn, if_pos rfl]
    rfl
  show dset (newIn d x) x (dset (rowOf (newIn d x) x) y ((dget (rowOf (newIn d x) x) y).getD 0 + v)) = _
  rw [h]
  unfold newIn
  split
  · rfl
  · rw [dset_dset]; rfl
noncomputable def tot (t : Tab) : Int := (t.map (·.2)).sum
theorem tot_dset {t : Tab} (h : (t.map (·.1)).Nodup) (y : Str) (v : Int) : tot (dset t y ((dget t y).getD 0 + v)) = tot t + v := by
  have := sumD_dset (fun _ (n : Int) => n) y ((dget t y).getD 0 + v) h
  show sumD (fun _ (n : Int) => n) _ = sumD (fun _ (n : Int) => n) _ + v
  rw [this]
  cases dget t y with
  | none => simp
  | some u => simp; omega
/- a row of the profile, from the row of pairs -/
noncomputable def fiveOf (k : Str) (t : Tab) : Five Tab := ⟨tot t - (dget t k).getD 0, tot t, tot t * codeOf k, (tot t - (dget t k).getD 0) * codeOf k, t⟩
noncomputable def profOf (d : Told) : Prof := d.map fun q => (q.1, fiveOf q.1 q.2)
theorem paddc_one {t : Tab} (h : (t.map (·.1)).Nodup) (a : Str) : paddc (t, [(a, 1)]) = dset t a ((dget t a).getD 0 + 1) := by
  unfold paddc
  rw [dset_fold t [] (by simpa using h)]
  show addStep ([] ++ t) (a, 1) = _
  rw [List.nil_append]
  unfold addStep
  cases dget t a with
  | some v => rfl
  | none => rfl
theorem five_step {t : Tab} (h : (t.map (·.1)).Nodup) (a s : Str) : paddf (fiveOf s t, entryOf a s) = fiveOf s (dset t a ((dget t a).getD 0 + 1)) := by
  unfold paddf fiveOf entryOf
  simp only
  rw [tot_dset h, paddc_one h, dget_dset]
  by_cases e : s = a
  · subst e
    simp only [beq_self_eq_true, if_true, Option.getD_some]
    congr 1
    · omega
    · omega
    · rw [Int.add_mul]; omega
    · rw [Int.zero_mul, Int.zero_add]; congr 1; omega
  · have e2 : (s == a) = false := beq_eq_false_iff_ne.mpr e
    simp only [e2, if_neg e, Bool.false_eq_true, if_false]
    congr 1
    · omega
    · omega
    · rw [Int.add_mul]; omega
    · rw [← Int.add_mul]; congr 1; omega
theorem five_nil (s : Str) : fiveOf s [] = zeroF := by simp [fiveOf, zeroF, tot, dget]
theorem profStep_is {d : Told} (h : WF d) (a s : Str) : profStep (profOf d, a) s = (profOf (bump d s a 1), s) := by
  unfold profStep
  congr 1
  show dset (profOf d) s (paddf ((dget (profOf d) s).getD zeroF, entryOf a s)) = _
  have e : (dget (profOf d) s).getD zeroF = fiveOf s (rowOf d s) := by
    unfold profOf rowOf
    rw [dget_mapv]
    cases dget d s with
    | some t => rfl
    | none => exact (five_nil s).symm
  rw [e, five_step (h.rowOk s).1, bump_eq]
  exact dset_mapv fiveOf d s _
theorem prof_fold : ∀ (l : List Str) (d : Told) (a : Str), WF d → (l.foldl profStep (profOf d, a)).1 = profOf (l.foldl pairStep (d, a)).1
  | [], d, a, _ => rfl
  | s :: r, d, a, h => by
    rw [List.foldl_cons, List.foldl_cons, profStep_is h, pairStep_bump]
    exact prof_fold r _ s (h.bump s a (by decide))
theorem pprofile_is (x : Str) : pprofile x = profOf (ppairs x) := prof_fold (signs x) [] "" WF.nil
theorem told_wf {v : Int} (hv : 0 < v) : ∀ (l : List Str) (d : Told) (a : Str), WF d → WF (l.foldl (toldOne v) (d, a)).1
  | [], d, a, h => h
  | s :: r, d, a, h => told_wf hv r _ s (h.bump s a hv)
theorem ppairs_told (x : Str) : ppairs x = ((signs x).foldl (toldOne 1) ([], "")).1 := rfl
theorem ppairs_wf (x : Str) : WF (ppairs x) := told_wf (by decide) _ _ _ WF.nil
end Mine
end

-- Q3
section
open PySem PySem.W PyProof.Rows
set_option linter.unusedVariables false
set_option linter.unusedSimpArgs false
namespace Mine

theorem callsOf_tot {t : Tab} (h : (t.map (·.1)).Nodup) : callsOf t = tot t := by
  unfold callsOf tot
  rw [List.map_map]
  congr 1
  apply List.map_congr_left
  intro q hq
  show (dget t q.1).getD 0 = q.2
  rw [dget_of_mem h hq]
  rfl
theorem dset_fold2 {α : Type} (f : Str → α) : ∀ (ks : List Str) (acc : List (Str × α)), (acc.map (·.1) ++ ks).Nodup → ks.foldl (fun acc k => dset acc k (f k)) acc = acc ++ ks.map fun k => (k, f k) := by
  intro ks
  induction ks with
  | nil => intro acc _; simp
  | cons k r ih =>
    intro acc h
    have hk : k ∉ acc.map (·.1) := fun hm => by
      rw [List.nodup_append] at h
      exact h.2.2 _ hm _ (List.mem_cons_self ..) rfl
    rw [List.foldl_cons, dset_of_none (dget_none_iff.mpr hk), ih _ (by rw [List.map_append, List.append_assoc]; exact h), List.append_assoc]
    rfl
theorem pdue_is {d : Told} (h : WF d) : pdue d = profOf d := by
  have h1 : ∀ (acc : Prof) (k : Str), dueStep d acc k = dset acc k (fiveOf k (rowOf d k)) := fun acc k => by
    show dset acc k ⟨callsOf (rowOf d k) - (dget (rowOf d k) k).getD 0, callsOf (rowOf d k), callsOf (rowOf d k) * codeOf k, (callsOf (rowOf d k) - (dget (rowOf d k) k).getD 0) * codeOf k, rowOf d k⟩ = _
    rw [callsOf_tot (h.rowOk k).1]
    rfl
  have h2 : dueStep d = fun acc k => dset acc k (fiveOf k (rowOf d k)) := by funext acc k; exact h1 acc k
  unfold pdue
  rw [h2, dset_fold2 (fun k => fiveOf k (rowOf d k)) _ [] (by simpa using h.keys), List.nil_append, List.map_map]
  unfold profOf
  apply List.map_congr_left
  intro q hq
  show (q.1, fiveOf q.1 (rowOf d q.1)) = (q.1, fiveOf q.1 q.2)
  unfold rowOf
  rw [dget_of_mem h.keys hq]
  rfl
theorem tot_perm {a b : Tab} (h : a.Perm b) : tot a = tot b := by
  induction h with
  | nil => rfl
  | cons x _ ih => unfold tot at ih ⊢; rw [List.map_cons, List.map_cons, List.sum_cons, List.sum_cons, ih]
  | swap x y l => unfold tot; simp only [List.map_cons, List.sum_cons]; omega
  | trans _ _ h1 h2 => exact h1.trans h2
theorem nodup_of_keys {α : Type} : ∀ {a : List (Str × α)}, (a.map (·.1)).Nodup → a.Nodup
  | [], _ => List.nodup_nil
  | q :: r, h => by
    rw [List.map_cons, List.nodup_cons] at h
    exact List.nodup_cons.mpr ⟨fun hm => h.1 (List.mem_map_of_mem hm), nodup_of_keys h.2⟩
theorem perm_of_dget {α : Type} {a b : List (Str × α)} (ha : (a.map (·.1)).Nodup) (hb : (b.map (·.1)).Nodup) (h : ∀ y, dget a y = dget b y) : a.Perm b := by
  refine (List.perm_ext_iff_of_nodup (nodup_of_keys ha) (nodup_of_keys hb)).mpr fun q => ⟨fun hq => ?_, fun hq => ?_⟩
  · have := dget_of_mem ha hq
    rw [h] at this
    exact dget_mem this
  · have := dget_of_mem hb hq
    rw [← h] at this
    exact dget_mem this
theorem row_dget {a b : Tab} (ha : ∀ r ∈ a, 0 < r.2) (hb : ∀ r ∈ b, 0 < r.2) (h : ∀ y, (dget a y).getD 0 = (dget b y).getD 0) (y : Str) : dget a y = dget b y := by
  have := h y
  cases e1 : dget a y with
  | none =>
    cases e2 : dget b y with
    | none => rfl
    | some v =>
      rw [e1, e2] at this
      have h4 := hb _ (dget_mem e2)
      simp only [Option.getD_none, Option.getD_some] at this
      omega
  | some u =>
    cases e2 : dget b y with
    | some v => rw [e1, e2] at this; simpa using this
    | none =>
      rw [e1, e2] at this
      have h4 := ha _ (dget_mem e1)
      simp only [Option.getD_none, Option.getD_some] at this
      omega
theorem profOf_keys (d : Told) : (profOf d).map (·.1) = d.map (·.1) := by unfold profOf; rw [List.map_map]; rfl
theorem WF.eqProf {d d' : Told} (h : WF d) (h' : WF d') (hc : ∀ x y, cntT d x y = cntT d' x y) : eqProf (profOf d) (profOf d') = true := by
  refine eqDict_of (by rw [profOf_keys]; exact h.keys) (by rw [profOf_keys]; exact h'.keys) (fun k => ?_) fun k a b ha hb => ?_
  · unfold profOf
    rw [dget_mapv, dget_mapv, Option.isSome_map, Option.isSome_map, Bool.eq_iff_iff, h.some_iff, h'.some_iff]
    simp only [hc]
  · unfold profOf at ha hb
    rw [dget_mapv] at ha hb
    cases e1 : dget d k with
    | none => rw [e1] at ha; cases ha
    | some t =>
      cases e2 : dget d' k with
      | none => rw [e2] at hb; cases hb
      | some t' =>
        rw [e1] at ha
        rw [e2] at hb
        injection ha with ha
        injection hb with hb
        subst ha hb
        have hra := h.row _ (dget_mem e1)
        have hrb := h'.row _ (dget_mem e2)
        have hg : ∀ y, dget t y = dget t' y := row_dget hra.2.2 hrb.2.2 fun y => by
          have := hc k y
          unfold cntT rowOf at this
          rw [e1, e2] at this
          exact this
        have hp := tot_perm (perm_of_dget hra.1 hrb.1 hg)
        have ht : eqDict (fun a b => a == b) t t' = true := eqDict_of hra.1 hrb.1 (fun y => by rw [hg]) fun y u v hu hv => by
          rw [hg, hv] at hu
          injection hu with hu
          simp [hu]
        unfold eqFive fiveOf
        simp only
        rw [hp, hg, ht]
        simp

/- ### sums over pairs -/
noncomputable abbrev Pr := Str × Str
noncomputable def pairsOf (a : Str) : List Str → List Pr
  | [] => []
  | s :: r => (s, a) :: pairsOf s r
noncomputable def sumP (l : List Pr) (g : Str → Str → Int) : Int := (l.map fun p => g p.1 p.2).sum
noncomputable def delta (x y : Str) (s a : Str) : Int := if x = s ∧ y = a then 1 else 0
noncomputable def WT (d : Told) (g : Str → Str → Int) : Int := sumD (fun k (t : Tab) => sumD (fun y n => n * g k y) t) d
theorem WT_bump {d : Told} (h : WF d) (x y : Str) (v : Int) (g : Str → Str → Int) : WT (bump d x y v) g = WT d g + v * g x y := by
  unfold WT
  rw [bump_eq, sumD_dset _ _ _ h.keys, sumD_dset _ _ _ (h.rowOk x).1]
  unfold cntT
  cases e : dget d x with
  | none =>
    have : rowOf d x = [] := by unfold rowOf; rw [e]; rfl
    rw [this]
    simp [sumD, dget]
  | some t =>
    have : rowOf d x = t := by unfold rowOf; rw [e]; rfl
    rw [this]
    cases dget t y with
    | none => simp; omega
    | some u => simp only [Option.getD_some]; rw [Int.add_mul]; omega
theorem sumP_cons (p : Pr) (l : List Pr) (g : Str → Str → Int) : sumP (p :: l) g = g p.1 p.2 + sumP l g := by unfold sumP; rw [List.map_cons, List.sum_cons]
theorem WT_fold {v : Int} (hv : 0 < v) (g : Str → Str → Int) : ∀ (l : List Str) (d : Told) (a : Str), WF d → WT (l.foldl (toldOne v) (d, a)).1 g = WT d g + v * sumP (pairsOf a l) g
  | [], d, a, _ => by simp [pairsOf, sumP]
  | s :: r, d, a, h => by
    have := WT_fold hv g r (bump d s a v) s (h.bump s a hv)
    rw [List.foldl_cons, toldOne_bump, this, WT_bump h, pairsOf, sumP_cons, Int.mul_add]
    simp only
    omega
theorem cnt_fold (v : Int) (x y : Str) : ∀ (l : List Str) (d : Told) (a : Str), cntT (l.foldl (toldOne v) (d, a)).1 x y = cntT d x y + v * sumP (pairsOf a l) (delta x y)
  | [], d, a => by simp [pairsOf, sumP]
  | s :: r, d, a => by
    have := cnt_fold v x y r (bump d s a v) s
    rw [List.foldl_cons, toldOne_bump, this, cnt_bump, pairsOf, sumP_cons, Int.mul_add]
    unfold delta
    simp only
    split
    · omega
    · omega
theorem cnt_ppairs (t x y : Str) : cntT (ppairs t) x y = sumP (pairsOf "" (signs t)) (delta x y) := by
  rw [ppairs_told, cnt_fold]
  simp [cntT, rowOf, dget]
theorem WT_ppairs (t : Str) (g : Str → Str → Int) : WT (ppairs t) g = sumP (pairsOf "" (signs t)) g := by
  rw [ppairs_told, WT_fold (by decide) _ _ _ _ WF.nil]
  simp [WT, sumD]
theorem sumP_perm {l l' : List Pr} (h : l.Perm l') (g : Str → Str → Int) : sumP l g = sumP l' g := by
  induction h with
  | nil => rfl
  | cons x _ ih => rw [sumP_cons, sumP_cons, ih]
  | swap x y l => simp only [sumP_cons]; omega
  | trans _ _ h1 h2 => exact h1.trans h2
theorem sumP_append (l l' : List Pr) (g : Str → Str → Int) : sumP (l ++ l') g = sumP l g + sumP l' g := by unfold sumP; rw [List.map_append, List.sum_append]
end Mine
end

-- Q4
section
open PySem PySem.W PyProof.Rows
set_option linter.unusedVariables false
set_option linter.unusedSimpArgs false
namespace Mine

theorem callersOf_prof (d : Told) (s : Str) : callersOf (profOf d) s = rowOf d s := by
  unfold callersOf profOf rowOf
  rw [dget_mapv]
  cases dget d s with
  | some t => rfl
  | none => rfl
noncomputable def GG (names : List (Str × Str)) (x y s a : Str) : Int := sumP (pairsOf (plast (a, names)) (signs (pbecomes (a, s, names)))) (delta x y)
theorem ahead_cnt (names : List (Str × Str)) (s : Str) (c : Tab) (t : Told) (a x y : Str) : cntT (toldAhead names s c t a) x y = cntT t x y + (dget c a).getD 0 * GG names x y s a := cnt_fold _ x y _ t _
theorem ahead_wf (names : List (Str × Str)) (s : Str) (c : Tab) {t : Told} (ht : WF t) {a : Str} (ha : 0 < (dget c a).getD 0) : WF (toldAhead names s c t a) := told_wf ha _ t _ ht
theorem aheads_cnt (names : List (Str × Str)) (s : Str) (c : Tab) (x y : Str) : ∀ (l : List Str) (t : Told), cntT (l.foldl (toldAhead names s c) t) x y = cntT t x y + (l.map fun a => (dget c a).getD 0 * GG names x y s a).sum
  | [], t => by simp
  | a :: r, t => by
    rw [List.foldl_cons, aheads_cnt names s c x y r, ahead_cnt, List.map_cons, List.sum_cons]
    omega
theorem aheads_wf (names : List (Str × Str)) (s : Str) (c : Tab) : ∀ (l : List Str) (t : Told), WF t → (∀ a ∈ l, 0 < (dget c a).getD 0) → WF (l.foldl (toldAhead names s c) t)
  | [], t, h, _ => h
  | a :: r, t, h, hl => aheads_wf names s c r _ (ahead_wf names s c h (hl a (List.mem_cons_self ..))) fun b hb => hl b (List.mem_cons_of_mem _ hb)
theorem keys_sum {t : Tab} (h : (t.map (·.1)).Nodup) (g : Str → Int) : ((t.map (·.1)).map fun a => (dget t a).getD 0 * g a).sum = sumD (fun a n => n * g a) t := by
  unfold sumD
  rw [List.map_map]
  congr 1
  apply List.map_congr_left
  intro q hq
  show (dget t q.1).getD 0 * g q.1 = q.2 * g q.1
  rw [dget_of_mem h hq]
  rfl
theorem sign_cnt {d : Told} (h : WF d) (names : List (Str × Str)) (t : Told) (s x y : Str) : cntT (toldSign (profOf d) names t s) x y = cntT t x y + sumD (fun a n => n * GG names x y s a) (rowOf d s) := by
  unfold toldSign
  rw [callersOf_prof, aheads_cnt, keys_sum (h.rowOk s).1]
theorem key_pos {t : Tab} (h : (t.map (·.1)).Nodup) (hp : ∀ r ∈ t, 0 < r.2) : ∀ a ∈ t.map (·.1), 0 < (dget t a).getD 0 := fun a ha => by
  obtain ⟨q, hq, rfl⟩ := List.mem_map.mp ha
  rw [dget_of_mem h hq]
  exact hp q hq
theorem sign_wf {d : Told} (h : WF d) (names : List (Str × Str)) {t : Told} (ht : WF t) (s : Str) : WF (toldSign (profOf d) names t s) := by
  unfold toldSign
  rw [callersOf_prof]
  exact aheads_wf names s _ _ t ht (key_pos (h.rowOk s).1 (h.rowOk s).2)
theorem signs_cnt {d : Told} (h : WF d) (names : List (Str × Str)) (x y : Str) : ∀ (l : List Str) (t : Told), cntT (l.foldl (toldSign (profOf d) names) t) x y = cntT t x y + (l.map fun s => sumD (fun a n => n * GG names x y s a) (rowOf d s)).sum
  | [], t => by simp
  | a :: r, t => by
    rw [List.foldl_cons, signs_cnt h names x y r, sign_cnt h, List.map_cons, List.sum_cons]
    omega
theorem signs_wf {d : Told} (h : WF d) (names : List (Str × Str)) : ∀ (l : List Str) (t : Told), WF t → WF (l.foldl (toldSign (profOf d) names) t)
  | [], t, ht => ht
  | a :: r, t, ht => signs_wf h names r _ (sign_wf h names ht a)
theorem ptold_wf {d : Told} (h : WF d) (names : List (Str × Str)) : WF (ptold (profOf d, names)) := signs_wf h names _ [] WF.nil
theorem ptold_cnt {d : Told} (h : WF d) (names : List (Str × Str)) (x y : Str) : cntT (ptold (profOf d, names)) x y = WT d (GG names x y) := by
  have h1 := signs_cnt h names x y ((profOf d).map (·.1)) []
  unfold ptold
  rw [h1, profOf_keys, List.map_map]
  unfold WT
  have e : cntT [] x y = 0 := rfl
  rw [e, Int.zero_add]
  show _ = (d.map fun q => sumD (fun y' n => n * GG names x y q.1 y') q.2).sum
  congr 1
  apply List.map_congr_left
  intro q hq
  show sumD (fun a (n : Int) => n * GG names x y q.1 a) (rowOf d q.1) = _
  unfold rowOf
  rw [dget_of_mem h.keys hq]
  rfl

/- a page that keeps the pairs: what the sums ask of a text `o` and its page `p` -/
noncomputable def PageOf (names : List (Str × Str)) (o p : Str) : Prop := ∀ x y, sumP (pairsOf "" (signs p)) (delta x y) = sumP (pairsOf "" (signs o)) (GG names x y)
theorem toldOf_is (t : Str) (w : Int) : toldOf t w = ptold (profOf (ppairs t), pnames w) := by unfold toldOf; rw [pprofile_is]
theorem due_of {t : Str} {w : Int} (h : PageOf (pnames w) t (psent (t, w))) : eqProf (pprofile (psent (t, w))) (pdue (toldOf t w)) = true := by
  rw [toldOf_is, pprofile_is, pdue_is (ptold_wf (ppairs_wf t) _)]
  refine (ppairs_wf _).eqProf (ptold_wf (ppairs_wf t) _) fun x y => ?_
  rw [cnt_ppairs, ptold_cnt (ppairs_wf t), WT_ppairs, h]
theorem other_of {t o : Str} {w : Int} (h : PageOf (pnames w) o (psent (o, w))) (hp : (pairsOf "" (signs o)).Perm (pairsOf "" (signs t))) : eqTold (ppairs (psent (o, w))) (toldOf t w) = true := by
  rw [toldOf_is]
  refine (ppairs_wf _).eqTold (ptold_wf (ppairs_wf t) _) fun x y => ?_
  rw [cnt_ppairs, ptold_cnt (ppairs_wf t), WT_ppairs, h, sumP_perm hp]
end Mine
end

-- Q5
section
open PySem PySem.W PyProof.Rows
set_option linter.unusedVariables false
set_option linter.unusedSimpArgs false
namespace Mine

noncomputable def bOf (k : Bool) (a : Nat) : Bool := a == 0 || a == 10 || (k && a == 13)
noncomputable def becN (E : Nat → List Nat) (k : Bool) (a c : Nat) : List Nat :=
  if c = 46 then (if bOf k a = true then [46, 46] else [46]) else if c = 10 then (if k = true ∧ a = 13 then [] else [13, 10]) else if c = 13 then (if k = true then [13, 10] else E 13) else E c
noncomputable def pageN (E : Nat → List Nat) (k : Bool) : Nat → List Nat → List Nat
  | _, [] => []
  | a, c :: r => becN E k a c ++ pageN E k c r
theorem dotq_pre : ∀ (l r : List Nat) (b : Bool), (∀ x ∈ l, x ≠ 46 ∧ x ≠ 10 ∧ x ≠ 13) → l ≠ [] → dotq b (l ++ r) = l ++ dotq false r
  | [c], r, b, h, _ => by
    have := h c (List.mem_cons_self ..)
    show (if b = true ∧ c = 46 then [46, 46] else [c]) ++ dotq (c == 10) r = _
    rw [if_neg (fun e => this.1 e.2), beq_eq_false_iff_ne.mpr this.2.1]
  | c :: d :: l, r, b, h, _ => by
    have := h c (List.mem_cons_self ..)
    have ih := dotq_pre (d :: l) r (c == 10) (fun x hx => h x (List.mem_cons_of_mem _ hx)) (by simp)
    show (if b = true ∧ c = 46 then [46, 46] else [c]) ++ dotq (c == 10) ((d :: l) ++ r) = _
    rw [if_neg (fun e => this.1 e.2), ih]
    rfl
theorem page_ind (E : Nat → List Nat) (k : Bool) (m : Nat) (h46 : E 46 = [46]) (h10 : E 10 = [10]) (h13 : k = true → E 13 = [13]) (h13' : k = false → (∀ x ∈ E 13, x ≠ 46 ∧ x ≠ 10 ∧ x ≠ 13) ∧ E 13 ≠ [])
    (hm : (∀ x ∈ E m, x ≠ 46 ∧ x ≠ 10 ∧ x ≠ 13) ∧ E m ≠ []) (hm2 : m ≠ 46 ∧ m ≠ 10 ∧ m ≠ 13 ∧ m ≠ 0) :
    ∀ (n : Nat) (L : List Nat) (a : Nat), L.length ≤ n → (∀ c ∈ L, c = 46 ∨ c = 10 ∨ c = 13 ∨ c = m) → ¬ (k = true ∧ a = 13 ∧ L.head? = some 10) → dotq (bOf k a) (crlf (L.flatMap E)) = pageN E k a L
  | 0, [], a, _, _, _ => rfl
  | 0, _ :: _, _, h, _, _ => by simp at h
  | n + 1, [], a, _, _, _ => rfl
  | n + 1, c :: r, a, hl, hc, ha => by
    have hl' : r.length ≤ n := by rw [List.length_cons] at hl; omega
    have hc' : ∀ c ∈ r, c = 46 ∨ c = 10 ∨ c = 13 ∨ c = m := fun x hx => hc x (List.mem_cons_of_mem _ hx)
    have ih := page_ind E k m h46 h10 h13 h13' hm hm2 n
    have plain : ∀ z : List Nat, (∀ x ∈ z, x ≠ 46 ∧ x ≠ 10 ∧ x ≠ 13) → z ≠ [] → ∀ c', bOf k c' = false → ¬ (k = true ∧ c' = 13) → dotq (bOf k a) (crlf (z ++ r.flatMap E)) = z ++ pageN E k c' r := fun z hz hz0 c' hb hk => by
      rw [crlf_pre z _ fun x hx => fun e => e.elim (hz x hx).2.1 (hz x hx).2.2, dotq_pre z _ _ hz hz0, ← ih r c' hl' hc' fun e => hk ⟨e.1, e.2.1⟩, hb]
    rw [List.flatMap_cons]
    show _ = becN E k a c ++ pageN E k c r
    rcases hc c (List.mem_cons_self ..) with rfl | rfl | rfl | rfl
    · rw [h46, crlf_pre [46] _ (by intro x hx; rw [List.mem_singleton.mp hx]; decide)]
      show (if bOf k a = true ∧ 46 = 46 then [46, 46] else [46]) ++ dotq false (crlf (r.flatMap E)) = _
      have := ih r 46 hl' hc' (fun e => absurd e.2.1 (by decide))
      have hb : bOf k 46 = false := by cases k <;> rfl
      rw [hb] at this
      rw [this]
      unfold becN
      simp
    · rw [h10]
      show dotq _ (crlf (10 :: _)) = _
      rw [crlf_lf]
      show (if bOf k a = true ∧ 13 = 46 then [46, 46] else [13]) ++ ((if (13 == 10) = true ∧ 10 = 46 then [46, 46] else [10]) ++ dotq true (crlf (r.flatMap E))) = _
      have := ih r 10 hl' hc' (fun e => absurd e.2.1 (by decide))
      have hb : bOf k 10 = true := by cases k <;> rfl
      rw [hb] at this
      rw [this]
      have hk : ¬ (k = true ∧ a = 13) := fun e => ha ⟨e.1, e.2, rfl⟩
      unfold becN
      simp [hk]
    · by_cases hk : k = true
      · rw [h13 hk]
        have hb : bOf k 13 = true := by rw [hk]; rfl
        by_cases hr : r.head? = some 10
        · obtain ⟨r', rfl⟩ : ∃ r', r = 10 :: r' := by
            cases r with
            | nil => cases hr
            | cons x r' => exact ⟨r', by rw [List.head?_cons] at hr; injection hr with hr; rw [hr]⟩
          rw [List.flatMap_cons, h10]
          show dotq _ (crlf (13 :: 10 :: _)) = _
          rw [crlf_crlf]
          show (if bOf k a = true ∧ 13 = 46 then [46, 46] else [13]) ++ ((if (13 == 10) = true ∧ 10 = 46 then [46, 46] else [10]) ++ dotq true (crlf (r'.flatMap E))) = _
          have := ih r' 10 (by rw [List.length_cons] at hl'; omega) (fun x hx => hc' x (List.mem_cons_of_mem _ hx)) (fun e => absurd e.2.1 (by decide))
          have hb : bOf k 10 = true := by cases k <;> rfl
          rw [hb] at this
          rw [this]
          show _ = becN E k a 13 ++ (becN E k 13 10 ++ pageN E k 10 r')
          unfold becN
          simp [hk]
        · have hh : (r.flatMap E).head? ≠ some 10 := by
            cases r with
            | nil => simp
            | cons x r' =>
              have hx : x ≠ 10 := fun e => hr (by rw [e]; rfl)
              rw [List.flatMap_cons]
              rcases hc' x (List.mem_cons_self ..) with rfl | rfl | rfl | rfl
              · rw [h46]; simp
              · exact absurd rfl hx
              · rw [h13 hk]; simp
              · cases e : E x with
                | nil => exact absurd e hm.2
                | cons y z =>
                  have := hm.1 y (by rw [e]; exact List.mem_cons_self ..)
                  rw [List.cons_append, List.head?_cons]
                  intro e2
                  injection e2 with e2
                  exact this.2.1 e2
          show dotq _ (crlf (13 :: r.flatMap E)) = _
          rw [crlf_cr hh]
          show (if bOf k a = true ∧ 13 = 46 then [46, 46] else [13]) ++ ((if (13 == 10) = true ∧ 10 = 46 then [46, 46] else [10]) ++ dotq true (crlf (r.flatMap E))) = _
          have := ih r 13 hl' hc' (fun e => hr e.2.2)
          rw [hb] at this
          rw [this]
          unfold becN
          simp [hk]
      · have hk' : k = false := by simpa using hk
        have h := h13' hk'
        rw [plain _ h.1 h.2 13 (by rw [hk']; rfl) (fun e => hk e.1)]
        unfold becN
        simp [hk']
    · rw [plain _ hm.1 hm.2 c (by unfold bOf; simp [hm2]) (fun e => hm2.2.2.1 e.2)]
      unfold becN
      simp [hm2]
end Mine
end

-- Q6
section
open PySem PySem.W PyProof.Rows
set_option linter.unusedVariables false
set_option linter.unusedSimpArgs false
namespace Mine

noncomputable def eW (w : Int) : Nat → List Nat := if w == 0 then e0 else if w == 1 then e1 else e2
noncomputable def kW (w : Int) : Bool := w != 2
noncomputable def strOf (a : Nat) : Str := if a = 0 then S [] else S [a]
noncomputable abbrev whiches : List Int := [0, 1, 2]
noncomputable abbrev marks : List Nat := [38, 60, 62, 34]
set_option maxRecDepth 100000
theorem eW_a : ∀ w ∈ whiches, eW w 46 = [46] ∧ eW w 10 = [10] ∧ (kW w = true → eW w 13 = [13]) := by decide +kernel
theorem eW_b : ∀ w ∈ whiches, kW w = false → ((∀ x ∈ eW w 13, x ≠ 46 ∧ x ≠ 10 ∧ x ≠ 13) ∧ eW w 13 ≠ []) := by decide +kernel
theorem eW_c : ∀ w ∈ whiches, ∀ m ∈ marks, (∀ x ∈ eW w m, x ≠ 46 ∧ x ≠ 10 ∧ x ≠ 13) ∧ eW w m ≠ [] := by decide +kernel
theorem mark_ok : ∀ m ∈ marks, m ≠ 46 ∧ m ≠ 10 ∧ m ≠ 13 ∧ m ≠ 0 := by decide +kernel
theorem bec_ok : ∀ w ∈ whiches, ∀ m ∈ marks, ∀ a ∈ [0, 46, 10, 13, m], ∀ c ∈ [46, 10, 13, m], pbecomes (strOf a, S [c], pnames w) = S (becN (eW w) (kW w) a c) := by decide +kernel
theorem last_ok : ∀ w ∈ whiches, ∀ m ∈ marks, ∀ a ∈ [0, 46, 10, 13, m], ∀ c ∈ [46, 10, 13, m], ((becN (eW w) (kW w) a c).map fun x => S [x]).getLastD (plast (strOf a, pnames w)) = plast (strOf c, pnames w) := by decide +kernel
theorem last0_ok : ∀ w ∈ whiches, plast (strOf 0, pnames w) = S [] := by decide +kernel

theorem signs_S (l : List Nat) : signs (S l) = l.map fun x => S [x] := rfl
theorem pairsOf_append : ∀ (u v : List Str) (z : Str), pairsOf z (u ++ v) = pairsOf z u ++ pairsOf (u.getLastD z) v
  | [], v, z => rfl
  | a :: r, v, z => by
    rw [List.cons_append, pairsOf, pairsOf, pairsOf_append r v a]
    cases r <;> rfl
noncomputable def Word (m : Nat) (L : List Nat) : Prop := ∀ c ∈ L, c = 46 ∨ c = 10 ∨ c = 13 ∨ c = m
theorem psent_page {w : Int} (hw : w ∈ whiches) {m : Nat} (hm : m ∈ marks) {L : List Nat} (hL : Word m L) : psent (S L, w) = S (pageN (eW w) (kW w) 0 L) := by
  obtain ⟨h1, h2, h3⟩ := eW_a w hw
  have := page_ind (eW w) (kW w) m h1 h2 h3 (eW_b w hw) (eW_c w hw m hm) (mark_ok m hm) L.length L 0 (Nat.le_refl _) hL (fun e => absurd e.2.1 (by decide))
  show S (dotq true (crlf (L.flatMap (eW w)))) = _
  rw [← this]
  rfl
theorem page_sums {w : Int} (hw : w ∈ whiches) {m : Nat} (hm : m ∈ marks) (x y : Str) : ∀ (L : List Nat) (a : Nat), a ∈ [0, 46, 10, 13, m] → Word m L →
    sumP (pairsOf (plast (strOf a, pnames w)) (signs (S (pageN (eW w) (kW w) a L)))) (delta x y) = sumP (pairsOf (strOf a) (signs (S L))) (GG (pnames w) x y)
  | [], a, _, _ => rfl
  | c :: r, a, ha, hL => by
    have hc : c ∈ [46, 10, 13, m] := by
      have := hL c (List.mem_cons_self ..)
      simpa using this
    have hc' : c ∈ [0, 46, 10, 13, m] := List.mem_cons_of_mem _ hc
    have ih := page_sums hw hm x y r c hc' fun z hz => hL z (List.mem_cons_of_mem _ hz)
    have h0 : c ≠ 0 := fun e => by
      have h6 := (mark_ok m hm).2.2.2
      rcases hL c (List.mem_cons_self ..) with h | h | h | h
      · rw [e] at h; cases h
      · rw [e] at h; cases h
      · rw [e] at h; cases h
      · exact h6 (h.symm.trans e)
    have hs : strOf c = S [c] := if_neg h0
    have hb := bec_ok w hw m hm a ha c hc
    have hl := last_ok w hw m hm a ha c hc
    show sumP (pairsOf _ (signs (S (becN (eW w) (kW w) a c ++ pageN (eW w) (kW w) c r)))) _ = sumP ((S [c], strOf a) :: pairsOf (S [c]) (signs (S r))) _
    rw [sumP_cons, signs_S, List.map_append, pairsOf_append, sumP_append, hl]
    rw [signs_S] at ih
    rw [ih, hs]
    congr 1
    show _ = sumP (pairsOf (plast (strOf a, pnames w)) (signs (pbecomes (strOf a, S [c], pnames w)))) (delta x y)
    rw [hb, signs_S]
theorem pageOf_word {w : Int} (hw : w ∈ whiches) {m : Nat} (hm : m ∈ marks) {L : List Nat} (hL : Word m L) : PageOf (pnames w) (S L) (psent (S L, w)) := fun x y => by
  have := page_sums hw hm x y L 0 (List.mem_cons_self ..) hL
  rw [last0_ok w hw] at this
  rw [psent_page hw hm hL]
  exact this
theorem range_page (E : Nat → List Nat) (k : Bool) : ∀ (L : List Nat) (a : Nat), ((List.range L.length).map fun i => becN E k (if i = 0 then a else L.getD (i - 1) 0) (L.getD i 0)).flatten = pageN E k a L
  | [], a => rfl
  | c :: r, a => by
    have ih := range_page E k r c
    rw [List.length_cons, List.range_succ_eq_map, List.map_cons, List.flatten_cons, List.map_map]
    show _ = becN E k a c ++ pageN E k c r
    rw [← ih]
    congr 2
    apply List.map_congr_left
    intro i _
    cases i with
    | zero => rfl
    | succ i => rfl
theorem page_word {w : Int} (hw : w ∈ whiches) {m : Nat} (hm : m ∈ marks) {L : List Nat} (hL : Word m L) : psent (S L, w) = ppg (S L, pnames w) := by
  rw [psent_page hw hm hL, ← range_page]
  unfold ppg
  rw [joinT_S, List.map_map]
  show S (List.flatten ((List.range L.length).map _)) = S (List.flatten ((List.range (S L).length).map _))
  rw [S_length]
  congr 2
  apply List.map_congr_left
  intro i hi
  have hi' : i < L.length := List.mem_range.mp hi
  have hlet : ∀ j, j < L.length → L.getD j 0 ∈ [46, 10, 13, m] := fun j hj => by
    have h1 : L.getD j 0 = L[j] := by simp [List.getD, hj]
    have := hL L[j] (List.getElem_mem hj)
    rw [h1]
    simpa using this
  have hcode : charAt (S L) i = S [L.getD i 0] := by
    unfold charAt S
    simp [List.getD, hi']
  have hbeh : behindAt (S L) i = strOf (if i = 0 then 0 else L.getD (i - 1) 0) := by
    cases i with
    | zero => simp [behindAt, strOf, S]
    | succ j =>
      have hj : j < L.length := by omega
      have h0 : L.getD j 0 ≠ 0 := fun e => by
        have h6 := (mark_ok m hm).2.2.2
        have := hlet j hj
        rw [e] at this
        simp at this
        exact h6 this.symm
      have e1 : (if j + 1 = 0 then 0 else L.getD (j + 1 - 1) 0) = L.getD j 0 := rfl
      rw [e1]
      unfold strOf behindAt
      rw [if_neg h0, S_cps, show j + 1 - 1 = j by omega, show j + 1 - j = 1 by omega]
      congr 1
      have hd : L.drop j = L[j] :: L.drop (j + 1) := List.drop_eq_getElem_cons hj
      rw [hd, List.take_succ_cons, List.take_zero]
      simp [List.getD, hj]
  have ha : (if i = 0 then 0 else L.getD (i - 1) 0) ∈ [0, 46, 10, 13, m] := by
    split
    · exact List.mem_cons_self ..
    · exact List.mem_cons_of_mem _ (hlet (i - 1) (by omega))
  have := bec_ok w hw m hm _ ha _ (hlet i hi')
  show _ = (pbecomes (behindAt (S L) i, charAt (S L) i, pnames w)).cps.toList
  rw [hcode, hbeh, this]
  rfl
end Mine
end

-- Q7
section
open PySem PySem.W PyProof.Rows
set_option linter.unusedVariables false
set_option linter.unusedSimpArgs false
namespace Mine

section
variable {K α : Type} [DecidableEq K]
noncomputable def gget (kvs : List (K × α)) (k : K) : Option α := (kvs.find? fun kv => kv.1 = k).map (·.2)
noncomputable def gset (kvs : List (K × α)) (k : K) (v : α) : List (K × α) :=
  if kvs.any (fun kv => kv.1 = k) then kvs.map (fun kv => if kv.1 = k then (kv.1, v) else kv) else kvs ++ [(k, v)]
noncomputable def gsets (acc : List (K × α)) (kvs : List (K × α)) : List (K × α) := kvs.foldl (fun a q => gset a q.1 q.2) acc
noncomputable abbrev GT (K : Type) := List (K × Int)
noncomputable abbrev GD (K : Type) := List (K × GT K)
noncomputable def gbump (d : GD K) (x y : K) (v : Int) : GD K :=
  let p := if (gget d x).isSome then d else gset d x []
  let t := (gget p x).getD []
  gset p x (gset t y ((gget t y).getD 0 + v))
noncomputable def gpairs (a : K) (l : List K) : GD K := (l.foldl (fun (s : GD K × K) x => (gbump s.1 x s.2 1, x)) ([], a)).1
noncomputable def gaddStep (acc : GT K) (q : K × Int) : GT K := match gget acc q.1 with | some a => gset acc q.1 (a + q.2) | none => gset acc q.1 q.2
noncomputable def gaddc (x : GT K × GT K) : GT K := x.2.foldl gaddStep (x.1.foldl (fun acc q => gset acc q.1 q.2) [])
noncomputable def gcopy (left : GD K) : GD K := gsets [] ((left.map (·.1)).map fun o => (o, (gget left o).getD []))
noncomputable def gless (left : GD K) (sign last : K) : GD K := gset (gcopy left) sign (gaddc ((gget left sign).getD [], [(last, -1)]))
/- a text is kept with its last sign ahead -/
noncomputable def gstep (text : List K) (last : K) (left : GD K) (acc : List (List K × GD K)) (sign : K) : List (List K × GD K) :=
  if decide (0 < (gget ((gget left sign).getD []) last).getD 0) then acc ++ [(text ++ [sign], gless left sign last)] else acc
noncomputable def glast (a : K) (t : List K) : K := t.getLastD a
noncomputable def gtext (a : K) (acc : List (List K × GD K)) (w : List K × GD K) : List (List K × GD K) := (w.2.map (·.1)).foldl (gstep w.1 (glast a w.1) w.2) acc
noncomputable def glonger (a : K) (ways : List (List K × GD K)) : List (List K × GD K) := ways.foldl (gtext a) []
noncomputable def gwaysN (a : K) : Nat → List (List K × GD K) → List (List K × GD K)
  | 0, w => w
  | n + 1, w => gwaysN a n (glonger a w)
noncomputable def gtexts (a : K) (d : GD K) (first : K) (n : Nat) : List (List K) := (gwaysN a n [([first], gcopy d)]).map (·.1)
noncomputable def gcallers (d : GD K) (s : K) : GT K := (gget d s).getD []
noncomputable def grow (d : GD K) (last sign : K) (row : List Int) (other : K) : List Int :=
  if other = sign then row ++ [pcount' (gcallers d sign) - (gget (gcallers d sign) sign).getD 0]
  else if other = last then row else row ++ [-(gget (gcallers d other) sign).getD 0]
where pcount' (c : GT K) : Int := (c.map (·.2)).foldl (fun a b => a + b) 0
noncomputable def gshared (c : GT K) (sh : Int) (a : K) : Int := sh * pfact ((gget c a).getD 0)
noncomputable def gwhitStep (d : GD K) (last : K) (s : Int × Int × List (List Int)) (sign : K) : Int × Int × List (List Int) :=
  (s.1 * pfact (grow.pcount' (gcallers d sign) - 1), ((gcallers d sign).map (·.1)).foldl (gshared (gcallers d sign)) s.2.1,
    if sign = last then s.2.2 else s.2.2 ++ [(d.map (·.1)).foldl (grow d last sign) []])
noncomputable def gwhits (d : GD K) (last : K) : Int × Int × List (List Int) := (d.map (·.1)).foldl (gwhitStep d last) (1, 1, [])
noncomputable def gwhit (d : GD K) (last : K) (many : Int) : Bool := many * (gwhits d last).2.1 == (gwhits d last).1 * pdet (gwhits d last).2.2.length (gwhits d last).2.2
noncomputable def gadj (a : K) : List K → List (K × K)
  | [] => []
  | x :: r => (x, a) :: gadj x r
end

section
variable {α β : Type} {f : Nat → Str} {g : α → β}
noncomputable def mp (f : Nat → Str) (g : α → β) (kvs : List (Nat × α)) : List (Str × β) := kvs.map fun q => (f q.1, g q.2)
theorem mp_get (hf : ∀ a b, f a = f b → a = b) (k : Nat) : ∀ kvs : List (Nat × α), dget (mp f g kvs) (f k) = (gget kvs k).map g
  | [] => rfl
  | q :: r => by
    have ih := mp_get hf k r
    show dget ((f q.1, g q.2) :: mp f g r) (f k) = _
    rw [dget_cons, ih]
    unfold gget
    rw [List.find?_cons]
    by_cases e : q.1 = k
    · simp [e]
    · have : ¬ f q.1 = f k := fun x => e (hf _ _ x)
      simp [e, this]
theorem mp_set (hf : ∀ a b, f a = f b → a = b) (k : Nat) (v : α) (kvs : List (Nat × α)) : dset (mp f g kvs) (f k) (g v) = mp f g (gset kvs k v) := by
  have hany : ((mp f g kvs).any fun kv => decide (kv.1 = f k)) = kvs.any fun kv => decide (kv.1 = k) := by
    unfold mp
    rw [List.any_map]
    congr 1
    funext q
    show decide (f q.1 = f k) = decide (q.1 = k)
    by_cases e : q.1 = k
    · simp [e]
    · have : ¬ f q.1 = f k := fun x => e (hf _ _ x)
      simp [e, this]
  unfold dset gset
  rw [hany]
  split
  · unfold mp
    rw [List.map_map, List.map_map]
    apply List.map_congr_left
    intro q _
    by_cases e : q.1 = k
    · simp [e]
    · have : ¬ f q.1 = f k := fun x => e (hf _ _ x)
      simp [e, this]
  · unfold mp; rw [List.map_append]; rfl
theorem mp_keys (kvs : List (Nat × α)) : (mp f g kvs).map (·.1) = (kvs.map (·.1)).map f := by unfold mp; rw [List.map_map, List.map_map]; rfl
end
section
variable {f : Nat → Str}
noncomputable def mT (f : Nat → Str) : GT Nat → Tab := mp f id
noncomputable def mD (f : Nat → Str) : GD Nat → Told := mp f (mT f)
theorem mT_get (hf : ∀ a b, f a = f b → a = b) (t : GT Nat) (k : Nat) : dget (mT f t) (f k) = gget t k := by
  unfold mT; rw [mp_get hf]; simp
theorem mT_set (hf : ∀ a b, f a = f b → a = b) (t : GT Nat) (k : Nat) (v : Int) : dset (mT f t) (f k) v = mT f (gset t k v) := mp_set hf k v t
theorem mD_row (hf : ∀ a b, f a = f b → a = b) (d : GD Nat) (k : Nat) : (dget (mD f d) (f k)).getD [] = mT f ((gget d k).getD []) := by
  unfold mD; rw [mp_get hf]
  cases gget d k <;> rfl
theorem mD_set (hf : ∀ a b, f a = f b → a = b) (d : GD Nat) (k : Nat) (t : GT Nat) : dset (mD f d) (f k) (mT f t) = mD f (gset d k t) := mp_set hf k t d
theorem mD_bump (hf : ∀ a b, f a = f b → a = b) (d : GD Nat) (x y : Nat) (v : Int) : bump (mD f d) (f x) (f y) v = mD f (gbump d x y v) := by
  have hn : newIn (mD f d) (f x) = mD f (if (gget d x).isSome then d else gset d x []) := by
    unfold newIn
    have : (dget (mD f d) (f x)).isSome = (gget d x).isSome := by unfold mD; rw [mp_get hf, Option.isSome_map]
    rw [this]
    split
    · rfl
    · exact mD_set hf d x []
  unfold bump gbump
  simp only
  rw [hn, mD_row hf, mT_get hf, mT_set hf, mD_set hf]
theorem mD_pairs (hf : ∀ a b, f a = f b → a = b) : ∀ (l : List Nat) (d : GD Nat) (a : Nat), ((l.map f).foldl pairStep (mD f d, f a)).1 = mD f (l.foldl (fun (s : GD Nat × Nat) x => (gbump s.1 x s.2 1, x)) (d, a)).1
  | [], d, a => rfl
  | x :: r, d, a => by
    rw [List.map_cons, List.foldl_cons, List.foldl_cons, pairStep_bump]
    show (List.foldl pairStep (bump (mD f d) (f x) (f a) 1, f x) (r.map f)).1 = _
    rw [mD_bump hf]
    exact mD_pairs hf r _ x
theorem mT_addStep (hf : ∀ a b, f a = f b → a = b) (acc : GT Nat) (q : Nat × Int) : addStep (mT f acc) (f q.1, q.2) = mT f (gaddStep acc q) := by
  unfold addStep gaddStep
  simp only
  rw [mT_get hf]
  cases gget acc q.1 with
  | some a => exact mT_set hf acc q.1 _
  | none => exact mT_set hf acc q.1 _
theorem mT_addc (hf : ∀ a b, f a = f b → a = b) (a b : GT Nat) : paddc (mT f a, mT f b) = mT f (gaddc (a, b)) := by
  have h1 : ∀ (l acc : GT Nat), (mT f l).foldl (fun acc q => dset acc q.1 q.2) (mT f acc) = mT f (l.foldl (fun acc q => gset acc q.1 q.2) acc) := by
    intro l
    induction l with
    | nil => intro acc; rfl
    | cons q r ih =>
      intro acc
      show (mT f r).foldl _ (dset (mT f acc) (f q.1) q.2) = _
      rw [mT_set hf, ih]
      rfl
  have h2 : ∀ (l acc : GT Nat), (mT f l).foldl addStep (mT f acc) = mT f (l.foldl gaddStep acc) := by
    intro l
    induction l with
    | nil => intro acc; rfl
    | cons q r ih =>
      intro acc
      show (mT f r).foldl addStep (addStep (mT f acc) (f q.1, q.2)) = _
      rw [mT_addStep hf, ih]
      rfl
  unfold paddc gaddc
  show (mT f b).foldl addStep ((mT f a).foldl _ (mT f [])) = _
  rw [h1, h2]
theorem mD_copy (hf : ∀ a b, f a = f b → a = b) (d : GD Nat) : copyT (mD f d) = mD f (gcopy d) := by
  have h1 : ∀ (l : List Nat) (acc : GD Nat), dsets (mD f acc) ((l.map f).map fun o => (o, (dget (mD f d) o).getD [])) = mD f (gsets acc (l.map fun o => (o, (gget d o).getD []))) := by
    intro l
    induction l with
    | nil => intro acc; rfl
    | cons x r ih =>
      intro acc
      show dsets (dset (mD f acc) (f x) ((dget (mD f d) (f x)).getD [])) _ = _
      rw [mD_row hf, mD_set hf]
      exact ih _
  unfold copyT gcopy
  have : (mD f d).map (·.1) = (d.map (·.1)).map f := mp_keys d
  rw [this]
  exact h1 _ []
theorem mD_less (hf : ∀ a b, f a = f b → a = b) (d : GD Nat) (s l : Nat) : lessOf (mD f d) (f s) (f l) = mD f (gless d s l) := by
  unfold lessOf gless
  rw [mD_copy hf, mD_row hf]
  have := mT_addc hf ((gget d s).getD []) [(l, -1)]
  show dset _ _ (paddc (mT f ((gget d s).getD []), mT f [(l, -1)])) = _
  rw [this, mD_set hf]
end
end Mine
end

-- Q8
section
open PySem PySem.W PyProof.Rows
set_option linter.unusedVariables false
set_option linter.unusedSimpArgs false
namespace Mine

theorem gset_mem {α : Type} {kvs : List (Nat × α)} {k : Nat} {v : α} {q : Nat × α} (h : q ∈ gset kvs k v) : q.1 ∈ kvs.map (·.1) ∨ q.1 = k := by
  unfold gset at h
  split at h
  · obtain ⟨p, hp, rfl⟩ := List.mem_map.mp h
    left
    split <;> exact List.mem_map_of_mem (f := (·.1)) hp
  · rcases List.mem_append.mp h with h | h
    · exact .inl (List.mem_map_of_mem h)
    · rw [List.mem_singleton.mp h]; exact .inr rfl
theorem gsets_mem {α : Type} : ∀ {l acc : List (Nat × α)} {q : Nat × α}, q ∈ gsets acc l → q.1 ∈ acc.map (·.1) ∨ q.1 ∈ l.map (·.1)
  | [], acc, q, h => .inl (List.mem_map_of_mem h)
  | p :: r, acc, q, h => by
    rcases gsets_mem (l := r) (acc := gset acc p.1 p.2) h with h | h
    · obtain ⟨z, hz, e⟩ := List.mem_map.mp h
      rcases gset_mem hz with h2 | h2
      · exact .inl (e ▸ h2)
      · right
        rw [← e, h2]
        exact List.mem_cons_self ..
    · exact .inr (List.mem_cons_of_mem _ h)
noncomputable def Sg (d : GD Nat) : Prop := ∀ k ∈ d.map (·.1), k ≠ 0
theorem Sg.copy {d : GD Nat} (h : Sg d) : Sg (gcopy d) := fun k hk => by
  obtain ⟨q, hq, rfl⟩ := List.mem_map.mp hk
  rcases gsets_mem hq with h2 | h2
  · cases h2
  · rw [List.map_map] at h2
    obtain ⟨o, ho, e⟩ := List.mem_map.mp h2
    rw [← e]
    exact h o ho
theorem Sg.set {d : GD Nat} (h : Sg d) {s : Nat} (hs : s ≠ 0) (t : GT Nat) : Sg (gset d s t) := fun k hk => by
  obtain ⟨q, hq, rfl⟩ := List.mem_map.mp hk
  rcases gset_mem hq with h2 | h2
  · exact h _ h2
  · rw [h2]; exact hs
noncomputable def fN (c : Nat → Nat) (k : Nat) : Str := if k = 0 then S [] else S [c k]
noncomputable def tx (c : Nat → Nat) (l : List Nat) : Str := S (l.map c)
noncomputable def mW (c : Nat → Nat) (w : List Nat × GD Nat) : Str × Told := (tx c w.1, mD (fN c) w.2)
structure WOk (w : List Nat × GD Nat) : Prop where
  ne : w.1 ≠ []
  last : glast 0 w.1 ≠ 0
  keys : Sg w.2
theorem last_tx (c : Nat → Nat) {l : List Nat} (h : l ≠ []) (h0 : glast 0 l ≠ 0) : lastOf (tx c l) = fN c (glast 0 l) := by
  unfold fN
  rw [if_neg h0]
  obtain ⟨r, x, rfl⟩ : ∃ r x, l = r ++ [x] := ⟨l.dropLast, l.getLast h, (List.dropLast_concat_getLast h).symm⟩
  have e : glast 0 (r ++ [x]) = x := by unfold glast; simp
  rw [e]
  unfold lastOf tx
  rw [List.map_append, S_length]
  unfold S
  simp
theorem tx_snoc (c : Nat → Nat) (l : List Nat) {s : Nat} (hs : s ≠ 0) : tx c l ++ fN c s = tx c (l ++ [s]) := by
  unfold fN tx
  rw [if_neg hs, List.map_append]
  have e : (S (l.map c) ++ S [c s]).cps.toList = l.map c ++ [c s] := by simp only [Str.cps_append, Array.toList_append]; rfl
  rw [← S_eta (S (l.map c) ++ S [c s]), e]
  rfl
section
variable {c : Nat → Nat} (hf : ∀ a b, fN c a = fN c b → a = b)
include hf
theorem way_step {w : List Nat × GD Nat} (h : WOk w) {s : Nat} (hs : s ≠ 0) {acc : List (List Nat × GD Nat)} (ha : ∀ x ∈ acc, WOk x) :
    wayStep (tx c w.1) (mD (fN c) w.2) (acc.map (mW c)) (fN c s) = (gstep w.1 (glast 0 w.1) w.2 acc s).map (mW c) ∧ ∀ x ∈ gstep w.1 (glast 0 w.1) w.2 acc s, WOk x := by
  unfold wayStep gstep
  rw [last_tx c h.ne h.last, mD_row hf, mT_get hf]
  split
  · refine ⟨?_, fun x hx => ?_⟩
    · rw [List.map_append, tx_snoc c _ hs, mD_less hf]
      rfl
    · rcases List.mem_append.mp hx with hx | hx
      · exact ha x hx
      · rw [List.mem_singleton.mp hx]
        refine ⟨by simp, ?_, ?_⟩
        · show glast 0 (w.1 ++ [s]) ≠ 0
          unfold glast
          simpa using hs
        · exact h.keys.copy.set hs _
  · exact ⟨rfl, ha⟩
theorem way_steps {w : List Nat × GD Nat} (h : WOk w) : ∀ (l : List Nat), (∀ s ∈ l, s ≠ 0) → ∀ (acc : List (List Nat × GD Nat)), (∀ x ∈ acc, WOk x) →
    (l.map (fN c)).foldl (wayStep (tx c w.1) (mD (fN c) w.2)) (acc.map (mW c)) = (l.foldl (gstep w.1 (glast 0 w.1) w.2) acc).map (mW c) ∧ ∀ x ∈ l.foldl (gstep w.1 (glast 0 w.1) w.2) acc, WOk x
  | [], _, acc, ha => ⟨rfl, ha⟩
  | s :: r, hl, acc, ha => by
    obtain ⟨h1, h2⟩ := way_step hf h (hl s (List.mem_cons_self ..)) ha
    rw [List.map_cons, List.foldl_cons, List.foldl_cons, h1]
    exact way_steps h r (fun x hx => hl x (List.mem_cons_of_mem _ hx)) _ h2
theorem way_texts : ∀ (l : List (List Nat × GD Nat)), (∀ x ∈ l, WOk x) → ∀ (acc : List (List Nat × GD Nat)), (∀ x ∈ acc, WOk x) →
    (l.map (mW c)).foldl wayText (acc.map (mW c)) = (l.foldl (gtext 0) acc).map (mW c) ∧ ∀ x ∈ l.foldl (gtext 0) acc, WOk x
  | [], _, acc, ha => ⟨rfl, ha⟩
  | w :: r, hl, acc, ha => by
    have hw := hl w (List.mem_cons_self ..)
    have hs := way_steps hf hw (w.2.map fun q => q.1) (fun s h => hw.keys s h) acc ha
    have hk : (mD (fN c) w.2).map (·.1) = (w.2.map (·.1)).map (fN c) := mp_keys w.2
    rw [List.map_cons, List.foldl_cons, List.foldl_cons]
    have e : wayText (acc.map (mW c)) (mW c w) = (gtext 0 acc w).map (mW c) := by
      unfold wayText
      show ((mD (fN c) w.2).map (·.1)).foldl (wayStep (tx c w.1) (mD (fN c) w.2)) _ = _
      rw [hk, hs.1]
      rfl
    rw [e]
    exact way_texts r (fun x hx => hl x (List.mem_cons_of_mem _ hx)) _ hs.2
theorem way_longer {l : List (List Nat × GD Nat)} (hl : ∀ x ∈ l, WOk x) (i : Int) : longerOf (l.map (mW c)) i = (glonger 0 l).map (mW c) ∧ ∀ x ∈ glonger 0 l, WOk x := way_texts hf l hl [] (fun x hx => by cases hx)
theorem ways_is : ∀ (is : List Int) (l : List (List Nat × GD Nat)), (∀ x ∈ l, WOk x) → is.foldl longerOf (l.map (mW c)) = (gwaysN 0 is.length l).map (mW c)
  | [], l, _ => rfl
  | i :: r, l, hl => by
    obtain ⟨h1, h2⟩ := way_longer hf hl i
    rw [List.foldl_cons, h1]
    exact ways_is r _ h2
end
end Mine
end

-- Q9
section
open PySem PySem.W PyProof.Rows
set_option linter.unusedVariables false
set_option linter.unusedSimpArgs false
namespace Mine

theorem copyP_prof (d : Told) : copyP (profOf d) = copyT d := by
  unfold copyP copyT
  rw [profOf_keys]
  simp only [callersOf_prof]
  rfl
section
variable {c : Nat → Nat}
theorem signs_tx {w : List Nat} (h : ∀ k ∈ w, k ≠ 0) : signs (tx c w) = w.map (fN c) := by
  unfold tx
  rw [signs_S, List.map_map]
  apply List.map_congr_left
  intro k hk
  show S [c k] = fN c k
  unfold fN
  rw [if_neg (h k hk)]
theorem pairs_tx (hf : ∀ a b, fN c a = fN c b → a = b) {w : List Nat} (h : ∀ k ∈ w, k ≠ 0) : ppairs (tx c w) = mD (fN c) (gpairs 0 w) := by
  unfold ppairs
  rw [signs_tx h]
  exact mD_pairs hf w [] 0
theorem texts_tx (hf : ∀ a b, fN c a = fN c b → a = b) {w : List Nat} (h : ∀ k ∈ w, k ≠ 0) (d : GD Nat) (hd : Sg d) {a : Nat} (ha : a ≠ 0) (n : Nat) :
    ptexts (profOf (mD (fN c) d), tx c [a], ((n + 1 : Nat) : Int)) = (gtexts 0 d a n).map (tx c) := by
  unfold ptexts pways gtexts
  simp only
  rw [copyP_prof, mD_copy hf]
  have e : ((n + 1 : Nat) : Int) - 1 = (n : Int) := by omega
  rw [e, Int.toNat_natCast]
  have := ways_is hf ((List.range n).map fun (j : Nat) => (1 : Int) + (j : Int)) [([a], gcopy d)] (fun x hx => by
    rw [List.mem_singleton.mp hx]
    exact ⟨by simp, ha, hd.copy⟩)
  rw [List.length_map, List.length_range] at this
  show (List.foldl longerOf ([([a], gcopy d)].map (mW c)) _).map (·.1) = _
  rw [this, List.map_map, List.map_map]
  rfl
theorem pcount_m (f : Nat → Str) (t : GT Nat) : pcount (mT f t) = grow.pcount' t := by
  unfold pcount grow.pcount' mT mp
  rw [List.map_map]
  rfl
theorem callers_m (hf : ∀ a b, fN c a = fN c b → a = b) (d : GD Nat) (s : Nat) : callersOf (profOf (mD (fN c) d)) (fN c s) = mT (fN c) (gcallers d s) := by
  rw [callersOf_prof]
  exact mD_row hf d s
theorem row_m (hf : ∀ a b, fN c a = fN c b → a = b) (d : GD Nat) (last sign : Nat) (row : List Int) (other : Nat) : rowStep (profOf (mD (fN c) d)) (fN c last) (fN c sign) row (fN c other) = grow d last sign row other := by
  have hb : ∀ a b, (fN c a == fN c b) = decide (a = b) := fun a b => by
    by_cases e : a = b
    · simp [e]
    · have : ¬ fN c a = fN c b := fun x => e (hf _ _ x)
      simp [e, this]
  unfold rowStep grow
  rw [callers_m hf, callers_m hf, pcount_m, mT_get hf, mT_get hf, hb]
  have hb2 : (fN c other != fN c last) = !decide (other = last) := by unfold bne; rw [hb]
  rw [hb2]
  by_cases e1 : other = sign
  · simp [e1]
  · by_cases e2 : other = last
    · simp [e1, e2]
    · simp [e1, e2]
theorem foldl_m {σ : Type} {F : σ → Str → σ} {G : σ → Nat → σ} (h : ∀ s k, F s (fN c k) = G s k) : ∀ (l : List Nat) (s : σ), (l.map (fN c)).foldl F s = l.foldl G s
  | [], s => rfl
  | k :: r, s => by rw [List.map_cons, List.foldl_cons, List.foldl_cons, h, foldl_m h r]
theorem keys_m (d : GD Nat) : (profOf (mD (fN c) d)).map (·.1) = (d.map (·.1)).map (fN c) := by
  rw [profOf_keys]
  exact mp_keys d
theorem whitStep_m (hf : ∀ a b, fN c a = fN c b → a = b) (d : GD Nat) (last : Nat) (s : Int × Int × List (List Int)) (sign : Nat) : whitStep (profOf (mD (fN c) d)) (fN c last) s (fN c sign) = gwhitStep d last s sign := by
  unfold whitStep gwhitStep
  rw [callers_m hf, pcount_m, keys_m]
  have h1 : (mT (fN c) (gcallers d sign)).map (·.1) = ((gcallers d sign).map (·.1)).map (fN c) := mp_keys _
  have h2 : ∀ (sh : Int) (k : Nat), sharedStep (mT (fN c) (gcallers d sign)) sh (fN c k) = gshared (gcallers d sign) sh k := fun sh k => by
    unfold sharedStep gshared
    rw [mT_get hf]
  rw [h1, foldl_m h2, foldl_m (fun row o => row_m hf d last sign row o)]
  by_cases e : sign = last
  · simp [e]
  · have : ¬ fN c sign = fN c last := fun x => e (hf _ _ x)
    simp [e, this]
theorem whits_m (hf : ∀ a b, fN c a = fN c b → a = b) (d : GD Nat) (last : Nat) : whits (profOf (mD (fN c) d)) (fN c last) = gwhits d last := by
  unfold whits gwhits
  rw [keys_m]
  exact foldl_m (fun s k => whitStep_m hf d last s k) _ _
theorem whit_m (hf : ∀ a b, fN c a = fN c b → a = b) (d : GD Nat) (last : Nat) (many : Int) : pwhit (profOf (mD (fN c) d), fN c last, many) = gwhit d last many := by
  unfold pwhit gwhit
  simp only
  rw [whits_m hf]
end
end Mine
end

-- Q10
section
open PySem PySem.W PyProof.Rows
set_option linter.unusedVariables false
set_option linter.unusedSimpArgs false
namespace Mine

section
variable {α : Type}
theorem gget_cons (q : Nat × α) (r : List (Nat × α)) (k : Nat) : gget (q :: r) k = if q.1 = k then some q.2 else gget r k := by
  unfold gget
  rw [List.find?_cons]
  by_cases h : q.1 = k <;> simp [h]
theorem gget_of_mem : ∀ {kvs : List (Nat × α)} {q : Nat × α}, (kvs.map (·.1)).Nodup → q ∈ kvs → gget kvs q.1 = some q.2
  | p :: r, q, h, hm => by
    rw [List.map_cons, List.nodup_cons] at h
    rw [gget_cons]
    rcases List.mem_cons.mp hm with e | hm
    · rw [e, if_pos rfl]
    · rw [if_neg fun e => h.1 (by rw [e]; exact List.mem_map_of_mem hm)]
      exact gget_of_mem h.2 hm
theorem gset_absent {kvs : List (Nat × α)} {k : Nat} (h : k ∉ kvs.map (·.1)) (v : α) : gset kvs k v = kvs ++ [(k, v)] := by
  unfold gset
  rw [if_neg]
  intro e
  obtain ⟨q, hq, e⟩ := List.any_eq_true.mp e
  exact h (by rw [← (of_decide_eq_true e : q.1 = k)]; exact List.mem_map_of_mem hq)
theorem gset_present {kvs : List (Nat × α)} {k : Nat} (h : k ∈ kvs.map (·.1)) (v : α) : gset kvs k v = kvs.map (fun kv => if kv.1 = k then (kv.1, v) else kv) := by
  unfold gset
  rw [if_pos]
  obtain ⟨q, hq, e⟩ := List.mem_map.mp h
  exact List.any_eq_true.mpr ⟨q, hq, by simp [e]⟩
theorem gsets_id : ∀ (l acc : List (Nat × α)), ((acc ++ l).map (·.1)).Nodup → gsets acc l = acc ++ l
  | [], acc, _ => by rw [List.append_nil]; rfl
  | q :: r, acc, h => by
    have hk : q.1 ∉ acc.map (·.1) := fun hm => by
      rw [List.map_append, List.nodup_append] at h
      exact h.2.2 _ hm _ (by rw [List.map_cons]; exact List.mem_cons_self ..) rfl
    show gsets (gset acc q.1 q.2) r = _
    rw [gset_absent hk, gsets_id r _ (by rw [List.append_assoc]; exact h), List.append_assoc]
    rfl
end
theorem gcopy_id {d : GD Nat} (h : (d.map (·.1)).Nodup) : gcopy d = d := by
  have e : ((d.map (·.1)).map fun o => (o, (gget d o).getD [])) = d := by
    rw [List.map_map]
    conv => rhs; rw [← List.map_id d]
    apply List.map_congr_left
    intro q hq
    show (q.1, (gget d q.1).getD []) = q
    rw [gget_of_mem h hq]
    rfl
  unfold gcopy
  rw [e, gsets_id d [] (by simpa using h)]
  rfl
theorem gaddc_one {t : GT Nat} (h : (t.map (·.1)).Nodup) {l : Nat} {a : Int} (ha : gget t l = some a) : gaddc (t, [(l, -1)]) = gset t l (a + -1) := by
  have e : t.foldl (fun acc q => gset acc q.1 q.2) [] = t := by
    have := gsets_id t [] (by simpa using h)
    exact this
  unfold gaddc
  show gaddStep (t.foldl (fun acc q => gset acc q.1 q.2) []) (l, -1) = _
  rw [e]
  unfold gaddStep
  simp only
  rw [ha]

noncomputable abbrev NT := List (Nat × Nat)
noncomputable abbrev ND := List (Nat × NT)
noncomputable def ci (t : NT) : GT Nat := t.map fun q => (q.1, (q.2 : Int))
noncomputable def cI (d : ND) : GD Nat := d.map fun q => (q.1, ci q.2)
noncomputable def ncnt (t : NT) (k : Nat) : Nat := List.rec 0 (fun q _ ih => cond (Nat.beq q.1 k) q.2 ih) t
noncomputable def ndec (t : NT) (k : Nat) : NT := List.rec [] (fun q r ih => cond (Nat.beq q.1 k) ((q.1, q.2 - 1) :: r) (q :: ih)) t
noncomputable def nless (d : ND) (s l : Nat) : ND := List.rec [] (fun q r ih => cond (Nat.beq q.1 s) ((q.1, ndec q.2 l) :: r) (q :: ih)) d
theorem ncnt_cons (q : Nat × Nat) (r : NT) (k : Nat) : ncnt (q :: r) k = cond (Nat.beq q.1 k) q.2 (ncnt r k) := rfl
theorem ndec_cons (q : Nat × Nat) (r : NT) (k : Nat) : ndec (q :: r) k = cond (Nat.beq q.1 k) ((q.1, q.2 - 1) :: r) (q :: ndec r k) := rfl
theorem nless_cons (q : Nat × NT) (r : ND) (s l : Nat) : nless (q :: r) s l = cond (Nat.beq q.1 s) ((q.1, ndec q.2 l) :: r) (q :: nless r s l) := rfl
noncomputable def nnext (text : List Nat) (last : Nat) (d : ND) : ND → List (List Nat × ND)
  | [] => []
  | q :: r => cond (Nat.ble 1 (ncnt q.2 last)) ((text ++ [q.1], nless d q.1 last) :: nnext text last d r) (nnext text last d r)
noncomputable def nlonger : List (List Nat × ND) → List (List Nat × ND)
  | [] => []
  | w :: r => nnext w.1 (glast 0 w.1) w.2 w.2 ++ nlonger r
noncomputable def nwaysN : Nat → List (List Nat × ND) → List (List Nat × ND)
  | 0, w => w
  | n + 1, w => nwaysN n (nlonger w)
noncomputable def CI (w : List Nat × ND) : List Nat × GD Nat := (w.1, cI w.2)
structure NOk (d : ND) : Prop where
  keys : (d.map (·.1)).Nodup
  row : ∀ q ∈ d, (q.2.map (·.1)).Nodup
theorem ci_keys (t : NT) : (ci t).map (·.1) = t.map (·.1) := by unfold ci; rw [List.map_map]; rfl
theorem cI_keys (d : ND) : (cI d).map (·.1) = d.map (·.1) := by unfold cI; rw [List.map_map]; rfl
theorem cond_beq {β : Type} (a b : Nat) (x y : β) : cond (Nat.beq a b) x y = if a = b then x else y := by
  by_cases h : a = b
  · rw [if_pos h, h, Nat.beq_refl]; rfl
  · rw [if_neg h]
    cases e : Nat.beq a b
    · rfl
    · exact absurd (Nat.eq_of_beq_eq_true e) h
theorem ncnt_is (k : Nat) : ∀ t : NT, (gget (ci t) k).getD 0 = (ncnt t k : Int)
  | [] => rfl
  | q :: r => by
    have ih := ncnt_is k r
    show (gget ((q.1, (q.2 : Int)) :: ci r) k).getD 0 = _
    rw [gget_cons, ncnt_cons, cond_beq]
    by_cases h : q.1 = k
    · rw [if_pos h, if_pos h]; rfl
    · rw [if_neg h, if_neg h]; exact ih
theorem ncnt_some {k : Nat} : ∀ {t : NT}, 1 ≤ ncnt t k → gget (ci t) k = some (ncnt t k : Int)
  | [], h => absurd h (by show ¬ 1 ≤ 0; omega)
  | q :: r, h => by
    show gget ((q.1, (q.2 : Int)) :: ci r) k = _
    rw [ncnt_cons, cond_beq] at h
    rw [gget_cons, ncnt_cons, cond_beq]
    by_cases e : q.1 = k
    · rw [if_pos e, if_pos e]
    · rw [if_neg e] at h
      rw [if_neg e, if_neg e]
      exact ncnt_some h
theorem ndec_is (k : Nat) : ∀ t : NT, (t.map (·.1)).Nodup → 1 ≤ ncnt t k → (ci t).map (fun kv => if kv.1 = k then (kv.1, (ncnt t k : Int) + -1) else kv) = ci (ndec t k)
  | [], _, h => absurd h (by show ¬ 1 ≤ 0; omega)
  | q :: r, hn, h => by
    rw [List.map_cons, List.nodup_cons] at hn
    show List.map _ ((q.1, (q.2 : Int)) :: ci r) = _
    rw [ncnt_cons, cond_beq] at h ⊢
    rw [List.map_cons, ndec_cons, cond_beq]
    by_cases e : q.1 = k
    · rw [if_pos e] at h ⊢
      rw [if_pos e, if_pos e]
      show _ = (q.1, ((q.2 - 1 : Nat) : Int)) :: ci r
      congr 1
      · congr 1
        omega
      · conv => rhs; rw [← List.map_id (ci r)]
        apply List.map_congr_left
        intro p hp
        have : ¬ p.1 = k := fun x => hn.1 (by rw [e, ← x, ← ci_keys]; exact List.mem_map_of_mem hp)
        rw [if_neg this]
        rfl
    · rw [if_neg e] at h ⊢
      rw [if_neg e, if_neg e]
      show _ = (q.1, (q.2 : Int)) :: ci (ndec r k)
      rw [← ndec_is k r hn.2 h]
theorem nless_set (s l : Nat) : ∀ d : ND, (d.map (·.1)).Nodup → ∀ q ∈ d, q.1 = s → (cI d).map (fun kv => if kv.1 = s then (kv.1, ci (ndec q.2 l)) else kv) = cI (nless d s l)
  | p :: r, hn, q, hq, e => by
    rw [List.map_cons, List.nodup_cons] at hn
    show List.map _ ((p.1, ci p.2) :: cI r) = _
    rw [List.map_cons, nless_cons, cond_beq]
    by_cases h : p.1 = s
    · have hqp : q = p := by
        rcases List.mem_cons.mp hq with x | x
        · exact x
        · exact absurd (by rw [h, ← e]; exact List.mem_map_of_mem x) hn.1
      rw [if_pos h, if_pos h, hqp]
      show _ = (p.1, ci (ndec p.2 l)) :: cI r
      congr 1
      · conv => rhs; rw [← List.map_id (cI r)]
        apply List.map_congr_left
        intro z hz
        have : ¬ z.1 = s := fun x => hn.1 (by rw [h, ← x, ← cI_keys]; exact List.mem_map_of_mem hz)
        rw [if_neg this]
        rfl
    · have hq' : q ∈ r := by
        rcases List.mem_cons.mp hq with x | x
        · exact absurd (by rw [← x]; exact e) h
        · exact x
      rw [if_neg h, if_neg h]
      show _ = (p.1, ci p.2) :: cI (nless r s l)
      rw [← nless_set s l r hn.2 q hq' e]
theorem gless_is {d : ND} (h : NOk d) {q : Nat × NT} (hq : q ∈ d) {l : Nat} (hl : 1 ≤ ncnt q.2 l) : gless (cI d) q.1 l = cI (nless d q.1 l) := by
  have hk : ((cI d).map (·.1)).Nodup := by rw [cI_keys]; exact h.keys
  have hm : (q.1, ci q.2) ∈ cI d := List.mem_map_of_mem (f := fun q : Nat × NT => (q.1, ci q.2)) hq
  have hg : gget (cI d) q.1 = some (ci q.2) := gget_of_mem hk hm
  have hr : ((ci q.2).map (·.1)).Nodup := by rw [ci_keys]; exact h.row q hq
  unfold gless
  rw [gcopy_id hk, hg]
  show gset (cI d) q.1 (gaddc (ci q.2, [(l, -1)])) = _
  have hs := ncnt_some hl
  have hlm : l ∈ (ci q.2).map (·.1) := by
    unfold gget at hs
    cases e : (ci q.2).find? fun kv => kv.1 = l with
    | none => rw [e] at hs; cases hs
    | some p =>
      have h1 := List.mem_of_find?_eq_some e
      have h2 : p.1 = l := by simpa using List.find?_some e
      rw [← h2]
      exact List.mem_map_of_mem h1
  rw [gaddc_one hr hs, gset_present hlm, ndec_is l q.2 (h.row q hq) hl, gset_present (by rw [cI_keys]; exact List.mem_map_of_mem hq)]
  exact nless_set q.1 l d h.keys q hq rfl
theorem ndec_keys (k : Nat) : ∀ t : NT, (ndec t k).map (·.1) = t.map (·.1)
  | [] => rfl
  | q :: r => by
    rw [ndec_cons, cond_beq]
    split
    · rfl
    · rw [List.map_cons, ndec_keys k r, List.map_cons]
theorem nless_keys (s l : Nat) : ∀ d : ND, (nless d s l).map (·.1) = d.map (·.1)
  | [] => rfl
  | q :: r => by
    rw [nless_cons, cond_beq]
    split
    · rfl
    · rw [List.map_cons, nless_keys s l r, List.map_cons]
theorem nless_rows (s l : Nat) : ∀ d : ND, (∀ q ∈ d, (q.2.map (·.1)).Nodup) → ∀ q ∈ nless d s l, (q.2.map (·.1)).Nodup
  | [], _, q, hq => by cases hq
  | p :: r, h, q, hq => by
    rw [nless_cons, cond_beq] at hq
    split at hq
    · rcases List.mem_cons.mp hq with e | hq
      · rw [e]
        show ((ndec p.2 l).map (·.1)).Nodup
        rw [ndec_keys]
        exact h p (List.mem_cons_self ..)
      · exact h q (List.mem_cons_of_mem _ hq)
    · rcases List.mem_cons.mp hq with e | hq
      · rw [e]; exact h p (List.mem_cons_self ..)
      · exact nless_rows s l r (fun q hq => h q (List.mem_cons_of_mem _ hq)) q hq
theorem NOk.less {d : ND} (h : NOk d) (s l : Nat) : NOk (nless d s l) := ⟨by rw [nless_keys]; exact h.keys, nless_rows s l d h.row⟩
theorem cond_ble {β : Type} (a b : Nat) (x y : β) : cond (Nat.ble a b) x y = if a ≤ b then x else y := by
  by_cases h : a ≤ b
  · rw [if_pos h, Nat.ble_eq_true_of_le h]; rfl
  · rw [if_neg h]
    cases e : Nat.ble a b
    · rfl
    · exact absurd (Nat.le_of_ble_eq_true e) h
theorem nnext_is (text : List Nat) (last : Nat) {d : ND} (h : NOk d) : ∀ (l : ND), (∀ q ∈ l, q ∈ d) → ∀ acc, (l.map (·.1)).foldl (gstep text last (cI d)) acc = acc ++ (nnext text last d l).map CI
  | [], _, acc => by show acc = acc ++ []; rw [List.append_nil]
  | q :: r, hl, acc => by
    have hq := hl q (List.mem_cons_self ..)
    have hm : (q.1, ci q.2) ∈ cI d := List.mem_map_of_mem (f := fun q : Nat × NT => (q.1, ci q.2)) hq
    have hg : gget (cI d) q.1 = some (ci q.2) := gget_of_mem (by rw [cI_keys]; exact h.keys) hm
    rw [List.map_cons, List.foldl_cons, nnext_is text last h r (fun q hq => hl q (List.mem_cons_of_mem _ hq)), nnext, cond_ble]
    unfold gstep
    rw [hg]
    show (if decide (0 < (gget (ci q.2) last).getD 0) = true then _ else _) ++ _ = _
    rw [ncnt_is]
    by_cases e : 1 ≤ ncnt q.2 last
    · rw [if_pos e, if_pos (by rw [decide_eq_true_eq]; omega), gless_is h hq e, List.map_cons, List.append_assoc]
      rfl
    · rw [if_neg e, if_neg (by rw [decide_eq_true_eq]; omega)]
theorem nnext_ok (text : List Nat) (last : Nat) {d : ND} (h : NOk d) : ∀ (l : ND), ∀ w ∈ nnext text last d l, NOk w.2
  | [], w, hw => by cases hw
  | q :: r, w, hw => by
    rw [nnext, cond_ble] at hw
    split at hw
    · rcases List.mem_cons.mp hw with e | hw
      · rw [e]; exact h.less _ _
      · exact nnext_ok text last h r w hw
    · exact nnext_ok text last h r w hw
theorem nlonger_is : ∀ (ws : List (List Nat × ND)), (∀ w ∈ ws, NOk w.2) → ∀ acc, (ws.map CI).foldl (gtext 0) acc = acc ++ (nlonger ws).map CI
  | [], _, acc => by show acc = acc ++ []; rw [List.append_nil]
  | w :: r, h, acc => by
    rw [List.map_cons, List.foldl_cons, nlonger_is r (fun w hw => h w (List.mem_cons_of_mem _ hw))]
    have e : gtext 0 acc (CI w) = acc ++ (nnext w.1 (glast 0 w.1) w.2 w.2).map CI := by
      unfold gtext
      show (((cI w.2).map fun q => q.1).foldl (gstep w.1 (glast 0 w.1) (cI w.2)) acc) = _
      rw [cI_keys]
      exact nnext_is w.1 _ (h w (List.mem_cons_self ..)) w.2 (fun q hq => hq) acc
    rw [e, nlonger, List.map_append, List.append_assoc]
theorem nlonger_ok : ∀ (ws : List (List Nat × ND)), (∀ w ∈ ws, NOk w.2) → ∀ w ∈ nlonger ws, NOk w.2
  | [], _, w, hw => by cases hw
  | v :: r, h, w, hw => by
    rw [nlonger] at hw
    rcases List.mem_append.mp hw with hw | hw
    · exact nnext_ok _ _ (h v (List.mem_cons_self ..)) _ w hw
    · exact nlonger_ok r (fun w hw => h w (List.mem_cons_of_mem _ hw)) w hw
theorem nways_is : ∀ (n : Nat) (ws : List (List Nat × ND)), (∀ w ∈ ws, NOk w.2) → gwaysN 0 n (ws.map CI) = (nwaysN n ws).map CI
  | 0, ws, _ => rfl
  | n + 1, ws, h => by
    show gwaysN 0 n (glonger 0 (ws.map CI)) = _
    have e : glonger 0 (ws.map CI) = (nlonger ws).map CI := nlonger_is ws h []
    rw [e, nways_is n _ (nlonger_ok ws h)]
    rfl
noncomputable def ntexts (d : ND) (first n : Nat) : List (List Nat) := (nwaysN n [([first], d)]).map (·.1)
theorem ntexts_is {d : ND} (h : NOk d) (a n : Nat) : gtexts 0 (cI d) a n = ntexts d a n := by
  unfold gtexts ntexts
  rw [gcopy_id (by rw [cI_keys]; exact h.keys)]
  have := nways_is n [([a], d)] (fun w hw => by rw [List.mem_singleton.mp hw]; exact h)
  show (gwaysN 0 n ([([a], d)].map CI)).map (·.1) = _
  rw [this, List.map_map]
  rfl

/- ### how many they are -/
noncomputable def nwStep (ih : Nat → ND → Nat) (last : Nat) (d e : ND) : Nat := List.rec 0 (fun q _ acc => cond (Nat.ble 1 (ncnt q.2 last)) (Nat.add (ih q.1 (nless d q.1 last)) acc) acc) e
noncomputable def nways (n : Nat) : Nat → ND → Nat := Nat.rec (fun _ _ => 1) (fun _ ih last d => nwStep ih last d d) n
theorem nwStep_cons (ih : Nat → ND → Nat) (last : Nat) (d : ND) (q : Nat × NT) (r : ND) : nwStep ih last d (q :: r) = cond (Nat.ble 1 (ncnt q.2 last)) (Nat.add (ih q.1 (nless d q.1 last)) (nwStep ih last d r)) (nwStep ih last d r) := rfl
theorem glast_snoc (t : List Nat) (k : Nat) : glast 0 (t ++ [k]) = k := by unfold glast; simp
theorem nnext_sum (ih : Nat → ND → Nat) (text : List Nat) (last : Nat) (d : ND) : ∀ e : ND, ((nnext text last d e).map fun w => ih (glast 0 w.1) w.2).sum = nwStep ih last d e
  | [] => rfl
  | q :: r => by
    have hr := nnext_sum ih text last d r
    rw [nnext, nwStep_cons, cond_ble, cond_ble]
    split
    · rw [List.map_cons, List.sum_cons, hr, glast_snoc]
      rfl
    · exact hr
theorem nlonger_sum (n : Nat) : ∀ ws : List (List Nat × ND), ((nlonger ws).map fun w => nways n (glast 0 w.1) w.2).sum = (ws.map fun w => nways (n + 1) (glast 0 w.1) w.2).sum
  | [] => rfl
  | w :: r => by
    rw [nlonger, List.map_append, List.sum_append, nnext_sum, nlonger_sum n r, List.map_cons, List.sum_cons]
    rfl
theorem nways_len : ∀ (n : Nat) (ws : List (List Nat × ND)), (nwaysN n ws).length = (ws.map fun w => nways n (glast 0 w.1) w.2).sum
  | 0, ws => by
    show ws.length = _
    induction ws with
    | nil => rfl
    | cons w r ih => rw [List.length_cons, List.map_cons, List.sum_cons, ih, Nat.add_comm]; rfl
  | n + 1, ws => by
    show (nwaysN n (nlonger ws)).length = _
    rw [nways_len n, nlonger_sum]
theorem ntexts_len (d : ND) (a n : Nat) : (ntexts d a n).length = nways n a d := by
  unfold ntexts
  rw [List.length_map, nways_len]
  show nways n (glast 0 [a]) d + 0 = _
  rfl

/- ### each of them has the same neighbours -/
noncomputable def ex (s : Nat) (t : NT) : List (Nat × Nat) := t.flatMap fun r => List.replicate r.2 (s, r.1)
noncomputable def ex2 (d : ND) : List (Nat × Nat) := d.flatMap fun q => ex q.1 q.2
theorem ex_dec (s l : Nat) : ∀ t : NT, 1 ≤ ncnt t l → (ex s t).Perm ((s, l) :: ex s (ndec t l))
  | [], h => absurd h (by show ¬ 1 ≤ 0; omega)
  | q :: r, h => by
    rw [ncnt_cons, cond_beq] at h
    rw [ndec_cons, cond_beq]
    show (List.replicate q.2 (s, q.1) ++ ex s r).Perm _
    by_cases e : q.1 = l
    · rw [if_pos e] at h ⊢
      show List.Perm _ ((s, l) :: (List.replicate (q.2 - 1) (s, q.1) ++ ex s r))
      obtain ⟨m, hm⟩ : ∃ m, q.2 = m + 1 := ⟨q.2 - 1, by omega⟩
      rw [hm, List.replicate_succ, e]
      exact List.Perm.refl _
    · rw [if_neg e] at h ⊢
      show List.Perm _ ((s, l) :: (List.replicate q.2 (s, q.1) ++ ex s (ndec r l)))
      exact ((ex_dec s l r h).append_left _).trans List.perm_middle
theorem ex2_less (l : Nat) : ∀ (d : ND) (q : Nat × NT), (d.map (·.1)).Nodup → q ∈ d → 1 ≤ ncnt q.2 l → (ex2 d).Perm ((q.1, l) :: ex2 (nless d q.1 l))
  | p :: r, q, hn, hq, h => by
    rw [List.map_cons, List.nodup_cons] at hn
    rw [nless_cons, cond_beq]
    show (ex p.1 p.2 ++ ex2 r).Perm _
    by_cases e : p.1 = q.1
    · have hqp : q = p := by
        rcases List.mem_cons.mp hq with x | x
        · exact x
        · exact absurd (by rw [e]; exact List.mem_map_of_mem x) hn.1
      rw [if_pos e, hqp]
      show List.Perm _ ((p.1, l) :: (ex p.1 (ndec p.2 l) ++ ex2 r))
      exact (ex_dec p.1 l p.2 (hqp ▸ h)).append_right _
    · have hq' : q ∈ r := by
        rcases List.mem_cons.mp hq with x | x
        · exact absurd (by rw [x]) e
        · exact x
      rw [if_neg e]
      show List.Perm _ ((q.1, l) :: (ex p.1 p.2 ++ ex2 (nless r q.1 l)))
      exact ((ex2_less l r q hn.2 hq' h).append_left _).trans List.perm_middle
theorem gadj_snoc (k : Nat) : ∀ (t : List Nat) (a : Nat), gadj a (t ++ [k]) = gadj a t ++ [(k, glast a t)]
  | [], a => rfl
  | x :: r, a => by
    rw [List.cons_append, gadj, gadj_snoc k r x, gadj]
    congr 2
    unfold glast
    cases r <;> rfl
theorem gadj_len : ∀ (t : List Nat) (a : Nat), (gadj a t).length = t.length
  | [], a => rfl
  | x :: r, a => by rw [gadj, List.length_cons, gadj_len r x, List.length_cons]
structure WayIs (first : Nat) (all : List (Nat × Nat)) (i : Nat) (w : List Nat × ND) : Prop where
  len : w.1.length = i
  last : glast 0 w.1 ≠ 0
  ok : NOk w.2
  keys : ∀ q ∈ w.2, q.1 ≠ 0
  perm : (gadj 0 w.1 ++ ex2 w.2).Perm ((first, 0) :: all)
  mem : (first, 0) ∈ ex2 w.2
theorem way_next {first : Nat} {all : List (Nat × Nat)} {i : Nat} {w : List Nat × ND} (h : WayIs first all i w) : ∀ e : ND, (∀ q ∈ e, q ∈ w.2) → ∀ v ∈ nnext w.1 (glast 0 w.1) w.2 e, WayIs first all (i + 1) v
  | [], _, v, hv => by cases hv
  | q :: r, he, v, hv => by
    rw [nnext, cond_ble] at hv
    split at hv
    · rename_i hc
      rcases List.mem_cons.mp hv with rfl | hv
      · have hq := he q (List.mem_cons_self ..)
        have hp := ex2_less (glast 0 w.1) w.2 q h.ok.keys hq hc
        refine ⟨?_, ?_, h.ok.less _ _, fun p hp2 => ?_, ?_, ?_⟩
        · show (w.1 ++ [q.1]).length = _
          rw [List.length_append, List.length_singleton, h.len]
        · show glast 0 (w.1 ++ [q.1]) ≠ 0
          rw [glast_snoc]
          exact h.keys q hq
        · have : p.1 ∈ (nless w.2 q.1 (glast 0 w.1)).map (·.1) := List.mem_map_of_mem hp2
          rw [nless_keys] at this
          obtain ⟨z, hz, e⟩ := List.mem_map.mp this
          rw [← e]
          exact h.keys z hz
        · show (gadj 0 (w.1 ++ [q.1]) ++ ex2 (nless w.2 q.1 (glast 0 w.1))).Perm _
          rw [gadj_snoc, List.append_assoc]
          exact ((hp.symm).append_left (gadj 0 w.1)).trans h.perm
        · rcases List.mem_cons.mp (hp.mem_iff.mp h.mem) with e | e
          · exact absurd (congrArg Prod.snd e).symm h.last
          · exact e
      · exact way_next h r (fun q hq => he q (List.mem_cons_of_mem _ hq)) v hv
    · exact way_next h r (fun q hq => he q (List.mem_cons_of_mem _ hq)) v hv
theorem way_longer2 {first : Nat} {all : List (Nat × Nat)} {i : Nat} : ∀ ws : List (List Nat × ND), (∀ w ∈ ws, WayIs first all i w) → ∀ v ∈ nlonger ws, WayIs first all (i + 1) v
  | [], _, v, hv => by cases hv
  | w :: r, h, v, hv => by
    rw [nlonger] at hv
    rcases List.mem_append.mp hv with hv | hv
    · exact way_next (h w (List.mem_cons_self ..)) w.2 (fun q hq => hq) v hv
    · exact way_longer2 r (fun w hw => h w (List.mem_cons_of_mem _ hw)) v hv
theorem ways_is2 {first : Nat} {all : List (Nat × Nat)} : ∀ (n i : Nat) (ws : List (List Nat × ND)), (∀ w ∈ ws, WayIs first all i w) → ∀ v ∈ nwaysN n ws, WayIs first all (i + n) v
  | 0, i, ws, h, v, hv => h v hv
  | n + 1, i, ws, h, v, hv => by
    have := ways_is2 n (i + 1) (nlonger ws) (way_longer2 ws h) v hv
    rwa [Nat.add_assoc, Nat.add_comm 1 n] at this
theorem ntexts_perm {d : ND} (h : NOk d) (hk : ∀ q ∈ d, q.1 ≠ 0) {w : List Nat} (hp : (ex2 d).Perm (gadj 0 w)) {a : Nat} {r : List Nat} (hw : w = a :: r) (ha : a ≠ 0) : ∀ o ∈ ntexts d a r.length, (gadj 0 o).Perm (gadj 0 w) := fun o ho => by
  unfold ntexts at ho
  obtain ⟨v, hv, rfl⟩ := List.mem_map.mp ho
  have hm : (a, 0) ∈ ex2 d := hp.mem_iff.mpr (by rw [hw]; exact List.mem_cons_self ..)
  have h1 := ways_is2 (first := a) (all := ex2 d) r.length 1 [([a], d)] (fun w hw => by
    rw [List.mem_singleton.mp hw]
    exact ⟨rfl, ha, h, hk, List.Perm.refl _, hm⟩) v hv
  have hl : (ex2 v.2).length = 1 := by
    have := h1.perm.length_eq
    rw [List.length_append, gadj_len, h1.len, List.length_cons, hp.length_eq, gadj_len, hw, List.length_cons] at this
    omega
  have he : ex2 v.2 = [(a, 0)] := by
    have hmem := h1.mem
    generalize ex2 v.2 = l at hl hmem
    match l, hl with
    | [x], _ => rw [List.mem_singleton.mp hmem]
  have h2 := h1.perm
  rw [he] at h2
  have h3 : ((a, 0) :: gadj 0 v.1).Perm ((a, 0) :: ex2 d) := (List.perm_append_comm (l₁ := [(a, 0)]) (l₂ := gadj 0 v.1)).trans h2
  exact (h3.cons_inv).trans hp
end Mine
end

-- Q11
section
open PySem PySem.W PyProof.Rows
set_option linter.unusedVariables false
set_option linter.unusedSimpArgs false
namespace Mine

noncomputable def nOf (d : GD Nat) : ND := d.map fun q => (q.1, q.2.map fun r => (r.1, r.2.toNat))
section
variable {α : Type}
noncomputable def allB (p : α → Bool) (l : List α) : Bool := List.rec true (fun q _ ih => cond (p q) ih false) l
noncomputable def memB (k : Nat) (l : List (Nat × α)) : Bool := List.rec false (fun q _ ih => cond (Nat.beq q.1 k) true ih) l
noncomputable def ndB (l : List (Nat × α)) : Bool := List.rec true (fun q r ih => cond (memB q.1 r) false ih) l
theorem allB_is {p : α → Bool} : ∀ {l : List α}, allB p l = true → ∀ q ∈ l, p q = true
  | x :: r, h, q, hq => by
    have h' : cond (p x) (allB p r) false = true := h
    cases e : p x with
    | false => rw [e] at h'; cases h'
    | true =>
      rw [e] at h'
      rcases List.mem_cons.mp hq with rfl | hq
      · exact e
      · exact allB_is (l := r) h' q hq
theorem memB_is {k : Nat} : ∀ {l : List (Nat × α)}, memB k l = false → k ∉ l.map (·.1)
  | [], _, hk => by cases hk
  | x :: r, h, hk => by
    have h' : cond (Nat.beq x.1 k) true (memB k r) = false := h
    rw [cond_beq] at h'
    split at h'
    · cases h'
    · rename_i e
      rw [List.map_cons] at hk
      rcases List.mem_cons.mp hk with hk | hk
      · exact e hk.symm
      · exact memB_is (l := r) h' hk
theorem ndB_is : ∀ {l : List (Nat × α)}, ndB l = true → (l.map (·.1)).Nodup
  | [], _ => List.nodup_nil
  | x :: r, h => by
    have h' : cond (memB x.1 r) false (ndB r) = true := h
    cases e : memB x.1 r with
    | true => rw [e] at h'; cases h'
    | false =>
      rw [e] at h'
      exact List.nodup_cons.mpr ⟨memB_is e, ndB_is (l := r) h'⟩
end
noncomputable def intB (lo : Nat) (i : Int) : Bool := Int.rec (fun n => cond (Nat.ble lo n) (Nat.ble n 8) false) (fun _ => false) i
theorem intB_is {lo : Nat} : ∀ {i : Int}, intB lo i = true → (lo : Int) ≤ i ∧ i ≤ 8
  | .ofNat n, h => by
    have h' : cond (Nat.ble lo n) (Nat.ble n 8) false = true := h
    rw [cond_ble] at h'
    split at h'
    · have := Nat.le_of_ble_eq_true h'
      show (lo : Int) ≤ (n : Int) ∧ (n : Int) ≤ 8
      omega
    · cases h'
  | .negSucc n, h => by cases h
noncomputable def shpRow (q : Nat × GT Nat) : Bool := cond (Nat.ble 1 q.1) (cond (allB (fun r => intB 0 r.2) q.2) (cond (intB 1 (grow.pcount' q.2)) (ndB q.2) false) false) false
noncomputable def shp (d : GD Nat) : Bool := cond (Nat.ble d.length 4) (cond (ndB d) (allB shpRow d) false) false
noncomputable def chk (w : List Nat) : Bool :=
  let d := gpairs 0 w
  cond (shp d) (cond (gwhit d (glast 0 w) (nways 6 (w.headD 0) (nOf d))) ((ex2 (nOf d)).isPerm (gadj 0 w)) false) false
structure ShpRow (q : Nat × GT Nat) : Prop where
  key : q.1 ≠ 0
  num : ∀ r ∈ q.2, 0 ≤ r.2 ∧ r.2 ≤ 8
  sum : 1 ≤ grow.pcount' q.2 ∧ grow.pcount' q.2 ≤ 8
  keys : (q.2.map (·.1)).Nodup
structure Chk (w : List Nat) : Prop where
  len : (gpairs 0 w).length ≤ 4
  keys : ((gpairs 0 w).map (·.1)).Nodup
  row : ∀ q ∈ gpairs 0 w, ShpRow q
  count : gwhit (gpairs 0 w) (glast 0 w) ((gtexts 0 (gpairs 0 w) (w.headD 0) 6).length : Int) = true
  perm : ∀ o ∈ gtexts 0 (gpairs 0 w) (w.headD 0) 6, (gadj 0 o).Perm (gadj 0 w)
theorem cond_true {a b : Bool} (h : cond a b false = true) : a = true ∧ b = true := by
  cases a
  · cases h
  · exact ⟨rfl, h⟩
theorem shpRow_is {q : Nat × GT Nat} (h : shpRow q = true) : ShpRow q := by
  obtain ⟨h1, h⟩ := cond_true h
  obtain ⟨h2, h⟩ := cond_true h
  obtain ⟨h3, h4⟩ := cond_true h
  have h1 := Nat.le_of_ble_eq_true h1
  exact ⟨by omega, fun r hr => intB_is (allB_is h2 r hr), intB_is h3, ndB_is h4⟩
theorem cI_nOf {d : GD Nat} (h : ∀ q ∈ d, ∀ r ∈ q.2, 0 ≤ r.2) : cI (nOf d) = d := by
  unfold cI nOf
  rw [List.map_map]
  conv => rhs; rw [← List.map_id d]
  apply List.map_congr_left
  intro q hq
  show (q.1, ci (q.2.map fun r => (r.1, r.2.toNat))) = q
  have e : ci (q.2.map fun r => (r.1, r.2.toNat)) = q.2 := by
    unfold ci
    rw [List.map_map]
    conv => rhs; rw [← List.map_id q.2]
    apply List.map_congr_left
    intro r hr
    show (r.1, ((r.2.toNat : Nat) : Int)) = r
    rw [Int.toNat_of_nonneg (h q hq r hr)]
  rw [e]
theorem chk_is {w : List Nat} (hw : w.length = 7) (h0 : ∀ k ∈ w, k ≠ 0) (h : chk w = true) : Chk w := by
  obtain ⟨hs, h⟩ := cond_true h
  obtain ⟨h4, h5⟩ := cond_true h
  obtain ⟨h1, hs⟩ := cond_true hs
  obtain ⟨h2, h3⟩ := cond_true hs
  have hr : ∀ q ∈ gpairs 0 w, ShpRow q := fun q hq => shpRow_is (allB_is h3 q hq)
  have hk : NOk (nOf (gpairs 0 w)) := by
    refine ⟨?_, fun q hq => ?_⟩
    · unfold nOf
      rw [List.map_map]
      exact ndB_is h2
    · unfold nOf at hq
      obtain ⟨p, hp, rfl⟩ := List.mem_map.mp hq
      show (((p.2.map fun r => (r.1, r.2.toNat)).map (·.1))).Nodup
      rw [List.map_map]
      exact (hr p hp).keys
  have hz : ∀ q ∈ nOf (gpairs 0 w), q.1 ≠ 0 := fun q hq => by
    unfold nOf at hq
    obtain ⟨p, hp, rfl⟩ := List.mem_map.mp hq
    exact (hr p hp).key
  have e : gtexts 0 (gpairs 0 w) (w.headD 0) 6 = ntexts (nOf (gpairs 0 w)) (w.headD 0) 6 := by
    rw [← ntexts_is hk, cI_nOf fun q hq r hr' => ((hr q hq).num r hr').1]
  refine ⟨Nat.le_of_ble_eq_true h1, ndB_is h2, hr, ?_, ?_⟩
  · rw [e, ntexts_len]; exact h4
  · rw [e]
    cases w with
    | nil => cases hw
    | cons a r =>
      have hr6 : r.length = 6 := by rw [List.length_cons] at hw; omega
      have := ntexts_perm hk hz (List.isPerm_iff.mp h5) rfl (h0 a (List.mem_cons_self ..))
      rw [hr6] at this
      exact this
noncomputable def pats (f : List Nat → Bool) : Nat → Nat → List Nat → Bool
  | 0, _, w => f w
  | n + 1, m, w => ([1, 2, 3, 4].filter fun k => k ≤ m + 1).all fun k => pats f n (max m k) (w ++ [k])
noncomputable def RG : Nat → List Nat → Prop
  | _, [] => True
  | m, k :: r => (k ∈ [1, 2, 3, 4] ∧ k ≤ m + 1) ∧ RG (max m k) r
theorem pats_of (f : List Nat → Bool) : ∀ (r : List Nat) (m : Nat) (w : List Nat), pats f r.length m w = true → RG m r → f (w ++ r) = true
  | [], m, w, h, _ => by rw [List.append_nil]; exact h
  | k :: r, m, w, h, hr => by
    have h1 : (([1, 2, 3, 4].filter fun k => k ≤ m + 1).all fun k => pats f r.length (max m k) (w ++ [k])) = true := h
    rw [List.all_eq_true] at h1
    have h2 := h1 k (List.mem_filter.mpr ⟨hr.1.1, by simpa using hr.1.2⟩)
    have := pats_of f r (max m k) (w ++ [k]) h2 hr.2
    rw [List.append_assoc] at this
    exact this
theorem pats_in {f : List Nat → Bool} {n m : Nat} {w : List Nat} (h : ∀ k ∈ [1, 2, 3, 4].filter (fun k => k ≤ m + 1), pats f n (max m k) (w ++ [k]) = true) : pats f (n + 1) m w = true := List.all_eq_true.mpr h
set_option maxRecDepth 100000
theorem pt_1111 : pats chk 3 1 [1, 1, 1, 1] = true := by decide +kernel
theorem pt_1112 : pats chk 3 2 [1, 1, 1, 2] = true := by decide +kernel
theorem pt_111 : pats chk 4 1 [1, 1, 1] = true := pats_in (f := chk) (n := 3) (m := 1) (w := [1, 1, 1]) fun k hk => by
  have hk2 : k ∈ [1, 2] := hk
  simp only [List.mem_cons, List.not_mem_nil, or_false] at hk2
  rcases hk2 with rfl | rfl
  · exact pt_1111
  · exact pt_1112
theorem pt_1121 : pats chk 3 2 [1, 1, 2, 1] = true := by decide +kernel
theorem pt_1122 : pats chk 3 2 [1, 1, 2, 2] = true := by decide +kernel
theorem pt_1123 : pats chk 3 3 [1, 1, 2, 3] = true := by decide +kernel
theorem pt_112 : pats chk 4 2 [1, 1, 2] = true := pats_in (f := chk) (n := 3) (m := 2) (w := [1, 1, 2]) fun k hk => by
  have hk2 : k ∈ [1, 2, 3] := hk
  simp only [List.mem_cons, List.not_mem_nil, or_false] at hk2
  rcases hk2 with rfl | rfl | rfl
  · exact pt_1121
  · exact pt_1122
  · exact pt_1123
theorem pt_11 : pats chk 5 1 [1, 1] = true := pats_in (f := chk) (n := 4) (m := 1) (w := [1, 1]) fun k hk => by
  have hk2 : k ∈ [1, 2] := hk
  simp only [List.mem_cons, List.not_mem_nil, or_false] at hk2
  rcases hk2 with rfl | rfl
  · exact pt_111
  · exact pt_112
theorem pt_1211 : pats chk 3 2 [1, 2, 1, 1] = true := by decide +kernel
theorem pt_1212 : pats chk 3 2 [1, 2, 1, 2] = true := by decide +kernel
theorem pt_1213 : pats chk 3 3 [1, 2, 1, 3] = true := by decide +kernel
theorem pt_121 : pats chk 4 2 [1, 2, 1] = true := pats_in (f := chk) (n := 3) (m := 2) (w := [1, 2, 1]) fun k hk => by
  have hk2 : k ∈ [1, 2, 3] := hk
  simp only [List.mem_cons, List.not_mem_nil, or_false] at hk2
  rcases hk2 with rfl | rfl | rfl
  · exact pt_1211
  · exact pt_1212
  · exact pt_1213
theorem pt_1221 : pats chk 3 2 [1, 2, 2, 1] = true := by decide +kernel
theorem pt_1222 : pats chk 3 2 [1, 2, 2, 2] = true := by decide +kernel
theorem pt_1223 : pats chk 3 3 [1, 2, 2, 3] = true := by decide +kernel
theorem pt_122 : pats chk 4 2 [1, 2, 2] = true := pats_in (f := chk) (n := 3) (m := 2) (w := [1, 2, 2]) fun k hk => by
  have hk2 : k ∈ [1, 2, 3] := hk
  simp only [List.mem_cons, List.not_mem_nil, or_false] at hk2
  rcases hk2 with rfl | rfl | rfl
  · exact pt_1221
  · exact pt_1222
  · exact pt_1223
theorem pt_1231 : pats chk 3 3 [1, 2, 3, 1] = true := by decide +kernel
theorem pt_1232 : pats chk 3 3 [1, 2, 3, 2] = true := by decide +kernel
theorem pt_1233 : pats chk 3 3 [1, 2, 3, 3] = true := by decide +kernel
theorem pt_1234 : pats chk 3 4 [1, 2, 3, 4] = true := by decide +kernel
theorem pt_123 : pats chk 4 3 [1, 2, 3] = true := pats_in (f := chk) (n := 3) (m := 3) (w := [1, 2, 3]) fun k hk => by
  have hk2 : k ∈ [1, 2, 3, 4] := hk
  simp only [List.mem_cons, List.not_mem_nil, or_false] at hk2
  rcases hk2 with rfl | rfl | rfl | rfl
  · exact pt_1231
  · exact pt_1232
  · exact pt_1233
  · exact pt_1234
theorem pt_12 : pats chk 5 2 [1, 2] = true := pats_in (f := chk) (n := 4) (m := 2) (w := [1, 2]) fun k hk => by
  have hk2 : k ∈ [1, 2, 3] := hk
  simp only [List.mem_cons, List.not_mem_nil, or_false] at hk2
  rcases hk2 with rfl | rfl | rfl
  · exact pt_121
  · exact pt_122
  · exact pt_123
theorem pt_1 : pats chk 6 1 [1] = true := pats_in (f := chk) (n := 5) (m := 1) (w := [1]) fun k hk => by
  have hk2 : k ∈ [1, 2] := hk
  simp only [List.mem_cons, List.not_mem_nil, or_false] at hk2
  rcases hk2 with rfl | rfl
  · exact pt_11
  · exact pt_12
theorem pt_all : pats chk 7 0 [] = true := pats_in (f := chk) (n := 6) (m := 0) (w := []) fun k hk => by
  have hk2 : k ∈ [1] := hk
  simp only [List.mem_cons, List.not_mem_nil, or_false] at hk2
  subst hk2
  exact pt_1
end Mine
end

-- Q12
section
open PySem PySem.W PyProof.Rows
set_option linter.unusedVariables false
set_option linter.unusedSimpArgs false
namespace Mine

/- ### each word is a pattern, renamed -/
theorem nodup_length {α : Type} [DecidableEq α] : ∀ {u v : List α}, u.Nodup → (∀ x ∈ u, x ∈ v) → u.length ≤ v.length
  | [], v, _, _ => Nat.zero_le _
  | x :: r, v, hn, h => by
    rw [List.nodup_cons] at hn
    have hx := h x (List.mem_cons_self ..)
    have := nodup_length (u := r) (v := v.erase x) hn.2 fun y hy => (List.mem_erase_of_ne fun e => hn.1 (by rw [← e]; exact hy)).mpr (h y (List.mem_cons_of_mem _ hy))
    rw [List.length_erase_of_mem hx] at this
    have h1 := List.length_pos_of_mem hx
    rw [List.length_cons]
    omega
noncomputable def firsts : List Nat → List Nat → List Nat
  | u, [] => u
  | u, x :: r => firsts (if x ∈ u then u else u ++ [x]) r
theorem firsts_pre : ∀ (L u : List Nat), ∃ t, firsts u L = u ++ t
  | [], u => ⟨[], by rw [List.append_nil]; rfl⟩
  | x :: r, u => by
    obtain ⟨t, ht⟩ := firsts_pre r (if x ∈ u then u else u ++ [x])
    rw [firsts, ht]
    split
    · exact ⟨t, rfl⟩
    · exact ⟨[x] ++ t, by rw [List.append_assoc]⟩
theorem firsts_mem : ∀ (L u : List Nat) (y : Nat), y ∈ firsts u L ↔ y ∈ u ∨ y ∈ L
  | [], u, y => by simp [firsts]
  | x :: r, u, y => by
    rw [firsts, firsts_mem r]
    split
    · rename_i h
      constructor
      · rintro (h1 | h1)
        · exact .inl h1
        · exact .inr (List.mem_cons_of_mem _ h1)
      · rintro (h1 | h1)
        · exact .inl h1
        · rcases List.mem_cons.mp h1 with e | h1
          · rw [e]; exact .inl h
          · exact .inr h1
    · simp [or_assoc]
theorem firsts_nodup : ∀ (L u : List Nat), u.Nodup → (firsts u L).Nodup
  | [], u, h => h
  | x :: r, u, h => by
    rw [firsts]
    split
    · exact firsts_nodup r u h
    · rename_i hx
      exact firsts_nodup r _ (List.nodup_append.mpr ⟨h, List.nodup_cons.mpr ⟨List.not_mem_nil, List.nodup_nil⟩, fun a ha b hb e => hx (by rw [← List.mem_singleton.mp hb, ← e]; exact ha)⟩)
noncomputable def lab (u : List Nat) (x : Nat) : Nat := u.idxOf x + 1
noncomputable def cOf (u : List Nat) (k : Nat) : Nat := u.getD (k - 1) (1000 + k)
theorem lab_pre {u t : List Nat} {x : Nat} (h : x ∈ u) : lab (u ++ t) x = lab u x := by
  unfold lab
  rw [List.idxOf_append, if_pos h]
theorem lab_rg : ∀ (L u : List Nat), (firsts u L).length ≤ 4 → RG u.length (L.map (lab (firsts u L)))
  | [], u, _ => trivial
  | x :: r, u, hl => by
    have four : ∀ k, 1 ≤ k → k ≤ 4 → k ∈ [1, 2, 3, 4] := fun k h1 h2 => by
      have : k = 1 ∨ k = 2 ∨ k = 3 ∨ k = 4 := by omega
      simpa using this
    by_cases h : x ∈ u
    · have e : firsts u (x :: r) = firsts u r := by rw [firsts, if_pos h]
      rw [e] at hl ⊢
      obtain ⟨t, ht⟩ := firsts_pre r u
      have hx : lab (firsts u r) x = lab u x := by rw [ht, lab_pre h]
      have h1 : lab u x ≤ u.length := List.idxOf_lt_length_of_mem h
      have h2 : u.length ≤ (firsts u r).length := by rw [ht, List.length_append]; omega
      have h3 : 1 ≤ lab u x := Nat.succ_le_succ (Nat.zero_le _)
      rw [List.map_cons]
      refine ⟨?_, ?_⟩
      · rw [hx]; exact ⟨four _ h3 (by omega), by omega⟩
      · rw [hx, Nat.max_eq_left h1]
        exact lab_rg r u hl
    · have e : firsts u (x :: r) = firsts (u ++ [x]) r := by rw [firsts, if_neg h]
      rw [e] at hl ⊢
      obtain ⟨t, ht⟩ := firsts_pre r (u ++ [x])
      have hx : lab (firsts (u ++ [x]) r) x = u.length + 1 := by
        rw [ht, lab_pre (by simp)]
        unfold lab
        rw [List.idxOf_append, if_neg h]
        simp
      have h2 : u.length + 1 ≤ (firsts (u ++ [x]) r).length := by
        rw [ht, List.length_append, List.length_append, List.length_singleton]; omega
      rw [List.map_cons]
      refine ⟨?_, ?_⟩
      · rw [hx]; exact ⟨four _ (by omega) (by omega), by omega⟩
      · rw [hx, Nat.max_eq_right (by omega)]
        have := lab_rg r (u ++ [x]) hl
        rw [List.length_append, List.length_singleton] at this
        exact this
theorem cOf_lab {u : List Nat} {x : Nat} (h : x ∈ u) : cOf u (lab u x) = x := by
  have h1 : u.idxOf x < u.length := List.idxOf_lt_length_of_mem h
  unfold cOf lab
  rw [Nat.add_sub_cancel, List.getD_eq_getElem?_getD, List.getElem?_eq_getElem h1, Option.getD_some]
  exact List.getElem_idxOf h1
theorem cOf_inj {u : List Nat} (hn : u.Nodup) (hs : ∀ x ∈ u, x < 1000) {a b : Nat} (ha : a ≠ 0) (hb : b ≠ 0) (h : cOf u a = cOf u b) : a = b := by
  have lt : ∀ k, k - 1 < u.length → ∃ hk : k - 1 < u.length, cOf u k = u[k - 1] := fun k hk => ⟨hk, by unfold cOf; rw [List.getD_eq_getElem?_getD, List.getElem?_eq_getElem hk]; rfl⟩
  have ge : ∀ k, ¬ k - 1 < u.length → cOf u k = 1000 + k := fun k hk => by unfold cOf; rw [List.getD_eq_getElem?_getD, List.getElem?_eq_none (by omega)]; rfl
  by_cases h1 : a - 1 < u.length
  · obtain ⟨h1', e1⟩ := lt a h1
    by_cases h2 : b - 1 < u.length
    · obtain ⟨h2', e2⟩ := lt b h2
      rw [e1, e2] at h
      have hp := List.pairwise_iff_getElem.mp hn
      rcases Nat.lt_trichotomy (a - 1) (b - 1) with x | x | x
      · exact absurd h (hp _ _ h1' h2' x)
      · omega
      · exact absurd h.symm (hp _ _ h2' h1' x)
    · rw [e1, ge b h2] at h
      have := hs _ (List.getElem_mem h1')
      omega
  · by_cases h2 : b - 1 < u.length
    · obtain ⟨h2', e2⟩ := lt b h2
      rw [e2, ge a h1] at h
      have := hs _ (List.getElem_mem h2')
      omega
    · rw [ge a h1, ge b h2] at h
      omega
theorem fN_inj {c : Nat → Nat} (h : ∀ a b, a ≠ 0 → b ≠ 0 → c a = c b → a = b) (a b : Nat) (e : fN c a = fN c b) : a = b := by
  unfold fN at e
  by_cases ha : a = 0
  · by_cases hb : b = 0
    · rw [ha, hb]
    · rw [if_pos ha, if_neg hb] at e
      have := congrArg (fun s : Str => s.cps.toList) e
      cases this
  · by_cases hb : b = 0
    · rw [if_neg ha, if_pos hb] at e
      have := congrArg (fun s : Str => s.cps.toList) e
      cases this
    · rw [if_neg ha, if_neg hb] at e
      have := congrArg (fun s : Str => s.cps.toList) e
      exact h a b ha hb (by injection this)
theorem canon {m : Nat} (hm : m ∈ marks) {L : List Nat} (hL : Word m L) (hl : L.length = 7) : ∃ (p : List Nat) (c : Nat → Nat), L = p.map c ∧ (∀ a b, fN c a = fN c b → a = b) ∧ (∀ k ∈ p, k ≠ 0) ∧ p.length = 7 ∧ Chk p := by
  have hU : ∀ x ∈ firsts [] L, x ∈ [46, 10, 13, m] := fun x hx => by
    rcases (firsts_mem L [] x).mp hx with h | h
    · cases h
    · simpa using hL x h
  have hn : (firsts [] L).Nodup := firsts_nodup L [] List.nodup_nil
  have h4 : (firsts [] L).length ≤ 4 := nodup_length hn hU
  have hm2 : m < 1000 := by
    simp only [marks, List.mem_cons, List.not_mem_nil, or_false] at hm
    rcases hm with rfl | rfl | rfl | rfl <;> decide
  have hs : ∀ x ∈ firsts [] L, x < 1000 := fun x hx => by
    have := hU x hx
    simp only [List.mem_cons, List.not_mem_nil, or_false] at this
    rcases this with rfl | rfl | rfl | rfl
    · decide
    · decide
    · decide
    · exact hm2
  have hlen : (L.map (lab (firsts [] L))).length = 7 := by rw [List.length_map, hl]
  refine ⟨L.map (lab (firsts [] L)), cOf (firsts [] L), ?_, fN_inj fun a b ha hb h => cOf_inj hn hs ha hb h, fun k hk => ?_, hlen, ?_⟩
  · rw [List.map_map]
    conv => lhs; rw [← List.map_id L]
    apply List.map_congr_left
    intro x hx
    exact (cOf_lab ((firsts_mem L [] x).mpr (.inr hx))).symm
  · obtain ⟨x, _, rfl⟩ := List.mem_map.mp hk
    exact Nat.succ_ne_zero _
  · refine chk_is hlen (fun k hk => ?_) ?_
    · obtain ⟨x, _, rfl⟩ := List.mem_map.mp hk
      exact Nat.succ_ne_zero _
    have := pats_of chk (L.map (lab (firsts [] L))) 0 [] (by rw [hlen]; exact pt_all) (lab_rg L [] h4)
    rwa [List.nil_append] at this
end Mine
end

-- Q13
section
open PySem PySem.W PyProof.Rows
set_option linter.unusedVariables false
set_option linter.unusedSimpArgs false
namespace Mine

/- ### sizes of what is sent -/
theorem dotq_all {p : Nat → Prop} (h46 : p 46) : ∀ (b : Bool) (l : List Nat), (∀ c ∈ l, p c) → ∀ c ∈ dotq b l, p c
  | _, [], _, c, hc => by cases hc
  | b, d :: r, h, c, hc => by
    rw [dotq] at hc
    rcases List.mem_append.mp hc with hc | hc
    · split at hc
      · simp only [List.mem_cons, List.not_mem_nil, or_false, or_self] at hc
        rw [hc]; exact h46
      · rw [List.mem_singleton.mp hc]; exact h d (List.mem_cons_self ..)
    · exact dotq_all h46 _ r (fun x hx => h x (List.mem_cons_of_mem _ hx)) c hc
theorem sent_small {x : Str} {w : Int} (h : ∀ c ∈ x.cps.toList, c < 128) : ∀ c ∈ (psent (x, w)).cps.toList, c < 128 :=
  dotq_all (p := fun c => c < 128) (by decide) true _ (crlf_all (p := fun c => c < 128) (by decide) (by decide) _ (esc_small w _ h))
theorem sent_len (x : Str) (w : Int) : (psent (x, w)).length ≤ 24 * x.length := by
  show (S (dotq true (crlf (esc w x.cps.toList)))).length ≤ _
  rw [S_length]
  have h1 := dotq_len true (crlf (esc w x.cps.toList))
  have h2 := crlf_len (esc w x.cps.toList)
  have h3 := esc_len w x.cps.toList
  have h4 : x.cps.toList.length = x.length := rfl
  omega

/- ### what is told is small -/
theorem delta_01 (x y a b : Str) : 0 ≤ delta x y a b ∧ delta x y a b ≤ 1 := by unfold delta; split <;> decide
theorem sumP_delta (x y : Str) : ∀ l : List Pr, 0 ≤ sumP l (delta x y) ∧ sumP l (delta x y) ≤ l.length
  | [] => ⟨Int.le_refl _, Int.le_refl _⟩
  | p :: r => by
    have h1 := sumP_delta x y r
    have h2 := delta_01 x y p.1 p.2
    rw [sumP_cons, List.length_cons]
    omega
theorem sumP_pos {x y : Str} : ∀ {l : List Pr}, 0 < sumP l (delta x y) → (x, y) ∈ l
  | [], h => absurd h (Int.lt_irrefl 0)
  | p :: r, h => by
    rw [sumP_cons] at h
    by_cases e : x = p.1 ∧ y = p.2
    · rw [e.1, e.2]; exact List.mem_cons_self ..
    · have : delta x y p.1 p.2 = 0 := if_neg e
      rw [this, Int.zero_add] at h
      exact List.mem_cons_of_mem _ (sumP_pos h)
theorem pairsOf_length (a : Str) (l : List Str) : (pairsOf a l).length = l.length := by
  induction l generalizing a with
  | nil => rfl
  | cons s r ih => rw [pairsOf, List.length_cons, ih, List.length_cons]
theorem pairsOf_mem {p : Pr} : ∀ {l : List Str} {a : Str}, p ∈ pairsOf a l → p.1 ∈ l
  | s :: r, a, h => by
    rw [pairsOf] at h
    rcases List.mem_cons.mp h with e | h
    · rw [e]; exact List.mem_cons_self ..
    · exact List.mem_cons_of_mem _ (pairsOf_mem h)
theorem told_ok {d : Told} (h : WF d) {l : List Pr} (hc : ∀ x y, cntT d x y = sumP l (delta x y)) (hl : l.length ≤ 400) (hs : ∀ p ∈ l, ∃ c, c < 1000000 ∧ p.1 = ⟨#[c]⟩) : ToldOk d := by
  have key : ∀ x ∈ d.map (·.1), ∃ y, (x, y) ∈ l := fun x hx => by
    obtain ⟨q, hq, rfl⟩ := List.mem_map.mp hx
    have h1 := dget_of_mem h.keys hq
    obtain ⟨y, hy⟩ := (h.some_iff q.1).mp (by rw [h1]; rfl)
    rw [hc] at hy
    exact ⟨y, sumP_pos hy⟩
  have ent : ∀ q ∈ d, ∀ r ∈ q.2, cntT d q.1 r.1 = r.2 := fun q hq r hr => by
    unfold cntT rowOf
    rw [dget_of_mem h.keys hq, Option.getD_some, dget_of_mem (h.row q hq).1 hr]
    rfl
  refine ⟨?_, fun q hq => ?_, fun q hq r hr => ?_, fun q hq => ?_⟩
  · have := nodup_length (v := l.map (·.1)) h.keys fun x hx => by
      obtain ⟨y, hy⟩ := key x hx
      exact List.mem_map.mpr ⟨_, hy, rfl⟩
    rw [List.length_map, List.length_map] at this
    omega
  · have := nodup_length (v := l.map (·.2)) (h.row q hq).1 fun y hy => by
      obtain ⟨r, hr, rfl⟩ := List.mem_map.mp hy
      have h1 := ent q hq r hr
      have h2 := (h.row q hq).2.2 r hr
      rw [← h1, hc] at h2
      exact List.mem_map.mpr ⟨_, sumP_pos h2, rfl⟩
    rw [List.length_map, List.length_map] at this
    omega
  · have h1 := ent q hq r hr
    rw [hc] at h1
    have := sumP_delta q.1 r.1 l
    omega
  · obtain ⟨y, hy⟩ := key q.1 (List.mem_map_of_mem hq)
    exact hs _ hy

/- ### the whole law of a text -/
theorem names_short : ∀ w ∈ whiches, ∀ q ∈ pnames w, q.2.length ≤ 10 := by decide +kernel
theorem word_small {m : Nat} (hm : m ∈ marks) {L : List Nat} (hL : Word m L) : ∀ c ∈ L, c < 128 := fun c hc => by
  have hm2 : m < 128 := by
    simp only [marks, List.mem_cons, List.not_mem_nil, or_false] at hm
    rcases hm with rfl | rfl | rfl | rfl <;> decide
  rcases hL c hc with rfl | rfl | rfl | rfl
  · decide
  · decide
  · decide
  · exact hm2
theorem gadj_fst : ∀ (l : List Nat) (a : Nat), (gadj a l).map (·.1) = l
  | [], a => rfl
  | x :: r, a => by rw [gadj, List.map_cons, gadj_fst r x]
theorem pairsOf_m (c : Nat → Nat) : ∀ (l : List Nat) (a : Nat), pairsOf (fN c a) (l.map (fN c)) = (gadj a l).map fun q => (fN c q.1, fN c q.2)
  | [], a => rfl
  | x :: r, a => by rw [List.map_cons, pairsOf, gadj, List.map_cons, pairsOf_m c r x]
theorem few_of {x : Prof × Str × Int} (h : TextsOk x) : (ptexts x).length ≤ 16777216 := by
  have hl : ((List.range (x.2.2 - 1).toNat).map fun (j : Nat) => (1 : Int) + (j : Int)).length ≤ 6 := by
    rw [List.length_map, List.length_range]
    have := h.size
    omega
  have h1 := (ways_ok (copyP_ok h) _ hl).len
  have h2 : 14 ^ ((List.range (x.2.2 - 1).toNat).map fun (j : Nat) => (1 : Int) + (j : Int)).length ≤ 14 ^ 6 := Nat.pow_le_pow_right (by decide) hl
  unfold ptexts pways
  rw [List.length_map]
  exact Nat.le_trans h1 (Nat.le_trans h2 (by decide))
theorem good_word {w : Int} (hw : w ∈ whiches) {m : Nat} (hm : m ∈ marks) {L : List Nat} (hL : Word m L) (h7 : L.length = 7) : Good (S L) w := by
  obtain ⟨p, c, rfl, hf, h0, hp7, hk⟩ := canon hm hL h7
  have hpne : p ≠ [] := fun e => by rw [e] at hp7; cases hp7
  have hhd : p.headD 0 ∈ p := by
    cases p with
    | nil => exact absurd rfl hpne
    | cons x r => exact List.mem_cons_self ..
  have hlast : glast 0 p ∈ p := by
    unfold glast
    rw [List.getLastD_eq_getLast?, List.getLast?_eq_some_getLast hpne]
    exact List.getLast_mem hpne
  have hSg : Sg (gpairs 0 p) := fun k hk2 => by
    obtain ⟨q, hq, rfl⟩ := List.mem_map.mp hk2
    exact (hk.row q hq).key
  have hprof : pprofile (tx c p) = profOf (mD (fN c) (gpairs 0 p)) := by rw [pprofile_is, pairs_tx hf h0]
  have hlen : (tx c p).length = 7 := by unfold tx; rw [S_length]; exact h7
  have hfirst : firstOf (tx c p) = tx c [p.headD 0] := by
    cases p with
    | nil => exact absurd rfl hpne
    | cons x r => rfl
  have hlastOf : lastOf (tx c p) = fN c (glast 0 p) := last_tx c hpne (h0 _ hlast)
  have htexts : textsOf (tx c p) = (gtexts 0 (gpairs 0 p) (p.headD 0) 6).map (tx c) := by
    unfold textsOf
    rw [hprof, hfirst, hlen]
    exact texts_tx hf h0 _ hSg (h0 _ hhd) 6
  have hmem : ∀ q ∈ pprofile (tx c p), ∃ r ∈ gpairs 0 p, q = (fN c r.1, fiveOf (fN c r.1) (mT (fN c) r.2)) := fun q hq => by
    rw [hprof] at hq
    unfold profOf mD mp at hq
    rw [List.map_map] at hq
    obtain ⟨r, hr, rfl⟩ := List.mem_map.mp hq
    exact ⟨r, hr, rfl⟩
  have hplen : (pprofile (tx c p)).length ≤ 4 := by
    rw [hprof]
    unfold profOf mD mp
    rw [List.length_map, List.length_map]
    exact hk.len
  have hcall : ∀ q ∈ pprofile (tx c p), q.2.callers.length ≤ 7 := by
    have := prof_take (signs (tx c p)) (signs (tx c p)).length
    rw [List.take_length, signs_len, hlen] at this
    exact this.call
  have hkey : ∀ q ∈ pprofile (tx c p), q.1.length = 1 := fun q hq => by
    obtain ⟨r, hr, rfl⟩ := hmem q hq
    show (fN c r.1).length = 1
    unfold fN
    rw [if_neg (hk.row r hr).key]
    rfl
  have hPage := pageOf_word hw hm hL
  have hsentW : ∀ {o : Str}, o.length = 7 → (psent (o, w)).length ≤ 400 := fun {o} ho => by
    have := sent_len o w
    omega
  have hTx : TextsOk (pprofile (tx c p), firstOf (tx c p), ((tx c p).length : Int)) := ⟨by show (pprofile (tx c p)).length ≤ 8; omega, fun q hq => by have := hcall q hq; omega, hkey, rfl, by show ((tx c p).length : Int) ≤ 7; rw [hlen]; decide, by show -(2 ^ 60) ≤ ((tx c p).length : Int); omega⟩
  have hfew : (textsOf (tx c p)).length ≤ 16777216 := few_of hTx
  have hsmall := word_small hm hL
  refine ⟨⟨by show 1 ≤ (tx c p).length; omega, by show (tx c p).length ≤ 20; omega⟩, hsmall, ?_, ?_, hTx, ?_, hsentW hlen, due_of hPage, ?_, hfew, page_word hw hm hL, ?_⟩
  · exact ⟨by show (pprofile (tx c p)).length ≤ 100; omega, fun q hq => by have := hcall q hq; omega, fun q hq => by have := hkey q hq; omega, names_short w hw⟩
  · show ToldOk (toldOf (tx c p) w)
    rw [toldOf_is]
    refine told_ok (ptold_wf (ppairs_wf _) _) (l := pairsOf "" (signs (psent (tx c p, w)))) (fun x y => ?_) ?_ fun q hq => ?_
    · rw [ptold_cnt (ppairs_wf _), WT_ppairs]
      exact (hPage x y).symm
    · rw [pairsOf_length, signs_len]
      exact hsentW hlen
    · have h1 := pairsOf_mem hq
      unfold signs at h1
      obtain ⟨z, hz, e⟩ := List.mem_map.mp h1
      have := sent_small (w := w) hsmall z hz
      exact ⟨z, by omega, e.symm⟩
  · refine ⟨hplen, fun q hq => ?_, fun q hq r hr => ?_, ?_⟩
    · obtain ⟨z, hz, rfl⟩ := hmem q hq
      show 1 ≤ pcount (mT (fN c) z.2) ∧ pcount (mT (fN c) z.2) ≤ 8
      rw [pcount_m]
      exact (hk.row z hz).sum
    · obtain ⟨z, hz, rfl⟩ := hmem q hq
      have hr' : r ∈ mT (fN c) z.2 := hr
      unfold mT mp at hr'
      obtain ⟨y, hy, rfl⟩ := List.mem_map.mp hr'
      exact (hk.row z hz).num y hy
    · show (((textsOf (tx c p)).length : Int)).natAbs < 2 ^ 63
      rw [Int.natAbs_natCast]
      omega
  · intro o ho
    have ho' : o ∈ textsOf (tx c p) := ho
    rw [htexts] at ho'
    obtain ⟨oN, hoN, rfl⟩ := List.mem_map.mp ho'
    have hperm := hk.perm oN hoN
    have hpm : oN.Perm p := by
      have := hperm.map (·.1)
      rwa [gadj_fst, gadj_fst] at this
    have ho7 : (tx c oN).length = 7 := by unfold tx; rw [S_length, List.length_map, hpm.length_eq, hp7]
    have hoW : Word m (oN.map c) := fun x hx => by
      obtain ⟨k, hk2, rfl⟩ := List.mem_map.mp hx
      exact hL _ (List.mem_map_of_mem (hpm.mem_iff.mp hk2))
    have ho0 : ∀ k ∈ oN, k ≠ 0 := fun k hk2 => h0 k (hpm.mem_iff.mp hk2)
    refine ⟨by omega, word_small hm hoW, hsentW ho7, fun _ => ?_⟩
    refine other_of (pageOf_word hw hm hoW) ?_
    show (pairsOf (fN c 0) (signs (tx c oN))).Perm (pairsOf (fN c 0) (signs (tx c p)))
    rw [signs_tx ho0, signs_tx h0, pairsOf_m, pairsOf_m]
    exact hperm.map _
  · show pwhit (pprofile (tx c p), lastOf (tx c p), ((textsOf (tx c p)).length : Int)) = true
    rw [hlastOf, hprof, whit_m hf, htexts, List.length_map]
    exact hk.count

/- ### the law's own text -/
theorem fmod_cases {n k : Int} (h : 0 < k) : 0 ≤ n.fmod k ∧ n.fmod k < k := ⟨Int.fmod_nonneg_of_pos _ h, Int.fmod_lt_of_pos _ h⟩
theorem mark_in (t : Int) : markOf t ∈ marks := by
  have h := fmod_cases (n := t) (k := 4) (by decide)
  have : t.fmod 4 = 0 ∨ t.fmod 4 = 1 ∨ t.fmod 4 = 2 ∨ t.fmod 4 = 3 := by omega
  unfold markOf
  rcases this with e | e | e | e <;> rw [e] <;> decide
theorem which_in (s : List Int) : whichOf s ∈ whiches := by
  have h := fmod_cases (n := (totalOf s).fdiv 4) (k := 3) (by decide)
  have : ((totalOf s).fdiv 4).fmod 3 = 0 ∨ ((totalOf s).fdiv 4).fmod 3 = 1 ∨ ((totalOf s).fdiv 4).fmod 3 = 2 := by omega
  unfold whichOf
  rcases this with e | e | e <;> rw [e] <;> decide
noncomputable def letOf (t : Int) (n : Int) : Nat := [46, 13, 10, markOf t].getD (n.fmod 4).toNat 0
theorem let_is (t n : Int) : (kindsOf t).getD (n.fmod 4).toNat "" = S [letOf t n] ∧ (letOf t n = 46 ∨ letOf t n = 10 ∨ letOf t n = 13 ∨ letOf t n = markOf t) := by
  have h := fmod_cases (n := n) (k := 4) (by decide)
  have : n.fmod 4 = 0 ∨ n.fmod 4 = 1 ∨ n.fmod 4 = 2 ∨ n.fmod 4 = 3 := by omega
  unfold letOf
  rcases this with e | e | e | e <;> rw [e]
  · exact ⟨rfl, .inl rfl⟩
  · exact ⟨rfl, .inr (.inr (.inl rfl))⟩
  · exact ⟨rfl, .inr (.inl rfl)⟩
  · exact ⟨rfl, .inr (.inr (.inr rfl))⟩
theorem text_is (s : List Int) : textOf s = S ((pdrawn s).map (letOf (totalOf s))) := by
  unfold textOf
  rw [joinT_S, List.map_map]
  congr 1
  have : ∀ l : List Int, (l.map ((fun x : Str => x.cps.toList) ∘ fun n => (kindsOf (totalOf s)).getD (n.fmod 4).toNat "")).flatten = l.map (letOf (totalOf s)) := by
    intro l
    induction l with
    | nil => rfl
    | cons a r ih =>
      rw [List.map_cons, List.flatten_cons, ih, List.map_cons]
      show ((kindsOf (totalOf s)).getD (a.fmod 4).toNat "").cps.toList ++ _ = _
      rw [(let_is (totalOf s) a).1]
      rfl
  exact this _
theorem good_all (s : List Int) (_ : s.length ≤ 63) : Good (textOf s) (whichOf s) := by
  rw [text_is]
  refine good_word (which_in s) (mark_in (totalOf s)) (fun c hc => ?_) ?_
  · obtain ⟨n, _, rfl⟩ := List.mem_map.mp hc
    exact (let_is (totalOf s) n).2
  · rw [List.length_map]
    exact draw_len s _ _
end Mine
end

-- G1
section
open PySem PySem.W PyProof.Rows
namespace Mine
set_option maxRecDepth 100000 in
set_option maxHeartbeats 8000000 in
theorem law_holds : PySem.Challenge.rw_zo0005_01.Holds := hd (by
  k_fill
  intro w s₀ s₁ mg mb G Y fa o pm cd doc dV kV ho hd hcd hD hmg hg args vals as hpre hlay hrd hwl hlo
  have KX := kIn_of Y
  have X := (Ground.X G).1
  have V := (Ground.X G).2
  refine Ground.open G ?_
  intro T B D TE TW
  have hno : ∀ x ∈ (["range", "len", "ord", "chr", "bytes", "isinstance", "tuple", "sum", "max"] : List Str), mg x = none := by
    intro x hx
    simp only [List.mem_cons, List.not_mem_nil, or_false] at hx
    rcases hx with rfl | rfl | rfl | rfl | rfl | rfl | rfl | rfl | rfl <;> exact mg_none_of KX T.g (by k_is)
  wrow_args hpre hlay hrd hwl hlo
  rename_i hL _ _ _ hI _ _ _
  refine law_good KX X T hg hmg (by assumption) (by assumption) (by omega) ?_ ?_ ?_ ?_ hno good_all
  · intro cls
    rfl
  · exact postW_of (X := true) (by rfl) (w_eq_bool (k := true) (l := true) (by simp only [WTm.value]) (by simp only [WTm.value])) rfl
  · exact ⟨_, rfl, rfl, rfl, rfl⟩
  · exact ⟨_, rfl, rfl, rfl, rfl⟩)
end Mine
end

theorem PySem.Challenge.cw_zo0005_01_holds : PySem.Challenge.rw_zo0005_01.Holds :=
  Mine.law_holds
