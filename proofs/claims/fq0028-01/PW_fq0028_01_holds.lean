import PyProof.Rows.All
import Wide.All
import OpenK.AllK
import Wide.FinOn
import Open.Head
import PyProof.StationsW
import KE.KLam
import KE.KSortTup
import PyProof.WalksPairs
import Lean
import PySem.Challenge.RW_fq0028_01
set_option Elab.async false
/-! M1 -/
section
open PySem PySem.W PySem.Calls PyProof.Rows
set_option maxRecDepth 100000
set_option linter.all false
set_option linter.unusedVariables false
set_option linter.unusedSimpArgs false
namespace Mine

/-- the program -/
abbrev P : Program := PySem.Challenge.pw_fq0028_01
abbrev Vars := List (Str × Value)
abbrev Ent := Addr × (Obj → Prop)
abbrev Led := List Ent

structure Hp (B : Heap) (h : Heap) (l : Led) : Prop where
  base : ∀ b o, B.get? b = some o → h.get? b = some o
  own : ∀ p ∈ l, (∃ o, h.get? p.1 = some o ∧ p.2 o) ∧ B.get? p.1 = none
  nd : (l.map (·.1)).Nodup
  gm : (B.get? sysModules).isSome = true

structure Cx where
  w : World
  B : Heap
  os : OsState
  /-- what is known of the generators -/
  gi : Array GenState → Prop

structure St (C : Cx) (l : Led) (s : Shared) : Prop where
  hp : Hp C.B s.heap l
  bare : C.gi s.gens
  os : s.os = C.os

def W {α : Type} (C : Cx) (A : Around) (l : Led) (t : Sem α) (k : α → Led → Prop) (e : Value → Led → Prop) : Prop :=
  ∀ r s, St C (l ++ r) s → wpAny (model P C.w) A t (fun a s' => ∃ l', k a l' ∧ St C (l' ++ r) s') (fun x s' => ∃ l', e x l' ∧ St C (l' ++ r) s') s
def CW (C : Cx) (A : Around) (l : Led) (c : Code) (R : Result → Led → Prop) : Prop :=
  ∀ r s, St C (l ++ r) s → codeAny (model P C.w) A c (fun x s' => ∃ l', R x l' ∧ St C (l' ++ r) s') s

section
variable {α β : Type} {C : Cx} {A : Around} {l : Led} {e : Value → Led → Prop}

/-- l' is told by l -/
def Sub (l' l : Led) : Prop := (l.map (·.1)).Nodup → (l'.map (·.1)).Nodup ∧ ∀ p ∈ l', ∃ q ∈ l, q.1 = p.1 ∧ ∀ o, q.2 o → p.2 o
theorem Sub.refl : Sub l l := fun h => ⟨h, fun p hp => ⟨p, hp, rfl, fun _ x => x⟩⟩
theorem Sub.nil : Sub [] l := fun _ => ⟨List.nodup_nil, fun _ hp => nomatch hp⟩
theorem Sub.skip {x : Ent} {l' : Led} (h : Sub l' l) : Sub l' (x :: l) := fun nd => by
  rw [List.map_cons, List.nodup_cons] at nd
  obtain ⟨a, b⟩ := h nd.2
  exact ⟨a, fun p hp => let ⟨q, hq, z⟩ := b p hp; ⟨q, .tail _ hq, z⟩⟩
/-- an entry, and the rest -/
inductive Pick (x : Ent) : Led → Led → Prop
  | head {r} : Pick x (x :: r) r
  | tail {y r r'} : Pick x r r' → Pick x (y :: r) (y :: r')
theorem Pick.mem {x : Ent} {l r : Led} (h : Pick x l r) : x ∈ l := by
  induction h with
  | head => exact .head _
  | tail _ ih => exact .tail _ ih
theorem Pick.rest {x : Ent} {l r : Led} (h : Pick x l r) : ∀ p ∈ r, p ∈ l := by
  induction h with
  | head => exact fun p hp => .tail _ hp
  | tail _ ih =>
    intro p hp
    rcases List.mem_cons.mp hp with rfl | hp
    · exact .head _
    · exact .tail _ (ih p hp)
theorem Pick.keys {x : Ent} {l r : Led} (h : Pick x l r) (nd : (l.map (·.1)).Nodup) : (r.map (·.1)).Nodup ∧ x.1 ∉ r.map (·.1) := by
  induction h with
  | head => rw [List.map_cons, List.nodup_cons] at nd; exact ⟨nd.2, nd.1⟩
  | tail h ih =>
    rw [List.map_cons, List.nodup_cons] at nd
    obtain ⟨a, b⟩ := ih nd.2
    refine ⟨by rw [List.map_cons, List.nodup_cons]; refine ⟨fun hm => nd.1 ?_, a⟩; obtain ⟨p, hp, hq⟩ := List.mem_map.mp hm; exact hq ▸ List.mem_map_of_mem (h.rest p hp), ?_⟩
    rw [List.map_cons, List.mem_cons, not_or]
    refine ⟨fun q => nd.1 ?_, b⟩
    have := List.mem_map_of_mem (f := (·.1)) h.mem
    rw [q] at this; exact this
theorem Sub.pick {a : Addr} {p p' : Obj → Prop} {l' r : Led} (h : Pick (a, p) l r) (hp : ∀ o, p o → p' o) (hr : Sub l' r) : Sub ((a, p') :: l') l := fun nd => by
  obtain ⟨x, y⟩ := h.keys nd
  obtain ⟨u, v⟩ := hr x
  refine ⟨?_, fun q hq => ?_⟩
  · rw [List.map_cons, List.nodup_cons]
    refine ⟨fun hm => y ?_, u⟩
    obtain ⟨q, hq, e⟩ := List.mem_map.mp hm
    obtain ⟨q', hq', e', _⟩ := v q hq
    show a ∈ _
    have e2 : q.1 = a := e
    rw [← e2, ← e']; exact List.mem_map_of_mem hq'
  · rcases List.mem_cons.mp hq with rfl | hq
    · exact ⟨_, h.mem, rfl, hp⟩
    · obtain ⟨q', hq', z⟩ := v q hq
      exact ⟨q', h.rest _ hq', z⟩
theorem Sub.pick1 {x : Ent} {l' r : Led} (h : Pick x l r) (hr : Sub l' r) : Sub (x :: l') l := Sub.pick h (fun _ q => q) hr

theorem Sub.app {l' : Led} (h : Sub l' l) (r : Led) : Sub (l' ++ r) (l ++ r) := fun nd => by
  have nd' := nd
  rw [List.map_append, List.nodup_append] at nd
  obtain ⟨a, b⟩ := h nd.1
  refine ⟨?_, fun p hp => ?_⟩
  · rw [List.map_append, List.nodup_append]
    refine ⟨a, nd.2.1, fun x hx y hy => ?_⟩
    obtain ⟨p, hp, rfl⟩ := List.mem_map.mp hx
    obtain ⟨q, hq, e, _⟩ := b p hp
    exact nd.2.2 _ (e ▸ List.mem_map_of_mem hq) _ hy
  · rcases List.mem_append.mp hp with hp | hp
    · obtain ⟨q, hq, z⟩ := b p hp
      exact ⟨q, List.mem_append_left _ hq, z⟩
    · exact ⟨p, List.mem_append_right _ hp, rfl, fun _ x => x⟩
theorem Hp.sub {B h : Heap} {l l' : Led} (H : Hp B h l) (S : Sub l' l) : Hp B h l' := by
  obtain ⟨x, y⟩ := S H.nd
  refine ⟨H.base, fun p hp => ?_, x, H.gm⟩
  obtain ⟨q, hq, e, hi⟩ := y p hp
  obtain ⟨⟨o, ho, hP⟩, hB⟩ := H.own q hq
  exact ⟨⟨o, e ▸ ho, hi o hP⟩, e ▸ hB⟩
theorem St.sub {l l' : Led} {s : Shared} (H : St C l s) (S : Sub l' l) : St C l' s := ⟨H.hp.sub S, H.bare, H.os⟩

theorem W.sub {l' : Led} {t : Sem α} {k} (S : Sub l' l) (h : W C A l' t k e) : W C A l t k e := fun r s hs => h r s (hs.sub (S.app r))
theorem CW.sub {l' : Led} {c : Code} {R} (S : Sub l' l) (h : CW C A l' c R) : CW C A l c R := fun r s hs => h r s (hs.sub (S.app r))

theorem W.mono {t : Sem α} {k k' : α → Led → Prop} {e' : Value → Led → Prop} (h : W C A l t k' e') (hk : ∀ a l', k' a l' → k a l') (he : ∀ x l', e' x l' → e x l') : W C A l t k e :=
  fun r s hs => wpAny_mono (h r s hs) (fun a s' ⟨l', x, y⟩ => ⟨l', hk a l' x, y⟩) (fun a s' ⟨l', x, y⟩ => ⟨l', he a l' x, y⟩)
theorem CW.mono {c : Code} {R R' : Result → Led → Prop} (h : CW C A l c R') (hk : ∀ a l', R' a l' → R a l') : CW C A l c R :=
  fun r s hs => codeAny_mono (h r s hs) (fun a s' ⟨l', x, y⟩ => ⟨l', hk a l' x, y⟩)
/-- what the tree does not see stays -/
theorem W.frame {t : Sem α} {k : α → Led → Prop} (f : Led) (h : W C A l t k e) : W C A (l ++ f) t (fun a l' => ∃ l₁, l' = l₁ ++ f ∧ k a l₁) (fun a l' => ∃ l₁, l' = l₁ ++ f ∧ e a l₁) :=
  fun r s hs => wpAny_mono (h (f ++ r) s (by rw [← List.append_assoc]; exact hs)) (fun a s' ⟨l', x, y⟩ => ⟨l' ++ f, ⟨l', rfl, x⟩, by rw [List.append_assoc]; exact y⟩) (fun a s' ⟨l', x, y⟩ => ⟨l' ++ f, ⟨l', rfl, x⟩, by rw [List.append_assoc]; exact y⟩)

theorem w_pure {a : α} {k : α → Led → Prop} (h : k a l) : W C A l (pure a) k e := fun _ _ hs => wpAny_pure ⟨l, h, hs⟩
theorem w_throw {x : Value} {k : α → Led → Prop} (h : e x l) : W C A l (throw x) k e := fun _ _ hs => wpAny_throw ⟨l, h, hs⟩

/-- from W of the first part to a wpAny of it with the rest -/
theorem W.then {t : Sem α} {k : α → Led → Prop} {e' : Value → Led → Prop} {Q : α → Shared → Prop} {E : Value → Shared → Prop} {s : Shared} {r : Led} (h : W C A l t k e') (hs : St C (l ++ r) s)
    (hQ : ∀ a l' s', k a l' → St C (l' ++ r) s' → Q a s') (hE : ∀ a l' s', e' a l' → St C (l' ++ r) s' → E a s') : wpAny (model P C.w) A t Q E s :=
  wpAny_mono (h r s hs) (fun a s' ⟨l', x, y⟩ => hQ a l' s' x y) (fun a s' ⟨l', x, y⟩ => hE a l' s' x y)

theorem w_bind {m : Sem α} {f : α → Sem β} {k : β → Led → Prop} (h : W C A l m (fun a l' => W C A l' (f a) k e) e) : W C A l (m >>= f) k e :=
  fun r _ hs => wpAny_bind (h.then hs (fun _ _ s' hk hs' => hk r s' hs') fun _ l' _ he hs' => ⟨l', he, hs'⟩)
theorem w_holding {vs : List Value} {m : Sem α} {k : α → Led → Prop} (h : W C A l m k e) : W C A l (holding vs m) k e := fun r s hs => wpAny_holding (h r s hs)
theorem w_standAt {p : Pos} {k : Unit → Led → Prop} (h : k () l) : W C A l (standAt p) k e := fun _ _ hs => wpAny_standAt ⟨l, h, hs⟩
theorem w_point {k : Unit → Led → Prop} (h : k () l) : W C A l PySem.point k e := fun _ _ hs => wpAny_point ⟨l, h, hs⟩
theorem w_rule {t : String} {k : Unit → Led → Prop} (h : k () l) : W C A l (PySem.rule t) k e := fun _ _ hs => wpAny_rule ⟨l, h, hs⟩
theorem w_ask {k : Setting → Led → Prop} (h : k ⟨P, C.w.params⟩ l) : W C A l PySem.ask k e := fun _ _ hs => wpAny_askSetting ⟨l, h, hs⟩
theorem St.toks {s : Shared} {t : Nat} (h : St C l s) : St C l { s with toks := t } := ⟨h.hp, h.bare, h.os⟩
theorem w_fresh {k : Tok → Led → Prop} (h : ∀ t, k t l) : W C A l PySem.fresh k e := fun _ _ hs => wpAny_fresh ⟨l, h _, hs.toks⟩
theorem w_mkInt {i : Int} {k : Value → Led → Prop} (h : ∀ t, k (.int i t) l) : W C A l (PySem.mkInt i) k e := fun _ _ hs => wpAny_mkInt ⟨l, h _, hs.toks⟩
theorem w_mkText {x : Str} {k : Value → Led → Prop} (h : ∀ t, k (.str x t) l) : W C A l (PySem.mkText x) k e := fun _ _ hs => wpAny_bind (wpAny_fresh (wpAny_pure ⟨l, h _, hs.toks⟩))
theorem w_eq {t t' : Sem α} {k : α → Led → Prop} (h : W C A l t' k e) (q : t = t') : W C A l t k e := q ▸ h

theorem w_onRaise {m : Sem α} {f : Value → Sem Unit} {k : α → Led → Prop} (h : W C A l m k (fun x l' => W C A l' (f x) (fun _ l'' => e x l'') e)) : W C A l (m.onRaise f) k e :=
  fun r _ hs => wpAny_onRaise (h.then hs (fun _ l' _ hk hs' => ⟨l', hk, hs'⟩) fun x l' s' he hs' => he r s' hs')
theorem w_attempt {m : Sem α} {k : Except Value α → Led → Prop} (h : W C A l m (fun a => k (.ok a)) (fun x => k (.error x))) : W C A l m.attempt k e :=
  fun _ _ hs => wpAny_attempt (h.then hs (fun _ l' _ hk hs' => ⟨l', hk, hs'⟩) fun _ l' _ he hs' => ⟨l', he, hs'⟩)
theorem w_tryCatch {m : Sem α} {f : Value → Sem α} {k : α → Led → Prop} (h : W C A l m k (fun x l' => W C A l' (f x) k e)) : W C A l (MonadExcept.tryCatch m f) k e :=
  fun r _ hs => wpAny_tryCatch (h.then hs (fun _ l' _ hk hs' => ⟨l', hk, hs'⟩) fun _ _ s' he hs' => he r s' hs')

/-- the ledger read -/
theorem St.get {s : Shared} {a : Addr} {Pr : Obj → Prop} {r : Led} (hs : St C (l ++ r) s) (hm : (a, Pr) ∈ l) : ∃ o, s.heap.get? a = some o ∧ Pr o := (hs.hp.own _ (List.mem_append_left _ hm)).1
theorem St.old {s : Shared} {a : Addr} {o : Obj} (hs : St C l s) (h : C.B.get? a = some o) : s.heap.get? a = some o := hs.hp.base a o h
theorem w_load {a : Addr} {Pr : Obj → Prop} {k : Obj → Led → Prop} (hm : (a, Pr) ∈ l) (h : ∀ o, Pr o → k o l) : W C A l (PySem.load a) k e := fun r s hs => by
  obtain ⟨o, ho, hP⟩ := hs.get hm
  exact wpAny_load ho ⟨l, h o hP, hs⟩
theorem w_loadOld {a : Addr} {o : Obj} {k : Obj → Led → Prop} (hm : C.B.get? a = some o) (h : k o l) : W C A l (PySem.load a) k e := fun _ _ hs => wpAny_load (hs.old hm) ⟨l, h, hs⟩

/-- one entry turned -/
inductive Rep (a : Addr) (p p' : Obj → Prop) : Led → Led → Prop
  | head {r} : Rep a p p' ((a, p) :: r) ((a, p') :: r)
  | tail {x r r'} : Rep a p p' r r' → Rep a p p' (x :: r) (x :: r')
theorem Rep.keys {a : Addr} {p p' : Obj → Prop} {l l' : Led} (h : Rep a p p' l l') : l'.map (·.1) = l.map (·.1) := by
  induction h with
  | head => rfl
  | tail _ ih => simp [ih]
theorem Rep.mem {a : Addr} {p p' : Obj → Prop} {l l' : Led} (h : Rep a p p' l l') : (a, p) ∈ l := by
  induction h with
  | head => exact .head _
  | tail _ ih => exact .tail _ ih
theorem Rep.mem' {a : Addr} {p p' : Obj → Prop} {l l' : Led} (h : Rep a p p' l l') : (a, p') ∈ l' := by
  induction h with
  | head => exact .head _
  | tail _ ih => exact .tail _ ih
theorem Rep.other {a : Addr} {p p' : Obj → Prop} {l l' : Led} (h : Rep a p p' l l') (nd : (l.map (·.1)).Nodup) : ∀ q ∈ l', q = (a, p') ∨ (q ∈ l ∧ q.1 ≠ a) := by
  induction h with
  | head =>
    intro q hq
    rw [List.map_cons, List.nodup_cons] at nd
    rcases List.mem_cons.mp hq with rfl | hq
    · exact .inl rfl
    · exact .inr ⟨.tail _ hq, fun e => nd.1 (by have := List.mem_map_of_mem (f := (·.1)) hq; rw [e] at this; exact this)⟩
  | tail h ih =>
    intro q hq
    rw [List.map_cons, List.nodup_cons] at nd
    rcases List.mem_cons.mp hq with rfl | hq
    · exact .inr ⟨.head _, fun e => nd.1 (e ▸ List.mem_map_of_mem h.mem)⟩
    · rcases ih nd.2 q hq with x | ⟨x, y⟩
      · exact .inl x
      · exact .inr ⟨.tail _ x, y⟩

theorem Rep.app {a : Addr} {p p' : Obj → Prop} {l l' : Led} (h : Rep a p p' l l') (r : Led) : Rep a p p' (l ++ r) (l' ++ r) := by
  induction h with
  | head => exact .head
  | tail _ ih => exact .tail ih

/-- a heap changed at a alone -/
theorem Hp.rep {B h h' : Heap} {a : Addr} {p p' : Obj → Prop} {l l' : Led} (H : Hp B h l) (R : Rep a p p' l l') (hs : Heap.SameBut a h h') (hn : ∃ o, h'.get? a = some o ∧ p' o) : Hp B h' l' := by
  have ha := (H.own _ R.mem).2
  refine ⟨fun b o e => (hs.2 b ?_).trans (H.base b o e), fun q hq => ?_, by rw [R.keys]; exact H.nd, H.gm⟩
  · rintro rfl
    have : B.get? b = none := ha
    rw [e] at this; cases this
  · rcases R.other H.nd q hq with rfl | ⟨hq, hne⟩
    · exact ⟨hn, ha⟩
    · obtain ⟨⟨o, ho, hP⟩, hB⟩ := H.own q hq
      exact ⟨⟨o, (hs.2 _ hne).trans ho, hP⟩, hB⟩
/-- a heap that grew -/
theorem Hp.grow {B h h' : Heap} {l : Led} (H : Hp B h l) (g : ∀ b o, h.get? b = some o → h'.get? b = some o) : Hp B h' l :=
  ⟨fun b o e => g b o (H.base b o e), fun p hp => ⟨let ⟨o, ho, hP⟩ := (H.own p hp).1; ⟨o, g _ _ ho, hP⟩, (H.own p hp).2⟩, H.nd, H.gm⟩
theorem Hp.ne {B h : Heap} {l : Led} {a : Addr} (H : Hp B h l) (hn : h.get? a = none) : a ∉ l.map (·.1) := fun hm => by
  obtain ⟨p, hp, rfl⟩ := List.mem_map.mp hm
  obtain ⟨⟨o, ho, _⟩, _⟩ := H.own p hp
  rw [hn] at ho; cases ho
/-- a heap that grew, a new object told -/
theorem Hp.new {B h h' : Heap} {l : Led} {a : Addr} {o : Obj} {Pr : Obj → Prop} (H : Hp B h l) (g : ∀ b o, h.get? b = some o → h'.get? b = some o) (hn : h.get? a = none) (ho : h'.get? a = some o) (hP : Pr o) : Hp B h' ((a, Pr) :: l) := by
  have H' := H.grow g
  refine ⟨H'.base, fun p hp => ?_, List.nodup_cons.mpr ⟨H.ne hn, H.nd⟩, H.gm⟩
  rcases List.mem_cons.mp hp with rfl | hp
  · refine ⟨⟨o, ho, hP⟩, ?_⟩
    cases q : B.get? a with
    | none => rfl
    | some o' => have := H.base _ _ q; rw [hn] at this; cases this
  · exact H'.own p hp
theorem Hp.mods {B h : Heap} {l : Led} (H : Hp B h l) : ∀ p ∈ l, p.1 ≠ sysModules := fun p hp e => by
  have h1 := (H.own p hp).2
  have h2 := H.gm
  rw [e] at h1; rw [h1] at h2; cases h2
theorem get_size (h : Heap) : h.get? h.objs.size = none := by
  cases q : h.get? h.objs.size with
  | none => rfl
  | some o => exact absurd (Heap.lt_size q) (Nat.lt_irrefl _)
theorem Hp.push {B h : Heap} {l : Led} {o : Obj} (H : Hp B h l) (hf : o.isFreed = false) : Hp B (h.push o) ((h.objs.size, (· = o)) :: l) :=
  H.new (fun _ _ x => Heap.get?_push_of_some _ x) (get_size h) (Heap.get?_push_size _ hf) rfl
/-- the first entry stays first: a new one behind it -/
theorem Hp.swap {B h : Heap} {l : Led} {p q : Ent} (H : Hp B h (p :: q :: l)) : Hp B h (q :: p :: l) := by
  refine ⟨H.base, fun x hx => H.own x ?_, ?_, H.gm⟩
  · rcases List.mem_cons.mp hx with rfl | hx
    · exact .tail _ (.head _)
    · rcases List.mem_cons.mp hx with rfl | hx
      · exact .head _
      · exact .tail _ (.tail _ hx)
  · have := H.nd
    simp only [List.map_cons, List.nodup_cons, List.mem_cons, not_or] at this ⊢
    exact ⟨⟨Ne.symm this.1.1, this.2.1⟩, this.1.2, this.2.2⟩

theorem St.put {f : Ent} {s : Shared} {h' : Heap} {r : Led} {a : Addr} {o : Obj} {Pr : Obj → Prop} (hs : St C (f :: l ++ r) s) (g : ∀ b o, s.heap.get? b = some o → h'.get? b = some o) (hn : s.heap.get? a = none) (ho : h'.get? a = some o) (hP : Pr o) (t : Nat) :
    St C (f :: (a, Pr) :: l ++ r) { s with heap := h', toks := t } := ⟨(hs.hp.new g hn ho hP).swap, hs.bare, hs.os⟩
theorem St.rep {s : Shared} {h' : Heap} {r l' : Led} {a : Addr} {p p' : Obj → Prop} (hs : St C (l ++ r) s) (R : Rep a p p' l l') (hb : Heap.SameBut a s.heap h') (hn : ∃ o, h'.get? a = some o ∧ p' o) (t : Nat) :
    St C (l' ++ r) { s with heap := h', toks := t } := ⟨hs.hp.rep (R.app r) hb hn, hs.bare, hs.os⟩
theorem St.grow {s : Shared} {h' : Heap} (hs : St C l s) (g : ∀ b o, s.heap.get? b = some o → h'.get? b = some o) (t : Nat) : St C l { s with heap := h', toks := t } := ⟨hs.hp.grow g, hs.bare, hs.os⟩
theorem w_alloc {f : Ent} {o : Obj} {k : Addr → Led → Prop} (h : ∀ a, k a (f :: (a, (· = o)) :: l)) (hf : o.isFreed = false := by rfl) : W C A (f :: l) (PySem.alloc o) k e :=
  fun _ s hs => wpAny_alloc ⟨_, h s.heap.objs.size, hs.put (Pr := (· = o)) (fun _ _ x => Heap.get?_push_of_some _ x) (get_size _) (Heap.get?_push_size _ hf) rfl _⟩
theorem w_update {a : Addr} {f : Obj → Obj} {p p' : Obj → Prop} {l' : Led} {k : Unit → Led → Prop} (R : Rep a p p' l l') (hf : ∀ o, p o → p' (f o) ∧ (f o).isFreed = false) (h : k () l') : W C A l (PySem.update a f) k e := fun _ s hs => by
  obtain ⟨o, ho, hP⟩ := hs.get R.mem
  obtain ⟨h1, h2⟩ := hf o hP
  exact wpAny_update ho ⟨l', h, hs.rep R (Heap.SameBut.update ..) ⟨_, Heap.get?_update_self _ ho h2, h1⟩ _⟩

theorem w_call {f : Value} {pos : List Value} {kw : List (Str × Value)} {k : Value → Led → Prop} (h : CW C A l (.call f ⟨pos, kw⟩) (fun r l' => match r with | .ok (.ret v) => k v l' | .ok _ => False | .error x => e x l')) : W C A l (PySem.call f pos kw) k e :=
  fun q s hs => wpAny_call (codeAny_mono (h q s hs) fun r s' ⟨l', x, y⟩ => by
    match r, x with
    | .ok (.ret v), x => exact ⟨l', x, y⟩
    | .error z, x => exact ⟨l', x, y⟩)
end

/-- a frame's locals, or any dict of names -/
def nsP (vs : Vars) (o : Obj) : Prop := ∃ es ep, o.data = .dict es ep ∧ StrKeys es ∧ ∀ name, nsFind es name = vs.lookup name
def put (x : Str) (v : Value) : Vars → Vars
  | [] => [(x, v)]
  | p :: r => if x = p.1 then (x, v) :: r else p :: put x v r
theorem lookup_put (x : Str) (v : Value) : ∀ (vs : Vars) (y : Str), (put x v vs).lookup y = if y = x then some v else vs.lookup y
  | [], y => by
    by_cases h : y = x
    · subst h; simp [put]
    · have : (y == x) = false := beq_eq_false_iff_ne.mpr h
      simp [put, List.lookup_cons, this, h]
  | p :: r, y => by
    obtain ⟨z, u⟩ := p
    by_cases hz : x = z
    · subst hz
      by_cases h : y = x
      · subst h; simp [put]
      · have : (y == x) = false := beq_eq_false_iff_ne.mpr h
        simp [put, List.lookup_cons, this, h]
    · by_cases h : y = z
      · subst h
        have hy : ¬ y = x := fun e => hz e.symm
        simp [put, hz, List.lookup_cons, hy]
      · have : (y == z) = false := beq_eq_false_iff_ne.mpr h
        simp only [put, hz, if_false, List.lookup_cons, this]
        exact lookup_put x v r y

theorem nsP.ns {h : Heap} {a : Addr} {vs : Vars} {o : Obj} (ho : h.get? a = some o) (hP : nsP vs o) : h.Ns a (fun x => vs.lookup x) :=
  let ⟨es, ep, hd, hk, hf⟩ := hP
  ⟨o, es, ep, ho, hd, hk, hf⟩
end Mine
end
/-! M2 -/
section
open PySem PySem.W PySem.Calls PyProof.Rows
set_option maxRecDepth 100000
set_option linter.all false
namespace Mine
section
variable {α β : Type} {C : Cx} {A : Around} {l : Led} {e : Value → Led → Prop} {env : Env}

abbrev EE (C : Cx) (r : Led) (e : Value → Led → Prop) : Value → Shared → Prop := fun x s' => ∃ l', e x l' ∧ St C (l' ++ r) s'
theorem W.step {t : Sem α} {k : α → Led → Prop} {Q : α → Shared → Prop} {s : Shared} {r : Led} (h : W C A l t k e) (hs : St C (l ++ r) s)
    (hQ : ∀ a l' s', k a l' → St C (l' ++ r) s' → Q a s') : wpAny (model P C.w) A t Q (EE C r e) s :=
  h.then hs hQ fun _ l' _ x y => ⟨l', x, y⟩

/-! statements -/
theorem w_execs_nil {k : Flow → Led → Prop} (h : k .next l) : W C A l (execs [] env) k e := fun r _ hs => wpAny_execs_nil ⟨l, h, hs⟩
theorem w_execs_cons {st : Stmt} {rest : List Stmt} {k : Flow → Led → Prop}
    (h : W C A l (exec st env) (fun f l' => match f with | .next => W C A l' (execs rest env) k e | f => k f l') e) : W C A l (execs (st :: rest) env) k e :=
  fun r _ hs => wpAny_execs_cons (h.step hs fun f l' s' hk hs' => by
    cases f with
    | next => exact hk r s' hs'
    | brk => exact ⟨l', hk, hs'⟩
    | cont => exact ⟨l', hk, hs'⟩
    | ret v => exact ⟨l', hk, hs'⟩)
theorem w_Assign_Name {x pos' value pos} {k : Flow → Led → Prop}
    (h : W C A l (eval value env) (fun v l₁ => W C A l₁ (storeName env x v) (fun _ l₂ => k .next l₂) e) e)
    (hs : swapsWith value (some (.Name x pos')) pos.line env = pure false := by rfl) : W C A l (exec (.Assign [.Name x pos'] value pos) env) k e :=
  fun r _ hs' => wpAny_Assign_Name (h.step hs' fun _ _ s₁ h₁ hs₁ => h₁ r s₁ hs₁) hs
theorem w_Assign_Sub {o i pos' value pos} {k : Flow → Led → Prop}
    (h : W C A l (eval value env) (fun v l₁ => W C A l₁ (eval o env) (fun ov l₂ => W C A l₂ (eval i env) (fun iv l₃ => W C A l₃ (setItem ov iv v) (fun _ l₄ => k .next l₄) e) e) e) e)
    (hs : swapsWith value (some (.Subscript o i pos')) pos.line env = pure false := by rfl) : W C A l (exec (.Assign [.Subscript o i pos'] value pos) env) k e :=
  fun r _ hs' => wpAny_Assign_Subscript (h.step hs' fun _ _ s₁ h₁ hs₁ => h₁.step hs₁ fun _ _ s₂ h₂ hs₂ => h₂.step hs₂ fun _ _ s₃ h₃ hs₃ => h₃ r s₃ hs₃) hs
theorem w_Assign_stores {targets : List Expr} {value : Expr} {pos : Pos} {k : Flow → Led → Prop}
    (h : W C A l (eval value env) (fun v l₁ => W C A l₁ (assignAll v ((assignEach targets env).map (·.2))) (fun _ l₂ => k .next l₂) e) e)
    (hs : swapsWithSole targets value pos.line env = pure false := by rfl) (hw : swappedStores targets value env = pure none := by rfl) : W C A l (exec (.Assign targets value pos) env) k e :=
  fun r _ hs' => wpAny_Assign_stores (h.step hs' fun _ _ s₁ h₁ hs₁ => h₁ r s₁ hs₁) hs hw
theorem w_AugAssign_Name {x pos' op value pos} {k : Flow → Led → Prop}
    (h : W C A l (loadName env x) (fun old l₁ => W C A l₁ (eval value env) (fun v l₂ => W C A l₂ (inplaceOp op old v) (fun r l₃ => W C A l₃ (storeName env x r) (fun _ l₄ => k .next l₄) e) e) e) e) :
    W C A l (exec (.AugAssign (.Name x pos') op value pos) env) k e :=
  fun r _ hs' => wpAny_AugAssign_Name (h.step hs' fun _ _ s₁ h₁ hs₁ => h₁.step hs₁ fun _ _ s₂ h₂ hs₂ => h₂.step hs₂ fun _ _ s₃ h₃ hs₃ => h₃ r s₃ hs₃)
theorem w_If {test body orelse pos} {k : Flow → Led → Prop}
    (h : W C A l (isTrue test env (eval test env)) (fun b l₁ => (b = true → W C A l₁ (execs body env) k e) ∧ (b = false → W C A l₁ (execs orelse env) k e)) e) : W C A l (exec (.If test body orelse pos) env) k e :=
  fun r _ hs' => wpAny_If (h.step hs' fun b _ s₁ h₁ hs₁ => by
    cases b with
    | true => exact h₁.1 rfl r s₁ hs₁
    | false => exact h₁.2 rfl r s₁ hs₁)
theorem w_Return {x pos} {k : Flow → Led → Prop} (h : W C A l (eval x env) (fun v l' => k (.ret v) l') e) : W C A l (exec (.Return (some x) pos) env) k e :=
  fun r _ hs' => wpAny_Return_some (h.step hs' fun _ l' _ h₁ hs₁ => ⟨l', h₁, hs₁⟩)
theorem w_Pass {pos} {k : Flow → Led → Prop} (h : k .next l) : W C A l (exec (.Pass pos) env) k e := fun r _ hs => wpAny_Pass ⟨l, h, hs⟩

/-! expressions -/
theorem w_Const_int {i j pos} {k : Value → Led → Prop} (h : ∀ t, k (.int i t) l) : W C A l (eval (.Constant (.int i) j pos) env) k e := fun r _ hs => wpAny_Constant_int ⟨l, h _, hs.toks⟩
theorem w_Const_str {i j pos} {k : Value → Led → Prop} (h : ∀ t, k (.str i t) l) : W C A l (eval (.Constant (.str i) j pos) env) k e := fun r _ hs => wpAny_Constant_str ⟨l, h _, hs.toks⟩
theorem w_Const_none {j pos} {k : Value → Led → Prop} (h : k .none l) : W C A l (eval (.Constant .none j pos) env) k e := fun r _ hs => wpAny_Constant_none ⟨l, h, hs⟩
theorem w_Const_bool {b j pos} {k : Value → Led → Prop} (h : k (.bool b) l) : W C A l (eval (.Constant (.bool b) j pos) env) k e := fun r _ hs => wpAny_Constant_bool ⟨l, h, hs⟩
theorem w_BinOp {x op y pos} {k : Value → Led → Prop} (h : W C A l (eval x env) (fun a l₁ => W C A l₁ (eval y env) (fun b l₂ => W C A l₂ (binaryOp op a b) k e) e) e) : W C A l (eval (.BinOp x op y pos) env) k e :=
  fun r _ hs => wpAny_BinOp (h.step hs fun _ _ s₁ h₁ hs₁ => h₁.step hs₁ fun _ _ s₂ h₂ hs₂ => h₂ r s₂ hs₂)
theorem w_Compare1 {x op y pos} {k : Value → Led → Prop} (h : W C A l (eval x env) (fun a l₁ => W C A l₁ (eval y env) (fun b l₂ => W C A l₂ (compareOp op a b) k e) e) e)
    (hm : behindInMarks op y = false := by with_unfolding_all rfl) : W C A l (eval (.Compare x [op] [y] pos) env) k e :=
  fun r _ hs => wpAny_Compare1 (h.step hs fun _ _ s₁ h₁ hs₁ => h₁.step hs₁ fun _ _ s₂ h₂ hs₂ => h₂ r s₂ hs₂) hm
theorem w_isTrue_Compare1 {x op y pos whole} {k : Bool → Led → Prop} (h : W C A l (eval x env) (fun a l₁ => W C A l₁ (eval y env) (fun b l₂ => W C A l₂ (compareOp op a b) (fun c l₃ => W C A l₃ (truthy c) k e) e) e) e)
    (hm : behindInMarks op y = false := by with_unfolding_all rfl) : W C A l (isTrue (.Compare x [op] [y] pos) env whole) k e :=
  fun r _ hs => wpAny_isTrue_Compare1 (h.step hs fun _ _ s₁ h₁ hs₁ => h₁.step hs₁ fun _ _ s₂ h₂ hs₂ => h₂.step hs₂ fun _ _ s₃ h₃ hs₃ => h₃ r s₃ hs₃) hm
theorem w_UnaryOp {x op pos} {k : Value → Led → Prop} (h : W C A l (eval x env) (fun a l₁ => W C A l₁ (unaryOp op a) k e) e) : W C A l (eval (.UnaryOp op x pos) env) k e :=
  fun r _ hs => wpAny_UnaryOp (h.step hs fun _ _ s₁ h₁ hs₁ => h₁ r s₁ hs₁)
theorem w_IfExp {test body orelse pos} {k : Value → Led → Prop}
    (h : W C A l (isTrue test env (eval test env)) (fun b l₁ => (b = true → W C A l₁ (eval body env) k e) ∧ (b = false → W C A l₁ (eval orelse env) k e)) e) : W C A l (eval (.IfExp test body orelse pos) env) k e :=
  fun r _ hs' => wpAny_IfExp (h.step hs' fun b _ s₁ h₁ hs₁ => by
    cases b with
    | true => exact h₁.1 rfl r s₁ hs₁
    | false => exact h₁.2 rfl r s₁ hs₁)
theorem w_isTrue_plain {x : Expr} {whole : Sem Value} {k : Bool → Led → Prop} (h : W C A l whole (fun v l₁ => W C A l₁ (truthy v) k e) e)
    (he : isTrue x env whole = (do let v ← whole; standAt x.pos; holding [v] (truthy v)) := by rfl) : W C A l (isTrue x env whole) k e :=
  fun r _ hs' => PyProof.Rows.isTrue_plain (h.step hs' fun _ _ s₁ h₁ hs₁ => h₁ r s₁ hs₁) he
theorem w_isTrue_not {x pos whole} {k : Bool → Led → Prop} (h : W C A l (isTrue x env (eval x env)) (fun b l₁ => k (!b) l₁) e) : W C A l (isTrue (.UnaryOp .Not x pos) env whole) k e :=
  fun r _ hs' => PyProof.Rows.isTrue_not (h.step hs' fun _ l' _ h₁ hs₁ => ⟨l', h₁, hs₁⟩)
theorem w_isTrue_BoolOp {op : BoolOp} {values : List Expr} {pos : Pos} {whole : Sem Value} {k : Bool → Led → Prop} (h : W C A l (allTrue op values env) k e) : W C A l (isTrue (.BoolOp op values pos) env whole) k e :=
  fun r s hs' => wpAny_isTrue_BoolOp (h r s hs')
theorem w_and_nil {k : Bool → Led → Prop} (h : k true l) : W C A l (allTrue .And [] env) k e := fun r _ hs => wpAny_allTrue_And_nil ⟨l, h, hs⟩
theorem w_or_nil {k : Bool → Led → Prop} (h : k false l) : W C A l (allTrue .Or [] env) k e := fun r _ hs => wpAny_allTrue_Or_nil ⟨l, h, hs⟩
theorem w_and_cons {x : Expr} {rest : List Expr} {k : Bool → Led → Prop} (h : W C A l (isTrue x env (eval x env)) (fun b l₁ => (b = true → W C A l₁ (allTrue .And rest env) k e) ∧ (b = false → k false l₁)) e) : W C A l (allTrue .And (x :: rest) env) k e :=
  fun r _ hs' => wpAny_allTrue_And_cons (h.step hs' fun b l₁ s₁ h₁ hs₁ => by
    cases b with
    | true => exact h₁.1 rfl r s₁ hs₁
    | false => exact ⟨l₁, h₁.2 rfl, hs₁⟩)
theorem w_or_cons {x : Expr} {rest : List Expr} {k : Bool → Led → Prop} (h : W C A l (isTrue x env (eval x env)) (fun b l₁ => (b = true → k true l₁) ∧ (b = false → W C A l₁ (allTrue .Or rest env) k e)) e) : W C A l (allTrue .Or (x :: rest) env) k e :=
  fun r _ hs' => wpAny_allTrue_Or_cons (h.step hs' fun b l₁ s₁ h₁ hs₁ => by
    cases b with
    | true => exact ⟨l₁, h₁.1 rfl, hs₁⟩
    | false => exact h₁.2 rfl r s₁ hs₁)
theorem w_truthy_bool {b : Bool} {k : Bool → Led → Prop} (h : k b l) : W C A l (truthy (.bool b)) k e := fun r _ hs => wpAny_truthy_bool ⟨l, h, hs⟩
theorem w_items_nil {pos : Pos} {k : List Value → Led → Prop} (h : k [] l) : W C A l (spliced (backTo pos (starEach [] env))) k e := fun r _ hs => wpAny_items_nil ⟨l, h, hs⟩
theorem w_items_cons {pos : Pos} {x : Expr} {rest : List Expr} {k : List Value → Led → Prop}
    (h : W C A l (eval x env) (fun v l₁ => W C A l₁ (spliced (backTo pos (starEach rest env))) (fun vs l₂ => k (v :: vs) l₂) e) e)
    (he : starEach (x :: rest) env = (false, eval x env) :: starEach rest env := by rfl) : W C A l (spliced (backTo pos (starEach (x :: rest) env))) k e :=
  fun r _ hs => wpAny_items_cons (h.step hs fun _ _ _ h₁ hs₁ => h₁.step hs₁ fun _ l₂ _ h₂ hs₂ => ⟨l₂, h₂, hs₂⟩) he
/-- a made sequence: behind the frame -/
def seqP (cls : String) (vs : List Value) (o : Obj) : Prop := o.cls = .type cls ∧ ∃ n, o.data = .seq vs.toArray n
theorem St.newSeq {f : Ent} {s : Shared} {r : Led} {cls : String} {vs : List Value} (hs : St C (f :: l ++ r) s) : St C (f :: (s.heap.objs.size, seqP cls vs) :: l ++ r) { s with heap := s.heap.push { cls := .type cls, data := .seq vs.toArray } } :=
  hs.put (fun _ _ x => Heap.get?_push_of_some _ x) (get_size _) (Heap.get?_push_size _ rfl) ⟨rfl, 0, rfl⟩ _
theorem w_newSeq {f : Ent} {cls : String} {vs : List Value} {k : Value → Led → Prop} (h : ∀ a, k (.ref a) (f :: (a, seqP cls vs) :: l)) (hsz : vs.length ≤ sizeLine) : W C A (f :: l) (newObj (.type cls) (.seq vs.toArray)) k e :=
  fun r _ hs => wpAny_newObj_type ⟨_, h _, hs.newSeq⟩ (by show vs.toArray.size ≤ sizeLine; rw [List.size_toArray]; exact hsz)
theorem w_List_ {elts : List Expr} {pos : Pos} {k : Value → Led → Prop} (h : W C A l (spliced (backTo pos (starEach elts env))) (fun vs l₁ => W C A l₁ (newList vs) k e) e) : W C A l (eval (.List elts pos) env) k e :=
  fun r _ hs => PyProof.Rows.List_ (h.step hs fun _ _ s₁ h₁ hs₁ => h₁ r s₁ hs₁)
theorem w_Tuple_ {elts : List Expr} {j : Nat} {pos : Pos} {k : Value → Led → Prop} (h : W C A l (spliced (backTo pos (starEach elts env))) (fun vs l₁ => W C A l₁ (newTuple vs) k e) e) : W C A l (eval (.Tuple elts j pos) env) k e :=
  fun r _ hs => PyProof.Rows.Tuple_ (h.step hs fun _ _ s₁ h₁ hs₁ => h₁ r s₁ hs₁)
theorem w_Subscript {value slice pos} {k : Value → Led → Prop} (h : W C A l (eval value env) (fun o l₁ => W C A l₁ (eval slice env) (fun i l₂ => W C A l₂ (subscriptTail value slice o i) k e) e) e) : W C A l (eval (.Subscript value slice pos) env) k e :=
  fun r _ hs => PyProof.Rows.Subscript_ (h.step hs fun _ _ _ h₁ hs₁ => h₁.step hs₁ fun _ _ s₂ h₂ hs₂ => h₂ r s₂ hs₂)

/-! names -/
theorem w_loadL {L : Addr} {vs : Vars} {l₀ : Led} {x : Str} {v : Value} {k : Value → Led → Prop} (hL : env.locals = L) (hv : vs.lookup x = some v) (h : k v ((L, nsP vs) :: l₀))
    (hk : env.scope.kind = .function := by rfl) (hl : env.kindOf x = some .local := by rfl) : W C A ((L, nsP vs) :: l₀) (loadName env x) k e := fun r s hs => by
  obtain ⟨o, ho, hP⟩ := hs.get (List.Mem.head _)
  subst hL
  exact wpAny_loadName_local hk hl (nsP.ns ho hP) hv ⟨_, h, hs⟩
theorem w_NameL {L : Addr} {vs : Vars} {l₀ : Led} {x : Str} {pos : Pos} {v : Value} {k : Value → Led → Prop} (hL : env.locals = L) (hv : vs.lookup x = some v) (h : k v ((L, nsP vs) :: l₀))
    (hk : env.scope.kind = .function := by rfl) (hl : env.kindOf x = some .local := by rfl) (hd : (x == ("__debug__" : Str)) = false := by decide) :
    W C A ((L, nsP vs) :: l₀) (eval (.Name x pos) env) k e := fun r s hs => wpAny_Name ((w_loadL hL hv h hk hl : W C A _ (loadName env x) k e) r s hs) hd
theorem nsP.put {o : Obj} {h h' : Heap} {a : Addr} {vs : Vars} {x : Str} {v : Value} (hn : h'.Ns a (fun y => if y = x then some v else vs.lookup y)) : ∃ o, h'.get? a = some o ∧ nsP (put x v vs) o := by
  obtain ⟨o, es, ep, ho, hd, hk, hf⟩ := hn
  exact ⟨o, ho, es, ep, hd, hk, fun name => by rw [hf, lookup_put]⟩
theorem w_storeL {L : Addr} {vs : Vars} {l₀ : Led} {x : Str} {v : Value} {k : Unit → Led → Prop} (hL : env.locals = L) (h : k () ((L, nsP (put x v vs)) :: l₀))
    (hl : env.kindOf x = some .local := by rfl) (hp : (env.scope.kind == .class || (env.scope.kind == .module && env.locals != env.globals)) = false := by rfl) :
    W C A ((L, nsP vs) :: l₀) (storeName env x v) k e := fun r s hs => by
  obtain ⟨o, ho, hP⟩ := hs.get (List.Mem.head _)
  subst hL
  exact wpAny_storeName_local hl (nsP.ns ho hP) (fun h' hn hb => ⟨_, h, hs.rep .head hb (nsP.put (o := o) (h := h') hn) _⟩) hp
theorem w_bindName {x : Str} {v : Value} {k : Unit → Led → Prop} (h : W C A l (storeName env x v) k e) : W C A l (bindName env x v) k e := fun r s hs => wpAny_bindName (h r s hs)
theorem w_assign_Name {x pos v} {k : Unit → Led → Prop} (h : W C A l (storeName env x v) k e) : W C A l (assign (.Name x pos) env v) k e := fun r s hs => wpAny_assign_Name (h r s hs)

/-- what the top left -/
structure Top0 (C : Cx) (mg mb : Str → Option Value) : Prop where
  g : C.B.Ns mainGlobals mg
  b : C.B.Ns builtinsNs mb
  lim : C.B.NoLimit
theorem w_NameG {mg mb : Str → Option Value} (T : Top0 C mg mb) {x : Str} {pos : Pos} {v : Value} {k : Value → Led → Prop} (hv : mg x = some v) (h : k v l) (hg : env.globals = mainGlobals := by rfl)
    (hk : env.scope.kind = .function := by rfl) (hx : env.kindOf x = some .globalImplicit := by rfl) (hd : (x == ("__debug__" : Str)) = false := by decide) : W C A l (eval (.Name x pos) env) k e := fun _ s hs =>
  Name_function_global hk hx (loadGlobal_global (env := env) (by rw [hg]; exact T.g.keeps hs.hp.base) hv ⟨l, h, hs⟩) hd
theorem w_NameB {mg mb : Str → Option Value} (T : Top0 C mg mb) {x : Str} {pos : Pos} {v : Value} {k : Value → Led → Prop} (hn : mg x = none) (hv : mb x = some v) (h : k v l) (hg : env.globals = mainGlobals := by rfl) (hb : env.builtins = builtinsNs := by rfl)
    (hk : env.scope.kind = .function := by rfl) (hx : env.kindOf x = some .globalImplicit := by rfl) (hd : (x == ("__debug__" : Str)) = false := by decide) : W C A l (eval (.Name x pos) env) k e := fun _ s hs =>
  Name_function_global hk hx (loadGlobal_builtin (env := env) (by rw [hg]; exact T.g.keeps hs.hp.base) hn (by rw [hb]; exact T.b.keeps hs.hp.base) hv ⟨l, h, hs⟩) hd

/-! ints -/
theorem w_add_int {a b : Int} {t u : Tok} {k : Value → Led → Prop} (h : ∀ t, k (.int (a + b) t) l) : W C A l (binaryOp .Add (.int a t) (.int b u)) k e := fun r _ hs => PyProof.Rows.add_int ⟨l, h _, hs.toks⟩
theorem w_sub_int {a b : Int} {t u : Tok} {k : Value → Led → Prop} (h : ∀ t, k (.int (a - b) t) l) : W C A l (binaryOp .Sub (.int a t) (.int b u)) k e := fun r _ hs => PyProof.Rows.sub_int ⟨l, h _, hs.toks⟩
theorem w_mul_int {a b : Int} {t u : Tok} {k : Value → Led → Prop} (hm : IntMulOk a b) (h : ∀ t, k (.int (a * b) t) l) : W C A l (binaryOp .Mult (.int a t) (.int b u)) k e := fun r _ hs => PyProof.Rows.mul_int ⟨l, h _, hs.toks⟩ hm
theorem w_mod_int {a b : Int} {t u : Tok} {k : Value → Led → Prop} (hb : 0 < b) (h : ∀ t, k (.int (a % b) t) l) : W C A l (binaryOp .Mod (.int a t) (.int b u)) k e := fun r _ hs => PyProof.Rows.mod_int (by omega) ⟨l, by rw [Int.fmod_eq_emod_of_nonneg _ (by omega)]; exact h _, hs.toks⟩
theorem w_div_int {a b : Int} {t u : Tok} {k : Value → Led → Prop} (hb : 0 < b) (hb' : b < 1073741824) (h : ∀ t, k (.int (a / b) t) l) : W C A l (binaryOp .FloorDiv (.int a t) (.int b u)) k e := fun r _ hs => PyProof.Rows.floordiv_int (by omega) ⟨l, by rw [Int.fdiv_eq_ediv_of_nonneg _ (by omega)]; exact h _, hs.toks⟩ (.inl (PyProof.noPylong_small (by omega)))
theorem w_eq_int {a b : Int} {t u : Tok} {k : Value → Led → Prop} (h : k (.bool (a == b)) l) : W C A l (compareOp .Eq (.int a t) (.int b u)) k e := fun r _ hs => PyProof.Rows.eq_int ⟨l, h, hs⟩
theorem w_ne_int {a b : Int} {t u : Tok} {k : Value → Led → Prop} (h : k (.bool (a != b)) l) : W C A l (compareOp .NotEq (.int a t) (.int b u)) k e := fun r _ hs => PyProof.Rows.ne_int ⟨l, h, hs⟩
theorem w_lt_int {a b : Int} {t u : Tok} {k : Value → Led → Prop} (h : k (.bool (decide (a < b))) l) : W C A l (compareOp .Lt (.int a t) (.int b u)) k e := fun r _ hs => PyProof.Rows.lt_int ⟨l, h, hs⟩
theorem w_gt_int {a b : Int} {t u : Tok} {k : Value → Led → Prop} (h : k (.bool (decide (b < a))) l) : W C A l (compareOp .Gt (.int a t) (.int b u)) k e := fun r _ hs => PyProof.Rows.gt_int ⟨l, h, hs⟩
theorem w_iadd_int {a b : Int} {t u : Tok} {k : Value → Led → Prop} (h : ∀ t, k (.int (a + b) t) l) : W C A l (inplaceOp .Add (.int a t) (.int b u)) k e := fun r _ hs => PyProof.Rows.iadd_int ⟨l, h _, hs.toks⟩
theorem w_neg_int {a : Int} {t : Tok} {k : Value → Led → Prop} (h : ∀ t, k (.int (-a) t) l) : W C A l (unaryOp .USub (.int a t)) k e := fun r _ hs => PyProof.Rows.neg_int ⟨l, h _, hs.toks⟩
end
end Mine
end
/-! M3 -/
section
open PySem PySem.W PySem.Calls PyProof.Rows
set_option maxRecDepth 100000
set_option linter.all false
namespace Mine
section
variable {α β : Type} {C : Cx} {A : Around} {l : Led} {e : Value → Led → Prop} {env : Env}

theorem cw_def {R : Result → Led → Prop} {a : Addr} {o : Obj} {fd : FuncData} {body : List Stmt} {args : Args} {binds : List (Str × Value)}
    (hlim : C.B.NoLimit) (hroom : A.depth < recursionLimit) (ho : C.B.get? a = some o) (hdata : o.data = .func fd) (hcd : C.B.CodeRec fd.code fd.qualname)
    (hbody : fd.body = .stmts body) (hbind : bindArgs fd args = pure binds)
    (hcell : ∀ x ∈ fd.scope.names, x.2 ≠ .cell) (hloc : ∀ x ∈ binds, fd.scope.names.lookup x.1 = some .local)
    (h : ∀ L, W C (A.deeper (callEnv fd L a)) ((L, nsP binds.reverse) :: l) (execs body (callEnv fd L a)) (fun f l' => ∃ l₁, Sub l₁ l' ∧ R (.ok (.ret (match f with | .ret v => v | _ => .none))) l₁)
      (fun x l' => W C (A.deeper (callEnv fd L a)) l' (leaving (callEnv fd L a) x) (fun _ l'' => R (.error x) l'') (fun x' l'' => R (.error x') l'')))
    (hco : fd.scope.isCoroutine = false := by rfl) (hgen : fd.scope.isGenerator = false := by rfl) (hk : fd.scope.kind = .function := by rfl) : CW C A l (.call (.ref a) args) R := fun r s hs =>
  codeAny_call_def hroom (hs.old ho) hdata (hlim.keeps hs.hp.base) (hcd.keeps hs.hp.base) hbody (.of_eq hbind) hcell hloc (fun h₀ hns hk₀ => by
    have hs' : St C ((s.heap.objs.size, nsP binds.reverse) :: l ++ r) { s with heap := h₀, toks := s.toks + binds.length } := by
      obtain ⟨o', es, ep, ho', hd, hkk, hf⟩ := hns
      exact ⟨hs.hp.new hk₀ (get_size _) ho' ⟨es, ep, hd, hkk, hf⟩, hs.bare, hs.os⟩
    exact (h _).then hs' (fun f l' s' ⟨l₁, hS, hr⟩ hs₁ => ⟨l₁, hr, hs₁.sub (hS.app r)⟩) (fun x l' s' hr hs₁ => (hr r s' hs₁))) hco hgen hk

/-- a def of the top's called by place -/
theorem w_callWith_fn {pos : Pos} {a : Addr} {o : Obj} {fd : FuncData} {x : Expr} {rest : List Expr} {first : List Value} {k : Value → Led → Prop} (ho : C.B.get? a = some o) (hdata : o.data = .func fd)
    (h : W C A l (spliced (backTo pos (starEach (x :: rest) env))) (fun vs l' => CW C A l' (.call (.ref a) ⟨first ++ vs, []⟩) (fun r l' => match r with | .ok (.ret v) => k v l' | .ok _ => False | .error x => e x l')) e)
    (he : starEach (x :: rest) env = (false, eval x env) :: starEach rest env := by rfl) : W C A l (callWith pos (.ref a) first (backTo pos (starEach (x :: rest) env)) []) k e := fun r s hs =>
  PyProof.Rows.callWith_meth (h₀ := C.B) hdata ho (h.step hs fun vs l' s' h' hs' => ⟨hs'.hp.base, (w_call h') r s' hs'⟩) he
theorem w_Call_Name {x : Str} {p pos : Pos} {args : List Expr} {k : Value → Led → Prop}
    (h : W C A l (eval (.Name x p) env) (fun f l₁ => W C A l₁ (callWith pos f [] (backTo pos (starEach args env)) []) k e) e) : W C A l (eval (.Call (.Name x p) args [] pos) env) k e := fun r _ hs =>
  PyProof.Rows.Call_Name rfl (h.step hs fun _ _ s' h' hs' => h' r s' hs')

/-! lists -/
theorem seqP.isList {h : Heap} {a : Addr} {vs : List Value} {o : Obj} (ho : h.get? a = some o) (hP : seqP "list" vs o) : h.IsList a vs.toArray := ⟨o, ho, hP.1, hP.2⟩
/-- a list of ints -/
def intsP (ns : List Int) (o : Obj) : Prop := ∃ vs, IntsAre vs ns ∧ seqP "list" vs o
theorem St.isList {s : Shared} {r : Led} {a : Addr} {vs : List Value} (hs : St C (l ++ r) s) (hm : (a, seqP "list" vs) ∈ l) : s.heap.IsList a vs.toArray := by
  obtain ⟨o, ho, hP⟩ := hs.get hm
  exact hP.isList ho
theorem St.ints {s : Shared} {r : Led} {a : Addr} {ns : List Int} (hs : St C (l ++ r) s) (hm : (a, intsP ns) ∈ l) : ∃ vs, IntsAre vs ns ∧ s.heap.IsList a vs.toArray := by
  obtain ⟨o, ho, vs, hi, hP⟩ := hs.get hm
  exact ⟨vs, hi, hP.isList ho⟩
theorem IntsAre.get' : ∀ {vs : List Value} {ns : List Int}, IntsAre vs ns → ∀ (j : Nat) {n : Int}, ns[j]? = some n → ∃ t, vs[j]? = some (.int n t)
  | _, _, .nil, j, n, h => by simp at h
  | _, _, .cons x t r, 0, n, h => by simp at h; subst h; exact ⟨_, rfl⟩
  | _, _, .cons x t r, j + 1, n, h => by simpa using IntsAre.get' r j (by simpa using h)
theorem IntsAre.set' {n : Int} {t : Tok} : ∀ {vs : List Value} {ns : List Int}, IntsAre vs ns → ∀ (j : Nat), IntsAre (vs.set j (.int n t)) (ns.set j n)
  | _, _, .nil, j => by simpa using IntsAre.nil
  | _, _, .cons x u r, 0 => .cons _ _ r
  | _, _, .cons x u r, j + 1 => .cons _ _ (IntsAre.set' r j)
theorem w_getItem_list {a : Addr} {vs : List Value} {i : Int} {t : Tok} {v : Value} {k : Value → Led → Prop} (hm : (a, seqP "list" vs) ∈ l) (h0 : 0 ≤ i) (hi : i < 2 ^ 63) (hv : vs[i.toNat]? = some v) (h : k v l) :
    W C A l (getItem (.ref a) (.int i t)) k e := fun _ _ hs => wpAny_getItem_list (hs.isList hm) h0 hi (by simpa using hv) ⟨l, h, hs⟩
theorem w_getItem_ints {a : Addr} {ns : List Int} {i : Int} {t : Tok} {n : Int} {k : Value → Led → Prop} (hm : (a, intsP ns) ∈ l) (h0 : 0 ≤ i) (hi : i < 2 ^ 63) (hv : ns[i.toNat]? = some n) (h : ∀ u, k (.int n u) l) :
    W C A l (getItem (.ref a) (.int i t)) k e := fun r s hs => by
  obtain ⟨vs, hI, hl⟩ := hs.ints hm
  obtain ⟨u, hu⟩ := IntsAre.get' hI _ hv
  exact wpAny_getItem_list hl h0 hi (by simpa using hu) ⟨l, h u, hs⟩
theorem w_subTail_ints {value slice : Expr} {a : Addr} {ns : List Int} {i : Int} {t : Tok} {n : Int} {k : Value → Led → Prop} (hm : (a, intsP ns) ∈ l) (h0 : 0 ≤ i) (hi : i < 2 ^ 63) (hv : ns[i.toNat]? = some n) (h : ∀ u, k (.int n u) l)
    (hs : subscripted slice false (.ref a) (.int i t) = operate [.ref a, .int i t] (getItem (.ref a) (.int i t)) := by with_unfolding_all rfl) : W C A l (subscriptTail value slice (.ref a) (.int i t)) k e := fun r s hs' => by
  obtain ⟨vs, hI, hl⟩ := hs'.ints hm
  exact tail_any hl.typeIs slot_list_getitem.lookup ((w_getItem_ints hm h0 hi hv h : W C A l _ k e) r s hs') hs
theorem w_setItem_ints {a : Addr} {ns : List Int} {l' : Led} {i : Int} {t u : Tok} {n : Int} {k : Unit → Led → Prop} (R : Rep a (intsP ns) (intsP (ns.set i.toNat n)) l l') (h0 : 0 ≤ i) (hi : i < 2 ^ 63) (hn : i < ns.length) (h : k () l') :
    W C A l (setItem (.ref a) (.int i t) (.int n u)) k e := fun r s hs => by
  obtain ⟨vs, hI, hl⟩ := hs.ints R.mem
  exact wpAny_setItem_list hl h0 hi (by have := hI.length; simp; omega) fun h' hl' hb => ⟨l', h, hs.rep R hb (by
    obtain ⟨o, ho, hc, m, hd⟩ := hl'
    exact ⟨o, ho, vs.set i.toNat (.int n u), IntsAre.set' hI _, hc, m, by rw [hd]; simp⟩) _⟩
end
end Mine
end
/-! M4 -/
section
open PySem PySem.W PySem.Calls PyProof.Rows
set_option maxRecDepth 100000
set_option linter.all false
namespace Mine
section
variable {α β : Type} {C : Cx} {A : Around} {l : Led} {e : Value → Led → Prop} {env : Env}
abbrev noE : Value → Led → Prop := fun _ _ => False

theorem Hp.mid {B h : Heap} {l r : Led} {p : Ent} (H : Hp B h (l ++ p :: r)) : Hp B h (l ++ r) := by
  refine H.sub fun nd => ⟨?_, fun q hq => ⟨q, ?_, rfl, fun _ x => x⟩⟩
  · rw [List.map_append, List.map_cons, List.nodup_append] at nd
    rw [List.map_append, List.nodup_append]
    exact ⟨nd.1, (List.nodup_cons.mp nd.2.1).2, fun a ha b hb => nd.2.2 a ha b (.tail _ hb)⟩
  · rcases List.mem_append.mp hq with h | h
    · exact List.mem_append_left _ h
    · exact List.mem_append_right _ (.tail _ h)
theorem Rep.mid {a : Addr} {p p' : Obj → Prop} : ∀ {l r : Led}, Rep a p p' (l ++ (a, p) :: r) (l ++ (a, p') :: r)
  | [], _ => .head
  | _ :: _, _ => .tail Rep.mid
theorem Hp.newMid {B h h' : Heap} {l r : Led} {a : Addr} {o : Obj} {Pr : Obj → Prop} (H : Hp B h (l ++ r)) (g : ∀ b o, h.get? b = some o → h'.get? b = some o) (hn : h.get? a = none) (ho : h'.get? a = some o) (hP : Pr o) : Hp B h' (l ++ (a, Pr) :: r) := by
  have H' := H.new g hn ho hP
  refine H'.sub fun nd => ⟨?_, fun q hq => ⟨q, ?_, rfl, fun _ x => x⟩⟩
  · have nd' : (a :: (l.map (·.1) ++ r.map (·.1))).Nodup := by simpa using nd
    have p : (l.map (·.1) ++ a :: r.map (·.1)).Perm (a :: (l.map (·.1) ++ r.map (·.1))) := List.perm_middle
    have := p.nodup_iff.mpr nd'
    simpa using this
  · rcases List.mem_append.mp hq with h | h
    · exact .tail _ (List.mem_append_left _ h)
    · rcases List.mem_cons.mp h with rfl | h
      · exact .head _
      · exact .tail _ (List.mem_append_right _ h)
theorem Hp.extBut {B h h' : Heap} {l r : Led} {p : Ent} (H : Hp B h (l ++ p :: r)) (x : Heap.ExtBut p.1 h h') : Hp B h' (l ++ r) := by
  have hB := (H.own p (List.mem_append_right _ (.head _))).2
  have hne : ∀ q ∈ l ++ r, q.1 ≠ p.1 := by
    intro q hq e
    have nd := H.nd
    rw [List.map_append, List.map_cons, List.nodup_append] at nd
    rcases List.mem_append.mp hq with h | h
    · exact nd.2.2 _ (List.mem_map_of_mem h) _ (.head _) e
    · exact (List.nodup_cons.mp nd.2.1).1 (e ▸ List.mem_map_of_mem h)
  have H' := H.mid
  exact ⟨fun b o e => x b o (by rintro rfl; rw [hB] at e; cases e) (H.base b o e), fun q hq => ⟨let ⟨o, ho, hP⟩ := (H'.own q hq).1; ⟨o, x _ _ (hne q hq) ho, hP⟩, (H'.own q hq).2⟩, H'.nd, H'.gm⟩

/-- a for loop: over an iterator that is told by J, its turns by I; nothing is raised -/
theorem codeAny_for {target : Expr} {body : List Stmt} {it : Addr} {n : Nat} {val : Nat → Value → Prop} (I : Nat → Led → Prop) (J : Nat → Obj → Prop) {k : Flow → Led → Prop} {R : Result → Shared → Prop} {s : Shared} {r : Led}
    (nxt : ∀ i l₂ (s : Shared) (Q : Option Value → Shared → Prop) (E : Value → Shared → Prop), i < n → I i l₂ → St C (l₂ ++ (it, J i) :: r) s →
      (∀ v h' tk, val i v → Heap.SameBut it s.heap h' → (∃ o, h'.get? it = some o ∧ J (i + 1) o) → Q (some v) { s with heap := h', toks := tk }) → wpAny (model P C.w) A (pyNext (.ref it)) Q E s)
    (fin : ∀ l₂ (s : Shared) (Q : Option Value → Shared → Prop) (E : Value → Shared → Prop), I n l₂ → St C (l₂ ++ (it, J n) :: r) s → (∀ h' tk, Heap.ExtBut it s.heap h' → Q none { s with heap := h', toks := tk }) → wpAny (model P C.w) A (pyNext (.ref it)) Q E s)
    (turn : ∀ i v l₂, i < n → I i l₂ → val i v → W C A l₂ (assign target env v) (fun _ l₃ => W C A l₃ (execs body env) (fun f l₄ => match f with | .next | .cont => I (i + 1) l₄ | .brk => k .next l₄ | .ret v => k (.ret v) l₄) noE) noE)
    (done : ∀ l₂, I n l₂ → k .next l₂)
    (hR : ∀ f l₂ s', k f l₂ → St C (l₂ ++ r) s' → R (.ok f) s')
    {l₀ : Led} (h0 : I 0 l₀) (hs : St C (l₀ ++ (it, J 0) :: r) s) (ht : ∀ v, letOwnedTupleGo target (.ref it) v = pure ()) : codeAny (model P C.w) A (.forLoop target (.ref it) body [] env) R s := by
  refine codeAny_forLoop (fun m s' => ∃ i l₂, m = n - i ∧ i ≤ n ∧ I i l₂ ∧ St C (l₂ ++ (it, J i) :: r) s') ?_ (n - 0) ⟨0, l₀, rfl, Nat.zero_le _, h0, hs⟩ ht
  rintro m s' ⟨i, l₂, rfl, hi, hI, hs'⟩
  by_cases hlt : i < n
  · refine nxt i l₂ s' _ _ hlt hI hs' fun v h' tk hv hb ho => ?_
    have hs₁ : St C (l₂ ++ (it, J (i + 1)) :: r) { s' with heap := h', toks := tk } := ⟨hs'.hp.rep Rep.mid hb ho, hs'.bare, hs'.os⟩
    refine (turn i v l₂ hlt hI hv).then hs₁ (fun _ l₃ s₂ h₂ hs₂ => h₂.then hs₂ (fun f l₄ s₃ h₃ hs₃ => ?_) fun _ _ _ x => x.elim) fun _ _ _ x => x.elim
    cases f with
    | next => exact ⟨n - (i + 1), by omega, i + 1, l₄, rfl, hlt, h₃, hs₃⟩
    | cont => exact ⟨n - (i + 1), by omega, i + 1, l₄, rfl, hlt, h₃, hs₃⟩
    | brk => exact hR _ _ _ h₃ ⟨hs₃.hp.mid, hs₃.bare, hs₃.os⟩
    | ret v => exact hR _ _ _ h₃ ⟨hs₃.hp.mid, hs₃.bare, hs₃.os⟩
  · have : i = n := by omega
    subst this
    refine fin l₂ s' _ _ hI hs' fun h' tk hx => wpAny_execs_nil ?_
    exact hR _ _ _ (done _ hI) ⟨hs'.hp.extBut hx, hs'.bare, hs'.os⟩

def listIterP (a : Addr) (i : Nat) (o : Obj) : Prop := o.cls = .type "list_iterator" ∧ o.data = .fields #[.ref a, .int i 0]
theorem w_For_list {target iter : Expr} {body : List Stmt} {pos : Pos} {k : Flow → Led → Prop} (hh : A.handled = none) (vs : List Value) (I : Addr → Nat → Led → Prop)
    (h : W C A l (eval iter env) (fun v l₁ => ∃ a, v = .ref a ∧ I a 0 l₁ ∧ ∀ i l₂, I a i l₂ → (a, seqP "list" vs) ∈ l₂) e)
    (turn : ∀ a i v l₂, I a i l₂ → vs[i]? = some v → W C A l₂ (assign target env v) (fun _ l₃ => W C A l₃ (execs body env) (fun f l₄ => match f with | .next | .cont => I a (i + 1) l₄ | .brk => k .next l₄ | .ret v => k (.ret v) l₄) noE) noE)
    (done : ∀ a l₂, I a vs.length l₂ → k .next l₂)
    (hs : ∀ x, foldedSetIterable iter env x = pure x := by intro _; rfl) (ht : ∀ it v, letOwnedTupleGo target it v = pure () := by intro _ _; rfl) : W C A l (exec (.For target iter body [] pos) env) k e := fun r s hs' => by
  refine wpAny_For (h.step hs' fun v l₁ s₁ h₁ hs₁ => ?_) hs
  obtain ⟨a, rfl, hI, hm⟩ := h₁
  have hl := hs₁.isList (hm _ _ hI)
  refine wpAny_pyIter_list hl ?_
  refine codeAny_for (n := vs.length) (val := fun i v => vs[i]? = some v) (I a) (listIterP a) (r := r) (k := k) ?_ ?_ (fun i v l₂ _ hI hv => turn a i v l₂ hI hv) (done a) (fun f l₂ s' hk hs' => ⟨l₂, hk, hs'⟩) hI
    ⟨hs₁.hp.newMid (fun _ _ x => Heap.get?_push_of_some _ x) (get_size _) (Heap.get?_push_size _ rfl) ⟨rfl, rfl⟩, hs₁.bare, hs₁.os⟩ (fun v => ht _ v)
  · intro i l₂ s₂ Q E hi hI₂ hs₂ hQ
    obtain ⟨⟨o, ho, hc, hd⟩, _⟩ := hs₂.hp.own (s₁.heap.objs.size, listIterP a i) (List.mem_append_right _ (.head _))
    have hx : vs.toArray[i]? = some (vs[i]'hi) := by simp [hi]
    exact wpAny_pyNext_list_item ⟨o, ho, hc, hd⟩ (hs₂.isList (hm _ _ hI₂)) hx fun h' hit hb => hQ _ h' s₂.toks (by simp [hi]) hb (let ⟨o', ho', hc', hd'⟩ := hit; ⟨o', ho', hc', hd'⟩)
  · intro l₂ s₂ Q E hI₂ hs₂ hQ
    obtain ⟨⟨o, ho, hc, hd⟩, _⟩ := hs₂.hp.own (s₁.heap.objs.size, listIterP a vs.length) (List.mem_append_right _ (.head _))
    exact wpAny_pyNext_list_end hh ⟨o, ho, hc, hd⟩ (hs₂.isList (hm _ _ hI₂)) (by simp) fun h' hx => hQ h' s₂.toks hx

/-- a range object -/
def rngP (lo hi : Int) (o : Obj) : Prop := ∃ t u w, o = { cls := .type "range", dict := none, data := .fields #[.int lo t, .int hi u, .int 1 w], slots := #[] }
theorem w_For_range {target iter : Expr} {body : List Stmt} {pos : Pos} {k : Flow → Led → Prop} (hh : A.handled = none) (lo hi : Int) (I : Nat → Led → Prop)
    (hlo : -1000000 < lo) (hhi : hi < 1000000) (hlh : lo ≤ hi)
    (h : W C A l (eval iter env) (fun v l₁ => ∃ a, v = .ref a ∧ (a, rngP lo hi) ∈ l₁ ∧ I 0 l₁) e)
    (turn : ∀ (i : Nat) t l₂, lo + i < hi → I i l₂ → W C A l₂ (assign target env (.int (lo + i) t)) (fun _ l₃ => W C A l₃ (execs body env) (fun f l₄ => match f with | .next | .cont => I (i + 1) l₄ | .brk => k .next l₄ | .ret v => k (.ret v) l₄) noE) noE)
    (done : ∀ l₂, I (hi - lo).toNat l₂ → k .next l₂)
    (hs : ∀ x, foldedSetIterable iter env x = pure x := by intro _; rfl) (ht : ∀ it v, letOwnedTupleGo target it v = pure () := by intro _ _; rfl) : W C A l (exec (.For target iter body [] pos) env) k e := fun r s hs' => by
  refine wpAny_For (h.step hs' fun v l₁ s₁ h₁ hs₁ => ?_) hs
  obtain ⟨a, rfl, hm, hI⟩ := h₁
  obtain ⟨o, ho, t, u, w, rfl⟩ := hs₁.get hm
  have hsz : Builtin.Range.rangeSize lo hi 1 = ((hi - lo).toNat : Int) := by
    unfold Builtin.Range.rangeSize
    by_cases q : lo < hi
    · simp [q]; omega
    · simp [q]; omega
  have fl : ∀ x : Int, -2000000 < x → x < 2000000 → Builtin.Range.rangeFitsLong x = true := by
    intro x h1 h2
    unfold Builtin.Range.rangeFitsLong
    simp; omega
  have hsm : Builtin.Range.small lo hi 1 = true := by
    unfold Builtin.Range.small
    rw [hsz, fl lo (by omega) (by omega), fl hi (by omega) (by omega), fl 1 (by omega) (by omega), fl _ (by omega) (by omega)]
    simp [fl hi (by omega) (by omega)]
  refine wpAny_pyIter_range ho hsm ?_
  refine codeAny_for (n := (hi - lo).toNat) (val := fun i v => ∃ t, v = .int (lo + i) t) I (fun i o => o = { cls := .type "range_iterator", dict := none, data := .fields #[rawInt (lo + i), rawInt ((hi - lo).toNat - i), rawInt 1], slots := #[] }) (r := r) (k := k) ?_ ?_
    (fun i v l₂ hi' hI hv => by obtain ⟨t, rfl⟩ := hv; exact turn i t l₂ (by omega) hI) done (fun f l₂ s' hk hs' => ⟨l₂, hk, hs'⟩) hI
    ⟨hs₁.hp.newMid (fun _ _ x => Heap.get?_push_of_some _ x) (get_size _) (Heap.get?_push_size _ rfl) (by rw [hsz]; simp), hs₁.bare, hs₁.os⟩ (fun v => ht _ v)
  · intro i l₂ s₂ Q E hi' hI₂ hs₂ hQ
    obtain ⟨⟨o, ho, rfl⟩, _⟩ := hs₂.hp.own (s₁.heap.objs.size, _) (List.mem_append_right _ (.head _))
    exact wpAny_pyNext_range_item ho (by omega) fun h' hit hb => hQ _ h' _ ⟨_, rfl⟩ hb ⟨_, hit, by
      have e1 : lo + (i : Int) + 1 = lo + ((i + 1 : Nat) : Int) := by omega
      have e2 : ((hi - lo).toNat : Int) - (i : Int) - 1 = ((hi - lo).toNat : Int) - ((i + 1 : Nat) : Int) := by omega
      rw [e1, e2]⟩
  · intro l₂ s₂ Q E hI₂ hs₂ hQ
    obtain ⟨⟨o, ho, rfl⟩, _⟩ := hs₂.hp.own (s₁.heap.objs.size, _) (List.mem_append_right _ (.head _))
    exact wpAny_pyNext_range_end hh ho (by omega) fun h' hx => hQ h' s₂.toks hx
end
end Mine
end
/-! M5 -/
section
open PySem PySem.W PySem.Calls PyProof.Rows
set_option maxRecDepth 100000
set_option linter.all false
namespace Mine
section
variable {α β : Type} {C : Cx} {A : Around} {l : Led} {e : Value → Led → Prop} {env : Env}

abbrev H0 : Heap := ⟨#[], {}⟩
theorem H0_get (a : Addr) : H0.get? a = none := by simp [Heap.get?]
theorem exact_of (h : Heap) : ∀ l : Led, (∀ p ∈ l, ∃ o, h.get? p.1 = some o ∧ p.2 o) → ∃ xs : List (Addr × Obj), (∀ p ∈ xs, h.get? p.1 = some p.2 ∧ p.1 ∈ l.map (·.1)) ∧ ∀ p ∈ l, ∃ o, (p.1, o) ∈ xs ∧ p.2 o
  | [], _ => ⟨[], (fun _ h => nomatch h), (fun _ h => nomatch h)⟩
  | p :: l, H => by
    obtain ⟨xs, a, b⟩ := exact_of h l fun q hq => H q (.tail _ hq)
    obtain ⟨o, ho, hP⟩ := H p (.head _)
    refine ⟨(p.1, o) :: xs, fun q hq => ?_, fun q hq => ?_⟩
    · rcases List.mem_cons.mp hq with rfl | hq
      · exact ⟨ho, .head _⟩
      · exact ⟨(a q hq).1, .tail _ (a q hq).2⟩
    · rcases List.mem_cons.mp hq with rfl | hq
      · exact ⟨o, .head _, hP⟩
      · obtain ⟨o', x, y⟩ := b q hq
        exact ⟨o', .tail _ x, y⟩
/-- the library's two facts, out of ours -/
theorem St.FN {s : Shared} {r : Led} {L : Addr} {vs : Vars} (hs : St C ((L, nsP vs) :: l ++ r) s) : ∃ news, Fr H0 L s.heap (fun x => vs.lookup x) ∧ News H0 L s.heap news ∧
    (∀ h', Fr H0 L h' (fun x => vs.lookup x) → ∀ news', (∀ p ∈ news, p ∈ news') → News H0 L h' news' → ∀ t, St C ((L, nsP vs) :: l ++ r) { s with heap := h', toks := t }) ∧
    ∀ h' o, Fr H0 L h' (fun x => vs.lookup x) → News H0 L h' ((s.heap.objs.size, o) :: news) → ∀ (Pr : Obj → Prop) t, Pr o → St C ((L, nsP vs) :: (s.heap.objs.size, Pr) :: l ++ r) { s with heap := h', toks := t } := by
  have hp := hs.hp
  have nd := hp.nd
  have hL : L ∉ (l ++ r).map (·.1) := (List.nodup_cons.mp nd).1
  obtain ⟨xs, hx, hy⟩ := exact_of s.heap (l ++ r) fun p hq => (hp.own p (.tail _ hq)).1
  obtain ⟨⟨oL, hoL, hPL⟩, hBL⟩ := hp.own (L, nsP vs) (.head _)
  let bs := (List.range C.B.objs.size).filterMap fun b => (C.B.get? b).map fun o => (b, o)
  have hb : ∀ b o, C.B.get? b = some o → (b, o) ∈ bs := fun b o q => List.mem_filterMap.mpr ⟨b, List.mem_range.mpr (Heap.lt_size q), by rw [q]; rfl⟩
  have hb' : ∀ p ∈ bs, C.B.get? p.1 = some p.2 := fun p hq => by
    obtain ⟨b, _, q⟩ := List.mem_filterMap.mp hq
    cases q' : C.B.get? b with
    | none => rw [q'] at q; cases q
    | some o => rw [q'] at q; cases q; exact q'
  have F : Fr H0 L s.heap (fun x => vs.lookup x) := ⟨nsP.ns hoL hPL, (fun b o q => by rw [H0_get] at q; cases q), Nat.zero_le _⟩
  have N : News H0 L s.heap (xs ++ bs) := fun p hq => by
    rcases List.mem_append.mp hq with hq | hq
    · exact ⟨(hx p hq).1, fun q => hL (q ▸ (hx p hq).2), H0_get _⟩
    · refine ⟨hp.base _ _ (hb' p hq), fun q => ?_, H0_get _⟩
      have := hb' p hq
      have z : C.B.get? L = none := hBL
      rw [q, z] at this; cases this
  have back : ∀ h', Fr H0 L h' (fun x => vs.lookup x) → ∀ news', (∀ p ∈ xs ++ bs, p ∈ news') → News H0 L h' news' → Hp C.B h' ((L, nsP vs) :: l ++ r) := fun h' F' news' hsub N' => by
    refine ⟨fun b o q => (N' _ (hsub _ (List.mem_append_right _ (hb b o q)))).1, fun p hq => ?_, nd, hp.gm⟩
    refine ⟨?_, (hp.own p hq).2⟩
    rcases List.mem_cons.mp hq with rfl | hq
    · obtain ⟨o, es, ep, a1, a2, a3, a4⟩ := F'.ns
      exact ⟨o, a1, es, ep, a2, a3, a4⟩
    · obtain ⟨o, z1, z2⟩ := hy p hq
      exact ⟨o, (N' _ (hsub _ (List.mem_append_left _ z1))).1, z2⟩
  refine ⟨xs ++ bs, F, N, fun h' F' news' hsub N' t => ⟨back h' F' news' hsub N', hs.bare, hs.os⟩, fun h' o F' N' Pr t hP => ⟨?_, hs.bare, hs.os⟩⟩
  have B := back h' F' _ (fun p hq => .tail _ hq) N'
  have ne := hp.ne (get_size s.heap)
  refine Hp.swap (p := (s.heap.objs.size, Pr)) ⟨B.base, fun p hq => ?_, List.nodup_cons.mpr ⟨ne, B.nd⟩, B.gm⟩
  rcases List.mem_cons.mp hq with rfl | hq
  · refine ⟨⟨o, (N' _ (.head _)).1, hP⟩, ?_⟩
    cases q : C.B.get? s.heap.objs.size with
    | none => rfl
    | some o' => have := hp.base _ _ q; rw [get_size] at this; cases this
  · exact B.own p hq

/-! what a value's list holds, in any state of the ledger -/
def Seq (C : Cx) (l : Led) (a : Addr) (vs : List Value) : Prop := ∀ s r, St C (l ++ r) s → s.heap.IsList a vs.toArray
def Ints (C : Cx) (l : Led) (a : Addr) (ns : List Int) : Prop := ∀ s r, St C (l ++ r) s → ∃ vs, IntsAre vs ns ∧ s.heap.IsList a vs.toArray
theorem Seq.mem {a : Addr} {vs : List Value} (hm : (a, seqP "list" vs) ∈ l) : Seq C l a vs := fun s r hs => hs.isList hm
theorem Ints.mem {a : Addr} {ns : List Int} (hm : (a, intsP ns) ∈ l) : Ints C l a ns := fun s r hs => hs.ints hm
theorem Ints.old {a : Addr} {vs : List Value} {ns : List Int} (hl : C.B.IsList a vs.toArray) (hi : IntsAre vs ns) : Ints C l a ns := fun s r hs =>
  ⟨vs, hi, let ⟨o, ho, x⟩ := hl; ⟨o, hs.old ho, x⟩⟩

/-! calls of built-ins -/
theorem w_callWith_b {pos : Pos} {id : String} {x : Expr} {rest : List Expr} {first : List Value} {k : Value → Led → Prop}
    (h : W C A l (spliced (backTo pos (starEach (x :: rest) env))) (fun vs l' => W C A l' (call (.builtin id) (first ++ vs)) k e) e)
    (he : starEach (x :: rest) env = (false, eval x env) :: starEach rest env := by rfl) (hplain : (backTo pos (starEach (x :: rest) env)).any (·.1) = false := by rfl) : W C A l (callWith pos (.builtin id) first (backTo pos (starEach (x :: rest) env)) []) k e := fun r s hs => by
  refine callWith_builtin hplain ?_
  have h2 := h.step hs fun vs l' s' h' hs' => h' r s' hs'
  rw [he] at h2 ⊢
  exact evalArgs_plain h2
theorem w_callWith_t {pos : Pos} {T : String} {x : Expr} {rest : List Expr} {k : Value → Led → Prop}
    (h : W C A l (spliced (backTo pos (starEach (x :: rest) env))) (fun vs l' => W C A l' (call (.type T) vs) k e) e)
    (he : starEach (x :: rest) env = (false, eval x env) :: starEach rest env := by rfl) (hplain : (backTo pos (starEach rest env)).any (·.1) = false := by rfl) : W C A l (callWith pos (.type T) [] (backTo pos (starEach (x :: rest) env)) []) k e := fun r s hs =>
  PyProof.Rows.callWith_type1 (h.step hs fun vs l' s' h' hs' => h' r s' hs') he hplain
theorem w_abs {a : Int} {t : Tok} {k : Value → Led → Prop} (h : ∀ u, k (.int (if a < 0 then -a else a) u) l) : W C A l (call (.builtin "abs") [.int a t]) k e := fun r s hs => call_abs_int fun u tk => ⟨l, h u, hs.toks⟩
theorem w_min2 {a b : Int} {t u : Tok} {k : Value → Led → Prop} (hh : A.handled = none) (h : ∀ v, k (.int (min a b) v) l) : W C A l (call (.builtin "min") [.int a t, .int b u]) k e := fun r s hs =>
  min_two_ints hh fun h' tk hk => ⟨l, by
    by_cases q : b < a
    · rw [if_pos q]; have := h u; rwa [Int.min_eq_right (by omega)] at this
    · rw [if_neg q]; have := h t; rwa [Int.min_eq_left (by omega)] at this, hs.grow hk _⟩
theorem w_max2 {a b : Int} {t u : Tok} {k : Value → Led → Prop} (hh : A.handled = none) (h : ∀ v, k (.int (max a b) v) l) : W C A l (call (.builtin "max") [.int a t, .int b u]) k e := fun r s hs =>
  max_two_ints hh fun h' tk hk => ⟨l, by
    by_cases q : b > a
    · rw [if_pos q]; have := h u; rwa [Int.max_eq_right (by omega)] at this
    · rw [if_neg q]; have := h t; rwa [Int.max_eq_left (by omega)] at this, hs.grow hk _⟩
theorem ints_items {vs : List Value} {ns : List Int} (hi : IntsAre vs ns) : ∃ xs : Array (Int × Tok), vs.toArray = intItems xs ∧ xs.toList.map (·.1) = ns := by
  induction hi with
  | nil => exact ⟨#[], by simp [intItems], rfl⟩
  | cons x t _ ih =>
    obtain ⟨xs, a, b⟩ := ih
    refine ⟨(((x, t) :: xs.toList).toArray), ?_, by simp [b]⟩
    have := congrArg Array.toList a
    simp only [intItems, Array.toList_map] at this
    apply Array.toList_inj.mp
    simp only [intItems, Array.toList_map]
    simpa using this
theorem w_sum {a : Addr} {ns : List Int} {k : Value → Led → Prop} (hh : A.handled = none) (hI : Ints C l a ns) (h : ∀ t, k (.int ns.sum t) l) : W C A l (call (.builtin "sum") [.ref a]) k e := fun r s hs => by
  obtain ⟨vs, hi, hl⟩ := hI s r hs
  obtain ⟨xs, e1, e2⟩ := ints_items hi
  rw [e1] at hl
  refine sum_intListG hh hl fun h' tk t' hk => ⟨l, ?_, hs.grow hk _⟩
  rw [preSum_eq, e2, List.take_of_length_le (by have := congrArg List.length e2; simp at this; omega)]
  exact h _
theorem w_minL {a : Addr} {ns : List Int} {k : Value → Led → Prop} (hh : A.handled = none) (hI : Ints C l a ns) (hne : 0 < ns.length) (h : ∀ m t, m ∈ ns → (∀ x ∈ ns, m ≤ x) → k (.int m t) l) : W C A l (call (.builtin "min") [.ref a]) k e := fun r s hs => by
  obtain ⟨vs, hi, hl⟩ := hI s r hs
  obtain ⟨xs, e1, e2⟩ := ints_items hi
  rw [e1] at hl
  have hsz : xs.size = ns.length := by rw [← e2]; simp
  refine min_intList hh hl (by omega) fun v h' tk hv hk => ?_
  obtain ⟨t, rfl⟩ := intItems_at hv
  obtain ⟨h1, h2⟩ := argBest_lt (numAt xs) (xs.size - 1)
  refine ⟨l, h _ t ?_ fun x hx => ?_, hs.grow hk _⟩
  · rw [numAt_eq, e2]; exact getD_mem (by omega)
  · rw [← e2] at hx
    obtain ⟨j, hj, rfl⟩ := mem_getD hx
    rw [List.length_map, Array.length_toList] at hj
    rw [← numAt_eq]; exact h2 j (by omega)
theorem w_range1 {f : Ent} {n : Int} {t : Tok} {k : Value → Led → Prop} (h : ∀ a, k (.ref a) (f :: (a, rngP 0 n) :: l)) : W C A (f :: l) (call (.type "range") [.int n t]) k e := fun r s hs =>
  call_range_1 ⟨_, h _, hs.put (fun _ _ x => Heap.get?_push_of_some _ x) (get_size _) (Heap.get?_push_size _ rfl) ⟨_, _, _, rfl⟩ _⟩
theorem w_range2 {f : Ent} {a b : Int} {t u : Tok} {k : Value → Led → Prop} (h : ∀ c, k (.ref c) (f :: (c, rngP a b) :: l)) : W C A (f :: l) (call (.type "range") [.int a t, .int b u]) k e := fun r s hs =>
  call_range_2 ⟨_, h _, hs.put (fun _ _ x => Heap.get?_push_of_some _ x) (get_size _) (Heap.get?_push_size _ rfl) ⟨_, _, _, rfl⟩ _⟩
/-- [x, ..] * n, the list just made -/
def freshP (vs : List Value) (o : Obj) : Prop := ∃ n, o = { cls := .type "list", dict := none, data := .seq vs.toArray n, slots := #[] }
theorem w_newListF {f : Ent} {vs : List Value} {k : Value → Led → Prop} (h : ∀ a, k (.ref a) (f :: (a, freshP vs) :: l)) (hsz : vs.length ≤ sizeLine) : W C A (f :: l) (newList vs) k e :=
  fun _ _ hs => wpAny_newObj_type ⟨_, h _, hs.put (fun _ _ x => Heap.get?_push_of_some _ x) (get_size _) (Heap.get?_push_size _ rfl) ⟨_, rfl⟩ _⟩ (by show vs.toArray.size ≤ sizeLine; rw [List.size_toArray]; exact hsz)
theorem freshP.seq {vs : List Value} {o : Obj} (h : freshP vs o) : seqP "list" vs o := by obtain ⟨n, rfl⟩ := h; exact ⟨rfl, n, rfl⟩
theorem foldl_rep (v : Value) : ∀ (n : Nat) (acc : Array Value), List.foldl (fun x1 x2 => x1 ++ x2) acc (List.replicate n #[v]) = acc ++ (List.replicate n v).toArray
  | 0, acc => by simp
  | n + 1, acc => by
    rw [List.replicate_succ, List.foldl_cons, foldl_rep v n]
    apply Array.toList_inj.mp
    simp [List.replicate_succ]
theorem w_mul_list1 {L : Addr} {vs : Vars} {a : Addr} {v : Value} {n : Int} {t : Tok} {k : Value → Led → Prop} (hm : (a, freshP [v]) ∈ (L, nsP vs) :: l) (h0 : 0 ≤ n) (hn : n ≤ 1000000)
    (h : ∀ b, k (.ref b) ((L, nsP vs) :: (b, seqP "list" (List.replicate n.toNat v)) :: l)) : W C A ((L, nsP vs) :: l) (binaryOp .Mult (.ref a) (.int n t)) k e := fun r s hs => by
  obtain ⟨o, ho, m, rfl⟩ := hs.get hm
  obtain ⟨news, F, N, _, B⟩ := hs.FN
  refine mul_list F N ho (by omega) (by omega) (by simp; omega) fun h' F' N' => ⟨_, h _, ?_⟩
  refine B h' _ F' N' (seqP "list" (List.replicate n.toNat v)) s.toks ⟨rfl, 0, ?_⟩
  simp [foldl_rep]
theorem w_add_lists {L : Addr} {vs : Vars} {a b : Addr} {xs ys : List Value} {k : Value → Led → Prop} (ha : Seq C ((L, nsP vs) :: l) a xs) (hb : Seq C ((L, nsP vs) :: l) b ys) (hsz : xs.length + ys.length ≤ 1000000)
    (h : ∀ c, k (.ref c) ((L, nsP vs) :: (c, seqP "list" (xs ++ ys)) :: l)) : W C A ((L, nsP vs) :: l) (binaryOp .Add (.ref a) (.ref b)) k e := fun r s hs => by
  obtain ⟨news, F, N, _, B⟩ := hs.FN
  refine add_lists F N (ha s r hs) (hb s r hs) (fun h' F' N' => ⟨_, h _, B h' _ F' N' _ s.toks ⟨rfl, 0, rfl⟩⟩) (by rw [sizeLine_eq]; omega)
theorem w_add_ints {L : Addr} {vs : Vars} {a b : Addr} {xs ys : List Int} {k : Value → Led → Prop} (ha : Ints C ((L, nsP vs) :: l) a xs) (hb : Ints C ((L, nsP vs) :: l) b ys) (hsz : xs.length + ys.length ≤ 1000000)
    (h : ∀ c, k (.ref c) ((L, nsP vs) :: (c, intsP (xs ++ ys)) :: l)) : W C A ((L, nsP vs) :: l) (binaryOp .Add (.ref a) (.ref b)) k e := fun r s hs => by
  obtain ⟨news, F, N, _, B⟩ := hs.FN
  obtain ⟨us, i1, l1⟩ := ha s r hs
  obtain ⟨ws, i2, l2⟩ := hb s r hs
  refine add_lists F N l1 l2 (fun h' F' N' => ⟨_, h _, B h' _ F' N' _ s.toks ⟨us ++ ws, i1.append i2, rfl, 0, rfl⟩⟩) (by rw [sizeLine_eq]; have := i1.length; have := i2.length; omega)
/-- xs[:y] -/
theorem w_slice_upto {value hi : Expr} {p pos : Pos} {k : Value → Led → Prop}
    (h : W C A l (eval value env) (fun o l₁ => W C A l₁ (eval hi env) (fun v l₂ => ∃ f l₃ a ns y t, l₂ = f :: l₃ ∧ o = .ref a ∧ v = .int y t ∧ 0 ≤ y ∧ Ints C l₂ a ns ∧ ns.length ≤ 1000000 ∧ ∀ b, k (.ref b) (f :: (b, intsP (ns.take y.toNat)) :: l₃)) e) e)
    (ht : ∀ o r, letTemporaryGo value o r = pure () := by intro _ _; rfl) : W C A l (eval (.Subscript value (.Slice none (some hi) none p) pos) env) k e := fun r s hs => by
  refine wpAny_Subscript_list_slice (h.step hs fun o l₁ s₁ h₁ hs₁ => ?_) ht
  rw [evalPart_none]
  refine wpAny_pure ?_
  rw [evalPart_some]
  refine h₁.step hs₁ fun v l₂ s₂ h₂ hs₂ => ?_
  obtain ⟨f, l₃, a, ns, y, t, rfl, rfl, rfl, h0, hI, hsz, hk⟩ := h₂
  obtain ⟨vs, hi, hl⟩ := hI s₂ r hs₂
  refine ⟨a, vs.toArray, none, some y, rfl, hl, by rw [sizeLine_eq]; have := hi.length; simp; omega, .none, .int y t, _, hk _, ?_⟩
  have g : ∀ b o, s₂.heap.get? b = some o → (s₂.heap.push { cls := .type "slice", data := .fields #[.none, .int y t, .none] }).get? b = some o := fun _ _ x => Heap.get?_push_of_some _ x
  refine hs₂.put (fun b o x => Heap.get?_push_of_some _ (g b o x)) (by
    cases q : s₂.heap.get? (s₂.heap.objs.size + 1) with
    | none => rfl
    | some o => exact absurd (Heap.lt_size q) (Nat.not_lt.mpr (Nat.le_succ _))) (by have := Heap.get?_push_size (s₂.heap.push { cls := .type "slice", data := .fields #[.none, .int y t, .none] }) (o := { cls := .type "list", data := .seq (slicePick vs.toArray none (some y) none) }) rfl; rw [Heap.size_push] at this; exact this) ?_ s₂.toks
  exact ⟨(slicePick vs.toArray none (some y) none).toList, slice_ints_uptoW hi h0, rfl, 0, by simp⟩
/-- xs[y:] -/
theorem w_slice_from {value lo : Expr} {p pos : Pos} {k : Value → Led → Prop}
    (h : W C A l (eval value env) (fun o l₁ => W C A l₁ (eval lo env) (fun v l₂ => ∃ f l₃ a ns y t, l₂ = f :: l₃ ∧ o = .ref a ∧ v = .int y t ∧ 0 ≤ y ∧ Ints C l₂ a ns ∧ ns.length ≤ 1000000 ∧ ∀ b, k (.ref b) (f :: (b, intsP (ns.drop y.toNat)) :: l₃)) e) e)
    (ht : ∀ o r, letTemporaryGo value o r = pure () := by intro _ _; rfl) : W C A l (eval (.Subscript value (.Slice (some lo) none none p) pos) env) k e := fun r s hs => by
  refine wpAny_Subscript_list_slice (h.step hs fun o l₁ s₁ h₁ hs₁ => ?_) ht
  rw [evalPart_some]
  refine h₁.step hs₁ fun v l₂ s₂ h₂ hs₂ => ?_
  rw [evalPart_none]
  refine wpAny_pure ?_
  obtain ⟨f, l₃, a, ns, y, t, rfl, rfl, rfl, h0, hI, hsz, hk⟩ := h₂
  obtain ⟨vs, hi, hl⟩ := hI s₂ r hs₂
  refine ⟨a, vs.toArray, some y, none, rfl, hl, by rw [sizeLine_eq]; have := hi.length; simp; omega, .int y t, .none, _, hk _, ?_⟩
  have g : ∀ b o, s₂.heap.get? b = some o → (s₂.heap.push { cls := .type "slice", data := .fields #[.int y t, .none, .none] }).get? b = some o := fun _ _ x => Heap.get?_push_of_some _ x
  refine hs₂.put (fun b o x => Heap.get?_push_of_some _ (g b o x)) (by
    cases q : s₂.heap.get? (s₂.heap.objs.size + 1) with
    | none => rfl
    | some o => exact absurd (Heap.lt_size q) (Nat.not_lt.mpr (Nat.le_succ _))) (by have := Heap.get?_push_size (s₂.heap.push { cls := .type "slice", data := .fields #[.int y t, .none, .none] }) (o := { cls := .type "list", data := .seq (slicePick vs.toArray (some y) none none) }) rfl; rw [Heap.size_push] at this; exact this) ?_ s₂.toks
  exact ⟨(slicePick vs.toArray (some y) none none).toList, slice_ints_fromW hi h0, rfl, 0, by simp⟩
end
end Mine
end
/-! M6 -/
section
open PySem PySem.W PySem.Calls PyProof.Rows
set_option maxRecDepth 100000
set_option linter.all false
namespace Mine
theorem look_eq {x : Str} {v : Value} {vs : Vars} : (put x v vs).lookup x = some v := by rw [lookup_put, if_pos rfl]
theorem look_ne {x y : Str} {u v : Value} {vs : Vars} (h : y ≠ x) (hv : vs.lookup y = some v) : (put x u vs).lookup y = some v := by rw [lookup_put, if_neg h, hv]
section
variable {α β : Type} {C : Cx} {A : Around} {l : Led} {e : Value → Led → Prop} {env : Env}

theorem w_For_ints {target iter : Expr} {body : List Stmt} {pos : Pos} {k : Flow → Led → Prop} (hh : A.handled = none) (ns : List Int) (I : Addr → Nat → Led → Prop)
    (h : W C A l (eval iter env) (fun v l₁ => ∃ a, v = .ref a ∧ I a 0 l₁ ∧ ∀ i l₂, I a i l₂ → Ints C l₂ a ns) e)
    (turn : ∀ a i n t l₂, I a i l₂ → ns[i]? = some n → W C A l₂ (assign target env (.int n t)) (fun _ l₃ => W C A l₃ (execs body env) (fun f l₄ => match f with | .next | .cont => I a (i + 1) l₄ | .brk => k .next l₄ | .ret v => k (.ret v) l₄) noE) noE)
    (done : ∀ a l₂, I a ns.length l₂ → k .next l₂)
    (hs : ∀ x, foldedSetIterable iter env x = pure x := by intro _; rfl) (ht : ∀ it v, letOwnedTupleGo target it v = pure () := by intro _ _; rfl) : W C A l (exec (.For target iter body [] pos) env) k e := fun r s hs' => by
  refine wpAny_For (h.step hs' fun v l₁ s₁ h₁ hs₁ => ?_) hs
  obtain ⟨a, rfl, hI, hm⟩ := h₁
  obtain ⟨vs, hi, hl⟩ := hm _ _ hI _ _ hs₁
  refine wpAny_pyIter_list hl ?_
  refine codeAny_for (n := ns.length) (val := fun i v => ∃ n t, ns[i]? = some n ∧ v = .int n t) (I a) (listIterP a) (r := r) (k := k) ?_ ?_ (fun i v l₂ _ hI hv => by obtain ⟨n, t, hn, rfl⟩ := hv; exact turn a i n t l₂ hI hn) (done a) (fun f l₂ s' hk hs' => ⟨l₂, hk, hs'⟩) hI
    ⟨hs₁.hp.newMid (fun _ _ x => Heap.get?_push_of_some _ x) (get_size _) (Heap.get?_push_size _ rfl) ⟨rfl, rfl⟩, hs₁.bare, hs₁.os⟩ (fun v => ht _ v)
  · intro i l₂ s₂ Q E hi' hI₂ hs₂ hQ
    obtain ⟨⟨o, ho, hc, hd⟩, _⟩ := hs₂.hp.own (s₁.heap.objs.size, listIterP a i) (List.mem_append_right _ (.head _))
    obtain ⟨vs', hi', hl'⟩ := hm _ _ hI₂ _ _ hs₂
    obtain ⟨t, ht'⟩ := IntsAre.get' hi' i (n := ns[i]) (by simp)
    exact wpAny_pyNext_list_item ⟨o, ho, hc, hd⟩ hl' (x := .int ns[i] t) (by simpa using ht') fun h' hit hb => hQ _ h' s₂.toks ⟨_, _, by simp, rfl⟩ hb (let ⟨o', ho', hc', hd'⟩ := hit; ⟨o', ho', hc', hd'⟩)
  · intro l₂ s₂ Q E hI₂ hs₂ hQ
    obtain ⟨⟨o, ho, hc, hd⟩, _⟩ := hs₂.hp.own (s₁.heap.objs.size, listIterP a ns.length) (List.mem_append_right _ (.head _))
    obtain ⟨vs', hi', hl'⟩ := hm _ _ hI₂ _ _ hs₂
    exact wpAny_pyNext_list_end hh ⟨o, ho, hc, hd⟩ hl' (by have := hi'.length; simp; omega) fun h' hx => hQ h' s₂.toks hx
end
end Mine
end
/-! B1 -/
section
open PySem PySem.W PySem.Calls PyProof.Rows
set_option maxRecDepth 100000
set_option linter.all false
namespace Mine
local macro_rules | `(tactic| walk_at "lk") => `(tactic| first | exact look_eq | (refine look_ne (by decide) ?_; walk_at "lk") | assumption | exact rfl)
/-! a small row of our own over the same text: _law_seed of an empty script. Its head runs the top once; what the top leaves is read off there (A1) -/
def seedR : OpenRow := { prog := PySem.Challenge.pw_fq0028_01, name := Str.ofString "_law_seed", records := [], args := [.list .int], returns := .list .int, pre := .not (.lt (.lit (.int 0)) (.len (.arg 0))), post := .lit (.bool true), raises := [], mutates := [], within := [], unshared := true, same := none, under := ⟨true, true, true⟩, after := ⟨true, true, true⟩, apart := false, loose := [], makers := [], pinned := true, writes := false, keeps := [] }
theorem noCell_of {names : List (Str × NameKind)} (h : (names.all fun x => x.2 != .cell) = true) : ∀ x ∈ names, x.2 ≠ .cell := fun x hx => by simpa using List.all_eq_true.mp h x hx
set_option maxHeartbeats 8000000
theorem seed_fn {C : Cx} {A : Around} {mg mb : Str → Option Value} {R : Result → Led → Prop} {a a₀ : Addr} {ns : List Int} {o : Obj} {d : DefRec} {kwd : List (Str × Expr)} {pm cd doc : Value} (hdef : defOf PySem.Challenge.pw_fq0028_01 (Str.ofString "_law_seed") = some (d, kwd))
    (T : Top0 C mg mb) (habs : mg ("abs" : Str) = none) (hab : mb ("abs" : Str) = some (.builtin "abs")) (ho : C.B.get? a₀ = some o) (hdt : o.data = .func { docDef d.name d.params d.body d.scope pm cd doc with defaults := .none, kwdefaults := .none }) (hcd : C.B.CodeRec cd d.name)
    (hA : A.depth < recursionLimit) (hh : A.handled = none) (hI : Ints C [] a ns) (hn : ns.length ≤ 63)
    (h : ∀ b x, R (.ok (.ret (.ref b))) [(b, intsP [x])]) : CW C A [] (.call (.ref a₀) ⟨[.ref a], []⟩) R := by
  obtain ⟨dn, dp, db, ds, dq⟩ := d
  obtain ⟨e1, -⟩ := Prod.mk.inj (Option.some.inj ((rfl : defOf PySem.Challenge.pw_fq0028_01 (Str.ofString "_law_seed") = some (⟨_, _, _, _, _⟩, _)).symm.trans hdef))
  obtain ⟨rfl, rfl, rfl, rfl, rfl⟩ := DefRec.mk.inj e1
  dsimp only at hdt hcd
  refine cw_def T.lim hA ho hdt hcd rfl rfl (noCell_of rfl) (locs rfl) fun L => ?_
  have hI' : ∀ l', Ints C l' a ns := fun l' s r hs => hI s (l' ++ r) hs
  refine w_execs_cons (w_Assign_Name (w_Const_int fun t1 => w_storeL rfl ?_))
  refine w_execs_cons (w_For_ints hh (ns.take 24) (fun b i l₂ => ∃ vs x t, l₂ = (L, nsP vs) :: (b, intsP (ns.take 24)) :: [] ∧ vs.lookup ("seed" : Str) = some (Value.int x t)) (w_slice_upto ?_) ?_ ?_)
  · refine w_NameL rfl (by walk_at "lk") (w_Const_int fun t2 => ⟨_, _, a, ns, 24, _, rfl, rfl, rfl, by decide, hI' _, by omega, fun b => ⟨b, rfl, ⟨_, 17, t1, rfl, by walk_at "lk"⟩, ?_⟩⟩)
    rintro i l₂ ⟨vs, x, t, rfl, h1⟩
    exact Ints.mem (.tail _ (.head _))
  · rintro b i n t l₂ ⟨vs, x, t', rfl, h1⟩ hn'
    refine w_assign_Name (w_storeL rfl ?_)
    refine w_execs_cons (w_Assign_Name (w_BinOp (w_BinOp (w_BinOp (w_BinOp (w_NameL rfl (by walk_at "lk") (w_Const_int fun t1 => w_mul_int (IntMulOk.of_right (by decide)) fun t2 => ?_)))))))
    refine w_BinOp (w_Call_Name (w_NameB T habs hab (w_callWith_b (w_items_cons (w_NameL rfl (by walk_at "lk") (w_items_nil (w_abs fun u => ?_)))))))
    refine w_Const_int fun t3 => w_mod_int (by decide) fun t4 => w_add_int fun t5 => w_Const_int fun t6 => w_add_int fun t7 => w_Const_int fun t8 => w_mod_int (by decide) fun t9 => ?_
    refine w_storeL rfl (w_execs_nil ?_)
    exact ⟨_, _, _, rfl, by walk_at "lk"⟩
  · rintro b l₂ ⟨vs, x, t', rfl, h1⟩
    refine w_execs_cons (w_Return (w_List_ (w_items_cons (w_NameL rfl h1 (w_items_nil (w_newSeq (fun b' => ?_) ?_))))))
    · exact ⟨[(b', intsP [x])], .pick (.tail .head) (fun o ho => ⟨_, .cons _ _ .nil, ho⟩) .nil, h b' x⟩
    · simp [sizeLine_eq]
theorem seed_walk {q : Program} {loose : List Str} {XP : (Str → Option Value) → Heap → Prop} {YP : World → Heap → Prop} {d : DefRec} {kwd : List (Str × Expr)} (hdef : defOf PySem.Challenge.pw_fq0028_01 (Str.ofString "_law_seed") = some (d, kwd))
    (habs : ∀ {mean : ExcName → Option Value} {mg mb : Str → Option Value} {h : Heap}, Top q (looseW q loose) mean mg mb h → mg ("abs" : Str) = none) (himp : importsNone q = true) : WalkO q loose XP YP seedR.toRowW d kwd (fun f vs => PySem.call f vs) := by
  intro w s₀ s₁ mg mb G Y a₀ o pm cd doc dV kV ho hd hcd hD hmg hg args vals as hpre hlay hrd hwl hlo
  w_on
  wrow_args hpre hlay hrd hwl hlo
  rename_i ns _ _ _ _ _ _ _ a vs _ hL _ _ _ hI _ hcond
  have hn : ns.length ≤ 63 := by omega
  have T := G.T
  have e1 : dV = .none := by
    rcases hD.pos with ⟨_, e⟩ | ⟨e, _⟩
    · exact e
    · obtain ⟨dn, dp, db, ds, dq⟩ := d
      obtain ⟨e1, -⟩ := Prod.mk.inj (Option.some.inj ((rfl : defOf PySem.Challenge.pw_fq0028_01 (Str.ofString "_law_seed") = some (⟨_, _, _, _, _⟩, _)).symm.trans hdef))
      obtain ⟨rfl, rfl, rfl, rfl, rfl⟩ := DefRec.mk.inj e1
      exact (e rfl).elim
  have e2 : kV = .none := by
    rcases hD.kw with ⟨_, e⟩ | ⟨e, _⟩
    · exact e
    · obtain ⟨-, rfl⟩ := Prod.mk.inj (Option.some.inj ((rfl : defOf PySem.Challenge.pw_fq0028_01 (Str.ofString "_law_seed") = some _).symm.trans hdef))
      exact (e rfl).elim
  subst e1 e2
  let C : Cx := ⟨w, s₁.heap, s₁.os, AllBare⟩
  have T0 : Top0 C mg mb := ⟨T.g, T.b, T.nolimit⟩
  have hs0 : St C ([] ++ []) s₁ := by
    refine ⟨⟨fun _ _ e => e, fun p hp => (nomatch hp), List.nodup_nil, ?_⟩, AllBare.of_eq hg, rfl⟩
    obtain ⟨_, ⟨_, ⟨o, _, _, ho, _⟩, _⟩, _⟩ := T.seer himp
    show (s₁.heap.get? sysModules).isSome = true
    rw [ho]; rfl
  have key : W C callerA [] (PySem.call (.ref a₀) [.ref a]) (fun v l' => ∃ b x, v = .ref b ∧ l' = [(b, intsP [x])]) noE :=
    w_call (seed_fn (o := o) (ns := ns) hdef T0 (habs T) ((T.builtins _ (by decide)).trans (by rfl)) ho hd hcd (by decide) rfl (Ints.old hL hI) hn fun b x => ⟨b, x, rfl, rfl⟩)
  refine wpAny_mono (key [] s₁ hs0) (fun v s' ⟨l', ⟨b, x, e1, e2⟩, hs'⟩ => ?_) fun e s' ⟨_, z, _⟩ => z.elim
  subst e1 e2
  obtain ⟨⟨ob, hob, us, hu, hc, n, hdt⟩, hfresh⟩ := hs'.hp.own (b, intsP [x]) (.head _)
  obtain ⟨t, rfl⟩ : ∃ t, us = [.int x t] := by
    cases hu with
    | cons _ t h => cases h; exact ⟨t, rfl⟩
  refine ⟨.inl ⟨.ref b, .list [.int x], [b], rfl, fun _ => rfl, .list hob hc hdt (.cons (.int x t) .nil), rfl, fun _ => ⟨by simp, fun c hc' => ?_⟩⟩, .of_keep fun c oc e => hs'.hp.base c oc e, hs'.os, hs'.bare⟩
  rw [List.mem_singleton.mp hc']
  exact hfresh
end Mine
end
/-! B2 -/
section
open PySem PySem.W PySem.Calls PyProof.Rows
set_option maxRecDepth 100000
set_option linter.all false
namespace Mine
set_option maxHeartbeats 8000000
theorem looks_of {r : OpenRow} (h : r.wellSaid = true) : looksOpen r.prog = true := by
  unfold OpenRow.wellSaid OpenRow.partSaid at h
  simp only [Bool.and_eq_true] at h
  exact h.1.1.1.1.1.1.1.1.1.1.1.1.1.1.1
theorem seed_said_of (h : PySem.Challenge.rw_fq0028_01.row.wellSaid = true) : seedR.wellSaid = true := by
  have hl : looksOpen seedR.prog = true := looks_of h
  unfold OpenRow.wellSaid OpenRow.partSaid
  rw [hl]
  decide +kernel
end Mine
end
/-! T1 -/
section
open PySem PySem.W PyProof.Rows
set_option linter.all false
namespace Mine
/-! The head lays for each object that it meets a quick twin, and for each state of the top one more, whose proof grows with the square of the twinned objects: 444 MB in all.
The names below stand where the twins of tuples, codes and functions would be laid: so these get none, and the head stays at 55 MB. -/
theorem top.tw5667650583090716360 : True := trivial
theorem top.tw8069049012094873728 : True := trivial
theorem top.tw4292522238394942308 : True := trivial
theorem top.tw12520176845478516731 : True := trivial
theorem top.tw3704924817259034979 : True := trivial
theorem top.tw6733462575251390621 : True := trivial
theorem top.tw1139600151236580504 : True := trivial
theorem top.tw8374938949443298174 : True := trivial
theorem top.tw2218668502564051296 : True := trivial
theorem top.tw6468107147075657394 : True := trivial
theorem top.tw6143595290313323761 : True := trivial
theorem top.tw7439886461454727182 : True := trivial
theorem top.tw8985709366574770022 : True := trivial
theorem top.tw5240389563564037448 : True := trivial
theorem top.tw2782073688633401757 : True := trivial
theorem top.tw11468358511172941013 : True := trivial
theorem top.tw5483185372664623402 : True := trivial
theorem top.tw12488038555639769405 : True := trivial
theorem top.tw15008207993883188931 : True := trivial
theorem top.tw657111498738832265 : True := trivial
theorem top.tw8455645898260960030 : True := trivial
theorem top.tw1897025099450329940 : True := trivial
theorem top.tw2685745773621513544 : True := trivial
theorem top.tw5790966258338625528 : True := trivial
theorem top.tw13990698242589431971 : True := trivial
theorem top.tw9456006794991739263 : True := trivial
theorem top.tw9723989250521069032 : True := trivial
theorem top.tw2104741419117168686 : True := trivial
theorem top.tw17709558473723601244 : True := trivial
theorem top.tw14645912567700417926 : True := trivial
theorem top.tw6756868429301003459 : True := trivial
theorem top.tw10836530967397901330 : True := trivial
theorem top.tw3473093325804163894 : True := trivial
theorem top.tw1236304545764765349 : True := trivial
theorem top.tw1551491737661789689 : True := trivial
theorem top.tw9514800995652322822 : True := trivial
theorem top.tw16663787254893796032 : True := trivial
theorem top.tw908825868028484722 : True := trivial
theorem top.tw14214649769353832295 : True := trivial
theorem top.tw7108139096449030536 : True := trivial
theorem top.tw16659674399394625376 : True := trivial
theorem top.tw10317287140990440334 : True := trivial
theorem top.tw2105017259488925948 : True := trivial
theorem top.tw4131498621145694574 : True := trivial
theorem top.tw9378254376102152143 : True := trivial
theorem top.tw1304757597395314617 : True := trivial
theorem top.tw2910609919460849807 : True := trivial
theorem top.tw17160434163424456010 : True := trivial
theorem top.tw2896640688883821729 : True := trivial
theorem top.tw17366924284538989914 : True := trivial
theorem top.tw2446586112883488508 : True := trivial
theorem top.tw13901205277877782832 : True := trivial
theorem top.tw16258771989139608452 : True := trivial
theorem top.tw15169761463676818070 : True := trivial
theorem top.tw8628236747792435071 : True := trivial
theorem top.tw12865423146811077096 : True := trivial
theorem top.tw13759081321499198575 : True := trivial
theorem top.tw17785818512168800811 : True := trivial
theorem top.tw11917448952958348678 : True := trivial
theorem top.tw10768140376307724812 : True := trivial
theorem top.tw6754034310392073148 : True := trivial
theorem top.tw6345181382737326586 : True := trivial
theorem top.tw5379463472682653830 : True := trivial
theorem top.tw16204670001084760307 : True := trivial
theorem top.tw3603051052118289896 : True := trivial
theorem top.tw2565563351968343141 : True := trivial
theorem top.tw7702549930194098719 : True := trivial
theorem top.tw3347922821702440152 : True := trivial
theorem top.tw9854493187847425173 : True := trivial
theorem top.tw3764141193738528704 : True := trivial
theorem top.tw3901323768455840569 : True := trivial
theorem top.tw11765434788231831023 : True := trivial
theorem top.tw16793365374058956912 : True := trivial
theorem top.tw8477350598983701453 : True := trivial
theorem top.tw8143265674769528471 : True := trivial
theorem top.tw5571243529121415630 : True := trivial
theorem top.tw18330144715369815205 : True := trivial
theorem top.tw5072613934562372735 : True := trivial
theorem top.tw5444345374180229054 : True := trivial
theorem top.tw18229784292405043182 : True := trivial
theorem top.tw7249705126575804556 : True := trivial
theorem top.tw10219655510578893393 : True := trivial
theorem top.tw18016941796951652274 : True := trivial
theorem top.tw6812286434817487243 : True := trivial
theorem top.tw16526113553464788058 : True := trivial
theorem top.tw16357309143852133390 : True := trivial
theorem top.tw4977374598719398275 : True := trivial
theorem top.tw11842451847925006096 : True := trivial
theorem top.tw10180943152330463961 : True := trivial
theorem top.tw17434308400759680031 : True := trivial
theorem top.tw12329864456250741675 : True := trivial
theorem top.tw1293289543672728842 : True := trivial
theorem top.tw15262977503361262276 : True := trivial
theorem top.tw1312780250039628139 : True := trivial
theorem top.tw10350142207108426684 : True := trivial
theorem top.tw11263669390164206178 : True := trivial
theorem top.tw2424727229257130912 : True := trivial
theorem top.tw15234444972351076034 : True := trivial
theorem top.tw650146959520709813 : True := trivial
theorem top.tw4181406029030974548 : True := trivial
theorem top.tw1990408344712342385 : True := trivial
theorem top.tw5303079699428457377 : True := trivial
theorem top.tw16656781636731879198 : True := trivial
theorem top.tw13178059906610389163 : True := trivial
theorem top.tw5163715390036670947 : True := trivial
theorem top.tw9486757043174368735 : True := trivial
theorem top.tw11828478481110319688 : True := trivial
theorem top.tw682014064893787789 : True := trivial
theorem top.tw10885322118463539834 : True := trivial
theorem top.tw3423177367516475676 : True := trivial
theorem top.tw17921175469725437805 : True := trivial
theorem top.tw13091174067606910046 : True := trivial
theorem top.tw3389129807090800087 : True := trivial
theorem top.tw18236624570336363585 : True := trivial
theorem top.tw18386854893347148238 : True := trivial
theorem top.tw16844067456194695469 : True := trivial
theorem top.tw14309182039651084788 : True := trivial
theorem top.tw65929781887070819 : True := trivial
theorem top.tw1880918794155911695 : True := trivial
theorem top.tw15743347864482560488 : True := trivial
theorem top.tw17886615442053742456 : True := trivial
theorem top.tw4547113066930546574 : True := trivial
theorem top.tw13830271770371739309 : True := trivial
theorem top.tw10505224238033894595 : True := trivial
theorem top.tw11384800866962632227 : True := trivial
theorem top.tw15166127791298437107 : True := trivial
theorem top.tw17391775962083533515 : True := trivial
theorem top.tw5105846836358774362 : True := trivial
theorem top.tw9936536881743500907 : True := trivial
theorem top.tw479018264907363369 : True := trivial
theorem top.tw7675417749720738473 : True := trivial
theorem top.tw8372035913837991250 : True := trivial
theorem top.tw17431308487043992063 : True := trivial
theorem top.tw8150499350492408157 : True := trivial
theorem top.tw2835187731363253809 : True := trivial
theorem top.tw4586369020291528013 : True := trivial
theorem top.tw2167618695193717045 : True := trivial
theorem top.tw9684699057600944294 : True := trivial
theorem top.tw16739174306508632950 : True := trivial
theorem top.tw7191137982244381804 : True := trivial
theorem top.tw7892811243723596987 : True := trivial
theorem top.tw864819663365544661 : True := trivial
theorem top.tw18137363274558907533 : True := trivial
theorem top.tw450566749975022562 : True := trivial
theorem top.tw15003358760713899574 : True := trivial
theorem top.tw1792224892710378537 : True := trivial
theorem top.tw15024216053386777475 : True := trivial
theorem top.tw14319750081657075607 : True := trivial
theorem top.tw9250549774821547598 : True := trivial
theorem top.tw9111341701214203307 : True := trivial
theorem top.tw3418912648064540324 : True := trivial
theorem top.tw3698484244233388692 : True := trivial
theorem top.tw1107088416671253978 : True := trivial
theorem top.tw4395346232132896567 : True := trivial
theorem top.tw2422214840401454511 : True := trivial
theorem top.tw10512489437642701289 : True := trivial
theorem top.tw3843465024185675410 : True := trivial
theorem top.tw679676368844127653 : True := trivial
theorem top.tw7314081408670574914 : True := trivial
theorem top.tw5005317128667965579 : True := trivial
theorem top.tw1536312445118062077 : True := trivial
theorem top.tw11735923915801401282 : True := trivial
theorem top.tw12031303853943761323 : True := trivial
theorem top.tw1137235612907882162 : True := trivial
theorem top.tw7980593446034420393 : True := trivial
theorem top.tw4566856676736034171 : True := trivial
theorem top.tw11840804652615492782 : True := trivial
theorem top.tw12193372218175167114 : True := trivial
theorem top.tw8640417174963836015 : True := trivial
theorem top.tw2248615004971204189 : True := trivial
theorem top.tw5705847716771211507 : True := trivial
theorem top.tw5536038536531405202 : True := trivial
theorem top.tw16128028805679967097 : True := trivial
theorem top.tw9806617501295524395 : True := trivial
theorem top.tw14562072457839527476 : True := trivial
theorem top.tw16487795177693110071 : True := trivial
theorem top.tw17336350906216195740 : True := trivial
theorem top.tw16721989186581611170 : True := trivial
theorem top.tw14277827659066580250 : True := trivial
theorem top.tw6185767955086497853 : True := trivial
theorem top.tw5535988348211436712 : True := trivial
theorem top.tw18444284757076569719 : True := trivial
theorem top.tw1595350964381101642 : True := trivial
theorem top.tw16307090917165222298 : True := trivial
theorem top.tw15690355392615275366 : True := trivial
theorem top.tw9287724387753133302 : True := trivial
theorem top.tw5380135791562185454 : True := trivial
theorem top.tw10239475785048107997 : True := trivial
theorem top.tw11889597043561437815 : True := trivial
theorem top.tw1970226141267450039 : True := trivial
theorem top.tw3695669965767098725 : True := trivial
theorem top.tw8746941081350896204 : True := trivial
theorem top.tw5958459099580689026 : True := trivial
theorem top.tw4231656071295301730 : True := trivial
theorem top.tw8716659796364181309 : True := trivial
theorem top.tw439095664309466517 : True := trivial
theorem top.tw9908739903337578654 : True := trivial
theorem top.tw15873491276070852124 : True := trivial
theorem top.tw9777375502002234229 : True := trivial
theorem top.tw2511388062720753356 : True := trivial
theorem top.tw15506382734810221985 : True := trivial
theorem top.tw14510474431719978317 : True := trivial
theorem top.tw5151264090131730833 : True := trivial
theorem top.tw8347795973495727564 : True := trivial
theorem top.tw8529706226740600733 : True := trivial
theorem top.tw12603656398198563500 : True := trivial
theorem top.tw16759193500350966715 : True := trivial
theorem top.tw2479311146797828861 : True := trivial
theorem top.tw3392894077380570524 : True := trivial
theorem top.tw5071412327939943321 : True := trivial
theorem top.tw16326585352142918636 : True := trivial
theorem top.tw17485797064793806194 : True := trivial
theorem top.tw788273225186049534 : True := trivial
theorem top.tw11093206078495630212 : True := trivial
theorem top.tw11961350612320602522 : True := trivial
theorem top.tw5764397981948056254 : True := trivial
theorem top.tw8722410040271553984 : True := trivial
theorem top.tw13007260833023717011 : True := trivial
theorem top.tw5184316447030610940 : True := trivial
theorem top.tw7230903212357928904 : True := trivial
theorem top.tw9429129263215473398 : True := trivial
theorem top.tw7781603739153083191 : True := trivial
theorem top.tw9622763587122877835 : True := trivial
theorem top.tw5691087667936548404 : True := trivial
theorem top.tw16770000883354449096 : True := trivial
theorem top.tw17566744294597663674 : True := trivial
theorem top.tw13571448547899197161 : True := trivial
theorem top.tw10353446712322349686 : True := trivial
theorem top.tw13915387964903991752 : True := trivial
theorem top.tw4758991174889311326 : True := trivial
theorem top.tw12218787953657430602 : True := trivial
theorem top.tw10892192912376451201 : True := trivial
theorem top.tw7360070258638436176 : True := trivial
theorem top.tw16085473023203611486 : True := trivial
theorem top.tw8975108423156789194 : True := trivial
theorem top.tw12443789822770055382 : True := trivial
theorem top.tw17916939684832112104 : True := trivial
theorem top.tw13762209637798829341 : True := trivial
theorem top.tw6276886402236213621 : True := trivial
theorem top.tw2731995056826638727 : True := trivial
theorem top.tw12734148187753135964 : True := trivial
theorem top.tw6594526768476950845 : True := trivial
theorem top.tw12033610942823940228 : True := trivial
theorem top.tw15029563650323070435 : True := trivial
theorem top.tw6432616177841060128 : True := trivial
theorem top.tw14065501367340364311 : True := trivial
theorem top.tw17226846203573267761 : True := trivial
theorem top.tw5472114250418208992 : True := trivial
theorem top.tw2529601377429677153 : True := trivial
theorem top.tw913810622518204374 : True := trivial
theorem top.tw7188692134583612594 : True := trivial
theorem top.tw6480638250107114081 : True := trivial
theorem top.tw4345882819342510227 : True := trivial
theorem top.tw4730768163679209282 : True := trivial
theorem top.tw10248073240650190340 : True := trivial
theorem top.tw9822532417609929294 : True := trivial
theorem top.tw8243169916365450940 : True := trivial
theorem top.tw9229161468869434483 : True := trivial
theorem top.tw7926136590108786892 : True := trivial
theorem top.tw12751139281825843639 : True := trivial
theorem top.tw8687831153774095200 : True := trivial
theorem top.tw5969987386201385886 : True := trivial
theorem top.tw1867163669062818997 : True := trivial
theorem top.tw5850499497852442878 : True := trivial
theorem top.tw7438316178485321408 : True := trivial
theorem top.tw17104280840954017025 : True := trivial
theorem top.tw4778504736273101941 : True := trivial
theorem top.tw17138679496734019247 : True := trivial
theorem top.tw1007256952997204316 : True := trivial
theorem top.tw32865551896584297 : True := trivial
theorem top.tw8720027088463671890 : True := trivial
theorem top.tw408693308722189009 : True := trivial
theorem top.tw16994376123345812558 : True := trivial
theorem top.tw15833254233020807429 : True := trivial
theorem top.tw7138430578808182737 : True := trivial
theorem top.tw15240379268576122478 : True := trivial
theorem top.tw419386298079150103 : True := trivial
theorem top.tw6619077023068780702 : True := trivial
theorem top.tw16441578918305252802 : True := trivial
theorem top.tw17377934564383891116 : True := trivial
theorem top.tw1886144042066472794 : True := trivial
theorem top.tw11862920568910387298 : True := trivial
theorem top.tw6240597372359344220 : True := trivial
theorem top.tw3605147657684821369 : True := trivial
theorem top.tw8163011886388404031 : True := trivial
theorem top.tw13576654369662418201 : True := trivial
theorem top.tw17337222044243258637 : True := trivial
theorem top.tw15491019914900986176 : True := trivial
theorem top.tw12521587561680038787 : True := trivial
theorem top.tw17489137672866753323 : True := trivial
theorem top.tw8376602336982375544 : True := trivial
theorem top.tw5938710623178642122 : True := trivial
theorem top.tw7714757148821155124 : True := trivial
theorem top.tw6509661102738689577 : True := trivial
theorem top.tw2879243146029554076 : True := trivial
theorem top.tw1117029662656177491 : True := trivial
theorem top.tw5088376156974544275 : True := trivial
theorem top.tw14114763150826241340 : True := trivial
theorem top.tw13160728816969591200 : True := trivial
theorem top.tw4269943819458244956 : True := trivial
theorem top.tw9572121911122791463 : True := trivial
theorem top.tw6900192571869012848 : True := trivial
theorem top.tw2404127567346610951 : True := trivial
theorem top.tw231919175587332662 : True := trivial
theorem top.tw16882738081622503669 : True := trivial
theorem top.tw13303987763403120937 : True := trivial
theorem top.tw15766219058475960075 : True := trivial
theorem top.tw7669972870368051581 : True := trivial
theorem top.tw4023782888421380502 : True := trivial
theorem top.tw965346924571166687 : True := trivial
theorem top.tw443688265066261825 : True := trivial
theorem top.tw1149218181149386328 : True := trivial
theorem top.tw16354691339474908690 : True := trivial
theorem top.tw3657543652526465285 : True := trivial
theorem top.tw17253974145678602553 : True := trivial
theorem top.tw9989051494896439582 : True := trivial
theorem top.tw16345600495311464638 : True := trivial
theorem top.tw2985252069258134486 : True := trivial
theorem top.tw10010203797729834575 : True := trivial
theorem top.tw14996135249977892343 : True := trivial
theorem top.tw12322150652039217950 : True := trivial
theorem top.tw4870201379501977574 : True := trivial
theorem top.tw9776112803966576748 : True := trivial
theorem top.tw15996449679401966620 : True := trivial
theorem top.tw1981915974141516567 : True := trivial
theorem top.tw15755962551988530747 : True := trivial
theorem top.tw1814787853859245837 : True := trivial
theorem top.tw17301418000779511131 : True := trivial
theorem top.tw18415971267559613563 : True := trivial
theorem top.tw6553124395847675662 : True := trivial
theorem top.tw893595371883084398 : True := trivial
theorem top.tw2394881407643693062 : True := trivial
theorem top.tw13188079976727067231 : True := trivial
theorem top.tw8155677260382574692 : True := trivial
theorem top.tw13805588055438515702 : True := trivial
theorem top.tw12841572728458906558 : True := trivial
theorem top.tw10617020205504526918 : True := trivial
theorem top.tw18362437273917381549 : True := trivial
theorem top.tw11939397010239605379 : True := trivial
theorem top.tw13629508380711501469 : True := trivial
theorem top.tw10577396366154187472 : True := trivial
theorem top.tw16869365282274683789 : True := trivial
theorem top.tw2170277104671012619 : True := trivial
theorem top.tw16919938111736474924 : True := trivial
theorem top.tw2700199365505918788 : True := trivial
theorem top.tw3061314461118691792 : True := trivial
theorem top.tw4551080515912023512 : True := trivial
theorem top.tw16420938139371093754 : True := trivial
theorem top.tw55027467381167213 : True := trivial
theorem top.tw9358617607463016204 : True := trivial
theorem top.tw11732849358908057107 : True := trivial
theorem top.tw9016634818741928261 : True := trivial
theorem top.tw1869187583165140508 : True := trivial
theorem top.tw13743916774706631149 : True := trivial
theorem top.tw7925146906966333093 : True := trivial
theorem top.tw12502491890553978562 : True := trivial
theorem top.tw6600658504840714314 : True := trivial
theorem top.tw17595191090738125544 : True := trivial
theorem top.tw15748125925826647682 : True := trivial
theorem top.tw14751435942891637570 : True := trivial
theorem top.tw11803689641445798100 : True := trivial
theorem top.tw2175593866937868789 : True := trivial
theorem top.tw14608685727046917156 : True := trivial
theorem top.tw8260818223659903644 : True := trivial
theorem top.tw17069463140951725850 : True := trivial
theorem top.tw7896245365604500681 : True := trivial
theorem top.tw1366310378809935829 : True := trivial
theorem top.tw5804503181746721162 : True := trivial
theorem top.tw2125386657190883914 : True := trivial
theorem top.tw11533307084868028949 : True := trivial
theorem top.tw3265191590900254762 : True := trivial
theorem top.tw6898770573198911631 : True := trivial
theorem top.tw6265675901050258516 : True := trivial
theorem top.tw10549977736560136457 : True := trivial
theorem top.tw6259670677727819807 : True := trivial
theorem top.tw8292330764949567954 : True := trivial
theorem top.tw15350006587542526571 : True := trivial
theorem top.tw17412589854805754852 : True := trivial
theorem top.tw15817181387143870920 : True := trivial
theorem top.tw14429230371299607918 : True := trivial
theorem top.tw14713311804777202560 : True := trivial
theorem top.tw81815255157605957 : True := trivial
theorem top.tw16663450692288620524 : True := trivial
theorem top.tw2050295075708095047 : True := trivial
theorem top.tw9811366534603930577 : True := trivial
theorem top.tw16843226685827341786 : True := trivial
theorem top.tw3992022051434115590 : True := trivial
theorem top.tw3848903353894205444 : True := trivial
theorem top.tw4770301895538212512 : True := trivial
theorem top.tw11858546649754279707 : True := trivial
theorem top.tw6187478851450931391 : True := trivial
theorem top.tw15177526630643400193 : True := trivial
theorem top.tw7990429038631628895 : True := trivial
theorem top.tw18297691965846887475 : True := trivial
theorem top.tw13364640907079947876 : True := trivial
theorem top.tw18338267663776618500 : True := trivial
theorem top.tw2822501910515967889 : True := trivial
theorem top.tw10968536479657739408 : True := trivial
theorem top.tw5868845118606482295 : True := trivial
theorem top.tw18344159896984962366 : True := trivial
theorem top.tw15362295582089109014 : True := trivial
theorem top.tw15431936980592406869 : True := trivial
theorem top.tw6286779285267259847 : True := trivial
theorem top.tw4213018616267185653 : True := trivial
theorem top.tw15327166235007040176 : True := trivial
theorem top.tw12540527436937284434 : True := trivial
theorem top.tw3969286963782609292 : True := trivial
theorem top.tw7297446738713254254 : True := trivial
theorem top.tw16759092144687519636 : True := trivial
theorem top.tw4671429814451907529 : True := trivial
theorem top.tw8363718466572441477 : True := trivial
theorem top.tw5523086135645875356 : True := trivial
theorem top.tw17555251805378815213 : True := trivial
theorem top.tw18164388396756303480 : True := trivial
theorem top.tw2924597203103170677 : True := trivial
theorem top.tw517144808224063464 : True := trivial
theorem top.tw3730354652608582461 : True := trivial
theorem top.tw3195968871104189447 : True := trivial
theorem top.tw7855079511596107753 : True := trivial
theorem top.tw18186074749648716422 : True := trivial
theorem top.tw9759319705405543751 : True := trivial
theorem top.tw8538268897159353584 : True := trivial
theorem top.tw18034075008235765660 : True := trivial
theorem top.tw1195175773429642966 : True := trivial
theorem top.tw13928562000808390012 : True := trivial
theorem top.tw105208000716104510 : True := trivial
theorem top.tw14826035006057030972 : True := trivial
theorem top.tw16155163154822807229 : True := trivial
theorem top.tw13264354339760550358 : True := trivial
theorem top.tw453181688931711583 : True := trivial
theorem top.tw8040539793756171742 : True := trivial
theorem top.tw2812155379371279736 : True := trivial
theorem top.tw12012865196380796599 : True := trivial
theorem top.tw13272337422414781067 : True := trivial
theorem top.tw1275901062530889299 : True := trivial
theorem top.tw12385144161495827662 : True := trivial
theorem top.tw6520327441239513222 : True := trivial
theorem top.tw16885616592811714743 : True := trivial
theorem top.tw6883741973766446791 : True := trivial
theorem top.tw5225153198818245361 : True := trivial
theorem top.tw16174758807025615021 : True := trivial
theorem top.tw15299407806266782574 : True := trivial
theorem top.tw12622177474791663080 : True := trivial
theorem top.tw10648311167861321448 : True := trivial
theorem top.tw14372152842798730730 : True := trivial
theorem top.tw14402358008270493973 : True := trivial
theorem top.tw16123964013534891561 : True := trivial
theorem top.tw7527032243904285869 : True := trivial
theorem top.tw18008055252877512497 : True := trivial
theorem top.tw6370870915552960936 : True := trivial
theorem top.tw2462062305354472974 : True := trivial
theorem top.tw16196420915677631385 : True := trivial
theorem top.tw15569959144833144457 : True := trivial
theorem top.tw10936122117785486979 : True := trivial
theorem top.tw2617719716777270872 : True := trivial
theorem top.tw6333448901615975916 : True := trivial
theorem top.tw6859976401760118174 : True := trivial
theorem top.tw12318557346453588183 : True := trivial
theorem top.tw11423202765487971197 : True := trivial
theorem top.tw7414872774492366064 : True := trivial
theorem top.tw8265191368974092141 : True := trivial
theorem top.tw216529984938456764 : True := trivial
theorem top.tw11960245374511038805 : True := trivial
theorem top.tw6664487174759623829 : True := trivial
theorem top.tw4205137553216949640 : True := trivial
theorem top.tw2555065506035805374 : True := trivial
theorem top.tw12535971307161669396 : True := trivial
theorem top.tw10006222313960134694 : True := trivial
theorem top.tw1483126911874232274 : True := trivial
theorem top.tw370947364307004932 : True := trivial
theorem top.tw14390669486469195807 : True := trivial
theorem top.tw4321519831107876412 : True := trivial
theorem top.tw10876214591147272127 : True := trivial
theorem top.tw12425085872883035938 : True := trivial
theorem top.tw12094960947251128927 : True := trivial
theorem top.tw15058813355848621054 : True := trivial
theorem top.tw17323899518341599180 : True := trivial
theorem top.tw9059832203979395877 : True := trivial
theorem top.tw708234853630380328 : True := trivial
theorem top.tw728428047077509346 : True := trivial
theorem top.tw15503665604740900718 : True := trivial
theorem top.tw12958502747184954254 : True := trivial
theorem top.tw5969682004907312646 : True := trivial
theorem top.tw1676862907878916244 : True := trivial
theorem top.tw15985961358823992270 : True := trivial
theorem top.tw16580785732701462914 : True := trivial
theorem top.tw16325430554902658873 : True := trivial
theorem top.tw6240723676877644813 : True := trivial
theorem top.tw14282377253939248939 : True := trivial
theorem top.tw9614876229902214918 : True := trivial
theorem top.tw11762496359356365647 : True := trivial
theorem top.tw16044733080236030384 : True := trivial
theorem top.tw9503340733035011235 : True := trivial
theorem top.tw12376051458212225564 : True := trivial
theorem top.tw13370750898655102155 : True := trivial
theorem top.tw9382581127745807760 : True := trivial
theorem top.tw5889316905344633881 : True := trivial
theorem top.tw16713831800681072344 : True := trivial
theorem top.tw16795567611416646642 : True := trivial
theorem top.tw7830913209206220567 : True := trivial
theorem top.tw8321918168302905379 : True := trivial
theorem top.tw6955415887607076778 : True := trivial
theorem top.tw6694047246710070196 : True := trivial
theorem top.tw7429413206186439793 : True := trivial
theorem top.tw4859757453598101857 : True := trivial
theorem top.tw14789260269991461300 : True := trivial
theorem top.tw17565814175750979855 : True := trivial
theorem top.tw13896958669275611876 : True := trivial
theorem top.tw17355269125676882429 : True := trivial
theorem top.tw3855276242980373810 : True := trivial
theorem top.tw9768079942903668216 : True := trivial
theorem top.tw9961057766049560675 : True := trivial
theorem top.tw2581206410525282061 : True := trivial
theorem top.tw8204474986945543665 : True := trivial
theorem top.tw649594095290182367 : True := trivial
theorem top.tw887695700811335699 : True := trivial
theorem top.tw7198060816514059695 : True := trivial
theorem top.tw17046948494117081484 : True := trivial
theorem top.tw3422688185749166683 : True := trivial
theorem top.tw12166907935582030026 : True := trivial
theorem top.tw9466932635365572303 : True := trivial
theorem top.tw3337584539547039419 : True := trivial
theorem top.tw8694864300669457046 : True := trivial
theorem top.tw3474246075231452896 : True := trivial
theorem top.tw7743179893348639699 : True := trivial
theorem top.tw7444641836354208208 : True := trivial
theorem top.tw18063644159110109576 : True := trivial
theorem top.tw18371284783138465269 : True := trivial
theorem top.tw6505410396798821541 : True := trivial
theorem top.tw2665807947273092163 : True := trivial
theorem top.tw11203750815551599093 : True := trivial
theorem top.tw10008474027749305400 : True := trivial
theorem top.tw13044034144603486326 : True := trivial
theorem top.tw381845443943030031 : True := trivial
theorem top.tw4784893810139332661 : True := trivial
theorem top.tw2847958352784047137 : True := trivial
theorem top.tw17620759639134147866 : True := trivial
theorem top.tw18237780215024852062 : True := trivial
theorem top.tw5915399644114372684 : True := trivial
theorem top.tw13802547742096326172 : True := trivial
theorem top.tw6930518751129746686 : True := trivial
theorem top.tw283044589724301 : True := trivial
theorem top.tw16821654228018055803 : True := trivial
theorem top.tw7715697345341360870 : True := trivial
theorem top.tw8237333600419904120 : True := trivial
theorem top.tw9962302188120564619 : True := trivial
theorem top.tw11199532085631943738 : True := trivial
theorem top.tw10548783162686979305 : True := trivial
theorem top.tw14632489290957082403 : True := trivial
theorem top.tw1638113669730673903 : True := trivial
theorem top.tw146815374380898660 : True := trivial
theorem top.tw16104615914030681952 : True := trivial
theorem top.tw6624316729101989866 : True := trivial
theorem top.tw15918733279669447828 : True := trivial
theorem top.tw6189502492464219833 : True := trivial
theorem top.tw14399976873020721970 : True := trivial
theorem top.tw9953747333497923681 : True := trivial
theorem top.tw16550210197400561554 : True := trivial
theorem top.tw5860347150701562758 : True := trivial
theorem top.tw8645369167282567922 : True := trivial
theorem top.tw6211089042160764376 : True := trivial
theorem top.tw13420762306968818387 : True := trivial
theorem top.tw11520865232209809239 : True := trivial
theorem top.tw13068111086705522682 : True := trivial
theorem top.tw10987319290404115282 : True := trivial
theorem top.tw8212240652046128837 : True := trivial
theorem top.tw14762295962024373759 : True := trivial
theorem top.tw14697636140705633519 : True := trivial
theorem top.tw12415523145999629524 : True := trivial
theorem top.tw6042063481754889096 : True := trivial
theorem top.tw6572447435987645144 : True := trivial
theorem top.tw10195997230039290492 : True := trivial
theorem top.tw10864713392326063847 : True := trivial
theorem top.tw15740088241188596515 : True := trivial
theorem top.tw7600245330811189008 : True := trivial
theorem top.tw13326734554550294991 : True := trivial
theorem top.tw16878204669230926818 : True := trivial
theorem top.tw2464713573024523455 : True := trivial
theorem top.tw10797620697341660853 : True := trivial
theorem top.tw53344730913325255 : True := trivial
theorem top.tw8657480035899644758 : True := trivial
theorem top.tw76412952228603488 : True := trivial
theorem top.tw9739860059890490050 : True := trivial
theorem top.tw7313339093194340965 : True := trivial
theorem top.tw12427389293880184781 : True := trivial
theorem top.tw6430265229019958763 : True := trivial
theorem top.tw13134186033006778460 : True := trivial
theorem top.tw16054190913257422852 : True := trivial
theorem top.tw8148004212497801138 : True := trivial
theorem top.tw594810645892935528 : True := trivial
theorem top.tw15254643099363442306 : True := trivial
theorem top.tw5938664839603501006 : True := trivial
theorem top.tw6176384092110617959 : True := trivial
theorem top.tw2758071753971750899 : True := trivial
theorem top.tw17089494485692210459 : True := trivial
theorem top.tw9851269098105209369 : True := trivial
theorem top.tw11240886729373846589 : True := trivial
theorem top.tw18289109515434150305 : True := trivial
theorem top.tw14747140909534839006 : True := trivial
theorem top.tw17342085116792181814 : True := trivial
theorem top.tw2377541652452675900 : True := trivial
theorem top.tw9272544492142499777 : True := trivial
theorem top.tw3261557481417251176 : True := trivial
theorem top.tw3195522803047326042 : True := trivial
theorem top.tw16719718919923625709 : True := trivial
theorem top.tw10801874191123338550 : True := trivial
theorem top.tw15095372191486117680 : True := trivial
theorem top.tw196536941598035525 : True := trivial
theorem top.tw1843344800811705456 : True := trivial
theorem top.tw18367679650794681301 : True := trivial
theorem top.tw9442318146202087700 : True := trivial
theorem top.tw9366391650621772374 : True := trivial
theorem top.tw2683898200743741643 : True := trivial
theorem top.tw9233335307524088747 : True := trivial
theorem top.tw17795014544551873601 : True := trivial
theorem top.tw10657950659306570408 : True := trivial
theorem top.tw3976154599441133093 : True := trivial
theorem top.tw1754339480302792767 : True := trivial
theorem top.tw8025738503920905074 : True := trivial
theorem top.tw17219337458794519322 : True := trivial
theorem top.tw3712731000106771831 : True := trivial
theorem top.tw16597617366809209970 : True := trivial
theorem top.tw16453443671601555132 : True := trivial
theorem top.tw7386116660499605909 : True := trivial
theorem top.tw9843447840031818808 : True := trivial
theorem top.tw4828031223510198475 : True := trivial
theorem top.tw4526881389914513428 : True := trivial
theorem top.tw1108800333578037850 : True := trivial
theorem top.tw1068965626710143233 : True := trivial
theorem top.tw18177719399980262173 : True := trivial
theorem top.tw3315250197877816394 : True := trivial
theorem top.tw1294077662247117797 : True := trivial
theorem top.tw14724332232928298890 : True := trivial
theorem top.tw13290321428070320777 : True := trivial
theorem top.tw13799840507378627052 : True := trivial
theorem top.tw9195894827357321740 : True := trivial
theorem top.tw8472579005086612782 : True := trivial
theorem top.tw11334203419191126389 : True := trivial
theorem top.tw7671549972530922468 : True := trivial
theorem top.tw13001836021917841797 : True := trivial
theorem top.tw9165953624949470791 : True := trivial
theorem top.tw9919435345466941130 : True := trivial
theorem top.tw11443710868159068359 : True := trivial
theorem top.tw9166809390415177425 : True := trivial
theorem top.tw1124271682379634556 : True := trivial
theorem top.tw17953984050398360512 : True := trivial
theorem top.tw15286249088069653756 : True := trivial
theorem top.tw15245507539482535896 : True := trivial
theorem top.tw2506305409684761478 : True := trivial
theorem top.tw427420600052151026 : True := trivial
theorem top.tw14851680436948445374 : True := trivial
theorem top.tw2312856594315299383 : True := trivial
theorem top.tw1833847959688406909 : True := trivial
theorem top.tw13710211086531791108 : True := trivial
theorem top.tw104434173382791472 : True := trivial
theorem top.tw7204493036743257322 : True := trivial
theorem top.tw4555866861457887817 : True := trivial
theorem top.tw6196800358849779857 : True := trivial
theorem top.tw7847352863974893604 : True := trivial
theorem top.tw11760055953109336660 : True := trivial
theorem top.tw1971433849790844608 : True := trivial
theorem top.tw5398424786039705171 : True := trivial
theorem top.tw4699463449715708850 : True := trivial
theorem top.tw14615657086365298920 : True := trivial
theorem top.tw9913501989792142831 : True := trivial
theorem top.tw4916261283513009128 : True := trivial
theorem top.tw10079171474624433434 : True := trivial
theorem top.tw6124053682588569230 : True := trivial
theorem top.tw16782997733028217545 : True := trivial
theorem top.tw13994475860397038760 : True := trivial
theorem top.tw3378803678994701225 : True := trivial
theorem top.tw4383139521930768336 : True := trivial
theorem top.tw3995942328266245912 : True := trivial
theorem top.tw3739144386018749749 : True := trivial
theorem top.tw5245862010334584759 : True := trivial
theorem top.tw6973401727384321114 : True := trivial
theorem top.tw9361663168868926718 : True := trivial
theorem top.tw1655259298481077034 : True := trivial
theorem top.tw11459358961799972967 : True := trivial
theorem top.tw12256363837256957063 : True := trivial
theorem top.tw3767615275625035234 : True := trivial
theorem top.tw5983031951866500094 : True := trivial
theorem top.tw47109162367338493 : True := trivial
theorem top.tw2878843996050045342 : True := trivial
theorem top.tw12958664272152378060 : True := trivial
theorem top.tw12545222027267286695 : True := trivial
theorem top.tw4177254973167742082 : True := trivial
theorem top.tw4058662728301269685 : True := trivial
theorem top.tw11430207588045935325 : True := trivial
theorem top.tw17103177528636943170 : True := trivial
theorem top.tw13012589842206080548 : True := trivial
theorem top.tw8043003576528973991 : True := trivial
theorem top.tw3796891538752321733 : True := trivial
theorem top.tw1321871150748368714 : True := trivial
theorem top.tw4392038535549328194 : True := trivial
theorem top.tw10341860258655708415 : True := trivial
theorem top.tw3696473221133414273 : True := trivial
theorem top.tw15646934709686841381 : True := trivial
theorem top.tw8265311939077410998 : True := trivial
theorem top.tw4134505453457115739 : True := trivial
theorem top.tw10399464001100048223 : True := trivial
theorem top.tw2722852734226103192 : True := trivial
theorem top.tw3207569582813703071 : True := trivial
theorem top.tw681777741448182936 : True := trivial
theorem top.tw6674990990233134667 : True := trivial
theorem top.tw8874702517807110003 : True := trivial
theorem top.tw8281120267493503204 : True := trivial
theorem top.tw9800703332001039478 : True := trivial
theorem top.tw1016984595167383106 : True := trivial
theorem top.tw15722756333993289495 : True := trivial
theorem top.tw3217022616335106338 : True := trivial
theorem top.tw12764151676501842404 : True := trivial
theorem top.tw84136930442132756 : True := trivial
theorem top.tw13968125046926948103 : True := trivial
theorem top.tw16004416686337608138 : True := trivial
theorem top.tw9178861053002065721 : True := trivial
theorem top.tw7681529838311687354 : True := trivial
theorem top.tw13223034962123697568 : True := trivial
theorem top.tw9590735534726013551 : True := trivial
theorem top.tw672699306608606093 : True := trivial
theorem top.tw10774637447528242797 : True := trivial
theorem top.tw1988063486488863061 : True := trivial
theorem top.tw3871027444623705763 : True := trivial
theorem top.tw1697544655201012999 : True := trivial
theorem top.tw12209182163369298222 : True := trivial
theorem top.tw6292954644110606532 : True := trivial
theorem top.tw3002795768020413707 : True := trivial
theorem top.tw11542710104232473196 : True := trivial
theorem top.tw7381879191629600215 : True := trivial
theorem top.tw9227541089923242437 : True := trivial
theorem top.tw1123975283337734383 : True := trivial
theorem top.tw10001883323181062329 : True := trivial
theorem top.tw2405475915293451298 : True := trivial
theorem top.tw6265701101103706036 : True := trivial
theorem top.tw2417791160451022400 : True := trivial
theorem top.tw2686433634493928565 : True := trivial
theorem top.tw8560541052185303311 : True := trivial
theorem top.tw8968299171318014206 : True := trivial
theorem top.tw2267912224990424062 : True := trivial
theorem top.tw14145802354927516647 : True := trivial
theorem top.tw15874363893724204672 : True := trivial
theorem top.tw11994683656316670133 : True := trivial
theorem top.tw10194810499950245846 : True := trivial
theorem top.tw14453841093610474573 : True := trivial
theorem top.tw5839659824258004927 : True := trivial
theorem top.tw2544169868661182894 : True := trivial
theorem top.tw6746510453823603384 : True := trivial
theorem top.tw13318506193475082254 : True := trivial
theorem top.tw11457754044182789617 : True := trivial
theorem top.tw10579768621468169598 : True := trivial
theorem top.tw7160873610591055699 : True := trivial
theorem top.tw3479634599624807885 : True := trivial
theorem top.tw995497684801637723 : True := trivial
theorem top.tw7325726471975496349 : True := trivial
theorem top.tw10090393231696489298 : True := trivial
theorem top.tw5507162329139097715 : True := trivial
theorem top.tw5702910450625016506 : True := trivial
theorem top.tw4796303294375832693 : True := trivial
theorem top.tw10361075674979980167 : True := trivial
theorem top.tw17346259052997144950 : True := trivial
theorem top.tw4547018644641229820 : True := trivial
theorem top.tw10562855833978642645 : True := trivial
theorem top.tw15212760480394562756 : True := trivial
theorem top.tw3140898538269762758 : True := trivial
theorem top.tw15451780782824253742 : True := trivial
theorem top.tw2029088862249889922 : True := trivial
theorem top.tw6659320528611288953 : True := trivial
theorem top.tw13864677062968915208 : True := trivial
theorem top.tw17576949682797635024 : True := trivial
theorem top.tw7273676953221729872 : True := trivial
theorem top.tw13549259019975226677 : True := trivial
theorem top.tw350670483859837877 : True := trivial
theorem top.tw11982747722937265360 : True := trivial
theorem top.tw2596539476470345881 : True := trivial
theorem top.tw13500427573557490136 : True := trivial
theorem top.tw8327351992414209593 : True := trivial
theorem top.tw8054331753737935190 : True := trivial
theorem top.tw13987285891283452908 : True := trivial
theorem top.tw956089473029861405 : True := trivial
theorem top.tw12117888159696746259 : True := trivial
theorem top.tw1297684725254868899 : True := trivial
theorem top.tw1245559373397905713 : True := trivial
theorem top.tw16736118626332596326 : True := trivial
theorem top.tw9666326922614434849 : True := trivial
theorem top.tw5648408011753718230 : True := trivial
theorem top.tw10017263926548143515 : True := trivial
theorem top.tw7033079012710635876 : True := trivial
theorem top.tw17981982808018919739 : True := trivial
theorem top.tw2732273902793177162 : True := trivial
theorem top.tw9149571693438533347 : True := trivial
theorem top.tw2770239361232196585 : True := trivial
theorem top.tw3120133295221510679 : True := trivial
theorem top.tw17474498911051797155 : True := trivial
theorem top.tw12783364522390391256 : True := trivial
theorem top.tw1584292188352093569 : True := trivial
theorem top.tw7913636548009798097 : True := trivial
theorem top.tw661290744650703789 : True := trivial
theorem top.tw13975414291046593716 : True := trivial
theorem top.tw9673933992889287130 : True := trivial
theorem top.tw2685012915969955173 : True := trivial
theorem top.tw13261893007816960818 : True := trivial
theorem top.tw1394568958698188020 : True := trivial
theorem top.tw5728218623943512802 : True := trivial
theorem top.tw10414433010598505635 : True := trivial
theorem top.tw13369591340354186047 : True := trivial
theorem top.tw4695670854781333657 : True := trivial
theorem top.tw17741875731164886585 : True := trivial
theorem top.tw17828378304095215089 : True := trivial
theorem top.tw13385244156195431271 : True := trivial
theorem top.tw4807692442873511580 : True := trivial
theorem top.tw83393220934416808 : True := trivial
theorem top.tw13370185576492129568 : True := trivial
theorem top.tw4791253341166991637 : True := trivial
theorem top.tw17582957951858275007 : True := trivial
theorem top.tw11334415319851112604 : True := trivial
theorem top.tw8999917154711486175 : True := trivial
theorem top.tw6381231289166406305 : True := trivial
theorem top.tw12638030207367898728 : True := trivial
theorem top.tw2809488002615124206 : True := trivial
theorem top.tw6786057226368545225 : True := trivial
theorem top.tw5596365628329696591 : True := trivial
theorem top.tw14466935161476858967 : True := trivial
theorem top.tw3486219094355674750 : True := trivial
theorem top.tw2103985501979894447 : True := trivial
theorem top.tw1147548669246485465 : True := trivial
theorem top.tw401921906979044612 : True := trivial
theorem top.tw13713866747541496747 : True := trivial
theorem top.tw8693662901424576113 : True := trivial
theorem top.tw11053662475850362967 : True := trivial
theorem top.tw9990226795618131978 : True := trivial
theorem top.tw16262243036561855896 : True := trivial
theorem top.tw17594962761535629368 : True := trivial
theorem top.tw352232786441526191 : True := trivial
theorem top.tw9016798869158615873 : True := trivial
theorem top.tw1803303928475200142 : True := trivial
theorem top.tw3548060758652744671 : True := trivial
theorem top.tw7213333562754528385 : True := trivial
theorem top.tw8297286125493194097 : True := trivial
theorem top.tw8823455108540655025 : True := trivial
theorem top.tw13432635357386499347 : True := trivial
theorem top.tw11383000496634168614 : True := trivial
theorem top.tw12894197372075662830 : True := trivial
theorem top.tw6906291655842520137 : True := trivial
theorem top.tw18374746225686918389 : True := trivial
theorem top.tw1736530178072539846 : True := trivial
theorem top.tw10467260515200827399 : True := trivial
theorem top.tw2365566498512967660 : True := trivial
theorem top.tw2580922434103091657 : True := trivial
theorem top.tw17085176360113175178 : True := trivial
theorem top.tw7845129631348957993 : True := trivial
theorem top.tw13985988839938425345 : True := trivial
theorem top.tw15125931889511115149 : True := trivial
theorem top.tw2972514686349903234 : True := trivial
theorem top.tw4571971715460732019 : True := trivial
theorem top.tw6503730183909636620 : True := trivial
theorem top.tw7059692629156357883 : True := trivial
theorem top.tw11159431927160009238 : True := trivial
theorem top.tw15638586536077026902 : True := trivial
theorem top.tw5176459694589498394 : True := trivial
theorem top.tw6383614241601562808 : True := trivial
theorem top.tw4468942710605802240 : True := trivial
theorem top.tw2926424126403749041 : True := trivial
theorem top.tw5552270689369575618 : True := trivial
theorem top.tw8813761850579938390 : True := trivial
theorem top.tw5240762971458559404 : True := trivial
theorem top.tw15525995667512963556 : True := trivial
theorem top.tw6203543418390704334 : True := trivial
theorem top.tw7717162694582976202 : True := trivial
theorem top.tw14317375437502057738 : True := trivial
theorem top.tw14526540143163920134 : True := trivial
theorem top.tw2446451932059125521 : True := trivial
theorem top.tw14771320824794740959 : True := trivial
theorem top.tw814325599930780420 : True := trivial
theorem top.tw3664424711883983056 : True := trivial
theorem top.tw15744752440731449612 : True := trivial
theorem top.tw2770563814800254177 : True := trivial
theorem top.tw411662067469150650 : True := trivial
theorem top.tw1209819496270969543 : True := trivial
theorem top.tw14983691940233647259 : True := trivial
theorem top.tw1522322319653140107 : True := trivial
theorem top.tw16734371015571099844 : True := trivial
theorem top.tw6893477703608230032 : True := trivial
theorem top.tw9843949296442739443 : True := trivial
theorem top.tw6448850889433096767 : True := trivial
theorem top.tw8637452081102412489 : True := trivial
theorem top.tw4010397242664982755 : True := trivial
theorem top.tw11189890337720088615 : True := trivial
theorem top.tw2968346561183084112 : True := trivial
theorem top.tw13899568491130100285 : True := trivial
theorem top.tw2617181576586992344 : True := trivial
theorem top.tw18185382058313985135 : True := trivial
theorem top.tw2057334267981633021 : True := trivial
theorem top.tw18394268562011335289 : True := trivial
theorem top.tw4046864289407762814 : True := trivial
theorem top.tw5692499903750754813 : True := trivial
theorem top.tw16264823338695392855 : True := trivial
theorem top.tw46980244435833615 : True := trivial
theorem top.tw15271675978053873483 : True := trivial
theorem top.tw9326722878772556681 : True := trivial
theorem top.tw13890846271309207196 : True := trivial
theorem top.tw2287823674025257028 : True := trivial
theorem top.tw11584198869435930015 : True := trivial
theorem top.tw14248925298954806443 : True := trivial
theorem top.tw3831216023754155268 : True := trivial
theorem top.tw10005945817407372193 : True := trivial
theorem top.tw11620634932572840514 : True := trivial
theorem top.tw12609604535291364189 : True := trivial
theorem top.tw9854310039474760501 : True := trivial
theorem top.tw12287887523310495049 : True := trivial
theorem top.tw15508944514630427714 : True := trivial
theorem top.tw1186331607622873149 : True := trivial
theorem top.tw11593399256984752444 : True := trivial
theorem top.tw8598144960395782539 : True := trivial
theorem top.tw17135812771915316397 : True := trivial
theorem top.tw13167462122316868159 : True := trivial
theorem top.tw18121752080927795069 : True := trivial
theorem top.tw18326957874037197240 : True := trivial
theorem top.tw10362775142378211054 : True := trivial
theorem top.tw8800459187187324500 : True := trivial
theorem top.tw5647976800219259906 : True := trivial
theorem top.tw3465488137227279516 : True := trivial
theorem top.tw1353657120722975067 : True := trivial
theorem top.tw4655869559712951663 : True := trivial
theorem top.tw13191473780850816973 : True := trivial
theorem top.tw516228168201391017 : True := trivial
theorem top.tw18200808041648558556 : True := trivial
theorem top.tw8547604310838440241 : True := trivial
theorem top.tw12559286593441436923 : True := trivial
theorem top.tw3453223234828964814 : True := trivial
theorem top.tw16982378080980825192 : True := trivial
theorem top.tw5196900775432865589 : True := trivial
theorem top.tw4250876409542091131 : True := trivial
theorem top.tw7458633546980236471 : True := trivial
theorem top.tw9576743257966636567 : True := trivial
theorem top.tw8912170899635468890 : True := trivial
theorem top.tw15383718091736126541 : True := trivial
theorem top.tw9407396174263392564 : True := trivial
theorem top.tw2165817408578904141 : True := trivial
theorem top.tw15823732540823425666 : True := trivial
theorem top.tw16896751376397280635 : True := trivial
theorem top.tw11577829705659331004 : True := trivial
theorem top.tw114735475811551136 : True := trivial
theorem top.tw10276331973627342096 : True := trivial
theorem top.tw18134043772397237400 : True := trivial
theorem top.tw7799483888651840948 : True := trivial
theorem top.tw8735323631387419056 : True := trivial
theorem top.tw1142465760834251562 : True := trivial
theorem top.tw3846862658102513837 : True := trivial
theorem top.tw12507017104952529904 : True := trivial
theorem top.tw7436774141650363327 : True := trivial
theorem top.tw984902984118615328 : True := trivial
theorem top.tw13047834502658803893 : True := trivial
theorem top.tw9328819404386307858 : True := trivial
theorem top.tw3357215229441099570 : True := trivial
theorem top.tw10242591131026960117 : True := trivial
theorem top.tw17810072253543177317 : True := trivial
theorem top.tw8620165645458168473 : True := trivial
theorem top.tw2287362676942042354 : True := trivial
theorem top.tw16612331741718818515 : True := trivial
theorem top.tw729201693064108563 : True := trivial
theorem top.tw5970215366352900667 : True := trivial
theorem top.tw6075534854705499898 : True := trivial
theorem top.tw4856909995586565122 : True := trivial
theorem top.tw15799541711010589177 : True := trivial
theorem top.tw6623532728838073528 : True := trivial
theorem top.tw1047907039808853306 : True := trivial
theorem top.tw4691186174975459493 : True := trivial
theorem top.tw12879618353801967718 : True := trivial
theorem top.tw8170299122808406783 : True := trivial
theorem top.tw7744093853086628109 : True := trivial
theorem top.tw16809779246217341487 : True := trivial
theorem top.tw7761843605638006849 : True := trivial
theorem top.tw956942650209027819 : True := trivial
theorem top.tw16674975167109581930 : True := trivial
theorem top.tw3715792687998586317 : True := trivial
theorem top.tw11779653239440661071 : True := trivial
theorem top.tw17009415399725018624 : True := trivial
theorem top.tw16509065781470453940 : True := trivial
theorem top.tw7215319984434753242 : True := trivial
theorem top.tw7538252964068480738 : True := trivial
theorem top.tw1169771345039838236 : True := trivial
theorem top.tw72247145696351765 : True := trivial
theorem top.tw3143785405151724282 : True := trivial
theorem top.tw17735899436944072409 : True := trivial
theorem top.tw6459276657848829223 : True := trivial
theorem top.tw18062624165398249997 : True := trivial
theorem top.tw17033825039287860005 : True := trivial
theorem top.tw6491118196486620199 : True := trivial
theorem top.tw3033006917804047512 : True := trivial
theorem top.tw5186518429493523239 : True := trivial
theorem top.tw17494340499879156831 : True := trivial
theorem top.tw10643057118474118344 : True := trivial
theorem top.tw3087888393795971977 : True := trivial
theorem top.tw2965125352208521119 : True := trivial
theorem top.tw12182655422080760471 : True := trivial
theorem top.tw7522852383072776753 : True := trivial
theorem top.tw10328360990557673835 : True := trivial
theorem top.tw9332579688445097367 : True := trivial
theorem top.tw16007503158450755388 : True := trivial
theorem top.tw4250950275838387964 : True := trivial
theorem top.tw8672883130414831044 : True := trivial
theorem top.tw1559226430018442191 : True := trivial
theorem top.tw9631074621892390191 : True := trivial
theorem top.tw7737320934136571279 : True := trivial
theorem top.tw4158126171336067921 : True := trivial
theorem top.tw2630061898475652689 : True := trivial
theorem top.tw5341934141677670832 : True := trivial
theorem top.tw14301671488300290737 : True := trivial
theorem top.tw372964977893139469 : True := trivial
theorem top.tw16342770487823414484 : True := trivial
theorem top.tw6756851087969907010 : True := trivial
theorem top.tw12625694945159114441 : True := trivial
theorem top.tw14823308797102314842 : True := trivial
theorem top.tw4232285709927190386 : True := trivial
theorem top.tw9833397302626899308 : True := trivial
theorem top.tw15740948416001004644 : True := trivial
theorem top.tw6460121766331871944 : True := trivial
theorem top.tw1192657577511650299 : True := trivial
theorem top.tw13385996262653078937 : True := trivial
theorem top.tw12643520174271941249 : True := trivial
theorem top.tw99440450732166138 : True := trivial

set_option Elab.async true in
set_option maxRecDepth 100000 in
set_option maxHeartbeats 8000000 in
theorem top (h : PySem.Challenge.rw_fq0028_01.row.wellSaid = true) : seedR.Holds := by
  have said := seed_said_of h
  w_on
  o_head Hook.none
  case hw => w_witness2
  case hc => exact seed_walk (by rfl) (fun T => T.free _ (by decide +kernel) (by decide +kernel) (by decide +kernel) (by decide +kernel) (by decide +kernel)) (by kernel_rfl)
end Mine
end
/-! F1 -/
section
open PySem PySem.W PySem.Calls PyProof.Rows
set_option maxRecDepth 100000
set_option linter.all false
namespace Mine
/-- the written part of the heap that the top leaves -/
noncomputable abbrev KK (p : Params) : Frag := [(2, top.o_1_325 p), (3, top.o_1_1494 p), (43, top.o_1_55 p), (45, top.o_1_57 p), (46, top.o_1_58 p), (48, top.o_1_60 p), (49, top.o_1_61 p), (57, top.o_1_74 p), (58, top.o_1_75 p), (60, top.o_1_77 p), (61, top.o_1_78 p), (63, top.o_1_80 p), (64, top.o_1_81 p), (65, top.o_1_82 p), (67, top.o_1_84 p), (68, top.o_1_85 p), (70, top.o_1_87 p), (71, top.o_1_88 p), (72, top.o_1_89 p), (74, top.o_1_91 p), (75, top.o_1_92 p), (77, top.o_1_94 p), (78, top.o_1_95 p), (79, top.o_1_96 p), (81, top.o_1_98 p), (82, top.o_1_99 p), (84, top.o_1_101 p), (85, top.o_1_102 p), (86, top.o_1_103 p), (88, top.o_1_105 p), (89, top.o_1_106 p), (91, top.o_1_108 p), (92, top.o_1_109 p), (93, top.o_1_110 p), (94, top.o_1_111 p), (96, top.o_1_113 p), (97, top.o_1_114 p), (99, top.o_1_116 p), (100, top.o_1_117 p), (101, top.o_1_118 p), (103, top.o_1_120 p), (104, top.o_1_121 p), (105, top.o_1_122 p), (115, top.o_1_137 p), (116, top.o_1_138 p), (118, top.o_1_140 p), (119, top.o_1_141 p), (121, top.o_1_143 p), (122, top.o_1_144 p), (123, top.o_1_145 p), (124, top.o_1_146 p), (126, top.o_1_148 p), (127, top.o_1_149 p), (129, top.o_1_151 p), (130, top.o_1_152 p), (131, top.o_1_153 p), (133, top.o_1_155 p), (134, top.o_1_156 p), (136, top.o_1_158 p), (137, top.o_1_159 p), (138, top.o_1_160 p), (140, top.o_1_162 p), (141, top.o_1_163 p), (143, top.o_1_165 p), (144, top.o_1_166 p), (145, top.o_1_167 p), (147, top.o_1_169 p), (148, top.o_1_170 p), (150, top.o_1_172 p), (151, top.o_1_173 p), (152, top.o_1_174 p), (153, top.o_1_175 p), (154, top.o_1_186 p), (155, top.o_1_177 p), (156, top.o_1_178 p), (159, top.o_1_187 p), (166, top.o_1_194 p), (168, top.o_1_196 p), (169, top.o_1_197 p), (171, top.o_1_199 p), (172, top.o_1_200 p), (173, top.o_1_201 p), (175, top.o_1_203 p), (176, top.o_1_204 p), (178, top.o_1_206 p), (179, top.o_1_207 p), (180, top.o_1_208 p), (181, top.o_1_209 p), (182, top.o_1_210 p), (192, top.o_1_225 p), (194, top.o_1_227 p), (195, top.o_1_228 p), (197, top.o_1_230 p), (198, top.o_1_231 p), (199, top.o_1_232 p), (201, top.o_1_234 p), (202, top.o_1_235 p), (204, top.o_1_237 p), (205, top.o_1_238 p), (206, top.o_1_239 p), (208, top.o_1_241 p), (209, top.o_1_242 p), (211, top.o_1_244 p), (212, top.o_1_245 p), (213, top.o_1_246 p), (215, top.o_1_248 p), (216, top.o_1_249 p), (218, top.o_1_251 p), (219, top.o_1_252 p), (220, top.o_1_253 p), (222, top.o_1_255 p), (223, top.o_1_256 p), (225, top.o_1_258 p), (226, top.o_1_259 p), (227, top.o_1_260 p), (229, top.o_1_262 p), (230, top.o_1_263 p), (232, top.o_1_265 p), (233, top.o_1_266 p), (234, top.o_1_267 p), (235, top.o_1_268 p), (236, top.o_1_269 p), (238, top.o_1_271 p), (239, top.o_1_272 p), (241, top.o_1_274 p), (242, top.o_1_275 p), (243, top.o_1_276 p), (244, top.o_1_277 p), (245, top.o_1_288 p), (246, top.o_1_279 p), (247, top.o_1_280 p), (250, top.o_1_289 p), (257, top.o_1_296 p), (259, top.o_1_298 p), (260, top.o_1_299 p), (262, top.o_1_301 p), (263, top.o_1_302 p), (264, top.o_1_303 p), (266, top.o_1_305 p), (267, top.o_1_306 p), (269, top.o_1_308 p), (270, top.o_1_309 p), (271, top.o_1_310 p), (273, top.o_1_312 p), (274, top.o_1_313 p), (276, top.o_1_315 p), (277, top.o_1_316 p), (278, top.o_1_317 p), (279, top.o_1_318 p), (280, top.o_1_319 p), (283, top.o_1_328 p), (290, top.o_1_335 p), (291, top.o_1_336 p), (292, top.o_1_346 p), (293, top.o_1_338 p), (296, top.o_1_347 p), (303, top.o_1_354 p), (304, top.o_1_355 p), (305, top.o_1_356 p), (308, top.o_1_359 p), (316, top.o_1_372 p), (318, top.o_1_374 p), (319, top.o_1_375 p), (321, top.o_1_377 p), (322, top.o_1_378 p), (323, top.o_1_379 p), (325, top.o_1_381 p), (326, top.o_1_382 p), (328, top.o_1_384 p), (329, top.o_1_385 p), (330, top.o_1_386 p), (331, top.o_1_387 p), (333, top.o_1_389 p), (334, top.o_1_390 p), (336, top.o_1_392 p), (337, top.o_1_393 p), (338, top.o_1_394 p), (340, top.o_1_396 p), (341, top.o_1_397 p), (343, top.o_1_399 p), (344, top.o_1_400 p), (345, top.o_1_401 p), (346, top.o_1_402 p), (347, top.o_1_403 p), (348, top.o_1_404 p), (349, top.o_1_405 p), (350, top.o_1_406 p), (360, top.o_1_421 p), (362, top.o_1_423 p), (363, top.o_1_424 p), (365, top.o_1_426 p), (366, top.o_1_427 p), (367, top.o_1_428 p), (369, top.o_1_430 p), (370, top.o_1_431 p), (372, top.o_1_433 p), (373, top.o_1_434 p), (374, top.o_1_435 p), (376, top.o_1_437 p), (377, top.o_1_438 p), (379, top.o_1_440 p), (380, top.o_1_441 p), (381, top.o_1_442 p), (383, top.o_1_444 p), (384, top.o_1_445 p), (386, top.o_1_447 p), (387, top.o_1_448 p), (388, top.o_1_449 p), (390, top.o_1_451 p), (391, top.o_1_452 p), (393, top.o_1_454 p), (394, top.o_1_455 p), (395, top.o_1_456 p), (397, top.o_1_458 p), (398, top.o_1_459 p), (400, top.o_1_461 p), (401, top.o_1_462 p), (402, top.o_1_463 p), (403, top.o_1_464 p), (405, top.o_1_466 p), (406, top.o_1_467 p), (408, top.o_1_469 p), (409, top.o_1_470 p), (410, top.o_1_471 p), (412, top.o_1_473 p), (413, top.o_1_474 p), (415, top.o_1_476 p), (416, top.o_1_477 p), (417, top.o_1_478 p), (418, top.o_1_479 p), (420, top.o_1_481 p), (422, top.o_1_483 p), (423, top.o_1_484 p), (425, top.o_1_486 p), (426, top.o_1_487 p), (427, top.o_1_488 p), (429, top.o_1_490 p), (430, top.o_1_491 p), (432, top.o_1_493 p), (433, top.o_1_494 p), (434, top.o_1_495 p), (436, top.o_1_497 p), (437, top.o_1_498 p), (439, top.o_1_500 p), (440, top.o_1_501 p), (441, top.o_1_502 p), (443, top.o_1_504 p), (444, top.o_1_505 p), (446, top.o_1_507 p), (447, top.o_1_508 p), (448, top.o_1_509 p), (450, top.o_1_511 p), (451, top.o_1_512 p), (453, top.o_1_514 p), (454, top.o_1_515 p), (455, top.o_1_516 p), (457, top.o_1_518 p), (458, top.o_1_519 p), (460, top.o_1_521 p), (461, top.o_1_522 p), (462, top.o_1_523 p), (464, top.o_1_525 p), (465, top.o_1_526 p), (467, top.o_1_528 p), (468, top.o_1_529 p), (469, top.o_1_530 p), (471, top.o_1_532 p), (472, top.o_1_533 p), (474, top.o_1_535 p), (475, top.o_1_536 p), (476, top.o_1_537 p), (478, top.o_1_539 p), (479, top.o_1_540 p), (481, top.o_1_542 p), (482, top.o_1_543 p), (483, top.o_1_544 p), (484, top.o_1_545 p), (486, top.o_1_547 p), (488, top.o_1_549 p), (489, top.o_1_550 p), (491, top.o_1_552 p), (492, top.o_1_553 p), (493, top.o_1_554 p), (495, top.o_1_556 p), (496, top.o_1_557 p), (498, top.o_1_559 p), (499, top.o_1_560 p), (500, top.o_1_561 p), (502, top.o_1_563 p), (503, top.o_1_564 p), (505, top.o_1_566 p), (506, top.o_1_567 p), (507, top.o_1_568 p), (509, top.o_1_570 p), (510, top.o_1_571 p), (512, top.o_1_573 p), (513, top.o_1_574 p), (514, top.o_1_575 p), (516, top.o_1_577 p), (517, top.o_1_578 p), (519, top.o_1_580 p), (520, top.o_1_581 p), (521, top.o_1_582 p), (523, top.o_1_584 p), (524, top.o_1_585 p), (526, top.o_1_587 p), (527, top.o_1_588 p), (528, top.o_1_589 p), (530, top.o_1_591 p), (531, top.o_1_592 p), (533, top.o_1_594 p), (534, top.o_1_595 p), (535, top.o_1_596 p), (537, top.o_1_598 p), (538, top.o_1_599 p), (540, top.o_1_601 p), (541, top.o_1_602 p), (542, top.o_1_603 p), (544, top.o_1_605 p), (545, top.o_1_606 p), (547, top.o_1_608 p), (548, top.o_1_609 p), (549, top.o_1_610 p), (551, top.o_1_612 p), (552, top.o_1_613 p), (554, top.o_1_615 p), (555, top.o_1_616 p), (556, top.o_1_617 p), (557, top.o_1_618 p), (559, top.o_1_620 p), (560, top.o_1_621 p), (562, top.o_1_623 p), (563, top.o_1_624 p), (565, top.o_1_626 p), (566, top.o_1_627 p), (567, top.o_1_628 p), (569, top.o_1_630 p), (570, top.o_1_631 p), (572, top.o_1_633 p), (573, top.o_1_634 p), (574, top.o_1_635 p), (576, top.o_1_637 p), (577, top.o_1_638 p), (579, top.o_1_640 p), (580, top.o_1_641 p), (581, top.o_1_642 p), (582, top.o_1_643 p), (584, top.o_1_645 p), (586, top.o_1_647 p), (587, top.o_1_648 p), (589, top.o_1_650 p), (590, top.o_1_651 p), (591, top.o_1_652 p), (593, top.o_1_654 p), (594, top.o_1_655 p), (596, top.o_1_657 p), (597, top.o_1_658 p), (598, top.o_1_659 p), (600, top.o_1_661 p), (601, top.o_1_662 p), (603, top.o_1_664 p), (604, top.o_1_665 p), (605, top.o_1_666 p), (607, top.o_1_668 p), (608, top.o_1_669 p), (610, top.o_1_671 p), (611, top.o_1_672 p), (612, top.o_1_673 p), (614, top.o_1_675 p), (615, top.o_1_676 p), (617, top.o_1_678 p), (618, top.o_1_679 p), (619, top.o_1_680 p), (620, top.o_1_681 p), (622, top.o_1_683 p), (623, top.o_1_684 p), (625, top.o_1_686 p), (626, top.o_1_687 p), (627, top.o_1_688 p), (628, top.o_1_689 p), (630, top.o_1_691 p), (631, top.o_1_692 p), (633, top.o_1_694 p), (634, top.o_1_695 p), (635, top.o_1_696 p), (636, top.o_1_697 p), (638, top.o_1_699 p), (639, top.o_1_700 p), (641, top.o_1_702 p), (642, top.o_1_703 p), (643, top.o_1_704 p), (644, top.o_1_705 p), (645, top.o_1_1018 p), (646, top.o_1_707 p), (647, top.o_1_708 p), (654, top.o_1_1019 p), (661, top.o_1_1026 p), (662, top.o_1_1027 p), (664, top.o_1_1029 p), (665, top.o_1_1030 p), (667, top.o_1_1032 p), (668, top.o_1_1033 p), (669, top.o_1_1034 p), (671, top.o_1_1036 p), (672, top.o_1_1037 p), (674, top.o_1_1039 p), (675, top.o_1_1040 p), (676, top.o_1_1041 p), (677, top.o_1_1042 p), (679, top.o_1_1044 p), (681, top.o_1_1046 p), (682, top.o_1_1047 p), (684, top.o_1_1049 p), (685, top.o_1_1050 p), (686, top.o_1_1051 p), (687, top.o_1_1052 p), (689, top.o_1_1054 p), (691, top.o_1_1056 p), (692, top.o_1_1057 p), (694, top.o_1_1059 p), (695, top.o_1_1060 p), (696, top.o_1_1061 p), (697, top.o_1_1062 p), (699, top.o_1_1064 p), (701, top.o_1_1066 p), (702, top.o_1_1067 p), (704, top.o_1_1069 p), (705, top.o_1_1070 p), (706, top.o_1_1071 p), (708, top.o_1_1073 p), (709, top.o_1_1074 p), (711, top.o_1_1076 p), (712, top.o_1_1077 p), (713, top.o_1_1078 p), (715, top.o_1_1080 p), (716, top.o_1_1081 p), (718, top.o_1_1083 p), (719, top.o_1_1084 p), (720, top.o_1_1085 p), (722, top.o_1_1087 p), (723, top.o_1_1088 p), (725, top.o_1_1090 p), (726, top.o_1_1091 p), (727, top.o_1_1092 p), (729, top.o_1_1094 p), (730, top.o_1_1095 p), (732, top.o_1_1097 p), (733, top.o_1_1098 p), (734, top.o_1_1099 p), (736, top.o_1_1101 p), (737, top.o_1_1102 p), (739, top.o_1_1104 p), (740, top.o_1_1105 p), (741, top.o_1_1106 p), (743, top.o_1_1108 p), (744, top.o_1_1109 p), (746, top.o_1_1111 p), (747, top.o_1_1112 p), (748, top.o_1_1113 p), (750, top.o_1_1115 p), (751, top.o_1_1116 p), (753, top.o_1_1118 p), (754, top.o_1_1119 p), (755, top.o_1_1120 p), (757, top.o_1_1122 p), (758, top.o_1_1123 p), (760, top.o_1_1125 p), (761, top.o_1_1126 p), (762, top.o_1_1127 p), (764, top.o_1_1129 p), (765, top.o_1_1130 p), (767, top.o_1_1132 p), (768, top.o_1_1133 p), (769, top.o_1_1134 p), (771, top.o_1_1136 p), (772, top.o_1_1137 p), (774, top.o_1_1139 p), (775, top.o_1_1140 p), (776, top.o_1_1141 p), (778, top.o_1_1143 p), (779, top.o_1_1144 p), (781, top.o_1_1146 p), (782, top.o_1_1147 p), (783, top.o_1_1148 p), (785, top.o_1_1150 p), (786, top.o_1_1151 p), (788, top.o_1_1153 p), (789, top.o_1_1154 p), (790, top.o_1_1155 p), (791, top.o_1_1156 p), (793, top.o_1_1158 p), (795, top.o_1_1160 p), (796, top.o_1_1161 p), (798, top.o_1_1163 p), (799, top.o_1_1164 p), (800, top.o_1_1165 p), (801, top.o_1_1166 p), (803, top.o_1_1168 p), (805, top.o_1_1170 p), (806, top.o_1_1171 p), (808, top.o_1_1173 p), (809, top.o_1_1174 p), (810, top.o_1_1175 p), (811, top.o_1_1176 p), (813, top.o_1_1178 p), (815, top.o_1_1180 p), (816, top.o_1_1181 p), (818, top.o_1_1183 p), (819, top.o_1_1184 p), (820, top.o_1_1185 p), (821, top.o_1_1186 p), (823, top.o_1_1188 p), (825, top.o_1_1190 p), (826, top.o_1_1191 p), (828, top.o_1_1193 p), (829, top.o_1_1194 p), (830, top.o_1_1195 p), (832, top.o_1_1197 p), (833, top.o_1_1198 p), (835, top.o_1_1200 p), (836, top.o_1_1201 p), (837, top.o_1_1202 p), (839, top.o_1_1204 p), (840, top.o_1_1205 p), (842, top.o_1_1207 p), (843, top.o_1_1208 p), (844, top.o_1_1209 p), (846, top.o_1_1211 p), (847, top.o_1_1212 p), (849, top.o_1_1214 p), (850, top.o_1_1215 p), (851, top.o_1_1216 p), (853, top.o_1_1218 p), (854, top.o_1_1219 p), (856, top.o_1_1221 p), (857, top.o_1_1222 p), (858, top.o_1_1223 p), (859, top.o_1_1224 p), (860, top.o_1_1225 p), (870, top.o_1_1496 p), (872, top.o_1_1498 p), (873, top.o_1_1499 p), (875, top.o_1_1501 p), (876, top.o_1_1502 p), (877, top.o_1_1503 p), (879, top.o_1_1505 p), (880, top.o_1_1506 p), (882, top.o_1_1508 p), (883, top.o_1_1509 p), (884, top.o_1_1510 p), (886, top.o_1_1512 p), (887, top.o_1_1513 p), (889, top.o_1_1515 p), (890, top.o_1_1516 p), (891, top.o_1_1517 p), (893, top.o_1_1519 p), (894, top.o_1_1520 p), (896, top.o_1_1522 p), (897, top.o_1_1523 p), (898, top.o_1_1524 p), (901, top.o_1_1527 p), (902, top.o_1_1528 p), (903, top.o_1_1529 p), (906, top.o_1_1532 p), (907, top.o_1_1533 p), (908, top.o_1_1534 p), (911, top.o_1_1537 p), (912, top.o_1_1538 p)]
/-- the facts of the run's top -/
structure Ok (C : Cx) : Prop where
  k : ∀ a o, List.lookup a (KK C.w.params) = some o → a ≠ 899 → a ≠ 207 → C.B.get? a = some o
  top : ∃ mg mb, Top0 C mg mb ∧ (∀ (x : Str) v, nsIn (KK C.w.params) mainGlobals x = some (some v) → mg x = some v) ∧ (∀ x : Str, nsIn (KK C.w.params) mainGlobals x = some none → mg x = none) ∧ ∀ (x : Str) v, x ≠ ("__name__" : Str) → bootBuiltins x = some v → mb x = some v
  bm : ∃ mg mb bm ob, Top0 C mg mb ∧ mg ("__builtins__" : Str) = some (.ref bm) ∧ bm ≠ builtinsNs ∧ C.B.get? bm = some ob ∧ ob.cls = .type "module" ∧ ob.dict = some builtinsNs ∧ ob.data = .plain
theorem Ok.lim {C : Cx} (S : Ok C) : C.B.NoLimit := let ⟨_, _, T, _⟩ := S.top; T.lim

noncomputable def KF (p : Params) : Frag := (KK p).filter fun q => q.1 != 899 && q.1 != 207
theorem lookup_filter {α : Type} {f : Addr → Bool} {a : Addr} {o : α} : ∀ {l : List (Addr × α)}, List.lookup a (l.filter fun q => f q.1) = some o → List.lookup a l = some o ∧ f a = true
  | [], h => by cases h
  | (b, x) :: l, h => by
    by_cases hb : f b = true
    · rw [List.filter_cons_of_pos (by simpa using hb), List.lookup_cons] at h
      rw [List.lookup_cons]
      by_cases e : (a == b) = true
      · rw [e] at h ⊢
        have := beq_iff_eq.mp e
        subst this
        exact ⟨h, hb⟩
      · rw [Bool.not_eq_true] at e
        rw [e] at h ⊢
        exact lookup_filter h
    · rw [List.filter_cons_of_neg (by simpa using hb)] at h
      obtain ⟨h1, h2⟩ := lookup_filter h
      refine ⟨?_, h2⟩
      rw [List.lookup_cons]
      have e : (a == b) = false := by
        rw [beq_eq_false_iff_ne]
        rintro rfl
        exact hb h2
      rw [e]; exact h1
theorem Ok.kin {C : Cx} (S : Ok C) {h : Heap} (hb : ∀ b o, C.B.get? b = some o → h.get? b = some o) : (KF C.w.params).In h := fun a o e => by
  obtain ⟨h1, h2⟩ := lookup_filter (f := fun a => a != 899 && a != 207) e
  simp only [Bool.and_eq_true, bne_iff_ne, ne_eq] at h2
  exact hb _ _ (S.k a o h1 h2.1 h2.2)
def MOD : Int := 2147483647
set_option maxHeartbeats 4000000 in
theorem spec_next {C : Cx} {A : Around} {l l' : Led} {R : Result → Led → Prop} {a : Addr} {x : Int} {m : Int} {t : Tok} (S : Ok C) (hA : A.depth < recursionLimit) (hx0 : 0 ≤ x) (hx : x < 2147483647) (hm0 : 0 < m) (hm : m < 1000)
    (hR : Rep a (intsP [x]) (intsP [(x * 48271 + 11) % 2147483647]) l l') (h : ∀ t', R (.ok (.ret (.int ((x * 48271 + 11) % 2147483647 / 64 % m) t'))) l') :
    CW C A l (.call (.ref 897) ⟨[.ref a, .int m t], []⟩) R := by
  refine cw_def S.lim hA (S.k 897 _ rfl (by decide) (by decide)) rfl ⟨896, _, _, _, rfl, S.k 896 _ rfl (by decide) (by decide), rfl, rfl⟩ rfl rfl (by decide) (locs rfl) fun L => ?_
  refine w_execs_cons (w_Assign_Sub (w_BinOp (w_BinOp (w_BinOp (w_Subscript (w_NameL rfl rfl (w_Const_int fun t1 => ?_)))))))
  refine w_subTail_ints (n := x) (.tail _ hR.mem) (by decide) (by decide) (by simp) fun u => ?_
  refine w_Const_int fun t2 => w_mul_int (IntMulOk.of_right (by decide)) fun t3 => w_Const_int fun t4 => w_add_int fun t5 => w_Const_int fun t6 => w_mod_int (by decide) fun t7 => ?_
  refine w_NameL rfl rfl (w_Const_int fun t8 => ?_)
  refine w_setItem_ints (ns := [x]) (.tail hR) (by decide) (by decide) (by simp) ?_
  refine w_execs_cons (w_Return (w_BinOp (w_BinOp (w_Subscript (w_NameL rfl rfl (w_Const_int fun t1 => ?_))))))
  refine w_subTail_ints (n := (x * 48271 + 11) % 2147483647) (.tail _ hR.mem') (by decide) (by decide) (by simp) fun u => ?_
  refine w_Const_int fun t2 => w_div_int (by decide) (by decide) fun t3 => w_NameL rfl rfl (w_mod_int hm0 fun t4 => ?_)
  exact ⟨_, .skip .refl, h _⟩
end Mine
end
/-! F2 -/
section
open PySem PySem.W PySem.Calls PyProof.Rows
set_option maxRecDepth 100000
set_option linter.all false
namespace Mine
local macro_rules | `(tactic| walk_at "lk") => `(tactic| first | exact look_eq | (refine look_ne (by decide) ?_; walk_at "lk") | assumption | exact rfl)
theorem Ok.glob {C : Cx} (S : Ok C) {A : Around} {l : Led} {e : Value → Led → Prop} {env : Env} {x : Str} {pos : Pos} {v : Value} {k : Value → Led → Prop} (hv : nsIn (KK C.w.params) mainGlobals x = some (some v)) (h : k v l) (hg : env.globals = mainGlobals := by rfl)
    (hk : env.scope.kind = .function := by rfl) (hx : env.kindOf x = some .globalImplicit := by rfl) (hd : (x == ("__debug__" : Str)) = false := by decide) : W C A l (eval (.Name x pos) env) k e :=
  let ⟨_, _, T, h1, _, _⟩ := S.top
  w_NameG T (h1 _ _ hv) h hg hk hx hd
theorem Ok.bi {C : Cx} (S : Ok C) {A : Around} {l : Led} {e : Value → Led → Prop} {env : Env} {x : Str} {pos : Pos} {v : Value} {k : Value → Led → Prop} (hn : nsIn (KK C.w.params) mainGlobals x = some none) (hv : bootBuiltins x = some v) (h : k v l) (hg : env.globals = mainGlobals := by rfl) (hb : env.builtins = builtinsNs := by rfl)
    (hk : env.scope.kind = .function := by rfl) (hx : env.kindOf x = some .globalImplicit := by rfl) (hd : (x == ("__debug__" : Str)) = false := by decide) (hq : x ≠ ("__name__" : Str) := by decide) : W C A l (eval (.Name x pos) env) k e :=
  let ⟨_, _, T, _, h2, h3⟩ := S.top
  w_NameB T (h2 _ hn) (h3 _ _ hq hv) h hg hb hk hx hd
set_option maxHeartbeats 4000000 in
theorem spec_seed {C : Cx} {A : Around} {f : Ent} {l : Led} {R : Result → Led → Prop} {a : Addr} {ns : List Int} (S : Ok C) (hA : A.depth < recursionLimit) (hh : A.handled = none) (hI : Ints C [] a ns) (hn : ns.length ≤ 63)
    (h : ∀ b x, 0 ≤ x → x < 2147483647 → R (.ok (.ret (.ref b))) (f :: (b, intsP [x]) :: l)) : CW C A (f :: l) (.call (.ref 890) ⟨[.ref a], []⟩) R := by
  refine cw_def S.lim hA (S.k 890 _ rfl (by decide) (by decide)) rfl ⟨889, _, _, _, rfl, S.k 889 _ rfl (by decide) (by decide), rfl, rfl⟩ rfl rfl (by decide) (locs rfl) fun L => ?_
  have hI' : ∀ l', Ints C l' a ns := fun l' s r hs => hI s (l' ++ r) hs
  refine w_execs_cons (w_Assign_Name (w_Const_int fun t1 => w_storeL rfl ?_))
  refine w_execs_cons (w_For_ints hh (ns.take 24) (fun b i l₂ => ∃ vs x t, l₂ = (L, nsP vs) :: (b, intsP (ns.take 24)) :: f :: l ∧ vs.lookup ("seed" : Str) = some (Value.int x t) ∧ 0 ≤ x ∧ x < 2147483647) (w_slice_upto ?_) ?_ ?_)
  · refine w_NameL rfl (by walk_at "lk") (w_Const_int fun t2 => ⟨_, _, a, ns, 24, _, rfl, rfl, rfl, by decide, hI' _, by omega, fun b => ⟨b, rfl, ⟨_, 17, t1, rfl, by walk_at "lk", by decide, by decide⟩, ?_⟩⟩)
    rintro i l₂ ⟨vs, x, t, rfl, h1, h2, h3⟩
    exact Ints.mem (.tail _ (.head _))
  · rintro b i n t l₂ ⟨vs, x, t', rfl, h1, h2, h3⟩ hn'
    refine w_assign_Name (w_storeL rfl ?_)
    refine w_execs_cons (w_Assign_Name (w_BinOp (w_BinOp (w_BinOp (w_BinOp (w_NameL rfl (by walk_at "lk") (w_Const_int fun t1 => w_mul_int (IntMulOk.of_right (by decide)) fun t2 => ?_)))))))
    refine w_BinOp (w_Call_Name (S.bi rfl rfl (w_callWith_b (w_items_cons (w_NameL rfl (by walk_at "lk") (w_items_nil (w_abs fun u => ?_)))))))
    refine w_Const_int fun t3 => w_mod_int (by decide) fun t4 => w_add_int fun t5 => w_Const_int fun t6 => w_add_int fun t7 => w_Const_int fun t8 => w_mod_int (by decide) fun t9 => ?_
    refine w_storeL rfl (w_execs_nil ?_)
    exact ⟨_, _, _, rfl, by walk_at "lk", Int.emod_nonneg _ (by decide), Int.emod_lt_of_pos _ (by decide)⟩
  · rintro b l₂ ⟨vs, x, t', rfl, h1, h2, h3⟩
    refine w_execs_cons (w_Return (w_List_ (w_items_cons (w_NameL rfl h1 (w_items_nil (w_newSeq (fun b' => ?_) ?_))))))
    · refine ⟨f :: (b', intsP [x]) :: l, ?_, h b' x h2 h3⟩
      exact .pick1 (.tail (.tail (.tail .head))) (.pick (.tail .head) (fun o ho => ⟨_, .cons _ _ .nil, ho⟩) (.skip (.skip .refl)))
    · simp [sizeLine_eq]
end Mine
end
/-! G1 -/
section
open PySem PySem.W PySem.Calls PyProof.Rows
set_option maxRecDepth 100000
set_option linter.all false
namespace Mine
section
variable {α β : Type} {C : Cx} {A : Around} {l : Led} {e : Value → Led → Prop} {env : Env}

/-! trees of built-ins -/
def finK (C : Cx) (A : Around) (R : Result → Led → Prop) (fin : PySem.Fin) (l : Led) : Prop := match fin with | .done f => R (.ok f) l | .again c' => c'.quiet = true ∧ CW C A l c' R
theorem cw_builtin {id : String} {args : Args} {b : Builtin} {R : Result → Led → Prop} (hp : plainId id = true) (hb : entryFor table id = some b)
    (h : W C A.in1 l (b args) (finK C A R) (fun x l' => R (.error x) l')) : CW C A l (.builtin id args) R := fun r s hs => by
  refine codeAny_builtin hb ?_
  rw [Around.under_plainId hp args]
  refine (h.then hs (fun fin l' s' hk hs' => ?_) fun x l' s' hx hs' => ⟨l', hx, hs'⟩)
  cases fin with
  | done f => exact ⟨l', hk, hs'⟩
  | again c' => exact ⟨hk.1, hk.2 r s' hs'⟩
def vK (k e : Value → Led → Prop) (r : Result) (l : Led) : Prop := match r with | .ok (.ret v) => k v l | .ok _ => False | .error x => e x l
theorem w_callV {f : Value} {pos : List Value} {kw : List (Str × Value)} {k : Value → Led → Prop} (h : CW C A l (.call f ⟨pos, kw⟩) (vK k e)) : W C A l (PySem.call f pos kw) k e := w_call h
theorem w_callB {id : String} {b : Builtin} {args : List Value} {k : Value → Led → Prop} (hk : builtinKind id = none) (hp : plainId id = true) (hb : entryFor table id = some b) (ha : argsOk id ⟨args, []⟩)
    (h : W C A.in1 l (b ⟨args, []⟩) (finK C A (vK k e)) e) : W C A l (call (.builtin id) args) k e := by
  refine w_callV fun r s hs => ?_
  refine codeAny_call_builtin hp hb ?_
  have key : wpAny (model P C.w) A.in1 (b ⟨args, []⟩) (fun fin s' => match fin with | .done f => (fun x s' => ∃ l', vK k e x l' ∧ St C (l' ++ r) s') (.ok f) s' | .again c' => c'.quiet = true ∧ codeAny (model P C.w) A c' (fun x s' => ∃ l', vK k e x l' ∧ St C (l' ++ r) s') s') (fun x s' => (fun x s' => ∃ l', vK k e x l' ∧ St C (l' ++ r) s') (.error x) s') s := by
    refine (h.then hs (fun fin l' s' hk hs' => ?_) fun x l' s' hx hs' => ⟨l', hx, hs'⟩)
    cases fin with
    | done f => exact ⟨l', hk, hs'⟩
    | again c' => exact ⟨hk.1, hk.2 r s' hs'⟩
  simp only [checkBuiltinCall, hk]
  cases hsig : Manifest.signature? id with
  | none => exact wpAny_pure key
  | some sig =>
    simp only [argsOk, hsig] at ha
    have h2 : Bind.checkArgs id sig ⟨args, []⟩ = pure () := ha
    show wpAny _ A.in1 (Bind.checkArgs id sig ⟨args, []⟩) _ _ s
    rw [h2]; exact wpAny_pure key

/-! tuples of ints -/
def tupP (ts : List Int) (o : Obj) : Prop := o.cls = .type "tuple" ∧ ∃ vs n, IntsAre vs ts ∧ o.data = .seq vs.toArray n
def lexLt : List Int → List Int → Bool
  | x :: xs, y :: ys => if x = y then lexLt xs ys else decide (x < y)
  | [], _ :: _ => true
  | _, [] => false
theorem lexLt_asymm : ∀ {x y : List Int}, lexLt x y = true → lexLt y x = false
  | [], [], h => by simp [lexLt] at h
  | [], _ :: _, h => by simp [lexLt]
  | _ :: _, [], h => by simp [lexLt] at h
  | x :: xs, y :: ys, h => by
    unfold lexLt at h ⊢
    by_cases q : x = y
    · subst q; simp at h ⊢; exact lexLt_asymm h
    · simp [q] at h; simp [Ne.symm q]; omega
theorem lexLt_total : ∀ {x y : List Int}, lexLt x y = false → lexLt y x = true ∨ x = y
  | [], [], h => .inr rfl
  | [], _ :: _, h => by simp [lexLt] at h
  | _ :: _, [], h => by simp [lexLt]
  | x :: xs, y :: ys, h => by
    unfold lexLt at h ⊢
    by_cases q : x = y
    · subst q
      simp at h ⊢
      exact lexLt_total h
    · simp [q] at h
      simp [Ne.symm q, q]; omega
theorem lexLt_trans : ∀ {x y z : List Int}, lexLt x y = true → lexLt y z = true → lexLt x z = true
  | [], [], z, h, _ => by simp [lexLt] at h
  | [], y :: ys, [], _, h => by simp [lexLt] at h
  | [], y :: ys, z :: zs, _, h => by simp [lexLt]
  | x :: xs, [], z, h, _ => by simp [lexLt] at h
  | x :: xs, y :: ys, [], _, h => by simp [lexLt] at h
  | x :: xs, y :: ys, z :: zs, h1, h2 => by
    unfold lexLt at h1 h2 ⊢
    by_cases q : x = y
    · subst q
      simp at h1
      by_cases q2 : x = z
      · subst q2; simp at h2 ⊢; exact lexLt_trans h1 h2
      · simpa [q2] using h2
    · simp [q] at h1
      by_cases q2 : y = z
      · subst q2; simp [q, h1]
      · simp [q2] at h2
        have : x ≠ z := by omega
        simp [this]; omega
def lexLe (x y : List Int) : Prop := lexLt y x = false
theorem lexLe_refl (x : List Int) : lexLe x x := by
  unfold lexLe
  cases h : lexLt x x with
  | false => rfl
  | true => have := lexLt_asymm h; rw [h] at this; cases this
theorem lexLe_trans {x y z : List Int} (h1 : lexLe x y) (h2 : lexLe y z) : lexLe x z := by
  unfold lexLe at *
  cases h : lexLt z x with
  | false => rfl
  | true =>
    rcases lexLt_total h1 with h3 | h3
    · have := lexLt_trans h h3; rw [h2] at this; cases this
    · subst h3; rw [h2] at h; cases h
theorem lexLe_of_lt {x y : List Int} (h : lexLt x y = true) : lexLe x y := lexLt_asymm h

theorem tup_lt_tree {w : World} {A : Around} {E : Value → Shared → Prop} {s : Shared} {x y : List Int} {a b : Addr} {oa ob : Obj} {Pf : PySem.Fin → Shared → Prop} (ha : s.heap.get? a = some oa) (pa : tupP x oa) (hb : s.heap.get? b = some ob) (pb : tupP y ob)
    (h : Pf (.done (.ret (.bool (lexLt x y)))) s) : wpAny (model P w) A (Builtin.«tuple.__lt__» ⟨[.ref a, .ref b], []⟩) Pf E s := by
  obtain ⟨ca, xs, na, ia, da⟩ := pa
  obtain ⟨cb, ys, nb, ib, db⟩ := pb
  have hTb : s.TypeIs (.ref b) "tuple" := ⟨ob, hb, cb⟩
  show wpAny _ _ (isInstance (.ref b) (.type "tuple") >>= _) _ _ s
  refine wpAny_bind (wpAny_isInstance hTb isSubtype_tuple_tuple ?_)
  simp only [Bool.not_true, Bool.false_eq_true, if_false]
  refine wpAny_bind (wpAny_tupleItemsOf ha da ?_)
  refine wpAny_bind (wpAny_tupleItemsOf hb db ?_)
  refine wpAny_bind ?_
  refine wpAny_forIn_list _
    (fun rest r s' => r.1 = none ∧ s' = s ∧ ∃ x' y' xs' ys', rest = List.zip xs' ys' ∧ IntsAre xs' x' ∧ IntsAre ys' y' ∧ lexLt x' y' = lexLt x y ∧ decide (xs'.length < ys'.length) = decide (xs.length < ys.length))
    _ ?_ ?_ _ _ ⟨rfl, rfl, x, y, xs, ys, rfl, ia, ib, rfl, rfl⟩
  · rintro ⟨u, v⟩ rest r s' ⟨hr, rfl, x', y', xs', ys', hz, hx', hy', hdec, hlen⟩
    cases hx' with
    | nil => simp at hz
    | @cons n1 t1 xs'' x'' hx'' =>
      cases hy' with
      | nil => simp at hz
      | @cons n2 t2 ys'' y'' hy'' =>
        simp only [List.zip_cons_cons, List.cons.injEq, Prod.mk.injEq] at hz
        obtain ⟨⟨rfl, rfl⟩, rfl⟩ := hz
        refine wpAny_bind (wpAny_eqBool_int ?_)
        have hlen' : decide (xs''.length < ys''.length) = decide (xs.length < ys.length) := by rw [← hlen]; simp
        by_cases hk : n1 = n2
        · subst hk
          simp only [BEq.rfl, Bool.not_true, Bool.false_eq_true, if_false]
          exact wpAny_pure ⟨rfl, rfl, x'', y'', xs'', ys'', rfl, hx'', hy'', by rw [← hdec]; simp [lexLt], hlen'⟩
        · rw [beq_eq_false_iff_ne.mpr hk]
          simp only [Bool.not_false, if_true]
          refine wpAny_bind (wpAny_rule ?_)
          refine wpAny_bind (PyProof.Rows.lt_int (t := t1) (u := t2) (wpAny_bind (wpAny_pure (wpAny_pure (wpAny_pure ?_)))))
          have : lexLt x y = decide (n1 < n2) := by rw [← hdec]; simp [lexLt, hk]
          rw [this] at h
          exact h
  · rintro ⟨r1, r2⟩ s' ⟨hr, rfl, x', y', xs', ys', hz, hx', hy', hdec, hlen⟩
    simp only at hr
    subst hr
    refine wpAny_pure ?_
    show Pf (.done (.ret (.bool (decide (xs.length < ys.length))))) s'
    have hfin : decide (xs.length < ys.length) = lexLt x y := by
      rw [← hdec, ← hlen]
      cases hx' with
      | nil =>
        cases hy' with
        | nil => simp [lexLt]
        | cons _ _ => simp [lexLt]
      | cons _ _ =>
        cases hy' with
        | nil => simp [lexLt]
        | cons _ _ => simp at hz
    rw [hfin]; exact h
theorem tup_lt {w : World} {A : Around} {E : Value → Shared → Prop} {s : Shared} {x y : List Int} {a b : Addr} {oa ob : Obj} {Q : Value → Shared → Prop} (hu : A.units < cLine) (ha : s.heap.get? a = some oa) (pa : tupP x oa) (hb : s.heap.get? b = some ob) (pb : tupP y ob)
    (h : Q (.bool (lexLt x y)) s) : wpAny (model P w) A (richCompare .Lt (.ref a) (.ref b)) Q E s := by
  have hTa : s.TypeIs (.ref a) "tuple" := ⟨oa, ha, pa.1⟩
  have hTb : s.TypeIs (.ref b) "tuple" := ⟨ob, hb, pb.1⟩
  exact wpAny_richCompare_same_room (op := .Lt) hTa hTb F.slot_tuple_lt (wpAny_call_entry F.slot_tuple_lt hTa F.entry_tuple_lt (tup_lt_tree ha pa hb pb ⟨_, rfl, (fun e => nomatch e), h⟩) (F.args_tuple_lt_2 _ _)) hu
end
end Mine
end
/-! G2 -/
section
open PySem PySem.W PySem.Calls PyProof.Rows
set_option maxRecDepth 100000
set_option linter.all false
namespace Mine
abbrev Itm := Value × List Int
def ile (x y : Itm) : Prop := lexLe x.2 y.2
theorem ile_trans {x y z : Itm} (h1 : ile x y) (h2 : ile y z) : ile x z := lexLe_trans h1 h2
def Kid (p j : Nat) : Prop := j = 2 * p + 1 ∨ j = 2 * p + 2
theorem Kid.lt {p j : Nat} (h : Kid p j) : p < j := by unfold Kid at h; omega
theorem Kid.inj {p q j : Nat} (h : Kid p j) (h' : Kid q j) : p = q := by unfold Kid at *; omega
inductive Desc (top : Nat) : Nat → Prop
  | refl : Desc top top
  | kid {p j} : Desc top p → Kid p j → Desc top j
theorem Desc.le {top p : Nat} (h : Desc top p) : top ≤ p := by
  induction h with
  | refl => exact Nat.le_refl _
  | kid _ k ih => have := k.lt; omega
theorem Desc.zero : ∀ p, Desc 0 p := by
  intro p
  induction p using Nat.strongRecOn with
  | ind p ih =>
    cases p with
    | zero => exact .refl
    | succ n =>
      refine .kid (p := n / 2) (ih _ (by omega)) ?_
      unfold Kid; omega
structure Hole (top pos : Nat) (ps : List Itm) : Prop where
  edge : ∀ p j x y, Kid p j → top ≤ p → p ≠ pos → j ≠ pos → ps[p]? = some x → ps[j]? = some y → ile x y
  gran : ∀ g j x y, Kid g pos → Kid pos j → top ≤ g → ps[g]? = some x → ps[j]? = some y → ile x y
structure Up (top pos : Nat) (ps : List Itm) : Prop where
  edge : ∀ p j x y, Kid p j → top ≤ p → j ≠ pos → ps[p]? = some x → ps[j]? = some y → ile x y
  gran : ∀ g j x y, Kid g pos → Kid pos j → top ≤ g → ps[g]? = some x → ps[j]? = some y → ile x y
def HeapFrom (top : Nat) (ps : List Itm) : Prop := ∀ p j x y, Kid p j → top ≤ p → ps[p]? = some x → ps[j]? = some y → ile x y
theorem swp_get {α : Type} {ps : List α} {i j : Nat} {x y : α} (hx : ps[i]? = some x) (hy : ps[j]? = some y) (k : Nat) : ((ps.set i y).set j x)[k]? = if k = j then some x else if k = i then some y else ps[k]? := by
  have hi : i < ps.length := by rw [List.getElem?_eq_some_iff] at hx; exact hx.1
  have hj : j < ps.length := by rw [List.getElem?_eq_some_iff] at hy; exact hy.1
  rw [List.getElem?_set]
  by_cases h1 : j = k
  · subst h1; simp [hj]
  · rw [if_neg h1, if_neg (Ne.symm h1), List.getElem?_set]
    by_cases h2 : i = k
    · subst h2; simp [hi]
    · simp [h2, Ne.symm h2]
theorem swp_perm {α : Type} {ps : List α} {i j : Nat} {x y : α} (hx : ps[i]? = some x) (hy : ps[j]? = some y) : ((ps.set i y).set j x).Perm ps := by
  have hi : i < ps.length := by rw [List.getElem?_eq_some_iff] at hx; exact hx.1
  have hj : j < ps.length := by rw [List.getElem?_eq_some_iff] at hy; exact hy.1
  have e : (ps.set i y).set j x = (ps.toArray.swap i j (by simpa using hi) (by simpa using hj)).toList := by
    rw [List.getElem?_eq_some_iff] at hx hy
    simp [Array.swap, hx.2, hy.2]
  rw [e]
  exact Array.Perm.toList (Array.swap_perm _ _)
theorem Hole.down {top pos c : Nat} {ps : List Itm} {xc xp : Itm} (H : Hole top pos ps) (D : Desc top pos) (k : Kid pos c) (hc : ps[c]? = some xc) (hp : ps[pos]? = some xp)
    (hm : ∀ j y, Kid pos j → ps[j]? = some y → ile xc y) : Hole top c ((ps.set c xp).set pos xc) := by
  have g := swp_get hc hp
  have hlt := k.lt
  refine ⟨fun p j x y kj ht hpc hjc h1 h2 => ?_, fun q j x y k1 k2 ht h1 h2 => ?_⟩
  · rw [g] at h1 h2
    have := kj.lt
    by_cases e : p = pos
    · subst e
      rw [if_pos rfl] at h1
      rw [if_neg (by omega), if_neg hjc] at h2
      cases h1
      exact hm _ _ kj h2
    · rw [if_neg e, if_neg hpc] at h1
      by_cases e2 : j = pos
      · subst e2
        rw [if_pos rfl] at h2
        cases h2
        exact H.gran p c x _ kj k ht h1 hc
      · rw [if_neg e2, if_neg hjc] at h2
        exact H.edge p j x y kj ht e e2 h1 h2
  · have := k1.inj k
    subst this
    have := k2.lt
    rw [g] at h1 h2
    rw [if_pos rfl] at h1
    rw [if_neg (by omega), if_neg (by omega)] at h2
    cases h1
    exact H.edge c j _ y k2 (by omega) (by omega) (by omega) hc h2
theorem Hole.up {top pos : Nat} {ps : List Itm} (H : Hole top pos ps) (h : ps.length / 2 ≤ pos) : Up top pos ps := by
  refine ⟨fun p j x y kj ht hj h1 h2 => ?_, H.gran⟩
  by_cases e : p = pos
  · subst e
    rw [List.getElem?_eq_some_iff] at h2
    have := h2.1
    unfold Kid at kj
    omega
  · exact H.edge p j x y kj ht e hj h1 h2
theorem Up.step {top pos q : Nat} {ps : List Itm} {x p : Itm} (H : Up top pos ps) (k : Kid q pos) (ht : top ≤ q) (hx : ps[pos]? = some x) (hp : ps[q]? = some p) (hl : lexLt x.2 p.2 = true) : Up top q ((ps.set q x).set pos p) := by
  have g := swp_get hp hx
  have hlt := k.lt
  have hxp : ile x p := lexLe_of_lt hl
  refine ⟨fun p' j u v kj htp hjq h1 h2 => ?_, fun g' j u v k1 k2 htg h1 h2 => ?_⟩
  · rw [g] at h1 h2
    have hj := kj.lt
    by_cases e : j = pos
    · subst e
      have := kj.inj k
      subst this
      rw [if_pos rfl] at h2
      rw [if_neg (by omega), if_pos rfl] at h1
      cases h1; cases h2; exact hxp
    · rw [if_neg e, if_neg hjq] at h2
      by_cases e1 : p' = pos
      · subst e1
        rw [if_pos rfl] at h1
        cases h1
        exact H.gran q j _ v k kj ht hp h2
      · rw [if_neg e1] at h1
        by_cases e2 : p' = q
        · subst e2
          rw [if_pos rfl] at h1
          cases h1
          exact ile_trans hxp (H.edge p' j _ v kj ht e hp h2)
        · rw [if_neg e2] at h1
          exact H.edge p' j u v kj htp e h1 h2
  · rw [g] at h1 h2
    have a1 := k1.lt
    have a2 := k2.lt
    rw [if_neg (by omega), if_neg (by omega)] at h1
    have h3 : ile u p := H.edge g' q u p k1 htg (by omega) h1 hp
    by_cases e : j = pos
    · rw [if_pos e] at h2
      cases h2
      exact h3
    · rw [if_neg e, if_neg (by omega)] at h2
      exact ile_trans h3 (H.edge q j p v k2 ht e hp h2)
theorem Up.top {top : Nat} {ps : List Itm} (H : Up top top ps) : HeapFrom top ps := fun p j x y kj ht h1 h2 => H.edge p j x y kj ht (by have := kj.lt; omega) h1 h2
theorem Up.stop {top pos q : Nat} {ps : List Itm} {x p : Itm} (H : Up top pos ps) (k : Kid q pos) (hx : ps[pos]? = some x) (hp : ps[q]? = some p) (hl : lexLt x.2 p.2 = false) : HeapFrom top ps := fun p' j u v kj ht h1 h2 => by
  by_cases e : j = pos
  · subst e
    have := kj.inj k
    subst this
    rw [hp] at h1; rw [hx] at h2
    cases h1; cases h2; exact hl
  · exact H.edge p' j u v kj ht e h1 h2
theorem HeapFrom.prev {top : Nat} {ps : List Itm} (H : HeapFrom (top + 1) ps) : Hole top top ps :=
  ⟨fun p j x y kj ht hp _ h1 h2 => H p j x y kj (by omega) h1 h2, fun g j x y k1 _ ht _ _ => by have := k1.lt; omega⟩
theorem HeapFrom.min {ps : List Itm} {x : Itm} (H : HeapFrom 0 ps) (h0 : ps[0]? = some x) : ∀ y ∈ ps, ile x y := by
  have key : ∀ (j : Nat) (y : Itm), ps[j]? = some y → ile x y := by
    intro j
    induction j using Nat.strongRecOn with
    | ind j ih =>
      intro y hy
      cases j with
      | zero => rw [h0] at hy; cases hy; exact lexLe_refl _
      | succ n =>
        have hlt : n + 1 < ps.length := by rw [List.getElem?_eq_some_iff] at hy; exact hy.1
        have hq : ps[n / 2]? = some (ps[n / 2]'(by omega)) := List.getElem?_eq_getElem _
        exact ile_trans (ih _ (by omega) _ hq) (H (n / 2) (n + 1) _ _ (by unfold Kid; omega) (Nat.zero_le _) hq hy)
  intro y hy
  obtain ⟨j, hj, rfl⟩ := List.getElem_of_mem hy
  exact key j _ (List.getElem?_eq_getElem hj)
theorem HeapFrom.leaf {ps : List Itm} {t : Nat} (h : ps.length / 2 ≤ t) : HeapFrom t ps := fun p j x y kj ht h1 h2 => by
  rw [List.getElem?_eq_some_iff] at h2
  have := h2.1
  unfold Kid at kj
  omega
end Mine
end
/-! G3 -/
section
open PySem PySem.W PySem.Calls PyProof.Rows
set_option maxRecDepth 100000
set_option linter.all false
namespace Mine
section
variable {α β : Type} {C : Cx} {A : Around} {l : Led} {e : Value → Led → Prop} {env : Env}
theorem w_seqItems {a : Addr} {cls : String} {vs : List Value} {k : Option (Array Value) → Led → Prop} (hm : (a, seqP cls vs) ∈ l) (h : k (some vs.toArray) l) : W C A l (seqItems? (.ref a)) k e := fun r s hs => by
  obtain ⟨o, ho, _, n, hd⟩ := hs.get hm
  exact wpAny_seqItems ho hd ⟨l, h, hs⟩
theorem w_updateSeq {a : Addr} {cls : String} {vs vs' : List Value} {f : Array Value → Array Value} {l' : Led} {k : Unit → Led → Prop} (R : Rep a (seqP cls vs) (seqP cls vs') l l') (hf : f vs.toArray = vs'.toArray) (hz : vs.length ≤ 1000000) (hz' : vs'.length ≤ 1000000) (h : k () l') :
    W C A l (updateSeq a f) k e := fun r s hs => by
  obtain ⟨o, ho, hc, n, hd⟩ := hs.get R.mem
  refine wpAny_updateSeq ho hd ⟨l', h, ?_⟩ (by rw [sizeLine_eq]; simp; omega) (by rw [hf, sizeLine_eq]; simp; omega)
  obtain ⟨c, d, dt, sl⟩ := o
  simp only at hd hc
  subst hd
  refine hs.rep R (Heap.SameBut.update ..) ⟨_, Heap.get?_update_self _ ho rfl, hc, ?_⟩ s.toks
  simp [Obj.mapSeq, hf]
def Told (l : Led) (x : Itm) : Prop := ∃ a, x.1 = .ref a ∧ (a, tupP x.2) ∈ l
theorem Told.mid {l r : Led} {p : Ent} {x : Itm} (h : Told (l ++ r) x) : Told (l ++ p :: r) x := by
  obtain ⟨a, e, hm⟩ := h
  refine ⟨a, e, ?_⟩
  rcases List.mem_append.mp hm with h | h
  · exact List.mem_append_left _ h
  · exact List.mem_append_right _ (.tail _ h)
theorem w_lt {x y : Itm} {k : Value → Led → Prop} (hu : A.units < cLine) (hx : Told l x) (hy : Told l y) (h : k (.bool (lexLt x.2 y.2)) l) : W C A l (richCompare .Lt x.1 y.1) k e := fun r s hs => by
  obtain ⟨a, e1, h1⟩ := hx
  obtain ⟨b, e2, h2⟩ := hy
  obtain ⟨oa, ha, pa⟩ := hs.get h1
  obtain ⟨ob, hb, pb⟩ := hs.get h2
  rw [e1, e2]
  exact tup_lt hu ha pa hb pb ⟨l, h, hs⟩
abbrev lst (ps : List Itm) : Obj → Prop := seqP "list" (ps.map (·.1))
abbrev siftC (a : Addr) (down : Bool) (pos top : Nat) (result : Value) : Code := .builtin "_heapq.heapify.sift" ⟨[.ref a, .bool false, .bool down, rawInt pos, rawInt top, result, rawInt ((top : Int) - 1)], []⟩
theorem plain_sift : plainId "_heapq.heapify.sift" = true := by decide +kernel
theorem entry_sift : entryFor table "_heapq.heapify.sift" = some Builtin.«_heapq.heapify.sift» := entryFor_of_tree (by kernel_rfl)
theorem w_at {a : Array Value} {i : Nat} {v : Value} {k : Value → Led → Prop} {t : Sem Value} (hv : a[i]? = some v) (h : k v l) (ht : t = match a[i]? with | some v => pure v | none => unsupported "internal:_heapq.index" := by rfl) : W C A l t k e := by
  subst ht; rw [hv]; exact w_pure h

section sift
variable {pre post : Led} {a : Addr} {result : Value} {R : Result → Led → Prop} {ps₀ : List Itm}
theorem sift_up (hu : A.units < 9000) (hz : ps₀.length ≤ 100000) (ht : ∀ x ∈ ps₀, Told (pre ++ post) x) {top : Nat}
    (next : ∀ ps, ps.Perm ps₀ → HeapFrom top ps → (top = 0 → R (.ok (.ret result)) (pre ++ (a, lst ps) :: post)) ∧ (∀ t, top = t + 1 → CW C A (pre ++ (a, lst ps) :: post) (siftC a true t t result) R)) :
    ∀ pos ps, ps.Perm ps₀ → Desc top pos → pos < ps.length ∨ pos = top → Up top pos ps → CW C A (pre ++ (a, lst ps) :: post) (siftC a false pos top result) R := by
  intro pos
  induction pos using Nat.strongRecOn with
  | ind pos ih =>
    intro ps hp hD hpl hU
    have hin : (a, lst ps) ∈ pre ++ (a, lst ps) :: post := List.mem_append_right _ (.head _)
    have hlen : ps.length = ps₀.length := hp.length_eq
    refine cw_builtin plain_sift entry_sift ?_
    refine w_bind ?_
    show W C A.in1 _ (seqItems? (.ref a) >>= _) _ _
    refine w_bind (w_seqItems hin (w_pure ?_))
    dsimp only [Int.toNat_natCast]
    have hret : ∀ ps', ps'.Perm ps₀ → HeapFrom top ps' → W C A.in1 (pre ++ (a, lst ps') :: post) (if (top : Int) - 1 < 0 then ret result else again (.builtin "_heapq.heapify.sift" ⟨[.ref a, .bool false, .bool true, rawInt (((top : Int) - 1).toNat : Int), rawInt (((top : Int) - 1).toNat : Int), result, rawInt ((top : Int) - 1 - 1)], []⟩)) (finK C A R) fun x l' => R (.error x) l' := by
      intro ps' h1 h2
      obtain ⟨n1, n2⟩ := next ps' h1 h2
      cases top with
      | zero =>
        rw [if_pos (by decide)]
        exact w_pure (n1 rfl)
      | succ t =>
        have e1 : ((t + 1 : Nat) : Int) - 1 = (t : Int) := by omega
        rw [if_neg (by omega), e1, Int.toNat_natCast]
        exact w_pure ⟨plainId_quiet plain_sift _, n2 t rfl⟩
    rw [if_neg Bool.false_ne_true]
    by_cases hgt : pos > top
    · rw [if_pos hgt]
      obtain ⟨q, hq, hk⟩ : ∃ q, Desc top q ∧ Kid q pos := by
        cases hD with
        | refl => omega
        | kid h1 h2 => exact ⟨_, h1, h2⟩
      have hqe : (pos - 1) / 2 = q := by unfold Kid at hk; omega
      have hqlt := hk.lt
      rw [hqe]
      have hl : pos < ps.length := by omega
      obtain ⟨x, hx⟩ : ∃ x, ps[pos]? = some x := ⟨_, List.getElem?_eq_getElem hl⟩
      obtain ⟨p, hpq⟩ : ∃ x, ps[q]? = some x := ⟨_, List.getElem?_eq_getElem (by omega)⟩
      have hx' : (ps.map (·.1)).toArray[pos]? = some x.1 := by simp [hx]
      have hp' : (ps.map (·.1)).toArray[q]? = some p.1 := by simp [hpq]
      have tx : Told (pre ++ (a, lst ps) :: post) x := (ht x (hp.mem_iff.mp (List.mem_of_getElem? hx))).mid
      have tp : Told (pre ++ (a, lst ps) :: post) p := (ht p (hp.mem_iff.mp (List.mem_of_getElem? hpq))).mid
      refine w_bind (w_at hx' (w_bind (w_at hp' ?_)))
      rw [if_neg Bool.false_ne_true]
      refine w_bind ?_
      show W C A.in1 _ (holding [_, _] _ >>= _) _ _
      refine w_bind (w_holding (w_bind (w_lt (by show A.units + 1 < cLine; simp [cLine]; omega) tx tp ?_)))
      refine (w_truthy_bool ?_ : W C A.in1 _ (truthOfDropped (.bool _)) _ _)
      refine w_bind ?_
      show W C A.in1 _ (seqItems? (.ref a) >>= _) _ _
      refine w_bind (w_seqItems hin (w_pure ?_))
      rw [if_neg (by simp)]
      refine w_pure ?_
      cases hlt : lexLt x.2 p.2 with
      | false =>
        rw [if_neg Bool.false_ne_true]
        exact hret ps hp (hU.stop hk hx hpq hlt)
      | true =>
        rw [if_pos rfl]
        refine w_bind ?_
        refine w_bind ?_
        show W C A.in1 _ (seqItems? (.ref a) >>= _) _ _
        refine w_bind (w_seqItems hin (w_pure (w_bind (w_at hp' (w_bind (w_at hx' ?_))))))
        refine w_updateSeq (vs' := ((ps.set q x).set pos p).map (·.1)) Rep.mid (by simp [List.map_set]) (by simp; omega) (by simp; omega) ?_
        exact w_pure ⟨plainId_quiet plain_sift _, ih q hqlt _ ((swp_perm hpq hx).trans hp) hq (by simp; omega) (hU.step hk hq.le hx hpq hlt)⟩
    · rw [if_neg hgt]
      have : pos = top := by have := hD.le; omega
      subst this
      exact hret ps hp hU.top
theorem sift_down (hu : A.units < 9000) (hz : ps₀.length ≤ 100000) (ht : ∀ x ∈ ps₀, Told (pre ++ post) x) {top : Nat}
    (next : ∀ ps, ps.Perm ps₀ → HeapFrom top ps → (top = 0 → R (.ok (.ret result)) (pre ++ (a, lst ps) :: post)) ∧ (∀ t, top = t + 1 → CW C A (pre ++ (a, lst ps) :: post) (siftC a true t t result) R)) :
    ∀ m pos ps, ps₀.length - pos = m → ps.Perm ps₀ → Desc top pos → pos < ps.length → Hole top pos ps → CW C A (pre ++ (a, lst ps) :: post) (siftC a true pos top result) R := by
  intro m
  induction m using Nat.strongRecOn with
  | ind m ih =>
    intro pos ps hm hp hD hpl hU
    have hin : (a, lst ps) ∈ pre ++ (a, lst ps) :: post := List.mem_append_right _ (.head _)
    have hlen : ps.length = ps₀.length := hp.length_eq
    refine cw_builtin plain_sift entry_sift ?_
    refine w_bind ?_
    show W C A.in1 _ (seqItems? (.ref a) >>= _) _ _
    refine w_bind (w_seqItems hin (w_pure ?_))
    dsimp only [Int.toNat_natCast]
    rw [if_pos rfl]
    have hsz : (ps.map (·.1)).toArray.size = ps.length := by simp
    rw [hsz]
    obtain ⟨x, hx⟩ : ∃ x, ps[pos]? = some x := ⟨_, List.getElem?_eq_getElem hpl⟩
    have hx' : (ps.map (·.1)).toArray[pos]? = some x.1 := by simp [hx]
    have swap : ∀ c xc, Kid pos c → ps[c]? = some xc → (∀ j y, Kid pos j → ps[j]? = some y → ile xc y) →
        W C A.in1 (pre ++ (a, lst ps) :: post) (updateSeq a (fun xs => (xs.setIfInBounds c x.1).setIfInBounds pos xc.1)) (fun _ l' => W C A.in1 l' (again (siftC a true c top result)) (finK C A R) fun x l' => R (.error x) l') fun x l' => R (.error x) l' := by
      intro c xc hk hc hmin
      have hcl : c < ps.length := by rw [List.getElem?_eq_some_iff] at hc; exact hc.1
      have := hk.lt
      refine w_updateSeq (vs' := ((ps.set c x).set pos xc).map (·.1)) Rep.mid (by simp [List.map_set]) (by simp; omega) (by simp; omega) ?_
      exact w_pure ⟨plainId_quiet plain_sift _, ih (ps₀.length - c) (by omega) c _ rfl ((swp_perm hc hx).trans hp) (.kid hD hk) (by simp; omega) (hU.down hD hk hc hx hmin)⟩
    by_cases h1 : pos < ps.length / 2
    · rw [if_pos h1]
      obtain ⟨y, hy⟩ : ∃ x, ps[2 * pos + 1]? = some x := ⟨_, List.getElem?_eq_getElem (by omega)⟩
      have hy' : (ps.map (·.1)).toArray[2 * pos + 1]? = some y.1 := by simp [hy]
      have ty : Told (pre ++ (a, lst ps) :: post) y := (ht y (hp.mem_iff.mp (List.mem_of_getElem? hy))).mid
      by_cases h2 : 2 * pos + 1 + 1 < ps.length
      · rw [if_pos h2]
        obtain ⟨z, hz'⟩ : ∃ x, ps[2 * pos + 1 + 1]? = some x := ⟨_, List.getElem?_eq_getElem h2⟩
        have hz'' : (ps.map (·.1)).toArray[2 * pos + 1 + 1]? = some z.1 := by simp [hz']
        have tz : Told (pre ++ (a, lst ps) :: post) z := (ht z (hp.mem_iff.mp (List.mem_of_getElem? hz'))).mid
        refine w_bind (w_at hy' (w_bind (w_at hz'' ?_)))
        rw [if_neg Bool.false_ne_true]
        refine w_bind ?_
        show W C A.in1 _ (holding [_, _] _ >>= _) _ _
        refine w_bind (w_holding (w_bind (w_lt (by show A.units + 1 < cLine; simp [cLine]; omega) ty tz ?_)))
        refine (w_truthy_bool ?_ : W C A.in1 _ (truthOfDropped (.bool _)) _ _)
        refine w_bind ?_
        show W C A.in1 _ (seqItems? (.ref a) >>= _) _ _
        refine w_bind (w_seqItems hin (w_pure ?_))
        rw [if_neg (by simp)]
        refine w_pure ?_
        cases hlt : lexLt y.2 z.2 with
        | false =>
          rw [if_pos (by decide)]
          refine w_bind (w_bind ?_)
          show W C A.in1 _ (seqItems? (.ref a) >>= _) _ _
          refine w_bind (w_seqItems hin (w_pure (w_bind (w_at hz'' (w_bind (w_at hx' (swap _ z (.inr rfl) hz' ?_)))))))
          rintro j u (rfl | rfl) hu'
          · rw [hy] at hu'; cases hu'; exact hlt
          · rw [hz'] at hu'; cases hu'; exact lexLe_refl _
        | true =>
          rw [if_neg (by decide)]
          refine w_bind (w_bind ?_)
          show W C A.in1 _ (seqItems? (.ref a) >>= _) _ _
          refine w_bind (w_seqItems hin (w_pure (w_bind (w_at hy' (w_bind (w_at hx' (swap _ y (.inl rfl) hy ?_)))))))
          rintro j u (rfl | rfl) hu'
          · rw [hy] at hu'; cases hu'; exact lexLe_refl _
          · rw [hz'] at hu'; cases hu'; exact lexLe_of_lt hlt
      · rw [if_neg h2]
        refine w_bind (w_bind ?_)
        show W C A.in1 _ (seqItems? (.ref a) >>= _) _ _
        refine w_bind (w_seqItems hin (w_pure (w_bind (w_at hy' (w_bind (w_at hx' (swap _ y (.inl rfl) hy ?_)))))))
        rintro j u (rfl | rfl) hu'
        · rw [hy] at hu'; cases hu'; exact lexLe_refl _
        · rw [List.getElem?_eq_some_iff] at hu'; have := hu'.1; omega
    · rw [if_neg h1]
      exact w_pure ⟨plainId_quiet plain_sift _, sift_up hu hz ht next pos ps hp hD (.inl hpl) (hU.up (by omega))⟩
theorem sift_all (hu : A.units < 9000) (hz : ps₀.length ≤ 100000) (ht : ∀ x ∈ ps₀, Told (pre ++ post) x)
    (fin : ∀ ps, ps.Perm ps₀ → HeapFrom 0 ps → R (.ok (.ret result)) (pre ++ (a, lst ps) :: post)) :
    ∀ top ps, ps.Perm ps₀ → top < ps.length → Hole top top ps → CW C A (pre ++ (a, lst ps) :: post) (siftC a true top top result) R := by
  intro top
  induction top with
  | zero => exact fun ps hp hl hH => sift_down hu hz ht (fun ps' h1 h2 => ⟨fun _ => fin ps' h1 h2, fun t h => by omega⟩) _ _ _ rfl hp .refl hl hH
  | succ t ih => exact fun ps hp hl hH => sift_down hu hz ht (fun ps' h1 h2 => ⟨fun h => by omega, fun t' h => by
      obtain rfl : t = t' := by omega
      exact ih ps' h1 (by have := hp.length_eq; have := h1.length_eq; omega) h2.prev⟩) _ _ _ rfl hp .refl hl hH
end sift
theorem w_isList {a : Addr} {vs : List Value} {k : Bool → Led → Prop} (hm : (a, seqP "list" vs) ∈ l) (h : k true l) : W C A l (isInstance (.ref a) (.type "list")) k e := fun r s hs => by
  obtain ⟨o, ho, hP⟩ := hs.get hm
  exact wpAny_isInstance (T := "list") (b := true) ⟨o, ho, hP.1⟩ (by rw [isSubtype_type]; kernel_rfl) ⟨l, h, hs⟩
theorem kind_heappop : builtinKind "_heapq.heappop" = none := by decide +kernel
theorem plain_heappop : plainId "_heapq.heappop" = true := by decide +kernel
theorem entry_heappop : entryFor table "_heapq.heappop" = some Builtin.«_heapq.heappop» := entryFor_of_tree (by kernel_rfl)
theorem owner__heapq : Manifest.owners.lookup (String.ofList ['q', 'p', 'a', 'e', 'h', '_'].reverse) = some Manifest.sig__heapq := by kernel_rfl
theorem args_heappop (a : Value) : argsOk "_heapq.heappop" ⟨[a], []⟩ := by
  unfold argsOk; rw [signature?_of (id := "_heapq.heappop") (n := ['p', 'o', 'p', 'p', 'a', 'e', 'h']) (o := ['q', 'p', 'a', 'e', 'h', '_']) (by kernel_rfl) owner__heapq]; kernel_rfl
theorem w_heappop {pre post : Led} {a : Addr} {ps : List Itm} {k : Value → Led → Prop} (hu : A.units < 9000) (hz : ps.length ≤ 100000) (ht : ∀ x ∈ ps, Told (pre ++ post) x) (hH : HeapFrom 0 ps) (hne : ps ≠ [])
    (h : ∀ x ps', (x :: ps').Perm ps → HeapFrom 0 ps' → (∀ y ∈ ps', ile x y) → k x.1 (pre ++ (a, lst ps') :: post)) : W C A (pre ++ (a, lst ps) :: post) (call (.builtin "_heapq.heappop") [.ref a]) k e := by
  have hin : ∀ vs, (a, seqP "list" vs) ∈ pre ++ (a, seqP "list" vs) :: post := fun vs => List.mem_append_right _ (.head _)
  refine w_callB kind_heappop plain_heappop entry_heappop (args_heappop _) ?_
  refine w_bind ?_
  refine w_bind (m := oneArg "_heapq.heappop" _) (w_pure ?_)
  refine w_bind ?_
  refine w_bind (w_isList (hin _) ?_)
  rw [if_pos rfl]
  refine w_pure (w_pure ?_)
  dsimp only
  refine w_bind ?_
  show W C A.in1 _ (seqItems? (.ref a) >>= _) _ _
  refine w_bind (w_seqItems (hin _) (w_pure ?_))
  obtain ⟨i0, last, rfl⟩ : ∃ i z, ps = i ++ [z] := ⟨ps.dropLast, ps.getLast hne, (List.dropLast_concat_getLast hne).symm⟩
  have hb : ((i0 ++ [last]).map (·.1)).toArray.back? = some last.1 := by simp
  rw [hb]
  dsimp only
  refine w_bind (w_updateSeq (vs' := i0.map (·.1)) Rep.mid (by simp) (by simp at hz ⊢; omega) (by simp at hz ⊢; omega) ?_)
  cases i0 with
  | nil =>
    rw [if_pos (by simp)]
    exact w_pure (h last [] (by simp) (fun p j x y _ _ h1 => by simp at h1) (by simp))
  | cons first mid =>
    rw [if_neg (by simp)]
    have h0 : ((first :: mid ++ [last]).map (·.1)).toArray[0]? = some first.1 := by simp
    refine w_bind (w_at h0 ?_)
    have hlen : (first :: mid ++ [last]).length = mid.length + 2 := by simp
    refine w_bind (w_updateSeq (vs' := (last :: mid).map (·.1)) Rep.mid (by simp) (by simp at hz ⊢; omega) (by simp at hz ⊢; omega) ?_)
    have hmin := hH.min (x := first) (by simp)
    have hperm : (first :: last :: mid).Perm (first :: mid ++ [last]) := by
      rw [List.cons_append]
      refine List.Perm.cons _ ?_
      exact (List.perm_append_singleton last mid).symm
    refine w_pure ⟨plainId_quiet plain_sift _, ?_⟩
    refine sift_all (ps₀ := last :: mid) hu (by simp at hz ⊢; omega) (fun x hx => ht x (hperm.mem_iff.mp (.tail _ hx))) (fun ps' h1 h2 => ?_) 0 _ (.refl _) (by simp) ⟨fun p j x y kj _ hp hj h1 h2 => ?_, fun g j x y k1 _ _ _ _ => by have := k1.lt; omega⟩
    · exact h first ps' ((h1.cons first).trans hperm) h2 fun y hy => hmin y (hperm.mem_iff.mp (.tail _ (h1.mem_iff.mp hy)))
    · have e1 : (first :: mid ++ [last])[p]? = some x := by
        cases p with
        | zero => exact absurd rfl hp
        | succ p =>
          simp at h1 ⊢
          rw [List.getElem?_append_left (by rw [List.getElem?_eq_some_iff] at h1; exact h1.1)]
          exact h1
      have e2 : (first :: mid ++ [last])[j]? = some y := by
        cases j with
        | zero => exact absurd rfl hj
        | succ p =>
          simp at h2 ⊢
          rw [List.getElem?_append_left (by rw [List.getElem?_eq_some_iff] at h2; exact h2.1)]
          exact h2
      exact hH p j x y kj (Nat.zero_le _) e1 e2
theorem kind_heappush : builtinKind "_heapq.heappush" = none := by decide +kernel
theorem plain_heappush : plainId "_heapq.heappush" = true := by decide +kernel
theorem entry_heappush : entryFor table "_heapq.heappush" = some Builtin.«_heapq.heappush» := entryFor_of_tree (by kernel_rfl)
theorem args_heappush (a b : Value) : argsOk "_heapq.heappush" ⟨[a, b], []⟩ := by
  unfold argsOk; rw [signature?_of (id := "_heapq.heappush") (n := ['h', 's', 'u', 'p', 'p', 'a', 'e', 'h']) (o := ['q', 'p', 'a', 'e', 'h', '_']) (by kernel_rfl) owner__heapq]; kernel_rfl
theorem w_heappush {pre post : Led} {a : Addr} {ps : List Itm} {x : Itm} {k : Value → Led → Prop} (hu : A.units < 9000) (hz : ps.length < 100000) (ht : ∀ x ∈ ps, Told (pre ++ post) x) (hx : Told (pre ++ post) x) (hH : HeapFrom 0 ps)
    (h : ∀ ps', ps'.Perm (x :: ps) → HeapFrom 0 ps' → k .none (pre ++ (a, lst ps') :: post)) : W C A (pre ++ (a, lst ps) :: post) (call (.builtin "_heapq.heappush") [.ref a, x.1]) k e := by
  have hin : ∀ vs, (a, seqP "list" vs) ∈ pre ++ (a, seqP "list" vs) :: post := fun vs => List.mem_append_right _ (.head _)
  refine w_callB kind_heappush plain_heappush entry_heappush (args_heappush _ _) ?_
  refine w_bind ?_
  refine w_bind (m := noKeywords "_heapq.heappush" _) (w_pure ?_)
  refine w_bind (m := checkCount "heappush" 2 2 _) (w_pure ?_)
  dsimp only
  refine w_bind ?_
  refine w_bind (w_isList (hin _) ?_)
  rw [if_pos rfl]
  refine w_pure (w_pure ?_)
  dsimp only
  refine w_bind (w_updateSeq (vs' := (ps ++ [x]).map (·.1)) Rep.mid (by simp) (by simp; omega) (by simp; omega) ?_)
  refine w_bind ?_
  show W C A.in1 _ (seqItems? (.ref a) >>= _) _ _
  refine w_bind (w_seqItems (hin _) (w_pure ?_))
  have hsz : ((ps ++ [x]).map (·.1)).toArray.size - 1 = ps.length := by simp
  rw [hsz]
  have hperm : (ps ++ [x]).Perm (x :: ps) := List.perm_append_singleton x ps
  refine w_pure ⟨plainId_quiet plain_sift _, ?_⟩
  refine sift_up (top := 0) (ps₀ := ps ++ [x]) hu (by simp; omega) (fun y hy => ?_) (fun ps' h1 h2 => ⟨fun _ => h ps' (h1.trans hperm) h2, fun t h => by omega⟩) _ _ (.refl _) (Desc.zero _) (.inl (by simp)) ⟨fun p j u v kj _ hj h1 h2 => ?_, fun g j u v _ k2 _ _ h2 => ?_⟩
  · rcases List.mem_append.mp hy with hy | hy
    · exact ht y hy
    · rw [List.mem_singleton.mp hy]; exact hx
  · have hjl : j < ps.length := by
      rw [List.getElem?_eq_some_iff] at h2
      have := h2.1
      simp at this
      omega
    have := kj.lt
    rw [List.getElem?_append_left hjl] at h2
    rw [List.getElem?_append_left (by omega)] at h1
    exact hH p j u v kj (Nat.zero_le _) h1 h2
  · rw [List.getElem?_eq_some_iff] at h2
    have := h2.1
    have := k2.lt
    simp at *
    omega
theorem kind_heapify : builtinKind "_heapq.heapify" = none := by decide +kernel
theorem plain_heapify : plainId "_heapq.heapify" = true := by decide +kernel
theorem entry_heapify : entryFor table "_heapq.heapify" = some Builtin.«_heapq.heapify» := entryFor_of_tree (by kernel_rfl)
theorem args_heapify (a : Value) : argsOk "_heapq.heapify" ⟨[a], []⟩ := by
  unfold argsOk; rw [signature?_of (id := "_heapq.heapify") (n := ['y', 'f', 'i', 'p', 'a', 'e', 'h']) (o := ['q', 'p', 'a', 'e', 'h', '_']) (by kernel_rfl) owner__heapq]; kernel_rfl
theorem w_heapify {pre post : Led} {a : Addr} {ps : List Itm} {k : Value → Led → Prop} (hu : A.units < 9000) (hz : ps.length < 2000) (ht : ∀ x ∈ ps, Told (pre ++ post) x)
    (h : ∀ ps', ps'.Perm ps → HeapFrom 0 ps' → k .none (pre ++ (a, lst ps') :: post)) : W C A (pre ++ (a, lst ps) :: post) (call (.builtin "_heapq.heapify") [.ref a]) k e := by
  have hin : ∀ vs, (a, seqP "list" vs) ∈ pre ++ (a, seqP "list" vs) :: post := fun vs => List.mem_append_right _ (.head _)
  refine w_callB kind_heapify plain_heapify entry_heapify (args_heapify _) ?_
  refine w_bind ?_
  refine w_bind (m := oneArg "_heapq.heapify" _) (w_pure ?_)
  refine w_bind ?_
  refine w_bind (w_isList (hin _) ?_)
  rw [if_pos rfl]
  refine w_pure (w_pure ?_)
  dsimp only
  refine w_bind ?_
  show W C A.in1 _ (seqItems? (.ref a) >>= _) _ _
  refine w_bind (w_seqItems (hin _) (w_pure ?_))
  have hsz : (ps.map (·.1)).toArray.size = ps.length := by simp
  rw [hsz, if_neg (by omega)]
  by_cases h2 : ps.length < 2
  · rw [if_pos h2]
    exact w_pure (h ps (.refl _) (.leaf (by omega)))
  · rw [if_neg h2]
    have e1 : ((ps.length / 2 : Nat) : Int) - 2 = ((ps.length / 2 - 1 : Nat) : Int) - 1 := by omega
    rw [e1]
    refine w_pure ⟨plainId_quiet plain_sift _, ?_⟩
    refine sift_all hu (by omega) ht h _ _ (.refl _) (by omega) (HeapFrom.prev (.leaf (by omega)))
end
end Mine
end
/-! K1 -/
section
open PySem PySem.W PySem.Calls PyProof.Rows
set_option maxRecDepth 100000
set_option linter.all false
namespace Mine
/-! dicts of names with a bound: the own dict of an instance -/
def idP (C : Cx) (k : Nat) (vs : Vars) (o : Obj) : Prop := o.cls = .type "dict" ∧ o.dict = none ∧ ∃ es ep, o.data = .dict es ep ∧ es.size ≤ k ∧ StrKeys es ∧ (∀ name, nsFind es name = vs.lookup name) ∧ KeysOf (strKind P C.w) es
theorem idP.ns {C : Cx} {k : Nat} {vs : Vars} {o : Obj} (h : idP C k vs o) : nsP vs o := let ⟨_, _, es, ep, hd, _, hk, hf, _⟩ := h; ⟨es, ep, hd, hk, hf⟩
theorem idP.put {C : Cx} {k : Nat} {vs : Vars} {o : Obj} {x : Str} {t : Tok} {v : Value} (h : idP C k vs o) : idP C (k + 1) (put x v vs) (Obj.putName x (PyData.keyHash C.w.params x) (.str x t) v o) ∧ (Obj.putName x (PyData.keyHash C.w.params x) (.str x t) v o).isFreed = false := by
  obtain ⟨h1, h2, es, ep, hd, hz, hk, hm, hh⟩ := h
  obtain ⟨c, d, dt, sl⟩ := o
  simp only at h1 h2 hd
  subst h1 h2 hd
  rw [Obj.putName_eq]
  cases hi : es.findIdx? (·.key.isStr x) with
  | some i =>
    simp only [Obj.putNameByArray, hi]
    refine ⟨⟨rfl, rfl, _, ep, rfl, by simp; omega, hk.modify _ _, fun y => ?_, hh.modify _ _⟩, rfl⟩
    rw [lookup_put, ← hm]
    exact findBy_modify (fun n v => v.isStr n) Value.isStr_inj es x y v i hi
  | none =>
    simp only [Obj.putNameByArray, hi]
    refine ⟨⟨rfl, rfl, _, ep + 1, rfl, by simp; omega, hk.push _ _ _ _, fun y => ?_, hh.push (k := x) (strKind_is P C.w x t) _⟩, rfl⟩
    rw [lookup_put, ← hm]
    exact findBy_push (fun n v => v.isStr n) es x y _ _ v (fun y => by
      show (x == y) = decide (y = x)
      by_cases h : y = x
      · subst h; simp
      · have : ¬ x = y := fun e => h e.symm
        simp [h, this]) hi
theorem idP.empty {C : Cx} : idP C 0 [] emptyDict := ⟨rfl, rfl, #[], 0, rfl, Nat.le_refl _, fun e he => by simp at he, fun name => by simp [nsFind, findBy], fun e he => by simp at he⟩
theorem StrKeys.noRef {es : Array DictEntry} (hk : StrKeys es) : es.any (·.refKey) = false := by
  rw [Array.any_eq_false']; intro e he; obtain ⟨n, t, h⟩ := hk e he; simp [DictEntry.refKey, h]
theorem lookIn_ns {vs : Vars} {o : Obj} (h : nsP vs o) (name : Str) : lookIn name o = some (vs.lookup name) := by
  obtain ⟨es, ep, hd, hk, hf⟩ := h
  have hn := StrKeys.noRef hk
  have hf' := hf name
  unfold nsFind findBy at hf'
  unfold lookIn
  rw [hd]
  dsimp only
  rw [← Array.any_toList] at hn
  rw [hn]
  rw [← Array.find?_toList] at hf'
  cases q : es.toList.find? (fun e => e.key.isStr name) with
  | some e => rw [q] at hf'; simp at hf'; rw [← hf']
  | none => rw [q] at hf'; simp at hf'; rw [← hf']; rfl
/-- a dict that holds at a name what is wanted, and nothing else -/
def one (name : Str) : Option Value → Obj
  | some v => { cls := .type "dict", data := .dict #[⟨0, .str name 0, v⟩] }
  | none => emptyDict
theorem lookIn_one (name : Str) (r : Option Value) : lookIn name (one name r) = some r := by
  cases r with
  | none => rfl
  | some v => simp [one, lookIn, Value.isStr]
theorem findObj_one {K : Frag} {C : Addr} {o : Obj} {name : Str} {r : Option Value} (h : lookIn name o = some r) : findObj K C (some o) name = findObj K C (some (one name r)) name := by
  unfold findObj PySem.W.ownOf
  simp only [h, lookIn_one]
section
variable {α β : Type} {C : Cx} {A : Around} {l : Led} {e : Value → Led → Prop} {env : Env}
/-- an instance of a class of the program's -/
structure Inst (C : Cx) (l : Led) (x Cc dx : Addr) (vs : Vars) : Prop where
  x : (x, (· = instObj Cc dx)) ∈ l
  d : ∃ k, k ≤ 900 ∧ (dx, idP C k vs) ∈ l
theorem Inst.at {x Cc dx : Addr} {vs : Vars} {r : Led} {s : Shared} (I : Inst C l x Cc dx vs) (hs : St C (l ++ r) s) : ∃ od, InstAt s.heap x (instObj Cc dx) Cc (some od) ∧ nsP vs od := by
  obtain ⟨ox, hox, rfl⟩ := hs.get I.x
  obtain ⟨k, _, hm⟩ := I.d
  obtain ⟨od, hod, hP⟩ := hs.get hm
  exact ⟨od, ⟨hox, rfl, rfl, hod⟩, hP.ns⟩
theorem Ok.kis {C : Cx} (S : Ok C) {s : Shared} {r : Led} (hs : St C (l ++ r) s) : (KF C.w.params).In s.heap := S.kin hs.hp.base
theorem w_getattr (S : Ok C) {x Cc dx : Addr} {vs : Vars} {name : Str} {v : Value} {expr : Bool} {k : Value → Led → Prop} (I : Inst C l x Cc dx vs) (hv : vs.lookup name = some v) (h : k v l)
    (hf : findObj (KF C.w.params) Cc (some (one name (some v))) name = some (.value v) := by kernel_rfl) (hga : findIn (KF C.w.params) (.ref Cc) "__getattribute__" = some (some (.builtin "object.__getattribute__")) := by kernel_rfl) (hh : handedIn v = true := by rfl) :
    W C A l (getAttr (.ref x) name expr) k e := fun r s hs => by
  obtain ⟨od, J, hP⟩ := I.at hs
  exact get_value (S.kis hs) J hga (by rw [findObj_one (lookIn_ns hP name), hv]; exact hf) hh ⟨l, h, hs.toks⟩
theorem w_getbind (S : Ok C) {x Cc dx : Addr} {vs : Vars} {name : Str} {g a : Value} {o : Option Value} {expr : Bool} {k : Value → Led → Prop} (I : Inst C l x Cc dx vs) (hv : vs.lookup name = o)
    (h : W C A.in1 l (call g [a, .ref x, .ref Cc]) (fun v l' => handedIn v = true ∧ k v l') noE)
    (hf : findObj (KF C.w.params) Cc (some (one name o)) name = some (.bind g a) := by kernel_rfl) (hga : findIn (KF C.w.params) (.ref Cc) "__getattribute__" = some (some (.builtin "object.__getattribute__")) := by kernel_rfl)
    (hk : findIn (KF C.w.params) (.ref Cc) "__getattr__" = some none := by kernel_rfl) :
    W C A l (getAttr (.ref x) name expr) k e := fun r s hs => by
  obtain ⟨od, J, hP⟩ := I.at hs
  refine get_bind (S.kis hs) J hga (by rw [findObj_one (lookIn_ns hP name), hv]; exact hf) hk ?_
  refine h.then (s := { s with toks := s.toks + 1 }) hs.toks (fun v l' s' ⟨h1, h2⟩ hs' => ?_) fun _ _ _ z => z.elim
  rw [handedOut_of h1]; exact wpAny_pure ⟨l', h2, hs'⟩
theorem w_method (S : Ok C) {x Cc dx : Addr} {vs : Vars} {name : Str} {f : Addr} {pl : Sem Bool} {k : Value × List Value → Led → Prop} (I : Inst C l x Cc dx vs) (hv : vs.lookup name = none) (h : k (.ref f, [.ref x]) l)
    (hf : findIn (KF C.w.params) (.ref Cc) name = some (some (.ref f)) := by kernel_rfl) (ht : typeIn (KF C.w.params) (.ref f) = some (.type "function") := by kernel_rfl)
    (hga : findIn (KF C.w.params) (.ref Cc) "__getattribute__" = some (some (.builtin "object.__getattribute__")) := by kernel_rfl) (hk : findIn (KF C.w.params) (.ref Cc) "__getattr__" = some none := by kernel_rfl) :
    W C A l (getMethod (.ref x) name pl) k e := fun r s hs => by
  obtain ⟨od, J, hP⟩ := I.at hs
  refine method_fn (S.kis hs) J hga hk hf ht ?_ ⟨l, h, hs⟩
  unfold shadowIn
  dsimp only
  rw [lookIn_ns hP, hv]; rfl
theorem w_MethodCall {o : Expr} {name : Str} {apos pos : Pos} {args : List Expr} {pl : Sem Bool} {k : Value → Led → Prop}
    (h : W C A l (eval o env) (fun ov l₁ => W C A l₁ (getMethod ov name pl) (fun fx l₂ => W C A l₂ (callWith pos fx.1 fx.2 (backTo pos (starEach args env)) []) k e) e) e)
    (he : eval (.Call (.Attribute o name apos) args [] pos) env = (do
      let ov ← eval o env
      standAt apos.atName
      let (f, first) ← holding [ov] (getMethod ov name pl)
      callWith pos f first (backTo pos (starEach args env)) []) := by rfl) : W C A l (eval (.Call (.Attribute o name apos) args [] pos) env) k e := fun r s hs =>
  PyProof.Rows.MethodCall_ (h.step hs fun _ _ _ h₁ hs₁ => h₁.step hs₁ fun _ _ s₂ h₂ hs₂ => h₂ r s₂ hs₂) he
theorem w_AttributeN {x attr : Str} {xp pos : Pos} {k : Value → Led → Prop} (h : W C A l (eval (.Name x xp) env) (fun o l₁ => W C A l₁ (getAttr o attr true) k e) e)
    (he : eval (.Attribute (.Name x xp) attr pos) env = (do
      let o ← eval (.Name x xp) env
      standAt pos.atName
      let r ← holding [o] (getAttr o attr true)
      letTemporaryGo (.Name x xp) o r
      pure r) := by with_unfolding_all rfl) : W C A l (eval (.Attribute (.Name x xp) attr pos) env) k e := fun r s hs =>
  Attribute_Name_ (h.step hs fun _ _ s₁ h₁ hs₁ => h₁ r s₁ hs₁) he
theorem w_callWith_fn0 {pos : Pos} {a : Addr} {o : Obj} {fd : FuncData} {first : List Value} {k : Value → Led → Prop} (ho : C.B.get? a = some o) (hdata : o.data = .func fd)
    (h : CW C A l (.call (.ref a) ⟨first, []⟩) (vK k e)) : W C A l (callWith pos (.ref a) first (backTo pos (starEach [] env)) []) k e := fun r s hs =>
  callWith_meth0 hdata (hs.old ho) ((w_callV h : W C A l (call (.ref a) first) k e) r s hs)
/-- x.attr = v -/
theorem w_Assign_Attr {o attr pos' value pos} {k : Flow → Led → Prop}
    (h : W C A l (eval value env) (fun v l₁ => W C A l₁ (eval o env) (fun ov l₂ => W C A l₂ (setAttr ov attr v) (fun _ l₃ => k .next l₃) e) e) e)
    (hs : swapsWith value (some (.Attribute o attr pos')) pos.line env = pure false := by rfl) : W C A l (exec (.Assign [.Attribute o attr pos'] value pos) env) k e := fun r s hs' =>
  plainObj_wpAny_Assign_Attribute (h.step hs' fun _ _ s₁ h₁ hs₁ => h₁.step hs₁ fun _ _ s₂ h₂ hs₂ => h₂ r s₂ hs₂) hs
theorem w_nsSet {a : Addr} {k : Nat} {vs : Vars} {x : Str} {v : Value} {l' : Led} {K : Unit → Led → Prop} (R : Rep a (idP C k vs) (idP C (k + 1) (put x v vs)) l l') (h : K () l') : W C A l (nsSet a x v) K e := fun r s hs => by
  obtain ⟨o, ho, hP⟩ := hs.get R.mem
  unfold nsSet strHash
  refine wpAny_bind (wpAny_bind (wpAny_askSetting (wpAny_pure (wpAny_bind (wpAny_mkText (wpAny_bind (wpAny_loadPart ho ?_)))))))
  have hP' := hP
  obtain ⟨h1, h2, es, ep, hd, hz, hk, hm, _⟩ := hP'
  rw [hd]
  dsimp only
  rw [aRefKeyMayBeTheName_eq]
  simp only [aRefKeyMayBeTheNameByArray, StrKeys.noRef hk, Bool.and_false, Bool.false_eq_true, if_false]
  have hput := hP.put (x := x) (t := s.toks) (v := v)
  exact wpAny_updatePart ho ⟨l', h, hs.rep R (Heap.SameBut.update ..) ⟨_, Heap.get?_update_self _ ho hput.2, hput.1⟩ (s.toks + 1)⟩
theorem w_setattr (S : Ok C) {x Cc dx : Addr} {k : Nat} {vs : Vars} {name : Str} {v : Value} {l' : Led} {K : Unit → Led → Prop} (hx : (x, (· = instObj Cc dx)) ∈ l) (R : Rep dx (idP C k vs) (idP C (k + 1) (put name v vs)) l l') (hk : k ≤ 900) (h : K () l')
    (hsa : findIn (KF C.w.params) (.ref Cc) "__setattr__" = some (some (.builtin "object.__setattr__")) := by kernel_rfl) (hp : plainOver (KF C.w.params) Cc = true := by kernel_rfl) (ht : takerIn (KF C.w.params) Cc name = some none := by kernel_rfl)
    (hh : (clsIn (KF C.w.params) Cc).any (·.hasDict) = true := by kernel_rfl) : W C A l (setAttr (.ref x) name v) K e := fun r s hs => by
  have I : Inst C l x Cc dx vs := ⟨hx, k, hk, R.mem⟩
  obtain ⟨od, J, hP⟩ := I.at hs
  obtain ⟨cd, hc, hd'⟩ := any_some hh
  refine set_plain (S.kis hs) J hsa ?_
  have hs1 : St C (l ++ r) { s with toks := s.toks + 1 } := hs.toks
  obtain ⟨od, J, hP⟩ := I.at hs1
  refine osa_open (s := { s with toks := s.toks + 1 }) (S.kis hs1) J hp ht fun b => ?_
  obtain ⟨ox, hox, rfl⟩ := hs1.get hx
  refine wpAny_bind (wpAny_pure (wpAny_bind (wpAny_bind (wpAny_loadPart hox (wpAny_bind ((looks_clsIn (S.kis hs1) hc).here ?_))))))
  rw [hd']
  refine wpAny_pure (a := some dx) (wpAny_bind (wpAny_pure (wpAny_bind ?_)))
  refine ((w_nsSet (A := A.in1) (e := noE) R (K := fun _ l₁ => l₁ = l') rfl)).then hs1 (fun _ l₁ s₁ e₁ hs₁ => ?_) fun _ _ _ z => z.elim
  subst e₁
  obtain ⟨od', hod', hP'⟩ := hs₁.get R.mem'
  obtain ⟨_, _, es, ep, hd, hz, _⟩ := hP'
  refine wpAny_bind (wpAny_lookBehind hod' (by rw [hd]; exact pastItsLine_dict (by rw [sizeLine_eq]; omega)) ?_)
  exact wpAny_pure ⟨l₁, h, hs₁⟩
end
end Mine
end
/-! K2 -/
section
open PySem PySem.W PySem.Calls PyProof.Rows
set_option maxRecDepth 100000
set_option linter.all false
namespace Mine
section
variable {α β : Type} {C : Cx} {A : Around} {l : Led} {e : Value → Led → Prop} {env : Env}
theorem cw_fn {R : Result → Led → Prop} {a : Addr} {o : Obj} {fd : FuncData} {body : List Stmt} {args : Args}
    (hlim : C.B.NoLimit) (hroom : A.depth < recursionLimit) (ho : C.B.get? a = some o) (hdata : o.data = .func fd) (hcd : C.B.CodeRec fd.code fd.qualname)
    (hbody : fd.body = .stmts body) (hcell : ∀ x ∈ fd.scope.names, x.2 ≠ .cell)
    (hb : W C A.in1 l (bindArgs fd args) (fun binds l' => (∀ x ∈ binds, fd.scope.names.lookup x.1 = some .local) ∧
      ∀ L, W C (A.deeper (callEnv fd L a)) ((L, nsP binds.reverse) :: l') (execs body (callEnv fd L a)) (fun f l' => ∃ l₁, Sub l₁ l' ∧ R (.ok (.ret (match f with | .ret v => v | _ => .none))) l₁)
      (fun x l' => W C (A.deeper (callEnv fd L a)) l' (leaving (callEnv fd L a) x) (fun _ l'' => R (.error x) l'') (fun x' l'' => R (.error x') l''))) fun x l' => R (.error x) l')
    (hco : fd.scope.isCoroutine = false := by rfl) (hgen : fd.scope.isGenerator = false := by rfl) (hk : fd.scope.kind = .function := by rfl) : CW C A l (.call (.ref a) args) R := fun r s hs => by
  refine codeAny_call_function hroom (hs.old ho) hdata hco hgen hbody (hcd.keeps hs.hp.base) (hb.then hs (fun binds l' s₁ ⟨hloc, h⟩ hs₁ => ?_) fun x l' s₁ hx hs₁ => ⟨l', hx, hs₁⟩)
  refine wpAny_newFunctionEnv hcell hloc (fun h₀ hns₀ hsb₀ => ⟨(hlim.keeps hs₁.hp.base).fresh _ hsb₀, codeAny_func ?_⟩) hk
  have hk₀ : ∀ b o, s₁.heap.get? b = some o → h₀.get? b = some o := fun b o e => hsb₀.extBut b o (Nat.ne_of_lt (Heap.lt_size e)) (Heap.get?_push_of_some _ e)
  have hs' : St C ((s₁.heap.objs.size, nsP binds.reverse) :: l' ++ r) { s₁ with heap := h₀, toks := s₁.toks + binds.length } := by
    obtain ⟨o', es, ep, ho', hd, hkk, hf⟩ := hns₀
    exact ⟨hs₁.hp.new hk₀ (get_size _) ho' ⟨es, ep, hd, hkk, hf⟩, hs₁.bare, hs₁.os⟩
  exact (h _).then hs' (fun f l' s' ⟨l₁, hS, hr⟩ hs₁ => ⟨l₁, hr, hs₁.sub (hS.app r)⟩) (fun x l' s' hr hs₁ => (hr r s' hs₁))
theorem w_seqItemsOld {a : Addr} {o : Obj} {vs : Array Value} {n : Nat} {k : Option (Array Value) → Led → Prop} (ho : C.B.get? a = some o) (hd : o.data = .seq vs n) (h : k (some vs) l) : W C A l (seqItems? (.ref a)) k e := fun r s hs =>
  wpAny_seqItems (hs.old ho) hd ⟨l, h, hs⟩
/-! dicts -/
def dP (C : Cx) (kvs : List (Int × Value)) (o : Obj) : Prop := o.IsDictOf (intKind P C.w) kvs
/-- an empty dict -/
def eP (o : Obj) : Prop := ∃ ep, o = { cls := .type "dict", data := .dict #[] ep }
theorem eP.dict {γ : Type} [DecidableEq γ] {knd : KeyKind P C.w γ} {o : Obj} (h : eP o) : o.IsDictOf knd [] := by
  obtain ⟨ep, rfl⟩ := h
  exact ⟨#[], ep, ⟨rfl, rfl, rfl⟩, rfl, fun x hx => by simp at hx, .nil, List.nodup_nil⟩
theorem eP.dP {o : Obj} (h : eP o) : dP C [] o := h.dict
theorem w_alloc0 {o : Obj} {k : Addr → Led → Prop} (h : ∀ a, k a ((a, (· = o)) :: l)) (hf : o.isFreed = false := by rfl) : W C A l (PySem.alloc o) k e :=
  fun r s hs => wpAny_alloc ⟨_, h s.heap.objs.size, ⟨hs.hp.new (Pr := (· = o)) (fun _ _ x => Heap.get?_push_of_some _ x) (get_size _) (Heap.get?_push_size _ hf) rfl, hs.bare, hs.os⟩⟩
theorem w_allocE {k : Addr → Led → Prop} (h : ∀ a, k a ((a, eP) :: l)) : W C A l (PySem.alloc emptyDict) k e :=
  fun r s hs => wpAny_alloc ⟨_, h s.heap.objs.size, ⟨hs.hp.new (Pr := eP) (fun _ _ x => Heap.get?_push_of_some _ x) (get_size _) (Heap.get?_push_size _ rfl) ⟨0, rfl⟩, hs.bare, hs.os⟩⟩
/-- modules' own dict is the base's -/
theorem St.notMod (S : Ok C) {s : Shared} {r : Led} {d : Addr} {p : Obj → Prop} (hs : St C (l ++ r) s) (hm : (d, p) ∈ l) : (d == sysModules) = false := by
  rw [beq_eq_false_iff_ne]
  exact hs.hp.mods _ (List.mem_append_left _ hm)
theorem St.dict {s : Shared} {r : Led} {d : Addr} {kvs : List (Int × Value)} (hs : St C (l ++ r) s) (hm : (d, dP C kvs) ∈ l) : s.heap.DictOf (intKind P C.w) d kvs := by
  obtain ⟨o, ho, hP⟩ := hs.get hm
  exact Heap.dictOf_iff.mpr ⟨o, ho, hP⟩
theorem St.empty {γ : Type} [DecidableEq γ] {knd : KeyKind P C.w γ} {s : Shared} {r : Led} {d : Addr} (hs : St C (l ++ r) s) (hm : (d, eP) ∈ l) : s.heap.DictOf knd d [] := by
  obtain ⟨o, ho, hP⟩ := hs.get hm
  exact Heap.dictOf_iff.mpr ⟨o, ho, hP.dict⟩
theorem w_in_dict (S : Ok C) {d : Addr} {kvs : List (Int × Value)} {i : Int} {t : Tok} {k : Value → Led → Prop} (hm : (d, dP C kvs) ∈ l) (h : k (.bool (valueAt kvs i).isSome) l) : W C A l (compareOp .In (.int i t) (.ref d)) k e := fun r s hs =>
  wpAny_in_of (intKind_is _ _ i t) (hs.notMod S hm) (hs.dict hm).mapOf ⟨l, h, hs.toks⟩
theorem w_notIn_dict (S : Ok C) {d : Addr} {kvs : List (Int × Value)} {i : Int} {t : Tok} {k : Value → Led → Prop} (hm : (d, dP C kvs) ∈ l) (h : k (.bool (!(valueAt kvs i).isSome)) l) : W C A l (compareOp .NotIn (.int i t) (.ref d)) k e := fun r s hs =>
  wpAny_notIn_of (intKind_is _ _ i t) (hs.notMod S hm) (hs.dict hm).mapOf ⟨l, h, hs.toks⟩
theorem w_subTail_dict {value slice : Expr} {d : Addr} {kvs : List (Int × Value)} {i : Int} {t : Tok} {v : Value} {k : Value → Led → Prop} (hm : (d, dP C kvs) ∈ l) (hv : valueAt kvs i = some v) (h : k v l)
    (hs : subscripted slice false (.ref d) (.int i t) = operate [.ref d, .int i t] (getItem (.ref d) (.int i t)) := by with_unfolding_all rfl) : W C A l (subscriptTail value slice (.ref d) (.int i t)) k e := fun r s hs' =>
  tail_any (hs'.dict hm).typeIs PySem.F.slot_dict_getitem.lookup (wpAny_getItem_of (intKind_is _ _ i t) (hs'.dict hm).mapOf hv ⟨l, h, hs'.toks⟩) hs
theorem w_setItem_dict {d : Addr} {kvs : List (Int × Value)} {i : Int} {t : Tok} {v : Value} {l' : Led} {k : Unit → Led → Prop} (R : Rep d (dP C kvs) (dP C (stored kvs i v)) l l') (hz : kvs.length ≤ 100000) (h : k () l') :
    W C A l (setItem (.ref d) (.int i t) v) k e := fun r s hs =>
  wpAny_setItem_pairs (intKind_is _ _ i t) (hs.dict R.mem) (fun h' hd hb => ⟨l', h, hs.rep R hb (Heap.dictOf_iff.mp hd) _⟩) (by rw [sizeLine_eq]; omega)
theorem w_dmeth {d : Addr} {kvs : List (Int × Value)} {name : Str} {id : String} {pl : Sem Bool} {k : Value × List Value → Led → Prop} (hm : (d, dP C kvs) ∈ l) (slot : Slot "dict" name id) (hty : typeOf (.builtin id) = pure (.type "method_descriptor"))
    (h : k (.builtin id, [.ref d]) l) : W C A l (getMethod (.ref d) name pl) k e := fun r s hs => by
  obtain ⟨o, ho, hP⟩ := hs.get hm
  have hP' := hP
  obtain ⟨es, ep, hx, _⟩ := hP'
  exact getMethod_builtin (hs.dict hm).typeIs PySem.F.plainAttrs_dict slot hty (fun a e => by cases e; exact ⟨o, ho, hx.2.1⟩) ⟨l, h, hs⟩
theorem w_emeth {d : Addr} {name : Str} {id : String} {pl : Sem Bool} {k : Value × List Value → Led → Prop} (hm : (d, eP) ∈ l) (slot : Slot "dict" name id) (hty : typeOf (.builtin id) = pure (.type "method_descriptor"))
    (h : k (.builtin id, [.ref d]) l) : W C A l (getMethod (.ref d) name pl) k e := fun r s hs => by
  obtain ⟨o, ho, hP⟩ := hs.get hm
  obtain ⟨ep, rfl⟩ := hP
  exact getMethod_builtin (T := "dict") ⟨_, ho, rfl⟩ PySem.F.plainAttrs_dict slot hty (fun a e => by cases e; exact ⟨_, ho, rfl⟩) ⟨l, h, hs⟩
theorem w_dict_get2 (S : Ok C) {d : Addr} {kvs : List (Int × Value)} {i : Int} {t : Tok} {dv : Value} {k : Value → Led → Prop} (hm : (d, dP C kvs) ∈ l) (h : k ((valueAt kvs i).getD dv) l) : W C A l (call (.builtin "dict.get") [.ref d, .int i t, dv]) k e := fun r s hs =>
  call_meetsIn PySem.F.slot_dict_get (hs.dict hm).typeIs PySem.F.entry_dict_get (PySem.F.args_dict_get_3 _ _ _) (meets_dict_get_default (intKind P C.w) d (intKind_is _ _ i t) (hs.notMod S hm) dv) ⟨valueAt kvs, (hs.dict hm).mapOf, l, h, hs.toks⟩
theorem w_edict_pop (S : Ok C) {d : Addr} {x : Str} {t : Tok} {dv : Value} {k : Value → Led → Prop} (hm : (d, eP) ∈ l) (h : k dv l) : W C A l (call (.builtin "dict.pop") [.ref d, .str x t, dv]) k e := fun r s hs =>
  call_meetsIn PySem.F.slot_dict_pop (hs.empty (knd := strKind P C.w) hm).typeIs PySem.F.entry_dict_pop (PySem.F.args_dict_pop_3 _ _ _) (meets_dict_pop_default (strKind P C.w) d (strKind_is _ _ x t) (hs.notMod S hm) rfl dv) ⟨[], hs.empty hm, rfl, l, h, hs.toks⟩
/-- an empty dict updated by an empty one -/
theorem w_edict_update (S : Ok C) {d o : Addr} {l' : Led} {k : Value → Led → Prop} (R : Rep d (dP C []) (dP C []) l l') (ho : (o, eP) ∈ l) (hdo : d ≠ o) (h : k .none l') : W C A l (call (.builtin "dict.update") [.ref d, .ref o]) k e := fun r s hs =>
  call_meetsIn PySem.F.slot_dict_update (hs.dict R.mem).typeIs PySem.F.entry_dict_update (PySem.F.args_dict_update_2 _ _) (meets_dict_update (intKind P C.w) d o hdo (hs.notMod S ho)) ⟨[], [], hs.dict R.mem, hs.empty ho, by decide, fun h' h1 h2 hb =>
    ⟨l', h, hs.rep R hb (Heap.dictOf_iff.mp h1) s.toks⟩⟩
theorem w_Dict_empty {pos : Pos} {k : Value → Led → Prop} (h : ∀ a, k (.ref a) ((a, eP) :: l)) : W C A l (eval (.Dict [] [] pos) env) k e := fun r s hs =>
  wpAny_Dict_empty ⟨_, h s.heap.objs.size, hs.hp.new (Pr := eP) (fun _ _ x => Heap.get?_push_of_some _ x) (get_size _) (Heap.get?_push_size _ rfl) ⟨0, rfl⟩, hs.bare, hs.os⟩
/-! statements -/
theorem w_Expr {x pos} {k : Flow → Led → Prop} (h : W C A l (eval x env) (fun v l' => (match v with | .ref _ => False | _ => True) ∧ k .next l') e) (hi : interactive env = false := by rfl) (hs : swapsWith x none pos.line env = pure false := by rfl) : W C A l (exec (.Expr x pos) env) k e := fun r s hs' =>
  wpAny_Expr (h.step hs' fun v l' s' ⟨h1, h2⟩ hs₁ => by
    cases v <;> first | exact h1.elim | exact ⟨l', h2, hs₁⟩) hi hs
theorem w_Try_ok {body orelse : List Stmt} {h₀ : ExceptHandler} {hs : List ExceptHandler} {pos : Pos} {k : Flow → Led → Prop}
    (h : W C A l (execs body env) (fun f l' => match f with | .next => W C A l' (execs orelse env) k e | f => k f l') noE) : W C A l (exec (.Try body (h₀ :: hs) orelse [] pos) env) k e := fun r s hs' =>
  wpAny_Try_except (h.then hs' (fun f l' s' h' hs₁ => by
    cases f with
    | next => exact h' r s' hs₁
    | brk => exact ⟨l', h', hs₁⟩
    | cont => exact ⟨l', h', hs₁⟩
    | ret v => exact ⟨l', h', hs₁⟩) fun _ _ _ z => z.elim)
theorem w_isNone {v : Value} {k : Value → Led → Prop} (h : k (.bool (v == .none)) l) : W C A l (compareOp .Is v .none) k e := fun r s hs => is_none ⟨l, h, hs⟩
/-! tuples -/
theorem w_Assign_Tuple {elts j tpos value pos} {k : Flow → Led → Prop}
    (h : W C A l (eval value env) (fun v l₁ => W C A l₁ (assign (.Tuple elts j tpos) env v) (fun _ l₂ => k .next l₂) e) e)
    (hs : swapsWithSole [.Tuple elts j tpos] value pos.line env = pure false := by rfl) (hw : swappedStores [.Tuple elts j tpos] value env = pure none := by rfl) : W C A l (exec (.Assign [.Tuple elts j tpos] value pos) env) k e := fun r s hs' =>
  Assign_Tuple (h.step hs' fun _ _ s₁ h₁ hs₁ => h₁ r s₁ hs₁) hs hw
theorem w_Assign_Swap {elts j tpos value pos} {names : List Str} {k : Flow → Led → Prop}
    (hw : swappedStores [.Tuple elts j tpos] value env = pure (some names))
    (h : W C A l (eval value env) (fun v l₁ => W C A l₁ (unpackItems v names.length none) (fun items l₂ => W C A l₂ (assignInOrder (names.reverse.map fun n => bindName env n) items.reverse) (fun _ l₃ => k .next l₃) e) e) e)
    (hs : swapsWithSole [.Tuple elts j tpos] value pos.line env = pure false := by rfl) : W C A l (exec (.Assign [.Tuple elts j tpos] value pos) env) k e := fun r s hs' =>
  Assign_Tuple_swapped (h.step hs' fun _ _ _ h₁ hs₁ => h₁.step hs₁ fun _ _ s₂ h₂ hs₂ => h₂ r s₂ hs₂) hs hw
theorem w_unpackItems {t : Addr} {vs : List Value} {n : Nat} {k : List Value → Led → Prop} (hh : A.handled = none) (hm : (t, seqP "tuple" vs) ∈ l) (hn : n = vs.length) (h : k vs l) : W C A l (unpackItems (.ref t) n none) k e := fun r s hs => by
  subst hn
  obtain ⟨o, ho, hc, m, hd⟩ := hs.get hm
  have ht : IsTup s.heap t vs.toArray := ⟨o, ho, hc, m, hd⟩
  have := unpackItems_tuple (prog := P) (w := C.w) (E := EE C r e) (Q := fun a s' => ∃ l', k a l' ∧ St C (l' ++ r) s') hh ht (fun h' he => ⟨l, by simpa using h, hs.grow (fun b o e => he b o (Nat.ne_of_lt (Heap.lt_size e)) e) s.toks⟩)
  simpa using this
theorem w_assign_Tuple {elts j pos} {t : Addr} {vs : List Value} {k : Unit → Led → Prop} (hh : A.handled = none) (hm : (t, seqP "tuple" vs) ∈ l) (h : W C A l (assignInOrder ((assignEach elts env).map (·.2)) vs) k e) (hn : (assignEach elts env).length = vs.length := by rfl)
    (hstar : (assignEach elts env).findIdx? (·.1) = none := by rfl) : W C A l (assign (.Tuple elts j pos) env (.ref t)) k e := fun r s hs => by
  obtain ⟨o, ho, hc, m, hd⟩ := hs.get hm
  have ht : IsTup s.heap t vs.toArray := ⟨o, ho, hc, m, hd⟩
  exact assign_Tuple_tuple hh ht (by simpa using hn) hstar fun h' he => h r _ (hs.grow (fun b o e => he b o (Nat.ne_of_lt (Heap.lt_size e)) e) s.toks)
theorem w_ord_nil {xs : List Value} {k : Unit → Led → Prop} (h : k () l) : W C A l (assignInOrder [] xs) k e := w_pure h
theorem w_ord_cons {t : Value → Sem Unit} {ts : List (Value → Sem Unit)} {x : Value} {xs : List Value} {k : Unit → Led → Prop} (h : W C A l (t x) (fun _ l' => W C A l' (assignInOrder ts xs) k e) e) : W C A l (assignInOrder (t :: ts) (x :: xs)) k e :=
  w_bind (w_holding h)
theorem w_newTuple0 {vs : List Value} {k : Value → Led → Prop} (h : ∀ a, k (.ref a) ((a, seqP "tuple" vs) :: l)) (hsz : vs.length ≤ 1000000) : W C A l (newTuple vs) k e := fun r s hs =>
  wpAny_newTuple ⟨_, h s.heap.objs.size, hs.hp.new (Pr := seqP "tuple" vs) (fun _ _ x => Heap.get?_push_of_some _ x) (get_size _) (Heap.get?_push_size _ rfl) ⟨rfl, 0, rfl⟩, hs.bare, hs.os⟩ (by rw [sizeLine_eq]; omega)
theorem Sub.perm {l l' : Led} (h : l'.Perm l) : Sub l' l := fun nd => ⟨(h.map _).nodup_iff.mpr nd, fun p hp => ⟨p, h.mem_iff.mp hp, rfl, fun _ x => x⟩⟩
theorem W.on {t : Sem α} {r big : Led} {k : α → Led → Prop} (hp : (l ++ r).Perm big) (h : W C A l t (fun a l' => k a (l' ++ r)) (fun x l' => e x (l' ++ r))) : W C A big t k e :=
  W.sub (.perm hp) ((W.frame r h).mono (fun a l' ⟨l₁, e1, h1⟩ => e1 ▸ h1) fun a l' ⟨l₁, e1, h1⟩ => e1 ▸ h1)
end
end Mine
end
/-! K3 -/
section
open PySem PySem.W PySem.Calls PyProof.Rows
set_option maxRecDepth 100000
set_option linter.all false
namespace Mine
local macro_rules | `(tactic| walk_at "lk") => `(tactic| first | exact look_eq | (rw [lookup_put, if_neg (by decide)]; walk_at "lk") | assumption | exact rfl)
local macro_rules | `(tactic| walk_at "in") => `(tactic| first | exact List.Mem.head _ | (refine List.Mem.tail _ ?_; walk_at "in"))
local macro_rules | `(tactic| walk_at "pk") => `(tactic| first | exact Pick.head | (apply Pick.tail; walk_at "pk"))
local macro_rules | `(tactic| walk_at "rp") => `(tactic| first | exact Rep.head | (apply Rep.tail; walk_at "rp"))
local macro_rules | `(tactic| walk_at "sub") => `(tactic| first | exact Sub.refl | (refine Sub.pick1 (by walk_at "pk") ?_; walk_at "sub") | exact Sub.nil | (refine Sub.skip ?_; walk_at "sub"))
section
variable {α β : Type} {C : Cx} {A : Around} {l : Led} {e : Value → Led → Prop} {env : Env}
abbrev noRes : Result → Led → Prop := fun _ _ => False
theorem vK_ret {k e : Value → Led → Prop} {v : Value} {l : Led} (h : k v l) : vK k e (.ok (.ret v)) l := h
/-- a class of the program's called -/
theorem cw_make (S : Ok C) {Cc fI : Addr} {rest : List Value} {kw : List (Str × Value)} {R : Result → Led → Prop}
    (h : ∀ x dx, CW C (A.under (.builtin "type.__call__" ⟨.ref Cc :: rest, kw⟩)) ((x, (· = instObj Cc dx)) :: (dx, idP C 0 []) :: l) (.call (.ref fI) ⟨.ref x :: rest, kw⟩) (vK (fun v l' => v = .none ∧ R (.ok (.ret (.ref x))) l') (fun y l' => R (.error y) l')))
    (hm : makesIn (KF C.w.params) Cc = true := by kernel_rfl) (hi : findIn (KF C.w.params) (.ref Cc) "__init__" = some (some (.ref fI)) := by kernel_rfl) (hf : typeIn (KF C.w.params) (.ref fI) = some (.type "function") := by kernel_rfl) :
    CW C A l (.call (.ref Cc) ⟨rest, kw⟩) R := fun r s hs => by
  have X := S.kis hs
  obtain ⟨hh, g, d, t, os⟩ := s
  refine make_core (makes_of X hm) (looks_findIn X hi) (fun self => bind_fn X self hf) (.inl rfl) ?_
  have h1 : Hp C.B (hh.push emptyDict) ((hh.objs.size, idP C 0 []) :: l ++ r) := hs.hp.new (fun _ _ x => Heap.get?_push_of_some _ x) (get_size _) (Heap.get?_push_size _ rfl) idP.empty
  have h2 : Hp C.B ((hh.push emptyDict).push (instObj Cc hh.objs.size)) ((hh.objs.size + 1, (· = instObj Cc hh.objs.size)) :: (hh.objs.size, idP C 0 []) :: l ++ r) :=
    h1.new (fun _ _ x => Heap.get?_push_of_some _ x) (by have := get_size (hh.push emptyDict); rwa [Heap.size_push] at this) (by have := Heap.get?_push_size (hh.push emptyDict) (o := instObj Cc hh.objs.size) rfl; rwa [Heap.size_push] at this) rfl
  refine codeAny_mono (h _ _ r _ ⟨h2, hs.bare, hs.os⟩) fun res s' ⟨l', h', hs'⟩ => ?_
  rcases res with y | (v | _ | _ | _)
  · exact ⟨l', h', hs'⟩
  all_goals first | exact h'.elim | skip
  exact ⟨h'.1, l', h'.2, hs'⟩
/-- two addresses of the ledger differ -/
theorem w_ne {t : Sem α} {k : α → Led → Prop} {a b : Addr} {p q : Obj → Prop} {r : Led} (ha : Pick (a, p) l r) (hb : (b, q) ∈ r) (h : a ≠ b → W C A l t k e) : W C A l t k e := fun r' s hs => by
  refine h ?_ r' s hs
  have nd := hs.hp.nd
  rw [List.map_append, List.nodup_append] at nd
  have := (ha.keys nd.1).2
  rintro rfl
  exact this (List.mem_map_of_mem (f := (·.1)) hb)
theorem depth_make (A : Around) (vals : List Value) (kw : List (Str × Value)) (Cc : Addr) : (A.under (.builtin "type.__call__" ⟨.ref Cc :: vals, kw⟩)).depth = A.depth + 1 := rfl
theorem handled_make (A : Around) (vals : List Value) (kw : List (Str × Value)) (Cc : Addr) : (A.under (.builtin "type.__call__" ⟨.ref Cc :: vals, kw⟩)).handled = A.handled := rfl
set_option maxHeartbeats 4000000
theorem spec_366 (S : Ok C) {f : Ent} {x : Addr} {R : Result → Led → Prop} (hA : A.depth < recursionLimit) (h : ∀ a, R (.ok (.ret (.ref a))) (f :: (a, eP) :: l)) : CW C A (f :: l) (.call (.ref 366) ⟨[.ref x], []⟩) R := by
  refine cw_def S.lim hA (S.k 366 _ rfl (by decide) (by decide)) rfl ⟨365, _, _, _, rfl, S.k 365 _ rfl (by decide) (by decide), rfl, rfl⟩ rfl rfl (by decide) (locs rfl) fun L => ?_
  refine w_execs_cons (w_Return (w_Dict_empty fun a => ?_))
  exact ⟨_, .pick1 (.tail (.tail .head)) (.pick1 .head (.skip .refl)), h a⟩
theorem spec_373 (S : Ok C) {f : Ent} {x : Addr} {R : Result → Led → Prop} (hA : A.depth < recursionLimit) (h : ∀ a, R (.ok (.ret (.ref a))) (f :: (a, eP) :: l)) : CW C A (f :: l) (.call (.ref 373) ⟨[.ref x], []⟩) R := by
  refine cw_def S.lim hA (S.k 373 _ rfl (by decide) (by decide)) rfl ⟨372, _, _, _, rfl, S.k 372 _ rfl (by decide) (by decide), rfl, rfl⟩ rfl rfl (by decide) (locs rfl) fun L => ?_
  refine w_execs_cons (w_Return (w_Dict_empty fun a => ?_))
  exact ⟨_, .pick1 (.tail (.tail .head)) (.pick1 .head (.skip .refl)), h a⟩
theorem spec_380 (S : Ok C) {f : Ent} {x : Addr} {R : Result → Led → Prop} (hA : A.depth < recursionLimit) (h : ∀ a, R (.ok (.ret (.ref a))) (f :: (a, eP) :: l)) : CW C A (f :: l) (.call (.ref 380) ⟨[.ref x], []⟩) R := by
  refine cw_def S.lim hA (S.k 380 _ rfl (by decide) (by decide)) rfl ⟨379, _, _, _, rfl, S.k 379 _ rfl (by decide) (by decide), rfl, rfl⟩ rfl rfl (by decide) (locs rfl) fun L => ?_
  refine w_execs_cons (w_Return (w_Dict_empty fun a => ?_))
  exact ⟨_, .pick1 (.tail (.tail .head)) (.pick1 .head (.skip .refl)), h a⟩
theorem spec_387 (S : Ok C) {f : Ent} {x : Addr} {R : Result → Led → Prop} (hA : A.depth < recursionLimit) (h : ∀ a, R (.ok (.ret (.ref a))) (f :: (a, eP) :: l)) : CW C A (f :: l) (.call (.ref 387) ⟨[.ref x], []⟩) R := by
  refine cw_def S.lim hA (S.k 387 _ rfl (by decide) (by decide)) rfl ⟨386, _, _, _, rfl, S.k 386 _ rfl (by decide) (by decide), rfl, rfl⟩ rfl rfl (by decide) (locs rfl) fun L => ?_
  refine w_execs_cons (w_Return (w_Dict_empty fun a => ?_))
  exact ⟨_, .pick1 (.tail (.tail .head)) (.pick1 .head (.skip .refl)), h a⟩
theorem spec_394 (S : Ok C) {f : Ent} {x : Addr} {R : Result → Led → Prop} (hA : A.depth < recursionLimit) (h : ∀ a, R (.ok (.ret (.ref a))) (f :: (a, eP) :: l)) : CW C A (f :: l) (.call (.ref 394) ⟨[.ref x], []⟩) R := by
  refine cw_def S.lim hA (S.k 394 _ rfl (by decide) (by decide)) rfl ⟨393, _, _, _, rfl, S.k 393 _ rfl (by decide) (by decide), rfl, rfl⟩ rfl rfl (by decide) (locs rfl) fun L => ?_
  refine w_execs_cons (w_Return (w_Dict_empty fun a => ?_))
  exact ⟨_, .pick1 (.tail (.tail .head)) (.pick1 .head (.skip .refl)), h a⟩
theorem spec_401 (S : Ok C) {f : Ent} {x : Addr} {R : Result → Led → Prop} (hA : A.depth < recursionLimit) (h : ∀ a, R (.ok (.ret (.ref a))) (f :: (a, eP) :: l)) : CW C A (f :: l) (.call (.ref 401) ⟨[.ref x], []⟩) R := by
  refine cw_def S.lim hA (S.k 401 _ rfl (by decide) (by decide)) rfl ⟨400, _, _, _, rfl, S.k 400 _ rfl (by decide) (by decide), rfl, rfl⟩ rfl rfl (by decide) (locs rfl) fun L => ?_
  refine w_execs_cons (w_Return (w_Dict_empty fun a => ?_))
  exact ⟨_, .pick1 (.tail (.tail .head)) (.pick1 .head (.skip .refl)), h a⟩

theorem spec_init (S : Ok C) {x dx : Addr} {R : Result → Led → Prop} (hA' : A.depth + 1 < recursionLimit)
    (h : ∀ gr nd ad pd, R (.ok (.ret .none)) ((x, (· = instObj 860 dx)) :: (dx, idP C 5 [("graph", .ref gr), ("_node", .ref nd), ("_adj", .ref ad), ("_succ", .ref ad), ("_pred", .ref pd)]) :: (gr, dP C []) :: (nd, dP C []) :: (ad, dP C []) :: (pd, dP C []) :: l)) :
    CW C A ((x, (· = instObj 860 dx)) :: (dx, idP C 0 []) :: l) (.call (.ref 668) ⟨[.ref x], []⟩) R := by
  have hA : ∀ env, (A.deeper env).depth < recursionLimit := fun _ => hA'
  refine cw_fn S.lim (by omega) (S.k 668 _ rfl (by decide) (by decide)) rfl ⟨667, _, _, _, rfl, S.k 667 _ rfl (by decide) (by decide), rfl, rfl⟩ rfl (by decide) ?_
  show W C A.in1 _ (seqItems? _ >>= _) _ _
  refine w_bind (w_seqItemsOld (S.k _ _ rfl (by decide) (by decide)) rfl ?_)
  show W C A.in1 _ (PySem.alloc emptyDict >>= _) _ _
  refine w_bind (w_allocE fun d => w_pure ⟨locs rfl, fun L => ?_⟩)
  refine w_execs_cons (w_Assign_Attr (w_MethodCall (w_NameL rfl rfl (w_method S (f := 401) ⟨by walk_at "in", 0, by decide, by walk_at "in"⟩ (by rfl) (w_callWith_fn0 (S.k 401 _ rfl (by decide) (by decide)) rfl (spec_401 S (hA _) fun gr => vK_ret (w_NameL rfl rfl ?_)))))))
  refine w_setattr S (k := 0) (by walk_at "in") (by walk_at "rp") (by decide) ?_
  dsimp only [put]
  refine w_execs_cons (w_Assign_Attr (w_MethodCall (w_NameL rfl rfl (w_method S (f := 366) ⟨by walk_at "in", 1, by decide, by walk_at "in"⟩ (by rfl) (w_callWith_fn0 (S.k 366 _ rfl (by decide) (by decide)) rfl (spec_366 S (hA _) fun nd => vK_ret (w_NameL rfl rfl ?_)))))))
  refine w_setattr S (k := 1) (by walk_at "in") (by walk_at "rp") (by decide) ?_
  dsimp only [put]
  refine w_execs_cons (w_Assign_Attr (w_MethodCall (w_NameL rfl rfl (w_method S (f := 380) ⟨by walk_at "in", 2, by decide, by walk_at "in"⟩ (by rfl) (w_callWith_fn0 (S.k 380 _ rfl (by decide) (by decide)) rfl (spec_380 S (hA _) fun ad => vK_ret (w_NameL rfl rfl ?_)))))))
  refine w_setattr S (k := 2) (by walk_at "in") (by walk_at "rp") (by decide) ?_
  dsimp only [put]
  refine w_execs_cons (w_Assign_Attr (w_AttributeN (w_NameL rfl rfl (w_getattr S ⟨by walk_at "in", 3, by decide, by walk_at "in"⟩ (by rfl) (w_NameL rfl rfl ?_)))))
  refine w_setattr S (k := 3) (by walk_at "in") (by walk_at "rp") (by decide) ?_
  dsimp only [put]
  refine w_execs_cons (w_Assign_Attr (w_MethodCall (w_NameL rfl rfl (w_method S (f := 380) ⟨by walk_at "in", 4, by decide, by walk_at "in"⟩ (by rfl) (w_callWith_fn0 (S.k 380 _ rfl (by decide) (by decide)) rfl (spec_380 S (hA _) fun pd => vK_ret (w_NameL rfl rfl ?_)))))))
  refine w_setattr S (k := 4) (by walk_at "in") (by walk_at "rp") (by decide) ?_
  dsimp only [put]
  refine w_execs_cons (w_Expr (w_MethodCall (w_NameL rfl rfl (w_emeth (by walk_at "in") PySem.F.slot_dict_pop PySem.F.type_dict_pop ?_))))
  refine w_callWith_b (w_items_cons (w_Const_str fun t => w_items_cons (w_Const_none (w_items_nil (w_edict_pop S (by walk_at "in") ⟨trivial, ?_⟩)))))
  refine W.sub (l' := (L, nsP [("attr", .ref d), ("incoming_graph_data", .none), ("self", .ref x)]) :: (gr, dP C []) :: (d, eP) :: (pd, dP C []) :: (ad, dP C []) :: (nd, dP C []) :: (x, (· = instObj 860 dx)) :: (dx, idP C 5 [("graph", .ref gr), ("_node", .ref nd), ("_adj", .ref ad), ("_succ", .ref ad), ("_pred", .ref pd)]) :: l) ?_ ?_
  · exact .pick1 .head (.pick (p := eP) (by walk_at "pk") (fun _ => eP.dP) (.pick1 (by walk_at "pk") (.pick (p := eP) (by walk_at "pk") (fun _ => eP.dP) (.pick (p := eP) (by walk_at "pk") (fun _ => eP.dP) (.pick (p := eP) (by walk_at "pk") (fun _ => eP.dP) (by walk_at "sub"))))))
  refine w_ne (a := d) (b := gr) (.tail (.tail .head)) (.tail _ (.head _)) fun hne => ?_
  refine w_execs_cons (w_Expr (w_MethodCall (w_AttributeN (w_NameL rfl rfl (w_getattr S (v := .ref gr) ⟨by walk_at "in", 5, by decide, by walk_at "in"⟩ (by rfl) (w_dmeth (by walk_at "in") PySem.F.slot_dict_update PySem.F.type_dict_update ?_))))))
  refine w_callWith_b (w_items_cons (w_NameL rfl rfl (w_items_nil (w_edict_update S (.tail .head) (by walk_at "in") (Ne.symm hne) ⟨trivial, w_execs_nil ?_⟩))))
  exact ⟨_, .pick1 (by walk_at "pk") (.pick1 (by walk_at "pk") (.pick1 (by walk_at "pk") (.pick1 (by walk_at "pk") (.pick1 (by walk_at "pk") (.pick1 (by walk_at "pk") (by walk_at "sub")))))), h gr nd ad pd⟩
/-! the graph -/
abbrev KV := List (Int × Value)
structure GS where
  g : Addr
  dg : Addr
  gr : Addr
  nd : Addr
  ad : Addr
  pd : Addr
  adj : List (Addr × KV)
  prd : List (Addr × KV)
  na : List Addr
def keyedFrom : Nat → List Addr → KV
  | _, [] => []
  | i, a :: r => ((i : Int), .ref a) :: keyedFrom (i + 1) r
abbrev keyed (l : List Addr) : KV := keyedFrom 0 l
abbrev rowsL (C : Cx) (rs : List (Addr × KV)) : Led := rs.map fun r => (r.1, dP C r.2)
def GS.vars (G : GS) : Vars := [("graph", .ref G.gr), ("_node", .ref G.nd), ("_adj", .ref G.ad), ("_succ", .ref G.ad), ("_pred", .ref G.pd)]
abbrev nasL (C : Cx) (na : List Addr) : Led := na.map fun a => (a, dP C [])
/-- the graph's part of a ledger -/
abbrev GL (C : Cx) (G : GS) (tail : Led) : Led := (G.g, (· = instObj 860 G.dg)) :: (G.dg, idP C 5 G.vars) :: (G.gr, dP C []) :: (G.nd, dP C (keyed G.na)) :: (G.ad, dP C (keyed (G.adj.map (·.1)))) :: (G.pd, dP C (keyed (G.prd.map (·.1)))) :: (rowsL C G.adj ++ (rowsL C G.prd ++ (nasL C G.na ++ tail)))
theorem spec_DiGraph (S : Ok C) {R : Result → Led → Prop} (hA : A.depth + 2 < recursionLimit)
    (h : ∀ g dg gr nd ad pd, R (.ok (.ret (.ref g))) (GL C ⟨g, dg, gr, nd, ad, pd, [], [], []⟩ l)) : CW C A l (.call (.ref 860) ⟨[], []⟩) R := by
  refine cw_make (fI := 668) S fun x dx => spec_init S (by rw [depth_make]; omega) fun gr nd ad pd => ⟨rfl, ?_⟩
  exact h x dx gr nd ad pd
theorem keyed_at : ∀ (xs : List Addr) (k i : Nat), valueAt (keyedFrom k xs) ((k + i : Nat) : Int) = xs[i]?.map .ref
  | [], k, i => by simp [keyedFrom, valueAt]
  | a :: r, k, 0 => by simp [keyedFrom, valueAt]
  | a :: r, k, i + 1 => by
    have h := keyed_at r (k + 1) i
    unfold valueAt at h ⊢
    have e : ((k : Int) = ((k + (i + 1) : Nat) : Int)) = False := by simp; omega
    rw [keyedFrom, List.find?_cons]
    simp only [e, decide_false]
    have e2 : k + 1 + i = k + (i + 1) := by omega
    rw [e2] at h
    simpa using h
theorem keyed_get {xs : List Addr} {i : Nat} {a : Addr} (h : xs[i]? = some a) : valueAt (keyed xs) (i : Int) = some (.ref a) := by
  have := keyed_at xs 0 i
  rw [Nat.zero_add, h] at this
  exact this
theorem keyed_none {xs : List Addr} {i : Nat} (h : xs.length ≤ i) : valueAt (keyed xs) (i : Int) = none := by
  have := keyed_at xs 0 i
  rw [Nat.zero_add, List.getElem?_eq_none h] at this
  exact this
theorem keyed_app : ∀ (xs : List Addr) (k : Nat) (a : Addr), keyedFrom k (xs ++ [a]) = keyedFrom k xs ++ [(((k + xs.length : Nat) : Int), .ref a)]
  | [], k, a => by simp [keyedFrom]
  | x :: r, k, a => by
    have e : k + 1 + r.length = k + (x :: r).length := by simp; omega
    simp only [List.cons_append, keyedFrom]
    rw [keyed_app r (k + 1) a, e]
theorem stored_new {kvs : KV} {k : Int} {v : Value} (h : valueAt kvs k = none) : stored kvs k v = kvs ++ [(k, v)] := by
  unfold stored
  unfold valueAt at h
  rw [Option.map_eq_none_iff, List.find?_eq_none] at h
  have e : (kvs.any fun kv => decide (kv.1 = k)) = false := by
    rw [List.any_eq_false]
    intro x hx; simpa using h x hx
  rw [e]; rfl
theorem stored_keyed {xs : List Addr} {a : Addr} : stored (keyed xs) (xs.length : Int) (.ref a) = keyed (xs ++ [a]) := by
  rw [stored_new (keyed_none (Nat.le_refl _))]
  have := keyed_app xs 0 a
  rw [Nat.zero_add] at this
  exact this.symm
theorem keyed_len : ∀ (xs : List Addr) (k : Nat), (keyedFrom k xs).length = xs.length
  | [], _ => rfl
  | _ :: r, k => by simp [keyedFrom, keyed_len r]
theorem Sub.trans {a b c : Led} (h1 : Sub a b) (h2 : Sub b c) : Sub a c := fun nd => by
  obtain ⟨n2, m2⟩ := h2 nd
  obtain ⟨n1, m1⟩ := h1 n2
  refine ⟨n1, fun p hp => ?_⟩
  obtain ⟨q, hq, e1, i1⟩ := m1 p hp
  obtain ⟨q', hq', e2, i2⟩ := m2 q hq
  exact ⟨q', hq', e2.trans e1, fun o ho => i1 o (i2 o ho)⟩
theorem Sub.mid {x : Ent} {X Y : Led} : Sub (X ++ x :: Y) (x :: (X ++ Y)) := .perm List.perm_middle
theorem Sub.mid' {x : Ent} {X Y : Led} : Sub (x :: (X ++ Y)) (X ++ x :: Y) := .perm List.perm_middle.symm
theorem Sub.pre {l l' : Led} (h : Sub l' l) : ∀ X : Led, Sub (X ++ l') (X ++ l)
  | [] => h
  | x :: X => .pick1 .head (Sub.pre h X)
theorem Sub.row {adj : List (Addr × KV)} {a : Addr} {p : Obj → Prop} {kv : KV} {rest : Led} (hp : ∀ o, p o → dP C kv o) : Sub (rowsL C (adj ++ [(a, kv)]) ++ rest) ((a, p) :: (rowsL C adj ++ rest)) := by
  show Sub ((adj ++ [(a, kv)]).map (fun r => (r.1, dP C r.2)) ++ rest) _
  rw [List.map_append, List.append_assoc]
  exact Sub.mid.trans (.pick .head hp .refl)
theorem Sub.nas {na : List Addr} {a : Addr} {p : Obj → Prop} {rest : Led} (hp : ∀ o, p o → dP C [] o) : Sub (nasL C (na ++ [a]) ++ rest) ((a, p) :: (nasL C na ++ rest)) := by
  show Sub ((na ++ [a]).map (fun r => (r, dP C [])) ++ rest) _
  rw [List.map_append, List.append_assoc]
  exact Sub.mid.trans (.pick .head hp .refl)
end
end Mine
end
/-! K4 -/
section
open PySem PySem.W PySem.Calls PyProof.Rows
set_option maxRecDepth 100000
set_option linter.all false
namespace Mine
local macro_rules | `(tactic| walk_at "lk") => `(tactic| first | exact look_eq | (rw [lookup_put, if_neg (by decide)]; walk_at "lk") | assumption | exact rfl)
local macro_rules | `(tactic| walk_at "in") => `(tactic| first | exact List.Mem.head _ | (refine List.Mem.tail _ ?_; walk_at "in"))
local macro_rules | `(tactic| walk_at "pk") => `(tactic| first | exact Pick.head | (apply Pick.tail; walk_at "pk"))
local macro_rules | `(tactic| walk_at "rp") => `(tactic| first | exact Rep.head | (apply Rep.tail; walk_at "rp"))
local macro_rules | `(tactic| walk_at "sub") => `(tactic| first | exact Sub.refl | (refine Sub.pick1 (by walk_at "pk") ?_; walk_at "sub") | exact Sub.nil | (refine Sub.skip ?_; walk_at "sub"))
section
variable {α β : Type} {C : Cx} {A : Around} {l : Led} {e : Value → Led → Prop} {env : Env}
def row0 (a : Addr) : Addr × KV := (a, [])
def gsN (g dg gr nd ad pd : Addr) (aa pa na : List Addr) : GS := ⟨g, dg, gr, nd, ad, pd, aa.map row0, pa.map row0, na⟩
set_option maxHeartbeats 4000000
theorem fst_row0 (aa : List Addr) : (aa.map row0).map (·.1) = aa := by simp [row0, Function.comp_def]
theorem spec_add_nodes (S : Ok C) {g dg gr nd ad pd rg : Addr} {n : Nat} {tail : Led} {R : Result → Led → Prop} (hn : n ≤ 1000) (hA' : A.depth + 1 < recursionLimit) (hh : A.handled = none)
    (h : ∀ aa pa na, aa.length = n → pa.length = n → na.length = n → R (.ok (.ret .none)) ((rg, rngP 0 n) :: GL C (gsN g dg gr nd ad pd aa pa na) tail)) :
    CW C A ((rg, rngP 0 n) :: GL C (gsN g dg gr nd ad pd [] [] []) tail) (.call (.ref 712) ⟨[.ref g, .ref rg], []⟩) R := by
  have hA : ∀ env, (A.deeper env).depth < recursionLimit := fun _ => hA'
  refine cw_fn S.lim (by omega) (S.k 712 _ rfl (by decide) (by decide)) rfl ⟨711, _, _, _, rfl, S.k 711 _ rfl (by decide) (by decide), rfl, rfl⟩ rfl (by decide) ?_
  show W C A.in1 _ (PySem.alloc emptyDict >>= _) _ _
  refine w_bind (w_allocE fun d => w_pure ⟨locs rfl, fun L => ?_⟩)
  refine w_execs_cons (w_For_range hh 0 n (fun i l₂ => ∃ vs aa pa na, Sub ((L, nsP vs) :: (d, eP) :: (rg, rngP 0 n) :: GL C (gsN g dg gr nd ad pd aa pa na) tail) l₂ ∧ vs.lookup ("self" : Str) = some (.ref g) ∧ vs.lookup ("attr" : Str) = some (.ref d) ∧ aa.length = i ∧ pa.length = i ∧ na.length = i) (by decide) (by omega) (by omega) ?_ ?_ ?_)
  · refine w_NameL rfl rfl ⟨rg, rfl, by walk_at "in", ?_⟩
    exact ⟨_, [], [], [], .refl, by rfl, by rfl, rfl, rfl, rfl⟩
  · rintro i t' l₂ hi ⟨vs, aa, pa, na, hS, h1, h2, h3, h4, h5⟩
    refine W.sub hS ?_
    rw [Int.zero_add]
    have e1 : keyed ((gsN g dg gr nd ad pd aa pa na).adj.map (·.1)) = keyed aa := by rw [show (gsN g dg gr nd ad pd aa pa na).adj = aa.map row0 from rfl, fst_row0]
    have e2 : keyed ((gsN g dg gr nd ad pd aa pa na).prd.map (·.1)) = keyed pa := by rw [show (gsN g dg gr nd ad pd aa pa na).prd = pa.map row0 from rfl, fst_row0]
    have I : ∀ l', Inst C ((L, nsP l') :: (d, eP) :: (rg, rngP 0 n) :: GL C (gsN g dg gr nd ad pd aa pa na) tail) g 860 dg (gsN g dg gr nd ad pd aa pa na).vars := fun l' => ⟨by walk_at "in", 5, by decide, by walk_at "in"⟩
    refine w_assign_Name (w_storeL rfl ?_)
    refine w_execs_cons (w_Try_ok ?_)
    refine w_execs_cons (w_Assign_Name (w_Compare1 (w_NameL rfl look_eq (w_AttributeN (w_NameL rfl (by walk_at "lk") (w_getattr S (v := .ref nd) (I _) (by rfl) (w_notIn_dict S (by walk_at "in") ?_)))))))
    refine w_storeL rfl ?_
    refine w_execs_cons (w_Assign_Name (w_NameL rfl (look_ne (by decide) (look_ne (by decide) h2)) (w_storeL rfl (w_execs_nil (w_execs_nil ?_)))))
    have hnone : valueAt (keyed na) (i : Int) = none := keyed_none (by omega)
    refine w_execs_cons (w_If (w_isTrue_plain (w_NameL rfl (by walk_at "lk") (w_truthy_bool ⟨fun _ => ?_, fun hf => ?_⟩))))
    rotate_left
    · rw [show valueAt (keyed (gsN g dg gr nd ad pd aa pa na).na) (i : Int) = none from hnone] at hf; cases hf
    refine w_execs_cons (w_If (w_isTrue_Compare1 (w_NameL rfl (by walk_at "lk") (w_Const_none (w_isNone (w_truthy_bool ⟨fun hf => ?_, fun _ => w_execs_nil ?_⟩))))))
    · exact absurd hf (by simp)
    refine w_execs_cons (w_Assign_Sub (w_MethodCall (w_NameL rfl (by walk_at "lk") (w_method S (f := 387) ⟨by walk_at "in", 5, by decide, by walk_at "in"⟩ (by rfl) (w_callWith_fn0 (S.k 387 _ rfl (by decide) (by decide)) rfl (spec_387 S (hA _) fun a => vK_ret ?_))))))
    refine w_AttributeN (w_NameL rfl (by walk_at "lk") (w_getattr S (v := .ref ad) ⟨by walk_at "in", 5, by decide, by walk_at "in"⟩ (by rfl) (w_NameL rfl (by walk_at "lk") ?_)))
    refine w_setItem_dict (by walk_at "rp") (by rw [keyed_len]; simp [gsN]; omega) ?_
    refine w_execs_cons (w_Assign_Sub (w_MethodCall (w_NameL rfl (by walk_at "lk") (w_method S (f := 387) ⟨by walk_at "in", 5, by decide, by walk_at "in"⟩ (by rfl) (w_callWith_fn0 (S.k 387 _ rfl (by decide) (by decide)) rfl (spec_387 S (hA _) fun b => vK_ret ?_))))))
    refine w_AttributeN (w_NameL rfl (by walk_at "lk") (w_getattr S (v := .ref pd) ⟨by walk_at "in", 5, by decide, by walk_at "in"⟩ (by rfl) (w_NameL rfl (by walk_at "lk") ?_)))
    refine w_setItem_dict (by walk_at "rp") (by rw [keyed_len]; simp [gsN]; omega) ?_
    refine w_execs_cons (w_Assign_Sub (w_MethodCall (w_NameL rfl (by walk_at "lk") (w_method S (f := 373) ⟨by walk_at "in", 5, by decide, by walk_at "in"⟩ (by rfl) (w_callWith_fn0 (S.k 373 _ rfl (by decide) (by decide)) rfl (spec_373 S (hA _) fun c => vK_ret ?_))))))
    refine w_AttributeN (w_NameL rfl (by walk_at "lk") (w_getattr S (v := .ref nd) ⟨by walk_at "in", 5, by decide, by walk_at "in"⟩ (by rfl) (w_NameL rfl (by walk_at "lk") ?_)))
    refine w_setItem_dict (by walk_at "rp") (by rw [keyed_len]; simp [gsN]; omega) ?_
    refine w_execs_nil ?_
    have q1 : stored (keyed (gsN g dg gr nd ad pd aa pa na).na) (i : Int) (.ref c) = keyed (na ++ [c]) := by subst h5; exact stored_keyed
    have q2 : stored (keyed ((gsN g dg gr nd ad pd aa pa na).adj.map (·.1))) (i : Int) (.ref a) = keyed (aa ++ [a]) := by rw [e1]; subst h3; exact stored_keyed
    have q3 : stored (keyed ((gsN g dg gr nd ad pd aa pa na).prd.map (·.1))) (i : Int) (.ref b) = keyed (pa ++ [b]) := by rw [e2]; subst h4; exact stored_keyed
    rw [q1, q2, q3]
    refine W.sub (.pick1 .head (.pick (p' := dP C []) .head (fun _ => eP.dP) .refl)) ?_
    have hget : valueAt (keyed (na ++ [c])) (i : Int) = some (.ref c) := keyed_get (by subst h5; simp)
    have I' : ∀ l', Inst C ((L, nsP l') :: (c, dP C []) :: (b, eP) :: (a, eP) :: (d, eP) :: (rg, rngP 0 n) :: (g, (· = instObj 860 dg)) :: (dg, idP C 5 (gsN g dg gr nd ad pd aa pa na).vars) :: (gr, dP C []) :: (nd, dP C (keyed (na ++ [c]))) :: (ad, dP C (keyed (aa ++ [a]))) :: (pd, dP C (keyed (pa ++ [b]))) :: (rowsL C (aa.map row0) ++ (rowsL C (pa.map row0) ++ (nasL C na ++ tail)))) g 860 dg (gsN g dg gr nd ad pd aa pa na).vars := fun l' => ⟨by walk_at "in", 5, by decide, by walk_at "in"⟩
    refine w_execs_cons (w_Expr (w_MethodCall (w_Subscript (w_AttributeN (w_NameL rfl (by walk_at "lk") (w_getattr S (v := .ref nd) (I' _) (by rfl) (w_NameL rfl (by walk_at "lk") (w_subTail_dict (by walk_at "in") hget ?_))))))))
    refine w_dmeth (by walk_at "in") PySem.F.slot_dict_update PySem.F.type_dict_update ?_
    refine w_ne (a := c) (b := d) (.tail .head) (.tail _ (.tail _ (.tail _ (.head _)))) fun hne => ?_
    refine w_callWith_b (w_items_cons (w_NameL rfl (by walk_at "lk") (w_items_nil (w_edict_update S (.tail .head) (by walk_at "in") hne ⟨trivial, w_execs_nil ?_⟩))))
    have fin : ∀ vs', Sub ((L, nsP vs') :: (d, eP) :: (rg, rngP 0 n) :: GL C (gsN g dg gr nd ad pd (aa ++ [a]) (pa ++ [b]) (na ++ [c])) tail) ((L, nsP vs') :: (c, dP C []) :: (b, eP) :: (a, eP) :: (d, eP) :: (rg, rngP 0 n) :: (g, (· = instObj 860 dg)) :: (dg, idP C 5 (gsN g dg gr nd ad pd aa pa na).vars) :: (gr, dP C []) :: (nd, dP C (keyed (na ++ [c]))) :: (ad, dP C (keyed (aa ++ [a]))) :: (pd, dP C (keyed (pa ++ [b]))) :: (rowsL C (aa.map row0) ++ (rowsL C (pa.map row0) ++ (nasL C na ++ tail)))) := by
      intro vs'
      refine .pick1 .head (.pick1 (by walk_at "pk") (.pick1 (by walk_at "pk") (.pick1 (by walk_at "pk") (.pick1 (by walk_at "pk") (.pick1 (by walk_at "pk") (.pick1 (by walk_at "pk") ?_))))))
      refine .pick (by walk_at "pk") (fun o ho => by rw [show (gsN g dg gr nd ad pd (aa ++ [a]) (pa ++ [b]) (na ++ [c])).adj = (aa ++ [a]).map row0 from rfl, fst_row0]; exact ho) ?_
      refine .pick (by walk_at "pk") (fun o ho => by rw [show (gsN g dg gr nd ad pd (aa ++ [a]) (pa ++ [b]) (na ++ [c])).prd = (pa ++ [b]).map row0 from rfl, fst_row0]; exact ho) ?_
      show Sub (rowsL C ((aa ++ [a]).map row0) ++ (rowsL C ((pa ++ [b]).map row0) ++ (nasL C (na ++ [c]) ++ tail))) _
      rw [List.map_append, List.map_append]
      refine Sub.trans (Sub.row (p := eP) fun _ => eP.dP) ?_
      refine .pick1 (.tail (.tail .head)) ?_
      refine Sub.trans (Sub.pre (Sub.row (p := eP) fun _ => eP.dP) _) ?_
      refine Sub.trans Sub.mid ?_
      refine .pick1 (.tail .head) ?_
      refine Sub.trans (Sub.pre (Sub.pre (Sub.nas (p := dP C []) fun _ h => h) _) _) ?_
      refine Sub.trans (Sub.pre Sub.mid _) ?_
      exact Sub.mid
    exact ⟨_, aa ++ [a], pa ++ [b], na ++ [c], fin _, by walk_at "lk", by walk_at "lk", by simp; omega, by simp; omega, by simp; omega⟩
  · rintro l₂ ⟨vs, aa, pa, na, hS, h1, h2, h3, h4, h5⟩
    refine w_execs_nil ⟨_, .trans (.skip (.skip .refl)) hS, h aa pa na ?_ ?_ ?_⟩ <;> omega
end
end Mine
end
/-! K5 -/
section
open PySem PySem.W PySem.Calls PyProof.Rows
set_option maxRecDepth 100000
set_option linter.all false
namespace Mine
local macro_rules | `(tactic| walk_at "lk") => `(tactic| first | exact look_eq | (rw [lookup_put, if_neg (by decide)]; walk_at "lk") | assumption | exact rfl)
local macro_rules | `(tactic| walk_at "in") => `(tactic| first | exact List.Mem.head _ | (refine List.Mem.tail _ ?_; walk_at "in"))
local macro_rules | `(tactic| walk_at "pk") => `(tactic| first | exact Pick.head | (apply Pick.tail; walk_at "pk"))
local macro_rules | `(tactic| walk_at "rp") => `(tactic| first | exact Rep.head | (apply Rep.tail; walk_at "rp"))
local macro_rules | `(tactic| walk_at "sub") => `(tactic| first | exact Sub.refl | (refine Sub.pick1 (by walk_at "pk") ?_; walk_at "sub") | exact Sub.nil | (refine Sub.skip ?_; walk_at "sub"))
section
variable {α β : Type} {C : Cx} {A : Around} {l : Led} {e : Value → Led → Prop} {env : Env}
theorem mem_row {adj : List (Addr × KV)} {u : Nat} {a : Addr} {kv : KV} {rest : Led} (h : adj[u]? = some (a, kv)) : (a, dP C kv) ∈ rowsL C adj ++ rest :=
  List.mem_append_left _ (List.mem_map_of_mem (f := fun r : Addr × KV => (r.1, dP C r.2)) (List.mem_of_getElem? h))
theorem mem_row2 {adj prd : List (Addr × KV)} {u : Nat} {a : Addr} {kv : KV} {rest : Led} (h : prd[u]? = some (a, kv)) : (a, dP C kv) ∈ rowsL C adj ++ (rowsL C prd ++ rest) := List.mem_append_right _ (mem_row h)
theorem rep_row {kv kv' : KV} {a : Addr} {rest : Led} : ∀ {adj : List (Addr × KV)} {u : Nat}, adj[u]? = some (a, kv) → Rep a (dP C kv) (dP C kv') (rowsL C adj ++ rest) (rowsL C (adj.set u (a, kv')) ++ rest)
  | [], u, h => by simp at h
  | r :: adj, 0, h => by
    simp at h; subst h; exact .head
  | r :: adj, u + 1, h => .tail (rep_row (by simpa using h))
theorem Rep.pre {a : Addr} {p p' : Obj → Prop} {l l' : Led} (h : Rep a p p' l l') : ∀ X : Led, Rep a p p' (X ++ l) (X ++ l')
  | [] => h
  | _ :: X => .tail (Rep.pre h X)
theorem rep_row2 {kv kv' : KV} {a : Addr} {rest : Led} {adj prd : List (Addr × KV)} {u : Nat} (h : prd[u]? = some (a, kv)) : Rep a (dP C kv) (dP C kv') (rowsL C adj ++ (rowsL C prd ++ rest)) (rowsL C adj ++ (rowsL C (prd.set u (a, kv')) ++ rest)) := (rep_row h).pre _
theorem fst_set {adj : List (Addr × KV)} {u : Nat} {a : Addr} {kv kv' : KV} (h : adj[u]? = some (a, kv)) : (adj.set u (a, kv')).map (·.1) = adj.map (·.1) := by
  rw [List.map_set]
  apply List.ext_getElem?
  intro i
  rw [List.getElem?_set]
  by_cases e : u = i
  · subst e
    rw [List.getElem?_map, h]
    have : u < adj.length := by rw [List.getElem?_eq_some_iff] at h; exact h.1
    simp [this]
  · simp [e]
local macro_rules | `(tactic| walk_at "inr") => `(tactic| first | exact mem_row (by assumption) | exact mem_row2 (by assumption) | (apply List.Mem.tail; walk_at "inr"))
local macro_rules | `(tactic| walk_at "rpr") => `(tactic| first | exact rep_row (by assumption) | exact rep_row2 (by assumption) | (apply Rep.tail; walk_at "rpr"))
set_option maxHeartbeats 4000000
theorem spec_add_edge (S : Ok C) {G : GS} {u v : Nat} {t1 t2 : Tok} {au pv : Addr} {kv kw : KV} {tail : Led} {R : Result → Led → Prop} (hA' : A.depth + 1 < recursionLimit) (hh : A.handled = none)
    (hu : G.adj[u]? = some (au, kv)) (hv : G.prd[v]? = some (pv, kw)) (hv' : v < G.adj.length) (hfr : valueAt kv v = none) (hz : kv.length ≤ 1000) (hz' : kw.length ≤ 1000)
    (h : ∀ dd, R (.ok (.ret .none)) (GL C { G with adj := G.adj.set u (au, kv ++ [((v : Int), .ref dd)]), prd := G.prd.set v (pv, stored kw u (.ref dd)) } tail)) :
    CW C A (GL C G tail) (.call (.ref 733) ⟨[.ref G.g, .int u t1, .int v t2], []⟩) R := by
  have hA : ∀ env, (A.deeper env).depth < recursionLimit := fun _ => hA'
  have hul : u < G.adj.length := by rw [List.getElem?_eq_some_iff] at hu; exact hu.1
  have gu : valueAt (keyed (G.adj.map (·.1))) (u : Int) = some (.ref au) := keyed_get (by rw [List.getElem?_map, hu]; rfl)
  obtain ⟨av, hav⟩ : ∃ av, (G.adj.map (·.1))[v]? = some av := ⟨_, List.getElem?_eq_getElem (by simpa using hv')⟩
  have gv : valueAt (keyed (G.adj.map (·.1))) (v : Int) = some (.ref av) := keyed_get hav
  have gp : valueAt (keyed (G.prd.map (·.1))) (v : Int) = some (.ref pv) := keyed_get (by rw [List.getElem?_map, hv]; rfl)
  refine cw_fn S.lim (by omega) (S.k 733 _ rfl (by decide) (by decide)) rfl ⟨732, _, _, _, rfl, S.k 732 _ rfl (by decide) (by decide), rfl, rfl⟩ rfl (by decide) ?_
  show W C A.in1 _ (PySem.alloc emptyDict >>= _) _ _
  refine w_bind (w_allocE fun d => w_pure ⟨locs rfl, fun L => ?_⟩)
  refine w_execs_cons (w_Assign_Swap (names := ["u", "v"]) rfl (w_Tuple_ (w_items_cons (w_NameL rfl rfl (w_items_cons (w_NameL rfl rfl (w_items_nil (w_newSeq (fun t => ?_) (by simp [sizeLine_eq])))))))))
  refine w_unpackItems hh (.tail _ (.head _)) rfl ?_
  refine w_ord_cons (w_bindName (w_storeL rfl (w_ord_cons (w_bindName (w_storeL rfl (w_ord_nil ?_))))))
  refine w_execs_cons (w_If (w_isTrue_Compare1 (w_NameL rfl (by walk_at "lk") (w_AttributeN (w_NameL rfl (by walk_at "lk") (w_getattr S (v := .ref G.ad) ⟨by walk_at "in", 5, by decide, by walk_at "in"⟩ (by rfl) (w_notIn_dict S (by walk_at "in") ?_)))))))
  rw [gu]
  refine w_truthy_bool ⟨fun hf => (nomatch hf), fun _ => w_execs_nil ?_⟩
  refine w_execs_cons (w_If (w_isTrue_Compare1 (w_NameL rfl (by walk_at "lk") (w_AttributeN (w_NameL rfl (by walk_at "lk") (w_getattr S (v := .ref G.ad) ⟨by walk_at "in", 5, by decide, by walk_at "in"⟩ (by rfl) (w_notIn_dict S (by walk_at "in") ?_)))))))
  rw [gv]
  refine w_truthy_bool ⟨fun hf => (nomatch hf), fun _ => w_execs_nil ?_⟩
  refine w_execs_cons (w_Assign_Name (w_MethodCall (w_Subscript (w_AttributeN (w_NameL rfl (by walk_at "lk") (w_getattr S (v := .ref G.ad) ⟨by walk_at "in", 5, by decide, by walk_at "in"⟩ (by rfl) (w_NameL rfl (by walk_at "lk") (w_subTail_dict (by walk_at "in") gu ?_))))))))
  refine w_dmeth (kvs := kv) (by walk_at "inr") PySem.F.slot_dict_get PySem.F.type_dict_get ?_
  refine w_callWith_b (w_items_cons (w_NameL rfl (by walk_at "lk") (w_items_cons (w_MethodCall (w_NameL rfl (by walk_at "lk") (w_method S (f := 394) ⟨by walk_at "in", 5, by decide, by walk_at "in"⟩ (by rfl) (w_callWith_fn0 (S.k 394 _ rfl (by decide) (by decide)) rfl (spec_394 S (hA _) fun dd => vK_ret ?_))))))))
  refine w_items_nil (w_dict_get2 S (kvs := kv) (by walk_at "inr") ?_)
  rw [hfr]
  refine w_storeL rfl ?_
  refine W.sub (.pick1 .head (.pick (p' := dP C []) .head (fun _ => eP.dP) .refl)) ?_
  refine w_execs_cons (w_Expr (w_MethodCall (w_NameL rfl (by walk_at "lk") (w_dmeth (by walk_at "in") PySem.F.slot_dict_update PySem.F.type_dict_update ?_))))
  refine w_ne (a := dd) (b := d) (.tail .head) (.tail _ (.tail _ (.head _))) fun hne => ?_
  refine w_callWith_b (w_items_cons (w_NameL rfl (by walk_at "lk") (w_items_nil (w_edict_update S (.tail .head) (by walk_at "in") hne ⟨trivial, ?_⟩))))
  refine w_execs_cons (w_Assign_Sub (w_NameL rfl (by walk_at "lk") (w_Subscript (w_AttributeN (w_NameL rfl (by walk_at "lk") (w_getattr S (v := .ref G.ad) ⟨by walk_at "in", 5, by decide, by walk_at "in"⟩ (by rfl) (w_NameL rfl (by walk_at "lk") (w_subTail_dict (by walk_at "in") gu (w_NameL rfl (by walk_at "lk") ?_)))))))))
  refine w_setItem_dict (kvs := kv) (by walk_at "rpr") (by omega) ?_
  refine w_execs_cons (w_Assign_Sub (w_NameL rfl (by walk_at "lk") (w_Subscript (w_AttributeN (w_NameL rfl (by walk_at "lk") (w_getattr S (v := .ref G.pd) ⟨by walk_at "in", 5, by decide, by walk_at "in"⟩ (by rfl) (w_NameL rfl (by walk_at "lk") (w_subTail_dict (by walk_at "in") gp (w_NameL rfl (by walk_at "lk") ?_)))))))))
  refine w_setItem_dict (kvs := kw) (by walk_at "rpr") (by omega) (w_execs_nil ?_)
  refine ⟨_, ?_, h dd⟩
  have e1 : (G.adj.set u (au, kv ++ [((v : Int), .ref dd)])).map (·.1) = G.adj.map (·.1) := fst_set hu
  have e2 : (G.prd.set v (pv, stored kw u (.ref dd))).map (·.1) = G.prd.map (·.1) := fst_set hv
  show Sub ((G.g, (· = instObj 860 G.dg)) :: (G.dg, idP C 5 G.vars) :: (G.gr, dP C []) :: (G.nd, dP C (keyed G.na)) :: (G.ad, dP C (keyed ((G.adj.set u (au, kv ++ [((v : Int), .ref dd)])).map (·.1)))) :: (G.pd, dP C (keyed ((G.prd.set v (pv, stored kw u (.ref dd))).map (·.1)))) :: (rowsL C (G.adj.set u (au, kv ++ [((v : Int), .ref dd)])) ++ (rowsL C (G.prd.set v (pv, stored kw u (.ref dd))) ++ (nasL C G.na ++ tail)))) _
  rw [e1, e2, stored_new hfr]
  exact .skip (.skip (.skip (.skip .refl)))
end
end Mine
end
/-! X1 -/
section
open PySem PySem.W PySem.Calls PyProof.Rows
set_option maxRecDepth 100000
set_option linter.all false
namespace Mine
/-- frames of functions: where they stand, and their names -/
abbrev Frs := List (Addr × Vars)
abbrev frL (fs : Frs) : Led := fs.map fun f => (f.1, nsP f.2)
def FrOk : List Env → Frs → Prop
  | [], [] => True
  | env :: es, f :: fs => (env.scope.kind ≠ .module ∧ env.frame = some f.1) ∧ FrOk es fs
  | _, _ => False
/-- an error just made; one that goes; its traceback -/
def excN (o : Obj) : Prop := ∃ t, o = { cls := .ref 305, data := .fields #[.ref t, .none, .none, .none, .bool false, .none] }
def excP (T : Addr) (o : Obj) : Prop := o.cls = .ref 305 ∧ ∃ vs, o.data = .fields vs ∧ vs[1]? = some (.ref T) ∧ ∃ a0, vs[0]? = some a0
def tbP (fl : Value) (o : Obj) : Prop := ∃ ts, o.data = .fields ts ∧ ts[3]? = some fl
section
variable {α β : Type} {C : Cx} {A : Around} {l : Led} {e : Value → Led → Prop} {env : Env}
theorem frL_keys (fs : Frs) : (frL fs).map (·.1) = fs.map (·.1) := by simp [frL, Function.comp_def]
theorem funFrames {h base : Heap} : ∀ {envs : List Env} {fs : Frs}, FrOk envs fs → (∀ f ∈ fs, h.Ns f.1 (fun x => f.2.lookup x)) → (∀ f ∈ fs, base.get? f.1 = none) → h.FunFrames base envs
  | [], [], _, _, _ => trivial
  | env :: es, f :: fs, ⟨⟨h1, h2⟩, r⟩, hn, hb => Heap.FunFrames.cons h1 h2 (hn _ (.head _)) (hb _ (.head _)) (funFrames r (fun f hf => hn f (.tail _ hf)) fun f hf => hb f (.tail _ hf))
/-- after a step of a flight: the ledger anew -/
theorem St.flight {s : Shared} {h' : Heap} {fs : Frs} {ea : Addr} {p : Obj → Prop} {old rest : Led} {a0 fl : Value} (hs : St C (frL fs ++ (ea, p) :: (old ++ rest)) s)
    (h1 : (hideAll s.heap (fs.map (·.1) ++ ea :: old.map (·.1))).StaysIn h') (h2 : s.heap.UpToSlots h') (h3 : h'.TracedAtW (hideAll s.heap (fs.map (·.1) ++ ea :: old.map (·.1))) ea (.ref 305) a0 fl) :
    ∃ T, St C (frL fs ++ (ea, excP T) :: (T, tbP fl) :: rest) { s with heap := h' } := by
  obtain ⟨oe, vs, T, oT, ts, he, ⟨hc, h0⟩, hd, hv1, hbT, hne, hT, hdT, h3'⟩ := h3
  have hp := hs.hp
  have hid : ∀ b o, s.heap.get? b = some o → b ∉ fs.map (·.1) → b ≠ ea → b ∉ old.map (·.1) → (hideAll s.heap (fs.map (·.1) ++ ea :: old.map (·.1))).get? b = some o := fun b o ho n1 n2 n3 => hideAll_get _ ho (by
    rw [List.mem_append, List.mem_cons, not_or, not_or]; exact ⟨n1, n2, n3⟩)
  have nd := hp.nd
  rw [List.map_append, List.nodup_append] at nd
  obtain ⟨nd1, nd2, nd3⟩ := nd
  rw [frL_keys] at nd1 nd3
  rw [List.map_cons, List.nodup_cons, List.map_append, List.mem_append, not_or, List.nodup_append] at nd2
  obtain ⟨⟨ne1, ne2⟩, _, nd4, nd5⟩ := nd2
  have hB : ∀ b o, C.B.get? b = some o → b ∉ (frL fs ++ (ea, p) :: (old ++ rest)).map (·.1) := fun b o ho hm => by
    obtain ⟨x, hx, rfl⟩ := List.mem_map.mp hm
    have := (hp.own x hx).2
    rw [ho] at this; cases this
  have stB : ∀ b o, C.B.get? b = some o → (hideAll s.heap (fs.map (·.1) ++ ea :: old.map (·.1))).get? b = some o := fun b o ho => by
    have hm := hB b o ho
    rw [List.map_append, frL_keys, List.map_cons, List.map_append, List.mem_append, List.mem_cons, List.mem_append, not_or, not_or, not_or] at hm
    exact hid b o (hp.base b o ho) hm.1 hm.2.1 hm.2.2.1
  have rest' : ∀ x ∈ rest, ∃ o, (hideAll s.heap (fs.map (·.1) ++ ea :: old.map (·.1))).get? x.1 = some o ∧ x.2 o := fun x hx => by
    obtain ⟨⟨o, ho, hP⟩, _⟩ := hp.own x (List.mem_append_right _ (.tail _ (List.mem_append_right _ hx)))
    have hk : x.1 ∈ rest.map (·.1) := List.mem_map_of_mem hx
    refine ⟨o, hid _ _ ho (fun hm => nd3 _ hm _ (by rw [List.map_cons, List.map_append]; exact .tail _ (List.mem_append_right _ hk)) rfl) (fun e => ne2 (e ▸ hk)) (fun e => nd5 _ e _ hk rfl), hP⟩
  have frs : ∀ f ∈ fs, h'.Ns f.1 (fun x => f.2.lookup x) := fun f hf => by
    obtain ⟨⟨o, ho, hP⟩, _⟩ := hp.own (f.1, nsP f.2) (List.mem_append_left _ (List.mem_map_of_mem (f := fun f : Addr × Vars => (f.1, nsP f.2)) hf))
    exact h2.ns (nsP.ns ho hP)
  refine ⟨T, ⟨fun b o ho => h1 b o (stB b o ho), fun x hx => ?_, ?_, hp.gm⟩, hs.bare, hs.os⟩
  · rcases List.mem_append.mp hx with hx | hx
    · obtain ⟨f, hf, rfl⟩ := List.mem_map.mp hx
      obtain ⟨o, es, ep, ho, r⟩ := frs f hf
      exact ⟨⟨o, ho, es, ep, r⟩, (hp.own (f.1, nsP f.2) (List.mem_append_left _ hx)).2⟩
    · rcases List.mem_cons.mp hx with rfl | hx
      · exact ⟨⟨oe, he, hc, vs, hd, hv1, a0, h0⟩, (hp.own (ea, p) (List.mem_append_right _ (.head _))).2⟩
      · rcases List.mem_cons.mp hx with rfl | hx
        · refine ⟨⟨oT, hT, ts, hdT, h3'⟩, ?_⟩
          cases qq : C.B.get? T with
          | none => rfl
          | some o => have := stB T o qq; rw [hbT] at this; cases this
        · obtain ⟨o, ho, hP⟩ := rest' x hx
          exact ⟨⟨o, h1 _ _ ho, hP⟩, (hp.own x (List.mem_append_right _ (.tail _ (List.mem_append_right _ hx)))).2⟩
  · rw [List.map_append, List.nodup_append, frL_keys]
    have nT : T ∉ rest.map (·.1) := fun hm => by
      obtain ⟨x, hx, e⟩ := List.mem_map.mp hm
      obtain ⟨o, ho, _⟩ := rest' x hx
      rw [e, hbT] at ho; cases ho
    have nF : T ∉ fs.map (·.1) := fun hm => by
      obtain ⟨f, hf, e⟩ := List.mem_map.mp hm
      obtain ⟨o, es, ep, ho, hd', _⟩ := frs f hf
      rw [e, hT] at ho; cases ho
      rw [hdT] at hd'; cases hd'
    refine ⟨nd1, ?_, fun x hx y hy => ?_⟩
    · simp only [List.map_cons, List.nodup_cons, List.mem_cons, not_or]
      exact ⟨⟨Ne.symm hne, ne2⟩, nT, nd4⟩
    · simp only [List.map_cons, List.mem_cons] at hy
      rcases hy with rfl | rfl | hy
      · exact nd3 _ hx _ (by simp)
      · exact fun e => nF (e ▸ hx)
      · exact nd3 _ hx _ (by rw [List.map_cons, List.map_append]; exact .tail _ (List.mem_append_right _ hy))
/-- the facts of a state with an error in flight -/
theorem St.frames {s : Shared} {fs : Frs} {envs : List Env} {rest : Led} {xs : List Addr} (hs : St C (frL fs ++ rest) s) (hf : FrOk envs fs) (hx : ∀ f ∈ fs, f.1 ∈ xs) : s.heap.FunFrames (hideAll s.heap xs) envs :=
  funFrames hf (fun f hm => by
    obtain ⟨⟨o, ho, hP⟩, _⟩ := hs.hp.own (f.1, nsP f.2) (List.mem_append_left _ (List.mem_map_of_mem (f := fun f : Addr × Vars => (f.1, nsP f.2)) hm))
    exact nsP.ns ho hP) fun f hm => hideAll_none xs (hx f hm)
theorem St.tracedAt {s : Shared} {fs : Frs} {ea T : Addr} {fl : Value} {rest : Led} {xs : List Addr} (hs : St C (frL fs ++ (ea, excP T) :: (T, tbP fl) :: rest) s) (hx : T ∈ xs) : ∃ a0, s.heap.TracedAtW (hideAll s.heap xs) ea (.ref 305) a0 fl := by
  obtain ⟨⟨oe, he, hc, vs, hd, h1, a0, h0⟩, _⟩ := hs.hp.own (ea, excP T) (List.mem_append_right _ (.head _))
  obtain ⟨⟨oT, hT, ts, hdT, h3⟩, _⟩ := hs.hp.own (T, tbP fl) (List.mem_append_right _ (.tail _ (.head _)))
  refine ⟨a0, oe, vs, T, oT, ts, he, ⟨hc, h0⟩, hd, h1, hideAll_none xs hx, ?_, hT, hdT, h3⟩
  have nd := hs.hp.nd
  rw [List.map_append, List.nodup_append] at nd
  have := nd.2.1
  simp only [List.map_cons, List.nodup_cons, List.mem_cons, not_or] at this
  exact Ne.symm this.1.1
theorem stays_hide (h : Heap) (xs : List Addr) : (hideAll h xs).StaysIn h := fun _ _ e => of_hideAll xs e
/-- the error in flight comes into the frame below -/
theorem w_note {envs : List Env} {f : Addr × Vars} {fs : Frs} {env : Env} {ea T : Addr} {rest : Led} {k : Unit → Led → Prop} (hA : A.frames = some (env :: envs)) (hf : FrOk (env :: envs) (f :: fs))
    (h : ∀ T', k () (frL (f :: fs) ++ (ea, excP T') :: (T', tbP (rawInt f.1)) :: rest)) : W C A (frL (f :: fs) ++ (ea, excP T) :: (T, tbP .none) :: rest) (noteFrame (.ref ea) env) k e := fun r s hs => by
  have hs' : St C (frL (f :: fs) ++ (ea, excP T) :: (T, tbP .none) :: (rest ++ r)) s := by simpa using hs
  obtain ⟨a0, ht⟩ := hs'.tracedAt (xs := (f :: fs).map (·.1) ++ [ea, T]) (by simp)
  refine wpAny_looks_onW (base := hideAll s.heap ((f :: fs).map (·.1) ++ [ea, T])) (cls := .ref 305) (a0 := a0) hA hf.1.2 ⟨stays_hide _ _, hideAll_none _ (by simp), hs'.frames hf (fun g hg => List.mem_append_left _ (List.mem_map_of_mem (f := (·.1)) hg)), ht⟩ fun h' hh hup => ?_
  obtain ⟨T', q⟩ := hs'.flight (old := [(T, tbP .none)]) hh.1 hup hh.2.2.2
  exact ⟨_, h T', by simpa using q⟩
theorem w_noteAgain {f : Addr × Vars} {fs : Frs} {env : Env} {ea T : Addr} {rest : Led} {k : Unit → Led → Prop} (hf : env.frame = some f.1) (h : k () (frL (f :: fs) ++ (ea, excP T) :: (T, tbP (rawInt f.1)) :: rest)) :
    W C A (frL (f :: fs) ++ (ea, excP T) :: (T, tbP (rawInt f.1)) :: rest) (noteFrame (.ref ea) env) k e := fun r s hs => by
  have hs' : St C (frL (f :: fs) ++ (ea, excP T) :: (T, tbP (rawInt f.1)) :: (rest ++ r)) s := by simpa using hs
  obtain ⟨a0, ht⟩ := hs'.tracedAt (xs := (f :: fs).map (·.1) ++ [ea, T]) (by simp)
  exact wpAny_noteFrame_againW hf ht ⟨_, h, hs⟩
theorem w_setFlight {envs : List Env} {fs : Frs} {ea T : Addr} {fl : Value} {rest : Led} {k : Unit → Led → Prop} (hf : FrOk envs fs) (h : ∀ T', k () (frL fs ++ (ea, excP T') :: (T', tbP .none) :: rest)) :
    W C A (frL fs ++ (ea, excP T) :: (T, tbP fl) :: rest) (setFlight (.ref ea) none) k e := fun r s hs => by
  have hs' : St C (frL fs ++ (ea, excP T) :: (T, tbP fl) :: (rest ++ r)) s := by simpa using hs
  obtain ⟨a0, ht⟩ := hs'.tracedAt (xs := fs.map (·.1) ++ [ea, T]) (by simp)
  refine wpAny_setFlight_noneW (base := hideAll s.heap (fs.map (·.1) ++ [ea, T])) (stays_hide _ _) (hs'.frames hf (fun g hg => List.mem_append_left _ (List.mem_map_of_mem (f := (·.1)) hg))) ht fun h' k1 k2 k3 k4 => ?_
  obtain ⟨T', q⟩ := hs'.flight (old := [(T, tbP fl)]) k1 (fun b o hb hn => ⟨o.slots, k4 b o hb hn⟩) k3
  exact ⟨_, h T', by simpa using q⟩
/-- the error just made: its first traceback -/
theorem w_noteNew {envs : List Env} {f : Addr × Vars} {fs : Frs} {env : Env} {ea : Addr} {rest : Led} {k : Unit → Led → Prop} (hA : A.frames = some (env :: envs)) (hf : FrOk (env :: envs) (f :: fs))
    (h : ∀ T', k () (frL (f :: fs) ++ (ea, excP T') :: (T', tbP (rawInt f.1)) :: rest)) : W C A (frL (f :: fs) ++ (ea, excN) :: rest) (noteFrame (.ref ea) env) k e := fun r s hs => by
  have hs' : St C (frL (f :: fs) ++ (ea, excN) :: ([] ++ (rest ++ r))) s := by simpa using hs
  obtain ⟨⟨oe, he, t, rfl⟩, _⟩ := hs'.hp.own (ea, excN) (List.mem_append_right _ (.head _))
  unfold noteFrame
  rw [show env.frame = some f.1 from hf.1.2]
  dsimp only
  refine wpAny_bind (wpAny_field he rfl (x := .none) rfl ?_)
  rw [if_neg (by decide)]
  refine wpAny_entryW (base := hideAll s.heap ((f :: fs).map (·.1) ++ ea :: ([] : Led).map (·.1))) hA (hs'.frames hf (fun g hg => List.mem_append_left _ (List.mem_map_of_mem (f := (·.1)) hg))) hf.1.2 he (stays_hide _ _) (hideAll_none _ (by simp)) rfl (by show 1 < 6; decide) (a0 := .ref t) rfl fun h' hN => ?_
  obtain ⟨k1, k2, k3, k4⟩ := hN
  obtain ⟨T', q⟩ := hs'.flight k1 k4 k3
  exact ⟨_, h T', by simpa using q⟩
theorem w_leavingNew {envs : List Env} {f : Addr × Vars} {fs : Frs} {env : Env} {ea : Addr} {rest : Led} {k : Unit → Led → Prop} (hA : A.frames = some (env :: envs)) (hf : FrOk (env :: envs) (f :: fs))
    (h : ∀ T', k () (frL (f :: fs) ++ (ea, excP T') :: (T', tbP .none) :: rest)) : W C A (frL (f :: fs) ++ (ea, excN) :: rest) (leaving env (.ref ea)) k e :=
  w_bind (w_noteNew hA hf fun _ => w_setFlight hf h)
/-- an error that stood in this frame leaves it -/
theorem w_leavingHeld {envs : List Env} {f : Addr × Vars} {fs : Frs} {env : Env} {ea T : Addr} {rest : Led} {k : Unit → Led → Prop} (hf : FrOk (env :: envs) (f :: fs))
    (h : ∀ T', k () (frL (f :: fs) ++ (ea, excP T') :: (T', tbP .none) :: rest)) : W C A (frL (f :: fs) ++ (ea, excP T) :: (T, tbP (rawInt f.1)) :: rest) (leaving env (.ref ea)) k e :=
  w_bind (w_noteAgain hf.1.2 (w_setFlight hf h))
end
end Mine
end
/-! X2 -/
section
open PySem PySem.W PySem.Calls PyProof.Rows
set_option maxRecDepth 100000
set_option linter.all false
namespace Mine
section
variable {α β : Type} {C : Cx} {A : Around} {l : Led} {e : Value → Led → Prop} {env : Env}
/-- errors that pass through a loop of this frame -/
structure Pass (C : Cx) (A : Around) (env : Env) (e : Value → Led → Prop) : Prop where
  step : ∃ eH : Value → Led → Prop, (∀ x l, e x l → W C A l (noteFrame x env) (fun _ l' => eH x l') noE) ∧
    ∀ x l, eH x l → W C A l (do if (← field x 1) == .none then unsupported "frame.own-activation:exception-without-traceback"
                                setFlight x env.frame) (fun _ l' => e x l') noE
theorem Pass.none : Pass C A env noE := ⟨noE, (fun _ _ h => h.elim), fun _ _ h => h.elim⟩

theorem codeAny_forE {target : Expr} {body : List Stmt} {it : Addr} {n : Nat} {val : Nat → Value → Prop} (I : Nat → Led → Prop) (J : Nat → Obj → Prop) {k : Flow → Led → Prop} {R : Result → Shared → Prop} {s : Shared} {r : Led} {eH : Value → Led → Prop}
    (nxt : ∀ i l₂ (s : Shared) (Q : Option Value → Shared → Prop) (E : Value → Shared → Prop), i < n → I i l₂ → St C (l₂ ++ (it, J i) :: r) s →
      (∀ v h' tk, val i v → Heap.SameBut it s.heap h' → (∃ o, h'.get? it = some o ∧ J (i + 1) o) → Q (some v) { s with heap := h', toks := tk }) → wpAny (model P C.w) A (pyNext (.ref it)) Q E s)
    (fin : ∀ l₂ (s : Shared) (Q : Option Value → Shared → Prop) (E : Value → Shared → Prop), I n l₂ → St C (l₂ ++ (it, J n) :: r) s → (∀ h' tk, Heap.ExtBut it s.heap h' → Q none { s with heap := h', toks := tk }) → wpAny (model P C.w) A (pyNext (.ref it)) Q E s)
    (turn : ∀ i v l₂, i < n → I i l₂ → val i v → W C A l₂ (assign target env v) (fun _ l₃ => W C A l₃ (execs body env) (fun f l₄ => match f with | .next | .cont => I (i + 1) l₄ | .brk => k .next l₄ | .ret v => k (.ret v) l₄) e) noE)
    (note : ∀ x l₂, e x l₂ → W C A l₂ (noteFrame x env) (fun _ l' => eH x l') noE)
    (done : ∀ l₂, I n l₂ → k .next l₂)
    (hR : ∀ f l₂ s', k f l₂ → St C (l₂ ++ r) s' → R (.ok f) s') (hE : ∀ x l₂ s', eH x l₂ → St C (l₂ ++ r) s' → R (.error x) s')
    {l₀ : Led} (h0 : I 0 l₀) (hs : St C (l₀ ++ (it, J 0) :: r) s) (ht : ∀ v, letOwnedTupleGo target (.ref it) v = pure ()) : codeAny (model P C.w) A (.forLoop target (.ref it) body [] env) R s := by
  refine codeAny_forLoop (fun m s' => ∃ i l₂, m = n - i ∧ i ≤ n ∧ I i l₂ ∧ St C (l₂ ++ (it, J i) :: r) s') ?_ (n - 0) ⟨0, l₀, rfl, Nat.zero_le _, h0, hs⟩ ht
  rintro m s' ⟨i, l₂, rfl, hi, hI, hs'⟩
  by_cases hlt : i < n
  · refine nxt i l₂ s' _ _ hlt hI hs' fun v h' tk hv hb ho => ?_
    have hs₁ : St C (l₂ ++ (it, J (i + 1)) :: r) { s' with heap := h', toks := tk } := ⟨hs'.hp.rep Rep.mid hb ho, hs'.bare, hs'.os⟩
    refine (turn i v l₂ hlt hI hv).then hs₁ (fun _ l₃ s₂ h₂ hs₂ => h₂.then hs₂ (fun f l₄ s₃ h₃ hs₃ => ?_) fun x l₄ s₃ he hs₃ => ?_) fun _ _ _ x => x.elim
    · cases f with
      | next => exact ⟨n - (i + 1), by omega, i + 1, l₄, rfl, hlt, h₃, hs₃⟩
      | cont => exact ⟨n - (i + 1), by omega, i + 1, l₄, rfl, hlt, h₃, hs₃⟩
      | brk => exact hR _ _ _ h₃ ⟨hs₃.hp.mid, hs₃.bare, hs₃.os⟩
      | ret v => exact hR _ _ _ h₃ ⟨hs₃.hp.mid, hs₃.bare, hs₃.os⟩
    · exact (note x l₄ he).then hs₃ (fun _ l₅ s₄ h₄ hs₄ => hE x l₅ s₄ h₄ ⟨hs₄.hp.mid, hs₄.bare, hs₄.os⟩) fun _ _ _ z => z.elim
  · have : i = n := by omega
    subst this
    refine fin l₂ s' _ _ hI hs' fun h' tk hx => wpAny_execs_nil ?_
    exact hR _ _ _ (done _ hI) ⟨hs'.hp.extBut hx, hs'.bare, hs'.os⟩

theorem w_ForE_range {target iter : Expr} {body : List Stmt} {pos : Pos} {k : Flow → Led → Prop} (hh : A.handled = none) (hP : Pass C A env e) (lo hi : Int) (I : Nat → Led → Prop)
    (hlo : -1000000 < lo) (hhi : hi < 1000000) (hlh : lo ≤ hi)
    (h : W C A l (eval iter env) (fun v l₁ => ∃ a, v = .ref a ∧ (a, rngP lo hi) ∈ l₁ ∧ I 0 l₁) e)
    (turn : ∀ (i : Nat) t l₂, lo + i < hi → I i l₂ → W C A l₂ (assign target env (.int (lo + i) t)) (fun _ l₃ => W C A l₃ (execs body env) (fun f l₄ => match f with | .next | .cont => I (i + 1) l₄ | .brk => k .next l₄ | .ret v => k (.ret v) l₄) e) noE)
    (done : ∀ l₂, I (hi - lo).toNat l₂ → k .next l₂)
    (hs : ∀ x, foldedSetIterable iter env x = pure x := by intro _; rfl) (ht : ∀ it v, letOwnedTupleGo target it v = pure () := by intro _ _; rfl) : W C A l (exec (.For target iter body [] pos) env) k e := fun r s hs' => by
  obtain ⟨eH, p1, p2⟩ := hP.step
  refine wpAny_For (h.step hs' fun v l₁ s₁ h₁ hs₁ => ?_) hs
  obtain ⟨a, rfl, hm, hI⟩ := h₁
  obtain ⟨o, ho, t, u, w, rfl⟩ := hs₁.get hm
  have hsz : Builtin.Range.rangeSize lo hi 1 = ((hi - lo).toNat : Int) := by
    unfold Builtin.Range.rangeSize
    by_cases q : lo < hi
    · simp [q]; omega
    · simp [q]; omega
  have fl : ∀ x : Int, -2000000 < x → x < 2000000 → Builtin.Range.rangeFitsLong x = true := by
    intro x h1 h2
    unfold Builtin.Range.rangeFitsLong
    simp; omega
  have hsm : Builtin.Range.small lo hi 1 = true := by
    unfold Builtin.Range.small
    rw [hsz, fl lo (by omega) (by omega), fl hi (by omega) (by omega), fl 1 (by omega) (by omega), fl _ (by omega) (by omega)]
    simp [fl hi (by omega) (by omega)]
  refine wpAny_pyIter_range ho hsm ?_
  refine codeAny_forE (n := (hi - lo).toNat) (val := fun i v => ∃ t, v = .int (lo + i) t) I (fun i o => o = { cls := .type "range_iterator", dict := none, data := .fields #[rawInt (lo + i), rawInt ((hi - lo).toNat - i), rawInt 1], slots := #[] }) (r := r) (k := k) (e := e) ?_ ?_
    (fun i v l₂ hi' hI hv => by obtain ⟨t, rfl⟩ := hv; exact turn i t l₂ (by omega) hI) p1 done (fun f l₂ s' hk hs' => ⟨l₂, hk, hs'⟩) (fun x l₂ s' hx hs' => (p2 x l₂ hx).then hs' (fun _ l₃ s₃ h₃ hs₃ => ⟨l₃, h₃, hs₃⟩) fun _ _ _ z => z.elim) hI
    ⟨hs₁.hp.newMid (fun _ _ x => Heap.get?_push_of_some _ x) (get_size _) (Heap.get?_push_size _ rfl) (by rw [hsz]; simp), hs₁.bare, hs₁.os⟩ (fun v => ht _ v)
  · intro i l₂ s₂ Q E hi' hI₂ hs₂ hQ
    obtain ⟨⟨o, ho, rfl⟩, _⟩ := hs₂.hp.own (s₁.heap.objs.size, _) (List.mem_append_right _ (.head _))
    exact wpAny_pyNext_range_item ho (by omega) fun h' hit hb => hQ _ h' _ ⟨_, rfl⟩ hb ⟨_, hit, by
      have e1 : lo + (i : Int) + 1 = lo + ((i + 1 : Nat) : Int) := by omega
      have e2 : ((hi - lo).toNat : Int) - (i : Int) - 1 = ((hi - lo).toNat : Int) - ((i + 1 : Nat) : Int) := by omega
      rw [e1, e2]⟩
  · intro l₂ s₂ Q E hI₂ hs₂ hQ
    obtain ⟨⟨o, ho, rfl⟩, _⟩ := hs₂.hp.own (s₁.heap.objs.size, _) (List.mem_append_right _ (.head _))
    exact wpAny_pyNext_range_end hh ho (by omega) fun h' hx => hQ h' s₂.toks hx
/-- while: the measure falls -/
theorem w_WhileE {test : Expr} {body : List Stmt} {pos : Pos} {k : Flow → Led → Prop} (hP : Pass C A env e) (I : Nat → Led → Prop)
    (turn : ∀ n l₂, I n l₂ → W C A l₂ (isTrue test env (eval test env)) (fun b l₃ => (b = true → W C A l₃ (execs body env) (fun f l₄ => match f with | .next | .cont => ∃ m, m < n ∧ I m l₄ | .brk => k .next l₄ | .ret v => k (.ret v) l₄) e) ∧ (b = false → k .next l₃)) noE)
    {n : Nat} (h : I n l) : W C A l (exec (.While test body [] pos) env) k e := fun r s hs => by
  obtain ⟨eH, p1, p2⟩ := hP.step
  refine wpAny_While ?_
  have nb : ∀ x l₂ s', e x l₂ → St C (l₂ ++ r) s' → notedBy (model P C.w) A env (fun e' s' => (fun (r' : Result) (s' : Shared) => match r' with | .ok f => (∃ l', k f l' ∧ St C (l' ++ r) s') | .error e' => cameBackBy (model P C.w) A env (EE C r e) e' s') (.error e') s') x s' := fun x l₂ s' hx hs' => by
    unfold notedBy
    refine (p1 x l₂ hx).then hs' (fun _ l₃ s₃ h₃ hs₃ => ?_) fun _ _ _ z => z.elim
    exact (p2 x l₃ h₃).then hs₃ (fun _ l₄ s₄ h₄ hs₄ => ⟨l₄, h₄, hs₄⟩) fun _ _ _ z => z.elim
  refine codeAny_whileLoop (fun m s' => ∃ l₂, I m l₂ ∧ St C (l₂ ++ r) s') ?_ n ⟨l, h, hs⟩
  rintro m s' ⟨l₂, hI, hs'⟩
  refine (turn m l₂ hI).then hs' (fun b l₃ s₃ h₃ hs₃ => ?_) fun _ _ _ z => z.elim
  cases b with
  | true =>
    rw [if_pos rfl]
    refine (h₃.1 rfl).then hs₃ (fun f l₄ s₄ h₄ hs₄ => ?_) fun x l₄ s₄ hx hs₄ => nb x l₄ s₄ hx hs₄
    cases f with
    | next => obtain ⟨m', q1, q2⟩ := h₄; exact ⟨m', q1, l₄, q2, hs₄⟩
    | cont => obtain ⟨m', q1, q2⟩ := h₄; exact ⟨m', q1, l₄, q2, hs₄⟩
    | brk => exact ⟨l₄, h₄, hs₄⟩
    | ret v => exact ⟨l₄, h₄, hs₄⟩
  | false =>
    rw [if_neg Bool.false_ne_true]
    exact wpAny_execs_nil ⟨l₃, h₃.2 rfl, hs₃⟩
end
end Mine
end
/-! X3 -/
section
open PySem PySem.W PySem.Calls PyProof.Rows
set_option maxRecDepth 100000
set_option linter.all false
namespace Mine
section
variable {α β : Type} {C : Cx} {A : Around} {l : Led} {e : Value → Led → Prop} {env : Env}
theorem w_setFlightR {ea T : Addr} {fl : Value} {o : Option Addr} {l' : Led} {k : Unit → Led → Prop} (hm : (ea, excP T) ∈ l) (R : Rep T (tbP fl) (tbP (o.elim .none fun f => rawInt f)) l l') (h : k () l') : W C A l (setFlight (.ref ea) o) k e := fun r s hs => by
  obtain ⟨oe, he, hc, vs, hd, h1, _⟩ := hs.get hm
  obtain ⟨oT, hT, ts, hdT, h3⟩ := hs.get R.mem
  have hsz3 : 3 < ts.size := (Array.getElem?_eq_some_iff.mp h3).1
  unfold setFlight
  refine wpAny_bind (wpAny_field he hd h1 ?_)
  rw [if_pos (show (Value.ref T != Value.none) = true from by simp)]
  refine wpAny_setField hT hdT hsz3 ⟨l', h, ?_⟩
  exact hs.rep R (Heap.SameBut.update ..) ⟨_, Heap.get?_update_self _ hT (Obj.isFreed_of_fields (Obj.data_mapFields hdT _)), _, Obj.data_mapFields hdT _, by simp [hsz3]⟩ s.toks
theorem w_headThere {ea T : Addr} {k : Value → Led → Prop} (hm : (ea, excP T) ∈ l) (h : k (.ref T) l) : W C A l (field (.ref ea) 1) k e := fun r s hs => by
  obtain ⟨oe, he, hc, vs, hd, h1, _⟩ := hs.get hm
  exact wpAny_field he hd h1 ⟨l, h, hs⟩
/-- an error on its way in a frame: just made, or held -/
def EX (L : Addr) (outer : Frs) (tail : Led) (x : Value) (l : Led) : Prop := ∃ ea vs, x = .ref ea ∧ (Sub (frL ((L, vs) :: outer) ++ (ea, excN) :: tail) l ∨ ∃ T, Sub (frL ((L, vs) :: outer) ++ (ea, excP T) :: (T, tbP (rawInt L)) :: tail) l)
theorem FrOk.vars {env : Env} {envs : List Env} {L : Addr} {vs vs' : Vars} {outer : Frs} (h : FrOk (env :: envs) ((L, vs) :: outer)) : FrOk (env :: envs) ((L, vs') :: outer) := h
theorem Rep.frs {a : Addr} {p p' : Obj → Prop} {x : Ent} {rest : Led} : ∀ fs : Frs, Rep a p p' (frL fs ++ x :: (a, p) :: rest) (frL fs ++ x :: (a, p') :: rest)
  | [] => .tail .head
  | _ :: fs => .tail (Rep.frs fs)
theorem EX.pass {envs : List Env} {L : Addr} {vs : Vars} {outer : Frs} {tail : Led} (hA : A.frames = some (env :: envs)) (hf : FrOk (env :: envs) ((L, vs) :: outer)) : Pass C A env (EX L outer tail) := by
  refine ⟨fun x l => ∃ ea vs T, x = .ref ea ∧ Sub (frL ((L, vs) :: outer) ++ (ea, excP T) :: (T, tbP (rawInt L)) :: tail) l, ?_, ?_⟩
  · rintro x l ⟨ea, vs', rfl, hS | ⟨T, hS⟩⟩
    · exact W.sub hS (w_noteNew hA hf.vars fun T => ⟨ea, vs', T, rfl, .refl⟩)
    · exact W.sub hS (w_noteAgain hf.1.2 ⟨ea, vs', T, rfl, .refl⟩)
  · rintro x l ⟨ea, vs', T, rfl, hS⟩
    refine W.sub hS (w_bind (w_headThere (List.mem_append_right _ (.head _)) ?_))
    rw [if_neg (by simp)]
    rw [show env.frame = some L from hf.1.2]
    exact w_setFlightR (List.mem_append_right _ (.head _)) (Rep.frs _) ⟨ea, vs', rfl, .inr ⟨T, .refl⟩⟩
/-- out of the function -/
theorem EX.leave {envs : List Env} {L : Addr} {vs : Vars} {outer : Frs} {tail : Led} {x : Value} {k : Unit → Led → Prop} (hA : A.frames = some (env :: envs)) (hf : FrOk (env :: envs) ((L, vs) :: outer)) (hx : EX L outer tail x l)
    (h : ∀ ea T vs, x = .ref ea → k () (frL ((L, vs) :: outer) ++ (ea, excP T) :: (T, tbP .none) :: tail)) : W C A l (leaving env x) k e := by
  obtain ⟨ea, vs', rfl, hS | ⟨T, hS⟩⟩ := hx
  · exact W.sub hS (w_leavingNew hA hf.vars fun T => h ea T vs' rfl)
  · exact W.sub hS (w_leavingHeld hf.vars fun T => h ea T vs' rfl)
abbrev bmE : List Value := [.type "Exception", .type "BaseException", .type "object"]
theorem nx_in (p : Params) : excIn (KF p) 305 bmE "Exception.__new__" = true := by kernel_rfl
/-- raise NetworkXError(..) -/
theorem w_RaiseNX (S : Ok C) {x : Str} {np cpos pos : Pos} {e₀ : Expr} {k : Flow → Led → Prop} (hh : A.handled = none) (hx : nsIn (KK C.w.params) mainGlobals x = some (some (.ref 305)))
    (h : W C A l (spliced (backTo cpos (starEach [e₀] env))) (fun vs l' => vs.length ≤ 1000 ∧ ∀ ea, e (.ref ea) ((ea, excN) :: l')) e)
    (he : starEach [e₀] env = (false, eval e₀ env) :: starEach [] env := by rfl) (hg : env.globals = mainGlobals := by rfl)
    (hk : env.scope.kind = .function := by rfl) (hx' : env.kindOf x = some .globalImplicit := by rfl) (hd : (x == ("__debug__" : Str)) = false := by decide) :
    W C A l (exec (.Raise (some (.Call (.Name x np) [e₀] [] cpos)) none pos) env) k e := fun r s hs => by
  have q := nx_in C.w.params
  have X := S.kin (h := C.B) fun _ _ e => e
  obtain ⟨bm, N, nm, qn, bs, hdct, sn, sub, ab, col, dd, k0, k1, k2, k3, k5, mN, hC, hN, hni, T⟩ : ∃ bm N nm q bs hdct sn sub ab col dd k0 k1 k2 k3 k5 mN, C.B.get? 305 = some (excClassObj nm q 305 N bs bm hdct sn sub ab col dd k0 k1 k2 k3 k5 "Exception.__new__") ∧ C.B.Ns N mN ∧ mN "__init__" = none ∧ OwnTail C.B bmE bm := by
    unfold excIn at q
    split at q
    · rename_i dd cd sl ho
      split at q
      · rename_i C' bm k0 k1 k2 k3 n k5 hm hs
        simp only [Bool.and_eq_true, beq_iff_eq, Bool.not_eq_true'] at q
        obtain ⟨⟨⟨⟨⟨rfl, rfl⟩, hdel⟩, ht⟩, hok⟩, hni⟩ := q
        obtain ⟨nm, bs, mro, ns, qn, hd, sn, sub, ab, col, del⟩ := cd
        dsimp only at hm hdel hok hni
        subst hm hdel
        have hsl : sl = #[k0, k1, k2, k3, some (.builtin "Exception.__new__"), k5] := by
          obtain ⟨l⟩ := sl
          simp only at hs
          rw [hs]
        subst hsl
        exact ⟨bm, ns, nm, qn, bs, hd, sn, sub, ab, col, dd, k0, k1, k2, k3, k5, _, X _ _ ho, .of_isNs (isNs_of_in X hok), nsMap_none_of_in X hok hni, tail_of_in X ht⟩
      · cases q
    · cases q
  refine wpAny_Raise_call_subU (C := 305) (nm := nm) (q := qn) (N := N) (bs := bs) (bm := bm) (hdct := hdct) (sn := sn) (sub := sub) (ab := ab) (col := col) (dd := dd) (k0 := k0) (k1 := k1) (k2 := k2) (k3 := k3) (k5 := k5)
    PySem.F.excBase_Exception (by decide +kernel) PySem.F.excBase_Exception (mN := mN) (T.hasType PySem.F.excBase_Exception.hasBase) hh (by rw [he]; rfl) hni ?_
  refine (S.glob (A := A) (l := l) (e := e) (k := fun v l' => v = .ref 305 ∧ l' = l) (pos := np) hx ⟨rfl, rfl⟩ hg hk hx' hd).then hs (fun v l' s' ⟨e1, e2⟩ hs' => ?_) (fun x l' s' hx hs' => ⟨l', hx, hs'⟩)
  subst e1 e2
  refine ⟨rfl, ?_⟩
  have h2 := h.then hs' (Q := fun vs s₂ => vs.length ≤ sizeLine ∧ s₂.heap.get? 305 = some (excClassObj nm qn 305 N bs bm hdct sn sub ab col dd k0 k1 k2 k3 k5 "Exception.__new__") ∧ s₂.heap.Ns N mN ∧ OwnTail s₂.heap bmE bm ∧
        ∀ h' e', Heap.MadeExcOf s₂.heap h' e' (.ref 305) vs → EE C r e (.ref e') { s₂ with heap := h' }) (E := EE C r e) (fun vs l₂ s₂ ⟨h3, h4⟩ hs₂ => ?_) (fun x l' s' hx hs' => ⟨l', hx, hs'⟩)
  · rw [he] at h2 ⊢
    exact Calls.evalArgs_plain (wpAny_mono h2 (fun vs s₂ h₂ => ⟨rfl, h₂.1, h₂.2.1, h₂.2.2.1, h₂.2.2.2.1, h₂.2.2.2.2⟩) fun _ _ y => y)
  · refine ⟨by rw [sizeLine_eq]; omega, hs₂.old hC, hN.keeps hs₂.hp.base, T.keeps hs₂.hp.base, fun h' e' hm => ⟨_, h4 e', ?_⟩⟩
    obtain ⟨m1, m2, t, m3, _⟩ := hm
    exact ⟨hs₂.hp.new m1 m2 m3 ⟨t, rfl⟩, hs₂.bare, hs₂.os⟩
end
end Mine
end
/-! H1 -/
section
open PySem PySem.W PySem.Calls PyProof.Rows
set_option maxRecDepth 100000
set_option linter.all false
namespace Mine
local macro_rules | `(tactic| walk_at "lk") => `(tactic| first | exact look_eq | (rw [lookup_put, if_neg (by decide)]; walk_at "lk") | assumption | exact rfl)
local macro_rules | `(tactic| walk_at "in") => `(tactic| first | exact List.Mem.head _ | (refine List.Mem.tail _ ?_; walk_at "in"))
local macro_rules | `(tactic| walk_at "pk") => `(tactic| first | exact Pick.head | (apply Pick.tail; walk_at "pk"))
local macro_rules | `(tactic| walk_at "rp") => `(tactic| first | exact Rep.head | (apply Rep.tail; walk_at "rp"))
local macro_rules | `(tactic| walk_at "sub") => `(tactic| first | exact Sub.refl | (refine Sub.pick1 (by walk_at "pk") ?_; walk_at "sub") | exact Sub.nil | (refine Sub.skip ?_; walk_at "sub"))
section
variable {α β : Type} {C : Cx} {A : Around} {l : Led} {e : Value → Led → Prop} {env : Env}
theorem w_listcopy {a : Addr} {ns : List Int} {k : Value → Led → Prop} (hI : Ints C l a ns) (hz : ns.length ≤ 1000) (h : ∀ b, k (.ref b) ((b, intsP ns) :: l)) : W C A l (call (.type "list") [.ref a]) k e := fun r s hs => by
  obtain ⟨vs, hi, o, ho, hc, n, hd⟩ := hI s r hs
  refine call_list_seq a (.inl rfl) ho hc hd (fun h' c' g hb => ⟨_, h s.heap.objs.size, ?_⟩) (by rw [sizeLine_eq]; have := hi.length; simp; omega)
  exact ⟨hs.hp.new g (get_size _) hb ⟨vs, hi, rfl, c', rfl⟩, hs.bare, hs.os⟩
theorem w_isint {n : Int} {t : Tok} {k : Value → Led → Prop} (h : k (.bool true) l) : W C A l (call (.builtin "isinstance") [.int n t, .type "int"]) k e := fun r s hs =>
  call_isinstance_yes (Tx := "int") (T := "int") rfl (by kernel_rfl) (by rw [isSubtype_type]; kernel_rfl) ⟨l, h, hs⟩
set_option maxHeartbeats 4000000
theorem spec_mklist (S : Ok C) {f : Ent} {a : Addr} {ns : List Int} {R : Result → Led → Prop} (hA : A.depth < recursionLimit) (hh : A.handled = none) (hI : Ints C (f :: l) a ns) (hz : ns.length ≤ 1000)
    (h : ∀ b, R (.ok (.ret (.ref b))) (f :: (b, intsP ns) :: l)) : CW C A (f :: l) (.call (.ref 876) ⟨[.ref a], []⟩) R := by
  refine cw_def S.lim hA (S.k 876 _ rfl (by decide) (by decide)) rfl ⟨875, _, _, _, rfl, S.k 875 _ rfl (by decide) (by decide), rfl, rfl⟩ rfl rfl (by decide) (locs rfl) fun L => ?_
  have hI' : ∀ p, Ints C (p :: f :: l) a ns := fun p s r hs => hI s r (hs.sub (.skip .refl))
  refine w_execs_cons (w_Assign_Name (w_Call_Name (S.bi rfl rfl (w_callWith_t (w_items_cons (w_NameL rfl rfl (w_items_nil (w_listcopy (hI' _) hz fun b => ?_))))))))
  refine W.sub (l' := (L, nsP [("sequence", .ref a)]) :: (b, intsP ns) :: f :: l) (.pick1 (.tail .head) (.pick1 .head .refl)) ?_
  refine w_storeL rfl ?_
  refine w_execs_cons (w_For_ints hh ns (fun b' i l₂ => ∃ vs, b' = b ∧ Sub ((L, nsP vs) :: (b, intsP ns) :: f :: l) l₂ ∧ vs.lookup ("rows" : Str) = some (.ref b)) ?_ ?_ ?_)
  · refine w_NameL rfl look_eq ⟨b, rfl, ⟨_, rfl, .refl, look_eq⟩, ?_⟩
    rintro i l₂ ⟨vs, _, hS, _⟩ s r hs
    exact Ints.mem (l := (L, nsP vs) :: (b, intsP ns) :: f :: l) (.tail _ (.head _)) s r (hs.sub (hS.app r))
  · rintro b' i n t l₂ ⟨vs, rfl, hS, h1⟩ hn
    refine W.sub hS (w_assign_Name (w_storeL rfl ?_))
    refine w_execs_cons <| w_If <| w_isTrue_not <| w_isTrue_plain <| w_Call_Name <| S.bi rfl rfl <| w_callWith_b <| w_items_cons <| w_NameL rfl look_eq <| w_items_cons <| S.bi rfl rfl <| w_items_nil <| w_isint <| w_truthy_bool ⟨fun hf => (nomatch hf), fun _ => w_execs_nil (w_execs_nil ?_)⟩
    exact ⟨_, rfl, .refl, by walk_at "lk"⟩
  · rintro b' l₂ ⟨vs, rfl, hS, h1⟩
    refine W.sub hS (w_execs_cons (w_Return (w_NameL rfl h1 ⟨f :: (b', intsP ns) :: l, .pick1 (.tail (.tail .head)) (.pick1 (.tail .head) (.skip .refl)), h b'⟩)))
end
end Mine
end
/-! H2 -/
section
open PySem PySem.W PySem.Calls PyProof.Rows
set_option maxRecDepth 100000
set_option linter.all false
namespace Mine
local macro_rules | `(tactic| walk_at "lk") => `(tactic| first | exact look_eq | (rw [lookup_put, if_neg (by decide)]; walk_at "lk") | assumption | exact rfl)
local macro_rules | `(tactic| walk_at "in") => `(tactic| first | exact List.Mem.head _ | (refine List.Mem.tail _ ?_; walk_at "in"))
local macro_rules | `(tactic| walk_at "pk") => `(tactic| first | exact Pick.head | (apply Pick.tail; walk_at "pk"))
local macro_rules | `(tactic| walk_at "rp") => `(tactic| first | exact Rep.head | (apply Rep.tail; walk_at "rp"))
local macro_rules | `(tactic| walk_at "sub") => `(tactic| first | exact Sub.refl | (refine Sub.pick1 (by walk_at "pk") ?_; walk_at "sub") | exact Sub.nil | (refine Sub.skip ?_; walk_at "sub"))
section
variable {α β : Type} {C : Cx} {A : Around} {l : Led} {e : Value → Led → Prop} {env : Env}
theorem Ints.sub {l' : Led} {a : Addr} {ns : List Int} (h : Ints C l' a ns) (S : Sub l' l) : Ints C l a ns := fun s r hs => h s r (hs.sub (S.app r))
theorem Sub.skipL {l l' : Led} (h : Sub l' l) : ∀ X : Led, Sub l' (X ++ l)
  | [] => h
  | _ :: X => .skip (Sub.skipL h X)
theorem w_imul_int {a b : Int} {t u : Tok} {k : Value → Led → Prop} (hm : IntMulOk a b) (h : ∀ t, k (.int (a * b) t) l) : W C A l (inplaceOp .Mult (.int a t) (.int b u)) k e := fun r s hs => PyProof.Rows.imul_int ⟨l, h _, hs.toks⟩ hm
theorem w_len_seq {a : Addr} {vs : List Value} {k : Value → Led → Prop} (hm : (a, seqP "list" vs) ∈ l) (hz : vs.length < 1000000) (h : ∀ t, k (.int vs.length t) l) : W C A l (call (.builtin "len") [.ref a]) k e := fun r s hs =>
  call_len_list (hs.isList hm) (by simp; omega) ⟨l, by simpa using h (s.toks + 1), hs.toks⟩
theorem w_len_ints {a : Addr} {ns : List Int} {k : Value → Led → Prop} (hI : Ints C l a ns) (hz : ns.length < 1000000) (h : ∀ t, k (.int ns.length t) l) : W C A l (call (.builtin "len") [.ref a]) k e := fun r s hs => by
  obtain ⟨vs, hi, hl⟩ := hI s r hs
  have hle := hi.length
  refine call_len_list hl (by simp; omega) ⟨l, ?_, hs.toks⟩
  have := h (s.toks + 1)
  rw [← hle] at this
  simpa using this
theorem w_truthy_seq {a : Addr} {vs : List Value} {k : Bool → Led → Prop} (hm : (a, seqP "list" vs) ∈ l) (hz : vs.length < 1000000) (h : k (!vs.isEmpty) l) : W C A l (truthy (.ref a)) k e := fun r s hs =>
  wpAny_truthy_list (hs.isList hm) (by simp; omega) ⟨l, by simpa using h, hs.toks⟩
theorem w_subTail_list {value slice : Expr} {a : Addr} {vs : List Value} {i : Int} {t : Tok} {v : Value} {k : Value → Led → Prop} (hm : (a, seqP "list" vs) ∈ l) (h0 : 0 ≤ i) (hi : i < 2 ^ 63) (hv : vs[i.toNat]? = some v) (h : k v l)
    (hs : subscripted slice false (.ref a) (.int i t) = operate [.ref a, .int i t] (getItem (.ref a) (.int i t)) := by with_unfolding_all rfl) : W C A l (subscriptTail value slice (.ref a) (.int i t)) k e := fun r s hs' =>
  tail_any (hs'.isList hm).typeIs slot_list_getitem.lookup ((w_getItem_list hm h0 hi hv h : W C A l _ k e) r s hs') hs
theorem w_subTail_tup {value slice : Expr} {a : Addr} {ts : List Int} {i : Int} {t : Tok} {n : Int} {k : Value → Led → Prop} (hm : (a, tupP ts) ∈ l) (h0 : 0 ≤ i) (hi : i < ts.length) (hz : ts.length < 1000) (hv : ts[i.toNat]? = some n) (h : ∀ u, k (.int n u) l)
    (hs : subscripted slice false (.ref a) (.int i t) = operate [.ref a, .int i t] (getItem (.ref a) (.int i t)) := by with_unfolding_all rfl) : W C A l (subscriptTail value slice (.ref a) (.int i t)) k e := fun r s hs' => by
  obtain ⟨o, ho, hc, vs, m, hI, hd⟩ := hs'.get hm
  have hle := hI.length
  obtain ⟨u, hu⟩ := IntsAre.get' hI _ hv
  have hT : IsTup s.heap a vs.toArray := ⟨o, ho, hc, m, hd⟩
  refine tail_any hT.typeIs PySem.F.slot_tuple_getitem.lookup (PyProof.Rows.getItem_tuple hT (by omega) (by omega) (j := i.toNat) ?_ (by simpa using hu) ⟨l, h u, hs'⟩) hs
  unfold seqIndex?
  simp
  omega
theorem w_setItem_list {a : Addr} {vs : List Value} {l' : Led} {i : Int} {t : Tok} {v : Value} {k : Unit → Led → Prop} (R : Rep a (seqP "list" vs) (seqP "list" (vs.set i.toNat v)) l l') (h0 : 0 ≤ i) (hi : i < 2 ^ 63) (hn : i < vs.length) (h : k () l') :
    W C A l (setItem (.ref a) (.int i t) v) k e := fun r s hs =>
  wpAny_setItem_list (hs.isList R.mem) h0 hi (by simp; omega) fun h' hl' hb => ⟨l', h, hs.rep R hb (by
    obtain ⟨o, ho, hc, m, hd⟩ := hl'
    exact ⟨o, ho, hc, m, by rw [hd]; simp⟩) _⟩
/-- a list that takes append -/
theorem w_append {a : Addr} {vs : List Value} {v : Value} {l' : Led} {k : Value → Led → Prop} (R : Rep a (freshP vs) (freshP (vs ++ [v])) l l') (hz : vs.length < 100000) (h : k .none l') : W C A l (call (.builtin "list.append") [.ref a, v]) k e := fun r s hs => by
  obtain ⟨o, ho, n, rfl⟩ := hs.get R.mem
  exact append_at ho (fun h' hb hg => ⟨l', h, hs.rep R hb ⟨_, hg, n + 1, by simp⟩ s.toks⟩) (by rw [sizeLine_eq]; simp; omega)
theorem w_appendM {a : Addr} {vs : List Value} {pl : Sem Bool} {k : Value × List Value → Led → Prop} (hm : (a, freshP vs) ∈ l) (h : k (.builtin "list.append", [.ref a]) l) : W C A l (getMethod (.ref a) "append" pl) k e := fun r s hs => by
  obtain ⟨o, ho, n, rfl⟩ := hs.get hm
  exact getMethod_list_append ho rfl rfl ⟨l, h, hs⟩
theorem w_newTup {f : Ent} {vs : List Value} {ts : List Int} {k : Value → Led → Prop} (hi : IntsAre vs ts) (hz : vs.length ≤ 1000) (h : ∀ a, k (.ref a) (f :: (a, tupP ts) :: l)) : W C A (f :: l) (newTuple vs) k e := fun r s hs => by
  refine wpAny_newTuple ⟨_, h s.heap.objs.size, ?_⟩ (by rw [sizeLine_eq]; omega)
  exact hs.put (fun _ _ x => Heap.get?_push_of_some _ x) (get_size _) (Heap.get?_push_size _ rfl) ⟨rfl, vs, 0, hi, rfl⟩ _
theorem w_callWith_K0 (S : Ok C) {pos : Pos} {f : Value} {k : Value → Led → Prop} (h : CW C A l (.call f ⟨[], []⟩) (vK k e)) (hk : keepIn (KF C.w.params) f = true := by kernel_rfl) : W C A l (callWith pos f [] (backTo pos (starEach [] env)) []) k e := fun r s hs =>
  callWith_K0 (S.kis hs) hk ((w_callV h : W C A l (call f []) k e) r s hs)
theorem w_callWith_K (S : Ok C) {pos : Pos} {f : Value} {x : Expr} {rest : List Expr} {k : Value → Led → Prop} (h : W C A l (spliced (backTo pos (starEach (x :: rest) env))) (fun vs l' => CW C A l' (.call f ⟨vs, []⟩) (vK k e)) e) (hk : keepIn (KF C.w.params) f = true := by kernel_rfl)
    (he : starEach (x :: rest) env = (false, eval x env) :: starEach rest env := by rfl) (hplain : (backTo pos (starEach rest env)).any (·.1) = false := by rfl) : W C A l (callWith pos f [] (backTo pos (starEach (x :: rest) env)) []) k e := fun r s hs =>
  callWith_K (S.kis hs) hk (h.step hs fun vs l' s' h' hs' => ⟨S.kis hs', (w_callV h' : W C A l' (call f vs) k e) r s' hs'⟩) he hplain
theorem mem_GL {G : GS} {T : Led} {p : Ent} (h : p ∈ T) : p ∈ GL C G T := by
  refine .tail _ (.tail _ (.tail _ (.tail _ (.tail _ (.tail _ ?_)))))
  exact List.mem_append_right _ (List.mem_append_right _ (List.mem_append_right _ h))
theorem sub_rows {adj prd : List (Addr × KV)} {na : List Addr} {x : Ent} {T : Led} : Sub (rowsL C adj ++ (rowsL C prd ++ (nasL C na ++ (x :: T)))) (x :: (rowsL C adj ++ (rowsL C prd ++ (nasL C na ++ T)))) :=
  (Sub.pre (Sub.pre Sub.mid _) _).trans ((Sub.pre Sub.mid _).trans Sub.mid)
theorem sub_GL {G : GS} {x : Ent} {T : Led} : Sub (GL C G (x :: T)) (x :: GL C G T) :=
  .pick1 (.tail .head) (.pick1 (.tail .head) (.pick1 (.tail .head) (.pick1 (.tail .head) (.pick1 (.tail .head) (.pick1 (.tail .head) sub_rows)))))
theorem GL_app {G : GS} {T : Led} : GL C G T = GL C G [] ++ T := by simp
theorem sub_GL' {G : GS} {x : Ent} {T : Led} : Sub (x :: GL C G T) (GL C G (x :: T)) := by
  rw [GL_app (T := T), GL_app (T := x :: T)]
  exact Sub.mid'
theorem sub_GLT {G : GS} {T T' : Led} (h : Sub T' T) : Sub (GL C G T') (GL C G T) := by
  rw [GL_app (T := T), GL_app (T := T')]
  exact Sub.pre h _
theorem sub_GLA {G : GS} {X T : Led} : Sub (X ++ GL C G T) (GL C G (X ++ T)) := by
  rw [GL_app (T := T), GL_app (T := X ++ T)]
  exact .perm (by rw [← List.append_assoc, ← List.append_assoc]; exact List.perm_append_comm.append_right _)
theorem sub_GLA' {G : GS} {X T : Led} : Sub (GL C G (X ++ T)) (X ++ GL C G T) := by
  rw [GL_app (T := T), GL_app (T := X ++ T)]
  exact .perm (by rw [← List.append_assoc, ← List.append_assoc]; exact List.perm_append_comm.append_right _)
theorem sub_GLout {G : GS} {T l' : Led} (h : Sub l' T) : Sub l' (GL C G T) :=
  .skip (.skip (.skip (.skip (.skip (.skip (Sub.skipL (Sub.skipL (Sub.skipL h _) _) _))))))
end
/-! what a heap holds -/
def Holds (S : List Itm) (p : Nat → Prop) (key : Nat → List Int) : Prop := (S.map (·.2)).Nodup ∧ ∀ k, k ∈ S.map (·.2) ↔ ∃ v, p v ∧ k = key v
theorem Holds.nil {p : Nat → Prop} {key : Nat → List Int} (h : ∀ v, ¬ p v) : Holds [] p key := ⟨List.nodup_nil, fun k => ⟨fun hk => (nomatch hk), fun ⟨v, hv, _⟩ => (h v hv).elim⟩⟩
theorem Holds.perm {S S' : List Itm} {p : Nat → Prop} {key : Nat → List Int} (h : Holds S p key) (hp : S'.Perm S) : Holds S' p key :=
  ⟨(hp.map _).nodup_iff.mpr h.1, fun k => ((hp.map _).mem_iff).trans (h.2 k)⟩
theorem Holds.cons {S : List Itm} {p p' : Nat → Prop} {key : Nat → List Int} {x : Itm} {v : Nat} (h : Holds S p key) (hx : x.2 = key v) (hv : ¬ p v) (hinj : ∀ u w, key u = key w → u = w) (hp' : ∀ u, p' u ↔ p u ∨ u = v) : Holds (x :: S) p' key := by
  refine ⟨List.nodup_cons.mpr ⟨fun hm => ?_, h.1⟩, fun k => ?_⟩
  · obtain ⟨u, hu, e⟩ := (h.2 _).mp hm
    have e : x.2 = key u := e
    rw [hx] at e
    exact hv (hinj _ _ e ▸ hu)
  · rw [List.map_cons, List.mem_cons, h.2]
    constructor
    · rintro (rfl | ⟨u, hu, rfl⟩)
      · exact ⟨v, (hp' v).mpr (.inr rfl), hx⟩
      · exact ⟨u, (hp' u).mpr (.inl hu), rfl⟩
    · rintro ⟨u, hu, rfl⟩
      rcases (hp' u).mp hu with hu | rfl
      · exact .inr ⟨u, hu, rfl⟩
      · exact .inl hx.symm
theorem Holds.uncons {S : List Itm} {p : Nat → Prop} {key : Nat → List Int} {x : Itm} (h : Holds (x :: S) p key) : ∃ v, p v ∧ x.2 = key v ∧ ∀ (hinj : ∀ u w, key u = key w → u = w), Holds S (fun u => p u ∧ u ≠ v) key := by
  obtain ⟨v, hv, e⟩ := (h.2 x.2).mp (by simp)
  refine ⟨v, hv, e, fun hinj => ?_⟩
  have nd := h.1
  rw [List.map_cons, List.nodup_cons] at nd
  refine ⟨nd.2, fun k => ⟨fun hk => ?_, fun ⟨u, ⟨hu, hne⟩, hk⟩ => ?_⟩⟩
  · obtain ⟨u, hu, rfl⟩ := (h.2 k).mp (by rw [List.map_cons]; exact .tail _ hk)
    refine ⟨u, ⟨hu, ?_⟩, rfl⟩
    rintro rfl
    exact nd.1 (e ▸ hk)
  · have := (h.2 k).mpr ⟨u, hu, hk⟩
    rw [List.map_cons, List.mem_cons] at this
    rcases this with rfl | this
    · exact absurd (hinj _ _ (e.symm.trans hk)) (Ne.symm hne)
    · exact this
theorem Holds.iff {S : List Itm} {p p' : Nat → Prop} {key : Nat → List Int} (h : Holds S p key) (hp : ∀ v, p' v ↔ p v) : Holds S p' key :=
  ⟨h.1, fun k => (h.2 k).trans ⟨fun ⟨v, a, b⟩ => ⟨v, (hp v).mpr a, b⟩, fun ⟨v, a, b⟩ => ⟨v, (hp v).mp a, b⟩⟩⟩
theorem Holds.keys {S : List Itm} {p : Nat → Prop} {key key' : Nat → List Int} (h : Holds S p key) (hk : ∀ v, p v → key' v = key v) : Holds S p key' :=
  ⟨h.1, fun k => (h.2 k).trans ⟨fun ⟨v, a, b⟩ => ⟨v, a, b.trans (hk v a).symm⟩, fun ⟨v, a, b⟩ => ⟨v, a, b.trans (hk v a)⟩⟩⟩
end Mine
end
/-! C1 -/
section
open PySem PySem.W PySem.Calls PyProof.Rows
set_option maxRecDepth 100000
set_option linter.all false
namespace Mine
/-! cells -/
def cellP (v : Option Value) (o : Obj) : Prop := o.data = .cell v
section
variable {α β : Type} {C : Cx} {A : Around} {l : Led} {e : Value → Led → Prop} {env : Env}
theorem w_loadC {x : Str} {c : Addr} {v : Value} {k : Value → Led → Prop} (hc : env.cells.lookup x = some c) (hm : (c, cellP (some v)) ∈ l) (h : k v l)
    (hk : env.scope.kind = .function := by rfl) (hl : env.kindOf x = some .cell := by rfl) : W C A l (loadName env x) k e := fun r s hs => by
  obtain ⟨o, ho, hP⟩ := hs.get hm
  exact wpAny_loadName_cell hk hl hc ⟨o, ho, hP⟩ ⟨l, h, hs⟩
theorem w_NameC {x : Str} {pos : Pos} {c : Addr} {v : Value} {k : Value → Led → Prop} (hc : env.cells.lookup x = some c) (hm : (c, cellP (some v)) ∈ l) (h : k v l)
    (hk : env.scope.kind = .function := by rfl) (hl : env.kindOf x = some .cell := by rfl) (hd : (x == ("__debug__" : Str)) = false := by decide) : W C A l (eval (.Name x pos) env) k e := fun r s hs =>
  wpAny_Name ((w_loadC hc hm h hk hl : W C A l (loadName env x) k e) r s hs) hd
theorem w_storeC {x : Str} {c : Addr} {v₀ : Option Value} {v : Value} {l' : Led} {k : Unit → Led → Prop} (hc : env.cells.lookup x = some c) (R : Rep c (cellP v₀) (cellP (some v)) l l') (h : k () l')
    (hk : env.scope.kind = .function := by rfl) (hl : env.kindOf x = some .cell := by rfl) : W C A l (storeName env x v) k e := fun r s hs => by
  obtain ⟨o, ho, hP⟩ := hs.get R.mem
  exact wpAny_storeName_cell hk hl hc ⟨o, ho, hP⟩ fun h' ⟨o', ho', hd⟩ hb => ⟨l', h, hs.rep R hb ⟨o', ho', hd⟩ _⟩
/-- the locals that a call with cells lays -/
def putL (kindOf : Str → Option NameKind) : List (Str × Value) → Vars → Vars
  | [], vs => vs
  | (n, v) :: r, vs => putL kindOf r (if kindOf n = some .local then put n v vs else vs)
theorem bindL_putL {kindOf : Str → Option NameKind} : ∀ (binds : List (Str × Value)) (m : Str → Option Value) (vs : Vars), (∀ y, m y = vs.lookup y) → ∀ y, bindL kindOf binds m y = (putL kindOf binds vs).lookup y
  | [], m, vs, h, y => h y
  | (n, v) :: r, m, vs, h, y => by
    unfold bindL putL
    refine bindL_putL r _ _ (fun z => ?_) y
    by_cases q : kindOf n = some .local
    · rw [if_pos q, if_pos q, lookup_put, h]
    · rw [if_neg q, if_neg q, h]
def cellL (cs : List (Str × Addr)) (cm : Str → Option Value) : Led := cs.map fun x => (x.2, cellP (cm x.1))
theorem Hp.cells {B h h' : Heap} {l : Led} (H : Hp B h l) (g : ∀ b o, h.get? b = some o → h'.get? b = some o) : ∀ {new : Led}, (∀ p ∈ new, h.objs.size ≤ p.1 ∧ ∃ o, h'.get? p.1 = some o ∧ p.2 o) → (new.map (·.1)).Nodup → Hp B h' (new ++ l)
  | [], _, _ => H.grow g
  | p :: new, hn, nd => by
    rw [List.map_cons, List.nodup_cons] at nd
    have ih := Hp.cells H g (new := new) (fun q hq => hn q (.tail _ hq)) nd.2
    obtain ⟨hle, o, ho, hP⟩ := hn p (.head _)
    refine ⟨ih.base, fun q hq => ?_, ?_, H.gm⟩
    · rcases List.mem_cons.mp hq with rfl | hq
      · refine ⟨⟨o, ho, hP⟩, ?_⟩
        cases e : B.get? q.1 with
        | none => rfl
        | some o' => exact absurd (Heap.lt_size (H.base _ _ e)) (Nat.not_lt.mpr hle)
      · exact ih.own q hq
    · rw [List.cons_append, List.map_cons, List.nodup_cons]
      refine ⟨fun hm => ?_, ih.nd⟩
      rw [List.map_append, List.mem_append] at hm
      rcases hm with hm | hm
      · exact nd.1 hm
      · obtain ⟨q, hq, e⟩ := List.mem_map.mp hm
        obtain ⟨⟨o', ho', _⟩, _⟩ := H.own q hq
        rw [e] at ho'
        exact absurd (Heap.lt_size ho') (Nat.not_lt.mpr hle)
theorem cellL_nd {cs : List (Str × Addr)} {cm : Str → Option Value} (h : cs.Pairwise fun x y => x.2 ≠ y.2) : ((cellL cs cm).map (·.1)).Nodup := by
  unfold cellL
  rw [List.map_map]
  exact List.pairwise_map.mpr (h.imp fun q => q)
theorem lookup_of_mem_cells {cs : List (Str × Addr)} (hnd : (cs.map (·.1)).Nodup) {n : Str} {c : Addr} (h : (n, c) ∈ cs) : cs.lookup n = some c := PyProof.Rows.lookup_of_mem_nodup hnd h
/-- a call of a def with cells -/
theorem cw_defC {R : Result → Led → Prop} {a : Addr} {o : Obj} {fd : FuncData} {body : List Stmt} {vals : List Value} {binds : List (Str × Value)} {vs : Vars} {cl : Addr → Led}
    (hlim : C.B.NoLimit) (hroom : A.depth < recursionLimit) (ho : C.B.get? a = some o) (hdata : o.data = .func fd) (hcd : C.B.CodeRec fd.code fd.qualname)
    (hbody : fd.body = .stmts body) (hbind : bindArgs fd ⟨vals, []⟩ = pure binds) (hclo : fd.closure = [])
    (hkind : ∀ k, ∀ x ∈ binds, fd.scope.names.lookup x.1 = some .local ∨ (fd.scope.names.lookup x.1 = some .cell ∧ ((cellsFrom k fd.scope.names []).lookup x.1).isSome = true))
    (hnd : ∀ L, ((cellsFrom (L + 1) fd.scope.names []).map (·.1)).Nodup)
    (hvs : ∀ L, putL (callEnvC fd L a).kindOf binds [] = vs) (hcl : ∀ L, cellL (cellsFrom (L + 1) fd.scope.names []) (bindC (callEnvC fd L a).kindOf binds fun _ => none) = cl L)
    (h : ∀ L, W C (A.deeper (callEnvC fd L a)) ((L, nsP vs) :: (cl L ++ l)) (execs body (callEnvC fd L a)) (fun f l' => ∃ l₁, Sub l₁ l' ∧ R (.ok (.ret (match f with | .ret v => v | _ => .none))) l₁)
      (fun x l' => W C (A.deeper (callEnvC fd L a)) l' (leaving (callEnvC fd L a) x) (fun _ l'' => R (.error x) l'') (fun x' l'' => R (.error x') l'')))
    (hco : fd.scope.isCoroutine = false := by rfl) (hgen : fd.scope.isGenerator = false := by rfl) (hk : fd.scope.kind = .function := by rfl) : CW C A l (.call (.ref a) ⟨vals, []⟩) R := fun r s hs => by
  refine codeAny_call_cells hroom (hs.old ho) hdata (hlim.keeps hs.hp.base) (hcd.keeps hs.hp.base) hbody hbind hclo (hkind _) (fun s₁ X => ?_) hco hgen hk
  obtain ⟨h', tk, rfl⟩ := X.toInCall.same
  have hcells : (callEnvC fd s.heap.objs.size a).cells = cellsFrom (s.heap.objs.size + 1) fd.scope.names [] := rfl
  have hL : (callEnvC fd s.heap.objs.size a).locals = s.heap.objs.size := rfl
  have hs' : St C ((s.heap.objs.size, nsP vs) :: (cl s.heap.objs.size ++ l) ++ r) { s with heap := h', toks := tk } := by
    have key := Hp.cells (h' := h') hs.hp X.toInCall.keep (new := (s.heap.objs.size, nsP vs) :: cl s.heap.objs.size) ?_ ?_
    · exact ⟨by simpa [List.append_assoc] using key, hs.bare, hs.os⟩
    · intro p hp
      rcases List.mem_cons.mp hp with rfl | hp
      · obtain ⟨o', es, ep, ho', hd, hkk, hf⟩ := X.toInCall.ns
        exact ⟨Nat.le_refl _, o', ho', es, ep, hd, hkk, fun name => by rw [hf, ← hvs s.heap.objs.size]; exact bindL_putL binds _ [] (fun _ => rfl) name⟩
      · rw [← hcl] at hp
        obtain ⟨⟨n, c⟩, hq, rfl⟩ := List.mem_map.mp hp
        have h1 := X.above n c hq
        rw [hL] at h1
        obtain ⟨o', ho', hd⟩ := X.cell n c (by rw [hcells]; exact lookup_of_mem_cells (hnd _) hq)
        exact ⟨Nat.le_of_lt h1, o', ho', hd⟩
    · rw [List.map_cons, List.nodup_cons, ← hcl]
      refine ⟨fun hm => ?_, cellL_nd X.apart⟩
      obtain ⟨p, hp, e⟩ := List.mem_map.mp hm
      obtain ⟨⟨n, c⟩, hq, rfl⟩ := List.mem_map.mp hp
      have h1 := X.above n c hq
      rw [hL] at h1
      have e' : c = s.heap.objs.size := e
      exact absurd e' (Nat.ne_of_gt h1)
  exact (h s.heap.objs.size).then hs' (fun f l' s' ⟨l₁, hS, hr⟩ hs₁ => ⟨l₁, hr, hs₁.sub (hS.app r)⟩) (fun x l' s' hr hs₁ => (hr r s' hs₁))

/-! list comprehensions: nothing is raised in them -/
abbrev ctests (ifs : List Expr) (cenv : Env) : Sem Bool := forIn ifs true fun c r => if r = true then do let ok ← isTrue c cenv (eval c cenv); pure (ForInStep.yield ok) else pure (ForInStep.yield r)
theorem w_ctests0 {k : Bool → Led → Prop} (h : k true l) : W C A l (ctests [] env) k e := w_pure h
theorem w_ctests1 {c : Expr} {k : Bool → Led → Prop} (h : W C A l (isTrue c env (eval c env)) k e) : W C A l (ctests [c] env) k e := by
  show W C A l (forIn [c] true _) k e
  rw [List.forIn_cons, if_pos rfl]
  refine w_bind (w_bind (h.mono (fun b l' hb => w_pure ?_) fun _ _ z => z))
  exact w_pure hb
theorem codeAny_comp {elt target iter : Expr} {ifs : List Expr} {scope : Scope} {pos : Pos} {cenv : Env} {it D : Addr} {n : Nat} {val : Nat → Value → Prop} (I : Nat → Led → Prop) (J : Nat → Obj → Prop) {R : Result → Shared → Prop} {s : Shared} {r : Led}
    (nxt : ∀ i l₂ (s : Shared) (Q : Option Value → Shared → Prop) (E : Value → Shared → Prop), i < n → I i l₂ → St C (l₂ ++ (it, J i) :: r) s →
      (∀ v h' tk, val i v → Heap.SameBut it s.heap h' → (∃ o, h'.get? it = some o ∧ J (i + 1) o) → Q (some v) { s with heap := h', toks := tk }) → wpAny (model P C.w) A (pyNext (.ref it)) Q E s)
    (fin : ∀ l₂ (s : Shared) (Q : Option Value → Shared → Prop) (E : Value → Shared → Prop), I n l₂ → St C (l₂ ++ (it, J n) :: r) s → (∀ h' tk, Heap.ExtBut it s.heap h' → Q none { s with heap := h', toks := tk }) → wpAny (model P C.w) A (pyNext (.ref it)) Q E s)
    (turn : ∀ i v l₂, i < n → I i l₂ → val i v → W C A l₂ (assign target cenv v) (fun _ l₃ => W C A l₃ (ctests ifs cenv) (fun ok l₄ => (ok = true → W C A l₄ (eval elt cenv) (fun x l₅ => W C A l₅ (call (.builtin "list.append") [.ref D, x]) (fun _ l₆ => I (i + 1) l₆) noE) noE) ∧ (ok = false → I (i + 1) l₄)) noE) noE)
    (hR : ∀ l₂ s', I n l₂ → St C (l₂ ++ r) s' → R (.ok .next) s')
    {l₀ : Led} (h0 : I 0 l₀) (hs : St C (l₀ ++ (it, J 0) :: r) s) (ht : ∀ v, letOwnedTupleGo target (.ref it) v = pure ()) : codeAny (model P C.w) A (.compLoop (.ListComp elt [⟨target, iter, ifs, 0⟩] scope pos) 0 (.ref it) (.ref D) cenv) R s := by
  refine codeAny_compLoop_tests (fun m s' => ∃ i l₂, m = n - i ∧ i ≤ n ∧ I i l₂ ∧ St C (l₂ ++ (it, J i) :: r) s') ?_ (n - 0) ⟨0, l₀, rfl, Nat.zero_le _, h0, hs⟩ ht
  rintro m s' ⟨i, l₂, rfl, hi, hI, hs'⟩
  by_cases hlt : i < n
  · refine nxt i l₂ s' _ _ hlt hI hs' fun v h' tk hv hb ho => ?_
    have hs₁ : St C (l₂ ++ (it, J (i + 1)) :: r) { s' with heap := h', toks := tk } := ⟨hs'.hp.rep Rep.mid hb ho, hs'.bare, hs'.os⟩
    refine (turn i v l₂ hlt hI hv).then hs₁ (fun _ l₃ s₂ h₂ hs₂ => h₂.then hs₂ (fun ok l₄ s₃ h₃ hs₃ => ?_) fun _ _ _ x => x.elim) fun _ _ _ x => x.elim
    cases ok with
    | true =>
      rw [if_pos rfl]
      exact (h₃.1 rfl).then hs₃ (fun x l₅ s₄ h₄ hs₄ => h₄.then hs₄ (fun _ l₆ s₅ h₅ hs₅ => ⟨n - (i + 1), by omega, i + 1, l₆, rfl, hlt, h₅, hs₅⟩) fun _ _ _ x => x.elim) fun _ _ _ x => x.elim
    | false =>
      rw [if_neg (by decide)]
      exact ⟨n - (i + 1), by omega, i + 1, l₄, rfl, hlt, h₃.2 rfl, hs₃⟩
  · have : i = n := by omega
    subst this
    exact fin l₂ s' _ _ hI hs' fun h' tk hx => hR _ _ hI ⟨hs'.hp.extBut hx, hs'.bare, hs'.os⟩
/-- what gives the values val, n of them, so long as G: a list or a range -/
def Gives (C : Cx) (A : Around) (l₁ : Led) (G : Led → Prop) (v : Value) (n : Nat) (val : Nat → Value → Prop) : Prop :=
  ∀ r s (Q : Value → Shared → Prop) (E : Value → Shared → Prop), St C (l₁ ++ r) s → (∀ (it : Addr) (J : Nat → Obj → Prop) h', St C ((it, J 0) :: (l₁ ++ r)) { s with heap := h' } →
    (∀ i l₂ r' (s : Shared) (Q : Option Value → Shared → Prop) (E : Value → Shared → Prop), i < n → G l₂ → St C (l₂ ++ (it, J i) :: r') s →
      (∀ v h' tk, val i v → Heap.SameBut it s.heap h' → (∃ o, h'.get? it = some o ∧ J (i + 1) o) → Q (some v) { s with heap := h', toks := tk }) → wpAny (model P C.w) A (pyNext (.ref it)) Q E s) →
    (∀ l₂ r' (s : Shared) (Q : Option Value → Shared → Prop) (E : Value → Shared → Prop), G l₂ → St C (l₂ ++ (it, J n) :: r') s → (∀ h' tk, Heap.ExtBut it s.heap h' → Q none { s with heap := h', toks := tk }) → wpAny (model P C.w) A (pyNext (.ref it)) Q E s) →
    (∀ l₂ r' (s : Shared) (Q : Value → Shared → Prop) (E : Value → Shared → Prop), St C (l₂ ++ (it, J 0) :: r') s → Q (.ref it) s → wpAny (model P C.w) A (pyIter (.ref it)) Q E s) →
    Q (.ref it) { s with heap := h' }) → wpAny (model P C.w) A (pyIter v) Q E s
theorem w_ListComp {elt target iter : Expr} {ifs : List Expr} {scope : Scope} {cl : List (Str × Addr)} {pos : Pos} {k : Value → Led → Prop} {n : Nat} {val : Nat → Value → Prop} (G : Addr → Led → Prop) (I : Addr → Addr → Addr → Nat → Led → Prop)
    (hclos : closureFor scope env = pure cl)
    (h : W C A l (eval iter env) (fun v l₁ => ∃ a, Gives C A l₁ (G a) v n val ∧ (∀ D cL i l₂, I a D cL i l₂ → G a l₂) ∧ ∀ D cL, I a D cL 0 ((cL, nsP []) :: (D, freshP []) :: l₁)) e)
    (turn : ∀ a D cL i v l₂, i < n → I a D cL i l₂ → val i v → W C A l₂ (assign target (compEnvC scope cl cL env) v) (fun _ l₃ => W C A l₃ (ctests ifs (compEnvC scope cl cL env)) (fun ok l₄ => (ok = true → W C A l₄ (eval elt (compEnvC scope cl cL env)) (fun x l₅ => W C A l₅ (call (.builtin "list.append") [.ref D, x]) (fun _ l₆ => I a D cL (i + 1) l₆) noE) noE) ∧ (ok = false → I a D cL (i + 1) l₄)) noE) noE)
    (done : ∀ a D cL l₂, I a D cL n l₂ → ∃ vs l₃, Sub ((cL, nsP vs) :: l₃) l₂ ∧ k (.ref D) l₃)
    (hcell : ∀ y ∈ scope.names, y.2 ≠ .cell := by decide) (hkind : scope.kind = .function := by rfl) (hnames : ∀ y ∈ scope.names, y.2 = .local → scope.names.lookup y.1 = some .local := by decide)
    (hs : ∀ x, foldedSetIterable iter env x = pure x := by intro _; rfl) (ht : ∀ it v, letOwnedTupleGo target it v = pure () := by intro _ _; rfl) :
    W C A l (eval (.ListComp elt [⟨target, iter, ifs, 0⟩] scope pos) env) k e := fun r s hs' => by
  rw [eval_ListComp]
  refine wpAny_comprehension_free (use := none) rfl hs hclos hkind hnames (h.then hs' (fun xv l₁ s₁ h₁ hs₁ => ?_) fun _ l' _ he hs₂ => ⟨l', he, hs₂⟩)
  obtain ⟨a, g, hG, h0⟩ := h₁
  refine g r s₁ _ _ hs₁ fun it J h' hs₂ nxt fin self => ?_
  refine wpAny_newObj_type (wpAny_newFunctionEnv hcell (by intro y hy; simp at hy) (fun h₁ hns₁ hsb₁ => ?_) hkind)
  dsimp only at hns₁ hsb₁ ⊢
  generalize hH2 : h'.push { cls := .type "list", dict := none, data := .seq ([] : List Value).toArray } = H2 at hns₁ hsb₁ ⊢
  have hs₃ : Hp C.B H2 ((h'.objs.size, freshP []) :: (it, J 0) :: (l₁ ++ r)) := by
    rw [← hH2]
    exact hs₂.hp.new (fun _ _ x => Heap.get?_push_of_some _ x) (get_size _) (Heap.get?_push_size _ rfl) ⟨0, rfl⟩
  have hs₄ : Hp C.B h₁ ((H2.objs.size, nsP []) :: (h'.objs.size, freshP []) :: (it, J 0) :: (l₁ ++ r)) := by
    obtain ⟨o', es, ep, ho', hd, hkk, hf⟩ := hns₁
    exact hs₃.new (fun b o e => hsb₁.extBut b o (Nat.ne_of_lt (Heap.lt_size e)) (Heap.get?_push_of_some _ e)) (get_size _) ho' ⟨es, ep, hd, hkk, hf⟩
  have hs₅ : St C (((H2.objs.size, nsP []) :: (h'.objs.size, freshP []) :: l₁) ++ (it, J 0) :: r) { s₁ with heap := h₁, toks := s₁.toks + 0 } := by
    refine ⟨hs₄.sub (Sub.perm ?_), hs₂.bare, hs₂.os⟩
    simp only [List.cons_append]
    exact List.Perm.cons _ (List.Perm.cons _ List.perm_middle)
  have loop : ∀ s₃ : Shared, St C (((H2.objs.size, nsP []) :: (h'.objs.size, freshP []) :: l₁) ++ (it, J 0) :: r) s₃ → codeAny (model P C.w) A (.compLoop (.ListComp elt [⟨target, iter, ifs, 0⟩] scope pos) 0 (.ref it) (.ref h'.objs.size) (compEnvC scope cl H2.objs.size env))
      (compPost (model P C.w) A (fun x s' => ∃ l', e x l' ∧ St C (l' ++ r) s') none (fun a s' => ∃ l', k a l' ∧ St C (l' ++ r) s') (.ref h'.objs.size) H2.objs.size) s₃ := fun s₃ hs₃ =>
    codeAny_comp (I a h'.objs.size H2.objs.size) J (fun i l₂ s Q E hi hI hs hq => nxt i l₂ r s Q E hi (hG _ _ _ _ hI) hs hq) (fun l₂ s Q E hI hs hq => fin l₂ r s Q E (hG _ _ _ _ hI) hs hq) (fun i v l₂ hi hI hv => turn a _ _ i v l₂ hi hI hv)
      (fun l₂ s' hI hs' => by
        obtain ⟨vs, l₃, hS, hk⟩ := done a _ _ l₂ hI
        have hs'' := hs'.sub (hS.app r)
        obtain ⟨o, ho, hP⟩ := hs''.get (l := (H2.objs.size, nsP vs) :: l₃) (.head _)
        exact ⟨_, nsP.ns ho hP, fun h'' hb => ⟨l₃, hk, ⟨Hp.extBut (l := []) (r := l₃ ++ r) hs''.hp hb.extBut, hs''.bare, hs''.os⟩⟩⟩)
      (h0 _ _) hs₃ (fun v => ht _ v)
  exact codeAny_compStart_list (loop _ hs₅) (self _ r _ _ _ hs₅ (loop _ hs₅))
end
end Mine
end
/-! U1 -/
section
open PySem PySem.W PySem.Calls PyProof.Rows
set_option maxRecDepth 100000
set_option linter.all false
namespace Mine
/-! contexts above which no collection is under way -/
def nf (c : Code) : Prop := ∀ a, c ≠ .builtin "lifetime.gc.finalise" a
def NF (Γ : Ctx) : Prop := nf Γ.code ∧ ∀ x ∈ Γ.below, nf x.1
section
variable {α β : Type} {M : Model} {A : Around} {E : Value → Shared → Prop} {s : Shared}
def wpF {α : Type} (M : Model) (A : Around) (t : Sem α) (Q : α → Shared → Prop) (E : Value → Shared → Prop) (s : Shared) : Prop :=
  ∀ Γ p, Γ.In A → NF Γ → Sem.wp M Γ t (fun a _ s' => Q a s') (fun e _ s' => E e s') p s
def codeF (M : Model) (A : Around) (c : Code) (R : Result → Shared → Prop) (s : Shared) : Prop :=
  ∀ Γ p, Γ.code = c → Γ.Below A → (∀ x ∈ Γ.below, nf x.1) → wpCode M Γ R p s
theorem wpF.of {t : Sem α} {Q : α → Shared → Prop} (h : wpAny M A t Q E s) : wpF M A t Q E s := fun Γ p hΓ _ => h Γ p hΓ
theorem codeF.of {c : Code} {R : Result → Shared → Prop} (h : codeAny M A c R s) : codeF M A c R s := fun Γ p hc hΓ _ => h Γ p hc hΓ
theorem wpF_mono {t : Sem α} {Q Q' : α → Shared → Prop} {E' : Value → Shared → Prop} (h : wpF M A t Q E s) (hQ : ∀ a s, Q a s → Q' a s) (hE : ∀ e s, E e s → E' e s) : wpF M A t Q' E' s :=
  fun Γ p hΓ hN => Sem.wp_mono M Γ t (fun a _ s => hQ a s) (fun e _ s => hE e s) p s (h Γ p hΓ hN)
theorem wpF_bind {m : Sem α} {f : α → Sem β} {Q : β → Shared → Prop} (h : wpF M A m (fun a s' => wpF M A (f a) Q E s') E s) : wpF M A (m >>= f) Q E s := fun Γ p hΓ hN => by
  rw [Sem.wp_bind']
  exact Sem.wp_mono M Γ m (fun a p' s' h' => h' Γ p' hΓ hN) (fun _ _ _ h' => h') p s (h Γ p hΓ hN)
theorem wpF_holding {vs : List Value} {m : Sem α} {Q : α → Shared → Prop} (h : wpF M A m Q E s) : wpF M A (holding vs m) Q E s := fun Γ p hΓ hN => by rw [Sem.wp_holding]; exact h Γ p hΓ hN
theorem wpF_onRaise {m : Sem α} {k : Value → Sem Unit} {Q : α → Shared → Prop} (h : wpF M A m Q (fun e s' => wpF M A (k e) (fun _ s'' => E e s'') E s') s) : wpF M A (m.onRaise k) Q E s := fun Γ p hΓ hN => by
  rw [Sem.wp_onRaise]
  exact Sem.wp_mono M Γ m (fun _ _ _ h' => h') (fun e p' s' h' => h' Γ p' hΓ hN) p s (h Γ p hΓ hN)
theorem wpF_attempt {m : Sem α} {Q : Except Value α → Shared → Prop} (h : wpF M A m (fun a => Q (.ok a)) (fun e => Q (.error e)) s) : wpF M A m.attempt Q E s := fun Γ p hΓ hN => by rw [Sem.wp_attempt]; exact h Γ p hΓ hN
theorem wpF_stack {Q : List (Code × Pos) → Shared → Prop} (h : ∀ st : List (Code × Pos), (∀ x ∈ st, nf x.1) → Q st s) : wpF M A stack Q E s := fun Γ p hΓ hN => by
  show Q ((Γ.code, p) :: Γ.below) s
  refine h _ fun x hx => ?_
  rcases List.mem_cons.mp hx with rfl | hx
  · exact hN.1
  · exact hN.2 x hx
theorem wpF_runValue {c : Code} {Q : Value → Shared → Prop} (hc : codeF M A c (fun r s' => match r with | .ok (.ret v) => Q v s' | .ok _ => False | .error e => E e s') s) : wpF M A (runValue c) Q E s := fun Γ p hΓ hN => by
  rw [Sem.wp_runValue]
  refine hc _ p rfl (hΓ.enter c none p (by intro x; cases x)) fun x hx => ?_
  have hx : x ∈ (Γ.code, p) :: Γ.below := hx
  rcases List.mem_cons.mp hx with rfl | hx
  · exact hN.1
  · exact hN.2 x hx
theorem codeF_of_tree {c : Code} {R : Result → Shared → Prop} (hn : nf c)
    (h : wpF M (A.under c) (M.den c) (fun fin s' => match fin with | .done f => R (.ok f) s' | .again c' => c'.quiet = true ∧ codeF M A c' R s') (fun e s' => R (.error e) s') s) : codeF M A c R s := fun Γ p hc hΓ hN => by
  rw [wpCode_iff_wp, hc]
  refine Sem.wp_mono M Γ _ (fun fin p' s' h' => ?_) (fun _ _ _ h' => h') p s (h Γ p (hc ▸ hΓ.in) ⟨hc ▸ hn, hN⟩)
  cases fin with
  | done f => exact h'
  | again c' => exact ⟨h'.1, h'.2 (Γ.goto c') p' rfl (hΓ.goto c') hN⟩
end
theorem nf_call {f : Value} {a : Args} : nf (.call f a) := fun _ h => by cases h
theorem nf_func {b : List Stmt} {env : Env} : nf (.func b env) := fun _ h => by cases h
theorem nf_builtin {id : String} {a : Args} (h : id ≠ "lifetime.gc.finalise") : nf (.builtin id a) := fun _ q => by cases q; exact h rfl
/-! the same with a ledger -/
section
variable {α β : Type} {C : Cx} {A : Around} {l : Led} {e : Value → Led → Prop} {env : Env}
def WF {α : Type} (C : Cx) (A : Around) (l : Led) (t : Sem α) (k : α → Led → Prop) (e : Value → Led → Prop) : Prop :=
  ∀ r s, St C (l ++ r) s → wpF (model P C.w) A t (fun a s' => ∃ l', k a l' ∧ St C (l' ++ r) s') (EE C r e) s
def CWF (C : Cx) (A : Around) (l : Led) (c : Code) (R : Result → Led → Prop) : Prop :=
  ∀ r s, St C (l ++ r) s → codeF (model P C.w) A c (fun x s' => ∃ l', R x l' ∧ St C (l' ++ r) s') s
theorem WF.of {t : Sem α} {k : α → Led → Prop} (h : W C A l t k e) : WF C A l t k e := fun r s hs => .of (h r s hs)
theorem CWF.of {c : Code} {R : Result → Led → Prop} (h : CW C A l c R) : CWF C A l c R := fun r s hs => .of (h r s hs)
theorem WF.sub {l' : Led} {t : Sem α} {k} (S : Sub l' l) (h : WF C A l' t k e) : WF C A l t k e := fun r s hs => h r s (hs.sub (S.app r))
theorem CWF.sub {l' : Led} {c : Code} {R} (S : Sub l' l) (h : CWF C A l' c R) : CWF C A l c R := fun r s hs => h r s (hs.sub (S.app r))
theorem WF.step {t : Sem α} {k : α → Led → Prop} {r : Led} {s : Shared} {Q : α → Shared → Prop} (h : WF C A l t k e) (hs : St C (l ++ r) s) (hQ : ∀ a l' s', k a l' → St C (l' ++ r) s' → Q a s') : wpF (model P C.w) A t Q (EE C r e) s :=
  wpF_mono (h r s hs) (fun a s' ⟨l', x, y⟩ => hQ a l' s' x y) fun _ _ z => z
theorem WF.then {t : Sem α} {k : α → Led → Prop} {e' : Value → Led → Prop} {Q : α → Shared → Prop} {E : Value → Shared → Prop} {s : Shared} {r : Led} (h : WF C A l t k e') (hs : St C (l ++ r) s)
    (hQ : ∀ a l' s', k a l' → St C (l' ++ r) s' → Q a s') (hE : ∀ a l' s', e' a l' → St C (l' ++ r) s' → E a s') : wpF (model P C.w) A t Q E s :=
  wpF_mono (h r s hs) (fun a s' ⟨l', x, y⟩ => hQ a l' s' x y) (fun a s' ⟨l', x, y⟩ => hE a l' s' x y)
theorem WF.mono {t : Sem α} {k k' : α → Led → Prop} {e' : Value → Led → Prop} (h : WF C A l t k' e') (hk : ∀ a l', k' a l' → k a l') (he : ∀ x l', e' x l' → e x l') : WF C A l t k e :=
  fun r s hs => wpF_mono (h r s hs) (fun a s' ⟨l', x, y⟩ => ⟨l', hk a l' x, y⟩) (fun a s' ⟨l', x, y⟩ => ⟨l', he a l' x, y⟩)
theorem wf_bind {m : Sem α} {f : α → Sem β} {k : β → Led → Prop} (h : WF C A l m (fun a l' => WF C A l' (f a) k e) e) : WF C A l (m >>= f) k e := fun r _ hs => wpF_bind (h.step hs fun _ _ s' hk hs' => hk r s' hs')
theorem wf_holding {vs : List Value} {m : Sem α} {k : α → Led → Prop} (h : WF C A l m k e) : WF C A l (holding vs m) k e := fun r s hs => wpF_holding (h r s hs)
theorem wf_standAt {p : Pos} {k : Unit → Led → Prop} (h : k () l) : WF C A l (standAt p) k e := .of (w_standAt h)
theorem wf_rule {t : String} {k : Unit → Led → Prop} (h : k () l) : WF C A l (PySem.rule t) k e := .of (w_rule h)
theorem wf_pure {a : α} {k : α → Led → Prop} (h : k a l) : WF C A l (pure a) k e := .of (w_pure h)
theorem wf_point {k : Unit → Led → Prop} (h : k () l) : WF C A l PySem.point k e := .of (w_point h)
theorem wf_onRaise {m : Sem α} {f : Value → Sem Unit} {k : α → Led → Prop} (h : WF C A l m k (fun x l' => WF C A l' (f x) (fun _ l'' => e x l'') e)) : WF C A l (m.onRaise f) k e :=
  fun r _ hs => wpF_onRaise (h.then hs (fun _ l' _ hk hs' => ⟨l', hk, hs'⟩) fun x l' s' he hs' => he r s' hs')
theorem wf_attempt {m : Sem α} {k : Except Value α → Led → Prop} (h : WF C A l m (fun a => k (.ok a)) (fun x => k (.error x))) : WF C A l m.attempt k e :=
  fun _ _ hs => wpF_attempt (h.then hs (fun _ l' _ hk hs' => ⟨l', hk, hs'⟩) fun _ l' _ he hs' => ⟨l', he, hs'⟩)
theorem wf_callV {f : Value} {pos : List Value} {kw : List (Str × Value)} {k : Value → Led → Prop} (h : CWF C A l (.call f ⟨pos, kw⟩) (vK k e)) : WF C A l (PySem.call f pos kw) k e := fun r s hs =>
  wpF_runValue fun Γ p hc hΓ hN => wpCode_mono (fun x s' ⟨l', hx, hs'⟩ => by
    match x, hx with
    | .ok (.ret v), hx => exact ⟨l', hx, hs'⟩
    | .error z, hx => exact ⟨l', hx, hs'⟩) (h r s hs Γ p hc hΓ hN)
theorem cwf_tree {c : Code} {R : Result → Led → Prop} (hn : nf c)
    (h : WF C (A.under c) l ((model P C.w).den c) (fun fin l' => match fin with | .done f => R (.ok f) l' | .again c' => c'.quiet = true ∧ CWF C A l' c' R) (fun x l' => R (.error x) l')) : CWF C A l c R := fun r s hs =>
  codeF_of_tree hn (h.then hs (fun fin l' s' hk hs' => by
    cases fin with
    | done f => exact ⟨l', hk, hs'⟩
    | again c' => exact ⟨hk.1, hk.2 r s' hs'⟩) fun x l' s' hx hs' => ⟨l', hx, hs'⟩)
/-! the statements and expressions on the way to instance.__dict__ -/
theorem wf_execs_cons {st : Stmt} {rest : List Stmt} {k : Flow → Led → Prop}
    (h : WF C A l (exec st env) (fun f l' => match f with | .next => WF C A l' (execs rest env) k e | f => k f l') e) : WF C A l (execs (st :: rest) env) k e := by
  rw [execs_cons]
  refine wf_bind (h.mono (fun f l' hf => ?_) fun _ _ z => z)
  cases f with
  | next => exact hf
  | brk => exact wf_pure hf
  | cont => exact wf_pure hf
  | ret v => exact wf_pure hf
theorem wf_items_cons {pos : Pos} {x : Expr} {rest : List Expr} {k : List Value → Led → Prop}
    (h : WF C A l (eval x env) (fun v l₁ => WF C A l₁ (spliced (backTo pos (starEach rest env))) (fun vs l₂ => k (v :: vs) l₂) e) e)
    (he : starEach (x :: rest) env = (false, eval x env) :: starEach rest env := by rfl) : WF C A l (spliced (backTo pos (starEach (x :: rest) env))) k e := by
  rw [he]
  show WF C A l (do
    let v ← eval x env
    let here ← (pure [v] : Sem (List Value))
    return here ++ (← holding here (spliced (backTo pos (starEach rest env))))) k e
  exact wf_bind (h.mono (fun v l₁ h₁ => wf_bind (wf_pure (wf_bind (wf_holding (h₁.mono (fun vs l₂ h₂ => wf_pure h₂) fun _ _ z => z))))) fun _ _ z => z)
theorem wf_items_nil {pos : Pos} {k : List Value → Led → Prop} (h : k [] l) : WF C A l (spliced (backTo pos (starEach [] env))) k e := .of (w_items_nil h)
theorem wf_Tuple_ {elts : List Expr} {j : Nat} {pos : Pos} {k : Value → Led → Prop} (h : WF C A l (spliced (backTo pos (starEach elts env))) (fun vs l₁ => WF C A l₁ (newTuple vs) k e) e) : WF C A l (eval (.Tuple elts j pos) env) k e := by
  show WF C A l (do standAt pos; newTuple (← spliced (backTo pos (starEach elts env)))) k e
  exact wf_bind (wf_standAt (wf_bind h))
theorem wf_Call_Name {x : Str} {p pos : Pos} {args : List Expr} {k : Value → Led → Prop}
    (h : WF C A l (eval (.Name x p) env) (fun f l₁ => WF C A l₁ (callWith pos f [] (backTo pos (starEach args env)) []) k e) e) : WF C A l (eval (.Call (.Name x p) args [] pos) env) k e := wf_bind h
theorem wf_Assign_Swap {elts j tpos value pos} {names : List Str} {k : Flow → Led → Prop} (hw : swappedStores [.Tuple elts j tpos] value env = pure (some names))
    (h : WF C A l (eval value env) (fun v l₁ => WF C A l₁ (unpackItems v names.length none) (fun items l₂ => WF C A l₂ (assignInOrder (names.reverse.map fun n => bindName env n) items.reverse) (fun _ l₃ => k .next l₃) e) e) e)
    (hs : swapsWithSole [.Tuple elts j tpos] value pos.line env = pure false := by rfl) : WF C A l (exec (.Assign [.Tuple elts j tpos] value pos) env) k e := by
  rw [exec_Assign]
  refine wf_bind (wf_standAt ?_)
  rw [hs]
  refine wf_bind (wf_pure ?_)
  rw [if_neg (by decide)]
  refine wf_bind (h.mono (fun v l₁ h₁ => ?_) fun _ _ z => z)
  rw [hw]
  refine wf_bind (wf_pure ?_)
  show WF C A l₁ (do rule "assign.swapped-stores"; let items ← unpackItems v names.length none; assignInOrder (names.reverse.map fun n => bindName env n) items.reverse; pure .next) k e
  exact wf_bind (wf_rule (wf_bind (h₁.mono (fun items l₂ h₂ => wf_bind (h₂.mono (fun _ _ z => wf_pure z) fun _ _ z => z)) fun _ _ z => z)))
end
end Mine
end
/-! W1 -/
section
open PySem PySem.W PySem.Calls PyProof.Rows
set_option maxRecDepth 100000
set_option linter.all false
namespace Mine
/-! a law's row from a walk at the caller's own context: no collection is under way there -/
abbrev caller0 : Ctx := ⟨.builtin "claim.caller" {}, none, none, [], none⟩
theorem caller0_nf : NF caller0 := ⟨nf_builtin (by decide), fun _ h => nomatch h⟩
theorem ends_F {prog : Program} {w : World} {t : Sem PySem.Fin} {s : Shared} {R : Result → Shared → Prop} (hreg : s.asleep)
    (h : wpF (model prog w) callerA t (fun fin s' => ∃ f, fin = .done f ∧ (R (.ok f) s' ∧ leftWithCleanup s'.gens = false)) (fun e s' => R (.error e) s' ∧ leftWithCleanup s'.gens = false) s) :
    ∃ n r s' s'', runN (denote table) prog w n s ⟨t, .builtin "claim.caller" {}, default, []⟩ = .halted (outcomeOf r) s' ∧
      schedN (denote table) prog w n (.single s ⟨t, .builtin "claim.caller" {}, default, []⟩) = .halted (outcomeOf r) s' ∧ s'.forget = s''.forget ∧ R r s'' := by
  have hw : Sem.wp (model prog w) caller0 t (Sem.finPost (model prog w) caller0 fun r s' => R r s' ∧ leftWithCleanup s'.gens = false) (fun e _ s' => R (.error e) s' ∧ leftWithCleanup s'.gens = false) default s := by
    refine Sem.wp_mono _ _ _ (fun fin p' s' h' => ?_) (fun _ _ _ h' => h') default s (h caller0 default caller_in caller0_nf)
    obtain ⟨f, rfl, hf⟩ := h'
    exact hf
  obtain ⟨n, r, s₁, s₂, hs, hn, hfo, hR⟩ := wp_halts_full (M := model prog w) (R := R) hreg hw
  exact ⟨n, r, s₂, s₁, hn, hs, hfo, hR⟩
theorem callFrom_F {c : ClaimW} {tree : List Value → Sem PySem.Fin} {w : World} {s : Shared} {free : Addr → Prop} {gens : Prop} {kept : Heap → Prop} (hz : s.asleep) (hgens : s.gens = #[])
    (hspec : ∀ args, c.pre args = true → WData.layableAll args = true → ∀ ord : List DictEntry → List DictEntry, (∀ l, (ord l).Perm l) →
      ∃ vs s₁, layAllW c.records (classAt s.heap) w.params ord args s = some (vs, s₁) ∧
        wpF (model c.prog w) callerA (tree vs) (fun fin s' => ∃ f, fin = .done f ∧ (c.Ends s args vs s₁ (.ok f) s' ∧ s'.os = s.os ∧ AllBare s'.gens ∧ kept s'.heap))
          (fun e s' => c.Ends s args vs s₁ (.error e) s' ∧ s'.os = s.os ∧ AllBare s'.gens ∧ kept s'.heap) s₁) :
    c.CallFrom (fun vs => ⟨tree vs, .builtin "claim.caller" {}, default, []⟩) w free gens kept s := by
  intro args hpre hlay ord hord
  obtain ⟨vs, s₁, hlaid, hcode⟩ := hspec args hpre hlay ord hord
  have hal := layAllW_rest _ _ _ hlaid
  obtain ⟨k, r, s', s'', hrun, hsched, hfo, hcase, hos, hkp⟩ := ends_F (prog := c.prog) (w := w) (t := tree vs) (s := s₁)
    (R := fun r s' => c.Ends s args vs s₁ r s' ∧ s'.os = s.os ∧ kept s'.heap) (Shared.asleep_of_life hal.2.2.2 hz)
    (wpF_mono hcode (fun fin s' ⟨f, e, h1, h2, h3, h4⟩ => ⟨f, e, ⟨h1, h2, h4⟩, leftWithCleanup_false_of_bare h3⟩) fun e s' ⟨h1, h2, h3, h4⟩ => ⟨⟨h1, h2, h4⟩, leftWithCleanup_false_of_bare h3⟩)
  obtain ⟨eh, _, _, eo, _⟩ := Shared.forget_eq hfo
  have hcase := hcase.congr eh
  rw [← eh] at hkp
  rw [← eo] at hos
  have hlife : s'.heap.life = s.heap.life := (runN_life _ _ _ hrun).trans hal.2.2.2
  refine ⟨vs, s₁, hlaid, k, _, s', hsched, ?_, (fun _ i x hx => by rw [hgens] at hx; simp at hx), hkp, by rw [hlife], Shared.rest_eq hos⟩
  rcases hcase with ⟨v, rfl, d1, d2, d3, d4, d5⟩ | ⟨e, ob, cls, rfl, d1, d2, d3, d4, d5⟩
  · exact .inl ⟨v, rfl, d1, d2, d3, fun b o y _ => d4 b o y, d5⟩
  · exact .inr ⟨e, ob, cls, rfl, d1, d2, d3, d4, fun b o y _ => d5 b o y⟩
abbrev WalkF (q : Program) (loose : List Str) (XP : (Str → Option Value) → Heap → Prop) (YP : World → Heap → Prop) (r : RowW) (d : DefRec) (kwd : List (Str × Expr)) : Prop :=
  ∀ (w : World) (s₀ s₁ : Shared) (mg mb : Str → Option Value), Ground q loose r.records XP w s₀ mg mb s₁.heap → YP w s₁.heap → ∀ (a : Addr) (o : Obj) (pm cd doc dV kV : Value), s₁.heap.get? a = some o →
    o.data = .func { docDef d.name d.params d.body d.scope pm cd doc with defaults := dV, kwdefaults := kV } → s₁.heap.CodeRec cd d.name → Dflts mg s₁.heap d.params kwd dV kV → mg d.name = some (.ref a) → s₁.gens = #[] →
    ∀ (args : List WData) (vals : List Value) (as : List Addr), r.claim.pre args = true → WData.layableAll args = true → ReadsAllW r.records (classAt s₀.heap) s₁.heap vals args as → WellAll w.params s₁.heap vals args → (∀ a ∈ as, (a == sysModules) = false) →
      wpF (model r.prog w) callerA (PySem.call (.ref a) vals) (fun v s' => GoodWG r.claim (classAt s₀.heap) (ExcName.means s₀.heap) args s₁ (.ok (.ret v)) s')
        (fun e s' => GoodWG r.claim (classAt s₀.heap) (ExcName.means s₀.heap) args s₁ (.error e) s') s₁
theorem holds_F {r : OpenRow} {q : Program} {loose : List Str} {Xt : Shared → Bool} {XP : (Str → Option Value) → Heap → Prop} {α : Type} {Yf : Shared → α} {Ya : World → α} {YP : World → Heap → Prop} {d : DefRec} {kwd : List (Str × Expr)} {N : Nat}
    (left : LeftO r.prog q loose Xt Yf Ya N) (hY : ∀ w s, Yf s = Ya w → YP w s.heap) (hYk : ∀ w h h', YP w h → (∀ b o, h.get? b = some o → h'.get? b = some o) → YP w h')
    (hX : ∀ s, Xt s = true → XP (s.heap.nsMap mainGlobals) s.heap) (hXk : ∀ mg h h', XP mg h → (∀ b o, h.get? b = some o → h'.get? b = some o) → XP mg h')
    (hdef : defOf q r.name = some (d, kwd)) (hp : r.prog.theDef r.name = some (d.params, d.body, d.scope)) (hk : kwWritten? d.params.kwonlyargs d.params.kw_defaults = some kwd) (hRf : ∀ s, Xt s = true → RecFacts r.records s.heap) (hwr : (!r.writes || r.records.isEmpty) = true)
    (k1 : r.wellSaid = true) (ok : (chainsOk q && opensWell r.prog && (frees r.toRowW && r.within.isEmpty)) = true) (hb : r.prog.bare) (hw : r.toRowW.promised)
    (call : WalkF q loose XP YP r.toRowW d kwd) : r.Holds := by
  refine ⟨k1, hw, ?_⟩
  obtain ⟨ok, k5⟩ := Bool.and_eq_true_iff.mp ok
  obtain ⟨hch, o1⟩ := Bool.and_eq_true_iff.mp ok
  obtain ⟨k5, k6⟩ := Bool.and_eq_true_iff.mp k5
  obtain ⟨hsame, hu, ha, hap, hm⟩ := frees_parts k5
  refine ⟨⟨hb, o1, by show r.makers.map _ = []; rw [hm]; rfl⟩, hw.witness, fun w => ⟨(left.behind hX hch w).1, fun s' hs' => ?_⟩⟩
  obtain ⟨s₀, hf, hg0, s, hT, hz, hgens, hg, G00, y⟩ := (left.behind (XP := fun mg h => XP mg h ∧ RecFacts r.records h) (fun s hs => ⟨hX s hs, hRf s hs⟩) hch w).2 s' hs'
  have G0 : Ground q loose [] XP w s (s.heap.nsMap mainGlobals) (s.heap.nsMap builtinsNs) s.heap := ⟨G00.T, G00.B, G00.D, G00.TE, G00.TD, G00.W, G00.X.1, G00.cls, G00.has, G00.apart, G00.once, G00.K⟩
  have RF := G00.X.2
  have pin : ∀ n ∈ (if r.pinned then [r.name] else []), isTheDefsW r.prog s.heap n := fun n hn => by
    obtain rfl : n = r.name := by split at hn <;> simp_all
    exact pinned_of_view hg G0 hdef hp hk
  refine ⟨s₀, hf, hg0, s, hT, pin, RF.1, RF.2.1, ?_⟩
  have hgens : s.gens = #[] := Array.eq_empty_of_size_eq_zero (beq_iff_eq.mp hgens)
  have G : Ground q loose r.records XP w s _ _ s.heap := RF.ground G0
  refine callFrom_F (c := r.claim) (tree := fun vs => do match ← nsGet mainNs r.name with
      | some f => do ret (← PySem.call f vs)
      | none => unsupported "claim.caller:no-such-global") hz hgens fun args hpre hlay ord hord => ?_
  obtain ⟨⟨vs, s₁⟩, hlaid⟩ := Option.isSome_iff_exists.mp (layAllW_isSome (P := w.params) (ord := ord) G.has args r.args s (pre_splitW hpre).1)
  have keeps := layAllW_keeps _ _ _ hlaid
  have hal := layAllW_rest _ _ _ hlaid
  obtain ⟨as, hrd, hin, hold⟩ := reads_layAllW hord _ _ _ hlaid hlay s₁.heap (fun _ _ e => e)
  have L : Laid r.records w s s₁ args vs as := ⟨⟨ord, hord, hlaid⟩, hrd, hin, hold, keeps, hal.1.trans hgens, hal.2.2.1⟩
  have G₁ := G.keeps hXk keeps
  obtain ⟨a, o, pm, cd, doc, dV, kV, h1, h2, h3, h4, h5⟩ := G₁.fn hdef
  have h := call w s s₁ _ _ G₁ (hYk _ _ _ (hY w s y) keeps) a o pm cd doc dV kV h2 h3 h4 h5 (defOf_name hdef ▸ h1) L.gens args vs as hpre hlay L.reads L.well (L.low G.low)
  have hi := ident_freeW hu ha hap
  have hwi : r.claim.within = [] := List.isEmpty_iff.mp k6
  have post : ∀ x s', GoodWG r.claim (classAt s.heap) (ExcName.means s.heap) args s₁ x s' → r.claim.Ends s args vs s₁ x s' ∧ s'.os = s.os ∧ AllBare s'.gens ∧ (r.writes = true → namesKept r.prog r.keeps s.heap s'.heap ∧ ∀ x ∈ r.records, ∀ a, classAt s.heap x.1 = some a → recordClass s'.heap a x.1 (x.2.map (·.1)) = true) := fun x s' g =>
    have z := g.laid (c := r.claim) hsame hwi hi L; ⟨z.1, z.2.1, z.2.2, fun q => ⟨namesKept_of hT hg r.keeps keeps g.2.1.old, noTable hwr q⟩⟩
  refine ⟨vs, s₁, hlaid, wpF_bind (.of (wpAny_nsGet G₁.T.g ?_))⟩
  rw [h1]
  exact fun Γ p hΓ hN => (wpF_bind (wpF_mono h (fun v s' g => .of (wpAny_pure ⟨_, rfl, post _ _ g⟩)) fun e s' g => post _ _ g)) Γ p hΓ hN
end Mine
end
/-! A1 -/
section
open PySem PySem.W PySem.Calls PyProof.Rows
set_option maxRecDepth 100000
set_option linter.all false
namespace Mine
/-- the addresses of the written part -/
noncomputable def asK : List Addr := [2, 3, 43, 45, 46, 48, 49, 57, 58, 60, 61, 63, 64, 65, 67, 68, 70, 71, 72, 74, 75, 77, 78, 79, 81, 82, 84, 85, 86, 88, 89, 91, 92, 93, 94, 96, 97, 99, 100, 101, 103, 104, 105, 115, 116, 118, 119, 121, 122, 123, 124, 126, 127, 129, 130, 131, 133, 134, 136, 137, 138, 140, 141, 143, 144, 145, 147, 148, 150, 151, 152, 153, 154, 155, 156, 159, 166, 168, 169, 171, 172, 173, 175, 176, 178, 179, 180, 181, 182, 192, 194, 195, 197, 198, 199, 201, 202, 204, 205, 206, 208, 209, 211, 212, 213, 215, 216, 218, 219, 220, 222, 223, 225, 226, 227, 229, 230, 232, 233, 234, 235, 236, 238, 239, 241, 242, 243, 244, 245, 246, 247, 250, 257, 259, 260, 262, 263, 264, 266, 267, 269, 270, 271, 273, 274, 276, 277, 278, 279, 280, 283, 290, 291, 292, 293, 296, 303, 304, 305, 308, 316, 318, 319, 321, 322, 323, 325, 326, 328, 329, 330, 331, 333, 334, 336, 337, 338, 340, 341, 343, 344, 345, 346, 347, 348, 349, 350, 360, 362, 363, 365, 366, 367, 369, 370, 372, 373, 374, 376, 377, 379, 380, 381, 383, 384, 386, 387, 388, 390, 391, 393, 394, 395, 397, 398, 400, 401, 402, 403, 405, 406, 408, 409, 410, 412, 413, 415, 416, 417, 418, 420, 422, 423, 425, 426, 427, 429, 430, 432, 433, 434, 436, 437, 439, 440, 441, 443, 444, 446, 447, 448, 450, 451, 453, 454, 455, 457, 458, 460, 461, 462, 464, 465, 467, 468, 469, 471, 472, 474, 475, 476, 478, 479, 481, 482, 483, 484, 486, 488, 489, 491, 492, 493, 495, 496, 498, 499, 500, 502, 503, 505, 506, 507, 509, 510, 512, 513, 514, 516, 517, 519, 520, 521, 523, 524, 526, 527, 528, 530, 531, 533, 534, 535, 537, 538, 540, 541, 542, 544, 545, 547, 548, 549, 551, 552, 554, 555, 556, 557, 559, 560, 562, 563, 565, 566, 567, 569, 570, 572, 573, 574, 576, 577, 579, 580, 581, 582, 584, 586, 587, 589, 590, 591, 593, 594, 596, 597, 598, 600, 601, 603, 604, 605, 607, 608, 610, 611, 612, 614, 615, 617, 618, 619, 620, 622, 623, 625, 626, 627, 628, 630, 631, 633, 634, 635, 636, 638, 639, 641, 642, 643, 644, 645, 646, 647, 654, 661, 662, 664, 665, 667, 668, 669, 671, 672, 674, 675, 676, 677, 679, 681, 682, 684, 685, 686, 687, 689, 691, 692, 694, 695, 696, 697, 699, 701, 702, 704, 705, 706, 708, 709, 711, 712, 713, 715, 716, 718, 719, 720, 722, 723, 725, 726, 727, 729, 730, 732, 733, 734, 736, 737, 739, 740, 741, 743, 744, 746, 747, 748, 750, 751, 753, 754, 755, 757, 758, 760, 761, 762, 764, 765, 767, 768, 769, 771, 772, 774, 775, 776, 778, 779, 781, 782, 783, 785, 786, 788, 789, 790, 791, 793, 795, 796, 798, 799, 800, 801, 803, 805, 806, 808, 809, 810, 811, 813, 815, 816, 818, 819, 820, 821, 823, 825, 826, 828, 829, 830, 832, 833, 835, 836, 837, 839, 840, 842, 843, 844, 846, 847, 849, 850, 851, 853, 854, 856, 857, 858, 859, 860, 870, 872, 873, 875, 876, 877, 879, 880, 882, 883, 884, 886, 887, 889, 890, 891, 893, 894, 896, 897, 898, 901, 902, 903, 906, 907, 908, 911, 912]
theorem asK_eq : ∀ p : Params, asK = (KK p).map (·.1) := fun _ => by kernel_rfl
/-- the objects at growing places of a list, read in one walk -/
def picks : Nat → List Obj → List Addr → Option (List Obj)
  | _, _, [] => some []
  | _, [], _ :: _ => none
  | i, o :: L, a :: as => match Nat.beq i a with
    | true => (match o.alive with
      | true => (picks (i + 1) L as).map fun r => o :: r
      | false => none)
    | false => picks (i + 1) L (a :: as)
theorem picks_at : ∀ (L : List Obj) (i : Nat) (as : List Addr) (os : List Obj), picks i L as = some os → (∀ a ∈ as, i ≤ a) ∧ as.map (fun a => L[a - i]?) = os.map some ∧ ∀ o ∈ os, o.alive = true
  | L, i, [], os, h => by
    have e : os = [] := by cases L <;> simpa [picks] using h.symm
    subst e
    exact ⟨fun _ h => (nomatch h), rfl, fun _ h => (nomatch h)⟩
  | [], i, a :: as, os, h => by simp [picks] at h
  | o :: L, i, a :: as, os, h => by
    have tail : ∀ b, i + 1 ≤ b → (o :: L)[b - i]? = L[b - (i + 1)]? := fun b hb => by
      have e : b - i = (b - (i + 1)) + 1 := by omega
      rw [e, List.getElem?_cons_succ]
    unfold picks at h
    split at h
    · rename_i q
      have q := Nat.eq_of_beq_eq_true q
      subst q
      split at h
      · rename_i hal
        obtain ⟨r, hr, rfl⟩ := Option.map_eq_some_iff.mp h
        obtain ⟨h1, h2, h3⟩ := picks_at L (i + 1) as r hr
        refine ⟨fun b hb => ?_, ?_, fun x hx => ?_⟩
        · rcases List.mem_cons.mp hb with rfl | hb
          · exact Nat.le_refl _
          · have := h1 b hb; omega
        · rw [List.map_cons, List.map_cons, ← h2]
          congr 1
          · simp
          · exact List.map_congr_left fun b hb => tail b (h1 b hb)
        · rcases List.mem_cons.mp hx with rfl | hx
          · exact hal
          · exact h3 x hx
      · cases h
    · obtain ⟨h1, h2, h3⟩ := picks_at L (i + 1) (a :: as) os h
      refine ⟨fun b hb => by have := h1 b hb; omega, ?_, h3⟩
      rw [← h2]
      exact List.map_congr_left fun b hb => tail b (h1 b hb)
theorem gets_of {h : Heap} {as : List Addr} {os : List Obj} (e : picks 0 h.objs.toList as = some os) : as.map h.get? = os.map some := by
  obtain ⟨-, h2, h3⟩ := picks_at _ 0 as os e
  have hl : as.length = os.length := by have := congrArg List.length h2; simpa using this
  apply List.ext_getElem (by simp [hl])
  intro k k1 k2
  have k1' : k < as.length := by simpa using k1
  have k2' : k < os.length := by simpa using k2
  rw [List.getElem_map, List.getElem_map]
  refine (Heap.get?_eq_some _ _ _).mpr ⟨?_, h3 _ (List.getElem_mem k2')⟩
  have e1 : (as.map fun a => h.objs.toList[a - 0]?)[k]? = (os.map some)[k]? := by rw [h2]
  rw [List.getElem?_map, List.getElem?_map, List.getElem?_eq_getElem k1', List.getElem?_eq_getElem k2', Option.map_some, Option.map_some, Nat.sub_zero] at e1
  rw [← Array.getElem?_toList]
  exact Option.some.inj e1
theorem asK_at (p : Params) : asK.map (top.heap_1_1541 p).get? = (KK p).map fun q => some q.2 := by
  have e : ∀ p : Params, picks 0 (top.heap_1_1541 p).objs.toList asK = some ((KK p).map (·.2)) := fun _ => by kernel_rfl
  rw [gets_of (e p), List.map_map]
  rfl
theorem tabs_at (p : Params) : ((top.heap_1_1541 p).get? 899, (top.heap_1_1541 p).get? 207) = (some (tabObj #[]), some (tabObj #[])) := by
  have e : ∀ p : Params, picks 0 (top.heap_1_1541 p).objs.toList [207, 899] = some [tabObj #[], tabObj #[]] := fun _ => by kernel_rfl
  have h := gets_of (e p)
  have h1 : (top.heap_1_1541 p).get? 207 = some (tabObj #[]) := (List.cons.inj h).1
  have h2 : (top.heap_1_1541 p).get? 899 = some (tabObj #[]) := (List.cons.inj (List.cons.inj h).2).1
  rw [h1, h2]
noncomputable abbrev lawR : OpenRow := PySem.Challenge.rw_fq0028_01.row
noncomputable abbrev looseK : List Str := [Str.ofString "NodeView", Str.ofString "OutEdgeView", Str.ofString "_NOT_FOUND", Str.ofString "cached_property", Str.ofString "Graph", Str.ofString "DiGraph"]
noncomputable abbrev XtK : Shared → Bool := fun s => xlAt top.view_1_1 [] s && recOk (RowW.records lawR.toRowW) s
noncomputable abbrev obsK (s : Shared) : List (Option Obj) × Option Obj × Option Obj := (asK.map s.heap.get?, s.heap.get? 899, s.heap.get? 207)
noncomputable abbrev valK (w : World) : List (Option Obj) × Option Obj × Option Obj := ((KK w.params).map fun q => some q.2, some (tabObj #[]), some (tabObj #[]))
theorem left_top : LeftO lawR.toRowW.prog top.view_1_1 looseK XtK obsK valK 17118 := by
  refine LeftO.of_pieces (open_cut (He := fun p => absHeap (top.tree_1_1683 p) 39 {}) (ge := #[]) (de := {}) (ke := 320) top._proof_1_1689 ?le1 top._proof_1_1691) top._proof_1_1693 top._proof_1_1544 ?le2 fun w => funext fun os => ?looks
  case le1 => decide
  case le2 => decide
  case looks =>
    have h := top._proof_1_1725 w os
    have h2 := tabs_at w.params
    exact Prod.ext (congrArg (fun x => x.1) h) (Prod.ext (congrArg (fun x => x.2.1) h) (Prod.ext (asK_at w.params) h2))
end Mine
end
/-! C2 -/
section
open PySem PySem.W PySem.Calls PyProof.Rows
set_option maxRecDepth 100000
set_option linter.all false
namespace Mine
section
variable {α β : Type} {C : Cx} {A : Around} {l : Led} {e : Value → Led → Prop} {env : Env}
theorem gives_seq {a : Addr} {vs : List Value} (hh : A.handled = none) (hm : (a, seqP "list" vs) ∈ l) : Gives C A l (fun l₂ => (a, seqP "list" vs) ∈ l₂) (.ref a) vs.length (fun i v => vs[i]? = some v) := fun r s Q E hs h => by
  refine wpAny_pyIter_list (hs.isList hm) ?_
  refine h s.heap.objs.size (listIterP a) _ ⟨hs.hp.new (fun _ _ x => Heap.get?_push_of_some _ x) (get_size _) (Heap.get?_push_size _ rfl) ⟨rfl, rfl⟩, hs.bare, hs.os⟩ ?_ ?_ ?_
  · intro i l₂ r' s₂ Q E hi hI₂ hs₂ hQ
    obtain ⟨⟨o, ho, hc, hd⟩, _⟩ := hs₂.hp.own (s.heap.objs.size, listIterP a i) (List.mem_append_right _ (.head _))
    have hx : vs.toArray[i]? = some (vs[i]'hi) := by simp [hi]
    exact wpAny_pyNext_list_item ⟨o, ho, hc, hd⟩ (hs₂.isList hI₂) hx fun h' hit hb => hQ _ h' s₂.toks (by simp [hi]) hb (let ⟨o', ho', hc', hd'⟩ := hit; ⟨o', ho', hc', hd'⟩)
  · intro l₂ r' s₂ Q E hI₂ hs₂ hQ
    obtain ⟨⟨o, ho, hc, hd⟩, _⟩ := hs₂.hp.own (s.heap.objs.size, listIterP a vs.length) (List.mem_append_right _ (.head _))
    exact wpAny_pyNext_list_end hh ⟨o, ho, hc, hd⟩ (hs₂.isList hI₂) (by simp) fun h' hx => hQ h' s₂.toks hx
  · intro l₂ r' s₂ Q E hs₂ hQ
    obtain ⟨⟨o, ho, hc, hd⟩, _⟩ := hs₂.hp.own (s.heap.objs.size, listIterP a 0) (List.mem_append_right _ (.head _))
    exact wpAny_pyIter_listiter ⟨o, ho, hc, hd⟩ hQ
theorem gives_ints {a : Addr} {ns : List Int} (hh : A.handled = none) (hm : Ints C l a ns) : Gives C A l (fun l₂ => Ints C l₂ a ns) (.ref a) ns.length (fun i v => ∃ n t, ns[i]? = some n ∧ v = .int n t) := fun r s Q E hs h => by
  obtain ⟨vs, hi, hl⟩ := hm _ _ hs
  refine wpAny_pyIter_list hl ?_
  refine h s.heap.objs.size (listIterP a) _ ⟨hs.hp.new (fun _ _ x => Heap.get?_push_of_some _ x) (get_size _) (Heap.get?_push_size _ rfl) ⟨rfl, rfl⟩, hs.bare, hs.os⟩ ?_ ?_ ?_
  · intro i l₂ r' s₂ Q E hi' hI₂ hs₂ hQ
    obtain ⟨⟨o, ho, hc, hd⟩, _⟩ := hs₂.hp.own (s.heap.objs.size, listIterP a i) (List.mem_append_right _ (.head _))
    obtain ⟨vs', hi', hl'⟩ := hI₂ _ _ hs₂
    obtain ⟨t, ht'⟩ := IntsAre.get' hi' i (n := ns[i]) (by simp)
    exact wpAny_pyNext_list_item ⟨o, ho, hc, hd⟩ hl' (x := .int ns[i] t) (by simpa using ht') fun h' hit hb => hQ _ h' s₂.toks ⟨_, _, by simp, rfl⟩ hb (let ⟨o', ho', hc', hd'⟩ := hit; ⟨o', ho', hc', hd'⟩)
  · intro l₂ r' s₂ Q E hI₂ hs₂ hQ
    obtain ⟨⟨o, ho, hc, hd⟩, _⟩ := hs₂.hp.own (s.heap.objs.size, listIterP a ns.length) (List.mem_append_right _ (.head _))
    obtain ⟨vs', hi', hl'⟩ := hI₂ _ _ hs₂
    exact wpAny_pyNext_list_end hh ⟨o, ho, hc, hd⟩ hl' (by have := hi'.length; simp; omega) fun h' hx => hQ h' s₂.toks hx
  · intro l₂ r' s₂ Q E hs₂ hQ
    obtain ⟨⟨o, ho, hc, hd⟩, _⟩ := hs₂.hp.own (s.heap.objs.size, listIterP a 0) (List.mem_append_right _ (.head _))
    exact wpAny_pyIter_listiter ⟨o, ho, hc, hd⟩ hQ
theorem rng_small {lo hi : Int} (hlo : -1000000 < lo) (hhi : hi < 1000000) (hlh : lo ≤ hi) : Builtin.Range.rangeSize lo hi 1 = ((hi - lo).toNat : Int) ∧ Builtin.Range.small lo hi 1 = true := by
  have hsz : Builtin.Range.rangeSize lo hi 1 = ((hi - lo).toNat : Int) := by
    unfold Builtin.Range.rangeSize
    by_cases q : lo < hi
    · simp [q]; omega
    · simp [q]; omega
  have fl : ∀ x : Int, -2000000 < x → x < 2000000 → Builtin.Range.rangeFitsLong x = true := by
    intro x h1 h2
    unfold Builtin.Range.rangeFitsLong
    simp; omega
  refine ⟨hsz, ?_⟩
  unfold Builtin.Range.small
  rw [hsz, fl lo (by omega) (by omega), fl hi (by omega) (by omega), fl 1 (by omega) (by omega), fl _ (by omega) (by omega)]
  simp [fl hi (by omega) (by omega)]
def rngIterP (lo hi : Int) (i : Nat) (o : Obj) : Prop := o = { cls := .type "range_iterator", dict := none, data := .fields #[rawInt (lo + i), rawInt ((hi - lo).toNat - i), rawInt 1], slots := #[] }
theorem gives_rng {a : Addr} {lo hi : Int} (hh : A.handled = none) (hm : (a, rngP lo hi) ∈ l) (hlo : -1000000 < lo) (hhi : hi < 1000000) (hlh : lo ≤ hi) : Gives C A l (fun _ => True) (.ref a) (hi - lo).toNat (fun i v => ∃ t, v = .int (lo + i) t) := fun r s Q E hs h => by
  obtain ⟨hsz, hsm⟩ := rng_small hlo hhi hlh
  obtain ⟨o, ho, t, u, w, rfl⟩ := hs.get hm
  refine wpAny_pyIter_range ho hsm ?_
  refine h s.heap.objs.size (rngIterP lo hi) _ ⟨hs.hp.new (fun _ _ x => Heap.get?_push_of_some _ x) (get_size _) (Heap.get?_push_size _ rfl) (by rw [rngIterP, hsz]; simp), hs.bare, hs.os⟩ ?_ ?_ ?_
  · intro i l₂ r' s₂ Q E hi' hI₂ hs₂ hQ
    obtain ⟨⟨o, ho, rfl⟩, _⟩ := hs₂.hp.own (s.heap.objs.size, _) (List.mem_append_right _ (.head _))
    exact wpAny_pyNext_range_item ho (by omega) fun h' hit hb => hQ _ h' _ ⟨_, rfl⟩ hb ⟨_, hit, by
      have e1 : lo + (i : Int) + 1 = lo + ((i + 1 : Nat) : Int) := by omega
      have e2 : ((hi - lo).toNat : Int) - (i : Int) - 1 = ((hi - lo).toNat : Int) - ((i + 1 : Nat) : Int) := by omega
      rw [rngIterP, e1, e2]⟩
  · intro l₂ r' s₂ Q E hI₂ hs₂ hQ
    obtain ⟨⟨o, ho, rfl⟩, _⟩ := hs₂.hp.own (s.heap.objs.size, _) (List.mem_append_right _ (.head _))
    exact wpAny_pyNext_range_end hh ho (by omega) fun h' hx => hQ h' s₂.toks hx
  · intro l₂ r' s₂ Q E hs₂ hQ
    obtain ⟨⟨o, ho, rfl⟩, _⟩ := hs₂.hp.own (s.heap.objs.size, _) (List.mem_append_right _ (.head _))
    exact wpAny_pyIter_rangeiter ho hQ
end
end Mine
end
/-! L1 -/
section
open PySem PySem.W PySem.Calls PyProof.Rows
set_option maxRecDepth 100000
set_option linter.all false
namespace Mine
/-! lambdas -/
def codeP (qual : Str) (o : Obj) : Prop := ∃ vs t, o.data = .fields vs ∧ vs[1]? = some (.str qual t)
/-- a code's table with at most one entry -/
def TabL (P : Addr) (pos : Pos) (qual : Str) : Option Addr → Led
  | none => [(P, (· = tabObj #[]))]
  | some c => [(P, (· = tabObj #[rawInt pos.line, rawInt pos.col, .ref c])), (c, codeP qual)]
def lamP (name qual : Str) (params : Arguments) (body : Expr) (scope : Scope) (clos : List (Str × Addr)) (c' : Addr) (o : Obj) : Prop := ∃ pm ctv, o = kla_obj name qual params body scope clos pm c' ctv
section
variable {α β : Type} {C : Cx} {A : Around} {l : Led} {e : Value → Led → Prop} {env : Env}
theorem Ok.bt (S : Ok C) {h : Heap} {P : Addr} {vs : Array Value} (hb : ∀ b o, C.B.get? b = some o → h.get? b = some o) (hP : h.get? P = some (tabObj vs)) : ∃ mg, h.Ns mainGlobals mg ∧ h.BuiltinsAt mg P ∧ mainGlobals ≠ P := by
  obtain ⟨mg, mb, bm, ob, T, b1, b2, b3, b4, b5, b6⟩ := S.bm
  have hg := T.g.keeps hb
  have hgP : mainGlobals ≠ P := by
    obtain ⟨o, es, ep, e, hd, _⟩ := hg
    rintro rfl
    rw [hP] at e; cases e; cases hd
  refine ⟨mg, hg, ⟨bm, ob, b1, b2, ?_, ?_, hb _ _ b3, b4, b5, b6⟩, hgP⟩
  · rintro rfl
    obtain ⟨o, es, ep, e, hd, _⟩ := T.g
    rw [e] at b3; cases b3; rw [hd] at b6; cases b6
  · rintro rfl
    have := hb _ _ b3
    rw [hP] at this; cases this; cases b4
theorem Hp.ext {B h h' : Heap} {P : Addr} {p p' : Obj → Prop} {r : Led} (H : Hp B h ((P, p) :: r)) (x : Heap.ExtBut P h h') (hn : ∃ o, h'.get? P = some o ∧ p' o) : Hp B h' ((P, p') :: r) := by
  have h0 := Hp.extBut (l := []) H x
  refine ⟨h0.base, fun q hq => ?_, ?_, H.gm⟩
  · rcases List.mem_cons.mp hq with rfl | hq
    · exact ⟨hn, (H.own (P, p) (.head _)).2⟩
    · exact h0.own q hq
  · have := H.nd; exact this
theorem w_Lambda (S : Ok C) {f : Ent} {q : Str} {c P : Addr} {params : Arguments} {body : Expr} {scope : Scope} {pos : Pos} {clos : List (Str × Addr)} {k : Value → Led → Prop} (t : Option Addr) (hq : env.qual ++ "<lambda>" = q) (hcl : closureFor scope env = pure clos)
    (hge0 : env.globals = mainGlobals) (hcode : env.code = .ref c)
    (hch : ∀ h : Heap, (∀ b o, C.B.get? b = some o → h.get? b = some o) → CodeHd h c P)
    (h : ∀ c' fa, k (.ref fa) (f :: (fa, lamP "<lambda>" q params body scope clos c') :: (TabL P pos q (some c') ++ l)))
    (hdef : defaultsOf params env = ([], []) := by rfl) : W C A (f :: (TabL P pos q t ++ l)) (eval (.Lambda params body scope pos) env) k e := fun r s hs => by
  subst hq
  refine kla_eval hdef ?_
  cases t with
  | none =>
    obtain ⟨o, ho, rfl⟩ := hs.get (a := P) (.tail _ (.head _))
    obtain ⟨mg, hg, hb', hgP⟩ := S.bt hs.hp.base ho
    refine kla_makeFunction hcl hge0 hg hcode (hch _ hs.hp.base) ho trivial rfl hgP hb' fun c' ctv h' tk hx hge hlt hrec htb => ?_
    obtain ⟨c₂, oc, vs, tt, e2, hoc, hd, hv⟩ := hrec
    cases e2
    refine ⟨_, h c' h'.objs.size, ?_⟩
    have h1 : Hp C.B s.heap ((P, (· = tabObj #[])) :: f :: (l ++ r)) := hs.hp.swap
    have h2 := Hp.ext (p' := (· = tabObj #[rawInt pos.line, rawInt pos.col, .ref c'])) h1 hx ⟨_, htb, rfl⟩
    have hcn : c' ∉ ((P, (· = tabObj #[rawInt pos.line, rawInt pos.col, .ref c'])) :: f :: (l ++ r)).map (·.1) := fun hm => by
      obtain ⟨q, hq, e3⟩ := List.mem_map.mp hm
      have : q.1 ∈ ((P, (· = tabObj #[])) :: f :: (l ++ r)).map (·.1) := by
        rcases List.mem_cons.mp hq with rfl | hq
        · exact .head _
        · exact .tail _ (List.mem_map_of_mem hq)
      obtain ⟨q', hq', e4⟩ := List.mem_map.mp this
      obtain ⟨⟨o', ho', _⟩, _⟩ := h1.own q' hq'
      rw [e4, e3] at ho'
      exact absurd (Heap.lt_size ho') (Nat.not_lt.mpr hge)
    have h3 : Hp C.B h' ((c', codeP (env.qual ++ "<lambda>")) :: (P, (· = tabObj #[rawInt pos.line, rawInt pos.col, .ref c'])) :: f :: (l ++ r)) := by
      refine ⟨h2.base, fun q hq => ?_, List.nodup_cons.mpr ⟨hcn, h2.nd⟩, h2.gm⟩
      rcases List.mem_cons.mp hq with rfl | hq
      · refine ⟨⟨oc, hoc, vs, tt, hd, hv⟩, ?_⟩
        cases e5 : C.B.get? c' with
        | none => rfl
        | some o' => exact absurd (Heap.lt_size (hs.hp.base _ _ e5)) (Nat.not_lt.mpr hge)
      · exact h2.own q hq
    have h4 := h3.new (h' := h'.push (kla_obj "<lambda>" (env.qual ++ "<lambda>") params body scope clos ((mg "__name__").getD .none) c' ctv)) (fun _ _ x => Heap.get?_push_of_some _ x) (get_size _) (Heap.get?_push_size _ rfl) (Pr := lamP "<lambda>" (env.qual ++ "<lambda>") params body scope clos c') ⟨_, _, rfl⟩
    exact ⟨h4.sub (.pick1 (.tail (.tail (.tail .head))) (.pick1 .head (.pick1 (.tail .head) (.pick1 .head .refl)))), hs.bare, hs.os⟩
  | some c' =>
    obtain ⟨o, ho, rfl⟩ := hs.get (a := P) (.tail _ (.head _))
    obtain ⟨mg, hg, hb', hgP⟩ := S.bt hs.hp.base ho
    refine kla_makeFunctionHit hcl hge0 hg hcode (hch _ hs.hp.base) ho trivial (cv := .ref c') (by simp [codeAmong, rawInt]) hb' fun ctv h' tk hk hsz => ?_
    exact ⟨_, h c' h'.objs.size, hs.put (fun b o e => Heap.get?_push_of_some _ (hk b o e)) (Heap.get?_none_of_le hsz) (Heap.get?_push_size _ rfl) ⟨_, _, rfl⟩ _⟩
theorem w_NameF {x : Str} {pos : Pos} {c : Addr} {v : Value} {k : Value → Led → Prop} (hc : env.cells.lookup x = some c) (hm : (c, cellP (some v)) ∈ l) (h : k v l)
    (hk : env.scope.kind = .function := by rfl) (hl : env.kindOf x = some .free := by rfl) (hn : (x == ("__classdict__" : Str)) = false := by decide) (hd : (x == ("__debug__" : Str)) = false := by decide) : W C A l (eval (.Name x pos) env) k e := fun r s hs => by
  obtain ⟨o, ho, hP⟩ := hs.get hm
  exact wpAny_Name (wpAny_loadName_free hk hl hc ⟨o, ho, hP⟩ ⟨l, h, hs⟩ hn) hd
/-- a lambda called -/
theorem cw_lambda (hlim : C.B.NoLimit) {R : Result → Led → Prop} {name qual : Str} {params : Arguments} {body : Expr} {scope : Scope} {clos : List (Str × Addr)} {c' fa : Addr} {args : Args} {binds : List (Str × Value)}
    (hroom : A.depth < recursionLimit) (hm : (fa, lamP name qual params body scope clos c') ∈ l) (hmc : (c', codeP qual) ∈ l)
    (hbind : ∀ pm ctv, bindArgs (kla_fn name qual params body scope clos pm (.ref c') ctv) args = pure binds) (hloc : ∀ y ∈ binds, scope.names.lookup y.1 = some .local)
    (h : ∀ L, W C (A.deeper (envX qual scope L fa (.ref c') clos)) ((L, nsP binds.reverse) :: l) (eval body (envX qual scope L fa (.ref c') clos)) (fun v l' => ∃ l₁, Sub l₁ l' ∧ R (.ok (.ret v)) l₁) noE)
    (hco : scope.isCoroutine = false := by rfl) (hgen : scope.isGenerator = false := by rfl) (hk : scope.kind = .function := by rfl) (hcell : ∀ x ∈ scope.names, x.2 ≠ .cell := by decide) : CW C A l (.call (.ref fa) args) R := fun r s hs => by
  obtain ⟨o, ho, pm, ctv, rfl⟩ := hs.get hm
  obtain ⟨oc, hoc, vs, t, hd, hv⟩ := hs.get hmc
  refine kla_callFunE hroom ho rfl hco hgen rfl ⟨c', oc, vs, t, rfl, hoc, hd, hv⟩ ?_
  rw [hbind]
  refine wpAny_pure (wpAny_newFunctionEnv hcell hloc (fun h₁ hns hsb => ⟨(hlim.keeps hs.hp.base).fresh _ hsb, ?_⟩) hk)
  show codeAny _ _ (.expr body (envX qual scope s.heap.objs.size fa (.ref c') clos)) _ _
  have hk₁ : ∀ b o, s.heap.get? b = some o → h₁.get? b = some o := fun b o e => hsb.extBut b o (Nat.ne_of_lt (Heap.lt_size e)) (Heap.get?_push_of_some _ e)
  have hs' : St C ((s.heap.objs.size, nsP binds.reverse) :: l ++ r) { s with heap := h₁, toks := s.toks + binds.length } := by
    obtain ⟨o', es, ep, ho', hd, hkk, hf⟩ := hns
    exact ⟨hs.hp.new hk₁ (get_size _) ho' ⟨es, ep, hd, hkk, hf⟩, hs.bare, hs.os⟩
  exact kla_codeExpr ((h _).then hs' (fun v l' s' ⟨l₁, hS, hr⟩ hs₁ => ⟨l₁, hr, hs₁.sub (hS.app r)⟩) fun _ _ _ z => z.elim)
end
end Mine
end
/-! S1 -/
section
open PySem PySem.W PySem.Calls PyProof.Rows
set_option linter.all false
namespace Mine
section
variable {N : Nat} {r : Nat → Int} {cmp : Nat → Nat → (Bool → Shared → Prop) → Shared → Prop} {I : Shared → Prop}
def kr (r : Nat → Int) (p : Array Nat) (i : Nat) : Int := r (p.getD i 0)
def Srt (r : Nat → Int) (p : Array Nat) (m : Nat) : Prop := ∀ i j, i ≤ j → j < m → kr r p i ≤ kr r p j
def Ninc (r : Nat → Int) (p : Array Nat) (m : Nat) : Prop := ∀ i j, i ≤ j → j < m → kr r p j ≤ kr r p i
def Prm (N : Nat) (p : Array Nat) : Prop := p.toList.Perm (List.range N)
theorem Prm.size {p : Array Nat} (h : Prm N p) : p.size = N := by have := h.length_eq; simpa using this
theorem Prm.lt {p : Array Nat} (h : Prm N p) (hN : 0 < N) (i : Nat) : p.getD i 0 < N := by
  by_cases hi : i < p.size
  · have e : p.getD i 0 = p[i] := by simp [Array.getD, hi]
    rw [e]
    have := h.mem_iff (a := p[i])
    simpa using this
  · simp [Array.getD, hi]; exact hN
theorem getD_congr {p q : Array Nat} {i j : Nat} (h : p[i]? = q[j]?) : p.getD i 0 = q.getD j 0 := by
  rw [Array.getD_eq_getD_getElem?, Array.getD_eq_getD_getElem?, h]
theorem kr_rev {p : Array Nat} {i j : Nat} (hj : j ≤ p.size) (k : Nat) : kr r (kas_rev p i j) k = if i ≤ k ∧ k < j then kr r p (i + j - 1 - k) else kr r p k := by
  have e := getElem?_mirror_all (xs := p) (i := i) hj k
  unfold kr kas_rev
  by_cases h : i ≤ k ∧ k < j
  · rw [if_pos h] at e ⊢; rw [getD_congr e]
  · rw [if_neg h] at e ⊢; rw [getD_congr e]
theorem kr_bubble {p : Array Nat} {src d : Nat} (hs : src < p.size) (hd : d ≤ src) (k : Nat) : kr r (bubble p src d) k = if k = src - d then kr r p src else if src - d < k ∧ k ≤ src then kr r p (k - 1) else kr r p k := by
  have e := getElem?_bubble hs d hd k
  unfold kr
  by_cases h : k = src - d
  · rw [if_pos h] at e ⊢; rw [getD_congr e]
  · rw [if_neg h] at e ⊢
    by_cases h2 : src - d < k ∧ k ≤ src
    · rw [if_pos h2] at e ⊢; rw [getD_congr e]
    · rw [if_neg h2] at e ⊢; rw [getD_congr e]
theorem Prm.rev {p : Array Nat} (h : Prm N p) (i j : Nat) : Prm N (kas_rev p i j) := (Array.perm_iff_toList_perm.mp (mirror_perm p i j _)).trans h
theorem Prm.bubble {p : Array Nat} (h : Prm N p) (i j : Nat) : Prm N (bubble p i j) := (Array.perm_iff_toList_perm.mp (bubble_perm p i j)).trans h
variable (hN : 0 < N) (hc : ∀ i j (C : Bool → Shared → Prop) s, i < N → j < N → I s → (∀ s', I s' → C (decide (r i < r j)) s') → cmp i j C s)
include hN hc
theorem sp_asc {p : Array Nat} (hp : Prm N p) : ∀ (f m : Nat) (s : Shared) {Q : Nat → Shared → Prop}, 1 ≤ m → Srt r p m → I s → (∀ n s', I s' → m ≤ n → n ≤ m + f → Srt r p n → (n < m + f → kr r p n < kr r p (n - 1)) → Q n s') → (kas_asc p f m).kasWp cmp Q s
  | 0, m, s, Q, hm, hs, hI, h => h m s hI (Nat.le_refl _) (Nat.le_refl _) hs (fun x => by omega)
  | f + 1, m, s, Q, hm, hs, hI, h => by
    refine hc _ _ _ s (hp.lt hN _) (hp.lt hN _) hI fun s' hI' => ?_
    by_cases hl : kr r p m < kr r p (m - 1)
    · have hd : decide (r (p.getD m 0) < r (p.getD (m - 1) 0)) = true := decide_eq_true hl
      rw [hd]
      exact h m s' hI' (Nat.le_refl _) (by omega) hs (fun _ => hl)
    · have hd : decide (r (p.getD m 0) < r (p.getD (m - 1) 0)) = false := decide_eq_false hl
      rw [hd]
      refine sp_asc hp f (m + 1) s' (by omega) (fun i j hij hj => ?_) hI' fun n s'' hI'' h1 h2 h3 h4 => h n s'' hI'' (by omega) (by omega) h3 (fun q => h4 (by omega))
      by_cases hjm : j = m
      · subst hjm
        by_cases hij' : i = j
        · subst hij'; exact Int.le_refl _
        · have := hs i (j - 1) (by omega) (by omega)
          omega
      · exact hs i j hij (by omega)
theorem sp_desc : ∀ (f : Nat) (p : Array Nat) (m q : Nat) (s : Shared) {Q : Array Nat × Nat × Nat → Shared → Prop}, Prm N p → m + f ≤ N → q + 1 ≤ m → Ninc r p m → (∀ k, m - 1 - q ≤ k → k < m → kr r p k = kr r p (m - 1)) → I s →
    (∀ p' m' q' s', I s' → Prm N p' → m' ≤ m + f → q' + 1 ≤ m' → Ninc r p' m' → (∀ k, m' - 1 - q' ≤ k → k < m' → kr r p' k = kr r p' (m' - 1)) → Q (p', m', q') s') → (kas_desc f p m q).kasWp cmp Q s
  | 0, p, m, q, s, Q, hp, hmf, hq, hn, he, hI, h => h p m q s hI hp (by omega) hq hn he
  | f + 1, p, m, q, s, Q, hp, hmf, hq, hn, he, hI, h => by
    refine hc _ _ _ s (hp.lt hN _) (hp.lt hN _) hI fun s' hI' => ?_
    have nin : kr r p m ≤ kr r p (m - 1) → Ninc r p (m + 1) := fun hl i j hij hj => by
      by_cases hjm : j = m
      · subst hjm
        by_cases hij' : i = j
        · subst hij'; exact Int.le_refl _
        · have := hn i (j - 1) (by omega) (by omega)
          omega
      · exact hn i j hij (by omega)
    by_cases hl : kr r p m < kr r p (m - 1)
    · have hd : decide (r (p.getD m 0) < r (p.getD (m - 1) 0)) = true := decide_eq_true hl
      rw [hd]
      by_cases hq0 : q > 0
      · have same : ∀ k, kr r (kas_rev p (m - (q + 1)) m) k = kr r p k := fun k => by
          rw [kr_rev (by rw [hp.size]; omega)]
          split
          · rename_i hk
            have a := he k (by omega) hk.2
            have b := he (m - (q + 1) + m - 1 - k) (by omega) (by omega)
            omega
          · rfl
        show (if q > 0 then kas_desc f (kas_rev p (m - (q + 1)) m) (m + 1) 0 else kas_desc f p (m + 1) 0).kasWp cmp Q s'
        rw [if_pos hq0]
        refine sp_desc f _ (m + 1) 0 s' (hp.rev _ _) (by omega) (by omega) (fun i j a b => by rw [same, same]; exact nin (by omega) i j a b) (fun k a b => by rw [show k = m by omega]; rfl) hI' fun p' m' q' s'' a1 a2 a3 a4 a5 a6 => h p' m' q' s'' a1 a2 (by omega) a4 a5 a6
      · show (if q > 0 then kas_desc f (kas_rev p (m - (q + 1)) m) (m + 1) 0 else kas_desc f p (m + 1) 0).kasWp cmp Q s'
        rw [if_neg hq0]
        exact sp_desc f _ (m + 1) 0 s' hp (by omega) (by omega) (nin (by omega)) (fun k a b => by rw [show k = m by omega]; rfl) hI' fun p' m' q' s'' a1 a2 a3 a4 a5 a6 => h p' m' q' s'' a1 a2 (by omega) a4 a5 a6
    · have hd : decide (r (p.getD m 0) < r (p.getD (m - 1) 0)) = false := decide_eq_false hl
      rw [hd]
      refine hc _ _ _ s' (hp.lt hN _) (hp.lt hN _) hI' fun s2 hI2 => ?_
      by_cases hl2 : kr r p (m - 1) < kr r p m
      · have hd : decide (r (p.getD (m - 1) 0) < r (p.getD m 0)) = true := decide_eq_true hl2
        rw [hd]
        exact h p m q s2 hI2 hp (by omega) hq hn he
      · have hd : decide (r (p.getD (m - 1) 0) < r (p.getD m 0)) = false := decide_eq_false hl2
        rw [hd]
        refine sp_desc f _ (m + 1) (q + 1) s2 hp (by omega) (by omega) (nin (by omega)) (fun k a b => ?_) hI2 fun p' m' q' s'' a1 a2 a3 a4 a5 a6 => h p' m' q' s'' a1 a2 (by omega) a4 a5 a6
        have e : m + 1 - 1 = m := by omega
        rw [e]
        by_cases hk : k = m
        · rw [hk]
        · have := he k (by omega) (by omega)
          omega
theorem sp_tail3 {n : Nat} {p : Array Nat} {s : Shared} {Q : Nat × Array Nat → Shared → Prop} (hp : Prm N p) (hn0 : 1 ≤ n) (hn : n ≤ N) (hni : Ninc r p n) (hI : I s)
    (h : ∀ m p' s', I s' → Prm N p' → 1 ≤ m → m ≤ N → Srt r p' m → Q (m, p') s') : (kas_tail3 n N p).kasWp cmp Q s := by
  unfold kas_tail3
  rw [KasT.kasWp_bind]
  refine sp_asc hN hc (hp.rev 0 n) _ n s hn0 (fun i j a b => ?_) hI fun m s' a1 a2 a3 a4 _ => h m _ s' a1 (hp.rev 0 n) (by omega) (by omega) a4
  rw [kr_rev (by rw [hp.size]; omega), kr_rev (by rw [hp.size]; omega), if_pos (by omega), if_pos (by omega)]
  exact hni _ _ (by omega) (by omega)
theorem sp_descPart {n : Nat} {p : Array Nat} {s : Shared} {Q : Nat × Array Nat → Shared → Prop} (hp : Prm N p) (hn0 : 1 ≤ n) (hn : n < N) (hni : Ninc r p n) (hlt : kr r p n < kr r p (n - 1)) (hI : I s)
    (h : ∀ m p' s', I s' → Prm N p' → 1 ≤ m → m ≤ N → Srt r p' m → Q (m, p') s') : (kas_descPart n N p).kasWp cmp Q s := by
  unfold kas_descPart
  rw [KasT.kasWp_bind]
  refine sp_desc hN hc _ p (n + 1) 0 s hp (by omega) (by omega) (fun i j a b => ?_) (fun k a b => by rw [show k = n by omega]; rfl) hI fun p' m' q' s' a1 a2 a3 a4 a5 a6 => ?_
  · by_cases hjm : j = n
    · subst hjm
      by_cases hij' : i = j
      · subst hij'; exact Int.le_refl _
      · have := hni i (j - 1) (by omega) (by omega)
        omega
    · exact hni i j a (by omega)
  · show (if q' > 0 then kas_tail3 m' N (kas_rev p' (m' - (q' + 1)) m') else kas_tail3 m' N p').kasWp cmp Q s'
    by_cases hq : q' > 0
    · rw [if_pos hq]
      have same : ∀ k, kr r (kas_rev p' (m' - (q' + 1)) m') k = kr r p' k := fun k => by
        rw [kr_rev (by rw [a2.size]; omega)]
        split
        · rename_i hk
          have a := a6 k (by omega) hk.2
          have b := a6 (m' - (q' + 1) + m' - 1 - k) (by omega) (by omega)
          omega
        · rfl
      exact sp_tail3 hN hc (a2.rev _ _) (by omega) (by omega) (fun i j a b => by rw [same, same]; exact a5 i j a b) a1 h
    · rw [if_neg hq]
      exact sp_tail3 hN hc a2 (by omega) (by omega) a5 a1 h
theorem sp_count {p : Array Nat} {s : Shared} {Q : Nat × Array Nat → Shared → Prop} (hp : Prm N p) (hI : I s)
    (h : ∀ m p' s', I s' → Prm N p' → 1 ≤ m → m ≤ N → Srt r p' m → Q (m, p') s') : (kas_count N p).kasWp cmp Q s := by
  unfold kas_count
  rw [KasT.kasWp_bind]
  refine sp_asc hN hc hp _ 1 s (by omega) (fun i j a b => by rw [show i = 0 by omega, show j = 0 by omega]; exact Int.le_refl _) hI fun n s' a1 a2 a3 a4 a5 => ?_
  by_cases hn : n = N
  · subst hn
    rw [if_pos (by simp)]
    exact h _ p s' a1 hp (by omega) (by omega) a4
  · rw [if_neg (by simpa using hn)]
    by_cases h1 : n > 1
    · rw [if_pos h1]
      refine hc _ _ _ s' (hp.lt hN _) (hp.lt hN _) a1 fun s2 hI2 => ?_
      by_cases hl : kr r p 0 < kr r p (n - 1)
      · have hd : decide (r (p.getD 0 0) < r (p.getD (n - 1) 0)) = true := decide_eq_true hl
        rw [hd]
        exact h n p s2 hI2 hp (by omega) (by omega) a4
      · have hd : decide (r (p.getD 0 0) < r (p.getD (n - 1) 0)) = false := decide_eq_false hl
        rw [hd]
        have eqs : ∀ k, k < n → kr r p k = kr r p (n - 1) := fun k hk => by
          have x := a4 0 k (by omega) hk
          have y := a4 k (n - 1) (by omega) (by omega)
          omega
        have same : ∀ k, kr r (kas_rev p 0 n) k = kr r p k := fun k => by
          rw [kr_rev (by rw [hp.size]; omega)]
          split
          · rename_i hk
            rw [eqs k (by omega), eqs _ (by omega)]
          · rfl
        exact sp_descPart hN hc (hp.rev 0 n) (by omega) (by omega) (fun i j a b => by rw [same, same, eqs i (by omega), eqs j (by omega)]; exact Int.le_refl _) (by rw [same, same]; exact a5 (by omega)) hI2 h
    · rw [if_neg h1]
      have e : n = 1 := by omega
      subst e
      exact sp_descPart hN hc hp (by omega) (by omega) (fun i j a b => by rw [show i = 0 by omega, show j = 0 by omega]; exact Int.le_refl _) (a5 (by omega)) a1 h
theorem sp_place {p : Array Nat} {k : Nat} (hp : Prm N p) (hs : Srt r p k) : ∀ (f l u : Nat) (s : Shared) {Q : Nat → Shared → Prop}, u - l ≤ f → l ≤ u → u ≤ k → (∀ i, i < l → kr r p i ≤ kr r p k) → (∀ i, u ≤ i → i < k → kr r p k < kr r p i) → I s →
    (∀ m s', I s' → m ≤ k → (∀ i, i < m → kr r p i ≤ kr r p k) → (∀ i, m ≤ i → i < k → kr r p k < kr r p i) → Q m s') → (kas_place p k f l u).kasWp cmp Q s
  | 0, l, u, s, Q, hf, hlu, huk, h1, h2, hI, h => h l s hI (by omega) h1 (fun i a b => h2 i (by omega) b)
  | f + 1, l, u, s, Q, hf, hlu, huk, h1, h2, hI, h => by
    unfold kas_place
    by_cases hlu' : l ≥ u
    · rw [if_pos hlu']
      exact h l s hI (by omega) h1 (fun i a b => h2 i (by omega) b)
    · rw [if_neg hlu']
      refine hc _ _ _ s (hp.lt hN _) (hp.lt hN _) hI fun s' hI' => ?_
      by_cases hl : kr r p k < kr r p ((l + u) / 2)
      · have hd : decide (r (p.getD k 0) < r (p.getD ((l + u) / 2) 0)) = true := decide_eq_true hl
        rw [hd]
        refine sp_place hp hs f l ((l + u) / 2) s' (by omega) (by omega) (by omega) h1 (fun i a b => ?_) hI' h
        have := hs ((l + u) / 2) i a b
        omega
      · have hd : decide (r (p.getD k 0) < r (p.getD ((l + u) / 2) 0)) = false := decide_eq_false hl
        rw [hd]
        refine sp_place hp hs f ((l + u) / 2 + 1) u s' (by omega) (by omega) (by omega) (fun i a => ?_) h2 hI' h
        have := hs i ((l + u) / 2) (by omega) (by omega)
        omega
theorem sp_bin : ∀ (f : Nat) (p : Array Nat) (k : Nat) (s : Shared) {Q : Array Nat → Shared → Prop}, Prm N p → k + f = N → Srt r p k → I s → (∀ p' s', I s' → Prm N p' → Srt r p' N → Q p' s') → (kas_bin f p k).kasWp cmp Q s
  | 0, p, k, s, Q, hp, hk, hs, hI, h => h p s hI hp (by rw [← hk]; exact hs)
  | f + 1, p, k, s, Q, hp, hk, hs, hI, h => by
    unfold kas_bin
    rw [KasT.kasWp_bind]
    refine sp_place hN hc hp hs k 0 k s (by omega) (by omega) (Nat.le_refl _) (fun i a => by omega) (fun i a b => by omega) hI fun l s' hI' hl h1 h2 => ?_
    refine sp_bin f _ (k + 1) s' (hp.bubble _ _) (by omega) (fun i j a b => ?_) hI' h
    have hsz : k < p.size := by rw [hp.size]; omega
    rw [kr_bubble hsz (by omega), kr_bubble hsz (by omega), show k - (k - l) = l by omega]
    by_cases i1 : i = l
    · rw [if_pos i1]
      by_cases j1 : j = l
      · rw [if_pos j1]; exact Int.le_refl _
      · rw [if_neg j1, if_pos (by omega)]
        have := h2 (j - 1) (by omega) (by omega)
        omega
    · rw [if_neg i1]
      by_cases j1 : j = l
      · rw [if_pos j1, if_neg (by omega)]
        exact h1 i (by omega)
      · rw [if_neg j1]
        by_cases i2 : l < i
        · rw [if_pos (by omega), if_pos (by omega)]
          exact hs _ _ (by omega) (by omega)
        · rw [if_neg (by omega)]
          by_cases j2 : l < j
          · rw [if_pos (by omega)]; exact hs _ _ (by omega) (by omega)
          · rw [if_neg (by omega)]; exact hs _ _ (by omega) (by omega)
/-- the decision tree of list.sort puts in order -/
theorem sp_sort {s : Shared} {Q : Array Nat → Shared → Prop} (hI : I s) (h : ∀ p s', I s' → p.toList.Perm (List.range N) → p.toList.Pairwise (fun i j => r i ≤ r j) → Q p s') : (kas_sort N).kasWp cmp Q s := by
  unfold kas_sort
  rw [KasT.kasWp_bind]
  have fin : ∀ p s', I s' → Prm N p → Srt r p N → Q p s' := fun p s' a b c => h p s' a b (by
    rw [List.pairwise_iff_getElem]
    intro i j hi hj hij
    have hsz := b.size
    have hj' : j < p.size := by simpa using hj
    have hi' : i < p.size := by simpa using hi
    have := c i j (by omega) (by omega)
    unfold kr at this
    simpa [Array.getD, hi', hj'] using this)
  refine sp_count hN hc (by unfold Prm; simp) hI fun m p s' a1 a2 a3 a4 a5 => ?_
  show (if m < N then kas_bin (N - max m 1) p (max m 1) else .ret p).kasWp cmp Q s'
  by_cases hm : m < N
  · rw [if_pos hm, show max m 1 = m by omega]
    exact sp_bin hN hc _ p m s' a2 (by omega) a5 a1 fin
  · rw [if_neg hm]
    have e : m = N := by omega
    subst e
    exact fin p s' a1 a2 a5
end
end Mine
end
/-! E1 -/
section
open PySem PySem.W PySem.Calls PyProof.Rows
set_option maxRecDepth 100000
set_option linter.all false
namespace Mine
section
variable {α β : Type} {C : Cx} {A : Around} {l : Led} {e : Value → Led → Prop} {env : Env}
theorem w_listItems {a : Addr} {vs : List Value} {k : Array Value → Led → Prop} (hm : (a, freshP vs) ∈ l) (h : k vs.toArray l) : W C A l (Builtin.List.listItems (.ref a)) k e := fun r s hs => by
  obtain ⟨o, ho, n, rfl⟩ := hs.get hm
  exact listItems_at ho rfl ⟨l, h, hs⟩
theorem w_listUpdate {a : Addr} {vs vs' : List Value} {f : Array Value → Array Value} {l' : Led} {k : Unit → Led → Prop} (R : Rep a (freshP vs) (freshP vs') l l') (hf : f vs.toArray = vs'.toArray) (hz : vs.length ≤ 1000000) (hz' : vs'.length ≤ 1000000) (h : k () l') :
    W C A l (Builtin.List.listUpdate (.ref a) f) k e := fun r s hs => by
  obtain ⟨o, ho, n, rfl⟩ := hs.get R.mem
  refine listUpdate_at ho rfl ⟨l', h, ?_⟩ (by rw [sizeLine_eq]; simp; omega) (by rw [hf, sizeLine_eq]; simp; omega)
  refine hs.rep R (Heap.SameBut.update ..) ⟨_, Heap.get?_update_self _ ho rfl, ?_⟩ s.toks
  exact ⟨_, by simp only [Obj.mapSeq, hf]; rfl⟩
theorem w_exact {a : Addr} {Pr : Obj → Prop} {t : Sem α} {k : α → Led → Prop} (h : ∀ o, Pr o → W C A ((a, (· = o)) :: l) t k e) : W C A ((a, Pr) :: l) t k e := fun r s hs => by
  obtain ⟨o, ho, hP⟩ := hs.get (.head _)
  refine h o hP r s ⟨⟨hs.hp.base, fun q hq => ?_, hs.hp.nd, hs.hp.gm⟩, hs.bare, hs.os⟩
  rcases List.mem_cons.mp hq with rfl | hq
  · exact ⟨⟨o, ho, rfl⟩, (hs.hp.own _ (.head _)).2⟩
  · exact hs.hp.own q (.tail _ hq)
theorem ints_of_at : ∀ {vs : List Value} {ns : List Int}, vs.length = ns.length → (∀ i v, vs[i]? = some v → ∃ t, v = Value.int (ns.getD i 0) t) → IntsAre vs ns
  | [], [], _, _ => .nil
  | v :: vs, n :: ns, hl, h => by
    obtain ⟨t, e⟩ := h 0 v rfl
    simp at e
    rw [e]
    exact .cons n t (ints_of_at (by simpa using hl) fun i v hv => by have := h (i + 1) v (by simpa using hv); simpa using this)
  | [], _ :: _, hl, _ => by simp at hl
  | _ :: _, [], hl, _ => by simp at hl
theorem w_list_rng {f : Ent} {rg : Addr} {lo hi : Int} {k : Value → Led → Prop} (hh : A.handled = none) (hm : (rg, rngP lo hi) ∈ f :: l) (hlo : -1000000 < lo) (hhi : hi < 1000000) (hlh : lo ≤ hi)
    (h : ∀ D, k (.ref D) (f :: (D, intsP ((List.range (hi - lo).toNat).map fun (i : Nat) => lo + (i : Int))) :: l)) : W C A (f :: l) (call (.type "list") [.ref rg]) k e := fun r s hs => by
  obtain ⟨hsz, hsm⟩ := rng_small hlo hhi hlh
  obtain ⟨o, ho, t, u, w, rfl⟩ := hs.get hm
  refine call_list_range hh ho hsm hsz (by omega) fun h' tk acc c hk hD hit => ⟨_, h s.heap.objs.size, hs.put hk (get_size _) hD ?_ _⟩
  refine ⟨acc.toList, ?_, rfl, c, by simp⟩
  refine ints_of_at ?_ ?_
  · simp [hit.1]
  · intro i v hv
    have hi : i < (hi - lo).toNat := by
      have := (List.getElem?_eq_some_iff.mp hv).1
      simpa [hit.1] using this
    obtain ⟨t, e⟩ := hit.2 i v (by simpa using hv)
    refine ⟨t, ?_⟩
    rw [e]
    simp [hi]
end
end Mine
end
/-! E2 -/
section
open PySem PySem.W PySem.Calls PyProof.Rows
set_option maxRecDepth 100000
set_option linter.all false
namespace Mine
section
variable {α β : Type} {C : Cx} {A : Around} {l : Led} {e : Value → Led → Prop} {env : Env}
def colT (v : Value) : Sem (List Value) := match v with
  | .ref a => (do
    let o ← load a
    match o.data with
    | .seq xs _ => pure xs.toList
    | _ => unsupported "internal:collect")
  | _ => unsupported "internal:collect"
def colR (C : Cx) (A : Around) (k : List Value → Led → Prop) (e : Value → Led → Prop) (r : Led) (x : Result) (s' : Shared) : Prop := match x with
  | .ok (.ret v) => wpAny (model P C.w) A (colT v) (fun a s' => ∃ l', k a l' ∧ St C (l' ++ r) s') (fun x s' => ∃ l', e x l' ∧ St C (l' ++ r) s') s'
  | .ok _ => False
  | .error x => ∃ l', e x l' ∧ St C (l' ++ r) s'
theorem w_collect_rng {rg : Addr} {lo hi : Int} {k : List Value → Led → Prop} (hh : A.handled = none) (hm : (rg, rngP lo hi) ∈ l) (hlo : -1000000 < lo) (hhi : hi < 1000000) (hlh : lo ≤ hi)
    (h : ∀ xs : List Value, xs.length = (hi - lo).toNat → (∀ (i : Nat) v, xs[i]? = some v → ∃ t, v = Value.int (lo + i) t) → k xs l) : W C A l (collect (.ref rg)) k e := fun r s hs => by
  obtain ⟨hsz, hsm⟩ := rng_small hlo hhi hlh
  obtain ⟨o, ho, t, u, w, rfl⟩ := hs.get hm
  unfold collect
  refine wpAny_bind (wpAny_runValue (codeAny_builtin entry_proto_collect' ?_))
  rw [Around.under_plainId F.plain_proto_collect _]
  show wpAny _ _ (do again (.builtin "list.__iadd__" ⟨[← newList [], .ref rg], []⟩)) _ _ s
  refine wpAny_bind (wpAny_newList (wpAny_pure ⟨Code.quiet_builtin _ (by decide +kernel), codeAny_builtin entry_list_iadd' ?_⟩))
  rw [Around.under_plainId F.plain_list_iadd _]
  show wpAny _ _ (Builtin.List.listExtendWith (.ref s.heap.objs.size) (.ref rg) (.ref s.heap.objs.size)) _ _ { s with heap := s.heap.push (seqObj "list" #[] 0) }
  refine wpAny_extend_range (R := colR C A k e r) (s := { s with heap := s.heap.push (seqObj "list" #[] 0) }) hh (Heap.get?_push_of_some _ ho) hsm hsz (by omega) s.heap.objs.size _ 0 (Heap.get?_push_size _ rfl) fun h' tk acc c hk hD hit => ?_
  show wpAny (model P C.w) A (do
      let o ← load s.heap.objs.size
      match o.data with
      | .seq xs _ => pure xs.toList
      | _ => unsupported "internal:collect") _ _ _
  refine wpAny_bind (wpAny_load hD (wpAny_pure ⟨l, h _ (by simp [hit.1]) (fun i v hv => by
    obtain ⟨t, e⟩ := hit.2 i v (by simpa using hv)
    exact ⟨t, by rw [e]; simp⟩), ⟨hs.hp.grow fun b o e => hk b o (Nat.ne_of_lt (Heap.lt_size e)) (Heap.get?_push_of_some _ e), hs.bare, hs.os⟩⟩))
theorem w_seqEpochX {a : Addr} {c : String} {xs : Array Value} {n : Nat} {k : Nat → Led → Prop} (hm : (a, (· = seqObj c xs n)) ∈ l) (h : k n l) : W C A l (seqEpoch a) k e := fun r s hs => by
  obtain ⟨o, ho, rfl⟩ := hs.get hm
  exact seqEpoch_at ho rfl ⟨l, h, hs⟩
theorem w_newTupleU {vs : List Value} {k : Value → Led → Prop} (hz : vs.length ≤ 1000) (h : ∀ a, k (.ref a) l) : W C A l (newTuple vs) k e := fun r s hs =>
  wpAny_newTuple ⟨l, h _, hs.grow (fun b o e => Heap.get?_push_of_some _ e) _⟩ (by rw [sizeLine_eq]; omega)
theorem w_letGo {x y : List Value} {k : Unit → Led → Prop} (h : k () l) : W C A l (letGo x y) k e := fun r s hs => wpAny_letGo ⟨l, h, hs⟩
/-- the keys of a sort, one by one -/
theorem w_keys {D kS : Addr} {X : Obj → Prop} {f : Value} {key : Nat → List Int} {body : Value → PUnit → Sem (ForInStep PUnit)} {N : Nat} (hN : N < 64) (l : Led)
    (hkey : ∀ i t, i < N → W C A l (call f [.int (i : Int) t]) (fun v l' => ∃ b, v = .ref b ∧ Sub ((b, tupP (key i)) :: l) l') noE)
    (hb : ∀ x {l : Led} {k : ForInStep PUnit → Led → Prop}, W C A l (call f [x]) (fun v l' => W C A l' (Builtin.List.listUpdate (.ref kS) (·.push v)) (fun _ l'' => k (.yield ⟨⟩) l'') noE) noE → W C A l (body x ⟨⟩) k noE) :
    ∀ (rest : List Value) (i : Nat) (ks : List Itm) (tl : Led), ks.length = i → i + rest.length = N → (∀ j v, rest[j]? = some v → ∃ t, v = Value.int ((i + j : Nat) : Int) t) → (∀ x ∈ ks, Told tl x) → ks.map (·.2) = (List.range i).map key →
      W C A ((D, X) :: (kS, freshP (ks.map (·.1))) :: (tl ++ l)) (forIn rest PUnit.unit body) (fun _ l' => ∃ (ks : List Itm) (tl : Led), l' = (D, X) :: (kS, freshP (ks.map (·.1))) :: (tl ++ l) ∧ (∀ x ∈ ks, Told tl x) ∧ ks.map (·.2) = (List.range N).map key) noE
  | [], i, ks, tl, hi, hl, hv, ht, hk => by
    rw [List.forIn_nil]
    have e : i = N := by simpa using hl
    subst e
    exact w_pure ⟨ks, tl, rfl, ht, hk⟩
  | x :: rest, i, ks, tl, hi, hl, hv, ht, hk => by
    rw [List.forIn_cons]
    have hl' : i + (rest.length + 1) = N := by simpa using hl
    obtain ⟨t, hx⟩ := hv 0 x rfl
    rw [hx]
    have hkeyI := hkey i t (by omega)
    refine w_bind (hb _ ?_)
    have hp : (l ++ ((D, X) :: (kS, freshP (ks.map (·.1))) :: tl)).Perm ((D, X) :: (kS, freshP (ks.map (·.1))) :: (tl ++ l)) := by
      have := List.perm_append_comm (l₁ := l) (l₂ := (D, X) :: (kS, freshP (ks.map (·.1))) :: tl)
      simpa using this
    refine (W.on (k := fun v l' => ∃ b, v = .ref b ∧ ∃ l₁, Sub ((b, tupP (key i)) :: l) l₁ ∧ l' = l₁ ++ ((D, X) :: (kS, freshP (ks.map (·.1))) :: tl)) (e := noE) hp (hkeyI.mono (fun v l' ⟨b, e1, e2⟩ => ⟨b, e1, l', e2, rfl⟩) fun _ _ z => z)).mono (fun v l' ⟨b, e1, l₁, e2, e3⟩ => ?_) fun _ _ z => z
    subst e1 e3
    refine W.sub (l' := (D, X) :: (kS, freshP (ks.map (·.1))) :: (((b, tupP (key i)) :: tl) ++ l)) ?_ ?_
    · refine Sub.trans (Sub.perm ?_) (e2.app _)
      show List.Perm _ (((b, tupP (key i)) :: l) ++ ((D, X) :: (kS, freshP (ks.map (·.1))) :: tl))
      have := List.perm_append_comm (l₁ := (b, tupP (key i)) :: l) (l₂ := (D, X) :: (kS, freshP (ks.map (·.1))) :: tl)
      refine List.Perm.trans ?_ this.symm
      simp only [List.cons_append]
      exact List.Perm.cons _ (List.Perm.cons _ (List.perm_middle (l₁ := tl) (l₂ := l)).symm)
    refine w_listUpdate (vs' := (ks ++ [((.ref b : Value), key i)]).map (·.1)) (.tail .head) (by simp) (by simp; omega) (by simp; omega) ?_
    refine w_keys hN l hkey hb rest (i + 1) (ks ++ [((.ref b : Value), key i)]) ((b, tupP (key i)) :: tl) (by simp [hi]) (by omega) (fun j v hj => ?_) (fun y hy => ?_) ?_
    · obtain ⟨t, e⟩ := hv (j + 1) v (by simpa using hj)
      exact ⟨t, by rw [e]; congr 1; omega⟩
    · rcases List.mem_append.mp hy with hy | hy
      · exact let ⟨a, e, hm⟩ := ht y hy; ⟨a, e, .tail _ hm⟩
      · rw [List.mem_singleton.mp hy]; exact ⟨b, rfl, .head _⟩
    · rw [List.map_append, hk, List.range_succ, List.map_append]; rfl
end
end Mine
end
/-! E3 -/
section
open PySem PySem.W PySem.Calls PyProof.Rows
set_option maxRecDepth 100000
set_option linter.all false
namespace Mine
section
variable {α β : Type} {C : Cx} {A : Around} {l : Led} {e : Value → Led → Prop} {env : Env}
theorem ints2E {vs : List Value} {a b : Int} (h : IntsAre vs [a, b]) : ∃ t1 t2, vs = [.int a t1, .int b t2] := by
  cases h with
  | cons _ t1 h => cases h with
    | cons _ t2 h => cases h; exact ⟨t1, t2, rfl⟩
theorem katTups_of {r tl : Led} {s : Shared} : ∀ {ks : List Itm} {ka kb : Nat → Int} {is : List Nat}, (∀ a ts, (a, tupP ts) ∈ tl → ∃ o, s.heap.get? a = some o ∧ tupP ts o) → (∀ x ∈ ks, Told tl x) → ks.map (·.2) = is.map (fun i => [ka i, kb i]) →
    ∃ fs, KatTups s.heap (ks.map (·.1)) fs ∧ fs.length = is.length ∧ ∀ v ∈ fs, ∃ n t, v = .int n t
  | [], ka, kb, [], _, _, _ => ⟨[], trivial, rfl, fun v hv => nomatch hv⟩
  | x :: ks, ka, kb, i :: is, g, ht, hk => by
    rw [List.map_cons, List.map_cons] at hk
    obtain ⟨h1, h2⟩ := List.cons.inj hk
    obtain ⟨fs, a1, a2, a3⟩ := katTups_of (r := r) g (fun y hy => ht y (.tail _ hy)) h2
    obtain ⟨a, ea, hm⟩ := ht x (.head _)
    obtain ⟨o, ho, hc, vs, n, hI, hd⟩ := g a _ hm
    rw [h1] at hI
    obtain ⟨t1, t2, rfl⟩ := ints2E hI
    refine ⟨.int (ka i) t1 :: fs, ⟨⟨a, o, _, n, ea, ho, hc, hd, rfl⟩, a1⟩, by simp [a2], fun v hv => ?_⟩
    rcases List.mem_cons.mp hv with rfl | hv
    · exact ⟨_, _, rfl⟩
    · exact a3 v hv
  | [], _, _, _ :: _, _, _, h => by simp at h
  | _ :: _, _, _, [], _, _, h => by simp at h
theorem kask_tup {N : Nat} {ks : List Itm} {ka kb : Nat → Int} {tl l : Led} (hNk : ks.map (·.2) = (List.range N).map fun i => [ka i, kb i]) (ht : ∀ x ∈ ks, Told tl x) {r : Nat → Int} (hr : ∀ i j, decide (r i < r j) = decide (ka i < ka j ∨ (ka i = ka j ∧ kb i < kb j)))
    (i j : Nat) (Q : Bool → Shared → Prop) (s : Shared) (hi : i < N) (hj : j < N) (hs : St C (l ++ tl) s ∧ True) (h : ∀ s', St C (l ++ tl) s' ∧ True → Q (decide (r i < r j)) s') : kas_ask P C.w A (tuples' true) (ks.map (·.1)) i j Q s := by
  have hlen : ks.length = N := by have := congrArg List.length hNk; simpa using this
  have at' : ∀ i, i < N → ∃ a o t1 t2 n, (ks.map (·.1)).getD i Value.none = .ref a ∧ s.heap.get? a = some o ∧ o.data = .seq #[.int (ka i) t1, .int (kb i) t2] n := fun i hi => by
    have hi' : i < ks.length := by omega
    obtain ⟨a, ea, hm⟩ := ht ks[i] (List.getElem_mem hi')
    have hk : ks[i].2 = [ka i, kb i] := by
      have : (ks.map (·.2))[i]? = ((List.range N).map fun i => [ka i, kb i])[i]? := by rw [hNk]
      simpa [hi', hi] using this
    rw [hk] at hm
    obtain ⟨⟨o, ho, hc, vs, n, hI, hd⟩, _⟩ := hs.1.hp.own _ (List.mem_append_right _ hm)
    obtain ⟨t1, t2, rfl⟩ := ints2E hI
    exact ⟨a, o, t1, t2, n, by simp [hi', ea], ho, hd⟩
  obtain ⟨a, oa, t1, t2, n, ea, hoa, hda⟩ := at' i hi
  obtain ⟨b, ob, u1, u2, m, eb, hob, hdb⟩ := at' j hj
  unfold kas_ask
  rw [ea, eb]
  have hq := h s hs
  rw [hr i j] at hq
  refine kat_lt hoa hda hob hdb ?_
  refine kat_cons (wpAny_eqBool_int (kat_go (fun e1 => ?_) fun e1 => ?_))
  · refine kat_yes (kat_cons (wpAny_eqBool_int (kat_go (fun e2 => ?_) fun e2 => ?_)))
    · refine kat_yes (kat_nil ?_)
      rw [beq_iff_eq] at e1 e2
      have : ¬ (ka i < ka j ∨ (ka i = ka j ∧ kb i < kb j)) := by omega
      rw [decide_eq_false this] at hq
      simpa using hq
    · refine kat_no ?_
      rw [beq_iff_eq] at e1
      rw [beq_eq_false_iff_ne] at e2
      refine kat_one _ _ (PyProof.Rows.lt_int ?_)
      have : decide (kb i < kb j) = decide (ka i < ka j ∨ (ka i = ka j ∧ kb i < kb j)) := by
        rw [decide_eq_decide]; omega
      show Q _ _
      rw [this]; exact hq
  · refine kat_no ?_
    rw [beq_eq_false_iff_ne] at e1
    have : decide (ka i < ka j) = decide (ka i < ka j ∨ (ka i = ka j ∧ kb i < kb j)) := by
      rw [decide_eq_decide]; omega
    rw [← this] at hq
    exact oneLt_int hq
/-- the end of a sort with keys: pairs of ints -/
theorem w_ksk_tail {D kS : Addr} {e1 : Nat} {ks out : List Value} {k : PySem.Fin → Led → Prop} {st : SortSt} (hout : (arrOf st).map (·.2) = List.toArray out) (hz : out.length < 64) (hkz : ks.length < 64) (hf : failedOf st = none)
    (h : k (.done (.ret .none)) ((D, freshP out) :: (kS, freshP []) :: l)) : W C A ((D, (· = seqObj "list" #[] e1)) :: (kS, freshP ks) :: l) (ksk_tail D false e1 (.ref kS) st) k e := by
  unfold ksk_tail
  try dsimp only
  rw [hout]
  refine w_bind (w_listUpdate (vs' := []) (.tail .head) rfl (by omega) (by simp) ?_)
  refine w_bind (w_letGo ?_)
  refine w_bind (w_seqEpochX (.head _) ?_)
  refine W.sub (l' := (D, freshP []) :: (kS, freshP []) :: l) (.pick .head (fun o h => ⟨e1, h⟩) .refl) ?_
  refine w_bind (w_listUpdate (vs' := out) .head rfl (by simp) (by omega) ?_)
  rw [hf]
  simp only [bne_self_eq_false, Bool.false_eq_true, if_false]
  exact w_pure h
theorem w_ksk_end {D kS : Addr} {e1 : Nat} {N : Nat} {vs : List Value} {ks : List Itm} {ka kb : Nat → Int} {tl : Led} {k : PySem.Fin → Led → Prop} {r : Nat → Int} (hN : 1 ≤ N) (hN2 : N < 64) (hvl : vs.length = N) (ht : ∀ x ∈ ks, Told tl x) (hks : ks.map (·.2) = (List.range N).map fun i => [ka i, kb i])
    (hr : ∀ i j, decide (r i < r j) = decide (ka i < ka j ∨ (ka i = ka j ∧ kb i < kb j)))
    (h : ∀ os : List Nat, os.Perm (List.range N) → os.Pairwise (fun i j => r i ≤ r j) → k (.done (.ret .none)) ((D, freshP (os.map fun i => vs.getD i Value.none)) :: (kS, freshP []) :: (tl ++ l))) :
    W C A ((D, (· = seqObj "list" #[] e1)) :: (kS, freshP (ks.map (·.1))) :: (tl ++ l)) (ksk_end D false vs.toArray e1 (.ref kS) (ks.map (·.1)).toArray) k noE := by
  have hkl : ks.length = N := by have := congrArg List.length hks; simpa using this
  unfold ksk_end
  try dsimp only
  simp only [Bool.false_eq_true, if_false]
  by_cases h2 : N < 2
  · have hN1 : N = 1 := by omega
    subst hN1
    obtain ⟨v, rfl⟩ : ∃ v, vs = [v] := by
      match vs, hvl with
      | [v], _ => exact ⟨v, rfl⟩
    obtain ⟨x, rfl⟩ : ∃ v, ks = [v] := by
      match ks, hkl with
      | [v], _ => exact ⟨v, rfl⟩
    rw [if_pos (by simp), if_pos (by simp)]
    refine w_bind (w_pure ?_)
    rw [StateT.run_pure]
    refine w_bind (w_pure ?_)
    dsimp only
    have h0 := h [0] (by simp [List.range_succ]) (by simp)
    exact w_ksk_tail (out := [v]) (by simp [arrOf, SortSt.mk'] <;> rfl) (by simp) (by simp) rfl (by simpa using h0)
  · rw [if_neg (by simp; omega), if_neg (by simp; omega)]
    intro q s hs
    have hown : ∀ a ts, (a, tupP ts) ∈ tl → ∃ o, s.heap.get? a = some o ∧ tupP ts o := fun a ts hm => (hs.hp.own _ (List.mem_append_left _ (.tail _ (.tail _ (List.mem_append_left _ hm))))).1
    obtain ⟨fs, hT, hfl, hfi⟩ := katTups_of (r := []) hown ht hks
    refine wpAny_bind (kat_kind (T := .type "int") hT (by rw [hfl]; simp; omega) (fun v hv => by obtain ⟨n, t, rfl⟩ := hfi v hv; exact Looks.of_pure rfl) (by decide) ?_)
    have hlr : (ks.map (·.1)).length = vs.length := by simp; omega
    have hs' : St C ((((D, (· = seqObj "list" #[] e1)) :: (kS, freshP (ks.map (·.1))) :: l) ++ q) ++ tl) s := by
      refine hs.sub (Sub.perm ?_)
      simp only [List.cons_append, List.append_assoc]
      refine List.Perm.cons _ (List.Perm.cons _ ?_)
      have := List.perm_append_comm (l₁ := tl) (l₂ := l ++ q)
      simpa [List.append_assoc] using this.symm
    refine wpAny_bind (wpAny_mono (kat_run (Q := fun st' s' => ∃ p : Array Nat, p.size = vs.length ∧ arrOf st' = p.map (kas_item ((List.toArray (ks.map (·.1))).zip (List.toArray vs))) ∧ failedOf st' = none ∧
      (p.toList.Perm (List.range N) ∧ p.toList.Pairwise (fun i j => r i ≤ r j)) ∧ St C ((((D, (· = seqObj "list" #[] e1)) :: (kS, freshP (ks.map (·.1))) :: l) ++ q) ++ tl) s')
      (G := fun p s' => (p.toList.Perm (List.range N) ∧ p.toList.Pairwise (fun i j => r i ≤ r j)) ∧ St C ((((D, (· = seqObj "list" #[] e1)) :: (kS, freshP (ks.map (·.1))) :: l) ++ q) ++ tl) s')
      hlr (by omega) (by omega) (fun p' st' s' a1 a2 a3 a4 => ⟨p', a1, a2, a3, a4.1, a4.2⟩) (by
        rw [hvl]
        exact sp_sort (I := fun s' => St C ((((D, (· = seqObj "list" #[] e1)) :: (kS, freshP (ks.map (·.1))) :: l) ++ q) ++ tl) s' ∧ True) (r := r) (by omega) (fun i j Q s hi hj hI hQ => kask_tup hks ht hr i j Q s hi hj hI hQ) ⟨hs', trivial⟩ (fun p s' hI h1 h2 => ⟨⟨h1, h2⟩, hI.1⟩))) ?_ fun _ _ z => z)
    rintro ⟨⟨⟩, st'⟩ s' ⟨p, hp, har, hf, ⟨hp1, hp2⟩, hs2⟩
    try dsimp only
    have hs3 : St C (((D, (· = seqObj "list" #[] e1)) :: (kS, freshP (ks.map (·.1))) :: (tl ++ l)) ++ q) s' := by
      refine hs2.sub (Sub.perm ?_)
      simp only [List.cons_append, List.append_assoc]
      refine List.Perm.cons _ (List.Perm.cons _ ?_)
      have := List.perm_append_comm (l₁ := tl) (l₂ := l ++ q)
      simpa [List.append_assoc] using this
    exact w_ksk_tail (e := noE) (out := p.toList.map fun i => vs.getD i Value.none) (kat_snds hlr har) (by simp; omega) (by simp; omega) hf (h _ hp1 hp2) q s' hs3
end
end Mine
end
/-! E4 -/
section
open PySem PySem.W PySem.Calls PyProof.Rows
set_option maxRecDepth 100000
set_option linter.all false
namespace Mine
section
variable {α β : Type} {C : Cx} {A : Around} {l : Led} {e : Value → Led → Prop} {env : Env}
theorem w_callBk {id : String} {b : Builtin} {args : List Value} {kw : List (Str × Value)} {k : Value → Led → Prop} (hk : builtinKind id = none) (hp : plainId id = true) (hb : entryFor table id = some b) (ha : argsOk id ⟨args, kw⟩)
    (h : W C A.in1 l (b ⟨args, kw⟩) (fun fin l' => ∃ v, fin = .done (.ret v) ∧ k v l') e) : W C A l (call (.builtin id) args kw) k e := fun r s hs =>
  call_function_entry_kw hk hp hb ha (h.then hs (fun fin l' s' ⟨v, e1, hv⟩ hs' => ⟨v, e1, l', hv, hs'⟩) fun x l' s' hx hs' => ⟨l', hx, hs'⟩)
theorem w_call_entry_kw {T : String} {name : Str} {id : String} {b : Builtin} {a : Addr} {Pr : Obj → Prop} {rest : List Value} {kw : List (Str × Value)} {k : Value → Led → Prop}
    (hS : Slot T name id) (hm : (a, Pr) ∈ l) (hT : ∀ o, Pr o → o.cls = .type T) (hb : entryFor table id = some b)
    (h : W C A.in1 l (b ⟨.ref a :: rest, kw⟩) (fun fin l' => ∃ v, fin = .done (.ret v) ∧ k v l') e) (ha : argsOk id ⟨.ref a :: rest, kw⟩) : W C A l (call (.builtin id) (.ref a :: rest) kw) k e := fun r s hs => by
  obtain ⟨o, ho, hP⟩ := hs.get hm
  exact wpAny_call_entry_kw hS ⟨o, ho, hT o hP⟩ hb (h.then hs (fun fin l' s' ⟨v, e1, hv⟩ hs' => ⟨v, e1, l', hv, hs'⟩) fun x l' s' hx hs' => ⟨l', hx, hs'⟩) ha
theorem w_ksk {D : Addr} {N : Nat} {vs : List Value} {f : Value} {ka kb : Nat → Int} {k : PySem.Fin → Led → Prop} {r : Nat → Int} (hN : 1 ≤ N) (hN2 : N < 64) (hvl : vs.length = N) (hv : ∀ (i : Nat) v, vs[i]? = some v → ∃ t, v = Value.int (i : Int) t)
    (hkey : ∀ i t, i < N → W C A l (call f [.int (i : Int) t]) (fun v l' => ∃ b, v = .ref b ∧ Sub ((b, tupP [ka i, kb i]) :: l) l') noE)
    (hr : ∀ i j, decide (r i < r j) = decide (ka i < ka j ∨ (ka i = ka j ∧ kb i < kb j)))
    (h : ∀ (os : List Nat) kS tl, os.Perm (List.range N) → os.Pairwise (fun i j => r i ≤ r j) → k (.done (.ret .none)) ((D, freshP (os.map fun i => vs.getD i Value.none)) :: (kS, freshP []) :: (tl ++ l))) :
    W C A ((D, freshP vs) :: l) (ksk_tree D f false) k noE := by
  unfold ksk_tree
  refine w_bind (w_listItems (.head _) ?_)
  refine w_bind (w_listUpdate (vs' := []) .head rfl (by omega) (by simp) ?_)
  refine w_exact fun o ho => ?_
  obtain ⟨e1, rfl⟩ := ho
  refine w_bind (w_seqEpochX (c := "list") (xs := #[]) (n := e1) (.head _) ?_)
  refine w_bind (w_newTupleU (by simp; omega) fun a => ?_)
  refine w_bind (w_newListF (fun kS => ?_) (by simp))
  refine w_holding ?_
  unfold ksk_rest
  refine w_bind (w_rule ?_)
  first
    | rw [List.forIn_toArray]
    | (rw [← Array.forIn_toList]; simp only [List.toList_toArray])
  refine w_bind ((w_keys (tl := []) (ks := []) (N := N) (key := fun i => [ka i, kb i]) hN2 l hkey (fun x {l k} hx => ?_) vs 0 rfl (by omega) (fun j v hj => by rw [Nat.zero_add]; exact hv j v hj) (fun _ hx => nomatch hx) rfl).mono ?_ fun _ _ z => z)
  · refine w_bind (w_attempt (hx.mono (fun v l' hv => ?_) fun _ _ z => z.elim))
    exact w_bind (hv.mono (fun _ l'' hq => w_pure hq) fun _ _ z => z)
  · rintro _ l' ⟨ks, tl, rfl, ht, hks⟩
    try dsimp only
    refine w_bind (w_listItems (.tail _ (.head _)) ?_)
    exact w_ksk_end hN hN2 hvl ht hks hr fun os h1 h2 => h os kS tl h1 h2
/-- sorted(range(N), key = f), the keys pairs of ints -/
theorem w_sortedK {fr : Ent} {rg fa : Addr} {N : Nat} {ka kb : Nat → Int} {k : Value → Led → Prop} {r : Nat → Int} (hh : A.handled = none) (hN : 1 ≤ N) (hN2 : N < 64) (hm : (rg, rngP 0 N) ∈ fr :: l)
    (hkey : ∀ i t, i < N → W C A.in1.in1 (fr :: l) (call (.ref fa) [.int (i : Int) t]) (fun v l' => ∃ b, v = .ref b ∧ Sub ((b, tupP [ka i, kb i]) :: fr :: l) l') noE)
    (hr : ∀ i j, decide (r i < r j) = decide (ka i < ka j ∨ (ka i = ka j ∧ kb i < kb j)))
    (h : ∀ (D : Addr) (os : List Nat), os.Perm (List.range N) → os.Pairwise (fun i j => r i ≤ r j) → k (.ref D) (fr :: (D, intsP (os.map fun i : Nat => (i : Int))) :: l)) :
    W C A (fr :: l) (call (.builtin "sorted") [.ref rg] [(Str.ofString "key", .ref fa)]) k noE := by
  refine w_callBk kind_sorted plain_sorted entry_sorted (ksk_s1 _ _) ?_
  unfold Builtin.«sorted»
  refine w_bind (m := checkCount "sorted" 1 1 _) (w_pure ?_)
  refine w_bind (w_collect_rng hh hm (by decide) (by omega) (by omega) fun xs hxl hx => ?_)
  have hxl' : xs.length = N := by rw [hxl]; omega
  refine w_bind (w_newListF (fun D => ?_) (by rw [sizeLine_eq]; omega))
  refine w_bind (w_holding (w_call_entry_kw slot_list_sort (.tail _ (.head _)) (fun o ho => by obtain ⟨n, rfl⟩ := ho; rfl) entry_list_sort ?_ (ksk_l1 _ _)))
  show W C A.in1.in1 _ (Builtin.«list.sort» ⟨[.ref D], [(Str.ofString "key", .ref fa)]⟩) _ _
  rw [ksk_t1]
  refine W.sub (l' := (D, freshP xs) :: fr :: l) (.pick1 (.tail .head) (.pick1 .head .refl)) ?_
  have hv : ∀ (i : Nat) v, xs[i]? = some v → ∃ t, v = Value.int (i : Int) t := fun i v hv => by
    obtain ⟨t, e⟩ := hx i v hv
    exact ⟨t, by rw [e]; congr 1; omega⟩
  refine w_ksk (r := r) hN hN2 hxl' hv hkey hr fun os kS tl hp ho => ⟨_, rfl, W.sub (l' := fr :: (D, intsP (os.map fun i : Nat => (i : Int))) :: l) ?_ (w_pure ⟨_, rfl, h D os hp ho⟩)⟩
  refine Sub.trans (Sub.perm (List.Perm.swap _ _ _)) (.pick .head (fun o h => ?_) (.skip (Sub.skipL .refl tl)))
  obtain ⟨n, rfl⟩ := h
  exact ⟨_, ints_of_at (by simp) (fun i v hi => by
    obtain ⟨j, hj, rfl⟩ := List.mem_map.mp (List.mem_of_getElem? hi)
    have hjN : j < N := List.mem_range.mp (hp.mem_iff.mp hj)
    have hij : os[i]? = some j ∨ True := .inr trivial
    rw [List.getElem?_map] at hi
    obtain ⟨j', hj', e⟩ := Option.map_eq_some_iff.mp hi
    have hjN' : j' < N := List.mem_range.mp (hp.mem_iff.mp (List.mem_of_getElem? hj'))
    obtain ⟨t, e2⟩ := hv j' xs[j'] (by simp [hxl', hjN'])
    refine ⟨t, ?_⟩
    rw [← e]
    have e3 : xs.getD j' Value.none = xs[j'] := by simp [hxl', hjN']
    rw [e3, e2]
    simp [hj']), rfl, _, rfl⟩
end
end Mine
end
/-! P0 -/
section
set_option linter.all false
namespace Mine
/-! the law in plain words -/
def sumN : Nat → (Nat → Int) → Int
  | 0, _ => 0
  | n + 1, f => sumN n f + f n
def cardBut (N : Nat) (A : Nat → Bool) (u : Nat) : Int := sumN N fun v => if A v = true ∧ v ≠ u then 1 else 0
/-- Fulkerson's condition, for every set -/
def Ful (N : Nat) (c g : Nat → Int) : Prop := ∀ A : Nat → Bool, sumN N (fun v => if A v then c v else 0) ≤ sumN N fun u => min (g u) (cardBut N A u)
structure GoodF (N : Nat) (c g : Nat → Int) : Prop where
  pos : ∀ v, v < N → 0 ≤ c v ∧ 0 ≤ g v
  sum : sumN N c = sumN N g
  ful : Ful N c g
end Mine
end
/-! H30 -/
section
open PySem PySem.W PySem.Calls PyProof.Rows
set_option maxRecDepth 100000
set_option linter.all false
namespace Mine
local macro_rules | `(tactic| walk_at "lk") => `(tactic| first | with_reducible exact look_eq | (rw [lookup_put, if_neg (by decide)]; walk_at "lk") | assumption | exact rfl)
local macro_rules | `(tactic| walk_at "in") => `(tactic| first | exact List.Mem.head _ | (refine List.Mem.tail _ ?_; walk_at "in"))
local macro_rules | `(tactic| walk_at "pk") => `(tactic| first | exact Pick.head | (apply Pick.tail; walk_at "pk"))
local macro_rules | `(tactic| walk_at "rp") => `(tactic| first | exact Rep.head | (apply Rep.tail; walk_at "rp"))
local macro_rules | `(tactic| walk_at "sub") => `(tactic| first | exact Sub.refl | (refine Sub.pick1 (by walk_at "pk") ?_; walk_at "sub") | exact Sub.nil | (refine Sub.skip ?_; walk_at "sub"))
section
variable {α β : Type} {C : Cx} {A : Around} {l : Led} {e : Value → Led → Prop} {env : Env}
theorem Pass.and {Pr : Prop} (h : Pass C A env e) : Pass C A env (fun x l => Pr ∧ e x l) := by
  obtain ⟨eH, h1, h2⟩ := h.step
  exact ⟨fun x l => Pr ∧ eH x l, fun x l hx => (h1 x l hx.2).mono (fun _ _ z => ⟨hx.1, z⟩) (fun _ _ z => z), fun x l hx => (h2 x l hx.2).mono (fun _ _ z => ⟨hx.1, z⟩) (fun _ _ z => z)⟩
def kS (c g : Nat → Int) (v : Nat) : List Int := [-1 * g v, -1 * c v, (v : Int)]
def kZ (g : Nat → Int) (v : Nat) : List Int := [-1 * g v, (v : Int)]
def at0 (l : List Int) (v : Nat) : Int := l.getD v 0
theorem sub_raise {L ea : Addr} {vs : Vars} {outer : Frs} {tail X : Led} (h : Sub (frL outer ++ tail) X) : Sub (frL ((L, vs) :: outer) ++ (ea, excN) :: tail) ((ea, excN) :: (L, nsP vs) :: X) :=
  .pick1 (.tail .head) (Sub.mid.trans (.pick1 .head h))
theorem kS_inj {c g : Nat → Int} (u w : Nat) (h : kS c g u = kS c g w) : u = w := by simp [kS] at h; omega
theorem kZ_inj {g : Nat → Int} (u w : Nat) (h : kZ g u = kZ g w) : u = w := by simp [kZ] at h; omega
theorem Told.more {l : Led} {p : Ent} {x : Itm} (h : Told l x) : Told (p :: l) x := let ⟨a, e, hm⟩ := h; ⟨a, e, .tail _ hm⟩
theorem told_app {tp : Led} {ps : List Itm} {b : Addr} {k : List Int} (h : ∀ x ∈ ps, Told tp x) : ∀ x ∈ ps ++ [((.ref b : Value), k)], Told ((b, tupP k) :: tp) x := fun x hx => by
  rcases List.mem_append.mp hx with hx | hx
  · exact (h x hx).more
  · rw [List.mem_singleton.mp hx]; exact ⟨b, rfl, .head _⟩
structure V1 (vs : Vars) (a1 a2 g st zt : Addr) (N : Nat) (sI sO mx : Int) : Prop where
  i : vs.lookup ("in_deg_sequence" : Str) = some (.ref a1)
  o : vs.lookup ("out_deg_sequence" : Str) = some (.ref a2)
  nin : ∃ t, vs.lookup ("nin" : Str) = some (.int N t)
  nout : ∃ t, vs.lookup ("nout" : Str) = some (.int N t)
  maxn : ∃ t, vs.lookup ("maxn" : Str) = some (.int N t)
  G : vs.lookup ("G" : Str) = some (.ref g)
  st : vs.lookup ("stubheap" : Str) = some (.ref st)
  zt : vs.lookup ("zeroheap" : Str) = some (.ref zt)
  sI : ∃ t, vs.lookup ("sumin" : Str) = some (.int sI t)
  sO : ∃ t, vs.lookup ("sumout" : Str) = some (.int sO t)
  mx : ∃ t, vs.lookup ("maxin" : Str) = some (.int mx t)
structure EdgesOk (N : Nat) (c g : Nat → Int) (G : GS) (E : List (Nat × Nat)) : Prop where
  nd : E.Nodup
  ok : ∀ p ∈ E, p.1 < N ∧ p.2 < N ∧ p.1 ≠ p.2
  ins : ∀ v, v < N → (E.countP (fun p => p.2 == v) : Int) = c v
  outs : ∀ v, v < N → (E.countP (fun p => p.1 == v) : Int) = g v
  adjN : G.adj.length = N
  naN : G.na.length = N
  adj : ∀ u, u < N → ∃ au kv, G.adj[u]? = some (au, kv) ∧ kv.map (·.1) = (E.filter (fun p => p.1 == u)).map (fun p => (p.2 : Int))
end
end Mine
end
/-! Q0 -/
section
open PySem PySem.W PySem.Calls PyProof.Rows
set_option maxRecDepth 100000
set_option linter.all false
namespace Mine
section
variable {α β : Type} {C : Cx} {A : Around} {l : Led} {e : Value → Led → Prop} {env : Env}
theorem w_Call_NameK {x : Str} {p pos : Pos} {args : List Expr} {kws : List Keyword} {k : Value → Led → Prop}
    (h : W C A l (eval (.Name x p) env) (fun f l₁ => W C A l₁ (callWith pos f [] (backTo pos (starEach args env)) (backToKw pos (keywordEach kws env))) k e) e) : W C A l (eval (.Call (.Name x p) args kws pos) env) k e := fun r _ hs =>
  wpAny_bind (h.step hs fun _ _ s' h' hs' => h' r s' hs')
theorem w_callWith_kw1 {pos kp : Pos} {id : String} {x value : Expr} {rest : List Expr} {name : Str} {k : Value → Led → Prop}
    (h : W C A l (spliced (backTo pos (starEach (x :: rest) env))) (fun vs l₁ => W C A l₁ (eval value env) (fun v l₂ => W C A l₂ (call (.builtin id) vs [(name, v)]) k e) e) e)
    (he : backTo pos (starEach (x :: rest) env) = (false, eval x env) :: backTo pos (starEach rest env) := by rfl) (hplain : (backTo pos (starEach (x :: rest) env)).any (·.1) = false := by rfl) :
    W C A l (callWith pos (.builtin id) [] (backTo pos (starEach (x :: rest) env)) (backToKw pos (keywordEach [⟨some name, value, kp⟩] env))) k e := fun r s hs =>
  callWith_kw (h.step hs fun vs l₁ s₁ h₁ hs₁ => kws_cons (h₁.step hs₁ fun v l₂ s₂ h₂ hs₂ => kws_nil (h₂ r s₂ hs₂))) he hplain
/-- [elt for x in a list of ints], the element an int, nothing changed -/
theorem w_CompInts {elt iter : Expr} {x : Str} {px : Pos} {scope : Scope} {cl : List (Str × Addr)} {pos : Pos} {k : Value → Led → Prop} (f : Int → Int) (ns : List Int) (hh : A.handled = none) (hclos : closureFor scope env = pure cl) (hz : ns.length ≤ 1000)
    (h : W C A l (eval iter env) (fun v l₁ => ∃ a fr l₂, v = .ref a ∧ l₁ = fr :: l₂ ∧ (∀ X, Ints C (X ++ l₁) a ns) ∧
      (∀ cL D vs ys n t, n ∈ ns → vs.lookup x = some (.int n t) → W C A ((cL, nsP vs) :: (D, freshP ys) :: l₁) (eval elt (compEnvC scope cl cL env)) (fun v l' => ∃ t, v = .int (f n) t ∧ l' = (cL, nsP vs) :: (D, freshP ys) :: l₁) noE) ∧
      (∀ D, k (.ref D) (fr :: (D, intsP (ns.map f)) :: l₂))) e)
    (hx : scope.names.lookup x = some .local := by rfl) (hcell : ∀ y ∈ scope.names, y.2 ≠ .cell := by decide) (hkind : scope.kind = .function := by rfl) (hnames : ∀ y ∈ scope.names, y.2 = .local → scope.names.lookup y.1 = some .local := by decide)
    (hs : ∀ x, foldedSetIterable iter env x = pure x := by intro _; rfl) :
    W C A l (eval (.ListComp elt [⟨.Name x px, iter, [], 0⟩] scope pos) env) k e := by
  refine w_ListComp (n := ns.length) (val := fun i v => ∃ n t, ns[i]? = some n ∧ v = .int n t) (fun a l₂ => Ints C l₂ a ns)
    (fun a D cL i l' => ∃ fr l₂ vs ys, l' = (cL, nsP vs) :: (D, freshP ys) :: fr :: l₂ ∧ IntsAre ys ((ns.take i).map f) ∧ i ≤ ns.length ∧ (∀ X, Ints C (X ++ fr :: l₂) a ns) ∧
      (∀ cL D vs ys n t, n ∈ ns → vs.lookup x = some (.int n t) → W C A ((cL, nsP vs) :: (D, freshP ys) :: fr :: l₂) (eval elt (compEnvC scope cl cL env)) (fun v l' => ∃ t, v = .int (f n) t ∧ l' = (cL, nsP vs) :: (D, freshP ys) :: fr :: l₂) noE) ∧
      (∀ D, k (.ref D) (fr :: (D, intsP (ns.map f)) :: l₂))) hclos ?_ ?_ ?_ hcell hkind hnames hs
  · refine h.mono (fun v l₁ ⟨a, fr, l₂, e1, e2, hI, he, hk⟩ => ?_) fun _ _ z => z
    subst e1 e2
    refine ⟨a, gives_ints hh (hI []), ?_, fun D cL => ⟨fr, l₂, [], [], rfl, .nil, Nat.zero_le _, hI, he, hk⟩⟩
    rintro D cL i l' ⟨fr', l₂', vs, ys, rfl, _, _, hI', _⟩
    exact hI' [_, _]
  · rintro a D cL i v l' hi ⟨fr, l₂, vs, ys, rfl, hys, _, hI, he, hk⟩ ⟨n, t, hn, rfl⟩
    have hyl := hys.length
    simp only [List.length_map, List.length_take] at hyl
    refine w_assign_Name <| w_storeL rfl (w_ctests0 ⟨fun _ => ?_, fun q => nomatch q⟩) (lookup_relabel_local hx) (by simp [compEnvC, relabel, hkind])
    refine (he cL D (put x (.int n t) vs) ys n t (List.mem_of_getElem? hn) (by rw [lookup_put, if_pos rfl])).mono (fun v l' ⟨t', e1, e2⟩ => ?_) fun _ _ z => z
    subst e1 e2
    refine w_append (vs := ys) (.tail .head) (by omega) ⟨fr, l₂, _, _, rfl, ?_, hi, hI, he, hk⟩
    have : (ns.take (i + 1)).map f = (ns.take i).map f ++ [f n] := by
      rw [List.take_add_one, hn]; simp
    rw [this]
    exact hys.append (.cons _ _ .nil)
  · rintro a D cL l' ⟨fr, l₂, vs, ys, rfl, hys, _, hI, he, hk⟩
    rw [List.take_length] at hys
    exact ⟨vs, _, .pick1 .head (.pick1 (.tail .head) (.pick .head (fun o ho => by obtain ⟨n, rfl⟩ := ho; exact ⟨ys, hys, rfl, n, rfl⟩) .refl)), hk D⟩
end
end Mine
end
/-! D1 -/
section
open PySem PySem.W PySem.Calls PyProof.Rows
set_option maxRecDepth 100000
set_option linter.all false
namespace Mine
section
variable {α β : Type} {C : Cx} {A : Around} {l : Led} {e : Value → Led → Prop} {env : Env}
/-- [1 for .. in a list if ..] -/
theorem w_CompOnes {target test iter : Expr} {scope : Scope} {cl : List (Str × Addr)} {pos cpos : Pos} {kd : Nat} {k : Value → Led → Prop} (f : Nat → Bool) (vs : List Value) (hh : A.handled = none) (hclos : closureFor scope env = pure cl) (hz : vs.length ≤ 1000)
    (h : W C A l (eval iter env) (fun v l₁ => ∃ a fr l₂, v = .ref a ∧ l₁ = fr :: l₂ ∧ (a, seqP "list" vs) ∈ l₁ ∧
      (∀ cL D V ys i x, vs[i]? = some x → W C A ((cL, nsP V) :: (D, freshP ys) :: l₁) (assign target (compEnvC scope cl cL env) x) (fun _ l₃ => W C A l₃ (isTrue test (compEnvC scope cl cL env) (eval test (compEnvC scope cl cL env))) (fun ok l₄ => ok = f i ∧ ∃ V', l₄ = (cL, nsP V') :: (D, freshP ys) :: l₁) noE) noE) ∧
      (∀ D ys, ys.length = (List.range vs.length).countP f → k (.ref D) (fr :: (D, freshP ys) :: l₂))) e)
    (hcell : ∀ y ∈ scope.names, y.2 ≠ .cell := by decide) (hkind : scope.kind = .function := by rfl) (hnames : ∀ y ∈ scope.names, y.2 = .local → scope.names.lookup y.1 = some .local := by decide)
    (hs : ∀ x, foldedSetIterable iter env x = pure x := by intro _; rfl) (ht : ∀ it v, letOwnedTupleGo target it v = pure () := by intro _ _; rfl) :
    W C A l (eval (.ListComp (.Constant (.int 1) kd cpos) [⟨target, iter, [test], 0⟩] scope pos) env) k e := by
  refine w_ListComp (n := vs.length) (val := fun i v => vs[i]? = some v) (fun a l₂ => (a, seqP "list" vs) ∈ l₂)
    (fun a D cL i l' => ∃ fr l₂ V ys, l' = (cL, nsP V) :: (D, freshP ys) :: fr :: l₂ ∧ ys.length = (List.range i).countP f ∧ i ≤ vs.length ∧ (a, seqP "list" vs) ∈ fr :: l₂ ∧
      (∀ cL D V ys i x, vs[i]? = some x → W C A ((cL, nsP V) :: (D, freshP ys) :: fr :: l₂) (assign target (compEnvC scope cl cL env) x) (fun _ l₃ => W C A l₃ (isTrue test (compEnvC scope cl cL env) (eval test (compEnvC scope cl cL env))) (fun ok l₄ => ok = f i ∧ ∃ V', l₄ = (cL, nsP V') :: (D, freshP ys) :: fr :: l₂) noE) noE) ∧
      (∀ D ys, ys.length = (List.range vs.length).countP f → k (.ref D) (fr :: (D, freshP ys) :: l₂))) hclos ?_ ?_ ?_ hcell hkind hnames hs ht
  · refine h.mono (fun v l₁ ⟨a, fr, l₂, e1, e2, hm, he, hk⟩ => ?_) fun _ _ z => z
    subst e1 e2
    refine ⟨a, gives_seq hh hm, ?_, fun D cL => ⟨fr, l₂, [], [], rfl, rfl, Nat.zero_le _, hm, he, hk⟩⟩
    rintro D cL i l' ⟨fr', l₂', V, ys, rfl, _, _, hm', _⟩
    exact .tail _ (.tail _ hm')
  · rintro a D cL i v l' hi ⟨fr, l₂, V, ys, rfl, hys, _, hm, he, hk⟩ hv
    have hle : ys.length ≤ i := by rw [hys]; have := List.countP_le_length (p := f) (l := List.range i); simpa using this
    have hsucc : (List.range (i + 1)).countP f = (List.range i).countP f + if f i then 1 else 0 := by
      rw [List.range_succ, List.countP_append]
      cases hf : f i <;> simp [hf]
    refine (he cL D V ys i v hv).mono (fun _ l₃ h₃ => w_ctests1 (h₃.mono (fun ok l₄ ⟨e1, V', e2⟩ => ?_) fun _ _ z => z)) fun _ _ z => z
    subst e1 e2
    refine ⟨fun ho => w_Const_int fun t => ?_, fun ho => ?_⟩
    · refine w_append (vs := ys) (.tail .head) (by omega) ⟨fr, l₂, V', _, rfl, ?_, hi, hm, he, hk⟩
      rw [hsucc, ho, List.length_append, hys]; rfl
    · refine ⟨fr, l₂, V', ys, rfl, ?_, hi, hm, he, hk⟩
      rw [hsucc, ho, hys]; rfl
  · rintro a D cL l' ⟨fr, l₂, V, ys, rfl, hys, _, hm, he, hk⟩
    exact ⟨V, _, .pick1 .head (.pick1 (.tail .head) (.pick1 .head .refl)), hk D ys hys⟩
end
end Mine
end
/-! N1 -/
section
open PySem PySem.W PySem.Calls PyProof.Rows
open PySem.Sem (wp)
set_option maxRecDepth 100000
set_option linter.all false
namespace Mine
/-! a stretch of a generator's run -/
def GSeg (M : Model) (A : Around) (Φ : End → Shared → Prop) (c : Code) (t : Sem Fin) (fs : List Frame) (s : Shared) : Prop :=
  ∀ Γ p, Γ.code = c → Γ.Woken A → ∃ e s', Runs M Γ p t fs s e s' ∧ Φ e s'
section
variable {M : Model} {A : Around} {Φ : End → Shared → Prop} {c : Code} {fs : List Frame} {s : Shared}
theorem gseg_wrap {α : Type} {m : Sem α} {K : α → Sem Fin} {H : Value → Sem Fin} {gd lv}
    (h : wpAny M (A.over c fs) m (fun a s' => GSeg M A Φ c (K a) fs s') (fun x s' => GSeg M A Φ c (H x) fs s') s) : GSeg M A Φ c (m.wrap K H gd lv) fs s := by
  rintro Γ p rfl hΓ
  exact runs_wrap_of_wp K H gd lv m (h (Γ.over fs) p (hΓ.over fs)) (fun a p' s' h' => h' Γ p' rfl hΓ) (fun x p' s' h' => h' Γ p' rfl hΓ)
theorem gseg_call {c' : Code} {h g l} {k : Result → Sem Fin} (hc : ∀ p, GSeg M A Φ c' (M.den c') (.ret k h g l c p [] :: fs) s) : GSeg M A Φ c (.call c' h g l k) fs s := by
  rintro Γ p rfl hΓ
  obtain ⟨e, s', hr, he⟩ := hc p (Γ.goto c') p rfl (hΓ.goto c')
  exact ⟨e, s', runs_call_seg hr, he⟩
theorem gseg_leaf {k h g l c₁ p₁ kp} (r : Result) (hk : GSeg M A Φ c₁ (k r) fs s) : GSeg M A Φ c (leafOf r) (.ret k h g l c₁ p₁ kp :: fs) s := by
  rintro Γ p rfl hΓ
  obtain ⟨e, s', hr, he⟩ := hk (Γ.goto c₁) p₁ rfl (hΓ.goto c₁)
  exact ⟨e, s', Runs.pop r hr, he⟩
theorem gseg_again {c' : Code} (hq : c'.quiet = true) (hc : GSeg M A Φ c' (M.den c') fs s) : GSeg M A Φ c (.pure (.again c')) fs s := by
  rintro Γ p rfl hΓ
  obtain ⟨e, s', hr, he⟩ := hc (Γ.goto c') p rfl (hΓ.goto c')
  exact ⟨e, s', Runs.head (c₁ := c') (fun _ _ x => .again hq x) hr, he⟩
theorem gseg_end (r : Result) (h : Φ (.ret r) s) : GSeg M A Φ c (leafOf r) [] s := by
  rintro Γ p rfl _
  exact ⟨.ret r, s, Runs.leaf r, h⟩
theorem gseg_yield {v g l} {k : Resume → Sem Fin} (hfs : splitAtGen fs = none) (h : ∀ p, Φ (.susp v g l k c p fs) s) : GSeg M A Φ c (.yield v g l k) fs s := by
  rintro Γ p rfl _
  exact ⟨_, s, Runs.yield' fs hfs, h p⟩
end
/-- a waiting generator woken -/
def Wake (M : Model) (A : Around) (Φ : End → Shared → Prop) (gs : GenState) (s : Shared) : Prop :=
  match gs with
  | .fresh c => GSeg M A Φ c (M.den c) [] s
  | .suspended k _ c _ fs _ => GSeg M A Φ c (k (.send .none)) fs s
  | _ => False
theorem wpAny_resumeG {M : Model} {A : Around} {Φ : End → Shared → Prop} {E : Value → Shared → Prop} {s : Shared} {g : Nat} {gs : GenState} {l : List Value} {α : Type} {k : GenResult → Sem α} {Q : α → Shared → Prop} (hg : s.gens[g]? = some gs)
    (hgo : Wake M A Φ gs (s.setGen g .running)) (hq : ∀ e s₁, Φ e s₁ → e.quiet = true) (hΦ : ∀ e s₁, Φ e s₁ → wpAny M A (k e.result) Q E (s₁.setGen g e.genState)) : wpAny M A (.resume g (.send .none) l k) Q E s := by
  intro Γ p hΓ
  rw [Sem.wp_resume]
  have hB : ∀ c, (Γ.wake c p).Woken A := fun c => hΓ.wake c p
  cases gs with
  | fresh c =>
    obtain ⟨e₁, s₁, hr, he⟩ := hgo (Γ.wake c p) p rfl (hB c)
    exact ⟨_, _, by unfold Wakes; rw [hg]; exact ⟨e₁, s₁, hr, hq e₁ s₁ he, rfl, rfl⟩, hΦ e₁ s₁ he Γ p hΓ⟩
  | suspended k₀ l₀ c₀ p₀ fs₀ cl =>
    obtain ⟨e₁, s₁, hr, he⟩ := hgo (Γ.wake c₀ p) p₀ rfl (hB c₀)
    exact ⟨_, _, by unfold Wakes; rw [hg]; exact ⟨e₁, s₁, hr, hq e₁ s₁ he, rfl, rfl⟩, hΦ e₁ s₁ he Γ p hΓ⟩
  | running => exact hgo.elim
  | finished => exact hgo.elim
section
variable {prog : Program} {w : World} {A : Around} {E : Value → Shared → Prop} {s : Shared}
def EndOk (e : End) : Prop := e = .ret (.ok .next) ∨ e = .ret (.ok (.ret .none))
theorem wpAny_pyNextG {a : Addr} {g : Nat} {gs : GenState} {Φ : End → Shared → Prop} {Q : Option Value → Shared → Prop} (hh : A.handled = none)
    (hl : s.heap.NoLimit) (hroom : A.depth < recursionLimit) (hg : s.heap.IsGen a g) (hgs : s.gens[g]? = some gs)
    (hgo : Wake (model prog w) A.in1 Φ gs (s.setGen g .running)) (hq : ∀ e s₁, Φ e s₁ → e.quiet = true)
    (hΦ : ∀ e s₁, Φ e s₁ → match e with
      | .susp v _ _ _ _ _ _ => Q (some v) (s₁.setGen g e.genState)
      | e => EndOk e ∧ ∀ h', (∀ b o, s₁.heap.get? b = some o → h'.get? b = some o) → Q none { s₁.setGen g .finished with heap := h' }) : wpAny (model prog w) A (pyNext (.ref a)) Q E s := by
  unfold pyNext
  refine wpAny_bind (wpAny_attempt (wpAny_callSpecial?_slot (name := Str.ofString "__next__") hg.typeIs slot_gen_next
    (wpAny_call_entry slot_gen_next hg.typeIs entry_gen_next ?_ (args_gen_next _))))
  show wpAny _ A.in1 (Builtin.Generator.genWake (.ref a) (.send .none)) _ _ s
  unfold Builtin.Generator.genWake
  refine wpAny_bind (wpAny_holding (wpAny_genNumber hg (wpAny_bind (wpAny_genState hgs ?_))))
  cases gs with
  | running => exact hgo.elim
  | finished => exact hgo.elim
  | _ =>
    refine wpAny_bind (wpAny_roomToWake hl hroom ?_)
    show wpAny _ A.in1 (.resume g (.send .none) [] _) _ _ s
    refine wpAny_resumeG hgs hgo hq (fun e s₁ he => ?_)
    have h1 := hΦ e s₁ he
    cases e with
    | ret x =>
      obtain ⟨h2, h3⟩ := h1
      rcases h2 with h2 | h2
      all_goals
        cases h2
        show wpAny _ A.in1 (newExc (.type "StopIteration") [] >>= _) _ _ _
        refine wpAny_bind ?_
        simp only [newExc, newTuple]
        refine wpAny_bind (wpAny_newObj_type ?_ (by size_fits))
        refine wpAny_bind (m := firstArgMember _ _) (wpAny_of_eq (a := Value.none) (by first | rfl | (simp only [firstArgMember]; rfl)) ?_)
        refine wpAny_newObj_type ?_ (by size_fits)
        simp only [raiseNew]
        refine wpAny_bind (wpAny_bind (wpAny_handled ?_))
        first | rw [show A.in1.handled = none from hh] | rw [hh]
        refine wpAny_throw ?_
        refine wpAny_bind (wpAny_isInstance (T := "StopIteration") (b := true) ⟨_, Heap.get?_push_size _ rfl, rfl⟩ isSubtype_stop ?_)
        exact wpAny_pure (h3 _ fun b o hb => Heap.get?_push_of_some _ (Heap.get?_push_of_some _ hb))
    | susp v g0 l0 k0 c0 p0 fs0 => exact wpAny_pure ⟨v, rfl, wpAny_pure h1⟩
end
end Mine
end
/-! N2 -/
section
open PySem PySem.W PySem.Calls PyProof.Rows
open PySem.Sem (wp)
set_option maxRecDepth 100000
set_option linter.all false
namespace Mine
/-- the same with the generators known exactly -/
abbrev Cx.g (C : Cx) (G : Array GenState) : Cx := { C with gi := (· = G) }
section
variable {C : Cx} {A : Around} {l : Led}
/-- all that is not told by X, exactly -/
def rest (B h : Heap) (X : Led) : Led := ((List.range h.objs.size).filter fun a => (h.get? a).isSome && !(X.map (·.1)).contains a && (B.get? a).isNone).map fun a => (a, fun o => h.get? a = some o)
theorem mem_rest {B h : Heap} {X : Led} {a : Addr} {o : Obj} (ho : h.get? a = some o) (hx : a ∉ X.map (·.1)) (hb : B.get? a = none) : (a, fun o => h.get? a = some o) ∈ rest B h X := by
  refine List.mem_map.mpr ⟨a, List.mem_filter.mpr ⟨List.mem_range.mpr (Heap.lt_size ho), ?_⟩, rfl⟩
  simp [ho, hb]
  simpa using hx
theorem of_rest {B h : Heap} {X : Led} {p : Ent} (hp : p ∈ rest B h X) : (∃ o, h.get? p.1 = some o) ∧ p.1 ∉ X.map (·.1) ∧ B.get? p.1 = none ∧ p.2 = fun o => h.get? p.1 = some o := by
  obtain ⟨a, ha, rfl⟩ := List.mem_map.mp hp
  obtain ⟨_, h2⟩ := List.mem_filter.mp ha
  simp only [Bool.and_eq_true, Bool.not_eq_true', Option.isNone_iff_eq_none, Option.isSome_iff_exists] at h2
  refine ⟨h2.1.1, ?_, h2.2, rfl⟩
  have := h2.1.2
  simpa using this
theorem rest_nd {B h : Heap} {X : Led} : ((rest B h X).map (·.1)).Nodup := by
  unfold rest
  rw [List.map_map]
  have : ((fun x : Ent => x.1) ∘ fun a => ((a, fun o => h.get? a = some o) : Ent)) = id := rfl
  rw [this, List.map_id]
  exact List.nodup_range.sublist List.filter_sublist
theorem St.rest {X r : Led} {s : Shared} (h : St C (X ++ r) s) : St C (X ++ rest C.B s.heap X) s := by
  refine ⟨⟨h.hp.base, fun p hp => ?_, ?_, h.hp.gm⟩, h.bare, h.os⟩
  · rcases List.mem_append.mp hp with hp | hp
    · exact h.hp.own p (List.mem_append_left _ hp)
    · obtain ⟨⟨o, ho⟩, _, hb, e⟩ := of_rest hp
      exact ⟨⟨o, ho, by rw [e]; exact ho⟩, hb⟩
  · have nd := h.hp.nd
    rw [List.map_append, List.nodup_append] at nd ⊢
    refine ⟨nd.1, rest_nd, fun x hx y hy => ?_⟩
    obtain ⟨q, hq, rfl⟩ := List.mem_map.mp hy
    rintro rfl
    exact (of_rest hq).2.1 hx
theorem rest_max {X r' : Led} {s₀ s : Shared} (h0 : St C (X ++ r') s₀) (h1 : St C (l ++ Mine.rest C.B s₀.heap X) s) : St C (l ++ r') s := by
  have key : ∀ p ∈ r', ∃ q ∈ Mine.rest C.B s₀.heap X, q.1 = p.1 ∧ ∀ o, q.2 o → p.2 o := fun p hp => by
    obtain ⟨⟨o, ho, hP⟩, hb⟩ := h0.hp.own p (List.mem_append_right _ hp)
    have nd := h0.hp.nd
    rw [List.map_append, List.nodup_append] at nd
    refine ⟨_, mem_rest ho (fun hx => nd.2.2 _ hx _ (List.mem_map_of_mem hp) rfl) hb, rfl, fun o' ho' => ?_⟩
    have ho' : s₀.heap.get? p.1 = some o' := ho'
    rw [ho] at ho'
    cases ho'; exact hP
  refine h1.sub fun nd => ?_
  rw [List.map_append, List.nodup_append] at nd
  have nd0 := h0.hp.nd
  rw [List.map_append, List.nodup_append] at nd0
  refine ⟨?_, fun p hp => ?_⟩
  · rw [List.map_append, List.nodup_append]
    refine ⟨nd.1, nd0.2.1, fun x hx y hy => ?_⟩
    obtain ⟨p, hp, rfl⟩ := List.mem_map.mp hy
    obtain ⟨q, hq, e, _⟩ := key p hp
    rw [← e]
    exact nd.2.2 _ hx _ (List.mem_map_of_mem hq)
  · rcases List.mem_append.mp hp with hp | hp
    · exact ⟨p, List.mem_append_left _ hp, rfl, fun _ x => x⟩
    · obtain ⟨q, hq, z⟩ := key p hp
      exact ⟨q, List.mem_append_right _ hq, z⟩
/-! a generator with what it owns -/
abbrev YItem := Value → Led → Prop
def LGen (C : Cx) (A : Around) (F : Led) : List YItem → Led → GenState → Prop
  | [], X, gs => ∀ G s r, St (C.g G) (X ++ r) s → Wake (model P C.w) A (fun e s' => EndOk e ∧ ∀ r', St (C.g G) (X ++ r') s → St (C.g G) (F ++ r') s') gs s
  | it :: its, X, gs => ∀ G s r, St (C.g G) (X ++ r) s → Wake (model P C.w) A (fun e s' => e.quiet = true ∧ ∃ v g l k c p fs, e = .susp v g l k c p fs ∧ ∃ X' e', it v e' ∧
      (∀ r', St (C.g G) (X ++ r') s → St (C.g G) (e' ++ (X' ++ r')) s') ∧ LGen C A F its X' e.genState) gs s
def EndP (C : Cx) (A : Around) (F : Led) (G : Array GenState) (s : Shared) (X : Led) : List YItem → End → Shared → Prop
  | [] => fun e s' => EndOk e ∧ ∀ r', St (C.g G) (X ++ r') s → St (C.g G) (F ++ r') s'
  | it :: its => fun e s' => e.quiet = true ∧ ∃ v g l k c p fs, e = .susp v g l k c p fs ∧ ∃ X' e', it v e' ∧ (∀ r', St (C.g G) (X ++ r') s → St (C.g G) (e' ++ (X' ++ r')) s') ∧ LGen C A F its X' e.genState
theorem lgen_iff {its : List YItem} {X : Led} {gs : GenState} : LGen C A F its X gs ↔ ∀ G s r, St (C.g G) (X ++ r) s → Wake (model P C.w) A (EndP C A F G s X its) gs s := by
  cases its <;> rfl
/-- a stretch with its ledger -/
def LSeg (C : Cx) (A : Around) (F : Led) (G : Array GenState) (s₀ : Shared) (X : Led) (its : List YItem) (c : Code) (t : Sem Fin) (fs : List Frame) (l : Led) : Prop :=
  ∀ s, St (C.g G) (l ++ rest C.B s₀.heap X) s → GSeg (model P C.w) A (EndP C A F G s₀ X its) c t fs s
variable {F : Led} {G : Array GenState} {s₀ : Shared} {X : Led} {its : List YItem} {c : Code} {fs : List Frame}
theorem lseg_wrap {α : Type} {m : Sem α} {K : α → Sem Fin} {H : Value → Sem Fin} {gd lv} (h : W (C.g G) (A.over c fs) l m (fun a l' => LSeg C A F G s₀ X its c (K a) fs l') noE) : LSeg C A F G s₀ X its c (m.wrap K H gd lv) fs l := fun s hs =>
  gseg_wrap (h.then hs (fun a l' s' hk hs' => hk s' hs') fun _ _ _ z => z.elim)
theorem lseg_bind {α : Type} {m : Sem α} {K : α → Sem Fin} (h : W (C.g G) (A.over c fs) l m (fun a l' => LSeg C A F G s₀ X its c (K a) fs l') noE) : LSeg C A F G s₀ X its c (m >>= K) fs l := by
  rw [Sem.bind_eq_wrap']; exact lseg_wrap h
theorem lseg_bind_wrap {α β : Type} {m : Sem α} {K : α → Sem β} {K' : β → Sem Fin} {H' : Value → Sem Fin} {gd lv} (h : W (C.g G) (A.over c fs) l m (fun a l' => LSeg C A F G s₀ X its c ((K a).wrap K' H' gd lv) fs l') noE) :
    LSeg C A F G s₀ X its c ((m >>= K).wrap K' H' gd lv) fs l := by
  rw [Sem.bind_eq_wrap', Sem.wrap_wrap]; exact lseg_wrap h
theorem LSeg.sub {l' : Led} {t : Sem Fin} (S : Sub l' l) (h : LSeg C A F G s₀ X its c t fs l') : LSeg C A F G s₀ X its c t fs l := fun s hs => h s (hs.sub (S.app _))
theorem lseg_at {p' : Pos} {k : Unit → Sem Fin} (h : LSeg C A F G s₀ X its c (k ()) fs l) : LSeg C A F G s₀ X its c (.at p' k) fs l := lseg_wrap (m := standAt p') (K := k) (H := .raise) (gd := id) (lv := id) (w_standAt h)
theorem lseg_point {q : List Value} {k : Unit → Sem Fin} (h : LSeg C A F G s₀ X its c (k ()) fs l) : LSeg C A F G s₀ X its c (.point q k) fs l := lseg_wrap (m := PySem.point) (K := k) (H := .raise) (gd := id) (lv := fun _ => q) (w_point h)
theorem lseg_call {c' : Code} {h g q} {k : Result → Sem Fin} (hc : ∀ p, LSeg C A F G s₀ X its c' ((model P C.w).den c') (.ret k h g q c p [] :: fs) l) : LSeg C A F G s₀ X its c (.call c' h g q k) fs l := fun s hs => gseg_call fun p => hc p s hs
theorem lseg_leaf {k h g q c₁ p₁ kp} (r : Result) (hk : LSeg C A F G s₀ X its c₁ (k r) fs l) : LSeg C A F G s₀ X its c (leafOf r) (.ret k h g q c₁ p₁ kp :: fs) l := fun s hs => gseg_leaf r (hk s hs)
theorem lseg_again {c' : Code} (hq : c'.quiet = true) (hc : LSeg C A F G s₀ X its c' ((model P C.w).den c') fs l) : LSeg C A F G s₀ X its c (.pure (.again c')) fs l := fun s hs => gseg_again hq (hc s hs)
theorem lseg_end {f : Flow} (hf : f = .next ∨ f = .ret .none) (hF : Sub F l) : LSeg C A F G s₀ X [] c (.pure (.done f)) [] l := fun s hs =>
  gseg_end (.ok f) ⟨by rcases hf with rfl | rfl; exact .inl rfl; exact .inr rfl, fun r' h0 => (rest_max (C := C.g G) h0 hs).sub (hF.app r')⟩
theorem lseg_yield {it : YItem} {v g q} {k : Resume → Sem Fin} {X' e' : Led} (hfs : splitAtGen fs = none) (hg : g = false) (hfg : fs.any Frame.guarded = false) (hit : it v e')
    (hn : ∀ G' s₁, LSeg C A F G' s₁ X' its c (k (.send .none)) fs X') : LSeg C A F G s₀ X (it :: its) c (.yield v g q k) fs (e' ++ X') := fun s hs =>
  gseg_yield hfs fun p => ⟨by simp [End.quiet, hg, hfg], v, g, q, k, c, p, fs, rfl, X', e', hit, fun r' h0 => by
      have := rest_max (C := C.g G) h0 hs
      rwa [List.append_assoc] at this, lgen_iff.mpr fun G' s' r hs' => hn G' s' s' hs'.rest⟩
theorem lgen_fresh (h : ∀ G s₁, LSeg C A F G s₁ X its c ((model P C.w).den c) [] X) : LGen C A F its X (.fresh c) := lgen_iff.mpr fun G s r hs => h G s s hs.rest
/-! the one who asks -/
def genP (g : Nat) (o : Obj) : Prop := ∃ nm qn, o = { cls := .type "generator", data := .fields #[.int g 0, nm, qn] }
theorem St.isGen {s : Shared} {r : Led} {a : Addr} {g : Nat} (hs : St C (l ++ r) s) (hm : (a, genP g) ∈ l) : s.heap.IsGen a g := by
  obtain ⟨o, ho, nm, qn, rfl⟩ := hs.get hm
  exact ⟨_, nm, qn, ho, rfl, rfl, rfl⟩
theorem next_lgen {it : YItem} {r : Led} {gs : GenState} {s : Shared} {a : Addr} {g : Nat} {E : Value → Shared → Prop} {Q : Option Value → Shared → Prop} (hlim : C.B.NoLimit) (hh : A.handled = none) (hroom : A.depth < recursionLimit)
    (hs : St (C.g s.gens) (X ++ r) s) (hm : (a, genP g) ∈ r) (hgs : s.gens[g]? = some gs) (hL : LGen C A.in1 F (it :: its) X gs)
    (hQ : ∀ v gs' X' e' s', it v e' → LGen C A.in1 F its X' gs' → gs'.bare = true → St (C.g s'.gens) (e' ++ (X' ++ r)) s' → s'.gens[g]? = some gs' → GenOnly g s.gens s'.gens → Q (some v) s') : wpAny (model P C.w) A (pyNext (.ref a)) Q E s := by
  obtain ⟨o, ho, nm, qn, rfl⟩ := (hs.hp.own (a, genP g) (List.mem_append_right _ hm)).1
  have hs' : St (C.g (s.setGen g .running).gens) (X ++ r) (s.setGen g .running) := ⟨hs.hp, rfl, hs.os⟩
  refine wpAny_pyNextG hh (hlim.keeps hs.hp.base) hroom ⟨_, nm, qn, ho, rfl, rfl, rfl⟩ hgs (hL _ _ r hs') (fun e s₁ he => he.1) (fun e s₁ he => ?_)
  obtain ⟨hq, v, gg, l, k, c, p, fs, rfl, X', e', hit, hst, hL'⟩ := he
  have h1 := hst r hs'
  have hb : s₁.gens = (s.setGen g .running).gens := h1.bare
  refine hQ v _ X' e' _ hit hL' (End.bare_of_quiet hq) ⟨h1.hp, rfl, h1.os⟩ ?_ ?_
  · exact setGen_self (gs := .running) (by rw [hb]; exact setGen_self hgs)
  · have := GenOnly.setGen s₁ g (End.susp v gg l k c p fs).genState
    rw [hb] at this
    exact (GenOnly.setGen s g .running).trans this
theorem end_lgen {r : Led} {gs : GenState} {s : Shared} {a : Addr} {g : Nat} {E : Value → Shared → Prop} {Q : Option Value → Shared → Prop} (hlim : C.B.NoLimit) (hh : A.handled = none) (hroom : A.depth < recursionLimit)
    (hs : St (C.g s.gens) (X ++ r) s) (hm : (a, genP g) ∈ r) (hgs : s.gens[g]? = some gs) (hL : LGen C A.in1 F [] X gs)
    (hQ : ∀ s', St (C.g s'.gens) (F ++ r) s' → s'.gens[g]? = some .finished → GenOnly g s.gens s'.gens → Q none s') : wpAny (model P C.w) A (pyNext (.ref a)) Q E s := by
  obtain ⟨o, ho, nm, qn, rfl⟩ := (hs.hp.own (a, genP g) (List.mem_append_right _ hm)).1
  have hs' : St (C.g (s.setGen g .running).gens) (X ++ r) (s.setGen g .running) := ⟨hs.hp, rfl, hs.os⟩
  refine wpAny_pyNextG hh (hlim.keeps hs.hp.base) hroom ⟨_, nm, qn, ho, rfl, rfl, rfl⟩ hgs (hL _ _ r hs') (fun e s₁ he => ?_) (fun e s₁ he => ?_)
  · rcases he.1 with rfl | rfl <;> rfl
  · obtain ⟨hok, hst⟩ := he
    have h1 := hst r hs'
    have hb : s₁.gens = (s.setGen g .running).gens := h1.bare
    have main : ∀ h', (∀ b o, s₁.heap.get? b = some o → h'.get? b = some o) → Q none { s₁.setGen g .finished with heap := h' } := fun h' hk => by
      refine hQ _ ⟨h1.hp.grow hk, rfl, h1.os⟩ ?_ ?_
      · exact setGen_self (gs := .running) (by rw [hb]; exact setGen_self hgs)
      · have := GenOnly.setGen s₁ g .finished
        rw [hb] at this
        exact (GenOnly.setGen s g .running).trans this
    rcases hok with rfl | rfl
    · exact ⟨.inl rfl, main⟩
    · exact ⟨.inr rfl, main⟩
theorem Rep.skipN {a : Addr} {p p' : Obj → Prop} {l l' : Led} : ∀ Y : Led, Rep a p p' l l' → Rep a p p' (Y ++ l) (Y ++ l')
  | [], h => h
  | _ :: Y, h => .tail (Rep.skipN Y h)
/-- what came -/
inductive Yields : List YItem → List Value → Led → Prop
  | nil : Yields [] [] []
  | cons {it its v vs e l} : it v e → Yields its vs l → Yields (it :: its) (v :: vs) (e ++ l)
/-- list.extend -/
theorem extend_lgen {D a : Addr} {g : Nat} {res : Value} {R : Result → Shared → Prop} (hlim : C.B.NoLimit) (hh : A.handled = none) (hroom : A.depth < recursionLimit) : ∀ {its : List YItem} {X r : Led} {gs : GenState} {s : Shared} {acc : List Value}, acc.length + its.length ≤ 100000 →
    St (C.g s.gens) (X ++ ((a, genP g) :: (D, freshP acc) :: r)) s → s.gens[g]? = some gs → LGen C A.in1.in1 F its X gs →
    (∀ vs e s', Yields its vs e → St (C.g s'.gens) ((D, freshP (acc ++ vs)) :: (e ++ (F ++ r))) s' → s'.gens[g]? = some .finished → GenOnly g s.gens s'.gens → R (.ok (.ret res)) s') →
    codeAny (model P C.w) A (.builtin "list.extend.loop" ⟨[.ref D, .ref a, res], []⟩) R s := by
  intro its
  induction its with
  | nil =>
    intro X r gs s acc hz hs hgs hL hR
    refine codeAny_builtin PySem.F.entry_extend_loop ?_
    rw [Around.under_plainId PySem.F.plain_extend_loop _]
    show wpAny _ A.in1 (pyNext (.ref a) >>= _) _ _ s
    refine wpAny_bind (end_lgen (A := A.in1) hlim hh hroom hs (.head _) hgs hL fun s' hs' h1 h2 => ?_)
    refine wpAny_pure (hR [] [] s' .nil ?_ h1 h2)
    rw [List.append_nil]
    have := hs'.sub (l' := (D, freshP acc) :: (F ++ r)) (by
      have := Sub.perm (l := F ++ ([(a, genP g), (D, freshP acc)] ++ r)) (l' := [(a, genP g), (D, freshP acc)] ++ (F ++ r)) (List.perm_append_comm_assoc _ _ _)
      exact Sub.trans (.skip .refl) this)
    simpa using this
  | cons it its ih =>
    intro X r gs s acc hz hs hgs hL hR
    refine codeAny_builtin PySem.F.entry_extend_loop ?_
    rw [Around.under_plainId PySem.F.plain_extend_loop _]
    show wpAny _ A.in1 (pyNext (.ref a) >>= _) _ _ s
    refine wpAny_bind (next_lgen (A := A.in1) hlim hh hroom hs (.head _) hgs hL fun v gs' X' e' s' hit hL' hb hs' h1 h2 => ?_)
    show wpAny _ A.in1 (Builtin.List.listUpdate (.ref D) (·.push v) >>= _) _ _ _
    have hw : W (C.g s'.gens) A.in1 (e' ++ (X' ++ ((a, genP g) :: (D, freshP acc) :: r))) (Builtin.List.listUpdate (.ref D) (·.push v)) (fun _ l' => l' = e' ++ (X' ++ ((a, genP g) :: (D, freshP (acc ++ [v])) :: r))) noE :=
      w_listUpdate (Rep.skipN e' (Rep.skipN X' (.tail .head))) (by simp) (by omega) (by simp at hz ⊢; omega) rfl
    refine wpAny_bind (W.then (C := C.g s'.gens) (r := []) hw (by rw [List.append_nil]; exact hs') (fun _ l₁ s₁ e₁ hs₁ => ?_) fun _ _ _ z => z.elim)
    rw [List.append_nil] at hs₁
    subst e₁
    have hb1 : s₁.gens = s'.gens := hs₁.bare
    refine wpAny_pure ⟨plainId_quiet PySem.F.plain_extend_loop _, ih (X := X') (r := e' ++ r) (gs := gs') (acc := acc ++ [v]) (by simp at hz ⊢; omega) ?_ (by rw [hb1]; exact h1) hL' fun vs e s'' hy hs'' h3 h4 => ?_⟩
    · rw [hb1]
      have := hs₁.sub (l' := X' ++ ([(a, genP g), (D, freshP (acc ++ [v]))] ++ (e' ++ r))) (by
        have := Sub.perm (List.perm_append_comm_assoc (X' ++ [(a, genP g), (D, freshP (acc ++ [v]))]) e' r)
        simpa using this)
      simpa using this
    · refine hR (v :: vs) (e' ++ e) s'' (.cons hit hy) ?_ h3 ((h2.trans (by rw [hb1] at h4; exact h4)))
      have := hs''.sub (l' := (D, freshP (acc ++ v :: vs)) :: (e' ++ (e ++ (F ++ r)))) (by
        have := Sub.perm ((((List.perm_append_comm_assoc e' e (F ++ r)).trans ((List.perm_append_comm_assoc e' F r).append_left e))).cons (D, freshP (acc ++ v :: vs)))
        simpa using this)
      simpa using this
end
end Mine
end
/-! N3 -/
section
open PySem PySem.W PySem.Calls PyProof.Rows
open PySem.Sem (wp)
set_option maxRecDepth 100000
set_option linter.all false
namespace Mine
section
variable {C : Cx} {A : Around} {F l : Led} {G : Array GenState} {s₀ : Shared} {X : Led} {its : List YItem} {c : Code} {fs : List Frame} {env : Env} {K : Flow → Sem Fin} {H : Value → Sem Fin} {gd : Bool → Bool} {lv : List Value → List Value}
theorem lseg_execs_nil (h : LSeg C A F G s₀ X its c (K .next) fs l) : LSeg C A F G s₀ X its c ((execs [] env).wrap K H gd lv) fs l := h
theorem lseg_execs_cons {st : Stmt} {rest : List Stmt} (h : LSeg C A F G s₀ X its c ((exec st env).wrap (fun f => match f with | .next => (execs rest env).wrap K H gd lv | f => K f) H gd lv) fs l) :
    LSeg C A F G s₀ X its c ((execs (st :: rest) env).wrap K H gd lv) fs l := by rw [execs_cons_wrap]; exact h
/-- the frame of a loop that was entered from a statement -/
def LoopF (c : Code) (K : Flow → Sem Fin) (H : Value → Sem Fin) (gd : Bool → Bool) (lv : List Value → List Value) (env : Env) (p : Pos) : Frame :=
  .ret (fun r => ((match r with | .ok f => (.pure f : Sem Flow) | .error e => .raise e).onRaise fun (x : Value) => do
        if (← field x 1) == Value.none then unsupported "frame.own-activation:exception-without-traceback"
        setFlight x env.frame).wrap K H gd lv) none (gd false) (lv []) c p []
theorem lseg_For {target iter : Expr} {body orelse : List Stmt} {pos : Pos} (hf : ∀ v, foldedSetIterable iter env v = pure v)
    (h : W (C.g G) (A.over c fs) l (eval iter env) (fun xv l₁ => W (C.g G) (A.over c fs) l₁ (pyIter xv) (fun it l₂ => ∀ p, LSeg C A F G s₀ X its (.forLoop target it body orelse env) ((model P C.w).den (.forLoop target it body orelse env)) (LoopF c K H gd lv env p :: fs) l₂) noE) noE) :
    LSeg C A F G s₀ X its c ((exec (.For target iter body orelse pos) env).wrap K H gd lv) fs l := by
  rw [arm_exec_For]
  refine lseg_bind_wrap (w_standAt ?_)
  refine lseg_bind_wrap (h.mono (fun xv l₁ h₁ => ?_) fun _ _ z => z)
  refine lseg_bind_wrap ?_
  rw [hf]
  refine w_pure ?_
  refine lseg_bind_wrap (w_standAt ?_)
  refine lseg_bind_wrap (w_holding (h₁.mono (fun it l₂ h₂ => ?_) fun _ _ z => z))
  exact lseg_call h₂
theorem lseg_popLoop {l' : Led} {c' : Code} {p : Pos} (h : LSeg C A F G s₀ X its c (K .next) fs l) : LSeg C A F G s₀ X its c' (.pure (.done .next)) (LoopF c K H gd lv env p :: fs) l := lseg_leaf (.ok .next) h
abbrev errH (env : Env) : Value → Sem Fin := fun e => (do noteFrame e env; theTreesLotGoes e : Sem Unit).wrap (fun _ => .raise e) .raise id id
theorem lseg_forLoop {target : Expr} {it : Value} {body orelse : List Stmt}
    (h : W (C.g G) (A.over (.forLoop target it body orelse env) fs) l (pyNext it) (fun r l₁ => match r with
      | none => LSeg C A F G s₀ X its (.block orelse env) ((model P C.w).den (.block orelse env)) fs l₁
      | some v => W (C.g G) (A.over (.forLoop target it body orelse env) fs) l₁ (letOwnedTupleGo target it v) (fun _ l₂ => W (C.g G) (A.over (.forLoop target it body orelse env) fs) l₂ (assign target env v) (fun _ l₃ =>
          LSeg C A F G s₀ X its (.forLoop target it body orelse env) ((execs body env).wrap (fun f => match f with | .next | .cont => .pure (.again (.forLoop target it body orelse env)) | .brk => .pure (.done .next) | .ret v => .pure (.done (.ret v))) (errH env) id id) fs l₃) noE) noE) noE) :
    LSeg C A F G s₀ X its (.forLoop target it body orelse env) ((model P C.w).den (.forLoop target it body orelse env)) fs l := by
  show LSeg C A F G s₀ X its _ ((forTurn target it body orelse env).onRaise (fun x => do noteFrame x env; theTreesLotGoes x)) fs l
  unfold forTurn
  rw [Sem.onRaise_eq_wrap]
  refine lseg_bind_wrap (w_standAt ?_)
  refine lseg_bind_wrap (w_onRaise (h.mono (fun r l₁ h₁ => ?_) fun _ _ z => z.elim))
  cases r with
  | none => exact lseg_again rfl h₁
  | some v =>
    refine lseg_bind_wrap (h₁.mono (fun _ l₂ h₂ => ?_) fun _ _ z => z)
    refine lseg_bind_wrap (h₂.mono (fun _ l₃ h₃ => ?_) fun _ _ z => z)
    rw [Sem.bind_eq_wrap', Sem.wrap_wrap]
    rw [Sem.wrap_congr (execs body env) _ _ (K' := fun f => match f with
          | .next | .cont => .pure (.again (.forLoop target it body orelse env))
          | .brk => .pure (.done .next)
          | .ret v => .pure (.done (.ret v))) (H' := errH env)
        (fun f => by cases f <;> rfl)
        (fun e => by first | exact Sem.bind_eq_wrap _ _ | (show (do noteFrame e env; theTreesLotGoes e : Sem Unit).bind (fun _ => .raise e) = _; rw [Sem.bind_eq_wrap]))]
    exact h₃
theorem lseg_block_nil (h : LSeg C A F G s₀ X its (.block [] env) (.pure (.done .next)) fs l) : LSeg C A F G s₀ X its (.block [] env) ((model P C.w).den (.block [] env)) fs l := h
theorem lseg_Yield {e : Expr} {ypos pos : Pos} {it : YItem} (hfs : splitAtGen fs = none) (hgd : gd false = false) (hfg : fs.any Frame.guarded = false)
    (h : W (C.g G) (A.over c fs) l (eval e env) (fun v l₁ => ∃ X' e', Sub (e' ++ X') l₁ ∧ it v e' ∧ ∀ G' s₁, LSeg C A F G' s₁ X' its c (K .next) fs X') noE) (hco : env.scope.isCoroutine = false := by rfl) (hi : interactive env = false := by rfl) :
    LSeg C A F G s₀ X (it :: its) c ((exec (.Expr (.Yield (some e) ypos) pos) env).wrap K H gd lv) fs l := by
  rw [exec_Expr env _ pos hi rfl]
  show LSeg C A F G s₀ X (it :: its) c (.at pos fun _ => ((eval e env >>= fun v => (standAt ypos >>= fun _ => yieldOut env v)) >>= fun x =>
    dropValue (.Yield (some e) ypos) pos x).wrap K H gd lv) fs l
  have hy : ∀ v, yieldOut env v = yieldValue v := fun v => by simp only [yieldOut, hco, Bool.false_eq_true, if_false]
  simp only [hy]
  refine lseg_at ?_
  rw [Sem.bind_eq_wrap', Sem.bind_eq_wrap', Sem.wrap_wrap, Sem.wrap_wrap]
  refine lseg_wrap (h.mono (fun v l₁ ⟨X', e', hS, hit, hn⟩ => ?_) fun _ _ z => z)
  refine lseg_at (.sub hS (lseg_yield hfs hgd hfg hit fun G' s₁ => ?_))
  exact hn G' s₁
theorem lseg_func {body : List Stmt} (h : LSeg C A F G s₀ X its (.func body env) ((execs body env).wrap (fun f => .pure (.done (.ret (match f with | .ret v => v | _ => .none))))
      (fun e => (leaving env e).wrap (fun _ => .raise e) .raise id id) id id) fs l) : LSeg C A F G s₀ X its (.func body env) ((model P C.w).den (.func body env)) fs l := by
  show LSeg C A F G s₀ X its _ (.point [] fun _ => ((execs body env).onRaise (leaving env)) >>= _) fs l
  refine lseg_point ?_
  rw [Sem.onRaise_eq_wrap, Sem.bind_eq_wrap', Sem.wrap_wrap]
  rw [Sem.wrap_congr (execs body env) _ _ (K' := fun f => .pure (.done (.ret (match f with | .ret v => v | _ => .none))))
    (H' := fun e => (leaving env e).wrap (fun _ => .raise e) .raise id id) (fun f => by cases f <;> rfl)
    (fun e => by rw [Sem.bind_eq_wrap, Sem.wrap_wrap]; rfl)]
  exact h
end
end Mine
end
/-! N4 -/
section
open PySem PySem.W PySem.Calls PyProof.Rows
set_option maxRecDepth 100000
set_option linter.all false
namespace Mine
section
variable {α β : Type} {C : Cx} {A : Around} {l : Led} {e : Value → Led → Prop} {env : Env}
/-- a dict of ints with its epoch -/
def dE (C : Cx) (kvs : List (Int × Value)) (ep : Nat) (o : Obj) : Prop := ∃ es, o.ExactDict ∧ o.data = .dict es ep ∧ KeysOf (intKind P C.w) es ∧ Pairs (intKind P C.w) es.toList kvs ∧ (kvs.map (·.1)).Nodup
theorem dE.dP {kvs : List (Int × Value)} {ep : Nat} {o : Obj} (h : dE C kvs ep o) : dP C kvs o := let ⟨es, r⟩ := h; ⟨es, ep, r⟩
theorem dP.dE {kvs : List (Int × Value)} {o : Obj} (h : dP C kvs o) : ∃ ep, dE C kvs ep o := let ⟨es, ep, r⟩ := h; ⟨ep, es, r⟩
theorem St.dictAt {s : Shared} {r : Led} {d : Addr} {kvs : List (Int × Value)} {ep : Nat} (hs : St C (l ++ r) s) (hm : (d, dE C kvs ep) ∈ l) : s.heap.DictAt (intKind P C.w) d kvs ep := by
  obtain ⟨o, ho, es, x⟩ := hs.get hm
  exact ⟨o, es, ho, x⟩
theorem w_ex {ι : Type} {a : Addr} {p : Obj → Prop} {q : ι → Obj → Prop} {t : Sem α} {k : α → Led → Prop} (hp : ∀ o, p o → ∃ i, q i o) (h : ∀ i, W C A ((a, q i) :: l) t k e) : W C A ((a, p) :: l) t k e := fun r s hs => by
  obtain ⟨o, ho, hP⟩ := hs.get (.head _)
  obtain ⟨i, hi⟩ := hp o hP
  refine h i r s ⟨⟨hs.hp.base, fun x hx => ?_, hs.hp.nd, hs.hp.gm⟩, hs.bare, hs.os⟩
  rcases List.mem_cons.mp hx with rfl | hx
  · exact ⟨⟨o, ho, hi⟩, (hs.hp.own _ (.head _)).2⟩
  · exact hs.hp.own x (.tail _ hx)
def iiP (d : Addr) (i n ep : Nat) (o : Obj) : Prop := ∃ ok ov, o = { cls := .type "dict_itemiterator", dict := none, data := .fields #[.none, .bool false, .ref d, .int i 0, .int n 0, .int ep 0, ok, ov], slots := #[] }
def iiO (d : Addr) (i n ep : Nat) (a : Addr) (o : Obj) : Prop := ∃ ok ov, o = { cls := .type "dict_itemiterator", dict := none, data := .fields #[rawInt a, .bool false, .ref d, .int i 0, .int n 0, .int ep 0, ok, ov], slots := #[] }
def kiP (d : Addr) (i n ep : Nat) (o : Obj) : Prop := o.cls = .type "dict_keyiterator" ∧ o.data = .fields #[.ref d, .int i 0, .int n 0, .int ep 0]
def ivP (d : Addr) (o : Obj) : Prop := o.cls = .type "dict_items" ∧ o.data = .fields #[.ref d]
theorem Hp.chg {B h h' : Heap} {a : Addr} {p p' : Obj → Prop} (H : Hp B h ((a, p) :: l)) (hk : ∀ b o, b ≠ a → h.get? b = some o → h'.get? b = some o) (hn : ∃ o, h'.get? a = some o ∧ p' o) : Hp B h' ((a, p') :: l) := by
  have ha := (H.own _ (.head _)).2
  refine ⟨fun b o e => hk b o ?_ (H.base b o e), fun q hq => ?_, H.nd, H.gm⟩
  · rintro rfl
    have : B.get? b = none := ha
    rw [e] at this; cases this
  · rcases List.mem_cons.mp hq with rfl | hq
    · exact ⟨hn, ha⟩
    · obtain ⟨⟨o, ho, hP⟩, hb⟩ := H.own q (.tail _ hq)
      have nd := H.nd
      rw [List.map_cons, List.nodup_cons] at nd
      exact ⟨⟨o, hk _ _ (fun z => nd.1 (by have := List.mem_map_of_mem (f := (·.1)) hq; rw [z] at this; exact this)) ho, hP⟩, hb⟩
theorem w_dictItems (S : Ok C) {d : Addr} {kvs : List (Int × Value)} {ep : Nat} {k : Value → Led → Prop} (hm : (d, dE C kvs ep) ∈ l) (h : ∀ v, k (.ref v) ((v, ivP d) :: l)) : W C A l (call (.builtin "dict.items") [.ref d]) k e := fun r s hs => by
  have hd := hs.dictAt hm
  refine call_meetsIn PySem.F.slot_dict_items hd.dictOf.typeIs PySem.F.entry_dict_items (PySem.F.args_dict_items_1 _) (meets_dict_items (intKind P C.w) d (hs.notMod S hm)) ⟨⟨kvs, hd.dictOf⟩, _, h _, hs.hp.new (Pr := ivP d) (fun _ _ x => Heap.get?_push_of_some _ x) (get_size _) (Heap.get?_push_size _ rfl) ⟨rfl, rfl⟩, hs.bare, hs.os⟩
theorem w_pyIter_items {v d : Addr} {kvs : List (Int × Value)} {ep : Nat} {k : Value → Led → Prop} (hv : (v, ivP d) ∈ l) (hm : (d, dE C kvs ep) ∈ l) (h : ∀ it, k (.ref it) ((it, iiP d 0 kvs.length ep) :: l)) : W C A l (pyIter (.ref v)) k e := fun r s hs => by
  obtain ⟨o, ho, hP⟩ := hs.get hv
  exact wpAny_pyIter_items ⟨o, ho, hP.1, hP.2⟩ (hs.dictAt hm) ⟨_, h _, hs.hp.new (Pr := iiP d 0 kvs.length ep) (fun _ _ x => Heap.get?_push_of_some _ x) (get_size _) (Heap.get?_push_size _ rfl) ⟨_, _, rfl⟩, hs.bare, hs.os⟩
theorem w_next_items {it d : Addr} {kvs : List (Int × Value)} {i ep : Nat} {x : Int} {v : Value} {k : Option Value → Led → Prop} (hm : (d, dE C kvs ep) ∈ l) (hx : kvs[i]? = some (x, v))
    (h : ∀ T t, k (some (.ref T)) ((T, seqP "tuple" [.int x t, v]) :: (it, iiO d (i + 1) kvs.length ep T) :: l)) : W C A ((it, iiP d i kvs.length ep) :: l) (pyNext (.ref it)) k e := fun r s hs => by
  obtain ⟨o, ho, ok, ov, rfl⟩ := hs.get (.head _)
  refine wpAny_pyNext_items_item (knd := intKind P C.w) ho (hs.dictAt (.tail _ hm)) hx fun key h' hkey hit hT hsz hk => ?_
  obtain ⟨t, rfl⟩ : ∃ t, key = .int x t := by
    cases key <;> simp [intKind, Value.isInt] at hkey
    rename_i y t
    exact ⟨t, by rw [hkey]⟩
  have h1 : Hp C.B h' ((it, iiO d (i + 1) kvs.length ep s.heap.objs.size) :: l ++ r) := hs.hp.chg hk ⟨_, hit, _, _, rfl⟩
  refine ⟨_, h _ t, ⟨?_, hs.bare, hs.os⟩⟩
  refine ⟨h1.base, fun p hp => ?_, ?_, h1.gm⟩
  · rcases List.mem_cons.mp hp with rfl | hp
    · refine ⟨⟨_, hT, rfl, 0, rfl⟩, ?_⟩
      cases e : C.B.get? s.heap.objs.size with
      | none => rfl
      | some o => exact absurd (Heap.lt_size (hs.hp.base _ _ e)) (Nat.lt_irrefl _)
    · exact h1.own p hp
  · rw [List.cons_append, List.map_cons, List.nodup_cons]
    refine ⟨fun hm => ?_, h1.nd⟩
    obtain ⟨p, hp, e⟩ := List.mem_map.mp hm
    have : ∃ o, s.heap.get? p.1 = some o := by
      rcases List.mem_cons.mp hp with rfl | hp
      · exact ⟨_, ho⟩
      · obtain ⟨⟨o, ho, _⟩, _⟩ := hs.hp.own p (.tail _ hp)
        exact ⟨o, ho⟩
    obtain ⟨o, ho⟩ := this
    have e : p.1 = s.heap.objs.size := e
    rw [e] at ho
    exact Nat.lt_irrefl _ (Heap.lt_size ho)
theorem w_next_items_end {it d : Addr} {kvs : List (Int × Value)} {i ep : Nat} {k : Option Value → Led → Prop} (hh : A.handled = none) (hm : (d, dE C kvs ep) ∈ l) (hx : kvs[i]? = none) (h : k none l) : W C A ((it, iiP d i kvs.length ep) :: l) (pyNext (.ref it)) k e := fun r s hs => by
  obtain ⟨o, ho, ok, ov, rfl⟩ := hs.get (.head _)
  refine wpAny_pyNext_items_end (knd := intKind P C.w) hh ho (hs.dictAt (.tail _ hm)) hx fun h' hk => ⟨l, h, ?_, hs.bare, hs.os⟩
  have nd := hs.hp.nd
  rw [List.cons_append, List.map_cons, List.nodup_cons] at nd
  refine ⟨fun b o e => hk b o ?_ (hs.hp.base b o e), fun q hq => ?_, nd.2, hs.hp.gm⟩
  · rintro rfl
    have : C.B.get? b = none := (hs.hp.own _ (.head _)).2
    rw [e] at this; cases this
  · obtain ⟨⟨o, ho, hP⟩, hb⟩ := hs.hp.own q (.tail _ hq)
    exact ⟨⟨o, hk _ _ (fun z => nd.1 (by have := List.mem_map_of_mem (f := (·.1)) hq; rw [z] at this; exact this)) ho, hP⟩, hb⟩
theorem w_letOwned_items {elts : List Expr} {x1} {pos : Pos} {it d T : Addr} {i n ep : Nat} {k : Unit → Led → Prop} (h : k () ((it, iiP d i n ep) :: l)) : W C A ((it, iiO d i n ep T) :: l) (letOwnedTupleGo (.Tuple elts x1 pos) (.ref it) (.ref T)) k e := fun r s hs => by
  obtain ⟨o, ho, ok, ov, rfl⟩ := hs.get (.head _)
  refine wpAny_letOwnedTupleGo_items (prog := P) (w := C.w) ho fun h' hit hb => ⟨_, h, ?_, hs.bare, hs.os⟩
  exact hs.hp.chg (fun b o hne e => hb.extBut b o hne e) ⟨_, hit, _, _, rfl⟩
theorem w_pyIter_dict (S : Ok C) {d : Addr} {kvs : List (Int × Value)} {ep : Nat} {k : Value → Led → Prop} (hm : (d, dE C kvs ep) ∈ l) (h : ∀ it, k (.ref it) ((it, kiP d 0 kvs.length ep) :: l)) : W C A l (pyIter (.ref d)) k e := fun r s hs =>
  wpAny_pyIter_dict (knd := intKind P C.w) (hs.notMod S hm) (hs.dictAt hm) ⟨_, h _, hs.hp.new (Pr := kiP d 0 kvs.length ep) (fun _ _ x => Heap.get?_push_of_some _ x) (get_size _) (Heap.get?_push_size _ rfl) ⟨rfl, rfl⟩, hs.bare, hs.os⟩
theorem w_next_keys {it d : Addr} {kvs : List (Int × Value)} {i ep : Nat} {x : Int} {v : Value} {k : Option Value → Led → Prop} (hm : (d, dE C kvs ep) ∈ l) (hx : kvs[i]? = some (x, v))
    (h : ∀ t, k (some (.int x t)) ((it, kiP d (i + 1) kvs.length ep) :: l)) : W C A ((it, kiP d i kvs.length ep) :: l) (pyNext (.ref it)) k e := fun r s hs => by
  obtain ⟨o, ho, h1, h2⟩ := hs.get (.head _)
  refine wpAny_pyNext_dict_item (knd := intKind P C.w) ⟨o, ho, h1, h2⟩ (hs.dictAt (.tail _ hm)) hx fun key h' hkey hit hb => ?_
  obtain ⟨t, rfl⟩ : ∃ t, key = .int x t := by
    cases key <;> simp [intKind, Value.isInt] at hkey
    rename_i y t
    exact ⟨t, by rw [hkey]⟩
  exact ⟨_, h t, hs.hp.chg (fun b o hne e => hb.extBut b o hne e) (let ⟨o, ho, x, y⟩ := hit; ⟨o, ho, x, y⟩), hs.bare, hs.os⟩
theorem w_next_keys_end {it d : Addr} {kvs : List (Int × Value)} {i ep : Nat} {k : Option Value → Led → Prop} (hh : A.handled = none) (hm : (d, dE C kvs ep) ∈ l) (hx : kvs[i]? = none) (h : k none l) : W C A ((it, kiP d i kvs.length ep) :: l) (pyNext (.ref it)) k e := fun r s hs => by
  obtain ⟨o, ho, h1, h2⟩ := hs.get (.head _)
  refine wpAny_pyNext_dict_end (knd := intKind P C.w) hh ⟨o, ho, h1, h2⟩ (hs.dictAt (.tail _ hm)) hx fun h' hk => ⟨l, h, ?_, hs.bare, hs.os⟩
  have nd := hs.hp.nd
  rw [List.cons_append, List.map_cons, List.nodup_cons] at nd
  refine ⟨fun b o e => hk b o ?_ (hs.hp.base b o e), fun q hq => ?_, nd.2, hs.hp.gm⟩
  · rintro rfl
    have : C.B.get? b = none := (hs.hp.own _ (.head _)).2
    rw [e] at this; cases this
  · obtain ⟨⟨o, ho, hP⟩, hb⟩ := hs.hp.own q (.tail _ hq)
    exact ⟨⟨o, hk _ _ (fun z => nd.1 (by have := List.mem_map_of_mem (f := (·.1)) hq; rw [z] at this; exact this)) ho, hP⟩, hb⟩
end
end Mine
end
/-! N5 -/
section
open PySem PySem.W PySem.Calls PyProof.Rows
set_option maxRecDepth 100000
set_option linter.all false
namespace Mine
local macro_rules | `(tactic| walk_at "lk") => `(tactic| first | with_reducible exact look_eq | (rw [lookup_put, if_neg (by decide)]; walk_at "lk") | assumption | exact rfl)
local macro_rules | `(tactic| walk_at "in") => `(tactic| first | exact List.Mem.head _ | (refine List.Mem.tail _ ?_; walk_at "in"))
local macro_rules | `(tactic| walk_at "pk") => `(tactic| first | exact Pick.head | (apply Pick.tail; walk_at "pk"))
local macro_rules | `(tactic| walk_at "rp") => `(tactic| first | exact Rep.head | (apply Rep.tail; walk_at "rp"))
local macro_rules | `(tactic| walk_at "sub") => `(tactic| first | exact Sub.refl | (refine Sub.pick1 (by walk_at "pk") ?_; walk_at "sub") | exact Sub.nil | (refine Sub.skip ?_; walk_at "sub"))
section
variable {C : Cx} {A : Around} {F l : Led} {G : Array GenState} {s₀ : Shared} {X : Led} {its : List YItem} {c : Code} {fs : List Frame} {env : Env} {K : Flow → Sem Fin} {H : Value → Sem Fin} {gd : Bool → Bool} {lv : List Value → List Value}
theorem Ok.gg {q : Array GenState → Prop} (S : Ok C) : Ok { C with gi := q } :=
  ⟨S.k, let ⟨mg, mb, T, r⟩ := S.top; ⟨mg, mb, ⟨T.g, T.b, T.lim⟩, r⟩, let ⟨mg, mb, bm, ob, T, r⟩ := S.bm; ⟨mg, mb, bm, ob, ⟨T.g, T.b, T.lim⟩, r⟩⟩
theorem Ok.g (S : Ok C) : Ok (C.g G) := S.gg
/-- a pair of ints comes -/
def pairI (u v : Int) : YItem := fun val e => ∃ T, val = .ref T ∧ e = [(T, tupP [u, v])]
theorem over_loop {c' : Code} {p : Pos} (h : (A.over c fs).handled = none) : (A.over c' (LoopF c K H gd lv env p :: fs)).handled = none := by
  have h : (marksOver fs (A.handled, A.handled)).1 = none := h
  show (marksOver (LoopF c K H gd lv env p :: fs) (A.handled, A.handled)).1 = none
  show markOver none (marksOver fs (A.handled, A.handled)).1 (marksOver fs (A.handled, A.handled)).2 = none
  rw [h]; rfl
theorem split_loop {p : Pos} (h : splitAtGen fs = none) : splitAtGen (LoopF c K H gd lv env p :: fs) = none := by
  show Option.map _ (splitAtGen fs) = none
  rw [h]; rfl
theorem guard_loop {p : Pos} (hg : gd false = false) (h : fs.any Frame.guarded = false) : (LoopF c K H gd lv env p :: fs).any Frame.guarded = false := by
  show (gd false || fs.any Frame.guarded) = false
  rw [hg, h]; rfl
/-- the inner loop -/
theorem lseg_inner {L iu row : Addr} {u : Int} {tu : Tok} {ep : Nat} {kv : List (Int × Value)} {p1 p2 p3 p4 p5 p6 pl : Pos} {j : Nat} {tail : Led} (hL : env.locals = L) (hk : env.scope.kind = .function) (hn : env.kindOf ("n" : Str) = some .local) (hb : env.kindOf ("nbr" : Str) = some .local)
    (hco : env.scope.isCoroutine = false) (hi : interactive env = false) (hsc : (env.scope.kind == .class || (env.scope.kind == .module && env.locals != env.globals)) = false)
    (hfs : splitAtGen fs = none) (hfg : fs.any Frame.guarded = false) (hgd : gd false = false) (hh : (A.over c fs).handled = none) (hte : ∀ v, letOwnedTupleGo (.Name "nbr" p1) (.ref iu) v = pure ())
    (hK : ∀ G s₀ X V, V.lookup ("n" : Str) = some (.int u tu) → LSeg C A F G s₀ X its c (K .next) fs ((L, nsP V) :: (row, dE C kv ep) :: tail)) :
    ∀ (m q : Nat) G s₀ X V, kv.length - q = m → q ≤ kv.length → V.lookup ("n" : Str) = some (.int u tu) →
      LSeg C A F G s₀ X ((kv.drop q).map (fun p => pairI u p.1) ++ its) (.forLoop (.Name "nbr" p1) (.ref iu) [.Expr (.Yield (some (.Tuple [.Name "n" p2, .Name "nbr" p3] j p4)) p5) p6] [] env)
        ((model P C.w).den (.forLoop (.Name "nbr" p1) (.ref iu) [.Expr (.Yield (some (.Tuple [.Name "n" p2, .Name "nbr" p3] j p4)) p5) p6] [] env)) (LoopF c K H gd lv env pl :: fs)
        ((iu, kiP row q kv.length ep) :: (L, nsP V) :: (row, dE C kv ep) :: tail) := by
  intro m
  induction m with
  | zero =>
    intro q G s₀ X V hm hq hV
    have hx : kv[q]? = none := List.getElem?_eq_none (by omega)
    rw [List.drop_of_length_le (by omega)]
    refine lseg_forLoop (w_next_keys_end (over_loop hh) (by walk_at "in") hx ?_)
    exact lseg_block_nil (lseg_popLoop (l' := tail) (hK _ _ _ V hV))
  | succ m ih =>
    intro q G s₀ X V hm hq hV
    have hlt : q < kv.length := by omega
    have hx : kv[q]? = some (kv[q].1, kv[q].2) := by rw [List.getElem?_eq_getElem hlt]
    rw [List.drop_eq_getElem_cons hlt]
    refine lseg_forLoop (w_next_keys (C := C.g G) (kvs := kv) (ep := ep) (by walk_at "in") hx fun t => ?_)
    show W _ _ _ (letOwnedTupleGo _ _ _) _ _
    rw [hte]
    refine w_pure ?_
    refine W.sub (l' := (L, nsP V) :: (iu, kiP row (q + 1) kv.length ep) :: (row, dE C kv ep) :: tail) (.pick1 (.tail .head) (.pick1 .head .refl)) ?_
    refine w_assign_Name (w_storeL hL ?_ hb hsc)
    refine lseg_execs_cons (lseg_Yield (split_loop hfs) rfl (guard_loop hgd hfg) ?_ hco hi)
    refine w_Tuple_ <| w_items_cons <| w_NameL hL (v := .int u tu) (by rw [lookup_put, if_neg (by decide)]; exact hV) (w_items_cons <| w_NameL hL (by walk_at "lk") (w_items_nil <| w_newTup (.cons _ _ (.cons _ _ .nil)) (by simp) fun T => ?_) hk hb) hk hn
    refine ⟨(L, nsP (put "nbr" (.int kv[q].1 t) V)) :: (iu, kiP row (q + 1) kv.length ep) :: (row, dE C kv ep) :: tail, [(T, tupP [u, kv[q].1])], .pick1 (.tail .head) .refl, ⟨T, rfl, rfl⟩, fun G' s₁ => ?_⟩
    refine lseg_execs_nil (lseg_again rfl ?_)
    refine LSeg.sub (.pick1 (.tail .head) (.pick1 .head .refl)) (ih (q + 1) _ _ _ (put "nbr" (.int kv[q].1 t) V) (by omega) (by omega) (by rw [lookup_put, if_neg (by decide)]; exact hV))
theorem keyedFrom_get : ∀ (xs : List Addr) (k i : Nat), (keyedFrom k xs)[i]? = xs[i]?.map fun a => (((k + i : Nat) : Int), Value.ref a)
  | [], k, i => by simp [keyedFrom]
  | a :: r, k, 0 => by simp [keyedFrom]
  | a :: r, k, i + 1 => by
    rw [keyedFrom, List.getElem?_cons_succ, keyedFrom_get r (k + 1) i, List.getElem?_cons_succ]
    have : k + 1 + i = k + (i + 1) := by omega
    rw [this]
theorem keyedFrom_len : ∀ (xs : List Addr) (k : Nat), (keyedFrom k xs).length = xs.length
  | [], _ => rfl
  | _ :: r, k => by simp [keyedFrom, keyedFrom_len r]
/-- all the edges, row by row -/
def itsFrom : Nat → List (Addr × KV) → List YItem
  | _, [] => []
  | u, r :: rs => r.2.map (fun p => pairI u p.1) ++ itsFrom (u + 1) rs
theorem rowsL_app {C : Cx} (x y : List (Addr × KV)) : rowsL C (x ++ y) = rowsL C x ++ rowsL C y := List.map_append
/-- the outer loop -/
theorem lseg_outer (S : Ok C) {L it ad : Addr} {ep : Nat} {adj : List (Addr × KV)} {p1 p2 p3 p4 p5 p6 pl q1 q2 q3 q4 q5 : Pos} {j jt : Nat} {tail : Led} (hL : env.locals = L) (hk : env.scope.kind = .function) (hn : env.kindOf ("n" : Str) = some .local) (hns : env.kindOf ("nbrs" : Str) = some .local) (hb : env.kindOf ("nbr" : Str) = some .local)
    (hco : env.scope.isCoroutine = false) (hi : interactive env = false) (hsc : (env.scope.kind == .class || (env.scope.kind == .module && env.locals != env.globals)) = false)
    (hfs : splitAtGen fs = none) (hfg : fs.any Frame.guarded = false) (hgd : gd false = false) (hh : (A.over c fs).handled = none) (hte : ∀ iu v, letOwnedTupleGo (.Name "nbr" p1) (.ref iu) v = pure ()) (hfo : ∀ v, foldedSetIterable (.Name "nbrs" q5) env v = pure v)
    (hK : ∀ G s₀ X V, LSeg C A F G s₀ X [] c (K .next) fs ((L, nsP V) :: (ad, dE C (keyed (adj.map (·.1))) ep) :: (rowsL C adj ++ tail))) :
    ∀ (post pre : List (Addr × KV)) G s₀ X V, adj = pre ++ post →
      LSeg C A F G s₀ X (itsFrom pre.length post) (.forLoop (.Tuple [.Name "n" q1, .Name "nbrs" q2] jt q3) (.ref it) [.For (.Name "nbr" p1) (.Name "nbrs" q5) [.Expr (.Yield (some (.Tuple [.Name "n" p2, .Name "nbr" p3] j p4)) p5) p6] [] q4] [] env)
        ((model P C.w).den (.forLoop (.Tuple [.Name "n" q1, .Name "nbrs" q2] jt q3) (.ref it) [.For (.Name "nbr" p1) (.Name "nbrs" q5) [.Expr (.Yield (some (.Tuple [.Name "n" p2, .Name "nbr" p3] j p4)) p5) p6] [] q4] [] env)) (LoopF c K H gd lv env pl :: fs)
        ((it, iiP ad pre.length (keyed (adj.map (·.1))).length ep) :: (L, nsP V) :: (ad, dE C (keyed (adj.map (·.1))) ep) :: (rowsL C pre ++ (rowsL C post ++ tail))) := by
  intro post
  induction post with
  | nil =>
    intro pre G s₀ X V ha
    rw [List.append_nil] at ha
    subst ha
    refine lseg_forLoop (w_next_items_end (over_loop hh) (by walk_at "in") (by rw [keyedFrom_get]; simp) ?_)
    exact lseg_block_nil (lseg_popLoop (l' := tail) (hK _ _ _ V))
  | cons r post ih =>
    intro pre G s₀ X V ha
    obtain ⟨row, kv⟩ := r
    have hx : (keyed (adj.map (·.1)))[pre.length]? = some ((pre.length : Int), .ref row) := by
      rw [keyedFrom_get, ha]; simp
    have ho := over_loop (p := pl) (c' := .forLoop (.Tuple [.Name "n" q1, .Name "nbrs" q2] jt q3) (.ref it) [.For (.Name "nbr" p1) (.Name "nbrs" q5) [.Expr (.Yield (some (.Tuple [.Name "n" p2, .Name "nbr" p3] j p4)) p5) p6] [] q4] [] env) (K := K) (H := H) (gd := gd) (lv := lv) (env := env) hh
    refine lseg_forLoop (w_next_items (C := C.g G) (kvs := keyed (adj.map (·.1))) (ep := ep) (by walk_at "in") hx fun T t => ?_)
    refine W.sub (l' := (it, iiO ad (pre.length + 1) (keyed (adj.map (·.1))).length ep T) :: (T, seqP "tuple" [.int pre.length t, .ref row]) :: (L, nsP V) :: (ad, dE C (keyed (adj.map (·.1))) ep) :: (rowsL C pre ++ (rowsL C ((row, kv) :: post) ++ tail))) (.pick1 (.tail .head) (.pick1 .head .refl)) ?_
    refine w_letOwned_items ?_
    refine W.sub (l' := (L, nsP V) :: (T, seqP "tuple" [.int pre.length t, .ref row]) :: (it, iiP ad (pre.length + 1) (keyed (adj.map (·.1))).length ep) :: (ad, dE C (keyed (adj.map (·.1))) ep) :: (rowsL C pre ++ (rowsL C ((row, kv) :: post) ++ tail))) (.pick1 (.tail (.tail .head)) (.pick1 (.tail .head) (.pick1 .head .refl))) ?_
    refine w_assign_Tuple ho (by walk_at "in") (w_ord_cons <| w_assign_Name <| w_storeL hL (w_ord_cons <| w_assign_Name <| w_storeL hL (w_ord_nil ?_) hns hsc) hn hsc) rfl rfl
    refine lseg_execs_cons (lseg_For hfo ?_)
    refine w_NameL hL (by walk_at "lk") ?_ hk hns
    refine W.sub (l' := (row, dP C kv) :: (L, nsP (put "nbrs" (.ref row) (put "n" (.int pre.length t) V))) :: (it, iiP ad (pre.length + 1) (keyed (adj.map (·.1))).length ep) :: (ad, dE C (keyed (adj.map (·.1))) ep) :: (rowsL C pre ++ (rowsL C post ++ tail))) ?_ ?_
    · refine Sub.trans ?_ (.pick1 .head (.skip .refl))
      show Sub _ (_ :: _ :: _ :: (rowsL C pre ++ ((row, dP C kv) :: (rowsL C post ++ tail))))
      refine Sub.trans ?_ (Sub.pre Sub.mid' [_, _, _])
      exact .pick1 (.tail (.tail (.tail .head))) .refl
    refine w_ex (q := fun ep2 => dE C kv ep2) (fun o ho => ho.dE) fun ep2 => ?_
    refine w_pyIter_dict S.g (by walk_at "in") fun iu p => ?_
    refine LSeg.sub (l' := (iu, kiP row 0 kv.length ep2) :: (L, nsP (put "nbrs" (.ref row) (put "n" (.int pre.length t) V))) :: (row, dE C kv ep2) :: (it, iiP ad (pre.length + 1) (keyed (adj.map (·.1))).length ep) :: (ad, dE C (keyed (adj.map (·.1))) ep) :: (rowsL C pre ++ (rowsL C post ++ tail))) (.pick1 .head (.pick1 (.tail .head) (.pick1 .head .refl))) ?_
    refine lseg_inner (kv := kv) (its := itsFrom (pre.length + 1) post) (u := pre.length) (tu := t) hL hk hn hb hco hi hsc (split_loop hfs) (guard_loop hgd hfg) rfl ho (hte iu) (fun G' s₁ X' V' hV' => ?_) kv.length 0 _ _ _ _ (by omega) (by omega) (by rw [lookup_put, if_neg (by decide)]; exact look_eq)
    refine lseg_execs_nil (lseg_again rfl ?_)
    have := ih (pre ++ [(row, kv)]) G' s₁ X' V' (by rw [ha]; simp)
    rw [List.length_append, List.length_singleton] at this
    refine LSeg.sub ?_ this
    refine Sub.trans (b := (it, iiP ad (pre.length + 1) (keyed (adj.map (·.1))).length ep) :: (L, nsP V') :: (ad, dE C (keyed (adj.map (·.1))) ep) :: ((row, dP C kv) :: (rowsL C pre ++ (rowsL C post ++ tail)))) ?_ (.pick1 (.tail (.tail .head)) (.pick1 .head (.pick1 (.tail .head) (.pick .head (fun _ h => h.dP) .refl))))
    refine Sub.pre ?_ [_, _, _]
    exact Sub.row (fun _ h => h)
end
end Mine
end
/-! N6 -/
section
open PySem PySem.W PySem.Calls PyProof.Rows
set_option maxRecDepth 100000
set_option linter.all false
namespace Mine
local macro_rules | `(tactic| walk_at "lk") => `(tactic| first | with_reducible exact look_eq | (rw [lookup_put, if_neg (by decide)]; walk_at "lk") | assumption | exact rfl)
local macro_rules | `(tactic| walk_at "in") => `(tactic| first | exact List.Mem.head _ | (refine List.Mem.tail _ ?_; walk_at "in"))
local macro_rules | `(tactic| walk_at "pk") => `(tactic| first | exact Pick.head | (apply Pick.tail; walk_at "pk"))
local macro_rules | `(tactic| walk_at "rp") => `(tactic| first | exact Rep.head | (apply Rep.tail; walk_at "rp"))
local macro_rules | `(tactic| walk_at "sub") => `(tactic| first | exact Sub.refl | (refine Sub.pick1 (by walk_at "pk") ?_; walk_at "sub") | exact Sub.nil | (refine Sub.skip ?_; walk_at "sub"))
section
variable {α β : Type} {C : Cx} {A : Around} {l : Led} {e : Value → Led → Prop} {env : Env}
theorem w_dmethE {d : Addr} {kvs : List (Int × Value)} {ep : Nat} {name : Str} {id : String} {pl : Sem Bool} {k : Value × List Value → Led → Prop} (hm : (d, dE C kvs ep) ∈ l) (slot : Slot "dict" name id) (hty : typeOf (.builtin id) = pure (.type "method_descriptor"))
    (h : k (.builtin id, [.ref d]) l) : W C A l (getMethod (.ref d) name pl) k e := fun r s hs => by
  obtain ⟨o, ho, hP⟩ := hs.get hm
  obtain ⟨es, hx, _⟩ := hP
  exact getMethod_builtin (T := "dict") ⟨o, ho, hx.1⟩ PySem.F.plainAttrs_dict slot hty (fun a e => by cases e; exact ⟨o, ho, hx.2.1⟩) ⟨l, h, hs⟩
theorem w_callWith_b0 {pos : Pos} {id : String} {first : List Value} {k : Value → Led → Prop} (h : W C A l (call (.builtin id) first) k e) : W C A l (callWith pos (.builtin id) first (backTo pos (starEach [] env)) []) k e := fun r s hs => by
  refine callWith_builtin rfl (evalArgs_nil3 ?_)
  have := h r s hs
  simpa using this
theorem spec_nn (S : Ok C) {R : Result → Led → Prop} {x dx ad : Addr} {kvs : List (Int × Value)} {ep : Nat} (hA : A.depth < recursionLimit) (hx : (x, (· = instObj 245 dx)) ∈ l) (hd : (dx, idP C 1 [("_adjdict", .ref ad)]) ∈ l) (ha : (ad, dE C kvs ep) ∈ l)
    (h : ∀ v, R (.ok (.ret (.ref v))) ((v, ivP ad) :: l)) : CW C A l (.call (.ref 205) ⟨[.ref x], []⟩) R := by
  refine cw_def S.lim hA (S.k 205 _ rfl (by decide) (by decide)) rfl ⟨204, _, _, _, rfl, S.k 204 _ rfl (by decide) (by decide), rfl, rfl⟩ rfl rfl (by decide) (locs rfl) fun L => ?_
  refine w_execs_cons <| w_Return <| w_MethodCall <| w_AttributeN <| w_NameL rfl rfl <| w_getattr S ⟨.tail _ hx, 1, by decide, .tail _ hd⟩ rfl <| w_dmethE (.tail _ ha) PySem.F.slot_dict_items PySem.F.type_dict_items <| w_callWith_b0 <| w_dictItems S (.tail _ ha) fun v => ⟨_, ?_, h v⟩
  exact .pick1 .head (.skip .refl)
/-- what a view of the edges stands on -/
abbrev ViewL (C : Cx) (x dx ad : Addr) (adj : List (Addr × KV)) : Led := (x, (· = instObj 245 dx)) :: (dx, idP C 1 [("_adjdict", .ref ad)]) :: (ad, dP C (keyed (adj.map (·.1)))) :: rowsL C adj
theorem lgen_iter (S : Ok C) {o : Obj} {fd : FuncData} {body : List Stmt} (hlk : List.lookup 219 (KK C.w.params) = some o) (hd : o.data = .func fd) (hb : fd.body = .stmts body) {x dx ad L : Addr} {adj : List (Addr × KV)} (hA : A.depth + 5 < recursionLimit) (hh : A.handled = none) :
    LGen C A (ViewL C x dx ad adj) (itsFrom 0 adj) ((L, nsP [("self", .ref x)]) :: ViewL C x dx ad adj) (.fresh (.func body (callEnv fd L 219))) := by
  obtain rfl := Option.some.inj (hlk.symm.trans rfl)
  obtain rfl := Data.func.inj hd
  obtain rfl := FuncBody.stmts.inj hb
  clear hlk
  refine lgen_fresh fun G s₁ => lseg_func <| lseg_execs_cons <| lseg_For (fun v => rfl) ?_
  refine W.sub (l' := (ad, dP C (keyed (adj.map (·.1)))) :: (L, nsP [("self", .ref x)]) :: (x, (· = instObj 245 dx)) :: (dx, idP C 1 [("_adjdict", .ref ad)]) :: rowsL C adj) (.pick1 (.tail (.tail (.tail .head))) (.pick1 .head (.pick1 .head (.pick1 .head .refl)))) ?_
  refine w_ex (q := fun ep => dE C (keyed (adj.map (·.1))) ep) (fun o ho => ho.dE) fun ep => ?_
  refine W.sub (l' := (L, nsP [("self", .ref x)]) :: (ad, dE C (keyed (adj.map (·.1))) ep) :: (x, (· = instObj 245 dx)) :: (dx, idP C 1 [("_adjdict", .ref ad)]) :: rowsL C adj) (.pick1 (.tail .head) (.pick1 .head .refl)) ?_
  refine w_MethodCall <| w_NameL rfl rfl <| w_method S.g (f := 205) ⟨by walk_at "in", 1, by decide, by walk_at "in"⟩ rfl <| w_callWith_fn0 (S.k 205 _ rfl (by decide) (by decide)) rfl <| spec_nn S.g (by show A.depth + 0 + 1 < _; omega) (by walk_at "in") (by walk_at "in") (by walk_at "in") fun v => ?_
  refine w_pyIter_items (by walk_at "in") (by walk_at "in") fun it p => ?_
  refine LSeg.sub (l' := (it, iiP ad 0 (keyed (adj.map (·.1))).length ep) :: (L, nsP [("self", .ref x)]) :: (ad, dE C (keyed (adj.map (·.1))) ep) :: (rowsL C [] ++ (rowsL C adj ++ [(v, ivP ad), (x, (· = instObj 245 dx)), (dx, idP C 1 [("_adjdict", .ref ad)])]))) ?_ ?_
  · refine .pick1 .head (.pick1 (.tail .head) (.pick1 (.tail .head) ?_))
    exact .perm (List.perm_append_comm (l₁ := rowsL C adj) (l₂ := [_, _, _]))
  refine lseg_outer S rfl rfl rfl rfl rfl rfl rfl rfl rfl rfl rfl (by exact hh) (fun _ _ => rfl) (fun _ => rfl) (fun G' s₁ X' V' => ?_) adj [] _ _ _ _ rfl
  refine lseg_execs_nil (lseg_end (.inr rfl) ?_)
  refine .skip (Sub.trans (b := (ad, dP C (keyed (adj.map (·.1)))) :: ([(v, ivP ad), (x, (· = instObj 245 dx)), (dx, idP C 1 [("_adjdict", .ref ad)])] ++ rowsL C adj)) ?_ (.pick .head (fun _ h => h.dP) (.perm List.perm_append_comm)))
  exact .pick1 (.tail (.tail .head)) (.pick1 (.tail (.tail .head)) (.pick1 .head (.skip .refl)))
end
end Mine
end
/-! N7 -/
section
open PySem PySem.W PySem.Calls PyProof.Rows
set_option maxRecDepth 100000
set_option linter.all false
namespace Mine
section
variable {α β : Type} {C : Cx} {A : Around} {l : Led} {e : Value → Led → Prop} {env : Env}
theorem entry_ii_iter : entryFor table "dict_itemiterator.__iter__" = some Builtin.«dict_keyiterator.__iter__» := entryFor_alias (id' := "dict_keyiterator.__iter__") (by kernel_rfl) rfl (by decide +kernel) (by kernel_rfl)
theorem w_pyIter_ii {it d : Addr} {i n ep : Nat} {k : Value → Led → Prop} (hm : (it, iiP d i n ep) ∈ l) (h : k (.ref it) l) : W C A l (pyIter (.ref it)) k e := fun r s hs => by
  obtain ⟨o, ho, ok, ov, rfl⟩ := hs.get hm
  have hT : s.TypeIs (.ref it) "dict_itemiterator" := ⟨_, ho, rfl⟩
  refine wpAny_pyIter_slot hT PySem.F.slot_dict_itemiterator_iter (wpAny_call_entry PySem.F.slot_dict_itemiterator_iter hT entry_ii_iter ?_ (PySem.F.args_dict_itemiterator_iter_1 _))
  show wpAny _ _ (ret (.ref it)) _ _ s
  exact wpAny_pure ⟨_, rfl, "dict_itemiterator", _, hT, PySem.F.slot_dict_itemiterator_next.lookup, ⟨l, h, hs⟩⟩
/-- the code of a generator expression -/
theorem w_genCode (S : Ok C) {q : Str} {c P : Addr} {scope : Scope} {pos : Pos} {k : Value → Led → Prop} (t : Option Addr) (hcode : env.code = .ref c) (hch : ∀ h : Heap, (∀ b o, C.B.get? b = some o → h.get? b = some o) → CodeHd h c P)
    (h : ∀ c', k (.ref c') (TabL P pos q (some c') ++ l)) : W C A (TabL P pos q t ++ l) (genexprCode env pos q scope) k e := fun r s hs => by
  cases t with
  | none =>
    obtain ⟨o, ho, rfl⟩ := hs.get (a := P) (.head _)
    refine wpAny_genexprCodeX hcode ((hch _ hs.hp.base).code ho trivial) ((hch _ hs.hp.base).tab ho) rfl fun c' h' tk hx hge hlt _ hrec htab _ => ?_
    obtain ⟨c₂, oc, vs, tt, e2, hoc, hd, hv⟩ := hrec
    cases e2
    refine ⟨_, h c', ?_⟩
    have h1 : Hp C.B s.heap ((P, (· = tabObj #[])) :: (l ++ r)) := hs.hp
    have h2 := Hp.ext (p' := (· = tabObj #[rawInt pos.line, rawInt pos.col, .ref c'])) h1 hx ⟨_, htab.2, rfl⟩
    have hcn : c' ∉ ((P, (· = tabObj #[rawInt pos.line, rawInt pos.col, .ref c'])) :: (l ++ r)).map (·.1) := fun hm => by
      obtain ⟨q, hq, e3⟩ := List.mem_map.mp hm
      have : q.1 ∈ ((P, (· = tabObj #[])) :: (l ++ r)).map (·.1) := by
        rcases List.mem_cons.mp hq with rfl | hq
        · exact .head _
        · exact .tail _ (List.mem_map_of_mem hq)
      obtain ⟨q', hq', e4⟩ := List.mem_map.mp this
      obtain ⟨⟨o', ho', _⟩, _⟩ := h1.own q' hq'
      rw [e4, e3] at ho'
      exact absurd (Heap.lt_size ho') (Nat.not_lt.mpr hge)
    have h3 : Hp C.B h' ((c', codeP q) :: (P, (· = tabObj #[rawInt pos.line, rawInt pos.col, .ref c'])) :: (l ++ r)) := by
      refine ⟨h2.base, fun q hq => ?_, List.nodup_cons.mpr ⟨hcn, h2.nd⟩, h2.gm⟩
      rcases List.mem_cons.mp hq with rfl | hq
      · refine ⟨⟨oc, hoc, vs, tt, hd, hv⟩, ?_⟩
        cases e5 : C.B.get? c' with
        | none => rfl
        | some o' => exact absurd (Heap.lt_size (hs.hp.base _ _ e5)) (Nat.not_lt.mpr hge)
      · exact h2.own q hq
    exact ⟨h3.swap, hs.bare, hs.os⟩
  | some c' =>
    obtain ⟨o, ho, rfl⟩ := hs.get (a := P) (.head _)
    exact wpAny_genexprCode_hit hcode ((hch _ hs.hp.base).code ho trivial) (by simp [codeAmong, rawInt]) ⟨_, h c', hs⟩
theorem w_builtinsFor (S : Ok C) {P : Addr} {vs : Array Value} {k : Addr → Led → Prop} {run : Addr} (hP : (P, (· = tabObj vs)) ∈ l) (h : k builtinsNs l) : W C A l (builtinsFor mainGlobals run) k e := fun r s hs => by
  obtain ⟨o, ho, rfl⟩ := hs.get hP
  obtain ⟨mg, hg, ⟨bm, ob, hbm, hne0, _, hneP, hbo, hcls, hdict, hdata⟩, _⟩ := S.bt hs.hp.base ho
  exact wpAny_builtinsFor hg hbm hne0 hbo hcls hdict hdata ⟨l, h, hs⟩
/-! generator expressions: the turn of its loop -/
variable {F : Led} {G : Array GenState} {s₀ : Shared} {X : Led} {its : List YItem}
theorem lseg_compStart {elt target iter : Expr} {scope : Scope} {pos : Pos} {it : Value} {cenv : Env}
    (hself : ∀ A' (k : Value → Led → Prop), k it l → W (C.g G) A' l (pyIter it) k noE)
    (h : LSeg C A F G s₀ X its (.compLoop (.GeneratorExp elt [⟨target, iter, [], 0⟩] scope pos) 0 it .none cenv) ((model P C.w).den (.compLoop (.GeneratorExp elt [⟨target, iter, [], 0⟩] scope pos) 0 it .none cenv)) [] l) :
    LSeg C A F G s₀ X its (.compStart (.GeneratorExp elt [⟨target, iter, [], 0⟩] scope pos) 0 it .none cenv) ((model P C.w).den (.compStart (.GeneratorExp elt [⟨target, iter, [], 0⟩] scope pos) 0 it .none cenv)) [] l := by
  show LSeg C A F G s₀ X its _ ((compStart (.GeneratorExp elt [⟨target, iter, [], 0⟩] scope pos) 0 it .none cenv).onRaise (leaving cenv)) [] l
  unfold compStart
  rw [Sem.onRaise_eq_wrap]
  show LSeg C A F G s₀ X its _ ((ask >>= _).wrap _ _ _ _) [] l
  refine lseg_bind_wrap (fun r s hs => wpAny_askSetting ⟨l, ?_, hs⟩)
  show LSeg C A F G s₀ X its _ (Sem.wrap _ _ _ _ (if C.w.params.followText "comprehension-iter-twice" = true then _ else _)) [] l
  by_cases hq : C.w.params.followText "comprehension-iter-twice" = true
  · rw [if_pos hq]; exact lseg_again rfl h
  · rw [if_neg hq]
    refine lseg_bind_wrap (w_rule ?_)
    show LSeg C A F G s₀ X its _ ((standAt iter.pos >>= _).wrap _ _ _ _) [] l
    exact lseg_bind_wrap (w_standAt (lseg_bind_wrap (hself _ _ (lseg_again rfl h))))
theorem lseg_compLoop {elt target iter : Expr} {scope : Scope} {pos : Pos} {it : Value} {cenv : Env} (hco : cenv.scope.isCoroutine = false)
    (h : W (C.g G) (A.over (.compLoop (.GeneratorExp elt [⟨target, iter, [], 0⟩] scope pos) 0 it .none cenv) []) l (pyNext it) (fun r l₁ => match r with
      | none => its = [] ∧ Sub F l₁
      | some v => W (C.g G) (A.over (.compLoop (.GeneratorExp elt [⟨target, iter, [], 0⟩] scope pos) 0 it .none cenv) []) l₁ (letOwnedTupleGo target it v) (fun _ l₂ => W (C.g G) (A.over (.compLoop (.GeneratorExp elt [⟨target, iter, [], 0⟩] scope pos) 0 it .none cenv) []) l₂ (assign target cenv v) (fun _ l₃ =>
          W (C.g G) (A.over (.compLoop (.GeneratorExp elt [⟨target, iter, [], 0⟩] scope pos) 0 it .none cenv) []) l₃ (eval elt cenv) (fun y l₄ => ∃ yi its' X' e', its = yi :: its' ∧ Sub (e' ++ X') l₄ ∧ yi y e' ∧ ∀ G' s₁,
            LSeg C A F G' s₁ X' its' (.compLoop (.GeneratorExp elt [⟨target, iter, [], 0⟩] scope pos) 0 it .none cenv) ((model P C.w).den (.compLoop (.GeneratorExp elt [⟨target, iter, [], 0⟩] scope pos) 0 it .none cenv)) [] X') noE) noE) noE) noE) :
    LSeg C A F G s₀ X its (.compLoop (.GeneratorExp elt [⟨target, iter, [], 0⟩] scope pos) 0 it .none cenv) ((model P C.w).den (.compLoop (.GeneratorExp elt [⟨target, iter, [], 0⟩] scope pos) 0 it .none cenv)) [] l := by
  show LSeg C A F G s₀ X its _ ((compTurn (.GeneratorExp elt [⟨target, iter, [], 0⟩] scope pos) 0 it .none cenv).onRaise (leaving cenv)) [] l
  rw [compTurn_gen, Sem.onRaise_eq_wrap]
  refine lseg_bind_wrap (w_standAt ?_)
  refine lseg_bind_wrap (h.mono (fun r l₁ h₁ => ?_) fun _ _ z => z)
  cases r with
  | none =>
    obtain ⟨rfl, hF⟩ := h₁
    exact lseg_end (.inl rfl) hF
  | some v =>
    refine lseg_bind_wrap (h₁.mono (fun _ l₂ h₂ => ?_) fun _ _ z => z)
    refine lseg_bind_wrap (h₂.mono (fun _ l₃ h₃ => ?_) fun _ _ z => z)
    show LSeg C A F G s₀ X its _ ((pure true >>= _ : Sem Fin).wrap _ _ _ _) [] l₃
    refine lseg_bind_wrap (w_pure ?_)
    simp only [if_true]
    have hy : ∀ v, yieldOut cenv v = yieldValue v := fun v => by simp only [yieldOut, hco, Bool.false_eq_true, if_false]
    simp only [hy]
    rw [Sem.bind_eq_wrap', Sem.bind_eq_wrap', Sem.wrap_wrap, Sem.wrap_wrap]
    refine lseg_wrap (h₃.mono (fun y l₄ ⟨yi, its', X', e', e1, hS, hit, hn⟩ => ?_) fun _ _ z => z)
    subst e1
    refine lseg_at (.sub hS (lseg_yield rfl rfl rfl hit fun G' s₁ => ?_))
    exact lseg_again rfl (hn G' s₁)
end
end Mine
end
/-! N8 -/
section
open PySem PySem.W PySem.Calls PyProof.Rows
set_option maxRecDepth 100000
set_option linter.all false
namespace Mine
section
variable {C : Cx} {A : Around} {l F : Led}
/-- an int comes -/
def lenI (n : Int) : YItem := fun v e => ∃ t, v = .int n t ∧ e = []
theorem sum_lgen {D a : Addr} {g : Nat} {R : Result → Shared → Prop} (hlim : C.B.NoLimit) (hh : A.handled = none) (hroom : A.depth < recursionLimit) : ∀ {ks : List Int} {X r : Led} {gs : GenState} {s : Shared} {acc : Int} {tA : Tok}, 0 ≤ acc → (∀ k ∈ ks, 0 ≤ k) → acc + ks.sum ≤ 1000000 →
    St (C.g s.gens) (X ++ ((a, genP g) :: (D, freshP [.int acc tA]) :: r)) s → s.gens[g]? = some gs → LGen C A.in1.in1 F (ks.map lenI) X gs →
    (∀ t' s', St (C.g s'.gens) (F ++ r) s' → s'.gens[g]? = some .finished → GenOnly g s.gens s'.gens → R (.ok (.ret (.int (acc + ks.sum) t'))) s') →
    codeAny (model P C.w) A (.builtin "sum.loop" ⟨[.ref a, .ref D, rawInt 0, rawInt 0], []⟩) R s := by
  intro ks
  induction ks with
  | nil =>
    intro X r gs s acc tA h0 hk hz hs hgs hL hR
    obtain ⟨o, ho, n, rfl⟩ := (hs.hp.own (D, freshP [.int acc tA]) (List.mem_append_right _ (.tail _ (.head _)))).1
    refine codeAny_builtin PySem.F.entry_sum_loop ?_
    rw [Around.under_plainId PySem.F.plain_sum_loop _]
    show wpAny _ A.in1 (seqItems? (.ref D) >>= _) _ _ s
    refine wpAny_bind (wpAny_seqItems ho rfl ?_)
    show wpAny _ A.in1 (tryCatch (pyNext (.ref a)) _ >>= _) _ _ s
    refine wpAny_bind (wpAny_tryCatch (end_lgen (A := A.in1) hlim hh hroom hs (.head _) hgs hL fun s' hs' h1 h2 => ?_))
    refine wpAny_pure ?_
    have := hR tA s' (hs'.sub (Sub.trans (.skip (.skip .refl)) (Sub.perm (l := F ++ ([(a, genP g), (D, freshP [.int acc tA])] ++ r)) (l' := [(a, genP g), (D, freshP [.int acc tA])] ++ (F ++ r)) (List.perm_append_comm_assoc _ _ _)))) h1 h2
    simpa using this
  | cons k ks ih =>
    intro X r gs s acc tA h0 hk hz hs hgs hL hR
    have hk0 : 0 ≤ k := hk k (.head _)
    have hks : ∀ y ∈ ks, 0 ≤ y := fun y hy => hk y (.tail _ hy)
    have hsum : 0 ≤ ks.sum := by
      clear hk hz hL hR ih
      induction ks with
      | nil => simp
      | cons y ys ih => rw [List.sum_cons]; have := hks y (.head _); have := ih fun z hz => hks z (.tail _ hz); omega
    rw [List.sum_cons] at hz
    obtain ⟨o, ho, n, rfl⟩ := (hs.hp.own (D, freshP [.int acc tA]) (List.mem_append_right _ (.tail _ (.head _)))).1
    refine codeAny_builtin PySem.F.entry_sum_loop ?_
    rw [Around.under_plainId PySem.F.plain_sum_loop _]
    show wpAny _ A.in1 (seqItems? (.ref D) >>= _) _ _ s
    refine wpAny_bind (wpAny_seqItems ho rfl ?_)
    show wpAny _ A.in1 (tryCatch (pyNext (.ref a)) _ >>= _) _ _ s
    refine wpAny_bind (wpAny_tryCatch (next_lgen (A := A.in1) hlim hh hroom hs (.head _) hgs hL fun v gs' X' e' s' hit hL' hb hs' h1 h2 => ?_))
    obtain ⟨t, rfl, rfl⟩ := hit
    have hs' : St (C.g s'.gens) (X' ++ ((a, genP g) :: (D, freshP [.int acc tA]) :: r)) s' := hs'
    obtain ⟨o, ho', n', rfl⟩ := (hs'.hp.own (D, freshP [.int acc tA]) (List.mem_append_right _ (.tail _ (.head _)))).1
    have hc : ((decide (-(2 ^ 63) ≤ k) && decide (k < 2 ^ 63)) && (decide (-(2 ^ 63) ≤ acc + k) && decide (acc + k < 2 ^ 63))) = true := by
      simp only [Bool.and_eq_true, decide_eq_true_eq]
      omega
    show wpAny _ A.in1 (if (_ : Bool) = true then (mkInt (acc + k) >>= _) else _) _ _ _
    split
    · refine wpAny_bind (wpAny_mkInt ?_)
      show wpAny _ A.in1 (updateSeq D (fun _ => #[.int (acc + k) s'.toks]) >>= _) _ _ _
      refine wpAny_bind ?_
      refine wpAny_updateSeq ho' rfl (wpAny_pure ⟨plainId_quiet PySem.F.plain_sum_loop _, ih (X := X') (r := r) (gs := gs') (acc := acc + k) (tA := s'.toks) (by omega) hks (by omega) ?_ h1 hL' fun t' s'' hs'' h3 h4 => ?_⟩)
      · have := St.rep (C := C.g s'.gens) (r := []) (by rw [List.append_nil]; exact hs') (Rep.skipN X' (.tail .head)) (Heap.SameBut.update ..) ⟨_, Heap.get?_update_self (Obj.mapSeq fun _ => #[.int (acc + k) s'.toks]) ho' rfl, _, rfl⟩ (p' := freshP [.int (acc + k) s'.toks]) (s'.toks + 1)
        rw [List.append_nil] at this
        exact this
      · have := hR t' s'' hs'' h3 (h2.trans h4)
        rw [List.sum_cons, ← Int.add_assoc] at this
        exact this
    · rename_i hneg
      exact absurd hc hneg
end
end Mine
end
/-! P1 -/
section
set_option linter.all false
namespace Mine
theorem sumN_zero : ∀ {N : Nat} {f : Nat → Int}, (∀ v, v < N → 0 ≤ f v) → sumN N f = 0 → ∀ v, v < N → f v = 0
  | 0, _, _, _, v, h => by omega
  | n + 1, f, hp, hs, v, h => by
    have nn : ∀ (m : Nat), m ≤ n + 1 → 0 ≤ sumN m f := by
      intro m
      induction m with
      | zero => intro _; exact Int.le_refl _
      | succ m ih => intro hm; have := ih (by omega); have := hp m (by omega); simp only [sumN]; omega
    have h1 := nn n (by omega)
    have h2 := hp n (by omega)
    simp only [sumN] at hs
    by_cases e : v = n
    · subst e; omega
    · exact sumN_zero (N := n) (fun u hu => hp u (by omega)) (by omega) v (by omega)
theorem sumN_congr : ∀ {N : Nat} {f g : Nat → Int}, (∀ v, v < N → f v = g v) → sumN N f = sumN N g
  | 0, _, _, _ => rfl
  | n + 1, f, g, h => by simp only [sumN]; rw [sumN_congr fun v hv => h v (by omega), h n (by omega)]
theorem sumN_le : ∀ {N : Nat} {f g : Nat → Int}, (∀ v, v < N → f v ≤ g v) → sumN N f ≤ sumN N g
  | 0, _, _, _ => Int.le_refl _
  | n + 1, f, g, h => by
    have := sumN_le (N := n) fun v hv => h v (by omega)
    have := h n (by omega)
    simp only [sumN]; omega
theorem sumN_const0 : ∀ N : Nat, sumN N (fun _ => 0) = 0
  | 0 => rfl
  | n + 1 => by simp only [sumN]; rw [sumN_const0 n]; rfl
/-- one place changed -/
theorem sumN_one : ∀ {N : Nat} {f g : Nat → Int} {t : Nat}, t < N → (∀ v, v < N → v ≠ t → f v = g v) → sumN N f - sumN N g = f t - g t
  | 0, _, _, t, h, _ => by omega
  | n + 1, f, g, t, h, hv => by
    simp only [sumN]
    by_cases e : t = n
    · subst e
      rw [sumN_congr (N := t) fun v hv' => hv v (by omega) (by omega)]; omega
    · have := sumN_one (N := n) (by omega) fun v hv' => hv v (by omega)
      rw [hv n (by omega) (Ne.symm e)]; omega
/-- t alone: no more than the others that still give -/
theorem Ful.one {N : Nat} {c g : Nat → Int} (h : Ful N c g) (hg : ∀ v, v < N → 0 ≤ g v) {t : Nat} (ht : t < N) : c t ≤ sumN N fun u => if u ≠ t ∧ 0 < g u then 1 else 0 := by
  have h1 := h fun v => decide (v = t)
  have e1 : sumN N (fun v => if decide (v = t) = true then c v else 0) = c t := by
    have := sumN_one (f := fun v => if decide (v = t) = true then c v else 0) (g := fun _ => 0) ht fun v _ hne => by simp [hne]
    rw [sumN_const0] at this
    simp at this ⊢
    omega
  rw [e1] at h1
  refine Int.le_trans h1 (sumN_le fun u hu => ?_)
  have hc : cardBut N (fun v => decide (v = t)) u = if u ≠ t then 1 else 0 := by
    unfold cardBut
    by_cases e : u = t
    · subst e
      rw [sumN_congr (g := fun _ => 0) fun v _ => by simp, sumN_const0]; simp
    · have := sumN_one (f := fun v => if decide (v = t) = true ∧ v ≠ u then (1 : Int) else 0) (g := fun _ => 0) ht fun v _ hne => by simp [hne]
      rw [sumN_const0] at this
      simp [e, Ne.symm e] at this ⊢
      omega
  rw [hc]
  have := hg u hu
  by_cases e : u = t
  · simp [e]; omega
  · by_cases q : 0 < g u
    · simp [e, q]; omega
    · simp [e, q]; omega
end Mine
end
/-! P2 -/
section
set_option linter.all false
namespace Mine
theorem sumN_add : ∀ {N : Nat} {f g : Nat → Int}, sumN N (fun v => f v + g v) = sumN N f + sumN N g
  | 0, _, _ => rfl
  | n + 1, f, g => by simp only [sumN]; rw [sumN_add (N := n)]; omega
theorem sumN_mem {N : Nat} : ∀ {D : List Nat} {b : Nat → Bool}, (∀ v, v < N → b v = true → v ∈ D) → sumN N (fun v => if b v = true then 1 else 0) ≤ D.length
  | [], b, hb => by
    rw [sumN_congr (g := fun _ => 0) fun v hv => ?_, sumN_const0]
    · exact Int.le_refl _
    · cases q : b v with
      | false => simp
      | true => exact absurd (hb v hv q) (by simp)
  | x :: D, b, hb => by
    have ih := sumN_mem (N := N) (D := D) (b := fun u => b u && decide (u ≠ x)) fun u hu q => by
      simp at q
      rcases List.mem_cons.mp (hb u hu q.1) with e | e
      · exact absurd e q.2
      · exact e
    have step : sumN N (fun u => if b u = true then (1 : Int) else 0) ≤ sumN N (fun u => if (b u && decide (u ≠ x)) = true then (1 : Int) else 0) + 1 := by
      by_cases hvN : x < N
      · have := sumN_one (f := fun u => if b u = true then (1 : Int) else 0) (g := fun u => if (b u && decide (u ≠ x)) = true then (1 : Int) else 0) hvN fun u _ hne => by simp [hne]
        have e1 : (if (b x && decide (x ≠ x)) = true then (1 : Int) else 0) = 0 := by simp
        rw [e1] at this
        have e2 : (if b x = true then (1 : Int) else 0) ≤ 1 := by split <;> omega
        omega
      · rw [sumN_congr (f := fun u => if b u = true then (1 : Int) else 0) (g := fun u => if (b u && decide (u ≠ x)) = true then (1 : Int) else 0) fun u hu => by
          have : u ≠ x := by omega
          simp [this]]
        omega
    simp only [List.length_cons]
    omega
theorem sumN_sub {N : Nat} {f g : Nat → Int} : sumN N (fun v => f v - g v) = sumN N f - sumN N g := by
  have := sumN_add (N := N) (f := fun v => f v - g v) (g := g)
  rw [sumN_congr (g := f) fun v _ => by omega] at this
  omega
def cnt (N : Nat) (A : Nat → Bool) : Int := sumN N fun v => if A v = true then 1 else 0
def sumIf (N : Nat) (A : Nat → Bool) (c : Nat → Int) : Int := sumN N fun v => if A v = true then c v else 0
theorem cardBut_eq {N : Nat} {A : Nat → Bool} {u : Nat} (hu : u < N) : cardBut N A u = cnt N A - if A u = true then 1 else 0 := by
  have := sumN_one (f := fun v => if A v = true ∧ v ≠ u then (1 : Int) else 0) (g := fun v => if A v = true then (1 : Int) else 0) hu fun v _ hne => by simp [hne]
  unfold cardBut cnt
  simp only [ne_eq, not_true_eq_false, and_false, if_false] at this
  simp only [ne_eq]
  omega
def add1 (A : Nat → Bool) (t : Nat) : Nat → Bool := fun v => A v || decide (v = t)
def rem1 (A : Nat → Bool) (t : Nat) : Nat → Bool := fun v => A v && decide (v ≠ t)
theorem sumIf_add {N : Nat} {A : Nat → Bool} {c : Nat → Int} {t : Nat} (ht : t < N) (h : A t = false) : sumIf N (add1 A t) c = sumIf N A c + c t := by
  have := sumN_one (f := fun v => if add1 A t v = true then c v else 0) (g := fun v => if A v = true then c v else 0) ht fun v _ hne => by simp [add1, hne]
  simp only [add1, h, decide_true, Bool.or_true, if_true, Bool.false_eq_true, if_false] at this
  unfold sumIf
  simp only [add1]
  omega
theorem sumIf_rem {N : Nat} {A : Nat → Bool} {c : Nat → Int} {t : Nat} (ht : t < N) (h : A t = true) : sumIf N (rem1 A t) c = sumIf N A c - c t := by
  have := sumN_one (f := fun v => if rem1 A t v = true then c v else 0) (g := fun v => if A v = true then c v else 0) ht fun v _ hne => by simp [rem1, hne]
  simp only [rem1, h, ne_eq, not_true_eq_false, decide_false, Bool.and_false, if_true, Bool.false_eq_true, if_false] at this
  unfold sumIf
  simp only [rem1, ne_eq]
  omega
theorem cnt_add {N : Nat} {A : Nat → Bool} {t : Nat} (ht : t < N) (h : A t = false) : cnt N (add1 A t) = cnt N A + 1 := sumIf_add (c := fun _ => 1) ht h
theorem cnt_rem {N : Nat} {A : Nat → Bool} {t : Nat} (ht : t < N) (h : A t = true) : cnt N (rem1 A t) = cnt N A - 1 := sumIf_rem (c := fun _ => 1) ht h
theorem cnt_nonneg {N : Nat} {A : Nat → Bool} : 0 ≤ cnt N A := by
  have := sumN_le (N := N) (f := fun _ => 0) (g := fun v => if A v = true then (1 : Int) else 0) fun v _ => by split <;> omega
  rw [sumN_const0] at this
  exact this
theorem Ful.use {N : Nat} {c g : Nat → Int} (h : Ful N c g) (A : Nat → Bool) : sumIf N A c ≤ sumN N fun u => min (g u) (cnt N A - if A u = true then 1 else 0) := by
  have := h A
  rw [sumN_congr (f := fun u => min (g u) (cardBut N A u)) fun u hu => by rw [cardBut_eq hu]] at this
  exact this
/-- the step of Kleitman and Wang -/
theorem Ful.step {N : Nat} {ri ro : Nat → Int} {t : Nat} {D : List Nat} (hf : Ful N ri ro) (ht : t < N) (h0 : ∀ v, v < N → 0 ≤ ri v) (hok : ∀ u ∈ D, u < N ∧ u ≠ t)
    (top : ∀ u ∈ D, ∀ w, w < N → w ≠ t → w ∉ D → ro w < ro u ∨ (ro w = ro u ∧ ri w ≤ ri u)) (hD : (D.length : Int) = ri t) :
    Ful N (fun v => if v = t then 0 else ri v) (fun v => if v ∈ D then ro v - 1 else ro v) := by
  have main : ∀ (n : Nat) (A : Nat → Bool), cnt N A < n → sumIf N A (fun v => if v = t then 0 else ri v) ≤ sumN N fun u => min (if u ∈ D then ro u - 1 else ro u) (cnt N A - if A u = true then 1 else 0) := by
    intro n
    induction n with
    | zero => intro A hA; have := cnt_nonneg (N := N) (A := A); omega
    | succ n ih =>
      intro A hA
      cases hAt : A t with
      | true =>
        have h1 := ih (rem1 A t) (by rw [cnt_rem ht hAt]; omega)
        rw [sumIf_rem ht hAt, cnt_rem ht hAt] at h1
        simp only [if_true] at h1
        refine Int.le_trans (by omega) (Int.le_trans h1 (sumN_le fun u hu => ?_))
        unfold rem1
        by_cases e : u = t
        · subst e; simp [hAt] <;> omega
        · simp [e]; split <;> omega
      | false =>
        have eP : sumIf N A (fun v => if v = t then 0 else ri v) = sumIf N A ri := sumN_congr fun v _ => by
          by_cases e : v = t
          · subst e; simp [hAt]
          · simp [e]
        rw [eP]
        have hDs : sumN N (fun x => if x ∈ D then (1 : Int) else 0) ≤ ri t := by
          have := sumN_mem (N := N) (D := D) (b := fun v => decide (v ∈ D)) fun v _ q => by simpa using q
          simp only [decide_eq_true_eq] at this
          omega
        by_cases hW : ∃ w, w < N ∧ w ∉ D ∧ w ≠ t ∧ cnt N A - (if A w = true then 1 else 0) < ro w
        · by_cases hL : ∃ u, u ∈ D ∧ ro u ≤ cnt N A - (if A u = true then 1 else 0)
          · obtain ⟨w, hwN, hwD, hwt, hw⟩ := hW
            obtain ⟨u, huD, hu⟩ := hL
            obtain ⟨huN, hut⟩ := hok u huD
            have huw : u ≠ w := fun e => hwD (e ▸ huD)
            have hd := top u huD w hwN hwt hwD
            have hAw : A w = true := by
              cases q : A w with
              | true => rfl
              | false => rw [q] at hw; simp at hw; split at hu <;> omega
            have hAu : A u = false := by
              cases q : A u with
              | false => rfl
              | true => rw [q] at hu; rw [hAw] at hw; simp at hw hu; omega
            rw [hAw] at hw
            rw [hAu] at hu
            simp at hw hu
            have hAtu : add1 A t u = false := by simp [add1, hAu, hut]
            have h1 := hf.use (add1 (add1 A t) u)
            rw [sumIf_add huN hAtu, sumIf_add ht hAt, cnt_add huN hAtu, cnt_add ht hAt] at h1
            have h2 := ih (rem1 A w) (by rw [cnt_rem hwN hAw]; omega)
            rw [sumIf_rem hwN hAw, cnt_rem hwN hAw, eP] at h2
            simp only [hwt, if_false] at h2
            have key : sumN N (fun x => min (ro x) (cnt N A + 1 + 1 - if add1 (add1 A t) u x = true then 1 else 0) + min (if x ∈ D then ro x - 1 else ro x) (cnt N A - 1 - if rem1 A w x = true then 1 else 0)) ≤
                sumN N (fun x => (min (if x ∈ D then ro x - 1 else ro x) (cnt N A - if A x = true then 1 else 0) + min (if x ∈ D then ro x - 1 else ro x) (cnt N A - if A x = true then 1 else 0)) + ((if x ∈ D then 1 else 0) + if decide (x = w) = true then 1 else 0)) := by
              refine sumN_le fun x hx => ?_
              by_cases e1 : x = u
              · subst e1
                simp [add1, rem1, huD, hAu, huw]
                omega
              by_cases e2 : x = w
              · subst e2
                simp [add1, rem1, hwD, hAw]
                omega
              by_cases e3 : x = t
              · subst e3
                have : x ∉ D := fun h => (hok x h).2 rfl
                simp [add1, rem1, this, hAt]
                omega
              by_cases e4 : x ∈ D
              · simp [add1, rem1, e1, e2, e3, e4]
                split <;> omega
              · have := top u huD x hx e3 e4
                simp [add1, rem1, e1, e2, e3, e4]
                split <;> omega
            rw [sumN_add, sumN_add, sumN_add, sumN_add] at key
            have one : sumN N (fun x => if decide (x = w) = true then (1 : Int) else 0) ≤ 1 := by
              have := sumN_mem (N := N) (D := [w]) (b := fun v => decide (v = w)) fun v _ q => by simpa using q
              simpa using this
            omega
          · have h1 := hf.use A
            refine Int.le_trans h1 (sumN_le fun x hx => ?_)
            by_cases e : x ∈ D
            · have : ¬ (ro x ≤ cnt N A - (if A x = true then 1 else 0)) := fun h => hL ⟨x, e, h⟩
              simp only [e, if_true]
              omega
            · simp only [e, if_false]; omega
        · have h1 := hf.use (add1 A t)
          rw [sumIf_add ht hAt, cnt_add ht hAt] at h1
          have key : sumN N (fun x => min (ro x) (cnt N A + 1 - if add1 A t x = true then 1 else 0)) ≤ sumN N (fun x => min (if x ∈ D then ro x - 1 else ro x) (cnt N A - if A x = true then 1 else 0) + if x ∈ D then 1 else 0) := by
            refine sumN_le fun x hx => ?_
            by_cases e : x ∈ D
            · have := (hok x e).2
              simp [add1, e, this]
              split <;> omega
            · by_cases e2 : x = t
              · subst e2
                simp [add1, e, hAt] <;> omega
              · have h3 : ¬ (cnt N A - (if A x = true then 1 else 0) < ro x) := fun h => hW ⟨x, hx, e, e2, h⟩
                simp [add1, e, e2] at h3 ⊢
                split <;> simp_all <;> omega
          rw [sumN_add] at key
          omega
  intro A
  have h := main ((cnt N A).toNat + 1) A (by have := cnt_nonneg (N := N) (A := A); omega)
  refine Int.le_trans h (Int.le_of_eq (sumN_congr fun u hu => ?_))
  rw [cardBut_eq hu]
end Mine
end
/-! P3 -/
section
set_option linter.all false
namespace Mine
theorem countP_fib {α : Type} {N : Nat} {f : α → Nat} {q : α → Bool} : ∀ {E : List α}, (∀ e ∈ E, f e < N) → sumN N (fun v => (E.countP (fun e => f e == v && q e) : Int)) = E.countP q
  | [], _ => by simp [sumN_const0]
  | e :: E, h => by
    have ih := countP_fib (N := N) (f := f) (q := q) (E := E) fun x hx => h x (.tail _ hx)
    have h1 := sumN_one (f := fun v => ((e :: E).countP (fun e => f e == v && q e) : Int)) (g := fun v => (E.countP (fun e => f e == v && q e) : Int)) (h e (.head _)) fun v _ hne => by
      simp [List.countP_cons, Ne.symm hne]
    rw [ih] at h1
    simp only [List.countP_cons, beq_self_eq_true, Bool.true_and] at h1 ⊢
    split at h1 <;> rename_i hq <;> simp_all <;> omega
theorem countP_nodup {N : Nat} {E : List (Nat × Nat)} (hn : E.Nodup) (hok : ∀ p ∈ E, p.1 < N ∧ p.2 < N ∧ p.1 ≠ p.2) (A : Nat → Bool) (u : Nat) : (E.countP (fun p => p.1 == u && A p.2) : Int) ≤ cardBut N A u := by
  have h1 := countP_fib (N := N) (f := fun p : Nat × Nat => p.2) (q := fun p => p.1 == u && A p.2) (E := E) fun e he => (hok e he).2.1
  rw [← h1]
  refine sumN_le fun v hv => ?_
  by_cases h : A v = true ∧ v ≠ u
  · rw [if_pos h]
    have h2 : E.countP (fun p => p.2 == v && (p.1 == u && A p.2)) ≤ E.count (u, v) := by
      rw [List.count]
      refine List.countP_mono_left fun p hp q => ?_
      simp only [Bool.and_eq_true, beq_iff_eq] at q
      obtain ⟨a, b⟩ := p
      simp at q
      simp [q.1, q.2.1]
    have h3 := List.nodup_iff_count.mp hn (u, v)
    omega
  · rw [if_neg h]
    have : E.countP (fun p => p.2 == v && (p.1 == u && A p.2)) = 0 := by
      rw [List.countP_eq_zero]
      intro p hp q
      simp only [Bool.and_eq_true, beq_iff_eq] at q
      refine h ⟨q.1 ▸ q.2.2, fun e => (hok p hp).2.2 ?_⟩
      omega
    omega
/-- the numbers of a drawn graph hold Fulkerson's condition -/
theorem edges_good {N : Nat} {c g : Nat → Int} {E : List (Nat × Nat)} (hn : E.Nodup) (hok : ∀ p ∈ E, p.1 < N ∧ p.2 < N ∧ p.1 ≠ p.2)
    (ins : ∀ v, v < N → (E.countP (fun p => p.2 == v) : Int) = c v) (outs : ∀ v, v < N → (E.countP (fun p => p.1 == v) : Int) = g v) : GoodF N c g where
  pos := fun v hv => by rw [← ins v hv, ← outs v hv]; omega
  sum := by
    have h1 := countP_fib (N := N) (f := fun p : Nat × Nat => p.2) (q := fun _ => true) (E := E) fun e he => (hok e he).2.1
    have h2 := countP_fib (N := N) (f := fun p : Nat × Nat => p.1) (q := fun _ => true) (E := E) fun e he => (hok e he).1
    simp only [Bool.and_true] at h1 h2
    rw [sumN_congr fun v hv => (ins v hv).symm, h1, sumN_congr fun v hv => (outs v hv).symm, h2]
  ful := fun A => by
    have h1 := countP_fib (N := N) (f := fun p : Nat × Nat => p.2) (q := fun p => A p.2) (E := E) fun e he => (hok e he).2.1
    have h2 := countP_fib (N := N) (f := fun p : Nat × Nat => p.1) (q := fun p => A p.2) (E := E) fun e he => (hok e he).1
    have h3 : sumN N (fun v => if A v = true then c v else 0) = E.countP (fun p => A p.2) := by
      rw [← h1]
      refine sumN_congr fun v hv => ?_
      by_cases q : A v = true
      · rw [if_pos q, ← ins v hv]
        congr 1
        refine List.countP_congr fun p hp => ?_
        simp only [beq_iff_eq, Bool.and_eq_true]
        exact ⟨fun e => ⟨e, e ▸ q⟩, fun e => e.1⟩
      · rw [if_neg q]
        symm
        have : E.countP (fun p => p.2 == v && A p.2) = 0 := by
          rw [List.countP_eq_zero]
          intro p hp h
          simp only [Bool.and_eq_true, beq_iff_eq] at h
          exact q (h.1 ▸ h.2)
        omega
    rw [h3, ← h2]
    refine sumN_le fun u hu => ?_
    have h4 := countP_nodup hn hok A u
    have h5 : E.countP (fun p => p.1 == u && A p.2) ≤ E.countP (fun p => p.1 == u) := List.countP_mono_left fun p hp q => by
      simp only [Bool.and_eq_true] at q; exact q.1
    rw [← outs u hu]
    omega
theorem sumN_comm {f : Nat → Nat → Int} : ∀ {N M : Nat}, sumN N (fun u => sumN M (fun v => f u v)) = sumN M (fun v => sumN N fun u => f u v)
  | 0, M => (sumN_const0 M).symm
  | n + 1, M => by simp only [sumN]; rw [sumN_comm (N := n), sumN_add]
/-- the same of both rows the other way round -/
theorem GoodF.swap {N : Nat} {c g : Nat → Int} (h : GoodF N c g) : GoodF N g c where
  pos := fun v hv => ⟨(h.pos v hv).2, (h.pos v hv).1⟩
  sum := h.sum.symm
  ful := fun B => by
    let A : Nat → Bool := fun v => decide (cardBut N B v < c v)
    have h1 := h.ful A
    have h2 : sumN N (fun u => min (g u) (cardBut N A u)) ≤ sumN N (fun u => (if B u = true then 0 else g u) + if B u = true then cardBut N A u else 0) := sumN_le fun u _ => by split <;> omega
    rw [sumN_add] at h2
    have e1 : sumN N (fun u => if B u = true then cardBut N A u else 0) = sumN N (fun v => if A v = true then cardBut N B v else 0) := by
      unfold cardBut
      rw [sumN_congr (g := fun u => sumN N fun v => if B u = true ∧ A v = true ∧ v ≠ u then 1 else 0) fun u _ => ?_, sumN_comm]
      · refine sumN_congr fun v _ => ?_
        by_cases q : A v = true
        · rw [if_pos q]
          exact sumN_congr fun u _ => by simp only [q, true_and, ne_comm]
        · rw [if_neg q, sumN_congr (g := fun _ => 0) fun u _ => by simp [q], sumN_const0]
      · by_cases q : B u = true
        · rw [if_pos q]
          exact sumN_congr fun v _ => by simp [q]
        · rw [if_neg q, sumN_congr (g := fun _ => 0) fun v _ => by simp [q], sumN_const0]
    have e2 : sumN N (fun v => min (c v) (cardBut N B v)) = sumN N (fun v => (if A v = true then cardBut N B v else 0) + (c v - if A v = true then c v else 0)) := sumN_congr fun v _ => by
      by_cases q : A v = true
      · have : cardBut N B v < c v := by simpa [A] using q
        rw [if_pos q, if_pos q]; omega
      · have : ¬ cardBut N B v < c v := by simpa [A] using q
        rw [if_neg q, if_neg q]; omega
    have e3 : sumN N g = sumN N (fun u => (if B u = true then 0 else g u) + if B u = true then g u else 0) := sumN_congr fun u _ => by split <;> omega
    have hs := h.sum
    rw [sumN_add] at e3
    rw [sumN_add, sumN_sub] at e2
    omega
theorem good_swap {N : Nat} {c g : Nat → Int} : GoodF N c g ↔ GoodF N g c := ⟨.swap, .swap⟩
end Mine
end
/-! P4 -/
section
set_option linter.all false
namespace Mine
/-- the k greatest weigh most -/
theorem top_weigh {N : Nat} {wt : Nat → Int} {P A : Nat → Bool} {τ : Int} (h1 : ∀ u, u < N → P u = true → τ ≤ wt u) (h2 : ∀ u, u < N → P u = false → wt u ≤ τ) (hc : cnt N A = cnt N P) : sumIf N A wt ≤ sumIf N P wt := by
  have key : sumN N (fun u => (if A u = true then wt u else 0) + (if P u = true then τ else 0)) ≤ sumN N (fun u => (if P u = true then wt u else 0) + if A u = true then τ else 0) := sumN_le fun u hu => by
    have a := h1 u hu
    have b := h2 u hu
    cases hA : A u <;> cases hP : P u <;> simp_all <;> omega
  rw [sumN_add, sumN_add] at key
  have e : ∀ (B : Nat → Bool), sumN N (fun u => if B u = true then τ else 0) = cnt N B * τ := fun B => by
    unfold cnt
    generalize N = M
    induction M with
    | zero => simp [sumN]
    | succ m ih => simp only [sumN, ih]; split <;> simp [Int.add_mul]
  rw [e, e, hc] at key
  unfold sumIf
  omega
theorem sumN_list {N : Nat} (f : Nat → Int) : ∀ {os : List Nat}, os.Nodup → (∀ v ∈ os, v < N) → (os.map f).sum = sumN N fun v => if v ∈ os then f v else 0
  | [], _, _ => by simp [sumN_const0]
  | v :: os, hn, h => by
    obtain ⟨h1, h2⟩ := List.nodup_cons.mp hn
    have ih := sumN_list (N := N) f h2 fun u hu => h u (.tail _ hu)
    have h3 := sumN_one (f := fun u => if u ∈ v :: os then f u else 0) (g := fun u => if u ∈ os then f u else 0) (h v (.head _)) fun u _ hne => by simp [hne]
    simp only [List.mem_cons, true_or, if_true, h1, if_false] at h3
    simp only [List.map_cons, List.sum_cons, ih, List.mem_cons]
    omega
def prefOk (c g : Nat → Int) (os : List Nat) (k : Nat) : Prop :=
  ((os.take k).map c).sum ≤ ((os.take k).map fun v => min (g v) ((k : Int) - 1)).sum + ((os.drop k).map fun v => min (g v) (k : Int)).sum
theorem ful_iff {N : Nat} {c g : Nat → Int} {os : List Nat} (hp : os.Perm (List.range N)) (hs : os.Pairwise fun u w => c w < c u ∨ (c w = c u ∧ g w ≤ g u)) (hg : ∀ v, v < N → 0 ≤ g v) :
    (∀ k, 1 ≤ k → k ≤ N → prefOk c g os k) ↔ Ful N c g := by
  have hn : os.Nodup := hp.nodup_iff.mpr List.nodup_range
  have hm : ∀ v, v ∈ os ↔ v < N := fun v => by rw [hp.mem_iff, List.mem_range]
  have hl : os.length = N := by rw [hp.length_eq, List.length_range]
  have dj : ∀ k v, v ∈ os.take k → v ∈ os.drop k → False := fun k v a b => by
    have := hn
    rw [← List.take_append_drop k os, List.nodup_append] at this
    exact this.2.2 v a v b rfl
  have sp : ∀ k v, v < N → v ∉ os.take k → v ∈ os.drop k := fun k v hv h => by
    have := (hm v).mpr hv
    rw [← List.take_append_drop k os, List.mem_append] at this
    exact this.resolve_left h
  have hcn : ∀ k, k ≤ N → cnt N (fun v => decide (v ∈ os.take k)) = k := fun k hk => by
    have := sumN_list (N := N) (fun _ => 1) (os := os.take k) (hn.sublist (List.take_sublist k os)) fun v hv => (hm v).mp (List.mem_of_mem_take hv)
    unfold cnt
    simp only [decide_eq_true_eq]
    rw [← this, List.map_take, List.map_const', List.take_replicate, List.sum_replicate_int]
    omega
  -- the prefix as a set
  have pre : ∀ k, k ≤ N → (prefOk c g os k ↔ sumIf N (fun v => decide (v ∈ os.take k)) c ≤ sumN N fun u => min (g u) (cnt N (fun v => decide (v ∈ os.take k)) - if decide (u ∈ os.take k) = true then 1 else 0)) := fun k hk => by
    unfold prefOk sumIf
    rw [hcn k hk, sumN_list (N := N) c (hn.sublist (List.take_sublist k os)) fun v hv => (hm v).mp (List.mem_of_mem_take hv), sumN_list (N := N) _ (hn.sublist (List.take_sublist k os)) fun v hv => (hm v).mp (List.mem_of_mem_take hv),
      sumN_list (N := N) _ (hn.sublist (List.drop_sublist k os)) fun v hv => (hm v).mp (List.mem_of_mem_drop hv), ← sumN_add]
    simp only [decide_eq_true_eq]
    rw [sumN_congr (f := fun v => (if v ∈ os.take k then min (g v) ((k : Int) - 1) else 0) + if v ∈ os.drop k then min (g v) (k : Int) else 0) fun u hu => ?_]
    by_cases h : u ∈ os.take k
    · have h2 : u ∉ os.drop k := fun h2 => dj k u h h2
      simp [h, h2]
    · simp [h, sp k u hu h]
  constructor
  · intro hk A
    rw [show sumN N (fun u => min (g u) (cardBut N A u)) = sumN N (fun u => min (g u) (cnt N A - if A u = true then 1 else 0)) from sumN_congr fun u hu => by rw [cardBut_eq hu]]
    have hA0 := cnt_nonneg (N := N) (A := A)
    have hAN : cnt N A ≤ N := by
      have := sumN_mem (N := N) (D := List.range N) (b := A) fun v hv _ => List.mem_range.mpr hv
      simpa [cnt] using this
    obtain ⟨k, hkk⟩ : ∃ k : Nat, cnt N A = k := ⟨(cnt N A).toNat, by omega⟩
    by_cases h0 : k = 0
    · subst h0
      have hz := sumN_zero (f := fun v => if A v = true then (1 : Int) else 0) (fun v _ => by split <;> omega) hkk
      have e1 : sumN N (fun v => if A v = true then c v else 0) = sumN N fun _ => 0 := sumN_congr fun v hv => by
        have := hz v hv
        split at this <;> simp_all
      rw [e1]
      refine sumN_le fun u hu => ?_
      have h1 := hz u hu
      have h2 := hg u hu
      rw [hkk, h1]
      show 0 ≤ _
      omega
    · have hkN : k ≤ N := by omega
      have h1 := (pre k hkN).mp (hk k (by omega) hkN)
      have hlt : k - 1 < os.length := by omega
      have h2 := top_weigh (N := N) (wt := fun u => c u + if (k : Int) ≤ g u then 1 else 0) (P := fun v => decide (v ∈ os.take k)) (A := A) (τ := c os[k - 1] + if (k : Int) ≤ g os[k - 1] then 1 else 0) ?_ ?_ (by rw [hkk, hcn k hkN])
      · unfold sumIf at h1 h2
        rw [hcn k hkN] at h1
        show sumN N (fun v => if A v = true then c v else 0) ≤ _
        rw [hkk]
        have f : ∀ B : Nat → Bool, sumN N (fun v => if B v = true then (c v + if (k : Int) ≤ g v then 1 else 0) else 0) + sumN N (fun u => min (g u) ((k : Int) - if B u = true then 1 else 0)) = sumN N (fun v => if B v = true then c v else 0) + sumN N (fun u => min (g u) (k : Int)) := fun B => by
          rw [← sumN_add, ← sumN_add]
          refine sumN_congr fun u _ => ?_
          by_cases q : B u = true
          · by_cases q2 : (k : Int) ≤ g u
            · simp only [q, if_true, q2]; omega
            · simp only [q, if_true, q2, if_false]; omega
          · simp only [q, Bool.false_eq_true, if_false]; omega
        have fA := f A
        have fP := f fun v => decide (v ∈ os.take k)
        dsimp only at h1 h2 fA fP
        omega
      · intro u hu hP
        obtain ⟨i, hi, e⟩ := List.getElem_of_mem (of_decide_eq_true hP)
        rw [List.getElem_take] at e
        rw [List.length_take] at hi
        by_cases hik : i = k - 1
        · subst hik; subst e; exact Int.le_refl _
        · have := List.pairwise_iff_getElem.mp hs i (k - 1) (by omega) hlt (by omega)
          rw [e] at this
          split <;> split <;> omega
      · intro u hu hP
        obtain ⟨i, hi, e⟩ := List.getElem_of_mem (sp k u hu (of_decide_eq_false hP))
        rw [List.getElem_drop] at e
        rw [List.length_drop] at hi
        have := List.pairwise_iff_getElem.mp hs (k - 1) (k + i) hlt (by omega) (by omega)
        rw [e] at this
        split <;> split <;> omega
  · intro h k h1 hk
    exact (pre k hk).mpr (h.use _)
end Mine
end
/-! Q1 -/
section
open PySem PySem.W PySem.Calls PyProof.Rows
set_option maxRecDepth 100000
set_option linter.all false
namespace Mine
local macro_rules | `(tactic| walk_at "lk") => `(tactic| first | with_reducible exact look_eq | (rw [lookup_put, if_neg (by decide)]; walk_at "lk") | assumption | exact rfl)
local macro_rules | `(tactic| walk_at "in") => `(tactic| first | exact List.Mem.head _ | (refine List.Mem.tail _ ?_; walk_at "in"))
local macro_rules | `(tactic| walk_at "pk") => `(tactic| first | exact Pick.head | (apply Pick.tail; walk_at "pk"))
local macro_rules | `(tactic| walk_at "rp") => `(tactic| first | exact Rep.head | (apply Rep.tail; walk_at "rp"))
local macro_rules | `(tactic| walk_at "sub") => `(tactic| first | exact Sub.refl | (refine Sub.pick1 (by walk_at "pk") ?_; walk_at "sub") | exact Sub.nil | (refine Sub.skip ?_; walk_at "sub"))
local macro_rules | `(tactic| walk_at "mem") => `(tactic| first | assumption | exact List.Mem.head _ | (refine List.Mem.tail _ ?_; walk_at "mem"))
section
variable {α β : Type} {C : Cx} {A : Around} {l : Led} {e : Value → Led → Prop} {env : Env}
theorem W.any {t : Sem α} {k : α → Led → Prop} (h : W C A l t k noE) : W C A l t k e := h.mono (fun _ _ z => z) fun _ _ z => z.elim
theorem Sub.rot (X T l : Led) : Sub (T ++ (X ++ l)) (X ++ (T ++ l)) := Sub.perm (by
  rw [← List.append_assoc, ← List.append_assoc]
  exact List.perm_append_comm.append_right l)
theorem sum_at0 (xs : List Int) : sumN xs.length (at0 xs) = xs.sum := by
  have h := sumN_list (N := xs.length) (at0 xs) (os := List.range xs.length) List.nodup_range fun v hv => List.mem_range.mp hv
  have e : (List.range xs.length).map (at0 xs) = xs := by
    apply List.ext_getElem (by simp)
    intro i h1 h2
    have h2' : i < xs.length := by simpa using h1
    simp [at0, h2']
  rw [e] at h
  rw [h]
  exact sumN_congr fun v hv => by simp [hv]
theorem at0_mem {xs : List Int} {v : Nat} (h : v < xs.length) : at0 xs v ∈ xs := by simp [at0, h]
def lposG : Pos := ⟨604, 36, 604, 67⟩
def lqG : Str := Str.ofString "_law_good" ++ Str.ofString ".<locals>." ++ Str.ofString "<lambda>"
set_option maxHeartbeats 16000000
theorem spec_good (S : Ok C) {R : Result → Led → Prop} {t : Option Addr} {ag ac : Addr} {gs cs : List Int} (hA : A.depth + 2 < recursionLimit) (hh : A.handled = none) (hN1 : 1 ≤ gs.length) (hN : gs.length ≤ 6) (hlen : cs.length = gs.length)
    (hag : (ag, intsP gs) ∈ l) (hac : (ac, intsP cs) ∈ l) (hbg : ∀ x ∈ gs, -1000 < x ∧ x < 1000) (hbc : ∀ x ∈ cs, -1000 < x ∧ x < 1000)
    (h : ∀ b t', (b = true ↔ GoodF gs.length (at0 cs) (at0 gs)) → R (.ok (.ret (.bool b))) (TabL 899 lposG lqG t' ++ l)) :
    CW C A (TabL 899 lposG lqG t ++ l) (.call (.ref 902) ⟨[.ref ag, .ref ac], []⟩) R := by
  refine cw_defC (binds := [("goes", .ref ag), ("comes", .ref ac)]) (vs := []) (cl := fun L => [(L + 1 + 1 + 1, cellP none), (L + 1 + 1, cellP (some (.ref ac))), (L + 1, cellP (some (.ref ag)))]) S.lim (by omega) (S.k 902 _ rfl (by decide) (by decide)) rfl ⟨901, _, _, _, rfl, S.k 901 _ rfl (by decide) (by decide), rfl, rfl⟩ rfl rfl rfl (fun k => ?_) (fun L => ?_) (fun L => rfl) (fun L => rfl) fun L => ?_
  · intro x hx
    rcases List.mem_cons.mp hx with rfl | hx
    · exact .inr ⟨rfl, rfl⟩
    · rcases List.mem_cons.mp hx with rfl | hx
      · exact .inr ⟨rfl, rfl⟩
      · cases hx
  · show List.Nodup (["k", "comes", "goes"] : List Str)
    decide
  have hgI : ∀ X, Ints C (X ++ l) ag gs := fun X => Ints.mem (List.mem_append_right _ hag)
  have hcI : ∀ X, Ints C (X ++ l) ac cs := fun X => Ints.mem (List.mem_append_right _ hac)
  refine W.sub (l' := (L, nsP []) :: (L + 1 + 1 + 1, cellP none) :: (L + 1 + 1, cellP (some (.ref ac))) :: (L + 1, cellP (some (.ref ag))) :: (TabL 899 lposG lqG t ++ l)) .refl ?_
  refine w_execs_cons <| w_Assign_Name <| w_Call_Name <| S.bi rfl rfl <| w_callWith_b <| w_items_cons <| w_NameC rfl (by walk_at "in") <| w_items_nil <| w_len_ints (ns := gs) (by exact (Ints.mem (by simp [hag]))) (by omega) fun t1 => w_storeL rfl ?_
  have hsc : sumN gs.length (at0 cs) = cs.sum := by rw [← hlen]; exact sum_at0 cs
  have hsg : sumN gs.length (at0 gs) = gs.sum := sum_at0 gs
  refine w_execs_cons <| w_If <| w_isTrue_BoolOp <| w_or_cons <| w_isTrue_Compare1 <| w_Call_Name <| S.bi rfl rfl <| w_callWith_b <| w_items_cons <| w_NameC rfl (by walk_at "in") <| w_items_nil <| w_sum hh (ns := gs) (by exact (Ints.mem (by simp [hag]))) fun t2 => w_Call_Name <| S.bi rfl rfl <| w_callWith_b <| w_items_cons <| w_NameC rfl (by walk_at "in") <| w_items_nil <| w_sum hh (ns := cs) (by exact (Ints.mem (by simp [hac]))) fun t3 => w_ne_int <| w_truthy_bool ⟨fun hne => ⟨fun _ => ?_, fun q => (nomatch q)⟩, fun hne => w_or_cons ?_⟩
  · rw [bne_iff_ne] at hne
    refine w_execs_cons <| w_Return <| w_Const_bool <| ⟨_, .skip (.skip (.skip (.skip .refl))), h false t ⟨fun q => (nomatch q), fun q => ?_⟩⟩
    have := q.sum
    rw [hsc, hsg] at this
    exact (hne this.symm).elim
  have hse : gs.sum = cs.sum := by simpa using hne
  refine w_isTrue_Compare1 <| w_Call_Name <| S.bi rfl rfl <| w_callWith_b <| w_items_cons <| w_BinOp <| w_NameC rfl (by walk_at "in") <| w_NameC rfl (by walk_at "in") <| w_add_ints (xs := gs) (ys := cs) (by exact (Ints.mem (by simp [hag]))) (by exact (Ints.mem (by simp [hac]))) (by omega) fun b => w_items_nil <| w_minL hh (Ints.mem (.tail _ (.head _))) (by simp; omega) fun m tm hm hmin => w_Const_int fun t4 => w_lt_int <| w_truthy_bool ⟨fun hlt => ⟨fun _ => ?_, fun q => (nomatch q)⟩, fun hlt => w_or_nil ⟨fun q => (nomatch q), fun _ => w_execs_nil ?_⟩⟩
  · rw [decide_eq_true_eq] at hlt
    refine w_execs_cons <| w_Return <| w_Const_bool <| ⟨_, .skip (.skip (.skip (.skip (.skip .refl)))), h false t ⟨fun q => (nomatch q), fun q => ?_⟩⟩
    rcases List.mem_append.mp hm with hm | hm
    · obtain ⟨i, hi, e⟩ := List.getElem_of_mem hm
      have := (q.pos i hi).2
      simp [at0, hi] at this
      omega
    · obtain ⟨i, hi, e⟩ := List.getElem_of_mem hm
      have := (q.pos i (by omega)).1
      simp [at0, hi] at this
      omega
  rw [decide_eq_false_iff_not] at hlt
  have hpos : ∀ v, v < gs.length → 0 ≤ at0 cs v ∧ 0 ≤ at0 gs v := fun v hv => by
    have h1 := hmin _ (List.mem_append_left cs (at0_mem hv))
    have h2 := hmin _ (List.mem_append_right gs (at0_mem (xs := cs) (v := v) (by omega)))
    omega
  refine w_execs_cons <| w_Assign_Name <| w_Call_NameK <| S.bi rfl rfl <| w_callWith_kw1 <| w_items_cons <| w_Call_Name <| S.bi rfl rfl <| w_callWith_t <| w_items_cons <| w_NameL rfl (by walk_at "lk") <| w_items_nil <| w_range1 fun rg => w_items_nil ?_
  refine W.sub (l' := (L, nsP (put "many" (.int gs.length t1) [])) :: (TabL 899 lposG lqG t ++ ([(rg, rngP 0 gs.length), (b, intsP (gs ++ cs)), (L + 1 + 1 + 1, cellP none), (L + 1 + 1, cellP (some (.ref ac))), (L + 1, cellP (some (.ref ag)))] ++ l))) ?_ ?_
  · exact .pick1 .head (Sub.rot [_, _, _, _, _] _ l)
  have h901 := S.k 901 _ rfl (by decide) (by decide)
  refine w_Lambda (P := 899) (c := 901) (q := lqG) S t rfl rfl rfl rfl (fun hp hb => ⟨_, _, _, _, _, _, _, _, _, hb _ _ h901, rfl, rfl, rfl, rfl, rfl, rfl, rfl, rfl, by decide⟩) fun c' fa => ?_
  refine W.any <| w_sortedK (N := gs.length) (ka := fun i => -(at0 cs i)) (kb := fun i => -(at0 gs i)) (r := fun i => 2000 * (-(at0 cs i)) + (-(at0 gs i))) hh hN1 (by omega) (.tail _ (.tail _ (List.mem_append_right _ (.head _)))) ?_ ?_ fun D os hp ho => w_storeL rfl ?_
  · intro i ti hi
    have hic : i < cs.length := by omega
    refine w_callV (cw_lambda S.lim (binds := [("v", .int i ti)]) (name := "<lambda>") (qual := lqG) (c' := c') (by show A.depth + 1 < _; omega) (.tail _ (.head _)) (.tail _ (.tail _ (.tail _ (.head _)))) (fun _ _ => rfl) (locs rfl) fun L' => ?_)
    refine w_Tuple_ <| w_items_cons <| w_UnaryOp <| w_Subscript <| w_NameF rfl (by walk_at "in") <| w_NameL rfl rfl <| w_subTail_ints (ns := cs) (n := at0 cs i) (by walk_at "mem") (by omega) (by omega) (by simp [at0, hic]) fun t5 => w_neg_int fun t6 => w_items_cons <| w_UnaryOp <| w_Subscript <| w_NameF rfl (by walk_at "in") <| w_NameL rfl rfl <| w_subTail_ints (ns := gs) (n := at0 gs i) (by walk_at "mem") (by omega) (by omega) (by simp [at0, hi]) fun t7 => w_neg_int fun t8 => w_items_nil <| w_newTup (.cons _ _ (.cons _ _ .nil)) (by simp) fun b2 => ?_
    exact ⟨_, .skip (.pick1 .head .refl), b2, rfl, .refl⟩
  · intro i j
    rw [decide_eq_decide]
    have hb : ∀ v, -1000 < at0 gs v ∧ at0 gs v < 1000 := fun v => by
      by_cases hv : v < gs.length
      · exact hbg _ (at0_mem hv)
      · simp [at0, hv]
    have := hb i
    have := hb j
    omega
  have hperm : os.length = gs.length := by rw [hp.length_eq, List.length_range]
  have hb0 : ∀ v, -1000 < at0 gs v ∧ at0 gs v < 1000 := fun v => by
    by_cases hv : v < gs.length
    · exact hbg _ (at0_mem hv)
    · simp [at0, hv]
  have hful : (∀ k, 1 ≤ k → k ≤ gs.length → prefOk (at0 cs) (at0 gs) os k) ↔ Ful gs.length (at0 cs) (at0 gs) := ful_iff hp (ho.imp fun {i j} hij => by
    have := hb0 i
    have := hb0 j
    omega) fun v hv => (hpos v hv).2
  have hosN : ∀ j ∈ os, j < gs.length := fun j hj => List.mem_range.mp (hp.mem_iff.mp hj)
  have hel : ∀ n, n ∈ (os.map fun i : Nat => (i : Int)) → ∃ j : Nat, n = (j : Int) ∧ j < gs.length := fun n hn => by
    obtain ⟨j, hj, rfl⟩ := List.mem_map.mp hn
    exact ⟨j, rfl, hosN j hj⟩
  have hcj : ∀ j : Nat, j < gs.length → cs[((j : Nat) : Int).toNat]? = some (at0 cs j) := fun j hj => by
    have hjc : j < cs.length := by omega
    simp [at0, hjc]
  have hmt : ∀ (f : Int → Int) m, ((os.map fun i : Nat => (i : Int)).take m).map f = (os.take m).map fun v : Nat => f v := fun f m => by rw [List.map_take, List.map_map, List.map_take]; rfl
  have hmd : ∀ (f : Int → Int) m, ((os.map fun i : Nat => (i : Int)).drop m).map f = (os.drop m).map fun v : Nat => f v := fun f m => by rw [List.map_drop, List.map_map, List.map_drop]; rfl
  refine w_execs_cons <| w_For_range hh 1 (gs.length + 1) (fun i l' => ∃ vs v0, Sub ((L, nsP vs) :: (L + 1 + 1 + 1, cellP v0) :: (L + 1 + 1, cellP (some (.ref ac))) :: (L + 1, cellP (some (.ref ag))) :: (D, intsP (os.map fun i : Nat => (i : Int))) :: (TabL 899 lposG lqG (some c') ++ l)) l' ∧ vs.lookup ("order" : Str) = some (.ref D) ∧ (∃ t, vs.lookup ("many" : Str) = some (.int gs.length t)) ∧ ∀ k, 1 ≤ k → k ≤ i → prefOk (at0 cs) (at0 gs) os k) (by decide) (by omega) (by omega) ?_ ?_ ?_
  · refine w_Call_Name <| S.bi rfl rfl <| w_callWith_t <| w_items_cons <| w_Const_int fun t5 => w_items_cons <| w_BinOp <| w_NameL rfl (by walk_at "lk") <| w_Const_int fun t6 => w_add_int fun t7 => w_items_nil <| w_range2 fun rg2 => ⟨rg2, rfl, .tail _ (.head _), _, none, .pick1 .head (by walk_at "sub"), by walk_at "lk", ⟨_, by walk_at "lk"⟩, fun k h1 h2 => by omega⟩
  · rintro i tk l₂ hi ⟨vs, v0, hS, Vo, ⟨tm2, Vm⟩, hk⟩
    have hy : (1 + (i : Int)).toNat = i + 1 := by omega
    refine W.sub hS <| w_assign_Name <| w_storeC rfl (.tail .head) ?_
    refine w_execs_cons <| w_Assign_Name <| w_Call_Name <| S.bi rfl rfl <| w_callWith_b <| w_items_cons <| w_CompInts (fun n => min (at0 gs n.toNat) ((1 + (i : Int)) - 1)) ((os.map fun i : Nat => (i : Int)).take (1 + (i : Int)).toNat) hh rfl (by simp; omega) (w_slice_upto <| w_NameL rfl Vo <| w_NameC rfl (by walk_at "mem") ⟨_, _, D, _, _, tk, rfl, rfl, rfl, by omega, Ints.mem (by walk_at "mem"), by simp; omega, fun bb => ⟨bb, _, _, rfl, rfl, fun X => Ints.mem (List.mem_append_right _ (.tail _ (.head _))), fun cL D2 vs2 ys n tn hn hv => ?_, fun D2 => ?_⟩⟩)
    · obtain ⟨j, rfl, hj⟩ := hel n (List.mem_of_mem_take hn)
      exact w_Call_Name <| S.bi rfl rfl <| w_callWith_b <| w_items_cons <| w_Subscript <| w_NameC rfl (by walk_at "mem") <| w_NameL rfl hv <| w_subTail_ints (ns := gs) (n := at0 gs j) (by walk_at "mem") (by omega) (by omega) (by simp [at0, hj]) fun t5 => w_items_cons <| w_BinOp <| w_NameC rfl (by walk_at "mem") <| w_Const_int fun t6 => w_sub_int fun t7 => w_items_nil <| w_min2 hh fun t8 => ⟨t8, by simp, rfl⟩
    refine w_items_nil <| w_sum hh (Ints.mem (.tail _ (.head _))) fun t9 => w_storeL rfl ?_
    refine w_execs_cons <| w_Assign_Name <| w_Call_Name <| S.bi rfl rfl <| w_callWith_b <| w_items_cons <| w_CompInts (fun n => min (at0 gs n.toNat) (1 + (i : Int))) ((os.map fun i : Nat => (i : Int)).drop (1 + (i : Int)).toNat) hh rfl (by simp; omega) (w_slice_from <| w_NameL rfl (by walk_at "lk") <| w_NameC rfl (by walk_at "mem") ⟨_, _, D, _, _, tk, rfl, rfl, rfl, by omega, Ints.mem (by walk_at "mem"), by simp; omega, fun bb => ⟨bb, _, _, rfl, rfl, fun X => Ints.mem (List.mem_append_right _ (.tail _ (.head _))), fun cL D2 vs2 ys n tn hn hv => ?_, fun D2 => ?_⟩⟩)
    · obtain ⟨j, rfl, hj⟩ := hel n (List.mem_of_mem_drop hn)
      exact w_Call_Name <| S.bi rfl rfl <| w_callWith_b <| w_items_cons <| w_Subscript <| w_NameC rfl (by walk_at "mem") <| w_NameL rfl hv <| w_subTail_ints (ns := gs) (n := at0 gs j) (by walk_at "mem") (by omega) (by omega) (by simp [at0, hj]) fun t5 => w_items_cons <| w_NameC rfl (by walk_at "mem") <| w_items_nil <| w_min2 hh fun t8 => ⟨t8, by simp, rfl⟩
    refine w_items_nil <| w_sum hh (Ints.mem (.tail _ (.head _))) fun t10 => w_storeL rfl ?_
    refine w_execs_cons <| w_If <| w_isTrue_Compare1 <| w_Call_Name <| S.bi rfl rfl <| w_callWith_b <| w_items_cons <| w_CompInts (fun n => at0 cs n.toNat) ((os.map fun i : Nat => (i : Int)).take (1 + (i : Int)).toNat) hh rfl (by simp; omega) (w_slice_upto <| w_NameL rfl (by walk_at "lk") <| w_NameC rfl (by walk_at "mem") ⟨_, _, D, _, _, tk, rfl, rfl, rfl, by omega, Ints.mem (by walk_at "mem"), by simp; omega, fun bb => ⟨bb, _, _, rfl, rfl, fun X => Ints.mem (List.mem_append_right _ (.tail _ (.head _))), fun cL D2 vs2 ys n tn hn hv => ?_, fun D2 => ?_⟩⟩)
    · obtain ⟨j, rfl, hj⟩ := hel n (List.mem_of_mem_take hn)
      exact w_Subscript <| w_NameC rfl (by walk_at "mem") <| w_NameL rfl hv <| w_subTail_ints (ns := cs) (n := at0 cs j) (by walk_at "mem") (by omega) (by omega) (hcj j hj) fun t5 => ⟨t5, by simp, rfl⟩
    refine w_items_nil <| w_sum hh (Ints.mem (.tail _ (.head _))) fun t11 => w_BinOp <| w_NameL rfl (by walk_at "lk") <| w_NameL rfl (by walk_at "lk") <| w_add_int fun t12 => w_gt_int <| w_truthy_bool ?_
    have key : (((((os.map fun i : Nat => (i : Int)).take (1 + (i : Int)).toNat).map fun n => min (at0 gs n.toNat) ((1 + (i : Int)) - 1)).sum + (((os.map fun i : Nat => (i : Int)).drop (1 + (i : Int)).toNat).map fun n => min (at0 gs n.toNat) (1 + (i : Int))).sum) < ((((os.map fun i : Nat => (i : Int)).take (1 + (i : Int)).toNat).map fun n => at0 cs n.toNat)).sum) ↔ ¬ prefOk (at0 cs) (at0 gs) os (i + 1) := by
      rw [hmt, hmd, hmt, hy]
      unfold prefOk
      simp only [Int.toNat_natCast]
      have e1 : ((i + 1 : Nat) : Int) - 1 = 1 + (i : Int) - 1 := by omega
      have e2 : ((i + 1 : Nat) : Int) = 1 + (i : Int) := by omega
      rw [e1, e2]
      exact Int.not_le.symm
    refine ⟨fun hf => ?_, fun hf => w_execs_nil <| w_execs_nil ?_⟩
    · rw [decide_eq_true_eq, key] at hf
      refine w_execs_cons <| w_Return <| w_Const_bool <| ⟨_, ?_, h false (some c') ⟨fun q => (nomatch q), fun q => (hf (hful.mpr q.ful (i + 1) (by omega) (by omega))).elim⟩⟩
      exact .skip (.skip (.skip (.skip (.skip (.skip (.skip (.skip (.skip (.skip (.skip .refl))))))))))
    · rw [decide_eq_false_iff_not, key, Classical.not_not] at hf
      refine ⟨_, _, .pick1 .head (by walk_at "sub"), by walk_at "lk", ⟨_, by walk_at "lk"⟩, fun k h1 h2 => ?_⟩
      by_cases hki : k = i + 1
      · subst hki; exact hf
      · exact hk k h1 (by omega)
  · rintro l₂ ⟨vs, v0, hS, Vo, ⟨tm2, Vm⟩, hk⟩
    refine W.sub hS <| w_execs_cons <| w_Return <| w_Const_bool <| ⟨_, .skip (.skip (.skip (.skip (.skip .refl)))), h true (some c') ⟨fun _ => ⟨hpos, by rw [hsc, hsg, hse], hful.mp fun k h1 h2 => hk k h1 (by omega)⟩, fun _ => rfl⟩⟩
end
end Mine
end
/-! H40 -/
section
open PySem PySem.W PySem.Calls PyProof.Rows
set_option maxRecDepth 100000
set_option linter.all false
namespace Mine
local macro_rules | `(tactic| walk_at "lk") => `(tactic| first | with_reducible exact look_eq | (rw [lookup_put, if_neg (by decide)]; walk_at "lk") | assumption | exact rfl)
local macro_rules | `(tactic| walk_at "in") => `(tactic| first | exact List.Mem.head _ | (refine List.Mem.tail _ ?_; walk_at "in"))
local macro_rules | `(tactic| walk_at "pk") => `(tactic| first | exact Pick.head | (apply Pick.tail; walk_at "pk"))
local macro_rules | `(tactic| walk_at "rp") => `(tactic| first | exact Rep.head | (apply Rep.tail; walk_at "rp"))
local macro_rules | `(tactic| walk_at "sub") => `(tactic| first | exact Sub.refl | (refine Sub.pick1 (by walk_at "pk") ?_; walk_at "sub") | exact Sub.nil | (refine Sub.skip ?_; walk_at "sub"))
section
variable {α β : Type} {C : Cx} {A : Around} {l : Led} {e : Value → Led → Prop} {env : Env}
structure V2 (vs : Vars) (gg st zt md : Addr) : Prop where
  G : vs.lookup ("G" : Str) = some (.ref gg)
  st : vs.lookup ("stubheap" : Str) = some (.ref st)
  zt : vs.lookup ("zeroheap" : Str) = some (.ref zt)
  md : vs.lookup ("modstubs" : Str) = some (.ref md)
/-- how far the graph is: what is still wanted, and the edges so far -/
structure Mid (N : Nat) (c g ri ro : Nat → Int) (mx : Int) (G : GS) (E : List (Nat × Nat)) : Prop where
  pos : ∀ v, v < N → 0 ≤ ri v ∧ 0 ≤ ro v ∧ ri v ≤ mx
  whole : ∀ v, v < N → ri v = c v ∨ ri v = 0
  sum : sumN N ri = sumN N ro
  ful : GoodF N c g → Ful N ri ro
  nd : E.Nodup
  ok : ∀ p ∈ E, p.1 < N ∧ p.2 < N ∧ p.1 ≠ p.2
  ins : ∀ v, v < N → (E.countP (fun p => p.2 == v) : Int) + ri v = c v
  outs : ∀ v, v < N → (E.countP (fun p => p.1 == v) : Int) + ro v = g v
  adjN : G.adj.length = N
  prdN : G.prd.length = N
  naN : G.na.length = N
  adj : ∀ u, u < N → ∃ au kv, G.adj[u]? = some (au, kv) ∧ kv.map (·.1) = (E.filter (fun p => p.1 == u)).map (fun p => (p.2 : Int))
  prd : ∀ r ∈ G.prd, r.2.length ≤ E.length
theorem Mid.start {N : Nat} {c g : Nat → Int} {mx : Int} {gg dg gr nd ad pd : Addr} {aa pa na : List Addr} (ha : aa.length = N) (hp : pa.length = N) (hn : na.length = N) (hpos : ∀ v, v < N → 0 ≤ c v ∧ 0 ≤ g v ∧ c v ≤ mx) (hs : sumN N c = sumN N g) :
    Mid N c g c g mx (gsN gg dg gr nd ad pd aa pa na) [] where
  pos := hpos
  whole := fun _ _ => .inl rfl
  sum := hs
  ful := fun h => h.ful
  nd := List.nodup_nil
  ok := fun _ h => nomatch h
  ins := fun v _ => by simp
  outs := fun v _ => by simp
  adjN := by simp [gsN, ha]
  prdN := by simp [gsN, hp]
  naN := by simp [gsN, hn]
  adj := fun u hu => ⟨aa[u]'(by omega), [], by simp [gsN, row0, ha, hu], rfl⟩
  prd := fun r hr => by
    simp only [gsN, List.mem_map] at hr
    obtain ⟨x, _, rfl⟩ := hr
    exact Nat.zero_le _
abbrev hvL (C : Cx) (L st zt md : Addr) (vs : Vars) (ps qs : List Itm) (ms : List Value) (G : GS) (T : Led) : Led := (L, nsP vs) :: (st, lst ps) :: (zt, lst qs) :: (md, seqP "list" ms) :: GL C G T
def IW (C : Cx) (L st zt md gg : Addr) (outer : Frs) (tail : Led) (N : Nat) (c g : Nat → Int) (mx : Int) (n : Nat) (l₂ : Led) : Prop :=
  ∃ vs ri ro ps qs ms tp G E, Sub (hvL C L st zt md vs ps qs ms G (tp ++ (frL outer ++ tail))) l₂ ∧ V2 vs gg st zt md ∧ G.g = gg ∧ (∀ x ∈ ps, Told tp x) ∧ (∀ x ∈ qs, Told tp x) ∧ HeapFrom 0 ps ∧ HeapFrom 0 qs ∧
    Holds ps (fun v => v < N ∧ 0 < ri v) (kS ri ro) ∧ Holds qs (fun v => v < N ∧ ¬ 0 < ri v ∧ 0 < ro v) (kZ ro) ∧ n = ps.length ∧ ps.length + qs.length ≤ 12 ∧ E.length + 12 * ps.length ≤ 144 ∧ ms.length = (mx + 1).toNat ∧ Mid N c g ri ro mx G E
theorem w_assign_tup {elts j pos} {t : Addr} {ts : List Int} {k : Unit → Led → Prop} (hh : A.handled = none) (hm : (t, tupP ts) ∈ l) (h : ∀ vs, IntsAre vs ts → W C A l (assignInOrder ((assignEach elts env).map (·.2)) vs) k e) (hn : (assignEach elts env).length = ts.length)
    (hstar : (assignEach elts env).findIdx? (·.1) = none := by rfl) : W C A l (assign (.Tuple elts j pos) env (.ref t)) k e := fun r s hs => by
  obtain ⟨o, ho, hc, vs, m, hI, hd⟩ := hs.get hm
  have ht : IsTup s.heap t vs.toArray := ⟨o, ho, hc, m, hd⟩
  exact assign_Tuple_tuple hh ht (by have := hI.length; simp; omega) hstar fun h' he => h vs hI r _ (hs.grow (fun b o e => he b o (Nat.ne_of_lt (Heap.lt_size e)) e) s.toks)
theorem ints3 {vs : List Value} {a b c : Int} (h : IntsAre vs [a, b, c]) : ∃ t1 t2 t3, vs = [.int a t1, .int b t2, .int c t3] := by
  cases h with
  | cons _ t1 h => cases h with
    | cons _ t2 h => cases h with
      | cons _ t3 h => cases h; exact ⟨t1, t2, t3, rfl⟩
theorem ints2 {vs : List Value} {a b : Int} (h : IntsAre vs [a, b]) : ∃ t1 t2, vs = [.int a t1, .int b t2] := by
  cases h with
  | cons _ t1 h => cases h with
    | cons _ t2 h => cases h; exact ⟨t1, t2, rfl⟩
end
end Mine
end
/-! H41 -/
section
open PySem PySem.W PySem.Calls PyProof.Rows
set_option linter.all false
namespace Mine
/-- a heap is as long as what it holds -/
theorem Holds.card {N : Nat} {key : Nat → List Int} (hinj : ∀ u w, key u = key w → u = w) : ∀ {S : List Itm} {p : Nat → Prop} {b : Nat → Bool}, Holds S p key → (∀ v, v < N → b v = true → p v) → sumN N (fun v => if b v = true then 1 else 0) ≤ S.length
  | [], p, b, h, hb => by
    rw [sumN_congr (g := fun _ => 0) fun v hv => ?_, sumN_const0]
    · exact Int.le_refl _
    · cases q : b v with
      | false => simp
      | true =>
        have := (h.2 (key v)).mpr ⟨v, hb v hv q, rfl⟩
        simp at this
  | x :: S, p, b, h, hb => by
    obtain ⟨v, hv, hk, hS⟩ := h.uncons
    have ih := Holds.card hinj (N := N) (b := fun u => b u && decide (u ≠ v)) (hS hinj) fun u hu q => by
      simp at q
      exact ⟨hb u hu q.1, q.2⟩
    have step : sumN N (fun u => if b u = true then (1 : Int) else 0) ≤ sumN N (fun u => if (b u && decide (u ≠ v)) = true then (1 : Int) else 0) + 1 := by
      by_cases hvN : v < N
      · have := sumN_one (f := fun u => if b u = true then (1 : Int) else 0) (g := fun u => if (b u && decide (u ≠ v)) = true then (1 : Int) else 0) hvN fun u _ hne => by simp [hne]
        have e1 : (if (b v && decide (v ≠ v)) = true then (1 : Int) else 0) = 0 := by simp
        rw [e1] at this
        have e2 : (if b v = true then (1 : Int) else 0) ≤ 1 := by split <;> omega
        omega
      · rw [sumN_congr (f := fun u => if b u = true then (1 : Int) else 0) (g := fun u => if (b u && decide (u ≠ v)) = true then (1 : Int) else 0) fun u hu => by
          have : u ≠ v := by omega
          simp [this]]
        omega
    simp only [List.length_cons]
    omega
/-- what t wants is no more than what is left -/
theorem want_le {N : Nat} {ri ro : Nat → Int} {ps qs : List Itm} {t : Nat} (hf : Ful N ri ro) (hpos : ∀ v, v < N → 0 ≤ ro v) (ht : t < N) (h1 : Holds ps (fun v => (v < N ∧ 0 < ri v) ∧ v ≠ t) (kS ri ro)) (h2 : Holds qs (fun v => v < N ∧ ¬ 0 < ri v ∧ 0 < ro v) (kZ ro)) : ri t ≤ ps.length + qs.length := by
  refine Int.le_trans (hf.one hpos ht) ?_
  have c1 := Holds.card (N := N) (b := fun u => decide (u ≠ t ∧ 0 < ri u)) kS_inj h1 fun v hv q => by simp at q; exact ⟨⟨hv, q.2⟩, q.1⟩
  have c2 := Holds.card (N := N) (b := fun u => decide (¬ 0 < ri u ∧ 0 < ro u)) kZ_inj h2 fun v hv q => by
    rw [decide_eq_true_eq] at q; exact ⟨hv, q.1, q.2⟩
  refine Int.le_trans (b := sumN N (fun u => (if decide (u ≠ t ∧ 0 < ri u) = true then (1 : Int) else 0) + (if decide (¬ 0 < ri u ∧ 0 < ro u) = true then (1 : Int) else 0))) (sumN_le fun u hu => ?_) ?_
  · by_cases a : u = t
    · by_cases b : 0 < ri u <;> by_cases d : 0 < ro u <;> simp [a] <;> split <;> omega
    · by_cases b : 0 < ri u <;> by_cases d : 0 < ro u <;> simp [a, b, d]
  · rw [sumN_add]; omega
end Mine
end
/-! H42 -/
section
open PySem PySem.W PySem.Calls PyProof.Rows
set_option maxRecDepth 100000
set_option linter.all false
namespace Mine
local macro_rules | `(tactic| walk_at "lk") => `(tactic| first | with_reducible exact look_eq | (rw [lookup_put, if_neg (by decide)]; walk_at "lk") | assumption | exact rfl)
local macro_rules | `(tactic| walk_at "in") => `(tactic| first | exact List.Mem.head _ | (refine List.Mem.tail _ ?_; walk_at "in"))
local macro_rules | `(tactic| walk_at "pk") => `(tactic| first | exact Pick.head | (apply Pick.tail; walk_at "pk"))
local macro_rules | `(tactic| walk_at "rp") => `(tactic| first | exact Rep.head | (apply Rep.tail; walk_at "rp"))
local macro_rules | `(tactic| walk_at "sub") => `(tactic| first | exact Sub.refl | (refine Sub.pick1 (by walk_at "pk") ?_; walk_at "sub") | exact Sub.nil | (refine Sub.skip ?_; walk_at "sub"))
section
variable {α β : Type} {C : Cx} {A : Around} {l : Led} {e : Value → Led → Prop} {env : Env}
structure Gr (N : Nat) (G : GS) (E : List (Nat × Nat)) : Prop where
  adjN : G.adj.length = N
  prdN : G.prd.length = N
  naN : G.na.length = N
  adj : ∀ u, u < N → ∃ au kv, G.adj[u]? = some (au, kv) ∧ kv.map (·.1) = (E.filter (fun p => p.1 == u)).map (fun p => (p.2 : Int))
  prd : ∀ r ∈ G.prd, r.2.length ≤ E.length
structure V3 (vs : Vars) (fo fi tg ml : Int) : Prop where
  fo : ∃ t, vs.lookup ("freeout" : Str) = some (.int fo t)
  fi : ∃ t, vs.lookup ("freein" : Str) = some (.int fi t)
  tg : ∃ t, vs.lookup ("target" : Str) = some (.int tg t)
  ml : ∃ t, vs.lookup ("mslen" : Str) = some (.int ml t)
def keep (ri ro : Nat → Int) (u : Nat) : Bool := decide (1 < ro u ∨ 0 < ri u)
def kM (ri ro : Nat → Int) (u : Nat) : List Int := [-1 * ro u + 1, -1 * ri u, (u : Int)]
/-- the sources so far -/
structure Src (N : Nat) (ri ro : Nat → Int) (t : Nat) (D : List Nat) : Prop where
  nd : D.Nodup
  ok : ∀ u ∈ D, u < N ∧ u ≠ t ∧ 0 < ro u
  top : ∀ u ∈ D, ∀ w, w < N → w ≠ t → w ∉ D → ro w < ro u ∨ (ro w = ro u ∧ ri w ≤ ri u)
def IFor (C : Cx) (L st zt md gg : Addr) (outer : Frs) (tail : Led) (N : Nat) (ri ro : Nat → Int) (mx : Int) (t : Nat) (E : List (Nat × Nat)) (K : Nat) (i : Nat) (l₂ : Led) : Prop :=
  ∃ (vs : Vars) (ps qs mm : List Itm) (rest : List Value) (tp : Led) (G : GS) (D : List Nat), Sub (hvL C L st zt md vs ps qs (mm.map (·.1) ++ rest) G (tp ++ (frL outer ++ tail))) l₂ ∧ V2 vs gg st zt md ∧ V3 vs (-1 * ro t) (ri t) t mm.length ∧ G.g = gg ∧ (∀ x ∈ ps, Told tp x) ∧ (∀ x ∈ qs, Told tp x) ∧ (∀ x ∈ mm, Told tp x) ∧ HeapFrom 0 ps ∧ HeapFrom 0 qs ∧
    Holds ps (fun v => v < N ∧ 0 < ri v ∧ v ≠ t ∧ v ∉ D) (kS ri ro) ∧ Holds qs (fun v => v < N ∧ ¬ 0 < ri v ∧ 0 < ro v ∧ v ≠ t ∧ v ∉ D) (kZ ro) ∧ mm.map (·.2) = (D.filter (keep ri ro)).map (kM ri ro) ∧ mm.length + rest.length = (mx + 1).toNat ∧
    D.length = i ∧ mm.length ≤ i ∧ ps.length + qs.length + i = K ∧ Src N ri ro t D ∧ Gr N G (E ++ D.map fun u => (u, t))
theorem le_kS {ri ro : Nat → Int} {u w : Nat} (h : lexLe (kS ri ro u) (kS ri ro w)) : ro w < ro u ∨ (ro w = ro u ∧ ri w ≤ ri u) := by
  unfold lexLe kS at h
  simp only [lexLt] at h
  split at h
  · split at h
    · right; omega
    · rw [decide_eq_false_iff_not] at h; right; omega
  · rw [decide_eq_false_iff_not] at h; left; omega
theorem le_kZ {ro : Nat → Int} {u w : Nat} (h : lexLe (kZ ro u) (kZ ro w)) : ro w ≤ ro u := by
  unfold lexLe kZ at h
  simp only [lexLt] at h
  split at h
  · omega
  · rw [decide_eq_false_iff_not] at h; omega
end
end Mine
end
/-! H6 -/
section
open PySem PySem.W PySem.Calls PyProof.Rows
set_option maxRecDepth 100000
set_option linter.all false
namespace Mine
local macro_rules | `(tactic| walk_at "lk") => `(tactic| first | with_reducible exact look_eq | (rw [lookup_put, if_neg (by decide)]; walk_at "lk") | assumption | exact rfl)
local macro_rules | `(tactic| walk_at "in") => `(tactic| first | exact List.Mem.head _ | (refine List.Mem.tail _ ?_; walk_at "in"))
local macro_rules | `(tactic| walk_at "pk") => `(tactic| first | exact Pick.head | (apply Pick.tail; walk_at "pk"))
local macro_rules | `(tactic| walk_at "rp") => `(tactic| first | exact Rep.head | (apply Rep.tail; walk_at "rp"))
local macro_rules | `(tactic| walk_at "sub") => `(tactic| first | exact Sub.refl | (refine Sub.pick1 (by walk_at "pk") ?_; walk_at "sub") | exact Sub.nil | (refine Sub.skip ?_; walk_at "sub"))
section
variable {α β : Type} {C : Cx} {A : Around} {l : Led} {e : Value → Led → Prop} {env : Env}
theorem Gr.add {N : Nat} {G : GS} {E : List (Nat × Nat)} {u t : Nat} {au pv dd : Addr} {kv kw : KV} (h : Gr N G E) (hu : G.adj[u]? = some (au, kv)) (hp : G.prd[t]? = some (pv, kw)) :
    Gr N { G with adj := G.adj.set u (au, kv ++ [((t : Int), .ref dd)]), prd := G.prd.set t (pv, stored kw u (.ref dd)) } (E ++ [(u, t)]) := by
  refine ⟨by simp [h.adjN], by simp [h.prdN], h.naN, fun w hw => ?_, fun r hr => ?_⟩
  · obtain ⟨aw, kw', hw1, hw2⟩ := h.adj w hw
    by_cases e : w = u
    · subst e
      rw [hu] at hw1
      cases hw1
      have hl : w < G.adj.length := by rw [h.adjN]; exact hw
      exact ⟨au, kv ++ [((t : Int), .ref dd)], by simp [hl], by simp [hw2]⟩
    · exact ⟨aw, kw', by simp [Ne.symm e, hw1], by simp [hw2, Ne.symm e]⟩
  · rcases List.mem_or_eq_of_mem_set hr with hr | rfl
    · have := h.prd r hr; simp; omega
    · have h1 := h.prd _ (List.mem_of_getElem? hp)
      have h2 := stored_length_le kw (u : Int) (.ref dd)
      simp at h1 ⊢
      omega
set_option maxHeartbeats 16000000
theorem hv_inner (S : Ok C) {o : Obj} {fd : FuncData} {body wb rest ib rest2 : List Stmt} {test tg it : Expr} {wpos fpos : Pos} (hlk : List.lookup 883 (KK C.w.params) = some o) (hd : o.data = .func fd) (hb : fd.body = .stmts body) (hw : body.drop 15 = .While test wb [] wpos :: rest) (hi : wb.drop 4 = .For tg it ib [] fpos :: rest2)
    {L : Addr} {outer : Frs} {tail : Led} {N : Nat} {c g ri ro : Nat → Int} {mx : Int} {st zt md gg : Addr} {t K i : Nat} {tk : Tok} {E : List (Nat × Nat)} {G0 : GS} {l₂ : Led}
    (hA' : A.depth + 2 < recursionLimit) (hh : A.handled = none) (hu : A.units < 8500) (hN1 : 1 ≤ N) (hN : N ≤ 6) (M : Mid N c g ri ro mx G0 E) (htN : t < N) (ht0 : 0 < ri t) (hK : K ≤ 12) (hfree : ri t ≤ K) (hE : E.length ≤ 144) (hit : 0 + (i : Int) < ri t)
    (I : IFor C L st zt md gg outer tail N ri ro mx t E K i l₂) :
    W C A l₂ (assign tg (callEnv fd L 883) (.int (0 + i) tk)) (fun _ l₃ => W C A l₃ (execs ib (callEnv fd L 883)) (fun f l₄ => f = .next ∧ IFor C L st zt md gg outer tail N ri ro mx t E K (i + 1) l₄) (fun x l => ¬ GoodF N c g ∧ EX L outer tail x l)) noE := by
  obtain rfl := Option.some.inj (hlk.symm.trans rfl)
  obtain rfl := Data.func.inj hd
  obtain rfl := FuncBody.stmts.inj hb
  obtain ⟨rfl, rfl, -, -⟩ := Stmt.While.inj (List.cons.inj hw).1
  obtain ⟨rfl, rfl, rfl, -, -⟩ := Stmt.For.inj (List.cons.inj hi).1
  obtain ⟨vs, ps, qs, mm, rest, tp, G, D, hS, ⟨VG, Vst, Vzt, Vmd⟩, ⟨⟨x1, Vfo⟩, ⟨x2, Vfi⟩, ⟨x3, Vtg⟩, ⟨x4, Vml⟩⟩, hG, hps, hqs, hmm, hh1, hh2, hHp, hHq, hmk, hml, hD, hmi, hsz, hsrc, hgr⟩ := I
  refine W.sub hS <| w_assign_Name <| w_storeL rfl ?_
  subst hG
  have hT : ∀ (X Y : Led) (G : GS) (x : Itm), Told tp x → Told (X ++ (Y ++ GL C G (tp ++ (frL outer ++ tail)))) x := fun X Y G x ⟨a, e, hm⟩ => ⟨a, e, List.mem_append_right _ (List.mem_append_right _ (mem_GL (List.mem_append_left _ hm)))⟩
  refine w_execs_cons <| W.mono (k' := fun f l' => f = .next ∧ ∃ vs ps qs u, Sub (hvL C L st zt md vs ps qs (mm.map (·.1) ++ rest) G (tp ++ (frL outer ++ tail))) l' ∧ V2 vs G.g st zt md ∧ V3 vs (-1 * ro t) (ri t) t mm.length ∧ (∃ k, vs.lookup ("stubout" : Str) = some (.int (-1 * ro u) k)) ∧ (∃ k, vs.lookup ("stubin" : Str) = some (.int (-1 * ri u) k)) ∧ (∃ k, vs.lookup ("stubsource" : Str) = some (.int u k)) ∧
    (∀ x ∈ ps, Told tp x) ∧ (∀ x ∈ qs, Told tp x) ∧ HeapFrom 0 ps ∧ HeapFrom 0 qs ∧ u < N ∧ u ≠ t ∧ u ∉ D ∧ (∀ w, w < N → w ≠ t → w ∉ D → w ≠ u → ro w < ro u ∨ (ro w = ro u ∧ ri w ≤ ri u)) ∧
    Holds ps (fun v => v < N ∧ 0 < ri v ∧ v ≠ t ∧ v ∉ u :: D) (kS ri ro) ∧ Holds qs (fun v => v < N ∧ ¬ 0 < ri v ∧ 0 < ro v ∧ v ≠ t ∧ v ∉ u :: D) (kZ ro) ∧ ps.length + qs.length + (i + 1) = K) ?_ ?_ (fun _ _ z => z)
  · have ev : ∀ (k : Bool → Led → Prop), (∀ b, (b = true → qs ≠ [] ∧ ∀ x y u w, ps[0]? = some x → qs[0]? = some y → x.2 = kS ri ro u → y.2 = kZ ro w → ro u < ro w) → (b = false → qs = [] ∨ (ps ≠ [] ∧ ∀ x y u w, ps[0]? = some x → qs[0]? = some y → x.2 = kS ri ro u → y.2 = kZ ro w → ro w ≤ ro u)) → k b (hvL C L st zt md (put "i" (.int (0 + (i : Int)) tk) vs) ps qs (mm.map (·.1) ++ rest) G (tp ++ (frL outer ++ tail)))) → True := fun _ _ => trivial
    refine w_If <| W.mono (k' := fun b l' => l' = hvL C L st zt md (put "i" (.int (0 + (i : Int)) tk) vs) ps qs (mm.map (·.1) ++ rest) G (tp ++ (frL outer ++ tail)) ∧ (b = true → qs ≠ [] ∧ ∀ x y u w, ps[0]? = some x → qs[0]? = some y → x.2 = kS ri ro u → y.2 = kZ ro w → ro u < ro w) ∧ (b = false → qs = [] ∨ (ps ≠ [] ∧ ∀ x y u w, ps[0]? = some x → qs[0]? = some y → x.2 = kS ri ro u → y.2 = kZ ro w → ro w ≤ ro u))) ?_ ?_ (fun _ _ z => z)
    · refine w_isTrue_BoolOp <| w_and_cons <| w_isTrue_plain <| w_NameL rfl (by walk_at "lk") <| w_truthy_seq (vs := qs.map (·.1)) (by walk_at "in") (by simp; omega) ⟨fun hq => ?_, fun hq => ⟨rfl, fun h => (nomatch h), fun _ => .inl (by simpa using hq)⟩⟩
      have hq0 : qs ≠ [] := by rintro rfl; simp at hq
      refine w_and_cons <| w_isTrue_BoolOp <| w_or_cons <| w_isTrue_not <| w_isTrue_plain <| w_NameL rfl (by walk_at "lk") <| w_truthy_seq (vs := ps.map (·.1)) (by walk_at "in") (by simp; omega) ⟨fun hp => ⟨fun _ => w_and_nil ?_, fun h => (nomatch h)⟩, fun hp => ?_⟩
      · have hp0 : ps = [] := by simpa using hp
        subst hp0
        exact ⟨rfl, fun _ => ⟨hq0, fun x y u w h => by simp at h⟩, fun h => (nomatch h)⟩
      · obtain ⟨x, ps', rfl⟩ : ∃ x ps', ps = x :: ps' := by cases ps with | nil => simp at hp | cons a b => exact ⟨a, b, rfl⟩
        obtain ⟨y, qs', rfl⟩ : ∃ x qs', qs = x :: qs' := by cases qs with | nil => exact absurd rfl hq0 | cons a b => exact ⟨a, b, rfl⟩
        obtain ⟨u, _, hxk, _⟩ := hHp.uncons
        obtain ⟨w, _, hyk, _⟩ := hHq.uncons
        obtain ⟨xa, hxa, hxm⟩ := hT [_] [_, _, _] G x (hps x (.head _))
        obtain ⟨ya, hya, hym⟩ := hT [_] [_, _, _] G y (hqs y (.head _))
        rw [hxk] at hxm
        rw [hyk] at hym
        refine w_or_cons <| w_isTrue_Compare1 <| w_Subscript <| w_Subscript <| w_NameL rfl (by walk_at "lk") <| w_Const_int fun t1 => w_subTail_list (vs := (x :: ps').map (·.1)) (v := .ref xa) (by walk_at "in") (by decide) (by decide) (by simp [hxa]) <| w_Const_int fun t2 => w_subTail_tup (ts := kS ri ro u) (n := -1 * ro u) hxm (by decide) (by simp [kS]) (by simp [kS]) rfl fun t3 => ?_
        refine w_Subscript <| w_Subscript <| w_NameL rfl (by walk_at "lk") <| w_Const_int fun t4 => w_subTail_list (vs := (y :: qs').map (·.1)) (v := .ref ya) (by walk_at "in") (by decide) (by decide) (by simp [hya]) <| w_Const_int fun t5 => w_subTail_tup (ts := kZ ro w) (n := -1 * ro w) hym (by decide) (by simp [kZ]) (by simp [kZ]) rfl fun t6 => w_gt_int <| w_truthy_bool ⟨fun hc => ⟨fun _ => w_and_nil ?_, fun h => (nomatch h)⟩, fun hc => w_or_nil ⟨fun h => (nomatch h), fun _ => ?_⟩⟩
        · rw [decide_eq_true_eq] at hc
          refine ⟨rfl, fun _ => ⟨hq0, fun x' y' u' w' e1 e2 e3 e4 => ?_⟩, fun h => (nomatch h)⟩
          simp at e1 e2
          subst e1 e2
          rw [kS_inj _ _ (e3.symm.trans hxk), kZ_inj _ _ (e4.symm.trans hyk)]
          omega
        · rw [decide_eq_false_iff_not] at hc
          refine ⟨rfl, fun h => (nomatch h), fun _ => .inr ⟨by simp, fun x' y' u' w' e1 e2 e3 e4 => ?_⟩⟩
          simp at e1 e2
          subst e1 e2
          rw [kS_inj _ _ (e3.symm.trans hxk), kZ_inj _ _ (e4.symm.trans hyk)]
          omega
    · rintro b l' ⟨rfl, hb1, hb2⟩
      refine ⟨fun hb => ?_, fun hb => ?_⟩
      · obtain ⟨hq0, hcmp⟩ := hb1 hb
        refine w_execs_cons <| w_Assign_Tuple <| w_Call_Name <| S.glob (v := .builtin "_heapq.heappop") rfl <| w_callWith_b <| w_items_cons <| w_NameL rfl (by walk_at "lk") <| w_items_nil <| w_heappop (pre := [(L, nsP _), (st, lst ps)]) (by show A.units < 9000; omega) (by omega) (fun x hx => hT [_, _] [_] G x (hqs x hx)) hh2 hq0 fun x qs1 hp1 hh3 hmin => ?_
        obtain ⟨u, ⟨huN, hu0, hro, hut, huD⟩, hxk, hH1⟩ := (hHq.perm hp1).uncons
        have hH1 := hH1 kZ_inj
        obtain ⟨ta, hxa, hxm⟩ := hqs x (hp1.mem_iff.mp (.head _))
        rw [hxa]
        rw [hxk] at hxm
        refine w_assign_tup hh (ts := kZ ro u) (.tail _ (.tail _ (.tail _ (.tail _ (mem_GL (List.mem_append_left _ hxm)))))) (fun vs' hI => ?_) rfl
        obtain ⟨t1, t2, rfl⟩ := ints2 hI
        refine w_ord_cons <| w_assign_Name <| w_storeL rfl <| w_ord_cons <| w_assign_Name <| w_storeL rfl <| w_ord_nil ?_
        refine w_execs_cons <| w_Assign_Name <| w_Const_int fun t3 => w_storeL rfl <| w_execs_nil ⟨rfl, ?_⟩
        have hle := hp1.length_eq
        rw [List.length_cons] at hle
        have hri : -1 * ri u = 0 := by have := (M.pos u huN).1; omega
        exact ⟨_, ps, qs1, u, .refl, ⟨by walk_at "lk", by walk_at "lk", by walk_at "lk", by walk_at "lk"⟩, ⟨⟨_, by walk_at "lk"⟩, ⟨_, by walk_at "lk"⟩, ⟨_, by walk_at "lk"⟩, ⟨_, by walk_at "lk"⟩⟩, ⟨_, by walk_at "lk"⟩, ⟨_, by rw [hri]; walk_at "lk"⟩, ⟨_, by walk_at "lk"⟩,
          hps, (fun z hz => hqs z (hp1.mem_iff.mp (.tail _ hz))), hh1, hh3, huN, hut, huD, (fun w hw hwt hwD hwu => by
            by_cases hw0 : 0 < ri w
            · have hm := (hHp.2 (kS ri ro w)).mpr ⟨w, ⟨hw, hw0, hwt, hwD⟩, rfl⟩
              obtain ⟨z, hz, e⟩ := List.mem_map.mp hm
              cases ps with
              | nil => cases hz
              | cons y ps' =>
                obtain ⟨u0, _, hyk, _⟩ := hHp.uncons
                have h1 := hh1.min (x := y) rfl z hz
                unfold ile at h1
                rw [hyk, e] at h1
                obtain ⟨y0, qs', hqe⟩ : ∃ a b, qs = a :: b := by
                  cases qs with
                  | nil => exact absurd rfl hq0
                  | cons a b => exact ⟨a, b, rfl⟩
                have hmem : y0 ∈ x :: qs1 := hp1.mem_iff.mpr (by rw [hqe]; exact .head _)
                obtain ⟨w0, _, hw0k⟩ := (hHq.2 y0.2).mp (by rw [hqe]; simp)
                have h2 := hcmp y y0 u0 w0 rfl (by rw [hqe]; rfl) hyk hw0k
                have h3 : ro w0 ≤ ro u := by
                  rcases List.mem_cons.mp hmem with h6 | hm'
                  · have h7 : kZ ro w0 = kZ ro u := by rw [← hw0k, h6, hxk]
                    rw [kZ_inj _ _ h7]; exact Int.le_refl _
                  · have h4 := hmin y0 hm'
                    unfold ile at h4
                    rw [hxk, hw0k] at h4
                    exact le_kZ h4
                rcases le_kS h1 with h5 | h5 <;> left <;> omega
            · by_cases hw1 : 0 < ro w
              · have hm := (hH1.2 (kZ ro w)).mpr ⟨w, ⟨⟨hw, hw0, hw1, hwt, hwD⟩, hwu⟩, rfl⟩
                obtain ⟨z, hz, e⟩ := List.mem_map.mp hm
                have h1 := hmin z hz
                unfold ile at h1
                rw [hxk, e] at h1
                have := le_kZ h1
                have := (M.pos u huN).1
                omega
              · have := (M.pos w hw).2.1; omega), hHp.iff (fun v => ⟨fun ⟨x1, x2, x3, x4⟩ => ⟨x1, x2, x3, fun h => x4 (.tail _ h)⟩, fun ⟨x1, x2, x3, x4⟩ => ⟨x1, x2, x3, fun h => by rcases List.mem_cons.mp h with rfl | h; exact hu0 x2; exact x4 h⟩⟩), hH1.iff (fun v => by simp [and_assoc, and_comm, and_left_comm]), by omega⟩
      · have hp0 : ps ≠ [] := by
          rintro rfl
          rcases hb2 hb with h | h
          · subst h; simp at hsz; omega
          · exact h.1 rfl
        refine w_execs_cons <| w_Assign_Tuple <| w_Call_Name <| S.glob (v := .builtin "_heapq.heappop") rfl <| w_callWith_b <| w_items_cons <| w_NameL rfl (by walk_at "lk") <| w_items_nil <| w_heappop (pre := [(L, nsP _)]) (by show A.units < 9000; omega) (by omega) (fun x hx => hT [_] [_, _] G x (hps x hx)) hh1 hp0 fun x ps1 hp1 hh3 hmin => ?_
        obtain ⟨u, ⟨huN, hu0, hut, huD⟩, hxk, hH1⟩ := (hHp.perm hp1).uncons
        have hH1 := hH1 kS_inj
        obtain ⟨ta, hxa, hxm⟩ := hps x (hp1.mem_iff.mp (.head _))
        rw [hxa]
        rw [hxk] at hxm
        refine w_assign_tup hh (ts := kS ri ro u) (.tail _ (.tail _ (.tail _ (.tail _ (mem_GL (List.mem_append_left _ hxm)))))) (fun vs' hI => ?_) rfl
        obtain ⟨t1, t2, t3, rfl⟩ := ints3 hI
        refine w_ord_cons <| w_assign_Name <| w_storeL rfl <| w_ord_cons <| w_assign_Name <| w_storeL rfl <| w_ord_cons <| w_assign_Name <| w_storeL rfl <| w_ord_nil <| w_execs_nil ⟨rfl, ?_⟩
        have hle := hp1.length_eq
        rw [List.length_cons] at hle
        exact ⟨_, ps1, qs, u, .refl, ⟨by walk_at "lk", by walk_at "lk", by walk_at "lk", by walk_at "lk"⟩, ⟨⟨_, by walk_at "lk"⟩, ⟨_, by walk_at "lk"⟩, ⟨_, by walk_at "lk"⟩, ⟨_, by walk_at "lk"⟩⟩, ⟨_, by walk_at "lk"⟩, ⟨_, by walk_at "lk"⟩, ⟨_, by walk_at "lk"⟩,
          (fun z hz => hps z (hp1.mem_iff.mp (.tail _ hz))), hqs, hh3, hh2, huN, hut, huD, (fun w hw hwt hwD hwu => by
            by_cases hw0 : 0 < ri w
            · have hm := (hH1.2 (kS ri ro w)).mpr ⟨w, ⟨⟨hw, hw0, hwt, hwD⟩, hwu⟩, rfl⟩
              obtain ⟨z, hz, e⟩ := List.mem_map.mp hm
              have h1 := hmin z hz
              unfold ile at h1
              rw [hxk, e] at h1
              exact le_kS h1
            · by_cases hw1 : 0 < ro w
              · have hm := (hHq.2 (kZ ro w)).mpr ⟨w, ⟨hw, hw0, hw1, hwt, hwD⟩, rfl⟩
                obtain ⟨z, hz, e⟩ := List.mem_map.mp hm
                obtain ⟨y0, qs', hqe⟩ : ∃ a b, qs = a :: b := by
                  cases qs with
                  | nil => cases hz
                  | cons a b => exact ⟨a, b, rfl⟩
                obtain ⟨x0, ps', hpe⟩ : ∃ a b, ps = a :: b := by
                  cases ps with
                  | nil => exact absurd rfl hp0
                  | cons a b => exact ⟨a, b, rfl⟩
                obtain ⟨w0, _, hw0k⟩ := (hHq.2 y0.2).mp (by rw [hqe]; simp)
                obtain ⟨u0, _, hu0k⟩ := (hHp.2 x0.2).mp (by rw [hpe]; simp)
                have h1 := hh2.min (x := y0) (by rw [hqe]; rfl) z hz
                unfold ile at h1
                rw [hw0k, e] at h1
                have h2 := le_kZ h1
                have h3 : ro w0 ≤ ro u0 := by
                  rcases hb2 hb with h | h
                  · rw [hqe] at h; cases h
                  · exact h.2 x0 y0 u0 w0 (by rw [hpe]; rfl) (by rw [hqe]; rfl) hu0k hw0k
                have hmem : x0 ∈ x :: ps1 := hp1.mem_iff.mpr (by rw [hpe]; exact .head _)
                have h4 : ro u0 ≤ ro u := by
                  rcases List.mem_cons.mp hmem with h6 | hm'
                  · have h7 : kS ri ro u0 = kS ri ro u := by rw [← hu0k, h6, hxk]
                    rw [kS_inj _ _ h7]; exact Int.le_refl _
                  · have h5 := hmin x0 hm'
                    unfold ile at h5
                    rw [hxk, hu0k] at h5
                    rcases le_kS h5 with h | h <;> omega
                have := (M.pos w hw).1
                omega
              · have := (M.pos w hw).2.1; have := (M.pos u huN).2.1; omega), hH1.iff (fun v => by simp [and_assoc, and_comm, and_left_comm]), hHq.iff (fun v => ⟨fun ⟨x1, x2, x3, x4, x5⟩ => ⟨x1, x2, x3, x4, fun h => x5 (.tail _ h)⟩, fun ⟨x1, x2, x3, x4, x5⟩ => ⟨x1, x2, x3, x4, fun h => by rcases List.mem_cons.mp h with rfl | h; exact x2 hu0; exact x5 h⟩⟩), by omega⟩
  · rintro f l' ⟨rfl, vs, ps, qs, u, hS, ⟨VG, Vst, Vzt, Vmd⟩, ⟨⟨x1, Vfo⟩, ⟨x2, Vfi⟩, ⟨x3, Vtg⟩, ⟨x4, Vml⟩⟩, ⟨y1, Vso⟩, ⟨y2, Vsi⟩, ⟨y3, Vss⟩, hps, hqs, hh1, hh2, huN, hut, huD, htop, hHp, hHq, hsz⟩
    refine W.sub hS ?_
    refine w_execs_cons <| w_If <| w_isTrue_Compare1 <| w_NameL rfl Vso <| w_Const_int fun t1 => w_eq_int <| w_truthy_bool ⟨fun hf => ?_, fun hf => w_execs_nil ?_⟩
    · rw [beq_iff_eq] at hf
      have hu0 : ro u = 0 := by omega
      have hbad : ¬ GoodF N c g := fun q => by
        have h1 := (M.ful q).one (fun v hv => (M.pos v hv).2.1) htN
        have h2 := sumN_mem (N := N) (D := D) (b := fun v => decide (v ≠ t ∧ 0 < ro v)) fun v hv hq => by
          rw [decide_eq_true_eq] at hq
          by_cases hm : v ∈ D
          · exact hm
          · exfalso
            by_cases e : v = u
            · subst e; omega
            · rcases htop v hv hq.1 hm e with h | h <;> omega
        have h3 : sumN N (fun v => if decide (v ≠ t ∧ 0 < ro v) = true then (1 : Int) else 0) = sumN N (fun u => if u ≠ t ∧ 0 < ro u then 1 else 0) := sumN_congr fun v _ => by simp
        rw [h3, hD] at h2
        omega
      refine w_execs_cons <| w_RaiseNX S hh rfl <| w_items_cons <| w_Const_str fun t6 => w_items_nil ⟨by simp, fun ea => ⟨hbad, ea, _, rfl, .inl (sub_raise (.skip (.skip (.skip (sub_GLout (Sub.skipL .refl _))))))⟩⟩
    have hro : 0 < ro u := by
      have := (M.pos u huN).2.1
      have hne : ¬ (-1 * ro u = 0) := by simpa using hf
      omega
    obtain ⟨au, kv, hau, hkv⟩ := hgr.adj u huN
    obtain ⟨⟨pv, kw⟩, hpv⟩ : ∃ r, G.prd[t]? = some r := ⟨_, List.getElem?_eq_getElem (by rw [hgr.prdN]; exact htN)⟩
    have hfr : valueAt kv (t : Int) = none := by
      unfold valueAt
      rw [Option.map_eq_none_iff, List.find?_eq_none]
      intro p hp
      have hm : p.1 ∈ kv.map (·.1) := List.mem_map_of_mem hp
      rw [hkv] at hm
      obtain ⟨q, hq, e⟩ := List.mem_map.mp hm
      rw [List.mem_filter] at hq
      obtain ⟨hq1, hq2⟩ := hq
      simp at hq2
      simp only [decide_eq_true_eq]
      intro e2
      have e3 : q.2 = t := by omega
      rcases List.mem_append.mp hq1 with h | h
      · have h0 : E.countP (fun p => p.2 == t) = 0 := by
          have := M.ins t htN
          have := M.whole t htN
          omega
        rw [List.countP_eq_zero] at h0
        have := h0 q h
        simp [e3] at this
      · obtain ⟨v, hv, e4⟩ := List.mem_map.mp h
        rw [← e4] at hq2
        have hvu : v = u := hq2
        exact huD (hvu ▸ hv)
    have hkvl : kv.length ≤ 1000 := by
      have h1 := congrArg List.length hkv
      simp only [List.length_map] at h1
      have h2 := List.length_filter_le (fun p : Nat × Nat => p.1 == u) (E ++ D.map fun u => (u, t))
      rw [List.length_append (as := E), List.length_map] at h2
      omega
    have hkwl : kw.length ≤ 1000 := by
      have h1 := hgr.prd _ (List.mem_of_getElem? hpv)
      simp at h1
      omega
    refine w_execs_cons <| w_Expr <| w_MethodCall <| w_NameL rfl VG <| w_method S (f := 733) ⟨by walk_at "in", 5, by decide, by walk_at "in"⟩ (by rfl) <| w_callWith_fn (S.k 733 _ rfl (by decide) (by decide)) rfl <| w_items_cons <| w_NameL rfl Vss <| w_items_cons <| w_NameL rfl Vtg <| w_items_nil ?_
    refine CW.sub (sub_GLA' (X := [(L, nsP vs), (st, lst ps), (zt, lst qs), (md, seqP "list" (mm.map (·.1) ++ rest))])) ?_
    refine spec_add_edge S (u := u) (v := t) (by show A.depth + 1 < _; omega) hh hau hpv (by rw [hgr.adjN]; exact htN) hfr hkvl hkwl fun dd => ⟨trivial, ?_⟩
    refine W.sub (sub_GLA (X := [(L, nsP vs), (st, lst ps), (zt, lst qs), (md, seqP "list" (mm.map (·.1) ++ rest))])) ?_
    have hG' := hgr.add (dd := dd) hau hpv
    have hsrc' : Src N ri ro t (D ++ [u]) := by
      refine ⟨?_, fun v hv => ?_, fun v hv w h1 h2 h3 => ?_⟩
      · rw [List.nodup_append]
        exact ⟨hsrc.nd, by simp, fun a ha b hb => by simp at hb; subst hb; rintro rfl; exact huD ha⟩
      · rcases List.mem_append.mp hv with hv | hv
        · exact hsrc.ok v hv
        · rw [List.mem_singleton.mp hv]; exact ⟨huN, hut, hro⟩
      · simp at h3
        rcases List.mem_append.mp hv with hv | hv
        · exact hsrc.top v hv w h1 h2 h3.1
        · rw [List.mem_singleton.mp hv]; exact htop w h1 h2 h3.1 h3.2
    have hHp' : Holds ps (fun v => v < N ∧ 0 < ri v ∧ v ≠ t ∧ v ∉ D ++ [u]) (kS ri ro) := hHp.iff fun v => by simp [or_comm]
    have hHq' : Holds qs (fun v => v < N ∧ ¬ 0 < ri v ∧ 0 < ro v ∧ v ≠ t ∧ v ∉ D ++ [u]) (kZ ro) := hHq.iff fun v => by simp [or_comm]
    have hEq : E ++ (D.map fun u => (u, t)) ++ [(u, t)] = E ++ (D ++ [u]).map fun u => (u, t) := by simp
    rw [hEq] at hG'
    have fin0 : ¬ (1 < ro u ∨ 0 < ri u) → (D ++ [u]).filter (keep ri ro) = D.filter (keep ri ro) := fun h => by simp [List.filter_append, keep, h]
    have fin1 : (1 < ro u ∨ 0 < ri u) → (D ++ [u]).filter (keep ri ro) = D.filter (keep ri ro) ++ [u] := fun h => by simp [List.filter_append, keep, h]
    have fin : ∀ (vs : Vars) (l' : Led), ¬ (1 < ro u ∨ 0 < ri u) → Sub (hvL C L st zt md vs ps qs (mm.map (·.1) ++ rest) { G with adj := G.adj.set u (au, kv ++ [((t : Int), .ref dd)]), prd := G.prd.set t (pv, stored kw u (.ref dd)) } (tp ++ (frL outer ++ tail))) l' → V2 vs G.g st zt md → V3 vs (-1 * ro t) (ri t) t mm.length → IFor C L st zt md G.g outer tail N ri ro mx t E K (i + 1) l' := fun vs l' hk hS V2' V3' =>
      ⟨vs, ps, qs, mm, rest, tp, _, D ++ [u], hS, V2', V3', rfl, hps, hqs, hmm, hh1, hh2, hHp', hHq', by rw [hmk, fin0 hk], hml, by simp [hD], by omega, hsz, hsrc', hG'⟩
    refine w_execs_cons <| w_If <| W.mono (k' := fun b l' => b = decide (1 < ro u ∨ 0 < ri u) ∧ l' = hvL C L st zt md vs ps qs (mm.map (·.1) ++ rest) { G with adj := G.adj.set u (au, kv ++ [((t : Int), .ref dd)]), prd := G.prd.set t (pv, stored kw u (.ref dd)) } (tp ++ (frL outer ++ tail))) ?_ ?_ (fun _ _ z => z)
    · refine w_isTrue_BoolOp <| w_or_cons <| w_isTrue_Compare1 <| w_BinOp <| w_NameL rfl Vso <| w_Const_int fun t2 => w_add_int fun t3 => w_Const_int fun t4 => w_lt_int <| w_truthy_bool ⟨fun h1 => ⟨?_, rfl⟩, fun h1 => w_or_cons <| w_isTrue_Compare1 <| w_NameL rfl Vsi <| w_Const_int fun t5 => w_lt_int <| w_truthy_bool ⟨fun h2 => ⟨?_, rfl⟩, fun h2 => w_or_nil ⟨?_, rfl⟩⟩⟩
      · rw [decide_eq_true_eq] at h1; symm; rw [decide_eq_true_eq]; omega
      · rw [decide_eq_true_eq] at h2; symm; rw [decide_eq_true_eq]; omega
      · rw [decide_eq_false_iff_not] at h1 h2; symm; rw [decide_eq_false_iff_not]; omega
    rintro b l' ⟨rfl, rfl⟩
    refine ⟨fun hk => ?_, fun hk => w_execs_nil <| w_execs_nil ⟨rfl, fin _ _ (by simpa using hk) .refl ⟨VG, Vst, Vzt, Vmd⟩ ⟨⟨_, Vfo⟩, ⟨_, Vfi⟩, ⟨_, Vtg⟩, ⟨_, Vml⟩⟩⟩⟩
    rw [decide_eq_true_eq] at hk
    obtain ⟨r0, rest', rfl⟩ : ∃ r0 rest', rest = r0 :: rest' := by
      cases rest with
      | nil => have := (M.pos t htN).2.2; simp at hml; omega
      | cons a b => exact ⟨a, b, rfl⟩
    refine w_execs_cons <| w_Assign_Sub <| w_Tuple_ <| w_items_cons <| w_BinOp <| w_NameL rfl Vso <| w_Const_int fun t6 => w_add_int fun t7 => w_items_cons <| w_NameL rfl Vsi <| w_items_cons <| w_NameL rfl Vss <| w_items_nil <| w_newTup (.cons _ _ (.cons _ _ (.cons _ _ .nil))) (by simp) fun nb => w_NameL rfl Vmd <| w_NameL rfl Vml <| w_setItem_list (vs := mm.map (·.1) ++ r0 :: rest') (.tail (.tail (.tail (.tail .head)))) (by omega) (by omega) (by simp; omega) ?_
    refine w_execs_cons <| w_AugAssign_Name <| w_loadL rfl Vml <| w_Const_int fun t8 => w_iadd_int fun t9 => w_storeL rfl <| w_execs_nil <| w_execs_nil ⟨rfl, ?_⟩
    have hset : (mm.map (·.1) ++ r0 :: rest').set ((mm.length : Int)).toNat (.ref nb) = (mm ++ [((.ref nb : Value), kM ri ro u)]).map (·.1) ++ rest' := by
      rw [Int.toNat_natCast, List.set_append_right _ _ (by simp)]; simp
    rw [hset]
    exact ⟨_, ps, qs, mm ++ [((.ref nb : Value), kM ri ro u)], rest', (nb, tupP (kM ri ro u)) :: tp, _, D ++ [u], .pick1 .head (.pick1 (.tail .head) (.pick1 (.tail .head) (.pick1 (.tail .head) (sub_GL (T := tp ++ (frL outer ++ tail)))))), ⟨by walk_at "lk", by walk_at "lk", by walk_at "lk", by walk_at "lk"⟩,
      ⟨⟨_, by walk_at "lk"⟩, ⟨_, by walk_at "lk"⟩, ⟨_, by walk_at "lk"⟩, ⟨t9, by rw [List.length_append]; exact look_eq⟩⟩, rfl, (fun x hx => (hps x hx).more), (fun x hx => (hqs x hx).more), told_app hmm, hh1, hh2, hHp', hHq', by rw [List.map_append, hmk, fin1 hk]; simp, by simp at hml ⊢; omega, by simp [hD], by simp; omega, hsz, hsrc', hG'⟩
end
end Mine
end
/-! H43 -/
section
open PySem PySem.W PySem.Calls PyProof.Rows
set_option maxRecDepth 100000
set_option linter.all false
namespace Mine
local macro_rules | `(tactic| walk_at "lk") => `(tactic| first | with_reducible exact look_eq | (rw [lookup_put, if_neg (by decide)]; walk_at "lk") | assumption | exact rfl)
local macro_rules | `(tactic| walk_at "in") => `(tactic| first | exact List.Mem.head _ | (refine List.Mem.tail _ ?_; walk_at "in"))
local macro_rules | `(tactic| walk_at "pk") => `(tactic| first | exact Pick.head | (apply Pick.tail; walk_at "pk"))
local macro_rules | `(tactic| walk_at "rp") => `(tactic| first | exact Rep.head | (apply Rep.tail; walk_at "rp"))
local macro_rules | `(tactic| walk_at "sub") => `(tactic| first | exact Sub.refl | (refine Sub.pick1 (by walk_at "pk") ?_; walk_at "sub") | exact Sub.nil | (refine Sub.skip ?_; walk_at "sub"))
section
variable {α β : Type} {C : Cx} {A : Around} {l : Led} {e : Value → Led → Prop} {env : Env}
theorem Holds.len {p : Nat → Prop} {key key' : Nat → List Int} (hi : ∀ u w, key u = key w → u = w) (hi' : ∀ u w, key' u = key' w → u = w) : ∀ {S S' : List Itm} {p : Nat → Prop}, Holds S p key → Holds S' p key' → S.length ≤ S'.length
  | [], _, _, _, _ => Nat.zero_le _
  | x :: S, S', p, h, h' => by
    obtain ⟨v, hv, _, hS⟩ := h.uncons
    obtain ⟨y, hy, e⟩ := List.mem_map.mp ((h'.2 (key' v)).mpr ⟨v, hv, rfl⟩)
    obtain ⟨a, b, rfl⟩ := List.append_of_mem hy
    obtain ⟨w, _, hw, hS'⟩ := (h'.perm (List.perm_middle (a := y) (l₁ := a) (l₂ := b)).symm).uncons
    have : w = v := hi' _ _ (hw.symm.trans e)
    subst this
    have := Holds.len (key := key) (key' := key') (p := p) hi hi' (hS hi) (hS' hi')
    simp at this ⊢
    omega
def roD (ro : Nat → Int) (D : List Nat) (v : Nat) : Int := if v ∈ D then ro v - 1 else ro v
def riT (ri : Nat → Int) (t v : Nat) : Int := if v = t then 0 else ri v
def IBack (C : Cx) (L st zt md gg : Addr) (outer : Frs) (tail : Led) (N : Nat) (ri ro : Nat → Int) (mx : Int) (t : Nat) (D : List Nat) (E' : List (Nat × Nat)) (K : Nat) (j : Nat) (l₂ : Led) : Prop :=
  ∃ (vs : Vars) (ps qs mm : List Itm) (rest : List Value) (tp : Led) (G : GS), Sub (hvL C L st zt md vs ps qs (mm.map (·.1) ++ rest) G (tp ++ (frL outer ++ tail))) l₂ ∧ V2 vs gg st zt md ∧ V3 vs (-1 * ro t) (ri t) t mm.length ∧ G.g = gg ∧ (∀ x ∈ ps, Told tp x) ∧ (∀ x ∈ qs, Told tp x) ∧ (∀ x ∈ mm, Told tp x) ∧ HeapFrom 0 ps ∧ HeapFrom 0 qs ∧
    Holds ps (fun v => v < N ∧ 0 < ri v ∧ v ≠ t ∧ (v ∉ D ∨ v ∈ (D.filter (keep ri ro)).take j)) (kS ri (roD ro D)) ∧ Holds qs (fun v => v < N ∧ ¬ 0 < ri v ∧ 0 < roD ro D v ∧ v ≠ t ∧ (v ∉ D ∨ v ∈ (D.filter (keep ri ro)).take j)) (kZ (roD ro D)) ∧ mm.map (·.2) = (D.filter (keep ri ro)).map (kM ri ro) ∧ mm.length + rest.length = (mx + 1).toNat ∧
    ps.length + qs.length + mm.length ≤ K + j ∧ Gr N G E'
set_option maxHeartbeats 16000000
theorem hv_back (S : Ok C) {o : Obj} {fd : FuncData} {body wb rest ib rest2 : List Stmt} {test tg it : Expr} {wpos fpos : Pos} (hlk : List.lookup 883 (KK C.w.params) = some o) (hd : o.data = .func fd) (hb : fd.body = .stmts body) (hw : body.drop 15 = .While test wb [] wpos :: rest) (hi : wb.drop 5 = .For tg it ib [] fpos :: rest2)
    {L : Addr} {outer : Frs} {tail : Led} {N : Nat} {ri ro : Nat → Int} {mx : Int} {st zt md gg : Addr} {t K j ml : Nat} {tk : Tok} {D : List Nat} {E' : List (Nat × Nat)} {l₂ : Led}
    (hA' : A.depth + 2 < recursionLimit) (hh : A.handled = none) (hu : A.units < 8500) (hN1 : 1 ≤ N) (hN : N ≤ 6) (hsrc : Src N ri ro t D) (hri : ∀ v, v < N → 0 ≤ ri v) (hK : K ≤ 12) (hml : ml = (D.filter (keep ri ro)).length) (hmx : mx ≤ 100) (hit : 0 + (j : Int) < ml)
    (I : IBack C L st zt md gg outer tail N ri ro mx t D E' K j l₂) :
    W C A l₂ (assign tg (callEnv fd L 883) (.int (0 + j) tk)) (fun _ l₃ => W C A l₃ (execs ib (callEnv fd L 883)) (fun f l₄ => f = .next ∧ IBack C L st zt md gg outer tail N ri ro mx t D E' K (j + 1) l₄) noE) noE := by
  obtain rfl := Option.some.inj (hlk.symm.trans rfl)
  obtain rfl := Data.func.inj hd
  obtain rfl := FuncBody.stmts.inj hb
  obtain ⟨rfl, rfl, -, -⟩ := Stmt.While.inj (List.cons.inj hw).1
  obtain ⟨rfl, rfl, rfl, -, -⟩ := Stmt.For.inj (List.cons.inj hi).1
  clear hlk
  obtain ⟨vs, ps, qs, mm, rest, tp, G, hS, ⟨VG, Vst, Vzt, Vmd⟩, ⟨⟨x1, Vfo⟩, ⟨x2, Vfi⟩, ⟨x3, Vtg⟩, ⟨x4, Vml⟩⟩, hG, hps, hqs, hmm, hh1, hh2, hHp, hHq, hmk, hml2, hsz, hgr⟩ := I
  refine W.sub hS <| w_assign_Name <| w_storeL rfl ?_
  subst hG
  have hT : ∀ (X Y : Led) (G : GS) (x : Itm), Told tp x → Told (X ++ (Y ++ GL C G (tp ++ (frL outer ++ tail)))) x := fun X Y G x ⟨a, e, hm⟩ => ⟨a, e, List.mem_append_right _ (List.mem_append_right _ (mem_GL (List.mem_append_left _ hm)))⟩
  have hlen : mm.length = (D.filter (keep ri ro)).length := by have := congrArg List.length hmk; simpa using this
  have hj : j < (D.filter (keep ri ro)).length := by omega
  have hjm : j < mm.length := by omega
  have hxk : mm[j].2 = kM ri ro (D.filter (keep ri ro))[j] := by
    have : (mm.map (·.2))[j]? = ((D.filter (keep ri ro)).map (kM ri ro))[j]? := by rw [hmk]
    simpa [hjm, hj] using this
  have hFn : (D.filter (keep ri ro)).Nodup := hsrc.nd.filter _
  have htk : (D.filter (keep ri ro)).take (j + 1) = (D.filter (keep ri ro)).take j ++ [(D.filter (keep ri ro))[j]] := by simp
  have hnt : (D.filter (keep ri ro))[j] ∉ (D.filter (keep ri ro)).take j := fun hm => by
    have h1 := hFn.sublist (List.take_sublist (j + 1) _)
    rw [htk, List.nodup_append] at h1
    exact h1.2.2 _ hm _ (.head _) rfl
  have huF : (D.filter (keep ri ro))[j] ∈ D.filter (keep ri ro) := List.getElem_mem hj
  generalize (D.filter (keep ri ro))[j] = u at *
  obtain ⟨huD, huk⟩ := List.mem_filter.mp huF
  obtain ⟨huN, hut, hro⟩ := hsrc.ok u huD
  have huk : 1 < ro u ∨ 0 < ri u := of_decide_eq_true huk
  have hro' : roD ro D u = ro u - 1 := by simp [roD, huD]
  obtain ⟨ta, hxa, hxm⟩ := hmm mm[j] (List.getElem_mem hjm)
  have hget : (mm.map (·.1) ++ rest)[j]? = some (.ref ta) := by
    rw [List.getElem?_append_left (by simpa using hjm)]
    simp [hjm, hxa]
  have htn : (0 + (j : Int)).toNat = j := by omega
  rw [hxk] at hxm
  have hml3 : mm.length + rest.length ≤ 1000 := by omega
  refine w_execs_cons <| w_Assign_Name <| w_Subscript <| w_NameL rfl (by walk_at "lk") <| w_NameL rfl (by walk_at "lk") <| w_subTail_list (vs := mm.map (·.1) ++ rest) (v := .ref ta) (by walk_at "in") (by omega) (by simp; omega) (by rw [htn]; exact hget) <| w_storeL rfl ?_
  have hmem : ∀ (X : Led), (ta, tupP (kM ri ro u)) ∈ X ++ GL C G (tp ++ (frL outer ++ tail)) := fun X => List.mem_append_right _ (mem_GL (List.mem_append_left _ hxm))
  refine w_execs_cons <| w_If <| w_isTrue_Compare1 <| w_Subscript <| w_NameL rfl (by walk_at "lk") <| w_Const_int fun t2 => w_subTail_tup (ts := kM ri ro u) (n := -1 * ri u) (hmem [_, _, _, _]) (by decide) (by simp [kM]) (by simp [kM]) rfl fun t3 => w_Const_int fun t4 => w_lt_int <| w_truthy_bool ⟨fun hf => ?_, fun hf => ?_⟩
  · rw [decide_eq_true_eq] at hf
    have hri0 : 0 < ri u := by omega
    refine w_execs_cons <| w_Expr <| w_Call_Name <| S.glob (v := .builtin "_heapq.heappush") rfl <| w_callWith_b <| w_items_cons <| w_NameL rfl (by walk_at "lk") <| w_items_cons <| w_NameL rfl (by walk_at "lk") <| w_items_nil <| w_heappush (x := (.ref ta, kM ri ro u)) (pre := [(L, nsP _)]) (by show A.units < 9000; omega) (by omega) (fun x hx => hT [_] [_, _] G x (hps x hx)) ⟨ta, rfl, hmem [_, _, _]⟩ hh1 fun ps' hp1 hh3 => ⟨trivial, w_execs_nil <| w_execs_nil ⟨rfl, ?_⟩⟩
    have hle := hp1.length_eq
    rw [List.length_cons] at hle
    refine ⟨_, ps', qs, mm, rest, tp, G, .refl, ⟨by walk_at "lk", by walk_at "lk", by walk_at "lk", by walk_at "lk"⟩, ⟨⟨_, by walk_at "lk"⟩, ⟨_, by walk_at "lk"⟩, ⟨_, by walk_at "lk"⟩, ⟨_, by walk_at "lk"⟩⟩, rfl, (fun x hx => ?_), hqs, hmm, hh3, hh2, (hHp.cons (x := (.ref ta, kM ri ro u)) (v := u) ?_ ?_ kS_inj fun w => ?_).perm hp1, hHq.iff fun w => ?_, hmk, hml2, by omega, hgr⟩
    · rcases List.mem_cons.mp (hp1.mem_iff.mp hx) with rfl | hx
      · exact ⟨ta, rfl, hxm⟩
      · exact hps x hx
    · show kM ri ro u = kS ri (roD ro D) u
      simp only [kM, kS, hro', List.cons.injEq, and_true]
      omega
    · rintro ⟨_, _, _, h | h⟩
      · exact h huD
      · exact hnt h
    · rw [htk]
      simp only [List.mem_append, List.mem_singleton]
      constructor
      · rintro ⟨a, b, c, d | d | d⟩
        · exact .inl ⟨a, b, c, .inl d⟩
        · exact .inl ⟨a, b, c, .inr d⟩
        · exact .inr d
      · rintro (⟨a, b, c, d⟩ | rfl)
        · exact ⟨a, b, c, d.imp id .inl⟩
        · exact ⟨huN, hri0, hut, .inr (.inr rfl)⟩
    · rw [htk]
      simp only [List.mem_append, List.mem_singleton]
      constructor
      · rintro ⟨a, b, c, d, e | e | rfl⟩
        · exact ⟨a, b, c, d, .inl e⟩
        · exact ⟨a, b, c, d, .inr e⟩
        · exact (b hri0).elim
      · rintro ⟨a, b, c, d, e⟩
        exact ⟨a, b, c, d, e.imp id .inl⟩
  · rw [decide_eq_false_iff_not] at hf
    have hri0 : ri u = 0 := by have := hri u huN; omega
    refine w_execs_cons <| w_Expr <| w_Call_Name <| S.glob (v := .builtin "_heapq.heappush") rfl <| w_callWith_b <| w_items_cons <| w_NameL rfl (by walk_at "lk") <| w_items_cons <| w_Tuple_ <| w_items_cons <| w_Subscript <| w_NameL rfl (by walk_at "lk") <| w_Const_int fun t5 => w_subTail_tup (ts := kM ri ro u) (n := -1 * ro u + 1) (hmem [_, _, _, _]) (by decide) (by simp [kM]) (by simp [kM]) rfl fun t6 => w_items_cons <| w_Subscript <| w_NameL rfl (by walk_at "lk") <| w_Const_int fun t7 => w_subTail_tup (ts := kM ri ro u) (n := u) (hmem [_, _, _, _]) (by decide) (by simp [kM]) (by simp [kM]) rfl fun t8 => w_items_nil <| w_newTup (.cons _ _ (.cons _ _ .nil)) (by simp) fun nb => w_items_nil ?_
    have hkz : ([-1 * ro u + 1, (u : Int)] : List Int) = kZ (roD ro D) u := by
      simp only [kZ, hro', List.cons.injEq, and_true]
      omega
    rw [hkz]
    refine w_heappush (x := (.ref nb, kZ (roD ro D) u)) (pre := [(L, nsP _), (nb, tupP _), (st, lst ps)]) (by show A.units < 9000; omega) (by omega) (fun x hx => hT [_, _, _] [_] G x (hqs x hx)) ⟨nb, rfl, .tail _ (.head _)⟩ hh2 fun qs' hq1 hh3 => ⟨trivial, w_execs_nil <| w_execs_nil ⟨rfl, ?_⟩⟩
    have hle := hq1.length_eq
    rw [List.length_cons] at hle
    refine ⟨_, ps, qs', mm, rest, (nb, tupP (kZ (roD ro D) u)) :: tp, G, .pick1 .head (.pick1 (.tail .head) (.pick1 (.tail .head) (.pick1 (.tail .head) (sub_GL (T := tp ++ (frL outer ++ tail)))))), ⟨by walk_at "lk", by walk_at "lk", by walk_at "lk", by walk_at "lk"⟩, ⟨⟨_, by walk_at "lk"⟩, ⟨_, by walk_at "lk"⟩, ⟨_, by walk_at "lk"⟩, ⟨_, by walk_at "lk"⟩⟩, rfl, (fun x hx => (hps x hx).more), (fun x hx => ?_), (fun x hx => (hmm x hx).more), hh1, hh3, hHp.iff fun w => ?_, (hHq.cons (x := (.ref nb, kZ (roD ro D) u)) (v := u) rfl ?_ kZ_inj fun w => ?_).perm hq1, hmk, hml2, by omega, hgr⟩
    · rcases List.mem_cons.mp (hq1.mem_iff.mp hx) with rfl | hx
      · exact ⟨nb, rfl, .head _⟩
      · exact (hqs x hx).more
    · rw [htk]
      simp only [List.mem_append, List.mem_singleton]
      constructor
      · rintro ⟨a, b, c, e | e | rfl⟩
        · exact ⟨a, b, c, .inl e⟩
        · exact ⟨a, b, c, .inr e⟩
        · omega
      · rintro ⟨a, b, c, e⟩
        exact ⟨a, b, c, e.imp id .inl⟩
    · rintro ⟨_, _, _, _, h | h⟩
      · exact h huD
      · exact hnt h
    · rw [htk]
      simp only [List.mem_append, List.mem_singleton]
      constructor
      · rintro ⟨a, b, c, d, e | e | e⟩
        · exact .inl ⟨a, b, c, d, .inl e⟩
        · exact .inl ⟨a, b, c, d, .inr e⟩
        · exact .inr e
      · rintro (⟨a, b, c, d, e⟩ | rfl)
        · exact ⟨a, b, c, d, e.imp id .inl⟩
        · exact ⟨huN, by omega, by rw [hro']; omega, hut, .inr (.inr rfl)⟩
end
end Mine
end
/-! H44 -/
section
open PySem PySem.W PySem.Calls PyProof.Rows
set_option linter.all false
namespace Mine
theorem riT_self {ri : Nat → Int} {t : Nat} : riT ri t t = 0 := by simp [riT]
theorem riT_ne {ri : Nat → Int} {t v : Nat} (h : v ≠ t) : riT ri t v = ri v := by simp [riT, h]
theorem roD_in {ro : Nat → Int} {D : List Nat} {v : Nat} (h : v ∈ D) : roD ro D v = ro v - 1 := by simp [roD, h]
theorem roD_out {ro : Nat → Int} {D : List Nat} {v : Nat} (h : v ∉ D) : roD ro D v = ro v := by simp [roD, h]
theorem countP_map_one {D : List Nat} (hn : D.Nodup) (t v : Nat) : ((D.map fun u => (u, t)).countP (fun p => p.1 == v) : Int) = if v ∈ D then 1 else 0 := by
  rw [List.countP_map]
  have e : D.countP ((fun p : Nat × Nat => p.1 == v) ∘ fun u => (u, t)) = D.count v := rfl
  rw [e]
  by_cases h : v ∈ D
  · rw [if_pos h]; have := hn.count (a := v); simp [h] at this; omega
  · rw [if_neg h, List.count_eq_zero.mpr h]; rfl
theorem Mid.next {N : Nat} {c g ri ro : Nat → Int} {mx : Int} {G0 G2 : GS} {E : List (Nat × Nat)} {t : Nat} {D : List Nat} (M : Mid N c g ri ro mx G0 E) (hsrc : Src N ri ro t D) (htN : t < N) (ht0 : 0 < ri t) (hD : (D.length : Int) = ri t)
    (hgr : Gr N G2 (E ++ D.map fun u => (u, t))) : Mid N c g (riT ri t) (roD ro D) mx G2 (E ++ D.map fun u => (u, t)) := by
  have hE0 : E.countP (fun p => p.2 == t) = 0 := by
    have := M.ins t htN
    have := M.whole t htN
    omega
  have hEt : ∀ p ∈ E, p.2 ≠ t := fun p hp e => by
    rw [List.countP_eq_zero] at hE0
    exact hE0 p hp (by simp [e])
  refine ⟨fun v hv => ?_, fun v hv => ?_, ?_, fun h => ?_, ?_, fun p hp => ?_, fun v hv => ?_, fun v hv => ?_, hgr.adjN, hgr.prdN, hgr.naN, hgr.adj, hgr.prd⟩
  · have h := M.pos v hv
    have a : 0 ≤ riT ri t v ∧ riT ri t v ≤ mx := by
      by_cases e : v = t
      · subst e; rw [riT_self]; omega
      · rw [riT_ne e]; omega
    have b : 0 ≤ roD ro D v := by
      by_cases e : v ∈ D
      · rw [roD_in e]; have := (hsrc.ok v e).2.2; omega
      · rw [roD_out e]; omega
    exact ⟨a.1, b, a.2⟩
  · by_cases e : v = t
    · subst e; exact .inr riT_self
    · rw [riT_ne e]; exact M.whole v hv
  · have h1 := sumN_one (f := riT ri t) (g := ri) htN fun v _ hne => riT_ne hne
    rw [riT_self] at h1
    have h2 : sumN N (roD ro D) = sumN N (fun v => ro v - if v ∈ D then 1 else 0) := sumN_congr fun v _ => by unfold roD; split <;> omega
    have h3 := sumN_list (N := N) (fun _ => 1) hsrc.nd fun v hv => (hsrc.ok v hv).1
    rw [List.map_const', List.sum_replicate_int] at h3
    rw [h2, sumN_sub]
    have := M.sum
    omega
  · exact (M.ful h).step htN (fun v hv => (M.pos v hv).1) (fun u hu => ⟨(hsrc.ok u hu).1, (hsrc.ok u hu).2.1⟩) hsrc.top hD
  · rw [List.nodup_append]
    refine ⟨M.nd, ?_, fun a ha b hb e => ?_⟩
    · exact List.pairwise_map.mpr (hsrc.nd.imp fun h e => h (by simpa using e))
    · obtain ⟨u, _, rfl⟩ := List.mem_map.mp hb
      exact hEt a ha (by rw [e])
  · rcases List.mem_append.mp hp with hp | hp
    · exact M.ok p hp
    · obtain ⟨u, hu, rfl⟩ := List.mem_map.mp hp
      exact ⟨(hsrc.ok u hu).1, htN, (hsrc.ok u hu).2.1⟩
  · rw [List.countP_append]
    have h := M.ins v hv
    by_cases e : v = t
    · subst e
      rw [riT_self]
      have : (D.map fun u => (u, v)).countP (fun p => p.2 == v) = D.length := by
        rw [List.countP_map, List.countP_eq_length]
        intro a _; simp
      omega
    · rw [riT_ne e]
      have : (D.map fun u => (u, t)).countP (fun p => p.2 == v) = 0 := by
        rw [List.countP_map, List.countP_eq_zero]
        intro a _; simp [Ne.symm e]
      omega
  · rw [List.countP_append]
    have h := M.outs v hv
    have h1 := countP_map_one hsrc.nd t v
    unfold roD
    split <;> rename_i q <;> simp only [q, if_true, if_false] at h1 <;> omega
end Mine
end
/-! H5 -/
section
open PySem PySem.W PySem.Calls PyProof.Rows
set_option maxRecDepth 100000
set_option linter.all false
namespace Mine
local macro_rules | `(tactic| walk_at "lk") => `(tactic| first | with_reducible exact look_eq | (rw [lookup_put, if_neg (by decide)]; walk_at "lk") | assumption | exact rfl)
local macro_rules | `(tactic| walk_at "in") => `(tactic| first | exact List.Mem.head _ | (refine List.Mem.tail _ ?_; walk_at "in"))
local macro_rules | `(tactic| walk_at "pk") => `(tactic| first | exact Pick.head | (apply Pick.tail; walk_at "pk"))
local macro_rules | `(tactic| walk_at "rp") => `(tactic| first | exact Rep.head | (apply Rep.tail; walk_at "rp"))
local macro_rules | `(tactic| walk_at "sub") => `(tactic| first | exact Sub.refl | (refine Sub.pick1 (by walk_at "pk") ?_; walk_at "sub") | exact Sub.nil | (refine Sub.skip ?_; walk_at "sub"))
section
variable {α β : Type} {C : Cx} {A : Around} {l : Led} {e : Value → Led → Prop} {env : Env}
set_option maxHeartbeats 16000000
theorem hv_turn (S : Ok C) {o : Obj} {fd : FuncData} {body wb rest : List Stmt} {test : Expr} {wpos : Pos} (hlk : List.lookup 883 (KK C.w.params) = some o) (hd : o.data = .func fd) (hb : fd.body = .stmts body) (hw : body.drop 15 = .While test wb [] wpos :: rest) {L : Addr} {outer : Frs} {tail : Led} {N : Nat} {c g : Nat → Int}
    (hA' : A.depth + 2 < recursionLimit) (hh : A.handled = none) (hu : A.units < 8500) (hP : Pass C A (callEnv fd L 883) (fun x l => ¬ GoodF N c g ∧ EX L outer tail x l)) (hN1 : 1 ≤ N) (hN : N ≤ 6)
    {vs : Vars} {ri ro : Nat → Int} {ps qs : List Itm} {ms : List Value} {tp : Led} {mx : Int} {G : GS} {E : List (Nat × Nat)} {gg st zt md : Addr} (V : V2 vs gg st zt md) (hG : G.g = gg) (hps : ∀ x ∈ ps, Told tp x) (hqs : ∀ x ∈ qs, Told tp x) (hh1 : HeapFrom 0 ps) (hh2 : HeapFrom 0 qs)
    (hHp : Holds ps (fun v => v < N ∧ 0 < ri v) (kS ri ro)) (hHq : Holds qs (fun v => v < N ∧ ¬ 0 < ri v ∧ 0 < ro v) (kZ ro)) (hl1 : ps.length + qs.length ≤ 12) (hl2 : E.length + 12 * ps.length ≤ 144) (hms : ms.length = (mx + 1).toNat) (M : Mid N c g ri ro mx G E) (hmx : mx ≤ 100) (hne : ps ≠ []) :
    W C A (hvL C L st zt md vs ps qs ms G (tp ++ (frL outer ++ tail))) (execs wb (callEnv fd L 883)) (fun f l₄ => f = .next ∧ ∃ m, m < ps.length ∧ IW C L st zt md gg outer tail N c g mx m l₄) (fun x l => ¬ GoodF N c g ∧ EX L outer tail x l) := by
  obtain rfl := Option.some.inj (hlk.symm.trans rfl)
  obtain rfl := Data.func.inj hd
  obtain rfl := FuncBody.stmts.inj hb
  obtain ⟨rfl, rfl, -, -⟩ := Stmt.While.inj (List.cons.inj hw).1
  subst hG
  have hT' : ∀ {tp : Led} (X Y : Led) (G : GS) (x : Itm), Told tp x → Told (X ++ (Y ++ GL C G (tp ++ (frL outer ++ tail)))) x := fun X Y G x ⟨a, e, hm⟩ => ⟨a, e, List.mem_append_right _ (List.mem_append_right _ (mem_GL (List.mem_append_left _ hm)))⟩
  have hT : ∀ (X Y : Led) (G : GS) (x : Itm), Told tp x → Told (X ++ (Y ++ GL C G (tp ++ (frL outer ++ tail)))) x := fun X Y G x ⟨a, e, hm⟩ => ⟨a, e, List.mem_append_right _ (List.mem_append_right _ (mem_GL (List.mem_append_left _ hm)))⟩
  refine w_execs_cons <| w_Assign_Tuple <| w_Call_Name <| S.glob (v := .builtin "_heapq.heappop") rfl <| w_callWith_b <| w_items_cons <| w_NameL rfl V.st <| w_items_nil <| w_heappop (pre := [(L, nsP vs)]) (by omega) (by omega) (fun x hx => hT [_] [_, _] G x (hps x hx)) hh1 hne fun x ps1 hp1 hh3 hmin => ?_
  obtain ⟨t, ⟨htN, ht0⟩, hxk, hH1⟩ := (hHp.perm hp1).uncons
  have hH1 := hH1 kS_inj
  obtain ⟨ta, hxa, hxm⟩ := hps x (hp1.mem_iff.mp (.head _))
  rw [hxa]
  rw [hxk] at hxm
  refine w_assign_tup hh (ts := kS ri ro t) (.tail _ (.tail _ (.tail _ (.tail _ (mem_GL (List.mem_append_left _ hxm)))))) (fun vs' hI => ?_) rfl
  obtain ⟨t1, t2, t3, rfl⟩ := ints3 hI
  refine w_ord_cons <| w_assign_Name <| w_storeL rfl <| w_ord_cons <| w_assign_Name <| w_storeL rfl <| w_ord_cons <| w_assign_Name <| w_storeL rfl <| w_ord_nil ?_
  refine w_execs_cons <| w_AugAssign_Name <| w_loadL rfl (by walk_at "lk") <| w_UnaryOp <| w_Const_int fun t4 => w_neg_int fun t5 => w_imul_int (IntMulOk.of_right (by decide)) fun t6 => ?_
  rw [show -1 * ri t * -1 = ri t by omega]
  refine w_storeL rfl ?_
  have hle := hp1.length_eq
  rw [List.length_cons] at hle
  refine w_execs_cons <| w_If <| w_isTrue_Compare1 <| w_NameL rfl (by walk_at "lk") <| w_BinOp <| w_Call_Name <| S.bi rfl rfl <| w_callWith_b <| w_items_cons <| w_NameL rfl (by first | (rw [lookup_put, if_neg (by decide), lookup_put, if_neg (by decide), lookup_put, if_neg (by decide), lookup_put, if_neg (by decide)]; exact V.st)) <| w_items_nil <| w_len_seq (vs := ps1.map (·.1)) (by walk_at "in") (by simp; omega) fun t7 => ?_
  refine w_Call_Name <| S.bi rfl rfl <| w_callWith_b <| w_items_cons <| w_NameL rfl (by rw [lookup_put, if_neg (by decide), lookup_put, if_neg (by decide), lookup_put, if_neg (by decide), lookup_put, if_neg (by decide)]; exact V.zt) <| w_items_nil <| w_len_seq (vs := qs.map (·.1)) (by walk_at "in") (by simp; omega) fun t8 => w_add_int fun t9 => w_gt_int <| w_truthy_bool ⟨fun hf => ?_, fun hf => w_execs_nil ?_⟩
  · rw [decide_eq_true_eq] at hf
    simp only [List.length_map] at hf
    have hbad : ¬ GoodF N c g := fun q => by
      have := want_le (M.ful q) (fun v hv => (M.pos v hv).2.1) htN hH1 hHq
      omega
    refine w_execs_cons <| w_RaiseNX S hh rfl <| w_items_cons <| w_Const_str fun t6 => w_items_nil ⟨by simp, fun ea => ⟨hbad, ea, _, rfl, .inl (sub_raise (.skip (.skip (.skip (sub_GLout (Sub.skipL .refl _))))))⟩⟩
  rw [decide_eq_false_iff_not] at hf
  simp only [List.length_map] at hf
  refine w_execs_cons <| w_Assign_Name <| w_Const_int fun t10 => w_storeL rfl ?_
  refine w_execs_cons <| w_ForE_range hh hP 0 (ri t) (IFor C L st zt md G.g outer tail N ri ro mx t E (ps1.length + qs.length)) (by decide) (by have := (M.pos t htN).2.2; have := hms; omega) (by omega) ?_ ?_ ?_
  · obtain ⟨VG, Vst, Vzt, Vmd⟩ := V
    refine w_Call_Name <| S.bi rfl rfl <| w_callWith_t <| w_items_cons <| w_NameL rfl (by walk_at "lk") <| w_items_nil <| w_range1 fun rg => ⟨rg, rfl, .tail _ (.head _), ?_⟩
    exact ⟨_, ps1, qs, [], ms, tp, G, [], .pick1 .head (.skip .refl), ⟨by walk_at "lk", by walk_at "lk", by walk_at "lk", by walk_at "lk"⟩, ⟨⟨_, by walk_at "lk"⟩, ⟨_, by walk_at "lk"⟩, ⟨_, by walk_at "lk"⟩, ⟨t10, look_eq⟩⟩, rfl,
      (fun x hx => hps x (hp1.mem_iff.mp (.tail _ hx))), hqs, (fun x hx => (nomatch hx)), hh3, hh2, hH1.iff (fun v => by simp [and_assoc]), hHq.iff (fun v => ⟨fun ⟨x1, x2, x3, x4, x5⟩ => ⟨x1, x2, x3⟩, fun ⟨x1, x2, x3⟩ => ⟨x1, x2, x3, (by rintro rfl; exact x2 ht0), by simp⟩⟩), rfl, by simp [hms], rfl, Nat.le_refl _, rfl,
      ⟨List.nodup_nil, fun u hu => (nomatch hu), fun u hu => (nomatch hu)⟩, ⟨M.adjN, M.prdN, M.naN, by simpa using M.adj, by simpa using M.prd⟩⟩
  · exact fun i tk l₂ hi I => (hv_inner S hlk rfl rfl rfl rfl hA' hh hu hN1 hN M htN ht0 (by omega) (by omega) (by omega) hi I).mono (fun _ l₃ h => h.mono (fun f l₄ ⟨e1, h1⟩ => by subst e1; exact h1) (fun _ _ z => z)) (fun _ _ z => z)
  · rintro l₂ ⟨vsA, psA, qsA, mmA, restA, tpA, G', D, hS, ⟨VG, Vst, Vzt, Vmd⟩, ⟨⟨x1, Vfo⟩, ⟨x2, Vfi⟩, ⟨x3, Vtg⟩, ⟨x4, Vml⟩⟩, hG, hps, hqs, hmm, hh1, hh2, hHp, hHq, hmk, hml, hD, hmi, hsz, hsrc, hgr⟩
    have hDi : (D.length : Int) = ri t := by rw [hD]; have := ht0; omega
    have hDt : t ∉ D := fun h => (hsrc.ok t h).2.1 rfl
    have hmlen : mmA.length = (D.filter (keep ri ro)).length := by have := congrArg List.length hmk; simpa using this
    have hmx100 : mx ≤ 100 := hmx
    have hri : ∀ v, v < N → 0 ≤ ri v := fun v hv => (M.pos v hv).1
    refine W.sub hS <| w_execs_cons <| w_For_range hh 0 mmA.length (IBack C L st zt md G.g outer tail N ri ro mx t D (E ++ D.map fun u => (u, t)) 11) (by decide) (by omega) (by omega) ?_ (fun j tk l₂ hj I => (hv_back S hlk rfl rfl rfl rfl hA' hh hu hN1 hN hsrc hri (by decide) hmlen hmx100 hj I).mono (fun _ l₃ h => h.mono (fun f l₄ ⟨e1, h1⟩ => by subst e1; exact h1) (fun _ _ z => z)) (fun _ _ z => z)) ?_
    · refine w_Call_Name <| S.bi rfl rfl <| w_callWith_t <| w_items_cons <| w_NameL rfl Vml <| w_items_nil <| w_range1 fun rg => ⟨rg, rfl, .tail _ (.head _), ?_⟩
      refine ⟨_, psA, qsA, mmA, restA, tpA, G', .pick1 .head (.skip .refl), ⟨VG, Vst, Vzt, Vmd⟩, ⟨⟨x1, Vfo⟩, ⟨x2, Vfi⟩, ⟨x3, Vtg⟩, ⟨x4, Vml⟩⟩, hG, hps, hqs, hmm, hh1, hh2, ?_, ?_, hmk, hml, by omega, hgr⟩
      · exact (hHp.iff (p' := fun v => v < N ∧ 0 < ri v ∧ v ≠ t ∧ (v ∉ D ∨ v ∈ (D.filter (keep ri ro)).take 0)) fun v => by simp).keys fun v hv => by
          have : v ∉ D := by simpa using hv.2.2.2
          simp only [kS, roD_out (ro := ro) this]
      · exact (hHq.iff (p' := fun v => v < N ∧ ¬ 0 < ri v ∧ 0 < roD ro D v ∧ v ≠ t ∧ (v ∉ D ∨ v ∈ (D.filter (keep ri ro)).take 0)) fun v => by
          simp only [List.take_zero, List.not_mem_nil, or_false]
          exact ⟨fun ⟨a, b, c, d, e⟩ => ⟨a, b, by rw [roD_out (ro := ro) e] at c; exact c, d, e⟩, fun ⟨a, b, c, d, e⟩ => ⟨a, b, by rw [roD_out (ro := ro) e]; exact c, d, e⟩⟩).keys fun v hv => by
          have : v ∉ D := by simpa using hv.2.2.2.2
          simp only [kZ, roD_out (ro := ro) this]
    · rintro l₂ ⟨vs, psF, qsF, mm, rest, tp, G2, hS, ⟨VG, Vst, Vzt, Vmd⟩, ⟨⟨x1, Vfo⟩, ⟨x2, Vfi⟩, ⟨x3, Vtg⟩, ⟨x4, Vml⟩⟩, hG2, hps, hqs, hmm, hh1, hh2, hHp, hHq, hmk, hml, hsz2, hgr⟩
      have hmm2 : mm.length = (D.filter (keep ri ro)).length := by have := congrArg List.length hmk; simpa using this
      have hj : (((mmA.length : Nat) : Int) - 0).toNat = (D.filter (keep ri ro)).length := by omega
      rw [hj, List.take_length] at hHp hHq
      have hPe : ∀ v, (v < N ∧ 0 < riT ri t v) ↔ (v < N ∧ 0 < ri v ∧ v ≠ t ∧ (v ∉ D ∨ v ∈ D.filter (keep ri ro))) := fun v => by
        by_cases e : v = t
        · subst e; simp [riT_self]
        · rw [riT_ne e]
          constructor
          · rintro ⟨a, b⟩
            refine ⟨a, b, e, ?_⟩
            by_cases q : v ∈ D
            · exact .inr (List.mem_filter.mpr ⟨q, decide_eq_true (.inr b)⟩)
            · exact .inl q
          · rintro ⟨a, b, _⟩
            exact ⟨a, b⟩
      have hQe : ∀ v, (v < N ∧ ¬ 0 < ri v ∧ 0 < roD ro D v ∧ v ≠ t) ↔ (v < N ∧ ¬ 0 < ri v ∧ 0 < roD ro D v ∧ v ≠ t ∧ (v ∉ D ∨ v ∈ D.filter (keep ri ro))) := fun v => by
        constructor
        · rintro ⟨a, b, c, d⟩
          refine ⟨a, b, c, d, ?_⟩
          by_cases q : v ∈ D
          · rw [roD_in q] at c
            exact .inr (List.mem_filter.mpr ⟨q, decide_eq_true (.inl (by omega))⟩)
          · exact .inl q
        · rintro ⟨a, b, c, d, _⟩
          exact ⟨a, b, c, d⟩
      have hFp : Holds psF (fun v => v < N ∧ 0 < riT ri t v) (kS (riT ri t) (roD ro D)) := (hHp.iff hPe).keys fun v hv => by
        have : v ≠ t := by rintro rfl; have := hv.2; rw [riT_self] at this; omega
        simp only [kS, riT_ne this]
      have hFq : Holds qsF (fun v => v < N ∧ ¬ 0 < ri v ∧ 0 < roD ro D v ∧ v ≠ t) (kZ (roD ro D)) := hHq.iff hQe
      have hlen : psF.length ≤ ps1.length := Holds.len (key := kS (riT ri t) (roD ro D)) (key' := kS ri ro) (p := fun _ => True) kS_inj kS_inj hFp (hH1.iff fun v => (hPe v).trans ⟨fun ⟨a, b, c, _⟩ => ⟨⟨a, b⟩, c⟩, fun ⟨⟨a, b⟩, c⟩ => ⟨a, b, c, by
        by_cases q : v ∈ D
        · exact .inr (List.mem_filter.mpr ⟨q, decide_eq_true (.inr b)⟩)
        · exact .inl q⟩⟩)
      have hN2 := M.next hsrc htN ht0 hDi hgr
      have hElen : (E ++ D.map fun u => (u, t)).length = E.length + D.length := by simp
      have hDt' : roD ro D t = ro t := roD_out hDt
      refine W.sub hS <| w_execs_cons <| w_If <| w_isTrue_Compare1 <| w_NameL rfl Vfo <| w_Const_int fun t1 => w_lt_int <| w_truthy_bool ⟨fun hf => ?_, fun hf => w_execs_nil <| w_execs_nil ⟨rfl, psF.length, by omega, ?_⟩⟩
      · rw [decide_eq_true_eq] at hf
        refine w_execs_cons <| w_Expr <| w_Call_Name <| S.glob (v := .builtin "_heapq.heappush") rfl <| w_callWith_b <| w_items_cons <| w_NameL rfl Vzt <| w_items_cons <| w_Tuple_ <| w_items_cons <| w_NameL rfl Vfo <| w_items_cons <| w_NameL rfl Vtg <| w_items_nil <| w_newTup (.cons _ _ (.cons _ _ .nil)) (by simp) fun nb => w_items_nil ?_
        have hkz : ([-1 * ro t, (t : Int)] : List Int) = kZ (roD ro D) t := by simp only [kZ, hDt']
        rw [hkz]
        refine w_heappush (x := (.ref nb, kZ (roD ro D) t)) (pre := [(L, nsP _), (nb, tupP _), (st, lst psF)]) (by show A.units < 9000; omega) (by omega) (fun x hx => hT' [_, _, _] [_] G2 x (hqs x hx)) ⟨nb, rfl, .tail _ (.head _)⟩ hh2 fun qs' hq1 hh3 => ⟨trivial, w_execs_nil <| w_execs_nil ⟨rfl, psF.length, by omega, ?_⟩⟩
        have hle2 := hq1.length_eq
        rw [List.length_cons] at hle2
        refine ⟨_, riT ri t, roD ro D, psF, qs', mm.map (·.1) ++ rest, (nb, tupP (kZ (roD ro D) t)) :: tp, G2, _, .pick1 .head (.pick1 (.tail .head) (.pick1 (.tail .head) (.pick1 (.tail .head) (sub_GL (T := tp ++ (frL outer ++ tail)))))), ⟨VG, Vst, Vzt, Vmd⟩, hG2, (fun x hx => (hps x hx).more), (fun x hx => ?_), hh1, hh3, hFp, (hFq.cons (x := (.ref nb, kZ (roD ro D) t)) (v := t) rfl (fun h => h.2.2.2 rfl) kZ_inj fun v => ?_).perm hq1, rfl, by omega, by rw [hElen]; omega, by simp [hml], hN2⟩
        · rcases List.mem_cons.mp (hq1.mem_iff.mp hx) with rfl | hx
          · exact ⟨nb, rfl, .head _⟩
          · exact (hqs x hx).more
        · by_cases e : v = t
          · subst e
            rw [riT_self, hDt']
            exact ⟨fun _ => .inr rfl, fun _ => ⟨htN, by omega, by omega⟩⟩
          · rw [riT_ne e]
            exact ⟨fun ⟨a, b, c⟩ => .inl ⟨a, b, c, e⟩, fun h => by rcases h with ⟨a, b, c, _⟩ | h; exact ⟨a, b, c⟩; exact (e h).elim⟩
      · rw [decide_eq_false_iff_not] at hf
        refine ⟨vs, riT ri t, roD ro D, psF, qsF, mm.map (·.1) ++ rest, tp, G2, _, .refl, ⟨VG, Vst, Vzt, Vmd⟩, hG2, hps, hqs, hh1, hh2, hFp, hFq.iff fun v => ?_, rfl, by omega, by rw [hElen]; omega, by simp [hml], hN2⟩
        by_cases e : v = t
        · subst e
          rw [riT_self, hDt']
          exact ⟨fun h => by omega, fun h => (h.2.2.2 rfl).elim⟩
        · rw [riT_ne e]
          exact ⟨fun ⟨a, b, c⟩ => ⟨a, b, c, e⟩, fun ⟨a, b, c, _⟩ => ⟨a, b, c⟩⟩
end
end Mine
end
/-! H4 -/
section
open PySem PySem.W PySem.Calls PyProof.Rows
set_option maxRecDepth 100000
set_option linter.all false
namespace Mine
local macro_rules | `(tactic| walk_at "lk") => `(tactic| first | with_reducible exact look_eq | (rw [lookup_put, if_neg (by decide)]; walk_at "lk") | assumption | exact rfl)
local macro_rules | `(tactic| walk_at "in") => `(tactic| first | exact List.Mem.head _ | (refine List.Mem.tail _ ?_; walk_at "in"))
local macro_rules | `(tactic| walk_at "pk") => `(tactic| first | exact Pick.head | (apply Pick.tail; walk_at "pk"))
local macro_rules | `(tactic| walk_at "rp") => `(tactic| first | exact Rep.head | (apply Rep.tail; walk_at "rp"))
local macro_rules | `(tactic| walk_at "sub") => `(tactic| first | exact Sub.refl | (refine Sub.pick1 (by walk_at "pk") ?_; walk_at "sub") | exact Sub.nil | (refine Sub.skip ?_; walk_at "sub"))
section
variable {α β : Type} {C : Cx} {A : Around} {l : Led} {e : Value → Led → Prop} {env : Env}
set_option maxHeartbeats 16000000
theorem hv_rest (S : Ok C) {o : Obj} {fd : FuncData} {body : List Stmt} (hlk : List.lookup 883 (KK C.w.params) = some o) (hd : o.data = .func fd) (hb : fd.body = .stmts body) {L : Addr} {outer : Frs} {tail : Led} {N : Nat} {c g : Nat → Int} {k : Flow → Led → Prop}
    (hA' : A.depth + 2 < recursionLimit) (hh : A.handled = none) (hu : A.units < 8500) (hP : Pass C A (callEnv fd L 883) (fun x l => ¬ GoodF N c g ∧ EX L outer tail x l)) (hN1 : 1 ≤ N) (hN : N ≤ 6)
    {vs : Vars} {ps qs : List Itm} {tp : Led} {mx : Int} {a1 a2 gg dg gr nd ad pd st zt : Addr} {aa pa na : List Addr} (ha : aa.length = N) (hp : pa.length = N) (hn : na.length = N)
    (V : V1 vs a1 a2 gg st zt N (sumN N c) (sumN N g) mx) (hps : ∀ x ∈ ps, Told tp x) (hqs : ∀ x ∈ qs, Told tp x) (hHp : Holds ps (fun v => v < N ∧ 0 < c v) (kS c g)) (hHq : Holds qs (fun v => v < N ∧ ¬ 0 < c v ∧ 0 < g v) (kZ g))
    (hpos : ∀ v, v < N → 0 ≤ c v ∧ 0 ≤ g v ∧ c v ≤ mx) (hm0 : 0 ≤ mx) (hm1 : mx ≤ 100) (hl1 : ps.length ≤ N) (hl2 : qs.length ≤ N)
    (good : ∀ G E vs l', EdgesOk N c g G E → G.g = gg → Sub ((L, nsP vs) :: GL C G (frL outer ++ tail)) l' → k (.ret (.ref gg)) l') :
    W C A ((L, nsP vs) :: (st, freshP (ps.map (·.1))) :: (zt, freshP (qs.map (·.1))) :: GL C (gsN gg dg gr nd ad pd aa pa na) (tp ++ (frL outer ++ tail))) (execs (body.drop 11) (callEnv fd L 883)) k (fun x l => ¬ GoodF N c g ∧ EX L outer tail x l) := by
  obtain rfl := Option.some.inj (hlk.symm.trans rfl)
  obtain rfl := Data.func.inj hd
  obtain rfl := FuncBody.stmts.inj hb
  obtain ⟨Vi, Vo, ⟨tn1, Vnin⟩, ⟨tn2, Vnout⟩, ⟨tn3, Vmaxn⟩, VG, Vst, Vzt, ⟨tn4, VsI⟩, ⟨tn5, VsO⟩, ⟨tn6, Vmx⟩⟩ := V
  refine w_execs_cons <| w_If <| w_isTrue_Compare1 <| w_NameL rfl (by walk_at "lk") <| w_NameL rfl (by walk_at "lk") <| w_ne_int <| w_truthy_bool ⟨fun hf => ?_, fun hf => w_execs_nil ?_⟩
  · rw [bne_iff_ne] at hf
    refine w_execs_cons <| w_RaiseNX S hh rfl <| w_items_cons <| w_Const_str fun t6 => w_items_nil ⟨by simp, fun ea => ⟨fun q => hf q.sum, ea, _, rfl, .inl (sub_raise (.skip (.skip (sub_GLout (Sub.skipL .refl _)))))⟩⟩
  have hsum : sumN N c = sumN N g := by simpa using hf
  refine W.sub (l' := (L, nsP vs) :: (st, lst ps) :: (zt, lst qs) :: GL C (gsN gg dg gr nd ad pd aa pa na) (tp ++ (frL outer ++ tail))) (.pick1 .head (.pick .head (fun _ h => h.seq) (.pick .head (fun _ h => h.seq) .refl))) ?_
  have hT : ∀ X Y : Led, ∀ x, Told tp x → Told (X ++ (Y ++ GL C (gsN gg dg gr nd ad pd aa pa na) (tp ++ (frL outer ++ tail)))) x := fun X Y x ⟨a, e, hm⟩ => ⟨a, e, List.mem_append_right _ (List.mem_append_right _ (mem_GL (List.mem_append_left _ hm)))⟩
  refine w_execs_cons <| w_Expr <| w_Call_Name <| S.glob (v := .builtin "_heapq.heapify") rfl <| w_callWith_b <| w_items_cons <| w_NameL rfl (by walk_at "lk") <| w_items_nil <| w_heapify (pre := [(L, nsP vs)]) (by omega) (by omega) (fun x hx => hT [_] [_] x (hps x hx)) fun ps' hp1 hh1 => ⟨trivial, ?_⟩
  refine w_execs_cons <| w_Expr <| w_Call_Name <| S.glob (v := .builtin "_heapq.heapify") rfl <| w_callWith_b <| w_items_cons <| w_NameL rfl (by walk_at "lk") <| w_items_nil <| w_heapify (pre := [(L, nsP vs), (st, lst ps')]) (by omega) (by omega) (fun x hx => hT [_, _] [] x (hqs x hx)) fun qs' hq1 hh2 => ⟨trivial, ?_⟩
  refine w_execs_cons <| w_Assign_Name <| w_BinOp <| w_List_ <| w_items_cons <| w_Tuple_ <| w_items_cons <| w_Const_int fun u1 => w_items_cons <| w_Const_int fun u2 => w_items_cons <| w_Const_int fun u3 => w_items_nil <| w_newTup (.cons _ _ (.cons _ _ (.cons _ _ .nil))) (by simp) fun t0 => w_items_nil <| w_newListF (fun ml => ?_) (by simp [sizeLine_eq])
  refine w_BinOp <| w_NameL rfl (by walk_at "lk") <| w_Const_int fun u4 => w_add_int fun u5 => w_mul_list1 (by walk_at "in") (by omega) (by omega) fun md => w_storeL rfl ?_
  refine W.sub (l' := (L, nsP _) :: (st, lst ps') :: (zt, lst qs') :: (md, seqP "list" (List.replicate (mx + 1).toNat (.ref t0))) :: GL C (gsN gg dg gr nd ad pd aa pa na) (tp ++ (frL outer ++ tail))) (.pick1 .head (.pick1 (.tail (.tail (.tail .head))) (.pick1 (.tail (.tail (.tail .head))) (.pick1 .head (.skip (.skip .refl)))))) ?_
  refine w_execs_cons <| w_WhileE hP (IW C L st zt md gg outer tail N c g mx) ?_ (n := ps'.length) ?_
  rotate_left
  · exact ⟨_, c, g, ps', qs', _, tp, _, [], .refl, ⟨by walk_at "lk", by walk_at "lk", by walk_at "lk", by walk_at "lk"⟩, rfl, (fun x hx => hps x (hp1.mem_iff.mp hx)), (fun x hx => hqs x (hq1.mem_iff.mp hx)), hh1, hh2, hHp.perm hp1, hHq.perm hq1, rfl,
      by have := hp1.length_eq; have := hq1.length_eq; omega, by have := hp1.length_eq; simp; omega, by simp, .start ha hp hn hpos hsum⟩
  · rintro n l₂ ⟨vs, ri, ro, ps, qs, ms, tp, G, E, hS, V, hG, hps, hqs, hh1, hh2, hHp, hHq, rfl, hl1, hl2, hms, M⟩
    refine W.sub hS ?_
    refine w_isTrue_plain <| w_NameL rfl V.st <| w_truthy_seq (by walk_at "in") (by simp; omega) ⟨fun hne => (hv_turn S hlk rfl rfl rfl hA' hh hu hP hN1 hN V hG hps hqs hh1 hh2 hHp hHq hl1 hl2 hms M hm1 (by rintro rfl; simp at hne)).mono (fun f l₄ ⟨e1, h1⟩ => by subst e1; exact h1) (fun _ _ z => z), fun he => ?_⟩
    have hps0 : ps = [] := by simpa using he
    subst hps0
    have hz : ∀ v, v < N → ri v = 0 := fun v hv => by
      have := M.pos v hv
      by_cases q : 0 < ri v
      · have := (hHp.2 (kS ri ro v)).mpr ⟨v, ⟨hv, q⟩, rfl⟩
        simp at this
      · omega
    refine w_execs_cons <| w_Return <| w_NameL rfl V.G ?_
    refine good G E vs _ ?_ hG (.pick1 .head (.skip (.skip (.skip (sub_GLT (Sub.skipL .refl _))))))
    have hs0 : sumN N ro = 0 := by rw [← M.sum, sumN_congr (g := fun _ => 0) hz, sumN_const0]
    have hr0 := sumN_zero (fun v hv => (M.pos v hv).2.1) hs0
    exact ⟨M.nd, M.ok, fun v hv => by have := M.ins v hv; have := hz v hv; omega, fun v hv => by have := M.outs v hv; have := hr0 v hv; omega, M.adjN, M.naN, M.adj⟩
end
end Mine
end
/-! H3 -/
section
open PySem PySem.W PySem.Calls PyProof.Rows
set_option maxRecDepth 100000
set_option linter.all false
namespace Mine
local macro_rules | `(tactic| walk_at "lk") => `(tactic| first | with_reducible exact look_eq | (rw [lookup_put, if_neg (by decide)]; walk_at "lk") | assumption | exact rfl)
local macro_rules | `(tactic| walk_at "in") => `(tactic| first | exact List.Mem.head _ | (refine List.Mem.tail _ ?_; walk_at "in"))
local macro_rules | `(tactic| walk_at "pk") => `(tactic| first | exact Pick.head | (apply Pick.tail; walk_at "pk"))
local macro_rules | `(tactic| walk_at "rp") => `(tactic| first | exact Rep.head | (apply Rep.tail; walk_at "rp"))
local macro_rules | `(tactic| walk_at "sub") => `(tactic| first | exact Sub.refl | (refine Sub.pick1 (by walk_at "pk") ?_; walk_at "sub") | exact Sub.nil | (refine Sub.skip ?_; walk_at "sub"))
section
variable {α β : Type} {C : Cx} {A : Around} {l : Led} {e : Value → Led → Prop} {env : Env}
theorem W.post {t : Sem α} {k : α → Led → Prop} (h : W C A l t (fun a l' => ∃ l₁, Sub l₁ l' ∧ k a l₁) e) : W C A l t k e := fun r s hs => wpAny_mono (h r s hs) (fun a s' ⟨l', ⟨l₁, S, hk⟩, hs'⟩ => ⟨l₁, hk, hs'.sub (S.app r)⟩) (fun _ _ x => x)
set_option maxHeartbeats 16000000
theorem spec_havel (S : Ok C) {envs : List Env} {outer : Frs} {ca ga : Addr} {cs gs : List Int} {N : Nat} {tail : Led} {R : Result → Led → Prop} (hA' : A.depth + 3 < recursionLimit) (hh : A.handled = none) (hu : A.units < 8000)
    (hfr : A.frames = some envs) (hfo : FrOk envs outer) (hc : Ints C tail ca cs) (hg : Ints C tail ga gs) (hcN : cs.length = N) (hgN : gs.length = N) (hN1 : 1 ≤ N) (hN : N ≤ 6)
    (bd : ∀ v, v < N → at0 cs v ≤ 100 ∧ at0 gs v ≤ 100)
    (good : ∀ G E, EdgesOk N (at0 cs) (at0 gs) G E → R (.ok (.ret (.ref G.g))) (GL C G (frL outer ++ tail)))
    (bad : ¬ GoodF N (at0 cs) (at0 gs) → ∀ ea T, R (.error (.ref ea)) (frL outer ++ (ea, excP T) :: (T, tbP .none) :: tail)) :
    CW C A (frL outer ++ tail) (.call (.ref 883) ⟨[.ref ca, .ref ga], []⟩) R := by
  have hA : ∀ env, (A.deeper env).depth < recursionLimit := fun _ => Nat.lt_trans (by show A.depth + 1 < A.depth + 3; omega) hA'
  have hcat : ∀ i, i < N → cs[i]? = some (at0 cs i) := fun i hi => by simp [at0, List.getD, hcN, hi]
  have hgat : ∀ i, i < N → gs[i]? = some (at0 gs i) := fun i hi => by simp [at0, List.getD, hgN, hi]
  refine cw_def (binds := [("in_deg_sequence", .ref ca), ("out_deg_sequence", .ref ga)]) S.lim (by omega) (S.k 883 _ rfl (by decide) (by decide)) rfl ⟨882, _, _, _, rfl, S.k 882 _ rfl (by decide) (by decide), rfl, rfl⟩ rfl rfl (by decide) (locs rfl) fun L => ?_
  have hF : ∀ fd vs, fd.scope.kind = .function → FrOk (callEnv fd L 883 :: envs) ((L, vs) :: outer) := fun fd vs hk => ⟨⟨by show fd.scope.kind ≠ _; rw [hk]; decide, rfl⟩, hfo⟩
  have hAf : ∀ env, (A.deeper env).frames = some (env :: envs) := fun env => by show A.frames.map (env :: ·) = _; rw [hfr]; rfl
  refine W.mono (e' := fun x l' => ¬ GoodF N (at0 cs) (at0 gs) ∧ EX L outer tail x l') ?_ (fun _ _ z => z) fun x l' ⟨hb, hx⟩ => W.post <| EX.leave (vs := []) (hAf _) (hF _ _ rfl) hx fun ea T vs e => ?_
  rotate_left
  · subst e
    exact ⟨_, .skip .refl, bad hb ea T⟩
  have hc1 : ∀ X, Ints C (X ++ (frL outer ++ tail)) ca cs := fun X => hc.sub (Sub.skipL (Sub.skipL .refl _) _)
  have hg1 : ∀ X, Ints C (X ++ (frL outer ++ tail)) ga gs := fun X => hg.sub (Sub.skipL (Sub.skipL .refl _) _)
  refine w_execs_cons <| w_Assign_Name <| w_Call_Name <| S.glob (v := .ref 876) rfl <| w_callWith_fn (S.k 876 _ rfl (by decide) (by decide)) rfl <| w_items_cons <| w_NameL rfl rfl <| w_items_nil <| spec_mklist S (hA _) hh (hc1 [_]) (by omega) fun a1 => w_storeL rfl ?_
  refine w_execs_cons <| w_Assign_Name <| w_Call_Name <| S.glob (v := .ref 876) rfl <| w_callWith_fn (S.k 876 _ rfl (by decide) (by decide)) rfl <| w_items_cons <| w_NameL rfl (by walk_at "lk") <| w_items_nil <| spec_mklist S (hA _) hh (hg1 [_, _]) (by omega) fun a2 => w_storeL rfl ?_
  refine w_execs_cons <| w_Assign_Tuple <| w_Tuple_ <| w_items_cons <| w_Const_int fun t1 => w_items_cons <| w_Const_int fun t2 => w_items_nil <| w_newSeq (fun tt => ?_) (by simp [sizeLine_eq])
  refine w_assign_Tuple hh (.tail _ (.head _)) <| w_ord_cons <| w_assign_Name <| w_storeL rfl <| w_ord_cons <| w_assign_Name <| w_storeL rfl <| w_ord_nil ?_
  refine W.sub (.pick1 .head (.skip .refl)) ?_
  refine w_execs_cons <| w_Assign_Swap (names := ["nin", "nout"]) rfl <| w_Tuple_ <| w_items_cons <| w_Call_Name <| S.bi rfl rfl <| w_callWith_b <| w_items_cons <| w_NameL rfl (by walk_at "lk") <| w_items_nil <| w_len_ints (Ints.mem (by walk_at "in")) (by omega) fun t3 => w_items_cons <| w_Call_Name <| S.bi rfl rfl <| w_callWith_b <| w_items_cons <| w_NameL rfl (by walk_at "lk") <| w_items_nil <| w_len_ints (Ints.mem (by walk_at "in")) (by omega) fun t4 => w_items_nil <| w_newSeq (fun tt => ?_) (by simp [sizeLine_eq])
  rw [hcN, hgN]
  refine w_unpackItems hh (.tail _ (.head _)) rfl <| w_ord_cons <| w_bindName <| w_storeL rfl <| w_ord_cons <| w_bindName <| w_storeL rfl <| w_ord_nil ?_
  refine W.sub (.pick1 .head (.skip .refl)) ?_
  refine w_execs_cons <| w_Assign_Name <| w_Call_Name <| S.bi rfl rfl <| w_callWith_b <| w_items_cons <| w_NameL rfl (by walk_at "lk") <| w_items_cons <| w_NameL rfl (by walk_at "lk") <| w_items_nil <| w_max2 hh fun t5 => ?_
  rw [Int.max_self]
  refine w_storeL rfl ?_
  refine w_execs_cons <| w_Assign_Name <| w_Call_Name <| S.glob (v := .ref 860) rfl <| w_callWith_K0 S <| spec_DiGraph S (by show A.depth + 1 + 2 < _; omega) fun g dg gr nd ad pd => vK_ret ?_
  refine W.sub (l' := (L, nsP _) :: GL C ⟨g, dg, gr, nd, ad, pd, [], [], []⟩ ((a2, intsP gs) :: (a1, intsP cs) :: (frL outer ++ tail))) (.pick1 (.tail (.tail (.tail (.tail (.tail (.tail .head)))))) .refl) ?_
  refine w_storeL rfl ?_
  refine w_execs_cons <| w_Expr <| w_MethodCall <| w_NameL rfl look_eq <| w_method S (f := 712) ⟨by walk_at "in", 5, by decide, by walk_at "in"⟩ (by rfl) <| w_callWith_fn (S.k 712 _ rfl (by decide) (by decide)) rfl <| w_items_cons <| w_Call_Name <| S.bi rfl rfl <| w_callWith_t <| w_items_cons <| w_NameL rfl (by walk_at "lk") <| w_items_nil <| w_range1 fun rg => w_items_nil ?_
  refine CW.sub (l' := (rg, rngP 0 N) :: GL C (gsN g dg gr nd ad pd [] [] []) ((L, nsP _) :: (a2, intsP gs) :: (a1, intsP cs) :: (frL outer ++ tail))) (.pick1 (.tail .head) (sub_GL (C := C) (G := gsN g dg gr nd ad pd [] [] []))) ?_
  refine spec_add_nodes S (by omega) (by show A.depth + 1 + 1 < _; omega) hh fun aa pa na e1 e2 e3 => ⟨trivial, ?_⟩
  refine W.sub (l' := (L, nsP _) :: (a2, intsP gs) :: (a1, intsP cs) :: GL C (gsN g dg gr nd ad pd aa pa na) (frL outer ++ tail)) (.skip (sub_GLA (X := [_, _, _]))) ?_
  refine w_execs_cons <| w_If <| w_isTrue_Compare1 <| w_NameL rfl (by walk_at "lk") <| w_Const_int fun t6 => w_eq_int <| w_truthy_bool ⟨fun hf => ?_, fun _ => w_execs_nil ?_⟩
  · rw [beq_iff_eq] at hf; omega
  refine w_execs_cons <| w_Assign_Name <| w_Const_int fun t7 => w_storeL rfl ?_
  refine w_execs_cons <| w_Assign_Swap (names := ["stubheap", "zeroheap"]) rfl <| w_Tuple_ <| w_items_cons <| w_List_ <| w_items_nil <| w_newListF (vs := []) (fun st => ?_) (by simp [sizeLine_eq])
  refine w_items_cons <| w_List_ <| w_items_nil <| w_newListF (vs := []) (fun zt => w_items_nil <| w_newSeq (fun tt => ?_) (by simp [sizeLine_eq])) (by simp [sizeLine_eq])
  refine w_unpackItems hh (.tail _ (.head _)) rfl <| w_ord_cons <| w_bindName <| w_storeL rfl <| w_ord_cons <| w_bindName <| w_storeL rfl <| w_ord_nil ?_
  refine W.sub (l' := (L, nsP _) :: (st, freshP []) :: (zt, freshP []) :: (a2, intsP gs) :: (a1, intsP cs) :: GL C (gsN g dg gr nd ad pd aa pa na) (frL outer ++ tail)) (.pick1 .head (.pick1 (.tail (.tail .head)) (.pick1 (.tail .head) (.skip .refl)))) ?_
  have hP : ∀ fd, fd.scope.kind = .function → Pass C (A.deeper (callEnv fd L 883)) (callEnv fd L 883) (fun x l => ¬ GoodF N (at0 cs) (at0 gs) ∧ EX L outer tail x l) := fun fd hk => Pass.and (EX.pass (vs := []) (hAf _) (hF _ _ hk))
  refine w_execs_cons <| w_ForE_range hh (hP _ (by rfl)) 0 N (fun i l₂ => ∃ vs ps qs tp mx, Sub ((L, nsP vs) :: (st, freshP (ps.map (·.1))) :: (zt, freshP (qs.map (·.1))) :: (a2, intsP gs) :: (a1, intsP cs) :: GL C (gsN g dg gr nd ad pd aa pa na) (tp ++ (frL outer ++ tail))) l₂ ∧
    V1 vs a1 a2 g st zt N (sumN i (at0 cs)) (sumN i (at0 gs)) mx ∧ (∀ x ∈ ps, Told tp x) ∧ (∀ x ∈ qs, Told tp x) ∧ Holds ps (fun v => v < i ∧ 0 < at0 cs v) (kS (at0 cs) (at0 gs)) ∧ Holds qs (fun v => v < i ∧ ¬ 0 < at0 cs v ∧ 0 < at0 gs v) (kZ (at0 gs)) ∧
    (∀ v, v < i → 0 ≤ at0 cs v ∧ 0 ≤ at0 gs v ∧ at0 cs v ≤ mx) ∧ 0 ≤ mx ∧ mx ≤ 100 ∧ ps.length ≤ i ∧ qs.length ≤ i) (by decide) (by omega) (by omega) ?_ ?_ ?_
  · refine w_Call_Name <| S.bi rfl rfl <| w_callWith_t <| w_items_cons <| w_NameL rfl (by walk_at "lk") <| w_items_nil <| w_range1 fun rg => ⟨rg, rfl, .tail _ (.head _), ?_⟩
    exact ⟨_, [], [], [], 0, by rw [List.nil_append]; exact .pick1 .head (.skip .refl), ⟨by walk_at "lk", by walk_at "lk", ⟨_, by walk_at "lk"⟩, ⟨_, by walk_at "lk"⟩, ⟨_, by walk_at "lk"⟩, by walk_at "lk", by walk_at "lk", by walk_at "lk", ⟨_, by walk_at "lk"⟩, ⟨_, by walk_at "lk"⟩, ⟨_, by walk_at "lk"⟩⟩,
      fun _ h => (nomatch h), fun _ h => (nomatch h), .nil fun v h => by omega, .nil fun v h => by omega, fun v h => by omega, by decide, by decide, Nat.le_refl _, Nat.le_refl _⟩
  · rintro i t l₂ hi ⟨vs, ps, qs, tp, mx, hS, V, hps, hqs, hHp, hHq, hpos, hm0, hm1, hl1, hl2⟩
    rw [Int.zero_add]
    have hiN : i < N := by omega
    refine W.sub hS ?_
    obtain ⟨Vi, Vo, ⟨tn1, Vnin⟩, ⟨tn2, Vnout⟩, ⟨tn3, Vmaxn⟩, VG, Vst, Vzt, ⟨tn4, VsI⟩, ⟨tn5, VsO⟩, ⟨tn6, Vmx⟩⟩ := V
    refine w_assign_Name <| w_storeL rfl ?_
    refine w_execs_cons <| w_Assign_Tuple <| w_Tuple_ <| w_items_cons <| w_Const_int fun t1 => w_items_cons <| w_Const_int fun t2 => w_items_nil <| w_newSeq (fun tt => ?_) (by simp [sizeLine_eq])
    refine w_assign_Tuple hh (.tail _ (.head _)) <| w_ord_cons <| w_assign_Name <| w_storeL rfl <| w_ord_cons <| w_assign_Name <| w_storeL rfl <| w_ord_nil ?_
    refine W.sub (.pick1 .head (.skip .refl)) ?_
    refine w_execs_cons <| w_If <| w_isTrue_Compare1 <| w_NameL rfl (by walk_at "lk") <| w_NameL rfl (by walk_at "lk") <| w_lt_int <| w_truthy_bool ⟨fun _ => ?_, fun hf => ?_⟩
    rotate_left
    · rw [decide_eq_false_iff_not] at hf; omega
    refine w_execs_cons <| w_Assign_Name <| w_Subscript <| w_NameL rfl (by walk_at "lk") <| w_NameL rfl (by walk_at "lk") <| w_subTail_ints (ns := gs) (by walk_at "in") (by omega) (by omega) (by rw [Int.toNat_natCast]; exact hgat i hiN) fun t3 => w_storeL rfl <| w_execs_nil ?_
    refine w_execs_cons <| w_If <| w_isTrue_Compare1 <| w_NameL rfl (by walk_at "lk") <| w_NameL rfl (by walk_at "lk") <| w_lt_int <| w_truthy_bool ⟨fun _ => ?_, fun hf => ?_⟩
    rotate_left
    · rw [decide_eq_false_iff_not] at hf; omega
    refine w_execs_cons <| w_Assign_Name <| w_Subscript <| w_NameL rfl (by walk_at "lk") <| w_NameL rfl (by walk_at "lk") <| w_subTail_ints (ns := cs) (by walk_at "in") (by omega) (by omega) (by rw [Int.toNat_natCast]; exact hcat i hiN) fun t4 => w_storeL rfl <| w_execs_nil ?_
    have hraise : at0 cs i < 0 ∨ at0 gs i < 0 → ¬ GoodF N (at0 cs) (at0 gs) := fun h q => by have := q.pos i hiN; omega
    refine w_execs_cons <| w_If <| w_isTrue_BoolOp <| w_or_cons <| w_isTrue_Compare1 <| w_NameL rfl (by walk_at "lk") <| w_Const_int fun t5 => w_lt_int <| w_truthy_bool ⟨fun hf => ⟨fun _ => ?_, fun hf => (nomatch hf)⟩, fun hf => ?_⟩
    · rw [decide_eq_true_eq] at hf
      refine w_execs_cons <| w_RaiseNX S hh rfl <| w_items_cons <| w_Const_str fun t6 => w_items_nil ⟨by simp, fun ea => ⟨hraise (.inl hf), ea, _, rfl, .inl (sub_raise (.skip (.skip (.skip (.skip (sub_GLout (Sub.skipL .refl _)))))))⟩⟩
    rw [decide_eq_false_iff_not] at hf
    refine w_or_cons <| w_isTrue_Compare1 <| w_NameL rfl (by walk_at "lk") <| w_Const_int fun t6 => w_lt_int <| w_truthy_bool ⟨fun hf2 => ⟨fun _ => ?_, fun hf2 => (nomatch hf2)⟩, fun hf2 => w_or_nil ⟨fun hf => (nomatch hf), fun _ => w_execs_nil ?_⟩⟩
    · rw [decide_eq_true_eq] at hf2
      refine w_execs_cons <| w_RaiseNX S hh rfl <| w_items_cons <| w_Const_str fun t6 => w_items_nil ⟨by simp, fun ea => ⟨hraise (.inr hf2), ea, _, rfl, .inl (sub_raise (.skip (.skip (.skip (.skip (sub_GLout (Sub.skipL .refl _)))))))⟩⟩
    rw [decide_eq_false_iff_not] at hf2
    refine w_execs_cons <| w_Assign_Swap (names := ["sumin", "sumout", "maxin"]) rfl <| w_Tuple_ <| w_items_cons <| w_BinOp <| w_NameL rfl (by walk_at "lk") <| w_NameL rfl (by walk_at "lk") <| w_add_int fun t7 => w_items_cons <| w_BinOp <| w_NameL rfl (by walk_at "lk") <| w_NameL rfl (by walk_at "lk") <| w_add_int fun t8 => w_items_cons <| w_Call_Name <| S.bi rfl rfl <| w_callWith_b <| w_items_cons <| w_NameL rfl (by walk_at "lk") <| w_items_cons <| w_NameL rfl (by walk_at "lk") <| w_items_nil <| w_max2 hh fun t9 => w_items_nil <| w_newSeq (fun tt => ?_) (by simp [sizeLine_eq])
    refine w_unpackItems hh (.tail _ (.head _)) rfl <| w_ord_cons <| w_bindName <| w_storeL rfl <| w_ord_cons <| w_bindName <| w_storeL rfl <| w_ord_cons <| w_bindName <| w_storeL rfl <| w_ord_nil ?_
    refine W.sub (.pick1 .head (.skip .refl)) ?_
    have hpos' : ∀ v, v < i + 1 → 0 ≤ at0 cs v ∧ 0 ≤ at0 gs v ∧ at0 cs v ≤ max mx (at0 cs i) := fun v hv => by
      by_cases e : v = i
      · subst e; omega
      · have := hpos v (by omega); omega
    have bdi := bd i hiN
    refine w_execs_cons <| w_If <| w_isTrue_Compare1 <| w_NameL rfl (by walk_at "lk") <| w_Const_int fun t10 => w_gt_int <| w_truthy_bool ⟨fun hgt => ?_, fun hgt => ?_⟩
    · rw [decide_eq_true_eq] at hgt
      refine w_execs_cons <| w_Expr <| w_MethodCall <| w_NameL rfl (by walk_at "lk") <| w_appendM (vs := ps.map (·.1)) (by walk_at "in") <| w_callWith_b <| w_items_cons <| w_Tuple_ <| w_items_cons <| w_BinOp <| w_UnaryOp <| w_Const_int fun u1 => w_neg_int fun u2 => w_NameL rfl (by walk_at "lk") <| w_mul_int (IntMulOk.of_left (by decide)) fun u3 => ?_
      refine w_items_cons <| w_BinOp <| w_UnaryOp <| w_Const_int fun u4 => w_neg_int fun u5 => w_NameL rfl (by walk_at "lk") <| w_mul_int (IntMulOk.of_left (by decide)) fun u6 => w_items_cons <| w_NameL rfl (by walk_at "lk") <| w_items_nil <| w_newTup (.cons _ _ (.cons _ _ (.cons _ _ .nil))) (by simp) fun b => ?_
      refine w_items_nil <| w_append (vs := ps.map (·.1)) (.tail (.tail .head)) (by simp; omega) ⟨trivial, w_execs_nil <| w_execs_nil ?_⟩
      have hH : Holds (ps ++ [((.ref b : Value), kS (at0 cs) (at0 gs) i)]) (fun v => v < i + 1 ∧ 0 < at0 cs v) (kS (at0 cs) (at0 gs)) := by
        refine (Holds.cons (v := i) hHp rfl (fun h => by omega) kS_inj fun u => ?_).perm (List.perm_append_singleton _ _)
        by_cases e : u = i
        · subst e; simp; omega
        · simp [e]; omega
      have hZ : Holds qs (fun v => v < i + 1 ∧ ¬ 0 < at0 cs v ∧ 0 < at0 gs v) (kZ (at0 gs)) := hHq.iff fun u => by
        by_cases e : u = i
        · subst e; simp; omega
        · constructor <;> rintro ⟨h1, h2⟩ <;> exact ⟨by omega, h2⟩
      dsimp only [sumN]
      exact ⟨_, ps ++ [((.ref b : Value), kS (at0 cs) (at0 gs) i)], qs, (b, tupP (kS (at0 cs) (at0 gs) i)) :: tp, max mx (at0 cs i), .pick1 .head (.pick (.tail .head) (fun o h => by simpa using h) (.pick1 (.tail .head) (.pick1 (.tail .head) (.pick1 (.tail .head) (sub_GL (T := tp ++ (frL outer ++ tail))))))),
        ⟨by walk_at "lk", by walk_at "lk", ⟨_, by walk_at "lk"⟩, ⟨_, by walk_at "lk"⟩, ⟨_, by walk_at "lk"⟩, by walk_at "lk", by walk_at "lk", by walk_at "lk", ⟨_, by walk_at "lk"⟩, ⟨_, by walk_at "lk"⟩, ⟨_, by walk_at "lk"⟩⟩,
        told_app hps, (fun x hx => (hqs x hx).more), hH, hZ, hpos', by omega, by omega, by simp; omega, by omega⟩
    · rw [decide_eq_false_iff_not] at hgt
      refine w_execs_cons <| w_If <| w_isTrue_Compare1 <| w_NameL rfl (by walk_at "lk") <| w_Const_int fun t11 => w_gt_int <| w_truthy_bool ⟨fun hgo => ?_, fun hgo => ?_⟩
      · rw [decide_eq_true_eq] at hgo
        refine w_execs_cons <| w_Expr <| w_MethodCall <| w_NameL rfl (by walk_at "lk") <| w_appendM (vs := qs.map (·.1)) (by walk_at "in") <| w_callWith_b <| w_items_cons <| w_Tuple_ <| w_items_cons <| w_BinOp <| w_UnaryOp <| w_Const_int fun u1 => w_neg_int fun u2 => w_NameL rfl (by walk_at "lk") <| w_mul_int (IntMulOk.of_left (by decide)) fun u3 => ?_
        refine w_items_cons <| w_NameL rfl (by walk_at "lk") <| w_items_nil <| w_newTup (.cons _ _ (.cons _ _ .nil)) (by simp) fun b => ?_
        refine w_items_nil <| w_append (vs := qs.map (·.1)) (.tail (.tail (.tail .head))) (by simp; omega) ⟨trivial, w_execs_nil <| w_execs_nil <| w_execs_nil ?_⟩
        have hH : Holds ps (fun v => v < i + 1 ∧ 0 < at0 cs v) (kS (at0 cs) (at0 gs)) := hHp.iff fun u => by
          by_cases e : u = i
          · subst e; simp; omega
          · constructor <;> rintro ⟨h1, h2⟩ <;> exact ⟨by omega, h2⟩
        have hZ : Holds (qs ++ [((.ref b : Value), kZ (at0 gs) i)]) (fun v => v < i + 1 ∧ ¬ 0 < at0 cs v ∧ 0 < at0 gs v) (kZ (at0 gs)) := by
          refine (Holds.cons (v := i) hHq rfl (fun h => by omega) kZ_inj fun u => ?_).perm (List.perm_append_singleton _ _)
          by_cases e : u = i
          · subst e; simp; omega
          · simp [e]; omega
        dsimp only [sumN]
        exact ⟨_, ps, qs ++ [((.ref b : Value), kZ (at0 gs) i)], (b, tupP (kZ (at0 gs) i)) :: tp, max mx (at0 cs i), .pick1 .head (.pick1 (.tail .head) (.pick (.tail .head) (fun o h => by simpa using h) (.pick1 (.tail .head) (.pick1 (.tail .head) (sub_GL (T := tp ++ (frL outer ++ tail))))))),
          ⟨by walk_at "lk", by walk_at "lk", ⟨_, by walk_at "lk"⟩, ⟨_, by walk_at "lk"⟩, ⟨_, by walk_at "lk"⟩, by walk_at "lk", by walk_at "lk", by walk_at "lk", ⟨_, by walk_at "lk"⟩, ⟨_, by walk_at "lk"⟩, ⟨_, by walk_at "lk"⟩⟩,
          (fun x hx => (hps x hx).more), told_app hqs, hH, hZ, hpos', by omega, by omega, by omega, by simp; omega⟩
      · rw [decide_eq_false_iff_not] at hgo
        refine w_execs_nil <| w_execs_nil <| w_execs_nil ?_
        have hH : Holds ps (fun v => v < i + 1 ∧ 0 < at0 cs v) (kS (at0 cs) (at0 gs)) := hHp.iff fun u => by
          by_cases e : u = i
          · subst e; simp; omega
          · constructor <;> rintro ⟨h1, h2⟩ <;> exact ⟨by omega, h2⟩
        have hZ : Holds qs (fun v => v < i + 1 ∧ ¬ 0 < at0 cs v ∧ 0 < at0 gs v) (kZ (at0 gs)) := hHq.iff fun u => by
          by_cases e : u = i
          · subst e; simp; omega
          · constructor <;> rintro ⟨h1, h2⟩ <;> exact ⟨by omega, h2⟩
        dsimp only [sumN]
        exact ⟨_, ps, qs, tp, max mx (at0 cs i), .refl,
          ⟨by walk_at "lk", by walk_at "lk", ⟨_, by walk_at "lk"⟩, ⟨_, by walk_at "lk"⟩, ⟨_, by walk_at "lk"⟩, by walk_at "lk", by walk_at "lk", by walk_at "lk", ⟨_, by walk_at "lk"⟩, ⟨_, by walk_at "lk"⟩, ⟨_, by walk_at "lk"⟩⟩,
          hps, hqs, hH, hZ, hpos', by omega, by omega, by omega, by omega⟩
  · rintro l₂ ⟨vs, ps, qs, tp, mx, hS, V, hps, hqs, hHp, hHq, hpos, hm0, hm1, hl1, hl2⟩
    have e0 : ((N : Int) - 0).toNat = N := by omega
    rw [e0] at V hHp hHq hpos hl1 hl2
    refine W.sub (Sub.trans (.pick1 .head (.pick1 .head (.pick1 .head (.skip (.skip .refl))))) hS) ?_
    exact hv_rest (A := A.deeper _) S (o := _) rfl rfl rfl (by show A.depth + 1 + 2 < _; omega) hh (by show A.units + 3 < _; omega) (hP _ (by rfl)) hN1 hN e1 e2 e3 V hps hqs hHp hHq hpos hm0 hm1 hl1 hl2 fun G E vs l' hE hg hS => ⟨_, Sub.trans (.skip .refl) hS, by rw [← hg]; exact good G E hE⟩
end
end Mine
end
/-! Y1 -/
section
open PySem PySem.W PySem.Calls PyProof.Rows
set_option maxRecDepth 100000
set_option linter.all false
namespace Mine
section
variable {α β : Type} {C : Cx} {A : Around} {l : Led} {e : Value → Led → Prop} {env : Env}
theorem CW.post {c : Code} {R : Result → Led → Prop} (h : CW C A l c (fun x l' => ∃ l₁, Sub l₁ l' ∧ R x l₁)) : CW C A l c R := fun r s hs => codeAny_mono (h r s hs) fun x s' ⟨l', ⟨l₁, S, hk⟩, hs'⟩ => ⟨l₁, hk, hs'.sub (S.app r)⟩
/-- the state of the drawer -/
def sP (o : Obj) : Prop := ∃ x, 0 ≤ x ∧ x < 2147483647 ∧ intsP [x] o
theorem Pick.perm {x : Ent} {l r : Led} (h : Pick x l r) : (x :: r).Perm l := by
  induction h with
  | head => exact .refl _
  | tail _ ih => exact (List.Perm.swap _ _ _).trans (List.Perm.cons _ ih)
theorem cw_exact {a : Addr} {Pr : Obj → Prop} {c : Code} {R : Result → Led → Prop} (h : ∀ o, Pr o → CW C A ((a, (· = o)) :: l) c R) : CW C A ((a, Pr) :: l) c R := fun r s hs => by
  obtain ⟨o, ho, hP⟩ := hs.get (.head _)
  refine h o hP r s ⟨⟨hs.hp.base, fun q hq => ?_, hs.hp.nd, hs.hp.gm⟩, hs.bare, hs.os⟩
  rcases List.mem_cons.mp hq with rfl | hq
  · exact ⟨⟨o, ho, rfl⟩, (hs.hp.own _ (.head _)).2⟩
  · exact hs.hp.own q (.tail _ hq)
theorem cw_next (S : Ok C) {R : Result → Led → Prop} {b : Addr} {m : Int} {t : Tok} {r : Led} (hA : A.depth < recursionLimit) (hp : Pick (b, sP) l r) (hm0 : 0 < m) (hm : m < 1000) (h : ∀ y t', 0 ≤ y → y < m → R (.ok (.ret (.int y t'))) l) :
    CW C A l (.call (.ref 897) ⟨[.ref b, .int m t], []⟩) R := by
  refine CW.sub (l' := (b, sP) :: r) (Sub.perm hp.perm) (cw_exact fun o ⟨x, h0, h1, hI⟩ => CW.sub (l' := (b, intsP [x]) :: r) (.pick .head (fun o' e => e ▸ hI) .refl) (CW.post ?_))
  refine spec_next S hA h0 h1 hm0 hm .head fun t' => ⟨l, Sub.trans (Sub.perm hp.perm.symm) (.pick .head (fun o' ho' => ⟨_, Int.emod_nonneg _ (by decide), Int.emod_lt_of_pos _ (by decide), ho'⟩) .refl), h _ t' (Int.emod_nonneg _ (by omega)) (Int.emod_lt_of_pos _ hm0)⟩
/-- _law_next(s, m), s a cell -/
theorem w_nextCall (S : Ok C) {p1 p2 pos : Pos} {m : Expr} {b cS : Addr} {k : Value → Led → Prop} (hA : A.depth < recursionLimit) (hc : env.cells.lookup ("s" : Str) = some cS) (hm : (cS, cellP (some (.ref b))) ∈ l)
    (h : W C A l (eval m env) (fun v l₁ => ∃ mi t r, v = .int mi t ∧ l₁ = l ∧ Pick (b, sP) l r ∧ 0 < mi ∧ mi < 1000 ∧ ∀ y t', 0 ≤ y → y < mi → k (.int y t') l) noE)
    (hg : env.globals = mainGlobals := by rfl) (hk : env.scope.kind = .function := by rfl) (hx : env.kindOf ("_law_next" : Str) = some .globalImplicit := by rfl) (hs : env.kindOf ("s" : Str) = some .cell := by rfl)
    (he1 : starEach [.Name "s" p2, m] env = (false, eval (.Name "s" p2) env) :: starEach [m] env := by rfl) (he2 : starEach [m] env = (false, eval m env) :: starEach [] env := by rfl) :
    W C A l (eval (.Call (.Name "_law_next" p1) [.Name "s" p2, m] [] pos) env) k e := by
  refine w_Call_Name <| S.glob (v := .ref 897) rfl ?_ hg hk hx
  refine w_callWith_fn (S.k 897 _ rfl (by decide) (by decide)) rfl ?_ he1
  refine w_items_cons (w_NameC hc hm (w_items_cons (W.any <| h.mono (fun v l₁ ⟨mi, t, r, e1, e2, hp, h0, h1, hk'⟩ => ?_) fun _ _ z => z) he2) hk hs) he1
  subst e1 e2
  exact w_items_nil <| cw_next S hA hp h0 h1 hk'
/-- [elt for x in range(n)], the element an int of P; what elt leaves is as before -/
theorem w_CompRng {elt iter : Expr} {x : Str} {px : Pos} {scope : Scope} {cl : List (Str × Addr)} {pos : Pos} {k : Value → Led → Prop} (n : Nat) (Pn : Int → Prop) (hh : A.handled = none) (hclos : closureFor scope env = pure cl) (hz : n ≤ 1000)
    (h : W C A l (eval iter env) (fun v l₁ => ∃ a fr l₂, v = .ref a ∧ l₁ = fr :: l₂ ∧ (a, rngP 0 n) ∈ l₁ ∧
      (∀ cL D vs ys, W C A ((cL, nsP vs) :: (D, freshP ys) :: l₁) (eval elt (compEnvC scope cl cL env)) (fun v l' => ∃ y t, v = .int y t ∧ Pn y ∧ l' = (cL, nsP vs) :: (D, freshP ys) :: l₁) noE) ∧
      (∀ D ns, ns.length = n → (∀ y ∈ ns, Pn y) → k (.ref D) (fr :: (D, intsP ns) :: l₂))) e)
    (hx : scope.names.lookup x = some .local := by rfl) (hcell : ∀ y ∈ scope.names, y.2 ≠ .cell := by decide) (hkind : scope.kind = .function := by rfl) (hnames : ∀ y ∈ scope.names, y.2 = .local → scope.names.lookup y.1 = some .local := by decide)
    (hs : ∀ x, foldedSetIterable iter env x = pure x := by intro _; rfl) :
    W C A l (eval (.ListComp elt [⟨.Name x px, iter, [], 0⟩] scope pos) env) k e := by
  refine w_ListComp (n := n) (val := fun (i : Nat) v => ∃ t, v = .int (0 + (i : Int)) t) (fun a l₂ => True)
    (fun a D cL i l' => ∃ fr l₂ vs ys ns, l' = (cL, nsP vs) :: (D, freshP ys) :: fr :: l₂ ∧ IntsAre ys ns ∧ ns.length = i ∧ (∀ y ∈ ns, Pn y) ∧ i ≤ n ∧
      (∀ cL D vs ys, W C A ((cL, nsP vs) :: (D, freshP ys) :: fr :: l₂) (eval elt (compEnvC scope cl cL env)) (fun v l' => ∃ y t, v = .int y t ∧ Pn y ∧ l' = (cL, nsP vs) :: (D, freshP ys) :: fr :: l₂) noE) ∧
      (∀ D ns, ns.length = n → (∀ y ∈ ns, Pn y) → k (.ref D) (fr :: (D, intsP ns) :: l₂))) hclos ?_ ?_ ?_ hcell hkind hnames hs
  · refine h.mono (fun v l₁ ⟨a, fr, l₂, e1, e2, hm, he, hk⟩ => ?_) fun _ _ z => z
    subst e1 e2
    have hg := gives_rng (C := C) (A := A) hh hm (by decide) (by omega) (by omega)
    refine ⟨a, by simpa using hg, fun _ _ _ _ _ => trivial, fun D cL => ⟨fr, l₂, [], [], [], rfl, .nil, rfl, (fun _ hy => nomatch hy), Nat.zero_le _, he, hk⟩⟩
  · rintro a D cL i v l' hi ⟨fr, l₂, vs, ys, ns, rfl, hys, hnl, hP, _, he, hk⟩ ⟨t, rfl⟩
    have hyl := hys.length
    refine w_assign_Name <| w_storeL rfl (w_ctests0 ⟨fun _ => ?_, fun q => (nomatch q)⟩) (lookup_relabel_local hx) (by simp [compEnvC, relabel, hkind])
    refine (he cL D _ ys).mono (fun v l' ⟨y, t', e1, hy, e2⟩ => ?_) fun _ _ z => z
    subst e1 e2
    refine w_append (vs := ys) (.tail .head) (by omega) ⟨fr, l₂, _, _, ns ++ [y], rfl, hys.append (.cons _ _ .nil), by simp [hnl], fun z hz => ?_, hi, he, hk⟩
    rcases List.mem_append.mp hz with hz | hz
    · exact hP z hz
    · rw [List.mem_singleton.mp hz]; exact hy
  · rintro a D cL l' ⟨fr, l₂, vs, ys, ns, rfl, hys, hnl, hP, _, he, hk⟩
    exact ⟨vs, _, .pick1 .head (.pick1 (.tail .head) (.pick .head (fun o ho => by obtain ⟨n, rfl⟩ := ho; exact ⟨ys, hys, rfl, n, rfl⟩) .refl)), hk D ns hnl hP⟩
/-- a list of N ints, none far from 0 -/
def BL (N : Nat) (b : Int) (ns : List Int) : Prop := ns.length = N ∧ ∀ x ∈ ns, -b ≤ x ∧ x ≤ b
theorem BL.mono {N : Nat} {b b' : Int} {ns : List Int} (h : BL N b ns) (hb : b ≤ b') : BL N b' ns := ⟨h.1, fun x hx => by have := h.2 x hx; omega⟩
theorem BL.set {N : Nat} {b b' : Int} {ns : List Int} (h : BL N b ns) (hb : b ≤ b') {i : Nat} {x : Int} (hx : -b' ≤ x ∧ x ≤ b') : BL N b' (ns.set i x) := ⟨by simp [h.1], fun y hy => by
  rcases List.mem_or_eq_of_mem_set hy with hy | rfl
  · have := h.2 y hy; omega
  · exact hx⟩
theorem BL.get {N : Nat} {b : Int} {ns : List Int} (h : BL N b ns) {i : Int} (h0 : 0 ≤ i) (hi : i < N) : ∃ n, ns[i.toNat]? = some n ∧ -b ≤ n ∧ n ≤ b := by
  have hl : i.toNat < ns.length := by rw [h.1]; omega
  exact ⟨ns[i.toNat], by simp [hl], h.2 _ (List.getElem_mem hl)⟩
theorem BL.zeros {n : Int} {N : Nat} (h : n.toNat = N) : BL N 0 (List.replicate n.toNat 0) := ⟨by simp [h], fun x hx => by rw [(List.mem_replicate.mp hx).2]; omega⟩
theorem ints_replicate (n : Nat) (t : Tok) : IntsAre (List.replicate n (.int 0 t)) (List.replicate n 0) := by
  induction n with
  | zero => exact .nil
  | succ n ih => exact .cons _ _ ih
theorem w_assign_Sub {o i : Expr} {pos : Pos} {v : Value} {k : Unit → Led → Prop} (h : W C A l (eval o env) (fun ov l₁ => W C A l₁ (eval i env) (fun iv l₂ => W C A l₂ (setItem ov iv v) k e) e) e) : W C A l (assign (.Subscript o i pos) env v) k e := by
  rw [assign_Subscript]
  refine w_bind (w_holding (h.mono (fun ov l₁ h₁ => w_bind (w_holding (h₁.mono (fun iv l₂ h₂ => w_bind (w_standAt (w_bind (w_holding (h₂.mono (fun _ l₃ h₃ => ?_) fun _ _ z => z))))) fun _ _ z => z))) fun _ _ z => z))
  exact fun r s hs => wpAny_release ⟨l₃, h₃, hs⟩
theorem w_AugAssign_Sub {o i value : Expr} {tpos pos : Pos} {op : Operator} {k : Flow → Led → Prop}
    (h : W C A l (eval o env) (fun ov l₁ => W C A l₁ (eval i env) (fun iv l₂ => W C A l₂ (getItem ov iv) (fun old l₃ => W C A l₃ (eval value env) (fun v l₄ => W C A l₄ (inplaceOp op old v) (fun new l₅ => W C A l₅ (setItem ov iv new) (fun _ l₆ => k .next l₆) e) e) e) e) e) e)
    (hi : ∀ ov iv new, augStore i ov iv new = (do holding [new, ov, iv] (setItem ov iv new); release [new, ov, iv] []; pure .next) := by intros; rfl) : W C A l (exec (.AugAssign (.Subscript o i tpos) op value pos) env) k e := fun r s hs =>
  wpAny_AugAssign_SubscriptAny (h.step hs fun ov l₁ s₁ h₁ hs₁ => h₁.step hs₁ fun iv l₂ s₂ h₂ hs₂ => h₂.step hs₂ fun old l₃ s₃ h₃ hs₃ => h₃.step hs₃ fun v l₄ s₄ h₄ hs₄ => h₄.step hs₄ fun new l₅ s₅ h₅ hs₅ => h₅ r s₅ hs₅) hi
end
end Mine
end
/-! Z1 -/
section
open PySem PySem.W PySem.Calls PyProof.Rows
set_option maxRecDepth 100000
set_option linter.all false
namespace Mine
local macro_rules | `(tactic| walk_at "lk") => `(tactic| first | with_reducible exact look_eq | (rw [lookup_put, if_neg (by decide)]; walk_at "lk") | assumption | exact rfl)
local macro_rules | `(tactic| walk_at "in") => `(tactic| first | exact List.Mem.head _ | (refine List.Mem.tail _ ?_; walk_at "in"))
local macro_rules | `(tactic| walk_at "pk") => `(tactic| first | exact Pick.head | (apply Pick.tail; walk_at "pk"))
local macro_rules | `(tactic| walk_at "rp") => `(tactic| first | exact Rep.head | (apply Rep.tail; walk_at "rp"))
local macro_rules | `(tactic| walk_at "sub") => `(tactic| first | exact Sub.refl | (refine Sub.pick1 (by walk_at "pk") ?_; walk_at "sub") | exact Sub.nil | (refine Sub.skip ?_; walk_at "sub"))
section
variable {α β : Type} {C : Cx} {A : Around} {l : Led} {e : Value → Led → Prop} {env : Env}
abbrev LawL (L sb ca ga : Addr) (vs : Vars) (cs gs : List Int) (rest : Led) : Led := (L, nsP vs) :: (L + 1, cellP (some (.ref sb))) :: (sb, sP) :: (ca, intsP cs) :: (ga, intsP gs) :: rest
/-- the two rows are made -/
def Rows (L sb : Addr) (N : Nat) (rest : Led) (f : Flow) (l' : Led) : Prop :=
  f = .next ∧ ∃ vs ca ga cs gs, Sub (LawL L sb ca ga vs cs gs rest) l' ∧ vs.lookup ("comes" : Str) = some (.ref ca) ∧ vs.lookup ("goes" : Str) = some (.ref ga) ∧ BL N 100 cs ∧ BL N 100 gs
set_option maxHeartbeats 16000000
theorem law_A (S : Ok C) {o : Obj} {fd : FuncData} {body bA bB bC rest2 : List Stmt} {t0 t1 : Expr} {p0 p1 : Pos} (hlk : List.lookup 912 (KK C.w.params) = some o) (hd : o.data = .func fd) (hb : fd.body = .stmts body) (hw : body.drop 3 = .If t0 bA [.If t1 bB bC p1] p0 :: rest2)
    {L sb : Addr} {rest : Led} {N : Nat} (hA : A.depth < recursionLimit) (hh : A.handled = none) (hN1 : 1 ≤ N) (hN : N ≤ 6) {vs : Vars} {ca ga : Addr} {tm : Tok} (Vm : vs.lookup ("many" : Str) = some (.int N tm)) :
    W C A (LawL L sb ca ga vs (List.replicate N 0) (List.replicate N 0) rest) (execs bA (callEnvC fd L 912)) (Rows L sb N rest) noE := by
  obtain rfl := Option.some.inj (hlk.symm.trans rfl)
  obtain rfl := Data.func.inj hd
  obtain rfl := FuncBody.stmts.inj hb
  obtain ⟨rfl, rfl, h2, -⟩ := Stmt.If.inj (List.cons.inj hw).1
  clear hlk
  refine w_execs_cons <| w_Assign_Swap (names := ["comes", "goes"]) rfl <| w_Tuple_ <| w_items_cons <| w_CompRng N (fun y => 0 ≤ y ∧ y < 6) hh rfl (by omega) (w_Call_Name <| S.bi rfl rfl <| w_callWith_t <| w_items_cons <| w_NameL rfl Vm <| w_items_nil <| w_range1 fun rg => ⟨rg, _, _, rfl, rfl, .tail _ (.head _), fun cL D vs2 ys => w_nextCall S hA rfl (by walk_at "in") (w_Const_int fun t => ⟨6, t, _, rfl, rfl, by walk_at "pk", by decide, by decide, fun y t' h0 h1 => ⟨y, t', rfl, ⟨h0, h1⟩, rfl⟩⟩), fun D1 ns1 hn1 hP1 => ?_⟩)
  refine w_items_cons <| w_CompRng N (fun y => 0 ≤ y ∧ y < 6) hh rfl (by omega) (w_Call_Name <| S.bi rfl rfl <| w_callWith_t <| w_items_cons <| w_NameL rfl Vm <| w_items_nil <| w_range1 fun rg => ⟨rg, _, _, rfl, rfl, .tail _ (.head _), fun cL D vs2 ys => w_nextCall S hA rfl (by walk_at "in") (w_Const_int fun t => ⟨6, t, _, rfl, rfl, by walk_at "pk", by decide, by decide, fun y t' h0 h1 => ⟨y, t', rfl, ⟨h0, h1⟩, rfl⟩⟩), fun D2 ns2 hn2 hP2 => ?_⟩)
  refine w_items_nil <| w_newSeq (fun tt => ?_) (by simp [sizeLine_eq])
  refine w_unpackItems hh (.tail _ (.head _)) rfl <| w_ord_cons <| w_bindName <| w_storeL rfl <| w_ord_cons <| w_bindName <| w_storeL rfl <| w_ord_nil <| w_execs_nil ⟨rfl, _, D1, D2, ns1, ns2, .pick1 .head (by walk_at "sub"), by walk_at "lk", by walk_at "lk", ⟨hn1, fun x hx => by have := hP1 x hx; omega⟩, ⟨hn2, fun x hx => by have := hP2 x hx; omega⟩⟩
end
end Mine
end
/-! Z2 -/
section
open PySem PySem.W PySem.Calls PyProof.Rows
set_option maxRecDepth 100000
set_option linter.all false
namespace Mine
local macro_rules | `(tactic| walk_at "lk") => `(tactic| first | with_reducible exact look_eq | (rw [lookup_put, if_neg (by decide)]; walk_at "lk") | assumption | exact rfl)
local macro_rules | `(tactic| walk_at "in") => `(tactic| first | exact List.Mem.head _ | (refine List.Mem.tail _ ?_; walk_at "in"))
local macro_rules | `(tactic| walk_at "pk") => `(tactic| first | exact Pick.head | (apply Pick.tail; walk_at "pk"))
local macro_rules | `(tactic| walk_at "rp") => `(tactic| first | exact Rep.head | (apply Rep.tail; walk_at "rp"))
local macro_rules | `(tactic| walk_at "sub") => `(tactic| first | exact Sub.refl | (refine Sub.pick1 (by walk_at "pk") ?_; walk_at "sub") | exact Sub.nil | (refine Sub.skip ?_; walk_at "sub"))
section
variable {α β : Type} {C : Cx} {A : Around} {l : Led} {e : Value → Led → Prop} {env : Env}
theorem sum_pos : ∀ {ns : List Int}, (∀ x ∈ ns, 0 ≤ x) → 0 ≤ ns.sum
  | [], _ => by simp
  | n :: ns, h => by
    have h1 := h n (.head _)
    have h2 := sum_pos (ns := ns) fun x hx => h x (.tail _ hx)
    rw [List.sum_cons]; omega
theorem Ints.fresh {a : Addr} {vs : List Value} {ns : List Int} (hm : (a, freshP vs) ∈ l) (hi : IntsAre vs ns) : Ints C l a ns := fun s r hs => by
  obtain ⟨o, ho, n, rfl⟩ := hs.get hm
  exact ⟨vs, hi, _, ho, rfl, n, rfl⟩
set_option maxHeartbeats 16000000
theorem law_B (S : Ok C) {o : Obj} {fd : FuncData} {body bA bB bC rest2 : List Stmt} {t0 t1 : Expr} {p0 p1 : Pos} (hlk : List.lookup 912 (KK C.w.params) = some o) (hd : o.data = .func fd) (hb : fd.body = .stmts body) (hw : body.drop 3 = .If t0 bA [.If t1 bB bC p1] p0 :: rest2)
    {L sb : Addr} {rest : Led} {N : Nat} (hA : A.depth < recursionLimit) (hh : A.handled = none) (hN1 : 2 < N) (hN : N ≤ 6) {vs : Vars} {ca ga : Addr} {tm : Tok} (Vm : vs.lookup ("many" : Str) = some (.int N tm)) :
    W C A (LawL L sb ca ga vs (List.replicate N 0) (List.replicate N 0) rest) (execs bB (callEnvC fd L 912)) (Rows L sb N rest) noE := by
  obtain rfl := Option.some.inj (hlk.symm.trans rfl)
  obtain rfl := Data.func.inj hd
  obtain rfl := FuncBody.stmts.inj hb
  obtain ⟨rfl, rfl, h2, -⟩ := Stmt.If.inj (List.cons.inj hw).1
  obtain ⟨rfl, rfl, rfl, -⟩ := Stmt.If.inj (List.cons.inj h2).1
  clear hlk
  have eN2 : ((N : Int) - 2) = ((N - 2 : Nat) : Int) := by omega
  refine w_execs_cons <| w_Assign_Name <| w_BinOp <| w_List_ <| w_items_cons <| w_BinOp <| w_NameL rfl Vm <| w_Const_int fun u1 => w_sub_int fun u2 => w_items_cons <| w_BinOp <| w_NameL rfl Vm <| w_Const_int fun u3 => w_sub_int fun u4 => w_items_nil <| w_newListF (fun gl => ?_) (by simp [sizeLine_eq])
  refine w_CompRng (N - 2) (fun y => 0 ≤ y ∧ y < 2) hh rfl (by omega) (w_Call_Name <| S.bi rfl rfl <| w_callWith_t <| w_items_cons <| w_BinOp <| w_NameL rfl Vm <| w_Const_int fun u5 => w_sub_int fun u6 => w_items_nil <| w_range1 fun rg => ⟨rg, _, _, rfl, rfl, (by rw [← eN2]; exact .tail _ (.head _)), fun cL D vs2 ys => w_nextCall S hA rfl (by walk_at "in") (w_Const_int fun t => ⟨2, t, _, rfl, rfl, by walk_at "pk", by decide, by decide, fun y t' h0 h1 => ⟨y, t', rfl, ⟨h0, h1⟩, rfl⟩⟩), fun D1 ns1 hn1 hP1 => ?_⟩)
  refine w_add_ints (xs := [(N : Int) - 1, (N : Int) - 1]) (ys := ns1) (Ints.fresh (by walk_at "in") (.cons _ _ (.cons _ _ .nil))) (Ints.mem (by walk_at "in")) (by simp; omega) fun g2 => w_storeL rfl ?_
  have hgs : BL N 6 ([(N : Int) - 1, (N : Int) - 1] ++ ns1) := ⟨by simp; omega, fun x hx => by
    rcases List.mem_append.mp hx with hx | hx
    · simp at hx; omega
    · have := hP1 x hx; omega⟩
  have hsum : 0 ≤ ([(N : Int) - 1, (N : Int) - 1] ++ ns1).sum := sum_pos fun x hx => by
    rcases List.mem_append.mp hx with hx | hx
    · simp at hx; omega
    · exact (hP1 x hx).1
  generalize ([(N : Int) - 1, (N : Int) - 1] ++ ns1) = gs at hgs hsum ⊢
  refine w_execs_cons <| w_Assign_Swap (names := ["comes", "left"]) rfl <| w_Tuple_ <| w_items_cons <| w_BinOp <| w_List_ <| w_items_cons <| w_Const_int fun u7 => w_items_nil <| w_newListF (fun z1 => ?_) (by simp [sizeLine_eq])
  refine w_NameL rfl (by walk_at "lk") <| w_mul_list1 (by walk_at "in") (by omega) (by omega) fun c2 => w_items_cons <| w_Call_Name <| S.bi rfl rfl <| w_callWith_b <| w_items_cons <| w_NameL rfl (by walk_at "lk") <| w_items_nil <| w_sum hh (ns := gs) (Ints.mem (by walk_at "in")) fun u8 => w_items_nil <| w_newSeq (fun tt => ?_) (by simp [sizeLine_eq])
  refine w_unpackItems hh (.tail _ (.head _)) rfl <| w_ord_cons <| w_bindName <| w_storeL rfl <| w_ord_cons <| w_bindName <| w_storeL rfl <| w_ord_nil ?_
  refine W.sub (l' := LawL L sb c2 g2 _ (List.replicate N 0) gs rest) (.pick1 .head (.pick1 (by walk_at "pk") (.pick1 (by walk_at "pk") (.pick (by walk_at "pk") (fun o ho => ⟨_, by simpa using ints_replicate N _, ho⟩) (by walk_at "sub"))))) ?_
  refine w_execs_cons <| w_For_range hh 0 N (fun i l' => ∃ vs cs x, Sub (LawL L sb c2 g2 vs cs gs rest) l' ∧ vs.lookup ("comes" : Str) = some (.ref c2) ∧ vs.lookup ("goes" : Str) = some (.ref g2) ∧ (∃ t, vs.lookup ("many" : Str) = some (.int N t)) ∧ (∃ t, vs.lookup ("left" : Str) = some (.int x t)) ∧ 0 ≤ x ∧ BL N 100 cs) (by decide) (by omega) (by omega) ?_ ?_ ?_
  · refine w_Call_Name <| S.bi rfl rfl <| w_callWith_t <| w_items_cons <| w_NameL rfl (by walk_at "lk") <| w_items_nil <| w_range1 fun rg => ⟨rg, rfl, .tail _ (.head _), _, _, _, .pick1 .head (.skip .refl), by walk_at "lk", by walk_at "lk", ⟨_, by walk_at "lk"⟩, ⟨_, by walk_at "lk"⟩, hsum, (BL.zeros (n := N) (by simp)).mono (by decide)⟩
  · rintro i tk l₂ hi ⟨vs, cs, x, hS, Vc, Vg, ⟨t2, Vm⟩, ⟨t3, Vl⟩, hx, hcs⟩
    refine W.sub hS <| w_assign_Name <| w_storeL rfl ?_
    refine w_execs_cons <| w_Assign_Sub <| w_Call_Name <| S.bi rfl rfl <| w_callWith_b <| w_items_cons <| w_BinOp <| w_NameL rfl (by walk_at "lk") <| w_Const_int fun u9 => w_sub_int fun u10 => w_items_cons <| w_NameL rfl (by walk_at "lk") <| w_items_nil <| w_min2 hh fun u11 => w_NameL rfl (by walk_at "lk") <| w_NameL rfl look_eq <| w_setItem_ints (by walk_at "rp") (by omega) (by omega) (by rw [hcs.1]; omega) ?_
    have hcs' : BL N 100 (cs.set (0 + (i : Int)).toNat (min ((N : Int) - 1) x)) := hcs.set (by decide) (by omega)
    refine w_execs_cons <| w_Assign_Name <| w_BinOp <| w_NameL rfl (by walk_at "lk") <| w_Subscript <| w_NameL rfl (by walk_at "lk") <| w_NameL rfl look_eq <| w_subTail_ints (n := min ((N : Int) - 1) x) (by walk_at "in") (by omega) (by omega) (by rw [List.getElem?_set_self (by rw [hcs.1]; omega)]) fun u12 => w_sub_int fun u13 => w_storeL rfl <| w_execs_nil ?_
    exact ⟨_, _, _, .refl, by walk_at "lk", by walk_at "lk", ⟨_, by walk_at "lk"⟩, ⟨_, by walk_at "lk"⟩, by omega, hcs'⟩
  · rintro l₂ ⟨vs, cs, x, hS, Vc, Vg, _, _, _, hcs⟩
    exact w_execs_nil ⟨rfl, vs, c2, g2, cs, gs, hS, Vc, Vg, hcs, hgs.mono (by decide)⟩
end
end Mine
end
/-! Z3 -/
section
open PySem PySem.W PySem.Calls PyProof.Rows
set_option maxRecDepth 100000
set_option linter.all false
namespace Mine
local macro_rules | `(tactic| walk_at "lk") => `(tactic| first | with_reducible exact look_eq | (rw [lookup_put, if_neg (by decide)]; walk_at "lk") | assumption | exact rfl)
local macro_rules | `(tactic| walk_at "in") => `(tactic| first | exact List.Mem.head _ | (refine List.Mem.tail _ ?_; walk_at "in"))
local macro_rules | `(tactic| walk_at "pk") => `(tactic| first | exact Pick.head | (apply Pick.tail; walk_at "pk"))
local macro_rules | `(tactic| walk_at "rp") => `(tactic| first | exact Rep.head | (apply Rep.tail; walk_at "rp"))
local macro_rules | `(tactic| walk_at "sub") => `(tactic| first | exact Sub.refl | (refine Sub.pick1 (by walk_at "pk") ?_; walk_at "sub") | exact Sub.nil | (refine Sub.skip ?_; walk_at "sub"))
section
variable {α β : Type} {C : Cx} {A : Around} {l : Led} {e : Value → Led → Prop} {env : Env}
set_option maxHeartbeats 16000000
theorem law_C (S : Ok C) {o : Obj} {fd : FuncData} {body bA bB bC rest2 : List Stmt} {t0 t1 : Expr} {p0 p1 : Pos} (hlk : List.lookup 912 (KK C.w.params) = some o) (hd : o.data = .func fd) (hb : fd.body = .stmts body) (hw : body.drop 3 = .If t0 bA [.If t1 bB bC p1] p0 :: rest2)
    {L sb : Addr} {rest : Led} {N : Nat} (hA : A.depth < recursionLimit) (hh : A.handled = none) (hN1 : 1 ≤ N) (hN : N ≤ 6) {vs : Vars} {ca ga : Addr} {tm : Tok} (Vm : vs.lookup ("many" : Str) = some (.int N tm)) (Vc : vs.lookup ("comes" : Str) = some (.ref ca)) (Vg : vs.lookup ("goes" : Str) = some (.ref ga)) :
    W C A (LawL L sb ca ga vs (List.replicate N 0) (List.replicate N 0) rest) (execs bC (callEnvC fd L 912)) (Rows L sb N rest) noE := by
  obtain rfl := Option.some.inj (hlk.symm.trans rfl)
  obtain rfl := Data.func.inj hd
  obtain rfl := FuncBody.stmts.inj hb
  obtain ⟨rfl, rfl, h2, -⟩ := Stmt.If.inj (List.cons.inj hw).1
  obtain ⟨rfl, rfl, rfl, -⟩ := Stmt.If.inj (List.cons.inj h2).1
  clear hlk
  refine w_execs_cons <| w_Assign_Name <| w_BinOp <| w_Const_int fun u1 => w_nextCall S hA rfl (by walk_at "in") (w_Const_int fun t => ⟨3, t, _, rfl, rfl, by walk_at "pk", by decide, by decide, fun way t' hw0 hw1 => ?_⟩)
  refine w_add_int fun u2 => w_storeL rfl ?_
  refine w_execs_cons <| w_For_range hh 0 N (fun i l' => ∃ vs cs gs, Sub (LawL L sb ca ga vs cs gs rest) l' ∧ vs.lookup ("comes" : Str) = some (.ref ca) ∧ vs.lookup ("goes" : Str) = some (.ref ga) ∧ (∃ t, vs.lookup ("many" : Str) = some (.int N t)) ∧ (∃ t, vs.lookup ("way" : Str) = some (.int (1 + way) t)) ∧ BL N (6 * i) cs ∧ BL N (6 * i) gs) (by decide) (by omega) (by omega) ?_ ?_ ?_
  · refine w_Call_Name <| S.bi rfl rfl <| w_callWith_t <| w_items_cons <| w_NameL rfl (by walk_at "lk") <| w_items_nil <| w_range1 fun rg => ⟨rg, rfl, .tail _ (.head _), _, _, _, .pick1 .head (.skip .refl), by walk_at "lk", by walk_at "lk", ⟨_, by walk_at "lk"⟩, ⟨_, by walk_at "lk"⟩, (BL.zeros (n := N) (by simp)).mono (by omega), (BL.zeros (n := N) (by simp)).mono (by omega)⟩
  · rintro i tk l₂ hi ⟨vs, cs, gs, hS, Vc, Vg, ⟨t2, Vm⟩, ⟨t3, Vw⟩, hcs, hgs⟩
    refine W.sub hS <| w_assign_Name <| w_storeL rfl ?_
    refine w_execs_cons <| w_For_range hh 0 N (fun j l' => ∃ vs cs gs, Sub (LawL L sb ca ga vs cs gs rest) l' ∧ vs.lookup ("comes" : Str) = some (.ref ca) ∧ vs.lookup ("goes" : Str) = some (.ref ga) ∧ (∃ t, vs.lookup ("many" : Str) = some (.int N t)) ∧ (∃ t, vs.lookup ("way" : Str) = some (.int (1 + way) t)) ∧ (∃ t, vs.lookup ("u" : Str) = some (.int i t)) ∧ BL N (6 * i + j) cs ∧ BL N (6 * i + j) gs) (by decide) (by omega) (by omega) ?_ ?_ ?_
    · refine w_Call_Name <| S.bi rfl rfl <| w_callWith_t <| w_items_cons <| w_NameL rfl (by walk_at "lk") <| w_items_nil <| w_range1 fun rg => ⟨rg, rfl, .tail _ (.head _), _, _, _, .pick1 .head (.skip .refl), by walk_at "lk", by walk_at "lk", ⟨_, by walk_at "lk"⟩, ⟨_, by walk_at "lk"⟩, ⟨tk, by rw [Int.zero_add]; exact look_eq⟩, hcs.mono (by omega), hgs.mono (by omega)⟩
    · rintro j tj l₂ hj ⟨vs, cs, gs, hS, Vc, Vg, ⟨t2, Vm⟩, ⟨t3, Vw⟩, ⟨t4, Vu⟩, hcs, hgs⟩
      refine W.sub hS <| w_assign_Name <| w_storeL rfl ?_
      have same : ∀ l', Sub (LawL L sb ca ga (put "v" (.int (0 + (j : Int)) tj) vs) cs gs rest) l' → ∃ vs cs gs, Sub (LawL L sb ca ga vs cs gs rest) l' ∧ vs.lookup ("comes" : Str) = some (.ref ca) ∧ vs.lookup ("goes" : Str) = some (.ref ga) ∧ (∃ t, vs.lookup ("many" : Str) = some (.int N t)) ∧ (∃ t, vs.lookup ("way" : Str) = some (.int (1 + way) t)) ∧ (∃ t, vs.lookup ("u" : Str) = some (.int i t)) ∧ BL N (6 * i + (j + 1 : Nat)) cs ∧ BL N (6 * i + (j + 1 : Nat)) gs := fun l' hS =>
        ⟨_, _, _, hS, by walk_at "lk", by walk_at "lk", ⟨_, by walk_at "lk"⟩, ⟨_, by walk_at "lk"⟩, ⟨_, by walk_at "lk"⟩, hcs.mono (by omega), hgs.mono (by omega)⟩
      refine w_execs_cons <| w_If <| w_isTrue_BoolOp <| w_and_cons <| w_isTrue_Compare1 <| w_NameL rfl (by walk_at "lk") <| w_NameL rfl look_eq <| w_ne_int <| w_truthy_bool ⟨fun hne => w_and_cons <| w_isTrue_Compare1 <| w_nextCall S hA rfl (by walk_at "in") (w_Const_int fun t => ⟨4, t, _, rfl, rfl, by walk_at "pk", by decide, by decide, fun y t' h0 h1 => w_NameL rfl (by walk_at "lk") <| w_lt_int <| w_truthy_bool ⟨fun hlt => w_and_nil ⟨fun _ => ?_, fun q => (nomatch q)⟩, fun hlt => ⟨fun q => (nomatch q), fun _ => w_execs_nil <| w_execs_nil (same _ .refl)⟩⟩⟩), fun hne => ⟨fun q => (nomatch q), fun _ => w_execs_nil <| w_execs_nil (same _ .refl)⟩⟩
      obtain ⟨gu, hgu, hgu1, hgu2⟩ := hgs.get (i := (i : Int)) (by omega) (by omega)
      obtain ⟨cv, hcv, hcv1, hcv2⟩ := hcs.get (i := 0 + (j : Int)) (by omega) (by omega)
      refine w_execs_cons <| w_Assign_Tuple <| w_Tuple_ <| w_items_cons <| w_BinOp <| w_Subscript <| w_NameL rfl (by walk_at "lk") <| w_NameL rfl (by walk_at "lk") <| w_subTail_ints (ns := gs) (n := gu) (by walk_at "in") (by omega) (by omega) hgu fun u3 => w_Const_int fun u4 => w_add_int fun u5 => w_items_cons <| w_BinOp <| w_Subscript <| w_NameL rfl (by walk_at "lk") <| w_NameL rfl look_eq <| w_subTail_ints (ns := cs) (n := cv) (by walk_at "in") (by omega) (by omega) hcv fun u6 => w_Const_int fun u7 => w_add_int fun u8 => w_items_nil <| w_newSeq (fun tt => ?_) (by simp [sizeLine_eq])
      refine w_assign_Tuple hh (.tail _ (.head _)) <| w_ord_cons <| w_assign_Sub <| w_NameL rfl (by walk_at "lk") <| w_NameL rfl (by walk_at "lk") <| w_setItem_ints (ns := gs) (by walk_at "rp") (by omega) (by omega) (by rw [hgs.1]; omega) <| w_ord_cons <| w_assign_Sub <| w_NameL rfl (by walk_at "lk") <| w_NameL rfl look_eq <| w_setItem_ints (ns := cs) (by walk_at "rp") (by omega) (by omega) (by rw [hcs.1]; omega) <| w_ord_nil <| w_execs_nil <| w_execs_nil ?_
      exact ⟨_, _, _, .pick1 .head (.skip .refl), by walk_at "lk", by walk_at "lk", ⟨_, by walk_at "lk"⟩, ⟨_, by walk_at "lk"⟩, ⟨_, by walk_at "lk"⟩, hcs.set (by omega) (by omega), hgs.set (by omega) (by omega)⟩
    · rintro l₂ ⟨vs, cs, gs, hS, Vc, Vg, Vm, Vw, Vu, hcs, hgs⟩
      exact w_execs_nil ⟨vs, cs, gs, hS, Vc, Vg, Vm, Vw, hcs.mono (by omega), hgs.mono (by omega)⟩
  · rintro l₂ ⟨vs, cs, gs, hS, Vc, Vg, ⟨t2, Vm⟩, ⟨t3, Vw⟩, hcs, hgs⟩
    refine W.sub hS ?_
    have hcs : BL N 36 cs := hcs.mono (by omega)
    have hgs : BL N 36 gs := hgs.mono (by omega)
    refine w_execs_cons <| W.mono (k' := fun f l' => f = .next ∧ ∃ vs gs, Sub (LawL L sb ca ga vs cs gs rest) l' ∧ vs.lookup ("comes" : Str) = some (.ref ca) ∧ vs.lookup ("goes" : Str) = some (.ref ga) ∧ (∃ t, vs.lookup ("many" : Str) = some (.int N t)) ∧ BL N 50 gs) ?_ ?_ (fun _ _ z => z)
    · refine w_If <| w_isTrue_Compare1 <| w_nextCall S hA rfl (by walk_at "in") (w_Const_int fun t => ⟨2, t, _, rfl, rfl, by walk_at "pk", by decide, by decide, fun y t' h0 h1 => w_Const_int fun u1 => w_eq_int <| w_truthy_bool ⟨fun he => ?_, fun he => w_execs_nil ⟨rfl, vs, gs, .refl, Vc, Vg, ⟨_, Vm⟩, hgs.mono (by decide)⟩⟩⟩)
      refine w_execs_cons <| w_Assign_Swap (names := ["a", "b"]) rfl <| w_Tuple_ <| w_items_cons <| w_nextCall S hA rfl (by walk_at "in") (w_NameL rfl Vm ⟨N, t2, _, rfl, rfl, by walk_at "pk", by omega, by omega, fun a ta ha0 ha1 => ?_⟩)
      refine w_items_cons <| w_nextCall S hA rfl (by walk_at "in") (w_NameL rfl Vm ⟨N, t2, _, rfl, rfl, by walk_at "pk", by omega, by omega, fun b tb hb0 hb1 => ?_⟩)
      refine w_items_nil <| w_newSeq (fun tt => ?_) (by simp [sizeLine_eq])
      refine w_unpackItems hh (.tail _ (.head _)) rfl <| w_ord_cons <| w_bindName <| w_storeL rfl <| w_ord_cons <| w_bindName <| w_storeL rfl <| w_ord_nil ?_
      obtain ⟨ga', hga, hga1, hga2⟩ := hgs.get (i := a) (by omega) (by omega)
      obtain ⟨gb, hgb, hgb1, hgb2⟩ := hgs.get (i := b) (by omega) (by omega)
      refine w_execs_cons <| w_Assign_Tuple <| w_Tuple_ <| w_items_cons <| w_BinOp <| w_Subscript <| w_NameL rfl (by walk_at "lk") <| w_NameL rfl (by walk_at "lk") <| w_subTail_ints (ns := gs) (n := ga') (by walk_at "in") (by omega) (by omega) hga fun u3 => w_Const_int fun u4 => w_add_int fun u5 => w_items_cons <| w_BinOp <| w_Subscript <| w_NameL rfl (by walk_at "lk") <| w_NameL rfl (by walk_at "lk") <| w_subTail_ints (ns := gs) (n := gb) (by walk_at "in") (by omega) (by omega) hgb fun u6 => w_Const_int fun u7 => w_sub_int fun u8 => w_items_nil <| w_newSeq (fun tt2 => ?_) (by simp [sizeLine_eq])
      have hgs1 : BL N 37 (gs.set a.toNat (ga' + 1)) := hgs.set (by decide) (by omega)
      refine w_assign_Tuple hh (.tail _ (.head _)) <| w_ord_cons <| w_assign_Sub <| w_NameL rfl (by walk_at "lk") <| w_NameL rfl (by walk_at "lk") <| w_setItem_ints (ns := gs) (by walk_at "rp") (by omega) (by omega) (by rw [hgs.1]; omega) <| w_ord_cons <| w_assign_Sub <| w_NameL rfl (by walk_at "lk") <| w_NameL rfl (by walk_at "lk") <| w_setItem_ints (ns := gs.set a.toNat (ga' + 1)) (by walk_at "rp") (by omega) (by omega) (by rw [hgs1.1]; omega) <| w_ord_nil <| w_execs_nil ⟨rfl, ?_⟩
      exact ⟨_, _, .pick1 .head (.skip (.skip .refl)), by walk_at "lk", by walk_at "lk", ⟨_, by walk_at "lk"⟩, (hgs1.set (b' := 38) (by decide) (by omega)).mono (by decide)⟩
    · rintro f l' ⟨rfl, vs, gs, hS, Vc, Vg, ⟨t2, Vm⟩, hgs⟩
      refine W.sub hS ?_
      refine w_execs_cons <| w_If <| w_isTrue_Compare1 <| w_nextCall S hA rfl (by walk_at "in") (w_Const_int fun t => ⟨4, t, _, rfl, rfl, by walk_at "pk", by decide, by decide, fun y t' h0 h1 => w_Const_int fun u1 => w_eq_int <| w_truthy_bool ⟨fun he => ?_, fun he => w_execs_nil <| w_execs_nil ⟨rfl, vs, ca, ga, cs, gs, .refl, Vc, Vg, hcs.mono (by decide), hgs.mono (by decide)⟩⟩⟩)
      refine w_execs_cons <| w_AugAssign_Sub <| w_NameL rfl Vc <| w_nextCall S hA rfl (by walk_at "in") (w_NameL rfl Vm ⟨N, t2, _, rfl, rfl, by walk_at "pk", by omega, by omega, fun a ta ha0 ha1 => ?_⟩)
      obtain ⟨ca', hca, hca1, hca2⟩ := hcs.get (i := a) (by omega) (by omega)
      refine w_getItem_ints (ns := cs) (n := ca') (by walk_at "in") (by omega) (by omega) hca fun u3 => w_Const_int fun u4 => w_iadd_int fun u5 => w_setItem_ints (ns := cs) (by walk_at "rp") (by omega) (by omega) (by rw [hcs.1]; omega) <| w_execs_nil <| w_execs_nil ⟨rfl, ?_⟩
      exact ⟨vs, ca, ga, _, gs, .refl, Vc, Vg, (hcs.set (b' := 37) (by decide) (by omega)).mono (by decide), hgs.mono (by decide)⟩
end
end Mine
end
/-! N9 -/
section
open PySem PySem.W PySem.Calls PyProof.Rows
set_option maxRecDepth 100000
set_option linter.all false
namespace Mine
local macro_rules | `(tactic| walk_at "lk") => `(tactic| first | with_reducible exact look_eq | (rw [lookup_put, if_neg (by decide)]; walk_at "lk") | assumption | exact rfl)
local macro_rules | `(tactic| walk_at "in") => `(tactic| first | exact List.Mem.head _ | (refine List.Mem.tail _ ?_; walk_at "in"))
local macro_rules | `(tactic| walk_at "pk") => `(tactic| first | exact Pick.head | (apply Pick.tail; walk_at "pk"))
local macro_rules | `(tactic| walk_at "rp") => `(tactic| first | exact Rep.head | (apply Rep.tail; walk_at "rp"))
local macro_rules | `(tactic| walk_at "sub") => `(tactic| first | exact Sub.refl | (refine Sub.pick1 (by walk_at "pk") ?_; walk_at "sub") | exact Sub.nil | (refine Sub.skip ?_; walk_at "sub"))
section
variable {α β : Type} {C : Cx} {A : Around} {l : Led} {e : Value → Led → Prop} {env : Env} {F : Led} {G : Array GenState} {s₀ : Shared} {X : Led} {its : List YItem}
theorem w_len_dict (S : Ok C) {d : Addr} {kvs : List (Int × Value)} {k : Value → Led → Prop} (hm : (d, dP C kvs) ∈ l) (hz : kvs.length < 1000000) (h : ∀ t, k (.int kvs.length t) l) : W C A l (call (.builtin "len") [.ref d]) k e := fun r s hs =>
  call_len_dict (knd := intKind P C.w) (hs.notMod S hm) (hs.dict hm) (by omega) ⟨l, h _, hs.toks.toks⟩
/-- the lengths of the rows -/
theorem lseg_lens (S : Ok C) {L it ad : Addr} {ep : Nat} {adj : List (Addr × KV)} {cenv : Env} {q1 q2 q3 r1 r2 r3 : Pos} {j : Nat} {iter : Expr} {scope : Scope} {pos : Pos} (hL : cenv.locals = L) (hk : cenv.scope.kind = .function) (hn : cenv.kindOf ("n" : Str) = some .local) (hns : cenv.kindOf ("nbrs" : Str) = some .local) (hln : cenv.kindOf ("len" : Str) = some .globalImplicit)
    (hg : cenv.globals = mainGlobals) (hb : cenv.builtins = builtinsNs) (hco : cenv.scope.isCoroutine = false) (hsc : (cenv.scope.kind == .class || (cenv.scope.kind == .module && cenv.locals != cenv.globals)) = false) (hh : A.handled = none) (hz : ∀ r ∈ adj, r.2.length < 1000) :
    ∀ (post pre : List (Addr × KV)) G s₀ X V, adj = pre ++ post →
      LSeg C A ((ad, dP C (keyed (adj.map (·.1)))) :: rowsL C adj) G s₀ X ((post.map fun r => (r.2.length : Int)).map lenI) (.compLoop (.GeneratorExp (.Call (.Name "len" q1) [.Name "nbrs" q2] [] q3) [⟨.Tuple [.Name "n" r1, .Name "nbrs" r2] j r3, iter, [], 0⟩] scope pos) 0 (.ref it) .none cenv)
        ((model P C.w).den (.compLoop (.GeneratorExp (.Call (.Name "len" q1) [.Name "nbrs" q2] [] q3) [⟨.Tuple [.Name "n" r1, .Name "nbrs" r2] j r3, iter, [], 0⟩] scope pos) 0 (.ref it) .none cenv)) []
        ((L, nsP V) :: (it, iiP ad pre.length (keyed (adj.map (·.1))).length ep) :: (ad, dE C (keyed (adj.map (·.1))) ep) :: rowsL C adj) := by
  intro post
  induction post with
  | nil =>
    intro pre G s₀ X V ha
    rw [List.append_nil] at ha
    subst ha
    refine lseg_compLoop hco (W.sub (l' := (it, iiP ad adj.length (keyed (adj.map (·.1))).length ep) :: (ad, dE C (keyed (adj.map (·.1))) ep) :: rowsL C adj) (.skip .refl) (w_next_items_end hh (by walk_at "in") (by rw [keyedFrom_get]; simp) ⟨rfl, .pick .head (fun _ h => h.dP) .refl⟩))
  | cons r post ih =>
    intro pre G s₀ X V ha
    obtain ⟨row, kv⟩ := r
    have hx : (keyed (adj.map (·.1)))[pre.length]? = some ((pre.length : Int), .ref row) := by
      rw [keyedFrom_get, ha]; simp
    have hrow : (row, kv) ∈ adj := by rw [ha]; simp
    refine lseg_compLoop hco (W.sub (l' := (it, iiP ad pre.length (keyed (adj.map (·.1))).length ep) :: (L, nsP V) :: (ad, dE C (keyed (adj.map (·.1))) ep) :: rowsL C adj) (.pick1 (.tail .head) (.pick1 .head .refl)) (w_next_items (C := C.g G) (kvs := keyed (adj.map (·.1))) (ep := ep) (by walk_at "in") hx fun T t => ?_))
    refine W.sub (l' := (it, iiO ad (pre.length + 1) (keyed (adj.map (·.1))).length ep T) :: (T, seqP "tuple" [.int pre.length t, .ref row]) :: (L, nsP V) :: (ad, dE C (keyed (adj.map (·.1))) ep) :: rowsL C adj) (.pick1 (.tail .head) (.pick1 .head .refl)) ?_
    refine w_letOwned_items ?_
    refine W.sub (l' := (L, nsP V) :: (T, seqP "tuple" [.int pre.length t, .ref row]) :: (it, iiP ad (pre.length + 1) (keyed (adj.map (·.1))).length ep) :: (ad, dE C (keyed (adj.map (·.1))) ep) :: rowsL C adj) (.pick1 (.tail (.tail .head)) (.pick1 (.tail .head) (.pick1 .head .refl))) ?_
    refine w_assign_Tuple hh (by walk_at "in") (w_ord_cons <| w_assign_Name <| w_storeL hL (w_ord_cons <| w_assign_Name <| w_storeL hL (w_ord_nil ?_) hns hsc) hn hsc) rfl rfl
    refine w_Call_Name <| S.g.bi (v := .builtin "len") rfl rfl (w_callWith_b <| w_items_cons <| w_NameL hL (by walk_at "lk") (w_items_nil <| w_len_dict S.g (.tail _ (.tail _ (.tail _ (.tail _ (List.mem_map_of_mem (f := fun r : Addr × KV => (r.1, dP C r.2)) hrow))))) (by have := hz _ hrow; exact Nat.lt_trans this (by decide)) fun tl => ?_) hk hns) hg hb hk hln
    refine ⟨_, _, (L, nsP _) :: (it, iiP ad (pre.length + 1) (keyed (adj.map (·.1))).length ep) :: (ad, dE C (keyed (adj.map (·.1))) ep) :: rowsL C adj, [], rfl, .pick1 .head (.skip .refl), ⟨tl, rfl, rfl⟩, fun G' s₁ => ?_⟩
    have := ih (pre ++ [(row, kv)]) G' s₁ ((L, nsP (put "nbrs" (.ref row) (put "n" (.int pre.length t) V))) :: (it, iiP ad (pre.length + 1) (keyed (adj.map (·.1))).length ep) :: (ad, dE C (keyed (adj.map (·.1))) ep) :: rowsL C adj) (put "nbrs" (.ref row) (put "n" (.int pre.length t) V)) (by rw [ha]; simp)
    rw [List.length_append, List.length_singleton] at this
    exact this
theorem lgen_lens (S : Ok C) {L it ad : Addr} {ep : Nat} {adj : List (Addr × KV)} {cenv : Env} {q1 q2 q3 r1 r2 r3 : Pos} {j : Nat} {iter : Expr} {scope : Scope} {pos : Pos} {V : Vars} (hL : cenv.locals = L) (hk : cenv.scope.kind = .function) (hn : cenv.kindOf ("n" : Str) = some .local) (hns : cenv.kindOf ("nbrs" : Str) = some .local) (hln : cenv.kindOf ("len" : Str) = some .globalImplicit)
    (hg : cenv.globals = mainGlobals) (hb : cenv.builtins = builtinsNs) (hco : cenv.scope.isCoroutine = false) (hsc : (cenv.scope.kind == .class || (cenv.scope.kind == .module && cenv.locals != cenv.globals)) = false) (hh : A.handled = none) (hz : ∀ r ∈ adj, r.2.length < 1000) :
    LGen C A ((ad, dP C (keyed (adj.map (·.1)))) :: rowsL C adj) ((adj.map fun r => (r.2.length : Int)).map lenI) ((L, nsP V) :: (it, iiP ad 0 (keyed (adj.map (·.1))).length ep) :: (ad, dE C (keyed (adj.map (·.1))) ep) :: rowsL C adj)
      (.fresh (.compStart (.GeneratorExp (.Call (.Name "len" q1) [.Name "nbrs" q2] [] q3) [⟨.Tuple [.Name "n" r1, .Name "nbrs" r2] j r3, iter, [], 0⟩] scope pos) 0 (.ref it) .none cenv)) :=
  lgen_fresh fun G s₁ => lseg_compStart (fun A' k hk => w_pyIter_ii (by walk_at "in") hk) (lseg_lens S hL hk hn hns hln hg hb hco hsc hh hz adj [] G s₁ _ V rfl)
end
end Mine
end
/-! V0 -/
section
open PySem PySem.W PySem.Calls PyProof.Rows
set_option maxRecDepth 100000
set_option linter.all false
namespace Mine
section
variable {C : Cx} {A : Around} {l : Led}
def gposT : Pos := ⟨99, 19, 99, 64⟩
def gqT : Str := Str.ofString "OutEdgeView.__len__" ++ Str.ofString ".<locals>." ++ Str.ofString "<genexpr>"
def ToldSpec (C : Cx) : Prop := ∀ {A : Around} {l : Led} {R : Result → Led → Prop} {envs : List Env} {outer : Frs} {u : Option Addr} {cs gs : List Int} {ca ga : Addr} {N : Nat}, A.depth + 10 < recursionLimit → A.handled = none → A.units < 6000 → A.frames = some envs → FrOk envs outer →
  (ca, intsP cs) ∈ l → (ga, intsP gs) ∈ l → cs.length = N → gs.length = N → 1 ≤ N → N ≤ 6 → (∀ x ∈ cs, -100 ≤ x ∧ x ≤ 100) → (∀ x ∈ gs, -100 ≤ x ∧ x ≤ 100) →
  (∀ v u', (GoodF N (at0 cs) (at0 gs) → v = .bool true) → (¬ GoodF N (at0 cs) (at0 gs) → v = .none) → R (.ok (.ret v)) (frL outer ++ (TabL 207 gposT gqT u' ++ l))) →
  CW C A (frL outer ++ (TabL 207 gposT gqT u ++ l)) (.call (.ref 907) ⟨[.ref ca, .ref ga], []⟩) R
end
end Mine
end
/-! N10 -/
section
open PySem PySem.W PySem.Calls PyProof.Rows
set_option maxRecDepth 100000
set_option linter.all false
namespace Mine
local macro_rules | `(tactic| walk_at "lk") => `(tactic| first | with_reducible exact look_eq | (rw [lookup_put, if_neg (by decide)]; walk_at "lk") | assumption | exact rfl)
local macro_rules | `(tactic| walk_at "in") => `(tactic| first | exact List.Mem.head _ | (refine List.Mem.tail _ ?_; walk_at "in"))
local macro_rules | `(tactic| walk_at "pk") => `(tactic| first | exact Pick.head | (apply Pick.tail; walk_at "pk"))
local macro_rules | `(tactic| walk_at "rp") => `(tactic| first | exact Rep.head | (apply Rep.tail; walk_at "rp"))
local macro_rules | `(tactic| walk_at "sub") => `(tactic| first | exact Sub.refl | (refine Sub.pick1 (by walk_at "pk") ?_; walk_at "sub") | exact Sub.nil | (refine Sub.skip ?_; walk_at "sub"))
section
variable {α β : Type} {C : Cx} {A : Around} {l : Led} {e : Value → Led → Prop} {env : Env} {F : Led} {G : Array GenState} {s₀ : Shared} {X : Led} {its : List YItem}
/-- more generators, all ended or bare -/
def GExt (a b : Array GenState) : Prop := a.size ≤ b.size ∧ (∀ k, k < a.size → b[k]? = a[k]?) ∧ ∀ k y, a.size ≤ k → b[k]? = some y → y.bare = true
theorem GExt.refl (a : Array GenState) : GExt a a := ⟨Nat.le_refl _, fun _ _ => rfl, fun k y hk h => by
  rw [Array.getElem?_eq_none hk] at h; cases h⟩
theorem GExt.trans {a b c : Array GenState} (x : GExt a b) (y : GExt b c) : GExt a c := ⟨Nat.le_trans x.1 y.1, fun k hk => (y.2.1 k (Nat.lt_of_lt_of_le hk x.1)).trans (x.2.1 k hk), fun k z hk hz => by
  rcases Nat.lt_or_ge k b.size with h | h
  · rw [y.2.1 k h] at hz; exact x.2.2 k z hk hz
  · exact y.2.2 k z h hz⟩
/-- one that came and ended -/
theorem GExt.one {a b : Array GenState} {x y : GenState} (h : GenOnly a.size (a.push x) b) (hb : b[a.size]? = some y) (hy : y.bare = true) : GExt a b := by
  have hs : b.size = a.size + 1 := by rw [h.1, Array.size_push]
  refine ⟨by omega, fun k hk => ?_, fun k z hk hz => ?_⟩
  · rw [h.2 k (by omega), Array.getElem?_push_lt hk, Array.getElem?_eq_getElem hk]
  · rcases Nat.lt_or_ge k (a.size + 1) with h' | h'
    · have : k = a.size := by omega
      subst this
      rw [hb] at hz; cases hz; exact hy
    · rw [Array.getElem?_eq_none (by omega)] at hz; cases hz
def GiOk (C : Cx) : Prop := ∀ a b, C.gi a → GExt a b → C.gi b
theorem st_sumGen {a : Addr} {g : Nat} {ks : List Int} {r : Led} {gs : GenState} {s : Shared} {Q : Value → Shared → Prop} {E : Value → Shared → Prop} (hlim : C.B.NoLimit) (hh : A.handled = none) (hroom : A.depth < recursionLimit) (hk : ∀ k ∈ ks, 0 ≤ k) (hz : ks.sum ≤ 1000000)
    (hs : St (C.g s.gens) (X ++ ((a, genP g) :: r)) s) (hgs : s.gens[g]? = some gs) (hL : LGen C A.in1.in1 F (ks.map lenI) X gs)
    (hQ : ∀ t' s', St (C.g s'.gens) (F ++ r) s' → s'.gens[g]? = some .finished → GenOnly g s.gens s'.gens → Q (.int ks.sum t') s') : wpAny (model P C.w) A (call (.builtin "sum") [.ref a]) Q E s := by
  obtain ⟨o, ho, nm, qn, rfl⟩ := (hs.hp.own (a, genP g) (List.mem_append_right _ (.head _))).1
  refine call_function_tree PySem.F.kind_sum PySem.F.plain_sum PySem.F.entry_sum (PySem.F.args_sum1 _) ?_
  unfold Builtin.«sum»
  simp only [List.length_cons, List.length_nil]
  rw [if_neg (by decide)]
  refine wpAny_bind (wpAny_of_eq (show Builtin.Builtins.bindParams "sum" ["start"] 0 { } = pure [none] from rfl) ?_)
  refine wpAny_bind (wpAny_pyIter_gen (g := g) ⟨_, nm, qn, ho, rfl, rfl, rfl⟩ ?_)
  refine wpAny_bind (wpAny_mkInt ?_)
  refine wpAny_bind (wpAny_pure ?_)
  simp only [List.forIn_cons, List.forIn_nil]
  refine wpAny_bind (wpAny_bind (wpAny_bind (wpAny_isInstance (T := "int") (b := false) (typeIs_int _ _ _) PySem.sub_int_str ?_)))
  simp only [Bool.false_eq_true, if_false]
  refine wpAny_pure (wpAny_bind (wpAny_bind (wpAny_isInstance (T := "int") (b := false) (typeIs_int _ _ _) PySem.sub_int_bytes ?_)))
  simp only [Bool.false_eq_true, if_false]
  refine wpAny_pure (wpAny_bind (wpAny_bind (wpAny_isInstance (T := "int") (b := false) (typeIs_int _ _ _) PySem.sub_int_bytearray ?_)))
  simp only [Bool.false_eq_true, if_false]
  refine wpAny_pure (wpAny_pure ?_)
  refine wpAny_bind (wpAny_newObj_type ?_)
  refine wpAny_pure ⟨plainId_quiet PySem.F.plain_sum_loop _, sum_lgen (X := X) (r := r) (gs := gs) (acc := 0) (tA := s.toks) hlim hh hroom (by omega) hk (by omega) ?_ hgs hL fun t' s' hs' h1 h2 => ?_⟩
  · have h1 : Hp C.B (s.heap.push { cls := .type "list", data := .seq #[.int 0 s.toks] }) ((s.heap.objs.size, freshP [.int 0 s.toks]) :: (X ++ ((a, genP g) :: r))) := hs.hp.new (fun _ _ x => Heap.get?_push_of_some _ x) (get_size _) (Heap.get?_push_size _ rfl) ⟨0, rfl⟩
    exact St.sub (C := C.g s.gens) ⟨h1, rfl, hs.os⟩ (Sub.trans (Sub.pre (.pick1 (.tail .head) (.pick1 .head .refl)) X) (Sub.mid (X := X) (Y := (a, genP g) :: r)))
  · have := hQ t' s' hs' h1 h2
    simpa using this
end
end Mine
end
/-! N11 -/
section
open PySem PySem.W PySem.Calls PyProof.Rows
set_option maxRecDepth 100000
set_option linter.all false
namespace Mine
local macro_rules | `(tactic| walk_at "lk") => `(tactic| first | with_reducible exact look_eq | (rw [lookup_put, if_neg (by decide)]; walk_at "lk") | assumption | exact rfl)
local macro_rules | `(tactic| walk_at "in") => `(tactic| first | exact List.Mem.head _ | (refine List.Mem.tail _ ?_; walk_at "in"))
local macro_rules | `(tactic| walk_at "pk") => `(tactic| first | exact Pick.head | (apply Pick.tail; walk_at "pk"))
section
variable {α β : Type} {C : Cx} {A : Around} {l : Led} {e : Value → Led → Prop} {env : Env} {F : Led} {G : Array GenState} {s₀ : Shared} {X : Led} {its : List YItem}
theorem w_sumLens (S : Ok C) (gi : GiOk C) {ad c : Addr} {adj : List (Addr × KV)} {Z : Led} {t : Option Addr} {iter : Expr} {scope : Scope} {gpos q1 q2 q3 r1 r2 r3 pos : Pos} {j : Nat} {gq : Str} {k : Value → Led → Prop} (hgq : env.qual ++ "<genexpr>" = gq) (hcode : env.code = .ref c) (hge : env.globals = mainGlobals)
    (hch : ∀ h : Heap, (∀ b o, C.B.get? b = some o → h.get? b = some o) → CodeHd h c 207) (hA : A.depth + 2 < recursionLimit) (hh : A.handled = none) (hz : ∀ r ∈ adj, r.2.length < 1000) (hz2 : (adj.map fun r => (r.2.length : Int)).sum ≤ 1000000)
    (hco : scope.isCoroutine = false) (hclos : closureFor scope env = pure []) (hcell : ∀ y ∈ scope.names, y.2 ≠ .cell) (h0 : scope.names.lookup (".0" : Str) = some NameKind.local) (hkind : scope.kind = .function)
    (hn : scope.names.lookup ("n" : Str) = some .local) (hns : scope.names.lookup ("nbrs" : Str) = some .local) (hln : scope.names.lookup ("len" : Str) = some .globalImplicit) (hs : ∀ x, genFold iter env x = pure x)
    (hiter : ∀ G, W (C.g G) A l (eval iter env) (fun xv l₁ => W (C.g G) A l₁ (pyIter xv) (fun it l₂ => ∃ ia ep, it = .ref ia ∧ Sub (TabL 207 gpos gq t ++ ((ia, iiP ad 0 (keyed (adj.map (·.1))).length ep) :: (ad, dE C (keyed (adj.map (·.1))) ep) :: (rowsL C adj ++ Z))) l₂) noE) noE)
    (h : ∀ t' tk, k (.int (adj.map fun r => (r.2.length : Int)).sum tk) (((ad, dP C (keyed (adj.map (·.1)))) :: rowsL C adj) ++ (TabL 207 gpos gq t' ++ Z))) :
    W C A l (callWith pos (.builtin "sum") [] (backTo pos (starEach [.GeneratorExp (.Call (.Name "len" q1) [.Name "nbrs" q2] [] q3) [⟨.Tuple [.Name "n" r1, .Name "nbrs" r2] j r3, iter, [], 0⟩] scope gpos] env)) []) k e := fun r s hs1 => by
  subst hgq
  refine PyProof.Rows.callWith_builtin1 ?_
  refine spliced_cons ?_
  have hs2 : St (C.g s.gens) (l ++ r) s := ⟨hs1.hp, rfl, hs1.os⟩
  refine wpAny_GeneratorExp_make hco hclos hcell h0 hkind (by omega) ?_ hs
  refine W.then (C := C.g s.gens) (hiter s.gens) hs2 (fun xv l₁ s₁ h₁ hs₁ => ?_) fun _ _ _ z => z.elim
  refine W.then (C := C.g s.gens) h₁ hs₁ (fun it l₂ s₂ ⟨ia, ep, e1, e2⟩ hs₂ => ?_) fun _ _ _ z => z.elim
  subst e1
  replace hs₂ := hs₂.sub (e2.app r)
  refine ⟨S.lim.keeps hs₂.hp.base, ?_⟩
  refine W.then (C := C.g s.gens) (w_genCode (k := fun v l' => ∃ c', v = .ref c' ∧ l' = TabL 207 gpos (env.qual ++ "<genexpr>") (some c') ++ ((ia, iiP ad 0 (keyed (adj.map (·.1))).length ep) :: (ad, dE C (keyed (adj.map (·.1))) ep) :: (rowsL C adj ++ Z))) (e := noE) (S.g (G := s.gens)) t hcode hch fun c' => ⟨c', rfl, rfl⟩) hs₂ (fun code l₃ s₃ ⟨c', e1, e2⟩ hs₃ => ?_) fun _ _ _ z => z.elim
  subst e1 e2
  rw [hge]
  refine W.then (C := C.g s.gens) (w_builtinsFor (k := fun v l' => v = builtinsNs ∧ l' = TabL 207 gpos (env.qual ++ "<genexpr>") (some c') ++ ((ia, iiP ad 0 (keyed (adj.map (·.1))).length ep) :: (ad, dE C (keyed (adj.map (·.1))) ep) :: (rowsL C adj ++ Z))) (e := noE) (S.g (G := s.gens)) (.head _) ⟨rfl, rfl⟩) hs₃ (fun bi l₄ s₄ ⟨e1, e2⟩ hs₄ => ?_) fun _ _ _ z => z.elim
  subst e1 e2
  have hgens : s₄.gens = s.gens := hs₄.bare
  intro h' hns' hsb'
  have hk' : ∀ b o, s₄.heap.get? b = some o → h'.get? b = some o := fun b o e => hsb'.extBut b o (Nat.ne_of_lt (Heap.lt_size e)) (Heap.get?_push_of_some _ e)
  obtain ⟨o', es, ep', ho', hd', hkk, hf⟩ := hns'
  have H1 : Hp C.B h' ((s₄.heap.objs.size, nsP [(".0", .ref ia)]) :: ((TabL 207 gpos (env.qual ++ "<genexpr>") (some c') ++ ((ia, iiP ad 0 (keyed (adj.map (·.1))).length ep) :: (ad, dE C (keyed (adj.map (·.1))) ep) :: (rowsL C adj ++ Z))) ++ r)) :=
    hs₄.hp.new hk' (get_size _) ho' ⟨es, ep', hd', hkk, fun name => by
      rw [hf, List.lookup_cons]
      by_cases hy : name = ".0"
      · subst hy; simp
      · have : (name == (".0" : Str)) = false := by simpa using hy
        simp [this, hy]⟩
  have H2 := H1.new (h' := h'.push { cls := .type "generator", data := .fields #[.int s₄.gens.size 0, .str "<genexpr>" (s₄.toks + 1), .str (env.qual ++ "<genexpr>") (s₄.toks + 1 + 1)] }) (fun _ _ x => Heap.get?_push_of_some _ x) (get_size _) (Heap.get?_push_size _ rfl) (Pr := genP s₄.gens.size) ⟨_, _, rfl⟩
  refine spliced_nil ?_
  refine st_sumGen (F := ((ad, dP C (keyed (adj.map (·.1)))) :: rowsL C adj)) (X := (s₄.heap.objs.size, nsP [(".0", .ref ia)]) :: (ia, iiP ad 0 (keyed (adj.map (·.1))).length ep) :: (ad, dE C (keyed (adj.map (·.1))) ep) :: rowsL C adj) (r := (TabL 207 gpos (env.qual ++ "<genexpr>") (some c') ++ Z) ++ r) (g := s₄.gens.size) (ks := adj.map fun r => (r.2.length : Int)) S.lim hh (by omega) (fun k hk => ?_) hz2 ?_ (Array.getElem?_push_size ..) ?_ fun t' s' hs' hfin honly => ?_
  · obtain ⟨r, _, rfl⟩ := List.mem_map.mp hk
    omega
  · refine ⟨H2.sub (.perm ?_), rfl, hs₄.os⟩
    refine List.Perm.trans (List.perm_middle (l₁ := (s₄.heap.objs.size, nsP [(".0", .ref ia)]) :: (ia, iiP ad 0 (keyed (adj.map (·.1))).length ep) :: (ad, dE C (keyed (adj.map (·.1))) ep) :: rowsL C adj)) (.cons _ (.cons _ ?_))
    have := List.perm_append_comm_assoc ((ia, iiP ad 0 (keyed (adj.map (·.1))).length ep) :: (ad, dE C (keyed (adj.map (·.1))) ep) :: rowsL C adj) (TabL 207 gpos (env.qual ++ "<genexpr>") (some c')) (Z ++ r)
    simpa [List.append_assoc] using this
  · exact lgen_lens S rfl hkind hn hns hln hge rfl hco (by simp [genEnv, hkind]) hh hz
  · refine ⟨_, h (some c') t', ?_⟩
    have h3 : GExt s.gens s'.gens := GExt.one (x := .fresh _) (y := .finished) (by rw [← hgens]; exact honly) (by rw [← hgens]; exact hfin) rfl
    have h4 : Hp C.B s'.heap ((((ad, dP C (keyed (adj.map (·.1)))) :: rowsL C adj) ++ ((TabL 207 gpos (env.qual ++ "<genexpr>") (some c') ++ Z) ++ r))) := hs'.hp
    refine ⟨?_, gi _ _ hs1.bare h3, hs'.os⟩
    simpa [List.append_assoc] using h4
end
end Mine
end
/-! N12 -/
section
open PySem PySem.W PySem.Calls PyProof.Rows
set_option maxRecDepth 100000
set_option linter.all false
namespace Mine
local macro_rules | `(tactic| walk_at "lk") => `(tactic| first | with_reducible exact look_eq | (rw [lookup_put, if_neg (by decide)]; walk_at "lk") | assumption | exact rfl)
local macro_rules | `(tactic| walk_at "in") => `(tactic| first | exact List.Mem.head _ | (refine List.Mem.tail _ ?_; walk_at "in"))
local macro_rules | `(tactic| walk_at "pk") => `(tactic| first | exact Pick.head | (apply Pick.tail; walk_at "pk"))
section
variable {α β : Type} {C : Cx} {A : Around} {l : Led} {e : Value → Led → Prop} {env : Env} {F : Led} {G : Array GenState} {s₀ : Shared} {X : Led} {its : List YItem}
theorem spec_len (S : Ok C) (gi : GiOk C) {R : Result → Led → Prop} {t : Option Addr} {x dx ad : Addr} {adj : List (Addr × KV)} (hA : A.depth + 5 < recursionLimit) (hh : A.handled = none) (hz : ∀ r ∈ adj, r.2.length < 1000) (hz2 : (adj.map fun r => (r.2.length : Int)).sum ≤ 1000000)
    (h : ∀ t' tk, R (.ok (.ret (.int (adj.map fun r => (r.2.length : Int)).sum tk))) (TabL 207 gposT gqT t' ++ ViewL C x dx ad adj)) : CW C A (TabL 207 gposT gqT t ++ ViewL C x dx ad adj) (.call (.ref 212) ⟨[.ref x], []⟩) R := by
  refine cw_def S.lim (by omega) (S.k 212 _ rfl (by decide) (by decide)) rfl ⟨211, _, _, _, rfl, S.k 211 _ rfl (by decide) (by decide), rfl, rfl⟩ rfl rfl (by decide) (locs rfl) fun L => ?_
  refine w_execs_cons <| w_Return <| w_Call_Name <| S.bi (v := .builtin "sum") rfl rfl ?_
  refine w_sumLens S gi (Z := [(L, nsP [("self", .ref x)]), (x, (· = instObj 245 dx)), (dx, idP C 1 [("_adjdict", .ref ad)])]) (t := t) (gpos := gposT) (gq := gqT) (c := 211) (ad := ad) (adj := adj) ?g1 ?g2 ?g3 (fun h hb => ?_) (by show A.depth + 1 + 2 < _; omega) hh hz hz2 ?g4 ?g5 ?g6 ?g7 ?g8 ?g9 ?g10 ?g11 (fun _ => ?g12) (fun G => ?_) fun t' tk => ?_
  case g1 => rfl
  case g2 => rfl
  case g3 => rfl
  case g4 => rfl
  case g5 => kernel_rfl
  case g6 => decide
  case g7 => kernel_rfl
  case g8 => rfl
  case g9 => kernel_rfl
  case g10 => kernel_rfl
  case g11 => kernel_rfl
  case g12 => rfl
  · exact ⟨_, _, _, _, _, _, _, _, _, hb _ _ (S.k 211 _ rfl (by decide) (by decide)), rfl, rfl, rfl, rfl, rfl, rfl, rfl, rfl, by decide⟩
  · refine W.sub (l' := (ad, dP C (keyed (adj.map (·.1)))) :: (L, nsP [("self", .ref x)]) :: (x, (· = instObj 245 dx)) :: (dx, idP C 1 [("_adjdict", .ref ad)]) :: (TabL 207 gposT gqT t ++ rowsL C adj)) ?_ ?_
    · refine Sub.trans (b := (L, nsP [("self", .ref x)]) :: (x, (· = instObj 245 dx)) :: (dx, idP C 1 [("_adjdict", .ref ad)]) :: (ad, dP C (keyed (adj.map (·.1)))) :: (TabL 207 gposT gqT t ++ rowsL C adj)) (.pick1 (.tail (.tail (.tail .head))) .refl) ?_
      exact .pick1 .head (Sub.rot (TabL 207 gposT gqT t) [_, _, _] (rowsL C adj))
    refine w_ex (q := fun ep => dE C (keyed (adj.map (·.1))) ep) (fun o ho => ho.dE) fun ep => ?_
    refine W.sub (l' := (L, nsP [("self", .ref x)]) :: (ad, dE C (keyed (adj.map (·.1))) ep) :: (x, (· = instObj 245 dx)) :: (dx, idP C 1 [("_adjdict", .ref ad)]) :: (TabL 207 gposT gqT t ++ rowsL C adj)) (.pick1 (.tail .head) (.pick1 .head .refl)) ?_
    refine w_MethodCall <| w_NameL rfl rfl <| w_method S.g (f := 205) ⟨by walk_at "in", 1, by decide, by walk_at "in"⟩ rfl <| w_callWith_fn0 (S.k 205 _ rfl (by decide) (by decide)) rfl <| spec_nn S.g (by show A.depth + 1 < _; omega) (by walk_at "in") (by walk_at "in") (by walk_at "in") fun v => ?_
    refine w_pyIter_items (by walk_at "in") (by walk_at "in") fun it => ⟨it, ep, rfl, ?_⟩
    refine Sub.trans (b := [(it, iiP ad 0 (keyed (adj.map (·.1))).length ep), (ad, dE C (keyed (adj.map (·.1))) ep)] ++ ([(L, nsP [("self", .ref x)]), (x, (· = instObj 245 dx)), (dx, idP C 1 [("_adjdict", .ref ad)])] ++ (TabL 207 gposT gqT t ++ rowsL C adj))) (.perm ?_) ?_
    · refine (List.perm_append_comm_assoc (TabL 207 gposT gqT t) [(it, iiP ad 0 (keyed (adj.map (·.1))).length ep), (ad, dE C (keyed (adj.map (·.1))) ep)] _).trans (List.Perm.append_left _ ?_)
      have p := List.perm_append_comm (l₁ := TabL 207 gposT gqT t ++ rowsL C adj) (l₂ := [(L, nsP [("self", .ref x)]), (x, (· = instObj 245 dx)), (dx, idP C 1 [("_adjdict", .ref ad)])])
      rw [List.append_assoc] at p
      exact p
    · exact .pick1 .head (.pick1 (.tail (.tail .head)) (.pick1 (.tail .head) (.pick1 (.tail .head) (.pick1 (.tail .head) (.skip .refl)))))
  · refine ⟨TabL 207 gposT gqT t' ++ ViewL C x dx ad adj, ?_, h t' tk⟩
    refine Sub.trans (.perm ?_) (Sub.pre (Sub.pre (.skip .refl) (TabL 207 gposT gqT t')) ((ad, dP C (keyed (adj.map (·.1)))) :: rowsL C adj))
    refine List.Perm.trans (show List.Perm (TabL 207 gposT gqT t' ++ ([(x, (· = instObj 245 dx)), (dx, idP C 1 [("_adjdict", .ref ad)])] ++ ((ad, dP C (keyed (adj.map (·.1)))) :: rowsL C adj))) _ from List.Perm.append_left _ List.perm_append_comm) ?_
    exact List.perm_append_comm_assoc _ _ _
end
end Mine
end
/-! U2 -/
section
open PySem PySem.W PySem.Calls PyProof.Rows
set_option maxRecDepth 100000
set_option linter.all false
namespace Mine
section
variable {α β : Type} {C : Cx} {A : Around} {l : Led} {e : Value → Led → Prop} {env : Env}
theorem wpF_holding' {M : Model} {E : Value → Shared → Prop} {s : Shared} {vs : List Value} {m : Sem α} {Q : α → Shared → Prop} (h : wpF M A m Q E s) : wpF M A (holding vs m) Q E s := wpF_holding h
theorem wf_keep {vs : List Value} {m : Sem α} {k : α → Led → Prop} (h : WF C A l m k e) : WF C A l (m.keep vs) k e := fun r s hs Γ p hΓ hN => by rw [Sem.wp_keep]; exact h r s hs Γ p hΓ hN
theorem wf_evalArgs {f : Value} {x : Sem Value} {rest : List (Bool × Sem Value)} {k : Args → Led → Prop}
    (h : WF C A l (spliced ((false, x) :: rest)) (fun vs l' => k ⟨vs, []⟩ l') e) : WF C A l (evalArgs f true ((false, x) :: rest) []) k e := by
  unfold evalArgs
  show WF C A l (spliced ((false, x) :: rest) >>= _) k e
  refine wf_bind (h.mono (fun vs l' h' => ?_) fun _ _ z => z)
  exact wf_holding (wf_bind (wf_pure (wf_bind (wf_pure (wf_pure h')))))
theorem wf_tail {t : Sem Value} {k : Value → Led → Prop} (h : WF C A l t k e) : WF C A l (t >>= fun r => holding [r] PySem.point >>= fun _ => pure r) k e :=
  wf_bind (h.mono (fun _ _ h' => wf_bind (wf_holding (wf_point (wf_pure h')))) fun _ _ z => z)
theorem wf_callWith_fnL {pos : Pos} {a : Addr} {o : Obj} {fd : FuncData} {t : Sem Value} {rest : List (Bool × Sem Value)} {first : List Value} {k : Value → Led → Prop} (ho : C.B.get? a = some o) (hdata : o.data = .func fd)
    (hp : (((false, t) :: rest).any (·.1)) = false)
    (h : WF C A l (spliced ((false, t) :: rest)) (fun vs l' => CWF C A l' (.call (.ref a) ⟨first ++ vs, []⟩) (vK k e)) e) : WF C A l (callWith pos (.ref a) first ((false, t) :: rest) []) k e := by
  unfold callWith
  refine wf_bind (wf_holding ?_)
  refine wf_evalArgs (h.mono (fun vs l' h' => wf_bind (wf_standAt ?_)) fun _ _ z => z)
  rw [hp]
  simp only [List.any_nil, Bool.or_false]
  refine wf_bind (m := keeperOf (.ref a)) (.of fun r s hs => ?_)
  unfold keeperOf
  refine wpAny_bind (wpAny_load (hs.old ho) ?_)
  rw [hdata]
  refine wpAny_pure ⟨l', ?_, hs⟩
  dsimp only
  split
  · exact wf_tail (wf_callV h')
  · exact wf_tail (by unfold callMarked; exact wf_keep (wf_callV h'))
theorem wf_callWith_fn {pos : Pos} {a : Addr} {o : Obj} {fd : FuncData} {x : Expr} {rest : List Expr} {first : List Value} {k : Value → Led → Prop} (ho : C.B.get? a = some o) (hdata : o.data = .func fd)
    (h : WF C A l (spliced (backTo pos (starEach (x :: rest) env))) (fun vs l' => CWF C A l' (.call (.ref a) ⟨first ++ vs, []⟩) (vK k e)) e)
    (hp : (backTo pos (starEach rest env)).any (·.1) = false := by rfl) (he : starEach (x :: rest) env = (false, eval x env) :: starEach rest env := by rfl) : WF C A l (callWith pos (.ref a) first (backTo pos (starEach (x :: rest) env)) []) k e := by
  rw [he] at h ⊢
  exact wf_callWith_fnL ho hdata (by show (false || (backTo pos (starEach rest env)).any (·.1)) = false; rw [hp]; rfl) h
theorem wf_callWith_t {pos : Pos} {T : String} {x : Expr} {rest : List Expr} {first : List Value} {k : Value → Led → Prop}
    (h : WF C A l (spliced (backTo pos (starEach (x :: rest) env))) (fun vs l' => WF C A l' (call (.type T) (first ++ vs)) k e) e)
    (hp : (backTo pos (starEach rest env)).any (·.1) = false := by rfl) (he : starEach (x :: rest) env = (false, eval x env) :: starEach rest env := by rfl) : WF C A l (callWith pos (.type T) first (backTo pos (starEach (x :: rest) env)) []) k e := by
  rw [he] at h ⊢
  have hp' : ((backTo pos ((false, eval x env) :: starEach rest env)).any (·.1)) = false := by show (false || (backTo pos (starEach rest env)).any (·.1)) = false; rw [hp]; rfl
  unfold callWith
  refine wf_bind (wf_holding ?_)
  refine wf_evalArgs (WF.mono h (fun vs l' h' => wf_bind (wf_standAt ?_)) fun _ _ z => z)
  rw [hp']
  simp only [List.any_nil, Bool.or_false]
  exact wf_bind (wf_pure (wf_tail h'))
theorem wf_AttributeN {x attr : Str} {xp pos : Pos} {k : Value → Led → Prop} (h : WF C A l (eval (.Name x xp) env) (fun o l₁ => WF C A l₁ (getAttr o attr true) k e) e)
    (he : eval (.Attribute (.Name x xp) attr pos) env = (do
      let o ← eval (.Name x xp) env
      standAt pos.atName
      let r ← holding [o] (getAttr o attr true)
      letTemporaryGo (.Name x xp) o r
      pure r) := by with_unfolding_all rfl) : WF C A l (eval (.Attribute (.Name x xp) attr pos) env) k e := by
  rw [he]
  refine wf_bind (h.mono (fun o l₁ h₁ => wf_bind (wf_standAt (wf_bind (wf_holding (h₁.mono (fun r l₂ h₂ => ?_) fun _ _ z => z))))) fun _ _ z => z)
  have e2 : letTemporaryGo (.Name x xp) o r = pure () := rfl
  rw [e2]
  exact wf_bind (wf_pure (wf_pure h₂))
theorem wf_Assign_Name {x pos' value pos} {k : Flow → Led → Prop}
    (h : WF C A l (eval value env) (fun v l₁ => WF C A l₁ (storeName env x v) (fun _ l₂ => k .next l₂) e) e)
    (hs : swapsWith value (some (.Name x pos')) pos.line env = pure false := by rfl) : WF C A l (exec (.Assign [.Name x pos'] value pos) env) k e := fun r s hs' Γ p hΓ hN => by
  simp only [exec_Assign_Name env x pos' value pos hs, Sem.wp_bind', Sem.wp_cmd_standAt, Sem.wp_bindName, Sem.wp_pure']
  exact (h.step hs' fun v l₁ s₁ h₁ hs₁ => h₁ r s₁ hs₁) Γ _ hΓ hN |> Sem.wp_mono _ Γ _ (fun v _ s₁ h₁ => h₁ Γ _ hΓ hN) (fun _ _ _ h' => h') _ _
theorem wf_runValue {c : Code} {k : Value → Led → Prop} (h : CWF C A l c (vK k e)) : WF C A l (runValue c) k e := fun r s hs =>
  wpF_runValue fun Γ p hc hΓ hN => wpCode_mono (fun x s' ⟨l', hx, hs'⟩ => by
    match x, hx with
    | .ok (.ret v), hx => exact ⟨l', hx, hs'⟩
    | .error z, hx => exact ⟨l', hx, hs'⟩) (h r s hs Γ p hc hΓ hN)
theorem wf_Try_ok {body orelse : List Stmt} {h₀ : ExceptHandler} {hs : List ExceptHandler} {tpos : Pos} {k : Flow → Led → Prop}
    (h : WF C A l (execs body env) (fun f l' => match f with | .next => WF C A l' (execs orelse env) k e | f => k f l') noE) : WF C A l (exec (.Try body (h₀ :: hs) orelse [] tpos) env) k e := by
  rw [arm_exec_Try]
  refine wf_bind (wf_standAt ?_)
  unfold tryStmt
  simp only [List.isEmpty_nil, if_true, List.isEmpty_cons, Bool.false_and, Bool.false_eq_true, if_false]
  refine wf_bind (wf_attempt (h.mono (fun f l₁ h₁ => ?_) fun _ _ z => z.elim))
  cases f with
  | next => exact h₁
  | brk => exact wf_pure h₁
  | cont => exact wf_pure h₁
  | ret v => exact wf_pure h₁
theorem wf_loadO {a : Addr} {o : Obj} {f : Obj → Sem α} {k : α → Led → Prop} (ho : C.B.get? a = some o) (h : WF C A l (f o) k e) : WF C A l (load a >>= f) k e :=
  wf_bind (.of fun r s hs => wpAny_load (hs.old ho) ⟨l, h, hs⟩)
theorem wf_fieldO {a : Addr} {o : Obj} {vs : Array Value} {i : Nat} {v : Value} {f : Value → Sem α} {k : α → Led → Prop} (ho : C.B.get? a = some o) (hd : o.data = .fields vs) (hv : vs[i]? = some v) (h : WF C A l (f v) k e) : WF C A l (field (.ref a) i >>= f) k e :=
  wf_bind (.of fun r s hs => wpAny_field (hs.old ho) hd hv ⟨l, h, hs⟩)
theorem WF.subQ {t : Sem α} {k : α → Led → Prop} (h : WF C A l t (fun a l' => ∃ l₁, Sub l₁ l' ∧ k a l₁) e) : WF C A l t k e := fun r s hs =>
  h.then hs (fun a l' s' ⟨l₁, hS, hk⟩ hs₁ => ⟨l₁, hk, hs₁.sub (hS.app r)⟩) fun x l' s' hx hs₁ => ⟨l', hx, hs₁⟩
theorem cwf_func {body : List Stmt} {R : Result → Led → Prop} (h : WF C (A.deeper env) l (execs body env) (fun f l' => R (.ok (.ret (match f with | .ret v => v | _ => .none))) l') noE) : CWF C A l (.func body env) R := by
  refine cwf_tree nf_func ?_
  show WF C (A.deeper env) l (do PySem.point; match ← (execs body env).onRaise (leaving env) with | .ret v => ret v | _ => ret .none) _ _
  refine wf_bind (wf_point (wf_bind (wf_onRaise (h.mono (fun f l' h' => ?_) fun _ _ z => z.elim))))
  cases f <;> exact wf_pure h'
/-- a plain function -/
theorem cwf_fn {R : Result → Led → Prop} {a : Addr} {o : Obj} {fd : FuncData} {body : List Stmt} {args : Args}
    (hlim : C.B.NoLimit) (hroom : A.depth < recursionLimit) (ho : C.B.get? a = some o) (hdata : o.data = .func fd) (hcd : C.B.CodeRec fd.code fd.qualname)
    (hbody : fd.body = .stmts body) (hcell : ∀ x ∈ fd.scope.names, x.2 ≠ .cell)
    (hb : W C A.in1 l (bindArgs fd args) (fun binds l' => (∀ x ∈ binds, fd.scope.names.lookup x.1 = some .local) ∧
      ∀ L, WF C (A.deeper (callEnv fd L a)) ((L, nsP binds.reverse) :: l') (execs body (callEnv fd L a)) (fun f l' => ∃ l₁, Sub l₁ l' ∧ R (.ok (.ret (match f with | .ret v => v | _ => .none))) l₁) noE) noE)
    (hco : fd.scope.isCoroutine = false := by rfl) (hgen : fd.scope.isGenerator = false := by rfl) (hk : fd.scope.kind = .function := by rfl) : CWF C A l (.call (.ref a) args) R := by
  refine cwf_tree nf_call ?_
  show WF C A.in1 l (callAny (.ref a) args) _ _
  simp only [callAny]
  refine wf_loadO ho ?_
  obtain ⟨c, oc, vs, tq, hc, hoc, hdc, hq⟩ := hcd
  simp only [hdata, callFunction, hco, hgen, hbody, hc]
  refine wf_fieldO hoc hdc hq ?_
  refine wf_bind (wf_pure ?_)
  refine wf_bind (.of (hb.mono (fun binds l₁ h₁ => ?_) fun _ _ z => z.elim))
  intro r s hs
  refine wpF_bind (.of (wpAny_newFunctionEnv hcell h₁.1 (fun h₀ hns₀ hsb₀ => ?_) hk))
  have hk₀ : ∀ b o, s.heap.get? b = some o → h₀.get? b = some o := fun b o e => hsb₀.extBut b o (Nat.ne_of_lt (Heap.lt_size e)) (Heap.get?_push_of_some _ e)
  have hs' : St C ((s.heap.objs.size, nsP binds.reverse) :: l₁ ++ r) { s with heap := h₀, toks := s.toks + binds.length } := by
    obtain ⟨o', es, ep, ho', hd, hkk, hf⟩ := hns₀
    exact ⟨hs.hp.new hk₀ (get_size _) ho' ⟨es, ep, hd, hkk, hf⟩, hs.bare, hs.os⟩
  refine wpF_bind (.of (wpAny_enterFrame ((hlim.keeps hs.hp.base).fresh _ hsb₀) hroom ?_))
  refine .of (wpAny_pure ⟨_, ⟨rfl, ?_⟩, hs'⟩)
  refine cwf_func ?_
  have he : newEnv fd.scope s.heap.objs.size fd.globals fd.closure (fd.qualname ++ Str.ofString ".<locals>.") (some a) (Value.ref c) none fd.builtins = callEnv fd s.heap.objs.size a := by
    unfold callEnv; rw [hc]
  rw [he]
  exact (h₁.2 _).subQ
/-- a call of a def with cells -/
theorem cwf_defC {R : Result → Led → Prop} {a : Addr} {o : Obj} {fd : FuncData} {body : List Stmt} {vals : List Value} {binds : List (Str × Value)} {vs : Vars} {cl : Addr → Led}
    (hlim : C.B.NoLimit) (hroom : A.depth < recursionLimit) (ho : C.B.get? a = some o) (hdata : o.data = .func fd) (hcd : C.B.CodeRec fd.code fd.qualname)
    (hbody : fd.body = .stmts body) (hbind : bindArgs fd ⟨vals, []⟩ = pure binds) (hclo : fd.closure = [])
    (hkind : ∀ k, ∀ x ∈ binds, fd.scope.names.lookup x.1 = some .local ∨ (fd.scope.names.lookup x.1 = some .cell ∧ ((cellsFrom k fd.scope.names []).lookup x.1).isSome = true))
    (hnd : ∀ L, ((cellsFrom (L + 1) fd.scope.names []).map (·.1)).Nodup)
    (hvs : ∀ L, putL (callEnvC fd L a).kindOf binds [] = vs) (hcl : ∀ L, cellL (cellsFrom (L + 1) fd.scope.names []) (bindC (callEnvC fd L a).kindOf binds fun _ => none) = cl L)
    (h : ∀ L, WF C (A.deeper (callEnvC fd L a)) ((L, nsP vs) :: (cl L ++ l)) (execs body (callEnvC fd L a)) (fun f l' => ∃ l₁, Sub l₁ l' ∧ R (.ok (.ret (match f with | .ret v => v | _ => .none))) l₁) noE)
    (hco : fd.scope.isCoroutine = false := by rfl) (hgen : fd.scope.isGenerator = false := by rfl) (hk : fd.scope.kind = .function := by rfl) : CWF C A l (.call (.ref a) ⟨vals, []⟩) R := by
  refine cwf_tree nf_call ?_
  show WF C A.in1 l (callAny (.ref a) ⟨vals, []⟩) _ _
  simp only [callAny]
  refine wf_loadO ho ?_
  have hcd' := hcd
  obtain ⟨c, oc, vv, tq, hc, hoc, hdc, hq⟩ := hcd
  simp only [hdata, callFunction, hco, hgen, hbody, hc]
  refine wf_fieldO hoc hdc hq ?_
  refine wf_bind (wf_pure ?_)
  rw [hbind, hclo]
  refine wf_bind (wf_pure ?_)
  intro r s hs
  refine wpF_bind (.of (wpAny_newFunctionEnv_cells hk (hkind _) fun env he s₁ X => ?_))
  have he' : env = callEnvC fd s.heap.objs.size a := by rw [he]; unfold callEnvC; rw [hc]
  clear he; subst he'
  obtain ⟨h', tk, rfl⟩ := X.toInCall.same
  have hcells : (callEnvC fd s.heap.objs.size a).cells = cellsFrom (s.heap.objs.size + 1) fd.scope.names [] := rfl
  have hL : (callEnvC fd s.heap.objs.size a).locals = s.heap.objs.size := rfl
  have hs' : St C ((s.heap.objs.size, nsP vs) :: (cl s.heap.objs.size ++ l) ++ r) { s with heap := h', toks := tk } := by
    have key := Hp.cells (h' := h') hs.hp X.toInCall.keep (new := (s.heap.objs.size, nsP vs) :: cl s.heap.objs.size) ?_ ?_
    · exact ⟨by simpa [List.append_assoc] using key, hs.bare, hs.os⟩
    · intro p hp
      rcases List.mem_cons.mp hp with rfl | hp
      · obtain ⟨o', es, ep, ho', hd, hkk, hf⟩ := X.toInCall.ns
        exact ⟨Nat.le_refl _, o', ho', es, ep, hd, hkk, fun name => by rw [hf, ← hvs s.heap.objs.size]; exact bindL_putL binds _ [] (fun _ => rfl) name⟩
      · rw [← hcl] at hp
        obtain ⟨⟨n, c⟩, hq, rfl⟩ := List.mem_map.mp hp
        have h1 := X.above n c hq
        rw [hL] at h1
        obtain ⟨o', ho', hd⟩ := X.cell n c (by rw [hcells]; exact lookup_of_mem_cells (hnd _) hq)
        exact ⟨Nat.le_of_lt h1, o', ho', hd⟩
    · rw [List.map_cons, List.nodup_cons, ← hcl]
      refine ⟨fun hm => ?_, cellL_nd X.apart⟩
      obtain ⟨p, hp, e⟩ := List.mem_map.mp hm
      obtain ⟨⟨n, c⟩, hq, rfl⟩ := List.mem_map.mp hp
      have h1 := X.above n c hq
      rw [hL] at h1
      have e' : c = s.heap.objs.size := e
      exact absurd e' (Nat.ne_of_gt h1)
  refine wpF_bind (.of (wpAny_enterFrame ((hlim.keeps hs.hp.base).keeps X.toInCall.keep) hroom ?_))
  exact .of (wpAny_pure ⟨_, ⟨rfl, cwf_func (h s.heap.objs.size).subQ⟩, hs'⟩)
end
end Mine
end
/-! U3 -/
section
open PySem PySem.W PySem.Calls PyProof.Rows
set_option maxRecDepth 100000
set_option linter.all false
namespace Mine
section
variable {α β : Type} {C : Cx} {A : Around} {l : Led} {e : Value → Led → Prop} {env : Env}
theorem cwf_builtin {id : String} {args : Args} {b : Builtin} {R : Result → Led → Prop} (hn : id ≠ "lifetime.gc.finalise") (hp : plainId id = true) (hb : entryFor table id = some b)
    (h : WF C A.in1 l (b args) (fun fin l' => match fin with | .done f => R (.ok f) l' | .again c' => c'.quiet = true ∧ CWF C A l' c' R) noE) : CWF C A l (.builtin id args) R := by
  refine cwf_tree (nf_builtin hn) ?_
  rw [Around.under_plainId hp]
  show WF C A.in1 l (match entryFor table id with | some b => b args | none => unsupported ((withoutEnding? id "#data").getD id)) _ _
  rw [hb]; exact h.mono (fun _ _ z => z) fun _ _ z => z.elim
theorem cwf_callB {id : String} {args : Args} {b : Builtin} {R : Result → Led → Prop} (hn : id ≠ "lifetime.gc.finalise") (hp : plainId id = true) (hc : W C A.in1 l (checkBuiltinCall id args) (fun _ l₁ => l₁ = l) noE) (hb : entryFor table id = some b)
    (h : WF C A.in1 l (b args) (fun fin l' => match fin with | .done f => R (.ok f) l' | .again c' => c'.quiet = true ∧ CWF C A l' c' R) noE) : CWF C A l (.call (.builtin id) args) R := by
  refine cwf_tree nf_call ?_
  show WF C A.in1 l (do checkBuiltinCall id args; again (.builtin id args)) _ _
  refine wf_bind (.of (hc.mono (fun _ l₁ e₁ => ?_) fun _ _ z => z.elim))
  subst e₁
  exact wf_pure ⟨plainId_quiet hp args, cwf_builtin hn hp hb h⟩
theorem codeF_builtin {id : String} {args : Args} {b : Builtin} {w : World} {R : Result → Shared → Prop} {s : Shared} (hn : id ≠ "lifetime.gc.finalise") (hp : plainId id = true) (hb : entryFor table id = some b)
    (h : wpF (model P w) A.in1 (b args) (fun fin s' => match fin with | .done f => R (.ok f) s' | .again c' => c'.quiet = true ∧ codeF (model P w) A c' R s') (fun e s' => R (.error e) s') s) : codeF (model P w) A (.builtin id args) R s := by
  refine codeF_of_tree (nf_builtin hn) ?_
  rw [Around.under_plainId hp]
  show wpF _ A.in1 (match entryFor table id with | some b => b args | none => unsupported ((withoutEnding? id "#data").getD id)) _ _ _
  rw [hb]; exact h
/-- the own dict of an instance, made real -/
def idS (C : Cx) (k : Nat) (vs : Vars) (o : Obj) : Prop := idP C k vs o ∧ o.slots.isEmpty = false
theorem w_dictReal2 (S : Ok C) {x Cc d : Addr} {kk : Nat} {vs : Vars} {k : Option Addr → Led → Prop} (hx : (x, (· = instObj Cc d)) ∈ l) (R : Rep d (idS C kk vs) (idS C kk vs) l l)
    (hc : ∃ cd, clsIn (KF C.w.params) Cc = some cd ∧ cd.hasDict = true) (h : k (some d) l) : W C A l (instanceDictHandedOut x) k e := by
  unfold instanceDictHandedOut
  obtain ⟨cd, hcd, hhd⟩ := hc
  have h1 : ∀ (k : Option Addr → Led → Prop), k (some d) l → W C A l (instanceDict x true) k e := fun k hk r s hs => by
    obtain ⟨ox, hox, rfl⟩ := hs.get hx
    unfold instanceDict
    refine wpAny_bind (wpAny_loadPart hox ?_)
    dsimp only [instObj]
    refine wpAny_bind ((looks_clsIn (S.kis hs) hcd).here ?_)
    rw [hhd]
    exact wpAny_pure ⟨l, hk, hs⟩
  refine w_bind (h1 _ ?_)
  dsimp only
  refine w_bind fun r s hs => ?_
  obtain ⟨ox, hox, rfl⟩ := hs.get hx
  refine wpAny_loadPart hox ⟨l, ?_, hs⟩
  clear hs hox
  dsimp only [instObj]
  refine w_bind (W.mono (k' := fun w l' => w = none ∧ l' = l) (e' := noE) ?_ ?_ fun _ _ z => z.elim)
  rotate_left
  · rintro w l₁ ⟨rfl, rfl⟩
    refine w_bind (w_update R (fun o ho => ?_) (w_pure h))
    rw [if_neg (by rw [ho.2]; decide)]
    refine ⟨ho, ?_⟩
    obtain ⟨⟨h1, h2, es, ep, hd, hz⟩, _⟩ := ho
    obtain ⟨c, dd, dt, sl⟩ := o
    simp only at h1 h2 hd
    subst h1 h2 hd
    rfl
  show W C A l (do
    let o ← load d
    let ofTheHeap : Value → Bool := fun | .ref _ | .builtin _ => true | _ => false
    let holdsSuch := match o.data with
      | .dict es _ => es.any fun e => ofTheHeap e.key || ofTheHeap e.val
      | _ => true
    if !o.slots.isEmpty || !holdsSuch then return none
    match (← stack).findSome? (fun (act : Code × Pos) => match act.1 with
      | .builtin "lifetime.gc.finalise" ⟨pos, gone⟩ => some (pos.head?, gone)
      | _ => none) with
    | some (mode, gone) =>
      if !gone.any (fun (g : Str × Value) => match g.2 with
        | .int n _ => n.toNat == d
        | _ => false) then return none
      return match mode with
        | some (.int 1 _) | some (.int 2 _) => none
        | _ => some "lifetime:an-instances-dict-is-made-real-inside-the-collection-that-found-it"
    | none =>
      if (← nsGet cStatics "_thread.count").isNone then return none
      return if (← runValue (.builtin "gc.ask" ⟨[rawInt Ask.isCollecting], []⟩)) != .bool false then some "lifetime:an-instances-dict-is-made-real-on-another-thread-while-a-collection-is-under-way" else none : Sem (Option String)) _ _
  refine w_bind fun r s hs => ?_
  obtain ⟨od, hod, hP⟩ := hs.get R.mem
  refine wpAny_load hod ⟨l, ?_, hs⟩
  clear hs hod
  dsimp only
  rw [hP.2]
  exact w_pure ⟨rfl, rfl⟩
theorem wf_dictReal (S : Ok C) {x Cc d : Addr} {kk : Nat} {vs : Vars} {l' : Led} {k : Option Addr → Led → Prop} (hx : (x, (· = instObj Cc d)) ∈ l) (R : Rep d (idP C kk vs) (idS C kk vs) l l')
    (hc : ∃ cd, clsIn (KF C.w.params) Cc = some cd ∧ cd.hasDict = true) (h : k (some d) l') : WF C A l (instanceDictHandedOut x) k e := by
  unfold instanceDictHandedOut
  obtain ⟨cd, hcd, hhd⟩ := hc
  have h1 : ∀ (k : Option Addr → Led → Prop), k (some d) l → WF C A l (instanceDict x true) k e := fun k hk => .of fun r s hs => by
    obtain ⟨ox, hox, rfl⟩ := hs.get hx
    unfold instanceDict
    refine wpAny_bind (wpAny_loadPart hox ?_)
    dsimp only [instObj]
    refine wpAny_bind ((looks_clsIn (S.kis hs) hcd).here ?_)
    rw [hhd]
    exact wpAny_pure ⟨l, hk, hs⟩
  refine wf_bind (h1 _ ?_)
  dsimp only
  refine wf_bind (.of fun r s hs => ?_)
  obtain ⟨ox, hox, rfl⟩ := hs.get hx
  refine wpAny_loadPart hox ⟨l, ?_, hs⟩
  dsimp only [instObj]
  refine wf_bind (WF.mono (k' := fun w l' => w = none ∧ l' = l) (e' := noE) ?_ ?_ fun _ _ z => z.elim)
  rotate_left
  · rintro w l₁ ⟨rfl, rfl⟩
    refine wf_bind (.of (w_update R (fun o ho => ?_) (wf_pure h)))
    obtain ⟨h1, h2, es, ep, hd, hz⟩ := ho
    obtain ⟨c, dd, dt, sl⟩ := o
    simp only at h1 h2 hd
    subst h1 h2 hd
    cases q : sl.isEmpty with
    | true => exact ⟨⟨⟨rfl, rfl, es, ep, rfl, hz⟩, by simp [q]⟩, by simp [q, Obj.isFreed]⟩
    | false => exact ⟨⟨⟨rfl, rfl, es, ep, by simp [q], hz⟩, by simp [q]⟩, by simp [q, Obj.isFreed]⟩
  show WF C A l (do
    let o ← load d
    let ofTheHeap : Value → Bool := fun | .ref _ | .builtin _ => true | _ => false
    let holdsSuch := match o.data with
      | .dict es _ => es.any fun e => ofTheHeap e.key || ofTheHeap e.val
      | _ => true
    if !o.slots.isEmpty || !holdsSuch then return none
    match (← stack).findSome? (fun (act : Code × Pos) => match act.1 with
      | .builtin "lifetime.gc.finalise" ⟨pos, gone⟩ => some (pos.head?, gone)
      | _ => none) with
    | some (mode, gone) =>
      if !gone.any (fun (g : Str × Value) => match g.2 with
        | .int n _ => n.toNat == d
        | _ => false) then return none
      return match mode with
        | some (.int 1 _) | some (.int 2 _) => none
        | _ => some "lifetime:an-instances-dict-is-made-real-inside-the-collection-that-found-it"
    | none =>
      if (← nsGet cStatics "_thread.count").isNone then return none
      return if (← runValue (.builtin "gc.ask" ⟨[rawInt Ask.isCollecting], []⟩)) != .bool false then some "lifetime:an-instances-dict-is-made-real-on-another-thread-while-a-collection-is-under-way" else none : Sem (Option String)) _ _
  refine wf_bind (.of fun r s hs => ?_)
  obtain ⟨od, hod, hP⟩ := hs.get R.mem
  refine wpAny_load hod ⟨l, ?_, hs⟩
  obtain ⟨_, _, es, ep, hd, _⟩ := hP
  clear hs hod
  rw [hd]
  dsimp only
  split
  · exact wf_pure ⟨rfl, rfl⟩
  intro r s hs
  refine wpF_bind (wpF_stack fun st hst => ?_)
  have e1 : st.findSome? (fun (act : Code × Pos) => match act.1 with
      | .builtin "lifetime.gc.finalise" ⟨pos, gone⟩ => some (pos.head?, gone)
      | _ => none) = none := by
    rw [List.findSome?_eq_none_iff]
    intro x hx
    have := hst x hx
    split
    · rename_i q
      exact absurd q (this _)
    · rfl
  rw [e1]
  refine wpF_bind (.of ((looks_nsIn (S.kis hs) (r := none) (by kernel_rfl)).here ?_))
  exact .of (wpAny_pure ⟨l, ⟨rfl, rfl⟩, hs⟩)
theorem w_fieldO {a : Addr} {o : Obj} {vs : Array Value} {i : Nat} {v : Value} {k : Value → Led → Prop} (ho : C.B.get? a = some o) (hd : o.data = .fields vs) (hv : vs[i]? = some v) (h : k v l) : W C A l (field (.ref a) i) k e :=
  fun r s hs => wpAny_field (hs.old ho) hd hv ⟨l, h, hs⟩
theorem w_fieldsO {a : Addr} {o : Obj} {vs : Array Value} {k : Array Value → Led → Prop} (ho : C.B.get? a = some o) (hd : o.data = .fields vs) (h : k vs l) : W C A l (fieldsOf (.ref a)) k e :=
  fun r s hs => wpAny_bind (wpAny_load (hs.old ho) (by rw [hd]; exact wpAny_pure ⟨l, h, hs⟩))
theorem w_isInst (S : Ok C) {x Cc d : Addr} {p : Obj → Prop} {base : Value} {b : Bool} {k : Bool → Led → Prop} (hx : (x, (· = instObj Cc d)) ∈ l) (hd : (d, p) ∈ l) (hm : mroIn (KF C.w.params) Cc base = some b) (h : k b l) : W C A l (isInstance (.ref x) base) k e := fun r s hs => by
  obtain ⟨ox, hox, rfl⟩ := hs.get hx
  have J : InstAt s.heap x (instObj Cc d) Cc (some _) := ⟨hox, rfl, rfl, (hs.get hd).choose_spec.1⟩
  exact wpAny_bind ((J.type (M := model P C.w)).here ((looks_mroIn (S.kis hs) hm).here ⟨l, h, hs⟩))
theorem wf_getbind (S : Ok C) {x Cc dx : Addr} {vs : Vars} {name : Str} {g a : Value} {o : Option Value} {expr : Bool} {k : Value → Led → Prop} (I : Inst C l x Cc dx vs) (hv : vs.lookup name = o)
    (h : CWF C A.in1 l (.call g ⟨[a, .ref x, .ref Cc], []⟩) (vK (fun v l' => handedIn v = true ∧ k v l') noE))
    (hf : findObj (KF C.w.params) Cc (some (one name o)) name = some (.bind g a) := by kernel_rfl) (hga : findIn (KF C.w.params) (.ref Cc) "__getattribute__" = some (some (.builtin "object.__getattribute__")) := by kernel_rfl)
    (hk : findIn (KF C.w.params) (.ref Cc) "__getattr__" = some none := by kernel_rfl) :
    WF C A l (getAttr (.ref x) name expr) k e := by
  intro r s hs
  obtain ⟨od, J, hP⟩ := I.at hs
  have L0 := J.type (M := model P C.w)
  have L1 := looks_findIn (M := model P C.w) (S.kis hs) hga
  have L2 := looks_find (M := model P C.w) (S.kis hs) J (by rw [findObj_one (lookIn_ns hP name), hv]; exact hf)
  have L3 := looks_findIn (M := model P C.w) (S.kis hs) hk
  unfold getAttr getAttrBy
  refine wpF_bind (.of (wpAny_mkText ?_))
  refine wpF_holding (wpF_bind (.of (L0.here (s := { s with toks := s.toks + 1 }) ?_)))
  refine wpF_bind (.of (L1.here (s := { s with toks := s.toks + 1 }) ?_))
  show wpF _ _ (getAttrEveryday _ _ _) _ _ _
  refine wpF_bind (wpF_onRaise (wpF_runValue ?_))
  refine codeF_builtin (by decide) (by decide +kernel) F.plainObj_entry_getattr_hooked ?_
  refine wpF_bind (.of (wpAny_pure ?_))
  refine wpF_bind (.of (L0.here (s := { s with toks := s.toks + 1 }) ?_))
  refine wpF_bind (.of (L2.here (s := { s with toks := s.toks + 1 }) ?_))
  dsimp only
  refine wpF_bind (.of (L3.here (s := { s with toks := s.toks + 1 }) ?_))
  show wpF _ _ (holding [a] (call g [a, .ref x, .ref Cc]) >>= ret) _ _ _
  refine wpF_bind (wpF_holding ((wf_callV h).then (s := { s with toks := s.toks + 1 }) hs.toks (fun v l' s' ⟨h1, h2⟩ hs' => ?_) fun _ _ _ z => z.elim))
  refine .of (wpAny_pure ?_)
  show wpF _ _ (handedOut v) _ _ _
  rw [handedOut_of h1]
  exact .of (wpAny_pure ⟨l', h2, hs'⟩)
/-- the descriptor of the own dict -/
theorem wf_callDict (S : Ok C) {x Cc d : Addr} {kk : Nat} {vs : Vars} {l' : Led} {k : Value → Led → Prop} (hx : (x, (· = instObj Cc d)) ∈ l) (R : Rep d (idP C kk vs) (idS C kk vs) l l')
    (hc : ∃ cd, clsIn (KF C.w.params) Cc = some cd ∧ cd.hasDict = true) (hm : mroIn (KF C.w.params) Cc (.ref 645) = some true) (hm1 : mroIn (KF C.w.params) Cc (.type "staticmethod") = some false) (hm2 : mroIn (KF C.w.params) Cc (.type "classmethod") = some false) (h : k (.ref d) l') : CWF C A l (.call (.builtin "getset_descriptor.__get__") ⟨[.ref 646, .ref x, .ref Cc], []⟩) (vK k e) := by
  refine cwf_callB (b := Builtin.«getset_descriptor.__get__») (by decide) (by decide +kernel) ?_ F.entry_gs_get ?_
  · intro r s hs
    obtain ⟨od, hod, hcl⟩ : ∃ o, s.heap.get? 646 = some o ∧ o.cls = .type "getset_descriptor" := ⟨_, hs.old (S.k 646 _ rfl (by decide) (by decide)), rfl⟩
    obtain ⟨hh, g, d', t, os⟩ := s
    exact F.slot_gs_get.check _ _ _ _ _ _ _ _ ⟨_, hod, hcl⟩ (F.args_gs_get _ _ _) ⟨l, rfl, hs⟩
  show WF C A.in1 l (do
    Builtin.Getset_descriptor.descrCheckInstance (.ref 646) (.ref x)
    let .builtin id ← field (.ref 646) 2 | unsupported "internal:descriptor-getter"
    rule "descr.get.record"
    again (.builtin id ⟨.ref x :: (← Builtin.Getset_descriptor.descrItself (.ref 646)), []⟩)) _ _
  have h646 := S.k 646 _ rfl (by decide) (by decide)
  refine wf_bind (.of (w_bind (w_bind (w_fieldO h646 rfl rfl (w_bind (w_fieldO h646 rfl rfl (w_pure ?_)))))))
  dsimp only
  refine w_bind (w_isInst S hx R.mem hm (w_pure ?_))
  refine wf_fieldO h646 rfl rfl ?_
  refine wf_bind (wf_rule (wf_bind (.of ?_)))
  show W C A.in1 l (do return if (← fieldsOf (.ref 646)).size > 4 then [Value.ref 646] else []) _ _
  refine w_bind (w_fieldsO h646 rfl (w_pure ?_))
  rw [if_neg (by decide)]
  refine wf_pure ⟨plainId_quiet (by decide +kernel) _, cwf_builtin (b := Builtin.«function.__dict__») (by decide) (by decide +kernel) (entryFor_of_tree (by kernel_rfl)) ?_⟩
  refine wf_bind (.of (w_bind (w_isInst S hx R.mem hm1 (w_isInst S hx R.mem hm2 ?_))))
  dsimp only
  rw [if_neg (by decide)]
  exact wf_bind (wf_dictReal S hx R hc (wf_pure h))
theorem cw_builtinP {id : String} {args : Args} {b : Builtin} {R : Result → Led → Prop} (hn : id ≠ "lifetime.gc.finalise") (hp : plainId id = true) (hb : entryFor table id = some b)
    (h : W C A.in1 l (b args) (fun fin l' => match fin with | .done f => R (.ok f) l' | .again c' => c'.quiet = true ∧ CW C A l' c' R) noE) : CW C A l (.builtin id args) R := fun r s hs => by
  refine codeAny_builtin hb ?_
  rw [Around.under_plainId hp]
  refine h.then hs (fun fin l' s' hk hs' => ?_) fun _ _ _ z => z.elim
  cases fin with
  | done f => exact ⟨l', hk, hs'⟩
  | again c' => exact ⟨hk.1, hk.2 r s' hs'⟩
theorem cw_callBP {id : String} {args : Args} {b : Builtin} {R : Result → Led → Prop} (hn : id ≠ "lifetime.gc.finalise") (hp : plainId id = true) (hc : W C A.in1 l (checkBuiltinCall id args) (fun _ l₁ => l₁ = l) noE) (hb : entryFor table id = some b)
    (h : W C A.in1 l (b args) (fun fin l' => match fin with | .done f => R (.ok f) l' | .again c' => c'.quiet = true ∧ CW C A l' c' R) noE) : CW C A l (.call (.builtin id) args) R := fun r s hs => by
  refine codeAny_of_tree ?_
  show wpAny _ A.in1 (do checkBuiltinCall id args; again (.builtin id args)) _ _ s
  refine wpAny_bind (hc.then hs (fun _ l₁ s₁ e₁ hs₁ => ?_) fun _ _ _ z => z.elim)
  subst e₁
  exact wpAny_pure ⟨plainId_quiet hp args, cw_builtinP hn hp hb h r s₁ hs₁⟩
theorem cw_callDict2 (S : Ok C) {x Cc d : Addr} {kk : Nat} {vs : Vars} {k : Value → Led → Prop} (hx : (x, (· = instObj Cc d)) ∈ l) (R : Rep d (idS C kk vs) (idS C kk vs) l l)
    (hc : ∃ cd, clsIn (KF C.w.params) Cc = some cd ∧ cd.hasDict = true) (hm : mroIn (KF C.w.params) Cc (.ref 645) = some true) (hm1 : mroIn (KF C.w.params) Cc (.type "staticmethod") = some false) (hm2 : mroIn (KF C.w.params) Cc (.type "classmethod") = some false) (h : k (.ref d) l) : CW C A l (.call (.builtin "getset_descriptor.__get__") ⟨[.ref 646, .ref x, .ref Cc], []⟩) (vK k e) := by
  refine cw_callBP (b := Builtin.«getset_descriptor.__get__») (by decide) (by decide +kernel) ?_ F.entry_gs_get ?_
  · intro r s hs
    obtain ⟨od, hod, hcl⟩ : ∃ o, s.heap.get? 646 = some o ∧ o.cls = .type "getset_descriptor" := ⟨_, hs.old (S.k 646 _ rfl (by decide) (by decide)), rfl⟩
    obtain ⟨hh, g, d', t, os⟩ := s
    exact F.slot_gs_get.check _ _ _ _ _ _ _ _ ⟨_, hod, hcl⟩ (F.args_gs_get _ _ _) ⟨l, rfl, hs⟩
  show W C A.in1 l (do
    Builtin.Getset_descriptor.descrCheckInstance (.ref 646) (.ref x)
    let .builtin id ← field (.ref 646) 2 | unsupported "internal:descriptor-getter"
    rule "descr.get.record"
    again (.builtin id ⟨.ref x :: (← Builtin.Getset_descriptor.descrItself (.ref 646)), []⟩)) _ _
  have h646 := S.k 646 _ rfl (by decide) (by decide)
  refine w_bind ((w_bind (w_bind (w_fieldO h646 rfl rfl (w_bind (w_fieldO h646 rfl rfl (w_pure ?_)))))))
  dsimp only
  refine w_bind (w_isInst S hx R.mem hm (w_pure ?_))
  refine w_bind (w_fieldO h646 rfl rfl ?_)
  refine w_bind (w_rule (w_bind (?_)))
  show W C A.in1 l (do return if (← fieldsOf (.ref 646)).size > 4 then [Value.ref 646] else []) _ _
  refine w_bind (w_fieldsO h646 rfl (w_pure ?_))
  rw [if_neg (by decide)]
  refine w_pure ⟨plainId_quiet (by decide +kernel) _, cw_builtinP (b := Builtin.«function.__dict__») (by decide) (by decide +kernel) (entryFor_of_tree (by kernel_rfl)) ?_⟩
  refine w_bind ((w_bind (w_isInst S hx R.mem hm1 (w_isInst S hx R.mem hm2 ?_))))
  dsimp only
  rw [if_neg (by decide)]
  exact w_bind (w_dictReal2 S hx R hc (w_pure h))
theorem w_getbindS (S : Ok C) {x Cc dx : Addr} {p : Obj → Prop} {vs : Vars} {name : Str} {g a : Value} {o : Option Value} {expr : Bool} {k : Value → Led → Prop} (hx : (x, (· = instObj Cc dx)) ∈ l) (hd : (dx, p) ∈ l) (hp : ∀ o, p o → nsP vs o) (hv : vs.lookup name = o)
    (h : W C A.in1 l (call g [a, .ref x, .ref Cc]) (fun v l' => handedIn v = true ∧ k v l') noE)
    (hf : findObj (KF C.w.params) Cc (some (one name o)) name = some (.bind g a) := by kernel_rfl) (hga : findIn (KF C.w.params) (.ref Cc) "__getattribute__" = some (some (.builtin "object.__getattribute__")) := by kernel_rfl)
    (hk : findIn (KF C.w.params) (.ref Cc) "__getattr__" = some none := by kernel_rfl) :
    W C A l (getAttr (.ref x) name expr) k e := fun r s hs => by
  obtain ⟨ox, hox, rfl⟩ := hs.get hx
  obtain ⟨od, hod, hP⟩ := hs.get hd
  have J : InstAt s.heap x (instObj Cc dx) Cc (some od) := ⟨hox, rfl, rfl, hod⟩
  refine get_bind (S.kis hs) J hga (by rw [findObj_one (lookIn_ns (hp _ hP) name), hv]; exact hf) hk ?_
  refine h.then (s := { s with toks := s.toks + 1 }) hs.toks (fun v l' s' ⟨h1, h2⟩ hs' => ?_) fun _ _ _ z => z.elim
  rw [handedOut_of h1]; exact wpAny_pure ⟨l', h2, hs'⟩
/-- graph.__dict__ -/
theorem wf_dictAttr (S : Ok C) {x d : Addr} {kk : Nat} {vs : Vars} {l' : Led} {expr : Bool} {k : Value → Led → Prop} (hx : (x, (· = instObj 860 d)) ∈ l) (hkk : kk ≤ 900) (R : Rep d (idP C kk vs) (idS C kk vs) l l') (h : k (.ref d) l') (hv : vs.lookup ("__dict__" : Str) = none := by rfl) :
    WF C A l (getAttr (.ref x) "__dict__" expr) k e :=
  wf_getbind S ⟨hx, kk, hkk, R.mem⟩ hv (wf_callDict S hx R ⟨_, rfl, rfl⟩ (by kernel_rfl) (by kernel_rfl) (by kernel_rfl) ⟨rfl, h⟩)
theorem w_dictAttr2 (S : Ok C) {x d : Addr} {kk : Nat} {vs : Vars} {expr : Bool} {k : Value → Led → Prop} (hx : (x, (· = instObj 860 d)) ∈ l) (hkk : kk ≤ 900) (R : Rep d (idS C kk vs) (idS C kk vs) l l) (h : k (.ref d) l) (hv : vs.lookup ("__dict__" : Str) = none := by rfl) :
    W C A l (getAttr (.ref x) "__dict__" expr) k e :=
  w_getbindS S hx R.mem (fun _ ho => ho.1.ns) hv (w_callV (cw_callDict2 S hx R ⟨_, rfl, rfl⟩ (by kernel_rfl) (by kernel_rfl) (by kernel_rfl) ⟨rfl, h⟩))
end
end Mine
end
/-! U4 -/
section
open PySem PySem.W PySem.Calls PyProof.Rows
set_option maxRecDepth 100000
set_option linter.all false
namespace Mine
section
variable {α β : Type} {C : Cx} {A : Around} {l : Led} {e : Value → Led → Prop} {env : Env}
/-! the own dict that was handed out, as a dict -/
theorem str_is {w : World} (x : Str) : (fun v : Value => (strKind P w).is x v) = fun v => v.isStr x := by
  funext v
  cases v <;> first | rfl | simp [strKind, Value.isStrOf, Value.isStr]
theorem str_is' {w : World} (x : Str) : (fun e : DictEntry => (strKind P w).is x e.key) = fun e => e.key.isStr x := by
  funext e; exact congrFun (str_is (w := w) x) e.key
theorem nsFind_str {w : World} {es : Array DictEntry} (x : Str) : findBy (strKind P w).is es x = nsFind es x := by
  unfold nsFind findBy
  rw [str_is']
theorem idS.parts {k : Nat} {vs : Vars} {o : Obj} (h : idS C k vs o) : ∃ es ep, o = ⟨.type "dict", none, .dict es ep, o.slots⟩ ∧ es.size ≤ k ∧ StrKeys es ∧ (∀ name, nsFind es name = vs.lookup name) ∧ KeysOf (strKind P C.w) es := by
  obtain ⟨⟨h1, h2, es, ep, hd, hz⟩, h3⟩ := h
  obtain ⟨c, d, dt, sl⟩ := o
  simp only at h1 h2 hd
  subst h1 h2 hd
  exact ⟨es, ep, rfl, hz⟩
theorem w_dictGetS {d : Addr} {kk : Nat} {vs : Vars} {x : Str} {t : Tok} {k : Option Value → Led → Prop} (hm : (d, idS C kk vs) ∈ l) (h : k (vs.lookup x) l) : W C A l (dictGet d (.str x t)) k e := fun r s hs => by
  obtain ⟨o, ho, hP⟩ := hs.get hm
  obtain ⟨es, ep, ho', hz, hk, hf, hh⟩ := hP.parts
  have hd : o.data = .dict es ep := by rw [ho']
  unfold dictGet
  refine wpAny_holding ?_
  refine wpAny_bind ((strKind P C.w).pyHash (strKind_is P C.w x t) (wpAny_bind (wpAny_dictFind_of (knd := strKind P C.w) (s := { s with toks := s.toks + 1 }) (strKind_is P C.w x t) ho hd hh ?_)))
  have hx := hf x
  rw [← nsFind_str (w := C.w), findBy_of_findIdx?] at hx
  cases hi : es.findIdx? fun e => (strKind P C.w).is x e.key with
  | none => rw [hi] at hx; exact wpAny_pure ⟨l, by rw [← hx] at h; exact h, hs.toks⟩
  | some i => rw [hi] at hx; exact wpAny_bind (wpAny_dictEntries (s := { s with toks := s.toks + 1 }) ho hd (wpAny_pure ⟨l, by rw [← hx] at h; exact h, hs.toks⟩))
theorem w_dictSetS {d : Addr} {kk : Nat} {vs : Vars} {x : Str} {t : Tok} {v : Value} {l' : Led} {k : Unit → Led → Prop} (R : Rep d (idS C kk vs) (idS C (kk + 1) (put x v vs)) l l') (hkk : kk ≤ 900) (h : k () l') : W C A l (dictSet d (.str x t) v) k e := fun r s hs => by
  obtain ⟨o, ho, hP⟩ := hs.get R.mem
  obtain ⟨es, ep, ho', hz, hk, hf, hh⟩ := hP.parts
  have hd : o.data = .dict es ep := by rw [ho']
  unfold dictSet
  refine wpAny_holding ?_
  refine wpAny_bind ((strKind P C.w).pyHash (strKind_is P C.w x t) ?_)
  unfold dictSetHashed
  refine wpAny_holding ?_
  refine wpAny_bind (wpAny_dictFind_of (knd := strKind P C.w) (s := { s with toks := s.toks + 1 }) (strKind_is P C.w x t) ho hd hh ?_)
  cases hi : es.findIdx? fun e => (strKind P C.w).is x e.key with
  | some i =>
    refine wpAny_bind (wpAny_rule (wpAny_bind (wpAny_updateDict (s := { s with toks := s.toks + 1 }) ho hd (wpAny_point ⟨l', h, hs.rep R (Heap.SameBut.update ..) ⟨_, Heap.get?_update_self _ ho (Obj.isFreed_of_dict (Obj.data_mapDict hd _)), ?_⟩ (s.toks + 1)⟩))))
    have h3 := hP.2
    rw [ho'] at h3 ⊢
    refine ⟨⟨rfl, rfl, _, ep, rfl, by simp; omega, hk.modify _ _, fun y => ?_, hh.modify _ _⟩, h3⟩
    rw [lookup_put, ← hf]
    exact findBy_modify (fun n v => v.isStr n) Value.isStr_inj es x y v i (by rw [str_is'] at hi; exact hi)
  | none =>
    refine wpAny_bind (wpAny_rule (wpAny_updateDictKeys (hz := by rw [sizeLine_eq]; omega) (s := { s with toks := s.toks + 1 }) ho hd ⟨l', h, hs.rep R (Heap.SameBut.update ..) ⟨_, Heap.get?_update_self _ ho (Obj.isFreed_of_dict (Obj.data_mapDictKeys hd _)), ?_⟩ (s.toks + 1)⟩))
    have h3 := hP.2
    rw [ho'] at h3 ⊢
    refine ⟨⟨rfl, rfl, _, ep + 1, rfl, by simp; omega, hk.push _ _ _ _, fun y => ?_, hh.push (k := x) (strKind_is P C.w x t) _⟩, h3⟩
    rw [lookup_put, ← hf]
    exact findBy_push (fun n v => v.isStr n) es x y _ _ v (fun y => by
      show (x == y) = decide (y = x)
      by_cases h : y = x
      · subst h; simp
      · have : ¬ x = y := fun e => h e.symm
        simp [h, this]) (by rw [str_is'] at hi; exact hi)
theorem idS.type {s : Shared} {d : Addr} {k : Nat} {vs : Vars} {o : Obj} (ho : s.heap.get? d = some o) (h : idS C k vs o) : s.TypeIs (.ref d) "dict" := ⟨o, ho, h.1.1⟩
theorem w_smeth {d : Addr} {kk : Nat} {vs : Vars} {name : Str} {id : String} {pl : Sem Bool} {k : Value × List Value → Led → Prop} (hm : (d, idS C kk vs) ∈ l) (slot : Slot "dict" name id) (hty : typeOf (.builtin id) = pure (.type "method_descriptor"))
    (h : k (.builtin id, [.ref d]) l) : W C A l (getMethod (.ref d) name pl) k e := fun r s hs => by
  obtain ⟨o, ho, hP⟩ := hs.get hm
  exact getMethod_builtin (T := "dict") ⟨_, ho, hP.1.1⟩ PySem.F.plainAttrs_dict slot hty (fun a e => by cases e; exact ⟨_, ho, hP.1.2.1⟩) ⟨l, h, hs⟩
theorem w_sget {d : Addr} {kk : Nat} {vs : Vars} {x : Str} {t : Tok} {dv : Value} {k : Value → Led → Prop} (S : Ok C) (hm : (d, idS C kk vs) ∈ l) (h : k ((vs.lookup x).getD dv) l) : W C A l (call (.builtin "dict.get") [.ref d, .str x t, dv]) k e := by
  intro r s hs
  have hty : s.TypeIs (.ref d) "dict" := by obtain ⟨o, ho, hP⟩ := hs.get hm; exact ⟨o, ho, hP.1.1⟩
  have hnm : (d == sysModules) = false := hs.notMod S hm
  obtain ⟨hh, g, dr, tt, os⟩ := s
  refine wpAny_call (codeAny_call_builtin PySem.F.slot_dict_get.plain PySem.F.entry_dict_get (PySem.F.slot_dict_get.check _ _ _ _ _ _ _ _ hty (PySem.F.args_dict_get_3 _ _ _) ?_))
  show wpAny _ _ (dictGet d (.str x t) >>= _) _ _ _
  refine wpAny_bind ((w_dictGetS (e := noE) (k := fun v l' => v = vs.lookup x ∧ l' = l) hm ⟨rfl, rfl⟩).then hs (fun v l₁ s₁ ⟨e1, e2⟩ hs₁ => ?_) fun _ _ _ z => z.elim)
  subst e1 e2
  cases hv : vs.lookup x with
  | some v => rw [hv] at h; exact wpAny_pure ⟨_, h, hs₁⟩
  | none =>
    rw [hv] at h
    show wpAny _ _ (Builtin.Dict.missed d (.str x t) >>= _) _ _ _
    exact wpAny_bind (wpAny_missed_other hnm (wpAny_pure ⟨_, h, hs₁⟩))
theorem w_ssetItem {d : Addr} {kk : Nat} {vs : Vars} {x : Str} {t : Tok} {v : Value} {l' : Led} {k : Unit → Led → Prop} (R : Rep d (idS C kk vs) (idS C (kk + 1) (put x v vs)) l l') (hkk : kk ≤ 900) (h : k () l') : W C A l (setItem (.ref d) (.str x t) v) k e := fun r s hs => by
  have hty : s.TypeIs (.ref d) "dict" := by obtain ⟨o, ho, hP⟩ := hs.get R.mem; exact ⟨o, ho, hP.1.1⟩
  unfold setItem
  refine wpAny_holding ?_
  refine wpAny_bind (wpAny_sequenceKey hty (by decide) ?_)
  refine wpAny_bind (wpAny_callSpecial?_slot (name := Str.ofString "__setitem__") hty slot_dict_setitem
    (wpAny_call_entry slot_dict_setitem hty entry_dict_setitem ?_ (args_dict_setitem _ _ _)))
  show wpAny _ _ (Builtin.Dict.notOrdered "__setitem__" ⟨[.ref d, .str x t, v], []⟩ >>= _) _ _ s
  refine wpAny_bind (wpAny_notOrdered_dict hty ?_)
  show wpAny _ _ (dictSet d (.str x t) v >>= _) _ _ s
  exact wpAny_bind ((w_dictSetS (e := noE) R hkk (k := fun _ l₁ => l₁ = l') rfl).then hs (fun v l₁ s₁ e1 hs₁ => by subst e1; exact wpAny_pure ⟨.none, rfl, wpAny_pure ⟨_, h, hs₁⟩⟩) fun _ _ _ z => z.elim)
/-! the base's instances -/
theorem w_getattrB (S : Ok C) {x Cc dx : Addr} {ox od : Obj} {name : Str} {v : Value} {expr : Bool} {k : Value → Led → Prop} (hx : List.lookup x (KK C.w.params) = some ox) (hn : x ≠ 899) (hn' : x ≠ 207) (hc : ox.cls = .ref Cc) (hnc : notCls ox = true) (hdx : ox.dict = some dx) (hd : List.lookup dx (KK C.w.params) = some od) (hn2 : dx ≠ 899) (hn3 : dx ≠ 207) (h : k v l)
    (hf : findObj (KF C.w.params) Cc (some od) name = some (.value v) := by kernel_rfl) (hga : findIn (KF C.w.params) (.ref Cc) "__getattribute__" = some (some (.builtin "object.__getattribute__")) := by kernel_rfl) (hh : handedIn v = true := by rfl) :
    W C A l (getAttr (.ref x) name expr) k e := fun r s hs => by
  have J : InstAt s.heap x ox Cc (some od) := ⟨hs.old (S.k x _ hx hn hn'), hc, hnc, by rw [hdx]; exact hs.old (S.k dx _ hd hn2 hn3)⟩
  exact get_value (S.kis hs) J hga hf hh ⟨l, h, hs.toks⟩
theorem w_methodB (S : Ok C) {x Cc dx : Addr} {ox od : Obj} {name : Str} {v : Value} {pl : Sem Bool} {k : Value × List Value → Led → Prop} (hx : List.lookup x (KK C.w.params) = some ox) (hn : x ≠ 899) (hn' : x ≠ 207) (hc : ox.cls = .ref Cc) (hnc : notCls ox = true) (hdx : ox.dict = some dx) (hd : List.lookup dx (KK C.w.params) = some od) (hn2 : dx ≠ 899) (hn3 : dx ≠ 207) (h : k (v, []) l)
    (hf : findObj (KF C.w.params) Cc (some od) name = some (.value v) := by kernel_rfl) (hga : findIn (KF C.w.params) (.ref Cc) "__getattribute__" = some (some (.builtin "object.__getattribute__")) := by kernel_rfl)
    (hk : findIn (KF C.w.params) (.ref Cc) "__getattr__" = some none := by kernel_rfl) (hfi : findIn (KF C.w.params) (.ref Cc) name = some none := by kernel_rfl) (hh : handedIn v = true := by rfl) : W C A l (getMethod (.ref x) name pl) k e := fun r s hs => by
  have J : InstAt s.heap x ox Cc (some od) := ⟨hs.old (S.k x _ hx hn hn'), hc, hnc, by rw [hdx]; exact hs.old (S.k dx _ hd hn2 hn3)⟩
  exact method_usual (S.kis hs) J hga hk hfi rfl ((w_getattrB (A := A) (l := l) (e := e) (k := fun v l' => k (v, []) l') S hx hn hn' hc hnc hdx hd hn2 hn3 h hf hga hh) r s hs)
end
end Mine
end
/-! U5 -/
section
open PySem PySem.W PySem.Calls PyProof.Rows
set_option maxRecDepth 100000
set_option linter.all false
namespace Mine
local macro_rules | `(tactic| walk_at "lk") => `(tactic| first | with_reducible exact look_eq | (rw [lookup_put, if_neg (by decide)]; walk_at "lk") | assumption | exact rfl)
local macro_rules | `(tactic| walk_at "in") => `(tactic| first | exact List.Mem.head _ | (refine List.Mem.tail _ ?_; walk_at "in"))
local macro_rules | `(tactic| walk_at "rp") => `(tactic| first | exact Rep.head | (apply Rep.tail; walk_at "rp"))
section
variable {α β : Type} {C : Cx} {A : Around} {l : Led} {e : Value → Led → Prop} {env : Env}
theorem w_isP {a b : Value} {k : Value → Led → Prop} (hp : plainIs a b = true) (h : k (.bool (a == b)) l) : W C A l (compareOp .Is a b) k e := fun r _ hs => wpAny_is_plain hp ⟨l, h, hs⟩
theorem w_isSelf {a : Addr} {k : Value → Led → Prop} (h : k (.bool true) l) : W C A l (compareOp .Is (.ref a) (.ref a)) k e := fun r _ hs => wpAny_is_ref_self ⟨l, h, hs⟩
/-- what is known of a cached property: its name and its function -/
structure Prop_ (C : Cx) (x fn : Addr) (nm : Str) (tk : Tok) : Prop where
  name : ∀ {A : Around} {l : Led} {e : Value → Led → Prop} {k : Value → Led → Prop}, k (.str nm tk) l → W C A l (getAttr (.ref x) "attrname" true) k e
  func : ∀ {A : Around} {l : Led} {e : Value → Led → Prop} {pl : Sem Bool} {k : Value × List Value → Led → Prop}, k (.ref fn, []) l → W C A l (getMethod (.ref x) "func" pl) k e
theorem prop_edges (S : Ok C) : Prop_ C 791 789 "edges" 1371 := ⟨fun h => w_getattrB S rfl (by decide) (by decide) rfl rfl rfl rfl (by decide) (by decide) h, fun h => w_methodB S rfl (by decide) (by decide) rfl rfl rfl rfl (by decide) (by decide) h⟩
theorem prop_succ (S : Ok C) : Prop_ C 687 685 "succ" 1213 := ⟨fun h => w_getattrB S rfl (by decide) (by decide) rfl rfl rfl rfl (by decide) (by decide) h, fun h => w_methodB S rfl (by decide) (by decide) rfl rfl rfl rfl (by decide) (by decide) h⟩
set_option maxHeartbeats 8000000
/-- the own dict is there, the property is not in it -/
theorem get_tail (S : Ok C) {o : Obj} {fd : FuncData} {body : List Stmt} (hlk : List.lookup 337 (KK C.w.params) = some o) (hd : o.data = .func fd) (hb : fd.body = .stmts body) {x fn d g L : Addr} {nm : Str} {tk : Tok} {ofn : Obj} {ffn : FuncData} (Pp : Prop_ C x fn nm tk)
    (hfn : C.B.get? fn = some ofn) (hffn : ofn.data = .func ffn) {kk k1 : Nat} {vs vs1 V : Vars} {ho : Value → Led → Prop} {k : Flow → Led → Prop}
    (hg : V.lookup ("instance" : Str) = some (.ref g)) (hs : V.lookup ("self" : Str) = some (.ref x)) (hv : vs.lookup nm = none) (hk1 : k1 ≤ 900)
    (hcall : ∀ {V : Vars}, CW C A ((L, nsP V) :: (d, idS C kk vs) :: l) (.call (.ref fn) ⟨[.ref g], []⟩) (fun r l' => ∃ v l1, r = .ok (.ret v) ∧ Sub ((L, nsP V) :: (d, idS C k1 vs1) :: l1) l' ∧ ho v l1))
    (hk : ∀ v l1 V, ho v l1 → k (.ret v) ((L, nsP V) :: (d, idS C (k1 + 1) (put nm v vs1)) :: l1)) :
    W C A ((L, nsP (put "cache" (.ref d) V)) :: (d, idS C kk vs) :: l) (execs (body.drop 3) (callEnv fd L 337)) k noE := by
  obtain rfl := Option.some.inj (hlk.symm.trans rfl)
  obtain rfl := Data.func.inj hd
  obtain rfl := FuncBody.stmts.inj hb
  clear hlk
  refine w_execs_cons <| w_Assign_Name <| w_MethodCall <| w_NameL rfl (by walk_at "lk") <| w_smeth (by walk_at "in") PySem.F.slot_dict_get PySem.F.type_dict_get <| w_callWith_b <| w_items_cons <| w_AttributeN <| w_NameL rfl (by walk_at "lk") <| Pp.name <| w_items_cons <| S.glob (v := .ref 308) rfl <| w_items_nil <| w_sget S (by walk_at "in") ?_
  rw [hv, Option.getD_none]
  refine w_storeL rfl ?_
  refine w_execs_cons <| w_If <| w_isTrue_Compare1 <| w_NameL rfl (by walk_at "lk") <| S.glob (v := .ref 308) rfl <| w_isSelf <| w_truthy_bool ⟨fun _ => ?_, fun q => (nomatch q)⟩
  refine w_execs_cons <| w_Assign_Name <| w_MethodCall <| w_NameL rfl (by walk_at "lk") <| Pp.func <| w_callWith_fn hfn hffn <| w_items_cons <| w_NameL rfl (by walk_at "lk") <| w_items_nil <| hcall.mono ?_
  rintro r l' ⟨v, l1, rfl, hS, hv'⟩
  refine W.sub hS ?_
  refine w_storeL rfl ?_
  refine w_execs_cons <| w_Try_ok <| w_execs_cons <| w_Assign_Sub <| w_NameL rfl (by walk_at "lk") <| w_NameL rfl (by walk_at "lk") <| w_AttributeN <| w_NameL rfl (by walk_at "lk") <| Pp.name <| w_ssetItem (by walk_at "rp") hk1 ?_
  refine w_execs_nil <| w_execs_nil <| w_execs_nil ?_
  refine w_execs_cons <| w_Return <| w_NameL rfl (by walk_at "lk") ?_
  exact hk _ _ _ hv'
end
end Mine
end
/-! U6 -/
section
open PySem PySem.W PySem.Calls PyProof.Rows
set_option maxRecDepth 100000
set_option linter.all false
namespace Mine
local macro_rules | `(tactic| walk_at "lk") => `(tactic| first | with_reducible exact look_eq | (rw [lookup_put, if_neg (by decide)]; walk_at "lk") | assumption | exact rfl)
local macro_rules | `(tactic| walk_at "in") => `(tactic| first | exact List.Mem.head _ | (refine List.Mem.tail _ ?_; walk_at "in"))
local macro_rules | `(tactic| walk_at "rp") => `(tactic| first | exact Rep.head | (apply Rep.tail; walk_at "rp"))
section
variable {α β : Type} {C : Cx} {A : Around} {l : Led} {e : Value → Led → Prop} {env : Env}
theorem W.any0 {t : Sem α} {k : α → Led → Prop} (h : W C A l t k noE) : W C A l t k e := h.mono (fun _ _ z => z) fun _ _ z => z.elim
set_option maxHeartbeats 8000000
/-- cached_property.__get__ at a graph whose own dict was not asked for yet -/
theorem cwf_get (S : Ok C) {R : Result → Led → Prop} {x fn d g : Addr} {nm : Str} {tk : Tok} {ofn : Obj} {ffn : FuncData} (Pp : Prop_ C x fn nm tk) (hA : A.depth + 1 < recursionLimit)
    (hfn : C.B.get? fn = some ofn) (hffn : ofn.data = .func ffn) {kk k1 : Nat} {vs vs1 : Vars} {ho : Value → Led → Prop} (hgm : (g, (· = instObj 860 d)) ∈ l) (hv : vs.lookup nm = none) (hdv : vs.lookup ("__dict__" : Str) = none) (hk : kk ≤ 900) (hk1 : k1 ≤ 900)
    (hcall : ∀ env (L : Addr) (V : Vars), CW C (A.deeper env) ((L, nsP V) :: (d, idS C kk vs) :: l) (.call (.ref fn) ⟨[.ref g], []⟩) (fun r l' => ∃ v l1, r = .ok (.ret v) ∧ Sub ((L, nsP V) :: (d, idS C k1 vs1) :: l1) l' ∧ ho v l1))
    (hR : ∀ v l1, ho v l1 → R (.ok (.ret v)) ((d, idS C (k1 + 1) (put nm v vs1)) :: l1)) :
    CWF C A ((d, idP C kk vs) :: l) (.call (.ref 337) ⟨[.ref x, .ref g, .ref 860], []⟩) R := by
  refine cwf_fn S.lim (by omega) (S.k 337 _ rfl (by decide) (by decide)) rfl ⟨336, _, _, _, rfl, S.k 336 _ rfl (by decide) (by decide), rfl, rfl⟩ rfl (by decide) ?_
  show W C A.in1 _ (seqItems? _ >>= _) _ _
  refine w_bind (w_seqItemsOld (S.k _ _ rfl (by decide) (by decide)) rfl (w_pure ⟨locs rfl, fun L => ?_⟩))
  refine wf_execs_cons (.of (w_If <| w_isTrue_Compare1 <| w_NameL rfl rfl <| w_Const_none <| w_isNone <| w_truthy_bool ⟨fun q => (nomatch q), fun _ => w_execs_nil ?_⟩))
  refine wf_execs_cons (.of (w_If <| w_isTrue_Compare1 <| w_AttributeN <| w_NameL rfl rfl <| Pp.name <| w_Const_none <| w_isNone <| w_truthy_bool ⟨fun q => (nomatch q), fun _ => w_execs_nil ?_⟩))
  refine wf_execs_cons <| wf_Try_ok <| wf_execs_cons <| wf_Assign_Name <| wf_AttributeN <| .of <| w_NameL rfl rfl <| wf_dictAttr S (.tail _ (.tail _ hgm)) hk (by walk_at "rp") ?_ hdv
  refine .of <| w_storeL rfl <| .of <| w_execs_nil <| .of <| w_execs_nil ?_
  exact .of (get_tail S rfl rfl rfl Pp hfn hffn (V := [("owner", .ref 860), ("instance", .ref g), ("self", .ref x)]) rfl rfl hv hk1 (fun {V} => hcall _ L V) fun v l1 V h1 => ⟨_, .skip .refl, hR v l1 h1⟩)
/-- the same where it was asked for -/
theorem cw_get (S : Ok C) {R : Result → Led → Prop} {x fn d g : Addr} {nm : Str} {tk : Tok} {ofn : Obj} {ffn : FuncData} (Pp : Prop_ C x fn nm tk) (hA : A.depth + 1 < recursionLimit)
    (hfn : C.B.get? fn = some ofn) (hffn : ofn.data = .func ffn) {kk k1 : Nat} {vs vs1 : Vars} {ho : Value → Led → Prop} (hgm : (g, (· = instObj 860 d)) ∈ l) (hv : vs.lookup nm = none) (hdv : vs.lookup ("__dict__" : Str) = none) (hk : kk ≤ 900) (hk1 : k1 ≤ 900)
    (hcall : ∀ env (L : Addr) (V : Vars), CW C (A.deeper env) ((L, nsP V) :: (d, idS C kk vs) :: l) (.call (.ref fn) ⟨[.ref g], []⟩) (fun r l' => ∃ v l1, r = .ok (.ret v) ∧ Sub ((L, nsP V) :: (d, idS C k1 vs1) :: l1) l' ∧ ho v l1))
    (hR : ∀ v l1, ho v l1 → R (.ok (.ret v)) ((d, idS C (k1 + 1) (put nm v vs1)) :: l1)) :
    CW C A ((d, idS C kk vs) :: l) (.call (.ref 337) ⟨[.ref x, .ref g, .ref 860], []⟩) R := by
  refine cw_fn S.lim (by omega) (S.k 337 _ rfl (by decide) (by decide)) rfl ⟨336, _, _, _, rfl, S.k 336 _ rfl (by decide) (by decide), rfl, rfl⟩ rfl (by decide) ?_
  show W C A.in1 _ (seqItems? _ >>= _) _ _
  refine w_bind (w_seqItemsOld (S.k _ _ rfl (by decide) (by decide)) rfl (w_pure ⟨locs rfl, fun L => W.any0 ?_⟩))
  refine w_execs_cons <| w_If <| w_isTrue_Compare1 <| w_NameL rfl rfl <| w_Const_none <| w_isNone <| w_truthy_bool ⟨fun q => (nomatch q), fun _ => w_execs_nil ?_⟩
  refine w_execs_cons <| w_If <| w_isTrue_Compare1 <| w_AttributeN <| w_NameL rfl rfl <| Pp.name <| w_Const_none <| w_isNone <| w_truthy_bool ⟨fun q => (nomatch q), fun _ => w_execs_nil ?_⟩
  refine w_execs_cons <| w_Try_ok <| w_execs_cons <| w_Assign_Name <| w_AttributeN <| w_NameL rfl rfl <| w_dictAttr2 S (.tail _ (.tail _ hgm)) hk (by walk_at "rp") ?_ hdv
  refine w_storeL rfl <| w_execs_nil <| w_execs_nil ?_
  exact (get_tail S rfl rfl rfl Pp hfn hffn (V := [("owner", .ref 860), ("instance", .ref g), ("self", .ref x)]) rfl rfl hv hk1 (fun {V} => hcall _ L V) fun v l1 V h1 => ⟨_, .skip .refl, hR v l1 h1⟩)
end
end Mine
end
/-! U7 -/
section
open PySem PySem.W PySem.Calls PyProof.Rows
set_option maxRecDepth 100000
set_option linter.all false
namespace Mine
section
variable {α β : Type} {C : Cx} {A : Around} {l : Led} {e : Value → Led → Prop} {env : Env}
theorem w_getbindBy (S : Ok C) {x Cc dx : Addr} {p : Obj → Prop} {vs : Vars} {name : Str} {t : Tok} {g a : Value} {o : Option Value} {fill expr : Bool} {k : Value → Led → Prop} (hx : (x, (· = instObj Cc dx)) ∈ l) (hd : (dx, p) ∈ l) (hp : ∀ o, p o → nsP vs o) (hv : vs.lookup name = o)
    (h : W C A.in1 l (call g [a, .ref x, .ref Cc]) (fun v l' => handedIn v = true ∧ k v l') noE)
    (hf : findObj (KF C.w.params) Cc (some (one name o)) name = some (.bind g a) := by kernel_rfl) (hga : findIn (KF C.w.params) (.ref Cc) "__getattribute__" = some (some (.builtin "object.__getattribute__")) := by kernel_rfl)
    (hk : findIn (KF C.w.params) (.ref Cc) "__getattr__" = some none := by kernel_rfl) :
    W C A l (getAttrBy (.ref x) (.str name t) fill expr) k e := fun r s hs => by
  obtain ⟨ox, hox, rfl⟩ := hs.get hx
  obtain ⟨od, hod, hP⟩ := hs.get hd
  have J : InstAt s.heap x (instObj Cc dx) Cc (some od) := ⟨hox, rfl, rfl, hod⟩
  have L0 := J.type (M := model P C.w)
  have L1 := looks_findIn (M := model P C.w) (S.kis hs) hga
  have L2 := looks_find (M := model P C.w) (S.kis hs) J (by rw [findObj_one (lookIn_ns (hp _ hP) name), hv]; exact hf)
  have L3 := looks_findIn (M := model P C.w) (S.kis hs) hk
  unfold getAttrBy
  refine wpAny_holding (wpAny_bind (L0.here (wpAny_bind (L1.here ?_))))
  show wpAny _ _ (getAttrEveryday _ _ _) _ _ _
  refine wpAny_bind (wpAny_onRaise (wpAny_runValue (codeAny_builtin F.plainObj_entry_getattr_hooked ?_)))
  refine wpAny_bind (wpAny_pure (wpAny_bind (L0.here (wpAny_bind (L2.here (wpAny_bind (L3.here ?_)))))))
  show wpAny _ _ (holding [a] (call g [a, .ref x, .ref Cc]) >>= ret) _ _ _
  refine wpAny_bind (wpAny_holding (h.then hs (fun v l' s' ⟨h1, h2⟩ hs' => ?_) fun _ _ _ z => z.elim))
  refine wpAny_pure ?_
  show wpAny _ _ (handedOut v) _ _ _
  rw [handedOut_of h1]
  exact wpAny_pure ⟨l', h2, hs'⟩
theorem w_typeOfI {x Cc d : Addr} {p : Obj → Prop} {k : Value → Led → Prop} (hx : (x, (· = instObj Cc d)) ∈ l) (hd : (d, p) ∈ l) (h : k (.ref Cc) l) : W C A l (typeOf (.ref x)) k e := fun r s hs => by
  obtain ⟨ox, hox, rfl⟩ := hs.get hx
  have J : InstAt s.heap x (instObj Cc d) Cc (some _) := ⟨hox, rfl, rfl, (hs.get hd).choose_spec.1⟩
  exact (J.type (M := model P C.w)).here ⟨l, h, hs⟩
theorem w_hasattr (S : Ok C) {x Cc dx : Addr} {p : Obj → Prop} {name : Str} {t : Tok} {k : Value → Led → Prop} (hx : (x, (· = instObj Cc dx)) ∈ l) (hd : (dx, p) ∈ l)
    (h : W C A.in1 l (getAttrBy (.ref x) (.str name t) false) (fun _ l' => k (.bool true) l') noE) (hm : mroIn (KF C.w.params) Cc (.type "module") = some false := by kernel_rfl) :
    W C A l (call (.builtin "hasattr") [.ref x, .str name t]) k e := fun r s hs => by
  refine call_function_entry (b := Builtin.«hasattr») (by decide +kernel) (by decide +kernel) (entryFor_of_tree (by kernel_rfl)) (by unfold argsOk; kernel_rfl) ?_
  suffices key : W C A.in1 l (Builtin.«hasattr» ⟨[.ref x, .str name t], []⟩) (fun fin l' => ∃ v, fin = .done (.ret v) ∧ k v l') noE from
    wpAny_mono (key r s hs) (fun fin s' ⟨l', ⟨v, e1, hk⟩, hs'⟩ => ⟨v, e1, l', hk, hs'⟩) fun _ _ ⟨_, z, _⟩ => z.elim
  unfold Builtin.«hasattr»
  refine w_bind (w_pure ?_)
  dsimp only
  refine w_bind (w_pure ?_)
  refine w_bind (w_typeOfI hx hd ?_)
  dsimp only
  refine w_bind (w_bind (w_pure (w_bind (w_isInst S hx hd hm (w_pure ?_)))))
  refine w_bind (w_bind (w_attempt (h.mono (fun v l' hv => w_pure (w_pure ⟨_, rfl, hv⟩)) fun _ _ z => z.elim)))
/-! succ, edges, the view -/
local macro_rules | `(tactic| walk_at "lk") => `(tactic| first | with_reducible exact look_eq | (rw [lookup_put, if_neg (by decide)]; walk_at "lk") | assumption | exact rfl)
local macro_rules | `(tactic| walk_at "in") => `(tactic| first | exact List.Mem.head _ | (refine List.Mem.tail _ ?_; walk_at "in"))
local macro_rules | `(tactic| walk_at "pk") => `(tactic| first | exact Pick.head | (apply Pick.tail; walk_at "pk"))
local macro_rules | `(tactic| walk_at "rp") => `(tactic| first | exact Rep.head | (apply Rep.tail; walk_at "rp"))
local macro_rules | `(tactic| walk_at "sub") => `(tactic| first | exact Sub.refl | (refine Sub.pick1 (by walk_at "pk") ?_; walk_at "sub") | exact Sub.nil | (refine Sub.skip ?_; walk_at "sub"))
theorem w_getattrS (S : Ok C) {x Cc dx : Addr} {p : Obj → Prop} {vs : Vars} {name : Str} {v : Value} {expr : Bool} {k : Value → Led → Prop} (hx : (x, (· = instObj Cc dx)) ∈ l) (hd : (dx, p) ∈ l) (hp : ∀ o, p o → nsP vs o) (hv : vs.lookup name = some v) (h : k v l)
    (hf : findObj (KF C.w.params) Cc (some (one name (some v))) name = some (.value v) := by kernel_rfl) (hga : findIn (KF C.w.params) (.ref Cc) "__getattribute__" = some (some (.builtin "object.__getattribute__")) := by kernel_rfl) (hh : handedIn v = true := by rfl) :
    W C A l (getAttr (.ref x) name expr) k e := fun r s hs => by
  obtain ⟨ox, hox, rfl⟩ := hs.get hx
  obtain ⟨od, hod, hP⟩ := hs.get hd
  have J : InstAt s.heap x (instObj Cc dx) Cc (some od) := ⟨hox, rfl, rfl, hod⟩
  exact get_value (S.kis hs) J hga (by rw [findObj_one (lookIn_ns (hp _ hP) name), hv]; exact hf) hh ⟨l, h, hs.toks⟩
theorem spec_succ (S : Ok C) {R : Result → Led → Prop} {g dg ad : Addr} {kk : Nat} {vs : Vars} (hA : A.depth < recursionLimit) (hx : (g, (· = instObj 860 dg)) ∈ l) (hd : (dg, idS C kk vs) ∈ l) (hv : vs.lookup ("_succ" : Str) = some (.ref ad))
    (h : R (.ok (.ret (.ref ad))) l) : CW C A l (.call (.ref 685) ⟨[.ref g], []⟩) R := by
  refine cw_def S.lim hA (S.k 685 _ rfl (by decide) (by decide)) rfl ⟨684, _, _, _, rfl, S.k 684 _ rfl (by decide) (by decide), rfl, rfl⟩ rfl rfl (by decide) (locs rfl) fun L => ?_
  refine w_execs_cons (w_Return (w_AttributeN (w_NameL rfl rfl (w_getattrS S (.tail _ hx) (.tail _ hd) (fun _ ho => ho.1.ns) hv ⟨_, .skip .refl, h⟩))))
theorem spec_view (S : Ok C) {R : Result → Led → Prop} {x dx g dg ad : Addr} {kk : Nat} {vs : Vars} (hA : A.depth + 3 < recursionLimit) (hv : vs.lookup ("_succ" : Str) = some (.ref ad)) (hv2 : vs.lookup ("succ" : Str) = none) (hv3 : vs.lookup ("__dict__" : Str) = none) (hk : kk ≤ 800)
    (hx : (g, (· = instObj 860 dg)) ∈ l)
    (h : R (.ok (.ret .none)) ((dg, idS C (kk + 1) (put "succ" (.ref ad) vs)) :: (x, (· = instObj 245 dx)) :: (dx, idP C 1 [("_adjdict", .ref ad)]) :: l)) :
    CW C A ((dg, idS C kk vs) :: (x, (· = instObj 245 dx)) :: (dx, idP C 0 []) :: l) (.call (.ref 198) ⟨[.ref x, .ref g], []⟩) R := by
  have hd1 : ∀ env, (A.deeper env).depth = A.depth + 1 := fun _ => rfl
  refine cw_def S.lim (by omega) (S.k 198 _ rfl (by decide) (by decide)) rfl ⟨197, _, _, _, rfl, S.k 197 _ rfl (by decide) (by decide), rfl, rfl⟩ rfl rfl (by decide) (locs rfl) fun L => ?_
  refine w_execs_cons <| w_Assign_Attr <| w_IfExp <| w_isTrue_plain <| w_Call_Name <| S.bi (v := .builtin "hasattr") rfl rfl <| w_callWith_b <| w_items_cons <| w_NameL rfl rfl <| w_items_cons <| w_Const_str fun t => w_items_nil <| w_hasattr S (.tail _ (.tail _ (.tail _ (.tail _ hx)))) (.tail _ (.head _)) <| w_getbindBy S (g := .ref 337) (a := .ref 687) (.tail _ (.tail _ (.tail _ (.tail _ hx)))) (.tail _ (.head _)) (fun _ ho => ho.1.ns) hv2 <| w_callV <| CW.sub (l' := (dg, idS C kk vs) :: (L, nsP [("G", .ref g), ("self", .ref x)]) :: (x, (· = instObj 245 dx)) :: (dx, idP C 0 []) :: l) (.pick1 (.tail .head) (.pick1 .head .refl)) <|
    cw_get S (prop_succ S) (by show A.depth + 1 + 1 < _; omega) (S.k 685 _ rfl (by decide) (by decide)) rfl (vs1 := vs) (k1 := kk) (ho := fun v l1 => v = .ref ad ∧ l1 = (L, nsP [("G", .ref g), ("self", .ref x)]) :: (x, (· = instObj 245 dx)) :: (dx, idP C 0 []) :: l) (.tail _ (.tail _ (.tail _ hx))) hv2 hv3 (by omega) (by omega)
      (fun env L' V => spec_succ S (by show A.depth + 1 + 1 < _; omega) (.tail _ (.tail _ (.tail _ (.tail _ (.tail _ hx))))) (.tail _ (.head _)) hv ⟨_, _, rfl, .refl, rfl, rfl⟩) (fun v l1 hvl => ?_)
  obtain ⟨rfl, rfl⟩ := hvl
  refine ⟨rfl, w_truthy_bool ⟨fun _ => ?_, fun q => (nomatch q)⟩⟩
  refine W.sub (l' := (L, nsP [("G", .ref g), ("self", .ref x)]) :: (dg, idS C (kk + 1) (put "succ" (.ref ad) vs)) :: (x, (· = instObj 245 dx)) :: (dx, idP C 0 []) :: l) (.pick1 (.tail .head) (.pick1 .head .refl)) ?_
  refine w_AttributeN <| w_NameL rfl rfl <| w_getattrS S (p := idS C (kk + 1) (put "succ" (.ref ad) vs)) (.tail _ (.tail _ (.tail _ (.tail _ hx)))) (.tail _ (.head _)) (fun _ ho => ho.1.ns) (v := .ref ad) (by rw [lookup_put, if_neg (by decide)]; exact hv) <| w_NameL rfl rfl <| w_setattr S (by walk_at "in") (by walk_at "rp") (by decide) ?_
  refine w_execs_nil ⟨_, ?_, h⟩
  exact .skip .refl
theorem spec_edges (S : Ok C) {R : Result → Led → Prop} {g dg ad : Addr} {kk : Nat} {vs : Vars} (hA : A.depth + 5 < recursionLimit) (hv : vs.lookup ("_succ" : Str) = some (.ref ad)) (hv2 : vs.lookup ("succ" : Str) = none) (hv3 : vs.lookup ("__dict__" : Str) = none) (hk : kk ≤ 800)
    (hx : (g, (· = instObj 860 dg)) ∈ l)
    (h : ∀ x dx, R (.ok (.ret (.ref x))) ((dg, idS C (kk + 1) (put "succ" (.ref ad) vs)) :: (x, (· = instObj 245 dx)) :: (dx, idP C 1 [("_adjdict", .ref ad)]) :: l)) :
    CW C A ((dg, idS C kk vs) :: l) (.call (.ref 789) ⟨[.ref g], []⟩) R := by
  refine cw_def S.lim (by omega) (S.k 789 _ rfl (by decide) (by decide)) rfl ⟨788, _, _, _, rfl, S.k 788 _ rfl (by decide) (by decide), rfl, rfl⟩ rfl rfl (by decide) (locs rfl) fun L => ?_
  refine w_execs_cons <| w_Return <| w_Call_Name <| S.glob (v := .ref 245) rfl <| w_callWith_K S <| w_items_cons <| w_NameL rfl rfl <| w_items_nil <| cw_make S (fI := 198) fun x dx => ?_
  refine CW.sub (l' := (dg, idS C kk vs) :: (x, (· = instObj 245 dx)) :: (dx, idP C 0 []) :: (L, nsP [("self", .ref g)]) :: l) (.pick1 (.tail (.tail (.tail .head))) (.pick1 .head (.pick1 .head (.pick1 .head .refl)))) ?_
  refine spec_view S (by rw [depth_make]; show A.depth + 1 + 1 + 3 < _; omega) hv hv2 hv3 hk (.tail _ hx) ⟨rfl, _, ?_, h x dx⟩
  exact .pick1 .head (.pick1 .head (.pick1 .head (.skip .refl)))
/-- graph.edges -/
theorem wf_edges (S : Ok C) {g dg ad : Addr} {kk : Nat} {vs : Vars} {k : Value → Led → Prop} (hA : A.depth + 8 < recursionLimit) (hv : vs.lookup ("_succ" : Str) = some (.ref ad)) (hv2 : vs.lookup ("succ" : Str) = none) (hv3 : vs.lookup ("__dict__" : Str) = none) (hv4 : vs.lookup ("edges" : Str) = none) (hk : kk ≤ 800)
    (hx : (g, (· = instObj 860 dg)) ∈ l)
    (h : ∀ x dx, k (.ref x) ((dg, idS C (kk + 2) (put "edges" (.ref x) (put "succ" (.ref ad) vs))) :: (x, (· = instObj 245 dx)) :: (dx, idP C 1 [("_adjdict", .ref ad)]) :: l)) :
    WF C A ((dg, idP C kk vs) :: l) (getAttr (.ref g) "edges" true) k e := by
  refine wf_getbind S (g := .ref 337) (a := .ref 791) (o := none) ⟨.tail _ hx, kk, by omega, .head _⟩ hv4 <| cwf_get S (prop_edges S) (by show A.depth + 1 < _; omega) (S.k 789 _ rfl (by decide) (by decide)) rfl (vs1 := put "succ" (.ref ad) vs) (k1 := kk + 1)
    (ho := fun v l1 => ∃ x dx, v = .ref x ∧ l1 = (x, (· = instObj 245 dx)) :: (dx, idP C 1 [("_adjdict", .ref ad)]) :: l) hx hv4 hv3 (by omega) (by omega) (fun env L V => ?_) fun v l1 ⟨x, dx, e1, e2⟩ => ?_
  · refine CW.sub (l' := (dg, idS C kk vs) :: (L, nsP V) :: l) (.pick1 (.tail .head) (.pick1 .head .refl)) ?_
    refine spec_edges S (by show A.depth + 1 + 5 < _; omega) hv hv2 hv3 hk (.tail _ hx) fun x dx => ⟨_, _, rfl, ?_, x, dx, rfl, rfl⟩
    exact .pick1 (.tail (.tail (.tail .head))) (.pick1 .head (.pick1 .head (.pick1 .head .refl)))
  · subst e1 e2
    exact ⟨rfl, h x dx⟩
end
end Mine
end
/-! N13 -/
section
open PySem PySem.W PySem.Calls PyProof.Rows
set_option maxRecDepth 100000
set_option linter.all false
namespace Mine
local macro_rules | `(tactic| walk_at "in") => `(tactic| first | exact List.Mem.head _ | (refine List.Mem.tail _ ?_; walk_at "in"))
section
variable {α β : Type} {C : Cx} {A : Around} {l : Led} {e : Value → Led → Prop} {env : Env} {F : Led} {G : Array GenState} {s₀ : Shared} {X : Led} {its : List YItem}
theorem w_specialI (S : Ok C) {x Cc d : Addr} {p : Obj → Prop} {name : Str} {r : Option Value} {k : Option Value → Led → Prop} (hx : (x, (· = instObj Cc d)) ∈ l) (hd : (d, p) ∈ l) (hf : findIn (KF C.w.params) (.ref Cc) name = some r) (h : k r l) : W C A l (specialOf (.ref x) name) k e := fun r' s hs => by
  obtain ⟨ox, hox, rfl⟩ := hs.get hx
  have J : InstAt s.heap x (instObj Cc d) Cc (some _) := ⟨hox, rfl, rfl, (hs.get hd).choose_spec.1⟩
  exact wpAny_bind ((J.type (M := model P C.w)).here ((looks_findIn (S.kis hs) hf).here ⟨l, h, hs⟩))
theorem w_callSpecialI (S : Ok C) {x Cc d f : Addr} {p : Obj → Prop} {name : Str} {k : Option Value → Led → Prop} (hx : (x, (· = instObj Cc d)) ∈ l) (hd : (d, p) ∈ l) (hf : findIn (KF C.w.params) (.ref Cc) name = some (some (.ref f))) (ht : typeIn (KF C.w.params) (.ref f) = some (.type "function"))
    (h : W C A l (call (.ref f) [.ref x]) (fun v l' => k (some v) l') e) : W C A l (callSpecial? (.ref x) name) k e := fun r' s hs => by
  obtain ⟨ox, hox, rfl⟩ := hs.get hx
  have J : InstAt s.heap x (instObj Cc d) Cc (some _) := ⟨hox, rfl, rfl, (hs.get hd).choose_spec.1⟩
  exact special_fn (args := []) (S.kis hs) J hf ht (h.step hs fun v l' s' hk hs' => ⟨l', hk, hs'⟩)
theorem sum_nonneg {adj : List (Addr × KV)} : 0 ≤ (adj.map fun r => (r.2.length : Int)).sum := by
  induction adj with
  | nil => simp
  | cons r rs ih => rw [List.map_cons, List.sum_cons]; omega
/-- len of the view -/
theorem w_lenView (S : Ok C) (gi : GiOk C) {t : Option Addr} {x dx ad : Addr} {adj : List (Addr × KV)} {k : Value → Led → Prop} (hA : A.depth + 5 < recursionLimit) (hh : A.handled = none) (hz : ∀ r ∈ adj, r.2.length < 1000) (hz2 : (adj.map fun r => (r.2.length : Int)).sum ≤ 1000000)
    (h : ∀ t' tk, k (.int (adj.map fun r => (r.2.length : Int)).sum tk) (TabL 207 gposT gqT t' ++ ViewL C x dx ad adj)) : W C A (TabL 207 gposT gqT t ++ ViewL C x dx ad adj) (call (.builtin "len") [.ref x]) k e := fun r s hs => by
  refine call_function_entry kind_len plain_len entry_len (args_len1 _) ?_
  suffices key : W C A.in1 (TabL 207 gposT gqT t ++ ViewL C x dx ad adj) (Builtin.«len» ⟨[.ref x], []⟩) (fun fin l' => ∃ v, fin = .done (.ret v) ∧ k v l') noE from
    wpAny_mono (key r s hs) (fun fin s' ⟨l', ⟨v, e1, hk⟩, hs'⟩ => ⟨v, e1, l', hk, hs'⟩) fun _ _ ⟨_, z, _⟩ => z.elim
  unfold Builtin.«len»
  refine w_bind (m := oneArg "len" _) (w_pure ?_)
  refine w_bind (m := callSpecial? (.ref x) (Str.ofString "__len__")) (w_callSpecialI S (f := 212) (p := idP C 1 [("_adjdict", .ref ad)]) (List.mem_append_right _ (by walk_at "in")) (List.mem_append_right _ (by walk_at "in")) (by kernel_rfl) (by kernel_rfl) (w_callV (spec_len S gi hA hh hz hz2 fun t' tk => ?_)))
  have h0 := sum_nonneg (adj := adj)
  refine w_bind (w_holding (w_pure ?_))
  refine w_bind (w_letGo ?_)
  show W C A.in1 _ (if (adj.map fun r => (r.2.length : Int)).sum < 0 then _ else _) _ _
  rw [if_neg (by omega)]
  show W C A.in1 _ (if (adj.map fun r => (r.2.length : Int)).sum ≥ 2 ^ 63 then _ else _) _ _
  rw [if_neg (by omega)]
  exact w_bind (w_mkInt fun tk' => w_pure ⟨_, rfl, h t' tk'⟩)
theorem w_hintView (S : Ok C) (gi : GiOk C) {t : Option Addr} {x dx ad : Addr} {adj : List (Addr × KV)} {k : Bool → Led → Prop} (hA : A.depth + 5 < recursionLimit) (hh : A.handled = none) (hz : ∀ r ∈ adj, r.2.length < 1000) (hz2 : (adj.map fun r => (r.2.length : Int)).sum ≤ 1000000)
    (h : ∀ t' b, k b (TabL 207 gposT gqT t' ++ ViewL C x dx ad adj)) : W C A (TabL 207 gposT gqT t ++ ViewL C x dx ad adj) (Builtin.List.listLengthHint (.ref x)) k e := by
  unfold Builtin.List.listLengthHint
  refine w_bind (w_specialI S (r := some (.ref 212)) (p := idP C 1 [("_adjdict", .ref ad)]) (List.mem_append_right _ (by walk_at "in")) (List.mem_append_right _ (by walk_at "in")) (by kernel_rfl) ?_)
  dsimp only
  refine w_bind (w_rule ?_)
  refine w_bind (w_attempt ?_)
  refine w_lenView S gi hA hh hz hz2 fun t' tk => ?_
  refine w_bind (w_pure ?_)
  dsimp only
  have h0 := sum_nonneg (adj := adj)
  rw [if_neg (by simp [Builtin.List.listTooLong, sizeLine_eq]; omega)]
  exact w_pure (h t' _)
end
end Mine
end
/-! N14 -/
section
open PySem PySem.W PySem.Calls PyProof.Rows
set_option maxRecDepth 100000
set_option linter.all false
namespace Mine
local macro_rules | `(tactic| walk_at "in") => `(tactic| first | exact List.Mem.head _ | (refine List.Mem.tail _ ?_; walk_at "in"))
section
variable {α β : Type} {C : Cx} {A : Around} {l : Led} {e : Value → Led → Prop} {env : Env} {F : Led} {G : Array GenState} {s₀ : Shared} {X : Led} {its : List YItem}
theorem st_pyIter {M : Model} {E : Value → Shared → Prop} {s : Shared} {K : Frag} {x Cc f : Addr} {ox : Obj} {od : Option Obj} {Q : Value → Shared → Prop} (X : K.In s.heap) (I : InstAt s.heap x ox Cc od) (hs : findIn K (.ref Cc) "__iter__" = some (some (.ref f))) (hf : typeIn K (.ref f) = some (.type "function"))
    (h : wpAny M A (call (.ref f) [.ref x]) (fun it s' => wpAny M A (specialOf it "__next__") (fun r s₂ => ∃ g, r = some g ∧ Q it s₂) E s') E s) : wpAny M A (pyIter (.ref x)) Q E s := by
  have fin : wpAny M A (call (.ref f) [.ref x] >>= fun v => pure (some v)) (fun r s' => ∃ v, r = some v ∧ wpAny M A (specialOf v "__next__") (fun r s₂ => ∃ g, r = some g ∧ Q v s₂) E s') E s :=
    wpAny_bind (wpAny_mono h (fun v s' h' => wpAny_pure ⟨v, rfl, h'⟩) fun _ _ z => z)
  have one : ∀ refuse : Sem Value, wpAny M A (callSpecialIfBoundUnlessNone? (.ref x) "__iter__" refuse) (fun r s' => ∃ v, r = some v ∧ wpAny M A (specialOf v "__next__") (fun r s₂ => ∃ g, r = some g ∧ Q v s₂) E s') E s := by
    intro refuse
    simp only [callSpecialIfBoundUnlessNone?, bindSpecialIfBound?]
    refine wpAny_holding (wpAny_bind (wpAny_bind (wpAny_bind (I.type.here ((looks_findIn X hs).here ?_)))))
    refine wpAny_bind (wpAny_askSetting (wpAny_ite ?_))
    have fin2 : wpAny M A (if (Value.ref f == Value.none) = true then (refuse >>= fun v => pure (some v)) else (call (.ref f) [.ref x] >>= fun v => pure (some v))) (fun r s' => ∃ v, r = some v ∧ wpAny M A (specialOf v "__next__") (fun r s₂ => ∃ g, r = some g ∧ Q v s₂) E s') E s := by
      rw [if_neg (show ¬ ((Value.ref f == Value.none) = true) from Bool.false_ne_true)]
      exact fin
    split
    · exact wpAny_bind ((bind_fn X _ hf).here (wpAny_pure (by exact fin2)))
    · exact wpAny_tryCatch (wpAny_bind ((bind_fn X _ hf).here (wpAny_pure (by exact fin2))))
  unfold pyIter
  refine wpAny_bind (wpAny_bind (I.type.here ((looks_findIn X hs).here ?_)))
  show wpAny M A (callSpecialIfBoundUnlessNone? (.ref x) "__iter__" _ >>= _) Q E s
  refine wpAny_bind (wpAny_mono (one _) (fun r s' hr => ?_) fun _ _ z => z)
  obtain ⟨v, rfl, hv⟩ := hr
  refine wpAny_bind (wpAny_mono hv (fun r s₂ hr => ?_) fun _ _ z => z)
  obtain ⟨g, rfl, hq⟩ := hr
  exact wpAny_pure hq
/-- iter(view): its generator -/
theorem st_iterView (S : Ok C) {x dx ad : Addr} {adj : List (Addr × KV)} {r : Led} {s : Shared} {Q : Value → Shared → Prop} {E : Value → Shared → Prop} (hA : A.depth + 5 < recursionLimit)
    (hs : St (C.g s.gens) (ViewL C x dx ad adj ++ r) s)
    (hQ : ∀ a L gs s', gs.bare = true → (∀ A' : Around, A'.depth + 5 < recursionLimit → A'.handled = none → LGen C A' (ViewL C x dx ad adj) (itsFrom 0 adj) ((L, nsP [("self", .ref x)]) :: ViewL C x dx ad adj) gs) →
      s'.gens = s.gens.push gs → St (C.g s'.gens) ((a, genP s.gens.size) :: (L, nsP [("self", .ref x)]) :: (ViewL C x dx ad adj ++ r)) s' → Q (.ref a) s') : wpAny (model P C.w) A (pyIter (.ref x)) Q E s := by
  obtain ⟨ox, hox, rfl⟩ := hs.get (l := ViewL C x dx ad adj) (.head _)
  have J : InstAt s.heap x (instObj 245 dx) 245 (some _) := ⟨hox, rfl, rfl, (hs.get (l := ViewL C x dx ad adj) (.tail _ (.head _))).choose_spec.1⟩
  refine st_pyIter ((S.g (G := s.gens)).kis hs) J (f := 219) (by kernel_rfl) (by kernel_rfl) (wpAny_call ?_)
  refine codeAny_call_generator (by omega) (hs.old (S.k 219 _ rfl (by decide) (by decide))) rfl rfl rfl rfl (Heap.CodeRec.keeps (h := C.B) ⟨218, _, _, _, rfl, S.k 218 _ rfl (by decide) (by decide), rfl, rfl⟩ hs.hp.base) ?_
  refine wpAny_pure (wpAny_newFunctionEnv (by decide) (locs rfl) (fun h' hns hsb => ⟨(S.lim.keeps hs.hp.base).fresh _ hsb, ?_⟩) rfl)
  have hk' : ∀ b o, s.heap.get? b = some o → h'.get? b = some o := fun b o e => hsb.extBut b o (Nat.ne_of_lt (Heap.lt_size e)) (Heap.get?_push_of_some _ e)
  obtain ⟨o', es, ep', ho', hd', hkk, hf⟩ := hns
  have H1 : Hp C.B h' ((s.heap.objs.size, nsP [("self", .ref x)]) :: (ViewL C x dx ad adj ++ r)) := hs.hp.new hk' (get_size _) ho' ⟨es, ep', hd', hkk, hf⟩
  refine wpAny_specialOf (T := "generator") ⟨_, Heap.get?_push_size _ rfl, rfl⟩ slot_gen_next.lookup ⟨_, rfl, ?_⟩
  refine hQ h'.objs.size s.heap.objs.size _ _ rfl (fun A' h1 h2 => lgen_iter S rfl rfl rfl h1 h2) rfl ⟨?_, rfl, hs.os⟩
  exact H1.new (fun _ _ x => Heap.get?_push_of_some _ x) (get_size _) (Heap.get?_push_size _ rfl) ⟨_, _, rfl⟩
end
end Mine
end
/-! N15 -/
section
open PySem PySem.W PySem.Calls PyProof.Rows
set_option maxRecDepth 100000
set_option linter.all false
namespace Mine
local macro_rules | `(tactic| walk_at "in") => `(tactic| first | exact List.Mem.head _ | (refine List.Mem.tail _ ?_; walk_at "in"))
section
variable {α β : Type} {C : Cx} {A : Around} {l : Led} {e : Value → Led → Prop} {env : Env} {F : Led} {G : Array GenState} {s₀ : Shared} {X : Led} {its : List YItem}
theorem GExt.push {a : Array GenState} {x : GenState} (h : x.bare = true) : GExt a (a.push x) := ⟨by simp, fun k hk => by rw [Array.getElem?_push_lt hk, Array.getElem?_eq_getElem hk], fun k y hk hy => by
  rcases Nat.lt_or_ge a.size k with h' | h'
  · rw [Array.getElem?_eq_none (by simp; omega)] at hy; cases hy
  · have : k = a.size := by omega
    subst this
    rw [Array.getElem?_push_size] at hy; cases hy; exact h⟩
/-- one of the new ones went on -/
theorem GExt.only {a b c : Array GenState} {g : Nat} {y : GenState} (h : GExt a b) (hg : a.size ≤ g) (ho : GenOnly g b c) (hc : c[g]? = some y) (hy : y.bare = true) : GExt a c := ⟨by rw [ho.1]; exact h.1, fun k hk => by rw [ho.2 k (by omega)]; exact h.2.1 k hk, fun k z hk hz => by
  by_cases e : k = g
  · subst e; rw [hc] at hz; cases hz; exact hy
  · rw [ho.2 k e] at hz; exact h.2.2 k z hk hz⟩
theorem pm0 (D : Ent) (T V r : Led) : (V ++ (T ++ (D :: r))).Perm (D :: (T ++ V) ++ r) := by
  refine (List.perm_append_comm_assoc V T (D :: r)).trans ?_
  rw [← List.append_assoc]
  exact List.perm_middle
theorem pm1 (a L D : Ent) (T V r : Led) : ((L :: V) ++ (a :: D :: (T ++ r))).Perm ((T ++ V) ++ (a :: L :: D :: r)) := by
  have h1 := List.perm_append_comm_assoc (L :: (V ++ [a, D])) T r
  have h2 : ((L :: (V ++ [a, D])) ++ r).Perm (V ++ (a :: L :: D :: r)) := by
    have h3 := List.perm_append_comm_assoc [L] V (a :: D :: r)
    have h4 : ([L] ++ (V ++ (a :: D :: r))).Perm (V ++ (a :: L :: D :: r)) := h3.trans (List.Perm.append_left V (.swap a L _))
    simpa [List.append_assoc] using h4
  have h5 := h1.trans (List.Perm.append_left T h2)
  simpa [List.append_assoc] using h5
theorem pm2 (a L D : Ent) (T V r : Led) : ((T ++ V) ++ (a :: L :: D :: r)).Perm (a :: L :: (V ++ (T ++ (D :: r)))) := by
  have h1 := List.perm_append_comm_assoc (T ++ V) [a, L] (D :: r)
  have h2 := List.perm_append_comm_assoc T V (D :: r)
  have h3 := h1.trans (List.Perm.append_left [a, L] (show ((T ++ V) ++ (D :: r)).Perm (V ++ (T ++ (D :: r))) from by rw [List.append_assoc]; exact h2))
  simpa using h3
theorem pm3 (D : Ent) (e T V r : Led) : (D :: (e ++ (T ++ V)) ++ r).Perm (D :: (e ++ (V ++ (T ++ r)))) := by
  have h1 := (List.Perm.append_left e (List.perm_append_comm_assoc T V r)).cons D
  simpa [List.append_assoc] using h1
theorem st_extendView (S : Ok C) {t : Option Addr} {x dx ad D : Addr} {adj : List (Addr × KV)} {r : Led} {s : Shared} {R : Result → Shared → Prop} {E : Value → Shared → Prop} (hA : A.depth + 8 < recursionLimit) (hh : A.handled = none) (hz : ∀ r ∈ adj, r.2.length < 1000) (hz2 : (adj.map fun r => (r.2.length : Int)).sum ≤ 1000000) (hz3 : (itsFrom 0 adj).length ≤ 100000)
    (hs : St (C.g s.gens) ((D, freshP []) :: (TabL 207 gposT gqT t ++ ViewL C x dx ad adj) ++ r) s)
    (hR : ∀ t' vs e s', Yields (itsFrom 0 adj) vs e → St (C.g s'.gens) ((D, freshP vs) :: (e ++ (TabL 207 gposT gqT t' ++ ViewL C x dx ad adj)) ++ r) s' → GExt s.gens s'.gens → R (.ok (.ret .none)) s') :
    wpAny (model P C.w) A.in1 (Builtin.List.listExtendWith (.ref D) (.ref x) .none)
      (fun fin s' => match fin with | .done f => R (.ok f) s' | .again c' => c'.quiet = true ∧ codeAny (model P C.w) A c' R s') E s := by
  have hne : D ≠ x := by
    have nd := hs.hp.nd
    rw [List.cons_append, List.map_cons, List.nodup_cons] at nd
    rintro rfl
    exact nd.1 (by simp)
  unfold Builtin.List.listExtendWith
  refine wpAny_bind (W.then (C := C.g s.gens) (w_typeOfI (k := fun v l' => v = .ref 245 ∧ l' = _) (e := noE) (x := x) (Cc := 245) (d := dx) (p := idP C 1 [("_adjdict", .ref ad)]) (.tail _ (List.mem_append_right _ (by walk_at "in"))) (.tail _ (List.mem_append_right _ (by walk_at "in"))) ⟨rfl, rfl⟩) hs (fun v l₁ s₁ ⟨e1, e2⟩ hs₁ => ?_) fun _ _ _ z => z.elim)
  subst e1 e2
  have hg1 : s₁.gens = s.gens := hs₁.bare
  have h1 : Builtin.List.listSameRef (.ref D) (.ref x) = false := by simp [Builtin.List.listSameRef, hne]
  have h2 : (Value.ref 245 == Value.type "list") = false := by decide
  have h3 : (Value.ref 245 == Value.type "tuple") = false := by decide
  simp only [h1, h2, h3, Bool.or_false, Bool.false_eq_true, if_false]
  have hs₁' : St (C.g s₁.gens) (ViewL C x dx ad adj ++ (TabL 207 gposT gqT t ++ ((D, freshP []) :: r))) s₁ := by
    have := hs₁.sub (.perm (pm0 (D, freshP []) (TabL 207 gposT gqT t) (ViewL C x dx ad adj) r))
    exact ⟨this.hp, rfl, this.os⟩
  refine wpAny_bind (st_iterView S (by show A.depth + 5 < _; omega) hs₁' fun a L gs s₂ hbare hLG hg2 hs₂ => ?_)
  have hs₂' : St { C with gi := fun b => GExt s₁.gens b ∧ b[s₁.gens.size]? = some gs } ((TabL 207 gposT gqT t ++ ViewL C x dx ad adj) ++ ((a, genP s₁.gens.size) :: (L, nsP [("self", .ref x)]) :: (D, freshP []) :: r)) s₂ := by
    have := hs₂.sub (.perm (pm2 (a, genP s₁.gens.size) (L, nsP [("self", .ref x)]) (D, freshP []) (TabL 207 gposT gqT t) (ViewL C x dx ad adj) r))
    refine ⟨this.hp, ?_, this.os⟩
    rw [hg2]
    exact ⟨GExt.push hbare, Array.getElem?_push_size ..⟩
  have gi₁ : GiOk { C with gi := fun b => GExt s₁.gens b ∧ b[s₁.gens.size]? = some gs } := fun b c ⟨q1, q2⟩ hx => by
    have hlt : s₁.gens.size < b.size := by
      rcases Nat.lt_or_ge s₁.gens.size b.size with h' | h'
      · exact h'
      · rw [Array.getElem?_eq_none h'] at q2; cases q2
    exact ⟨q1.trans hx, by rw [hx.2.1 _ hlt]; exact q2⟩
  refine wpAny_bind (wpAny_holding (W.then (C := { C with gi := fun b => GExt s₁.gens b ∧ b[s₁.gens.size]? = some gs }) (w_hintView S.gg gi₁ (k := fun _ l' => ∃ t', l' = TabL 207 gposT gqT t' ++ ViewL C x dx ad adj) (e := noE) (by show A.depth + 5 < _; omega) hh hz hz2 fun t' b => ⟨t', rfl⟩) hs₂' (fun b l₃ s₃ ⟨t', e3⟩ hs₃ => ?_) fun _ _ _ z => z.elim))
  subst e3
  obtain ⟨hx3, hg3⟩ : GExt s₁.gens s₃.gens ∧ s₃.gens[s₁.gens.size]? = some gs := hs₃.bare
  have hs₃' : St (C.g s₃.gens) ((L, nsP [("self", .ref x)]) :: ViewL C x dx ad adj ++ ((a, genP s₁.gens.size) :: (D, freshP []) :: (TabL 207 gposT gqT t' ++ r))) s₃ := by
    have := hs₃.sub (.perm (pm1 (a, genP s₁.gens.size) (L, nsP [("self", .ref x)]) (D, freshP []) (TabL 207 gposT gqT t') (ViewL C x dx ad adj) r))
    exact ⟨this.hp, rfl, this.os⟩
  have key : ∀ s₄, St (C.g s₃.gens) ((L, nsP [("self", .ref x)]) :: ViewL C x dx ad adj ++ ((a, genP s₁.gens.size) :: (D, freshP []) :: (TabL 207 gposT gqT t' ++ r))) s₄ →
      codeAny (model P C.w) A (.builtin "list.extend.loop" ⟨[.ref D, .ref a, .none], []⟩) R s₄ := fun s₄ hs₄ => by
    have hb4 : s₄.gens = s₃.gens := hs₄.bare
    refine extend_lgen (its := itsFrom 0 adj) (X := (L, nsP [("self", .ref x)]) :: ViewL C x dx ad adj) (r := TabL 207 gposT gqT t' ++ r) (gs := gs) (acc := []) (g := s₁.gens.size) S.lim hh (by omega) (by simpa using hz3) (by rw [hb4]; exact hs₄) (by rw [hb4]; exact hg3) (hLG A.in1.in1 (by show A.depth + 5 < _; omega) hh) fun vs e s' hy hs' hfin honly => ?_
    refine hR t' vs e s' hy (hs'.sub (.perm (pm3 (D, freshP vs) e (TabL 207 gposT gqT t') (ViewL C x dx ad adj) r))) ?_
    rw [← hg1]
    exact hx3.only (Nat.le_refl _) (by rw [← hb4]; exact honly) hfin rfl
  refine wpAny_ite_split (fun _ => ?_) (fun _ => wpAny_pure ⟨plainId_quiet PySem.F.plain_extend_loop _, key _ hs₃'⟩)
  refine wpAny_bind (wpAny_rule ?_)
  have ht : W (C.g s₃.gens) A.in1 ((L, nsP [("self", .ref x)]) :: ViewL C x dx ad adj ++ ((a, genP s₁.gens.size) :: (D, freshP []) :: (TabL 207 gposT gqT t' ++ r))) (Builtin.List.listTouch (.ref D)) (fun _ l' => l' = (L, nsP [("self", .ref x)]) :: ViewL C x dx ad adj ++ ((a, genP s₁.gens.size) :: (D, freshP []) :: (TabL 207 gposT gqT t' ++ r))) noE := by
    unfold Builtin.List.listTouch
    refine w_bind (w_listUpdate (vs' := [.none]) (Rep.skipN ((L, nsP [("self", .ref x)]) :: ViewL C x dx ad adj) (.tail .head)) (by simp) (by simp) (by simp) ?_)
    exact w_listUpdate (vs' := []) (Rep.skipN ((L, nsP [("self", .ref x)]) :: ViewL C x dx ad adj) (.tail .head)) (by simp) (by simp) (by simp) rfl
  refine wpAny_bind (W.then (C := C.g s₃.gens) (r := []) ht (by rw [List.append_nil]; exact hs₃') (fun _ l₄ s₄ e4 hs₄ => ?_) fun _ _ _ z => z.elim)
  subst e4
  rw [List.append_nil] at hs₄
  exact wpAny_pure ⟨plainId_quiet PySem.F.plain_extend_loop _, key _ hs₄⟩
/-- list(view) -/
theorem w_listView (S : Ok C) (gi : GiOk C) {t : Option Addr} {x dx ad : Addr} {adj : List (Addr × KV)} {k : Value → Led → Prop} (hA : A.depth + 9 < recursionLimit) (hh : A.handled = none) (hz : ∀ r ∈ adj, r.2.length < 1000) (hz2 : (adj.map fun r => (r.2.length : Int)).sum ≤ 1000000) (hz3 : (itsFrom 0 adj).length ≤ 100000)
    (h : ∀ t' D vs e', Yields (itsFrom 0 adj) vs e' → k (.ref D) ((D, freshP vs) :: (e' ++ (TabL 207 gposT gqT t' ++ ViewL C x dx ad adj)))) :
    W C A (TabL 207 gposT gqT t ++ ViewL C x dx ad adj) (call (.type "list") [.ref x]) k e := fun r s hs => by
  refine callType_codes (Q₁ := fun obj s₁ => obj = .ref s.heap.objs.size ∧ s₁ = { s with heap := s.heap.push { cls := .type "list", data := .seq #[] } }) PySem.F.called_list (PySem.F.typeCall_list_1 _) PySem.F.entry_list_init
    (code_list_new _ ⟨rfl, rfl⟩) fun obj s₁ h₁ => ?_
  obtain ⟨rfl, rfl⟩ := h₁
  have hs1 : St (C.g s.gens) ((s.heap.objs.size, freshP []) :: (TabL 207 gposT gqT t ++ ViewL C x dx ad adj) ++ r) { s with heap := s.heap.push { cls := .type "list", data := .seq #[] } } :=
    ⟨hs.hp.new (Pr := freshP []) (fun _ _ x => Heap.get?_push_of_some _ x) (get_size _) (Heap.get?_push_size _ rfl) ⟨0, rfl⟩, rfl, hs.os⟩
  refine ⟨⟨_, Heap.get?_push_size _ rfl, rfl⟩, PySem.F.args_list_init_2 _ _, ?_⟩
  show wpAny _ _ (do let old ← Builtin.List.listItems (.ref s.heap.objs.size); Builtin.List.listUpdate (.ref s.heap.objs.size) (fun _ => #[]); letGo old.toList.reverse; Builtin.List.listExtendWith (.ref s.heap.objs.size) (.ref x) .none) _ _ _
  refine wpAny_bind (W.then (C := C.g s.gens) (w_listItems (k := fun v l' => l' = _) (e := noE) (.head _) rfl) hs1 (fun v l₁ s₁ e1 hs₁ => ?_) fun _ _ _ z => z.elim)
  subst e1
  refine wpAny_bind (W.then (C := C.g s.gens) (w_listUpdate (k := fun v l' => l' = _) (e := noE) (vs' := []) .head (by simp) (by simp) (by simp) rfl) hs₁ (fun _ l₂ s₂ e2 hs₂ => ?_) fun _ _ _ z => z.elim)
  subst e2
  refine wpAny_bind (wpAny_letGo ?_)
  have hb : s₂.gens = s.gens := hs₂.bare
  refine st_extendView (A := A.in1) S (by show A.depth + 8 < _; omega) hh hz hz2 hz3 (by rw [hb]; exact hs₂) fun t' vs e' s' hy hs' hx => ?_
  exact ⟨rfl, _, h t' s.heap.objs.size vs e' hy, ⟨hs'.hp, gi _ _ hs.bare (by rw [← hb]; exact hx), hs'.os⟩⟩
end
end Mine
end
/-! D2 -/
section
open PySem PySem.W PySem.Calls PyProof.Rows
set_option maxRecDepth 100000
set_option linter.all false
namespace Mine
local macro_rules | `(tactic| walk_at "in") => `(tactic| first | exact List.Mem.head _ | (refine List.Mem.tail _ ?_; walk_at "in"))
theorem entry_iterB : entryFor table "iter" = some Builtin.«iter» := entryFor_of_fast (by kernel_rfl)
theorem kind_iterB : builtinKind "iter" = none := by decide +kernel
theorem plain_iterB : plainId "iter" = true := by decide +kernel
theorem args_iterB (a : Value) : argsOk "iter" ⟨[a], []⟩ := by unfold argsOk; kernel_rfl
section
variable {α β : Type} {C : Cx} {A : Around} {l : Led} {e : Value → Led → Prop} {env : Env}
theorem w_iterDict (S : Ok C) {d : Addr} {kvs : List (Int × Value)} {ep : Nat} {k : Value → Led → Prop} (hm : (d, dE C kvs ep) ∈ l) (h : ∀ it, k (.ref it) ((it, kiP d 0 kvs.length ep) :: l)) : W C A l (call (.builtin "iter") [.ref d]) k e := by
  refine w_callBk kind_iterB plain_iterB entry_iterB (args_iterB _) ?_
  unfold Builtin.«iter»
  refine w_bind (m := someArgs "iter" 1 2 _) (w_pure ?_)
  exact w_bind (w_pyIter_dict S hm fun it => w_pure ⟨_, rfl, h it⟩)
/-- Graph.__iter__ -/
theorem spec_giter (S : Ok C) {R : Result → Led → Prop} {g dg nd : Addr} {p : Obj → Prop} {vs : Vars} {kvs : List (Int × Value)} {ep : Nat} (hA : A.depth < recursionLimit) (hx : (g, (· = instObj 860 dg)) ∈ l) (hd : (dg, p) ∈ l) (hp : ∀ o, p o → nsP vs o)
    (hv : vs.lookup ("_node" : Str) = some (.ref nd)) (hm : (nd, dE C kvs ep) ∈ l) (h : ∀ it, R (.ok (.ret (.ref it))) ((it, kiP nd 0 kvs.length ep) :: l)) : CW C A l (.call (.ref 426) ⟨[.ref g], []⟩) R := by
  refine cw_def (binds := [("self", .ref g)]) S.lim hA (S.k 426 _ rfl (by decide) (by decide)) rfl ⟨425, _, _, _, rfl, S.k 425 _ rfl (by decide) (by decide), rfl, rfl⟩ rfl rfl (by decide) (locs rfl) fun L => ?_
  refine w_execs_cons <| w_Return <| w_Call_Name <| S.bi rfl rfl <| w_callWith_b <| w_items_cons <| w_AttributeN <| w_NameL rfl rfl <| w_getattrS S (.tail _ hx) (.tail _ hd) hp hv <| w_items_nil <| w_iterDict S (.tail _ hm) fun it => ⟨_, ?_, h it⟩
  exact .pick1 .head (.skip .refl)
theorem w_pyIterGraph (S : Ok C) {g dg nd : Addr} {p : Obj → Prop} {vs : Vars} {kvs : List (Int × Value)} {ep : Nat} {k : Value → Led → Prop} (hA : A.depth < recursionLimit) (hx : (g, (· = instObj 860 dg)) ∈ l) (hd : (dg, p) ∈ l) (hp : ∀ o, p o → nsP vs o)
    (hv : vs.lookup ("_node" : Str) = some (.ref nd)) (hm : (nd, dE C kvs ep) ∈ l) (h : ∀ it, k (.ref it) ((it, kiP nd 0 kvs.length ep) :: l)) : W C A l (pyIter (.ref g)) k e := fun r s hs => by
  obtain ⟨ox, hox, rfl⟩ := hs.get hx
  have J : InstAt s.heap g (instObj 860 dg) 860 (some _) := ⟨hox, rfl, rfl, (hs.get hd).choose_spec.1⟩
  refine st_pyIter (S.kis hs) J (f := 426) (by kernel_rfl) (by kernel_rfl) ((w_callV (k := fun v l' => ∃ it, v = .ref it ∧ l' = (it, kiP nd 0 kvs.length ep) :: l) (e := noE) (spec_giter S hA hx hd hp hv hm fun it => ⟨it, rfl, rfl⟩)).then hs (fun v l' s' ⟨it, e1, e2⟩ hs' => ?_) fun _ _ _ z => z.elim)
  subst e1 e2
  obtain ⟨o, ho, hP⟩ := hs'.get (.head _)
  exact wpAny_specialOf (T := "dict_keyiterator") ⟨o, ho, hP.1⟩ PySem.F.slot_dict_keyiterator_next.lookup ⟨_, rfl, _, h it, hs'⟩
theorem w_len_dictE (S : Ok C) {d : Addr} {kvs : List (Int × Value)} {ep : Nat} {k : Value → Led → Prop} (hm : (d, dE C kvs ep) ∈ l) (hz : kvs.length < 1000000) (h : ∀ t, k (.int kvs.length t) l) : W C A l (call (.builtin "len") [.ref d]) k e := fun r s hs =>
  call_len_dict (knd := intKind P C.w) (hs.notMod S hm) (hs.dictAt hm).dictOf (by omega) ⟨l, h _, hs.toks.toks⟩
/-- Graph.__len__ -/
theorem spec_glen (S : Ok C) {R : Result → Led → Prop} {g dg nd : Addr} {p : Obj → Prop} {vs : Vars} {kvs : List (Int × Value)} {ep : Nat} (hA : A.depth < recursionLimit) (hx : (g, (· = instObj 860 dg)) ∈ l) (hd : (dg, p) ∈ l) (hp : ∀ o, p o → nsP vs o)
    (hv : vs.lookup ("_node" : Str) = some (.ref nd)) (hm : (nd, dE C kvs ep) ∈ l) (hz : kvs.length < 1000000) (h : ∀ t, R (.ok (.ret (.int kvs.length t))) l) : CW C A l (.call (.ref 440) ⟨[.ref g], []⟩) R := by
  refine cw_def (binds := [("self", .ref g)]) S.lim hA (S.k 440 _ rfl (by decide) (by decide)) rfl ⟨439, _, _, _, rfl, S.k 439 _ rfl (by decide) (by decide), rfl, rfl⟩ rfl rfl (by decide) (locs rfl) fun L => ?_
  refine w_execs_cons <| w_Return <| w_Call_Name <| S.bi rfl rfl <| w_callWith_b <| w_items_cons <| w_AttributeN <| w_NameL rfl rfl <| w_getattrS S (.tail _ hx) (.tail _ hd) hp hv <| w_items_nil <| w_len_dictE S (.tail _ hm) hz fun t => ⟨_, ?_, h t⟩
  exact .skip .refl
theorem w_hintGraph (S : Ok C) {g dg nd : Addr} {p : Obj → Prop} {vs : Vars} {kvs : List (Int × Value)} {ep : Nat} {k : Bool → Led → Prop} (hA : A.depth + 1 < recursionLimit) (hx : (g, (· = instObj 860 dg)) ∈ l) (hd : (dg, p) ∈ l) (hp : ∀ o, p o → nsP vs o)
    (hv : vs.lookup ("_node" : Str) = some (.ref nd)) (hm : (nd, dE C kvs ep) ∈ l) (hz : kvs.length < 100000) (h : ∀ b, k b l) : W C A l (Builtin.List.listLengthHint (.ref g)) k e := by
  unfold Builtin.List.listLengthHint
  refine w_bind (w_specialI S (r := some (.ref 440)) hx hd (by kernel_rfl) ?_)
  dsimp only
  refine w_bind (w_rule ?_)
  refine w_bind (w_attempt ?_)
  refine W.mono (k' := fun v l' => (∃ tk, v = Value.int kvs.length tk) ∧ l' = l) (e' := noE) ?_ ?_ fun _ _ z => z.elim
  rotate_left
  · rintro v l' ⟨⟨tk, rfl⟩, rfl⟩
    refine w_bind (w_pure ?_)
    dsimp only
    rw [if_neg (by simp [Builtin.List.listTooLong, sizeLine_eq]; omega)]
    exact w_pure (h _)
  intro r s hs
  refine call_function_entry kind_len plain_len entry_len (args_len1 _) ?_
  suffices key : W C A.in1 l (Builtin.«len» ⟨[.ref g], []⟩) (fun fin l' => ∃ v, fin = .done (.ret v) ∧ (∃ tk, v = Value.int kvs.length tk) ∧ l' = l) noE from
    wpAny_mono (key r s hs) (fun fin s' ⟨l', ⟨v, e1, hk⟩, hs'⟩ => ⟨v, e1, l', hk, hs'⟩) fun _ _ ⟨_, z, _⟩ => z.elim
  unfold Builtin.«len»
  refine w_bind (m := oneArg "len" _) (w_pure ?_)
  refine w_bind (m := callSpecial? (.ref g) (Str.ofString "__len__")) (w_callSpecialI S (f := 440) hx hd (by kernel_rfl) (by kernel_rfl) (w_callV (spec_glen S (by show A.depth < _; omega) hx hd hp hv hm (by omega) fun tk => ?_)))
  refine w_bind (w_holding (w_pure ?_))
  refine w_bind (w_letGo ?_)
  show W C A.in1 _ (if (kvs.length : Int) < 0 then _ else _) _ _
  rw [if_neg (by omega)]
  show W C A.in1 _ (if (kvs.length : Int) ≥ 2 ^ 63 then _ else _) _ _
  rw [if_neg (by omega)]
  exact w_bind (w_mkInt fun tk' => w_pure ⟨_, rfl, ⟨_, rfl⟩, rfl⟩)
/-- list.extend by the keys -/
theorem cw_extKeys {it D nd : Addr} {res : Value} {kvs : List (Int × Value)} {ep : Nat} {R : Result → Led → Prop} (hh : A.handled = none) (hm : (nd, dE C kvs ep) ∈ l) (hz : kvs.length ≤ 1000)
    (h : ∀ xs, IntsAre xs (kvs.map (·.1)) → R (.ok (.ret res)) ((D, freshP xs) :: l)) : ∀ (m i : Nat) (acc : List Value), kvs.length - i = m → i ≤ kvs.length → IntsAre acc ((kvs.map (·.1)).take i) →
    CW C A ((it, kiP nd i kvs.length ep) :: (D, freshP acc) :: l) (.builtin "list.extend.loop" ⟨[.ref D, .ref it, res], []⟩) R
  | 0, i, acc, hi, hle, ha => by
    have hi' : i = kvs.length := by omega
    have hx : kvs[i]? = none := by simp [hi']
    have hal : acc.length = i := by have := ha.length; simp at this; omega
    refine cw_builtinP (by decide) PySem.F.plain_extend_loop PySem.F.entry_extend_loop ?_
    show W C A.in1 _ (pyNext (.ref it) >>= _) _ _
    refine w_bind (w_next_keys_end hh (.tail _ hm) hx ?_)
    refine w_pure (h acc ?_)
    rw [hi', List.take_of_length_le (by simp)] at ha
    exact ha
  | m + 1, i, acc, hi, hle, ha => by
    have hlt : i < kvs.length := by omega
    have hx : kvs[i]? = some (kvs[i].1, kvs[i].2) := by simp [hlt]
    have hal : acc.length = i := by have := ha.length; simp at this; omega
    refine cw_builtinP (by decide) PySem.F.plain_extend_loop PySem.F.entry_extend_loop ?_
    show W C A.in1 _ (pyNext (.ref it) >>= _) _ _
    refine w_bind (w_next_keys (.tail _ hm) hx fun t => ?_)
    show W C A.in1 _ (Builtin.List.listUpdate (.ref D) (·.push _) >>= _) _ _
    refine w_bind (w_listUpdate (vs' := acc ++ [.int kvs[i].1 t]) (.tail .head) (by simp) (by omega) (by simp; omega) ?_)
    refine w_pure ⟨plainId_quiet PySem.F.plain_extend_loop _, cw_extKeys hh hm hz h m (i + 1) _ (by omega) hlt ?_⟩
    rw [List.take_add_one]
    simp only [List.getElem?_map, List.getElem?_eq_getElem hlt, Option.map_some, Option.toList_some]
    exact ha.append (.cons _ _ .nil)
end
end Mine
end
/-! D3 -/
section
open PySem PySem.W PySem.Calls PyProof.Rows
set_option maxRecDepth 100000
set_option linter.all false
namespace Mine
local macro_rules | `(tactic| walk_at "in") => `(tactic| first | exact List.Mem.head _ | (refine List.Mem.tail _ ?_; walk_at "in"))
section
variable {α β : Type} {C : Cx} {A : Around} {l : Led} {e : Value → Led → Prop} {env : Env}
theorem keyed_fst : ∀ (xs : List Addr) (k : Nat), (keyedFrom k xs).map (·.1) = (List.range xs.length).map fun i => ((k + i : Nat) : Int)
  | [], _ => rfl
  | a :: r, k => by
    rw [keyedFrom, List.map_cons, keyed_fst r (k + 1), List.length_cons, List.range_succ_eq_map, List.map_cons, List.map_map]
    congr 1
    refine List.map_congr_left fun i _ => ?_
    show ((k + 1 + i : Nat) : Int) = ((k + (i + 1) : Nat) : Int)
    congr 1
    omega
theorem w_extGraph (S : Ok C) {g dg nd D : Addr} {p : Obj → Prop} {vs : Vars} {kvs : List (Int × Value)} {ep : Nat} {res : Value} {R : Result → Led → Prop} (hA : A.depth + 3 < recursionLimit) (hh : A.handled = none) (hne : D ≠ g) (hx : (g, (· = instObj 860 dg)) ∈ l) (hd : (dg, p) ∈ l) (hp : ∀ o, p o → nsP vs o)
    (hv : vs.lookup ("_node" : Str) = some (.ref nd)) (hm : (nd, dE C kvs ep) ∈ l) (hz : kvs.length ≤ 1000) (h : ∀ xs, IntsAre xs (kvs.map (·.1)) → R (.ok (.ret res)) ((D, freshP xs) :: l)) :
    W C A.in1 ((D, freshP []) :: l) (Builtin.List.listExtendWith (.ref D) (.ref g) res) (fun fin l' => match fin with | .done f => R (.ok f) l' | .again c' => c'.quiet = true ∧ CW C A l' c' R) noE := by
  unfold Builtin.List.listExtendWith
  refine w_bind (w_typeOfI (.tail _ hx) (.tail _ hd) ?_)
  have h1 : Builtin.List.listSameRef (.ref D) (.ref g) = false := by simp [Builtin.List.listSameRef, hne]
  have h2 : (Value.ref 860 == Value.type "list") = false := by decide
  have h3 : (Value.ref 860 == Value.type "tuple") = false := by decide
  simp only [h1, h2, h3, Bool.or_false, Bool.false_eq_true, if_false]
  refine w_bind (w_pyIterGraph S (by show A.depth < _; omega) (.tail _ hx) (.tail _ hd) hp hv (.tail _ hm) fun it => ?_)
  refine w_bind (w_holding (w_hintGraph S (by show A.depth + 1 < _; omega) (.tail _ (.tail _ hx)) (.tail _ (.tail _ hd)) hp hv (.tail _ (.tail _ hm)) (by omega) fun b => ?_))
  have fin : W C A.in1 ((it, kiP nd 0 kvs.length ep) :: (D, freshP []) :: l) (again (.builtin "list.extend.loop" ⟨[.ref D, .ref it, res], []⟩)) (fun fin l' => match fin with | .done f => R (.ok f) l' | .again c' => c'.quiet = true ∧ CW C A l' c' R) noE :=
    w_pure ⟨plainId_quiet PySem.F.plain_extend_loop _, cw_extKeys hh hm hz h _ 0 [] rfl (Nat.zero_le _) .nil⟩
  cases b with
  | false => exact fin
  | true =>
    refine w_bind (w_rule ?_)
    unfold Builtin.List.listTouch
    refine w_bind (w_bind (w_listUpdate (vs' := [.none]) (.tail .head) (by simp) (by simp) (by simp) ?_))
    exact w_listUpdate (vs' := []) (.tail .head) (by simp) (by simp) (by simp) fin
theorem w_collectGraph (S : Ok C) {g dg nd : Addr} {p : Obj → Prop} {vs : Vars} {kvs : List (Int × Value)} {ep : Nat} {k : List Value → Led → Prop} (hA : A.depth + 3 < recursionLimit) (hh : A.handled = none) (hx : (g, (· = instObj 860 dg)) ∈ l) (hd : (dg, p) ∈ l) (hp : ∀ o, p o → nsP vs o)
    (hv : vs.lookup ("_node" : Str) = some (.ref nd)) (hm : (nd, dE C kvs ep) ∈ l) (hz : kvs.length ≤ 1000) (h : ∀ xs, IntsAre xs (kvs.map (·.1)) → k xs l) : W C A l (collect (.ref g)) k e := fun r s hs => by
  have hlt : g < s.heap.objs.size := by
    obtain ⟨o, ho, _⟩ := hs.get hx
    exact Heap.lt_size ho
  unfold collect
  refine wpAny_bind (wpAny_runValue (codeAny_builtin entry_proto_collect' ?_))
  rw [Around.under_plainId PySem.F.plain_proto_collect _]
  show wpAny _ _ (do again (.builtin "list.__iadd__" ⟨[← newList [], .ref g], []⟩)) _ _ s
  refine wpAny_bind (wpAny_newList (wpAny_pure ⟨Code.quiet_builtin _ (by decide +kernel), codeAny_builtin entry_list_iadd' ?_⟩))
  rw [Around.under_plainId PySem.F.plain_list_iadd _]
  show wpAny _ _ (Builtin.List.listExtendWith (.ref s.heap.objs.size) (.ref g) (.ref s.heap.objs.size)) _ _ { s with heap := s.heap.push (seqObj "list" #[] 0) }
  have hs1 : St C ((s.heap.objs.size, freshP []) :: l ++ r) { s with heap := s.heap.push (seqObj "list" #[] 0) } :=
    ⟨hs.hp.new (Pr := freshP []) (fun _ _ x => Heap.get?_push_of_some _ x) (get_size _) (Heap.get?_push_size _ rfl) ⟨0, rfl⟩, hs.bare, hs.os⟩
  have key := w_extGraph (A := A) (R := fun x l' => ∃ xs, x = .ok (.ret (.ref s.heap.objs.size)) ∧ IntsAre xs (kvs.map (·.1)) ∧ l' = (s.heap.objs.size, freshP xs) :: l) (res := .ref s.heap.objs.size) S hA hh (Nat.ne_of_gt hlt) hx hd hp hv hm hz fun xs hi => ⟨xs, rfl, hi, rfl⟩
  have post : ∀ x l' s', (∃ xs, x = (.ok (.ret (.ref s.heap.objs.size)) : PySem.Result) ∧ IntsAre xs (kvs.map (·.1)) ∧ l' = (s.heap.objs.size, freshP xs) :: l) → St C (l' ++ r) s' → colR C A k e r x s' := by
    rintro x l' s' ⟨xs, rfl, hi, rfl⟩ hs'
    obtain ⟨o, ho, n, rfl⟩ := hs'.get (.head _)
    show wpAny (model P C.w) A (do
      let o ← load s.heap.objs.size
      match o.data with
      | .seq xs _ => pure xs.toList
      | _ => unsupported "internal:collect") _ _ _
    refine wpAny_bind (wpAny_load ho (wpAny_pure ⟨l, ?_, hs'.sub (.skip .refl)⟩))
    simpa using h xs hi
  refine key.then (Q := fun fin s' => match fin with | .done f => colR C A k e r (.ok f) s' | .again c' => c'.quiet = true ∧ codeAny (model P C.w) A c' (colR C A k e r) s') hs1 (fun fin l' s' hk hs' => ?_) fun _ _ _ z => z.elim
  cases fin with
  | done f => exact post _ _ _ hk hs'
  | again c' => exact ⟨hk.1, codeAny_mono (hk.2 r s' hs') fun x s'' ⟨l'', hx, hs''⟩ => post x l'' s'' hx hs''⟩
/-- list.sort of ints -/
theorem w_sortInts {D : Addr} {vs : List Value} {ns ms : List Int} {k : PySem.Fin → Led → Prop} (hI : IntsAre vs ns) (hms : ms.Pairwise (· ≤ ·)) (hp : ms.Perm ns) (hz : vs.length < 64) (h : k (.done (.ret .none)) ((D, intsP ms) :: l)) :
    W C A ((D, freshP vs) :: l) (Builtin.«list.sort» ⟨[.ref D], []⟩) k e := fun r s hs => by
  obtain ⟨o, ho, n, rfl⟩ := hs.get (.head _)
  refine list_sort_tree ho hI hz fun out ns' a1 a2 a3 => ⟨_, h, ⟨?_, hs.bare, hs.os⟩⟩
  have e1 : ns' = ms := List.Perm.eq_of_pairwise (le := (· ≤ ·)) (fun a b _ _ h1 h2 => Int.le_antisymm h1 h2) a3 hms (a2.trans hp.symm)
  obtain ⟨c, hc⟩ := sortedHeap_at (h := s.heap) (out := out) ho
  refine hs.hp.chg (fun b o hb hbo => by rw [sortedHeap_old hb (Heap.lt_size hbo)]; exact hbo) ⟨_, hc, out.toList, ?_, rfl, c, by simp⟩
  rw [← e1]; exact a1
/-- sorted(graph) -/
theorem w_sortedGraph (S : Ok C) {f : Ent} {g dg nd : Addr} {p : Obj → Prop} {vs : Vars} {na : List Addr} {ep : Nat} {k : Value → Led → Prop} (hA : A.depth + 3 < recursionLimit) (hh : A.handled = none) (hx : (g, (· = instObj 860 dg)) ∈ f :: l) (hd : (dg, p) ∈ f :: l) (hp : ∀ o, p o → nsP vs o)
    (hv : vs.lookup ("_node" : Str) = some (.ref nd)) (hm : (nd, dE C (keyed na) ep) ∈ f :: l) (hz : na.length < 64) (h : ∀ D, k (.ref D) (f :: (D, intsP ((List.range na.length).map fun i : Nat => (i : Int))) :: l)) : W C A (f :: l) (call (.builtin "sorted") [.ref g]) k e := by
  have hk : (keyed na).map (·.1) = (List.range na.length).map fun i : Nat => (i : Int) := by
    rw [keyed_fst]; simp
  refine w_callBk kind_sorted plain_sorted entry_sorted (args_sorted1 _) ?_
  unfold Builtin.«sorted»
  refine w_bind (m := checkCount "sorted" 1 1 _) (w_pure ?_)
  refine w_bind (w_collectGraph S (by show A.depth + 3 < _; omega) hh hx hd hp hv hm (by rw [keyedFrom_len]; omega) fun xs hi => ?_)
  rw [hk] at hi
  have hxl : xs.length = na.length := by have := hi.length; simpa using this
  refine w_bind (w_newListF (fun D => ?_) (by rw [sizeLine_eq]; omega))
  refine w_bind (w_holding (w_call_entry_kw slot_list_sort (.tail _ (.head _)) (fun o ho => by obtain ⟨n, rfl⟩ := ho; rfl) entry_list_sort ?_ (args_list_sort _)))
  show W C A.in1.in1 _ (Builtin.«list.sort» ⟨[.ref D], []⟩) _ _
  refine W.sub (l' := (D, freshP xs) :: f :: l) (.pick1 (.tail .head) (.pick1 .head .refl)) ?_
  refine w_sortInts hi (ms := (List.range na.length).map fun i : Nat => (i : Int)) ?_ (.refl _) (by omega) ⟨_, rfl, W.sub (l' := f :: (D, intsP ((List.range na.length).map fun i : Nat => (i : Int))) :: l) (Sub.perm (List.Perm.swap _ _ _)) (w_pure ⟨_, rfl, h D⟩)⟩
  rw [List.pairwise_map]
  exact List.pairwise_le_range.imp fun h => by omega
end
end Mine
end
/-! V1 -/
section
open PySem PySem.W PySem.Calls PyProof.Rows
set_option maxRecDepth 100000
set_option linter.all false
namespace Mine
section
variable {α β : Type} {C : Cx} {A : Around} {l : Led} {e : Value → Led → Prop} {env : Env}
/-- the class of the errors -/
theorem Ok.nx (S : Ok C) : ∃ bm nm q N bs hdct sn sub ab col dd k0 k1 k2 k3 k5, C.B.get? 305 = some (excClassObj nm q 305 N bs bm hdct sn sub ab col dd k0 k1 k2 k3 k5 "Exception.__new__") ∧ bm.contains (.type "BaseException") = true := by
  have q := nx_in C.w.params
  have X := S.kin (h := C.B) fun _ _ e => e
  unfold excIn at q
  split at q
  · rename_i dd cd sl ho
    split at q
    · rename_i C' bm k0 k1 k2 k3 n k5 hm hs
      simp only [Bool.and_eq_true, beq_iff_eq, Bool.not_eq_true'] at q
      obtain ⟨⟨⟨⟨⟨rfl, rfl⟩, hdel⟩, ht⟩, hok⟩, hni⟩ := q
      obtain ⟨nm, bs, mro, ns, qn, hd, sn, sub, ab, col, del⟩ := cd
      dsimp only at hm hdel hok hni
      subst hm hdel
      have hsl : sl = #[k0, k1, k2, k3, some (.builtin "Exception.__new__"), k5] := by
        obtain ⟨l⟩ := sl
        simp only at hs
        rw [hs]
      subst hsl
      have T := tail_of_in X ht
      exact ⟨bm, nm, qn, ns, bs, hd, sn, sub, ab, col, dd, k0, k1, k2, k3, k5, X _ _ ho, T.hasType PySem.F.excBase_Exception.hasBase⟩
    · cases q
  · cases q
/-- try: .. except NetworkXError: suite -/
theorem w_Try_NX (S : Ok C) {body orelse : List Stmt} {x : Str} {np pos tpos : Pos} {b₀ : Stmt} {suite : List Stmt} {k : Flow → Led → Prop} {envs : List Env} {L : Addr} {outer : Frs} (hA : A.frames = some (env :: envs)) (hf : ∀ vs, FrOk (env :: envs) ((L, vs) :: outer))
    (hx : nsIn (KK C.w.params) mainGlobals x = some (some (.ref 305)))
    (h : W C A l (execs body env) (fun f l' => match f with | .next => W C A l' (execs orelse env) k e | f => k f l') (fun x l' => ∃ ea T vs rest, x = .ref ea ∧ l' = frL ((L, vs) :: outer) ++ (ea, excP T) :: (T, tbP .none) :: rest ∧
      ∀ T', W C (A.mark (some (.ref ea))) (frL ((L, vs) :: outer) ++ (ea, excP T') :: (T', tbP .none) :: rest) (execs (b₀ :: suite) env) k noE))
    (hg : env.globals = mainGlobals := by rfl) (hk : env.scope.kind = .function := by rfl) (hxk : env.kindOf x = some .globalImplicit := by rfl) (hd : (x == ("__debug__" : Str)) = false := by decide) :
    W C A l (exec (.Try body [.ExceptHandler (some (.Name x np)) none (b₀ :: suite) pos] orelse [] tpos) env) k e := fun r s hs => by
  refine wpAny_Try_except (h.then hs (fun f l' s' h' hs₁ => ?_) fun x l' s' hx' hs₁ => ?_)
  · cases f with
    | next => exact h' r s' hs₁
    | brk => exact ⟨l', h', hs₁⟩
    | cont => exact ⟨l', h', hs₁⟩
    | ret v => exact ⟨l', h', hs₁⟩
  · obtain ⟨ea, T, vs, rest, rfl, rfl, hsuite⟩ := hx'
    refine (w_note (k := fun _ l' => ∃ T', l' = frL ((L, vs) :: outer) ++ (ea, excP T') :: (T', tbP (rawInt L)) :: rest) (e := noE) hA (hf vs) fun T' => ⟨T', rfl⟩).then hs₁ (fun _ l₂ s₂ ⟨T', e2⟩ hs₂ => ?_) fun _ _ _ z => z.elim
    subst e2
    refine (w_setFlight (k := fun _ l' => ∃ T', l' = frL ((L, vs) :: outer) ++ (ea, excP T') :: (T', tbP .none) :: rest) (e := noE) (hf vs) fun T' => ⟨T', rfl⟩).then hs₂ (fun _ l₃ s₃ ⟨T', e3⟩ hs₃ => ?_) fun _ _ _ z => z.elim
    subst e3
    refine wpAny_handleBy_cons (codeAny_handlers_test ?_) (by intro q; cases q)
    refine (S.glob (A := A.mark (some (.ref ea))) (e := noE) (k := fun v l' => v = .ref 305 ∧ l' = frL ((L, vs) :: outer) ++ (ea, excP T') :: (T', tbP .none) :: rest) (pos := np) hx ⟨rfl, rfl⟩ hg hk hxk hd).then hs₃ (fun v l₄ s₄ ⟨e4, e5⟩ hs₄ => ?_) fun _ _ _ z => z.elim
    subst e4 e5
    obtain ⟨bm, nm, q, N, bs, hdct, sn, sub, ab, col, dd, k0, k1, k2, k3, k5, hC, hbase⟩ := S.nx
    obtain ⟨⟨oe, hoe, hcls, _⟩, _⟩ := hs₄.hp.own (ea, excP T') (List.mem_append_left _ (List.mem_append_right _ (.head _)))
    obtain ⟨hh, g, d, tk, os⟩ := s₄
    refine wpAny_excMatches_sub_self (hs₄.old hC) hoe hcls hbase ?_
    refine codeAny_handlers_suite ?_
    refine (w_setFlight (A := A.mark (some (.ref ea))) (k := fun _ l' => ∃ T', l' = frL ((L, vs) :: outer) ++ (ea, excP T') :: (T', tbP .none) :: rest) (e := noE) (hf vs) fun T' => ⟨T', rfl⟩).then hs₄ (fun _ l₅ s₅ ⟨T', e6⟩ hs₅ => ?_) fun _ _ _ z => z.elim
    subst e6
    exact (hsuite T').then hs₅ (fun f l₆ s₆ hk' hs₆ => ⟨l₆, hk', hs₆⟩) fun _ _ _ z => z.elim
end
end Mine
end
/-! S2 -/
section
open PySem PySem.SetTable
set_option maxRecDepth 100000
set_option linter.all false
namespace Mine
/-! the table of a set: the places that a search meets -/
def adv (mask : Nat) (p : Probe) : Probe :=
  if p.more > 0 then { p with j := p.j + 1, more := p.more - 1 } else
  { p with j := (leap mask p.i p.perturb).1, more := runEnd mask (leap mask p.i p.perturb).1 - (leap mask p.i p.perturb).1, i := (leap mask p.i p.perturb).1, perturb := (leap mask p.i p.perturb).2 }
theorem adv_eq (t : SetTable) (p : Probe) : t.advance p = adv t.mask p := rfl
def jseq (mask : Nat) : Nat → Probe → List Nat
  | 0, _ => []
  | n + 1, p => p.j :: jseq mask n (adv mask p)
theorem slot_cases (t : SetTable) (hd : t.dummies = #[]) (j : Nat) : t.slot j = .empty ∨ ∃ i, t.slot j = .live i ∧ t.place[i]? = some j := by
  unfold slot
  by_cases h : (t.place[below t.place j]? == some j) = true
  · right
    rw [if_pos h]
    exact ⟨_, rfl, by simpa using h⟩
  · left
    rw [if_neg h]
    have : has t.dummies j = false := by rw [hd]; rfl
    rw [this]; rfl
theorem go_empty (t : SetTable) (hd : t.dummies = #[]) (hashAt : Nat → Int) (h : Int) (hne : ∀ j i, t.slot j = .live i → hashAt i ≠ h) : ∀ n p, (∃ j ∈ jseq t.mask n p, t.slot j = .empty) → ∃ j, probe.go t hashAt h n p = some (.empty j p.dummy)
  | 0, p, ⟨j, hj, _⟩ => by cases hj
  | n + 1, p, ⟨j, hj, he⟩ => by
    unfold probe.go
    rcases slot_cases t hd p.j with h1 | ⟨i, h1, _⟩
    · rw [h1]; exact ⟨_, rfl⟩
    · rw [h1]
      dsimp only
      have : (hashAt i == h) = false := by simpa using hne _ _ h1
      rw [this]
      simp only [Bool.false_eq_true, if_false]
      have ih := go_empty t hd hashAt h hne n (adv t.mask p) ⟨j, by
        rcases List.mem_cons.mp hj with rfl | hj
        · rw [h1] at he; cases he
        · exact hj, he⟩
      obtain ⟨j', e⟩ := ih
      refine ⟨j', ?_⟩
      rw [adv_eq, e]
      unfold adv
      split <;> rfl
theorem nodup_len {n : Nat} {l : List Nat} (hn : l.Nodup) (h : ∀ x ∈ l, x < n) : l.length ≤ n := by
  have := List.Nodup.length_le_of_subset (l₁ := l) (l₂ := List.range n) hn (fun x hx => List.mem_range.mpr (h x hx))
  simpa using this
/-- a table with room has an empty place -/
theorem has_empty (t : SetTable) (hd : t.dummies = #[]) (hs : t.place.size ≤ t.mask) : ∃ j, j ≤ t.mask ∧ t.slot j = .empty := by
  by_cases hall : ∃ j, j ≤ t.mask ∧ t.slot j = .empty
  · exact hall
  · exfalso
    have hl : ∀ j, j ≤ t.mask → t.place[below t.place j]? = some j := fun j hj => by
      rcases slot_cases t hd j with h | ⟨i, h, hi⟩
      · exact absurd ⟨j, hj, h⟩ hall
      · unfold slot at h
        by_cases hq : (t.place[below t.place j]? == some j) = true
        · simpa using hq
        · rw [if_neg hq] at h
          have : has t.dummies j = false := by rw [hd]; rfl
          rw [this] at h; cases h
    have hn : ((List.range (t.mask + 1)).map (below t.place)).Nodup := by
      refine List.pairwise_map.mpr (List.Pairwise.imp_of_mem (fun {x y} hx hy hne e => hne ?_) List.nodup_range)
      have h1 := hl x (by have := List.mem_range.mp hx; omega)
      have h2 := hl y (by have := List.mem_range.mp hy; omega)
      rw [e, h2] at h1
      exact (Option.some.inj h1).symm
    have := nodup_len hn (n := t.place.size) fun x hx => by
      obtain ⟨j, hj, rfl⟩ := List.mem_map.mp hx
      have h1 := hl j (by have := List.mem_range.mp hj; omega)
      exact (Array.getElem?_eq_some_iff.mp h1).1
    simp at this
    omega
def maskOf (l : List Nat) : Nat := l.foldl (fun a j => a ||| 2 ^ j) 0
theorem maskOf_mem (l : List Nat) (k : Nat) : ∀ a : Nat, (l.foldl (fun a j => a ||| 2 ^ j) a).testBit k = true → a.testBit k = true ∨ k ∈ l := by
  induction l with
  | nil => intro a h; exact .inl h
  | cons x xs ih =>
    intro a h
    rcases ih (a ||| 2 ^ x) h with h1 | h1
    · rw [Nat.testBit_or, Bool.or_eq_true] at h1
      rcases h1 with h1 | h1
      · exact .inl h1
      · rw [Nat.testBit_two_pow] at h1
        exact .inr (by simp at h1; simp [h1])
    · exact .inr (.tail _ h1)
def rseq (mask : Nat) : Nat → Nat → Nat → List Nat
  | 0, _, _ => []
  | n + 1, i, p => (List.range (runEnd mask i + 1 - i)).map (i + ·) ++ rseq mask n (leap mask i p).1 (leap mask i p).2
/-- every place is met -/
def covR (mask : Nat) (h : Int) : Bool := maskOf (rseq mask (turns mask) (bits h % (mask + 1)) (bits h)) == 2 ^ (mask + 1) - 1
def pst (mask i p : Nat) (d : Option Nat) : Probe := { j := i, more := runEnd mask i - i, i := i, perturb := p, dummy := d }
theorem jseq_run (mask : Nat) : ∀ (m n : Nat) (q : Probe), q.more = m → ∀ x, (x ∈ (List.range (m + 1)).map (q.j + ·) ∨ x ∈ jseq mask n (pst mask (leap mask q.i q.perturb).1 (leap mask q.i q.perturb).2 q.dummy)) → x ∈ jseq mask (m + 1 + n) q
  | 0, n, q, hm, x, h => by
    have e : jseq mask (0 + 1 + n) q = q.j :: jseq mask n (adv mask q) := by rw [Nat.add_comm (0 + 1) n]; rfl
    have e2 : adv mask q = pst mask (leap mask q.i q.perturb).1 (leap mask q.i q.perturb).2 q.dummy := by unfold adv; rw [hm]; rfl
    rw [e, e2]
    rcases h with h | h
    · simp at h; rw [h]; exact .head _
    · exact .tail _ h
  | m + 1, n, q, hm, x, h => by
    have e : jseq mask (m + 1 + 1 + n) q = q.j :: jseq mask (m + 1 + n) { q with j := q.j + 1, more := m } := by
      have : m + 1 + 1 + n = (m + 1 + n) + 1 := by omega
      rw [this]
      show q.j :: jseq mask (m + 1 + n) (adv mask q) = _
      unfold adv; rw [hm]; simp
    rw [e]
    rcases h with h | h
    · obtain ⟨k, hk, rfl⟩ := List.mem_map.mp h
      have hk := List.mem_range.mp hk
      cases k with
      | zero => exact .head _
      | succ k => exact .tail _ (jseq_run mask m n _ rfl _ (.inl (List.mem_map.mpr ⟨k, List.mem_range.mpr (by omega), by simp; omega⟩)))
    · exact .tail _ (jseq_run mask m n _ rfl _ (.inr h))
theorem jseq_mono (mask : Nat) : ∀ (n d : Nat) (q : Probe) (x : Nat), x ∈ jseq mask n q → x ∈ jseq mask (n + d) q
  | 0, d, q, x, h => by cases h
  | n + 1, d, q, x, h => by
    have : n + 1 + d = (n + d) + 1 := by omega
    rw [this]
    rcases List.mem_cons.mp h with rfl | h
    · exact .head _
    · exact .tail _ (jseq_mono mask n d _ x h)
theorem rseq_jseq (mask : Nat) : ∀ (n i p : Nat) (d : Option Nat) (x : Nat), x ∈ rseq mask n i p → x ∈ jseq mask (10 * n) (pst mask i p d)
  | 0, _, _, _, _, h => by cases h
  | n + 1, i, p, d, x, h => by
    have hm : runEnd mask i - i ≤ 9 := by unfold runEnd; split <;> omega
    have hr : runEnd mask i + 1 - i = (runEnd mask i - i) + 1 := by unfold runEnd; split <;> omega
    have e : 10 * (n + 1) = (runEnd mask i - i) + 1 + (10 * n + (9 - (runEnd mask i - i))) := by omega
    rw [e]
    refine jseq_run mask (runEnd mask i - i) _ (pst mask i p d) rfl x ?_
    rcases List.mem_append.mp h with h | h
    · rw [hr] at h; exact .inl h
    · exact .inr (jseq_mono mask _ _ _ _ (rseq_jseq mask n _ _ d x h))
theorem covR_mem {mask : Nat} {h : Int} (hc : covR mask h = true) {j : Nat} (hj : j ≤ mask) : j ∈ rseq mask (turns mask) (bits h % (mask + 1)) (bits h) := by
  have hcov : maskOf (rseq mask (turns mask) (bits h % (mask + 1)) (bits h)) = 2 ^ (mask + 1) - 1 := beq_iff_eq.mp hc
  have hb : (maskOf (rseq mask (turns mask) (bits h % (mask + 1)) (bits h))).testBit j = true := by
    rw [hcov, Nat.testBit_two_pow_sub_one]; simp; omega
  rcases maskOf_mem _ j 0 hb with h1 | h1
  · simp at h1
  · exact h1
theorem probe_empty (t : SetTable) (hd : t.dummies = #[]) (hs : t.place.size ≤ t.mask) (hashAt : Nat → Int) (h : Int) (hne : ∀ j i, t.slot j = .live i → hashAt i ≠ h) (hc : covR t.mask h = true) : ∃ j, t.probe hashAt h (t.probeStart h) = some (.empty j none) := by
  obtain ⟨j, hj, he⟩ := has_empty t hd hs
  exact go_empty t hd hashAt h hne _ _ ⟨j, rseq_jseq _ _ _ _ none _ (covR_mem hc hj), he⟩
/-! the table laid anew -/
theorem free_some (mask : Nat) (owner : Array (Option Nat)) : ∀ n i p, (∃ j ∈ rseq mask n i p, (owner.getD j (some 0)).isNone = true) → ∃ j, layClean.free mask owner n i p = some j ∧ (owner.getD j (some 0)).isNone = true
  | 0, _, _, ⟨j, hj, _⟩ => by cases hj
  | n + 1, i, p, ⟨j, hj, he⟩ => by
    unfold layClean.free
    cases hf : (List.range (runEnd mask i + 1 - i)).find? (fun k => (owner.getD (i + k) (some 0)).isNone) with
    | some k => exact ⟨i + k, rfl, by have := List.find?_some hf; exact this⟩
    | none =>
      have hj' : j ∈ rseq mask n (leap mask i p).1 (leap mask i p).2 := by
        rcases List.mem_append.mp hj with h | h
        · obtain ⟨k, hk, rfl⟩ := List.mem_map.mp h
          have := List.find?_eq_none.mp hf k hk
          exact absurd he this
        · exact h
      exact free_some mask owner n _ _ ⟨j, hj', he⟩
/-- the places taken -/
def taken (mask : Nat) (owner : Array (Option Nat)) : Nat := (List.range (mask + 1)).countP fun j => (owner.getD j none).isSome
theorem countP_put {f f' : Nat → Bool} {x : Nat} (h1 : f x = false) (h2 : f' x = true) (h3 : ∀ y, y ≠ x → f' y = f y) : ∀ {l : List Nat}, l.Nodup → x ∈ l → l.countP f' = l.countP f + 1
  | y :: l, hn, hx => by
    rw [List.nodup_cons] at hn
    by_cases e : y = x
    · subst e
      rw [List.countP_cons_of_pos h2, List.countP_cons_of_neg (by simp [h1])]
      have : l.countP f' = l.countP f := List.countP_congr fun z hz => by
        rw [h3 z (by rintro rfl; exact hn.1 hz)]
      rw [this]
    · have hx' : x ∈ l := by
        rcases List.mem_cons.mp hx with h | h
        · exact absurd h.symm e
        · exact h
      rw [List.countP_cons, List.countP_cons, countP_put h1 h2 h3 hn.2 hx', h3 y e]
      omega
structure OwnOk (mask : Nat) (owner : Array (Option Nat)) (k : Nat) : Prop where
  size : owner.size = mask + 1
  cnt : taken mask owner = k
  lt : ∀ (j v : Nat), owner.getD j none = some v → v < k
theorem OwnOk.free {mask : Nat} {owner : Array (Option Nat)} {k : Nat} (x : OwnOk mask owner k) (hk : k ≤ mask) : ∃ j, j ≤ mask ∧ (owner.getD j (some 0)).isNone = true := by
  by_cases hall : ∃ j, j ≤ mask ∧ (owner.getD j (some 0)).isNone = true
  · exact hall
  · exfalso
    have : taken mask owner = mask + 1 := by
      unfold taken
      have := (List.countP_eq_length (p := fun j => (owner.getD j none).isSome) (l := List.range (mask + 1))).mpr fun j hj => by
        have hj := List.mem_range.mp hj
        have hlt : j < owner.size := by rw [x.size]; exact hj
        have h1 : ¬ (owner.getD j (some 0)).isNone = true := fun h => hall ⟨j, by omega, h⟩
        simp only [Array.getD, hlt, dif_pos] at h1 ⊢
        rw [Option.isSome_iff_ne_none]
        simpa using h1
      rw [this]; simp
    rw [x.cnt] at this
    omega
theorem OwnOk.put {mask : Nat} {owner : Array (Option Nat)} {k j : Nat} (x : OwnOk mask owner k) (h : (owner.getD j (some 0)).isNone = true) : OwnOk mask (owner.setIfInBounds j (some k)) (k + 1) := by
  have hlt : j < owner.size := by
    rcases Nat.lt_or_ge j owner.size with h' | h'
    · exact h'
    · simp [Array.getD, Nat.not_lt.mpr h'] at h
  have hget : ∀ y, (owner.setIfInBounds j (some k)).getD y none = if y = j then some k else owner.getD y none := fun y => by
    simp only [Array.getD_eq_getD_getElem?, Array.getElem?_setIfInBounds]
    by_cases e : j = y
    · subst e; simp [hlt]
    · have e' : ¬ y = j := fun h => e h.symm
      simp [e, e']
  have hn : owner.getD j none = none := by
    simp only [Array.getD, hlt, dif_pos] at h ⊢
    simpa using h
  refine ⟨by simpa using x.size, ?_, fun y v hv => ?_⟩
  · unfold taken
    rw [countP_put (f := fun y => (owner.getD y none).isSome) (x := j) (by rw [hn]; rfl) (by rw [hget, if_pos rfl]; rfl) (fun y hy => by rw [hget, if_neg hy]) List.nodup_range (List.mem_range.mpr (by rw [x.size] at hlt; exact hlt))]
    have := x.cnt
    unfold taken at this
    rw [this]
  · rw [hget] at hv
    by_cases e : y = j
    · rw [if_pos e] at hv; cases hv; omega
    · rw [if_neg e] at hv; have := x.lt y v hv; omega
theorem OwnOk.init (mask : Nat) : OwnOk mask (Array.replicate (mask + 1) none) 0 := by
  have hg : ∀ y, (Array.replicate (mask + 1) (none : Option Nat)).getD y none = none := fun y => by
    simp only [Array.getD_eq_getD_getElem?, Array.getElem?_replicate]
    split <;> rfl
  refine ⟨by simp, ?_, fun y v hv => by rw [hg] at hv; cases hv⟩
  unfold taken
  rw [List.countP_eq_zero]
  intro y _
  rw [hg]; simp
theorem clean_ok (mask : Nat) : ∀ (hs : List Int) (owner : Array (Option Nat)) (k : Nat), OwnOk mask owner k → k + hs.length ≤ mask + 1 → (∀ h ∈ hs, covR mask h = true) →
    ∃ owner', hs.foldl (fun (acc : Option (Array (Option Nat) × Nat)) (h : Int) => do
      let (owner, k) ← acc
      let j ← layClean.free mask owner (turns mask) (bits h % (mask + 1)) (bits h)
      pure (owner.setIfInBounds j (some k), k + 1)) (some (owner, k)) = some (owner', k + hs.length) ∧ OwnOk mask owner' (k + hs.length)
  | [], owner, k, x, _, _ => ⟨owner, rfl, x⟩
  | h :: hs, owner, k, x, hk, hc => by
    rw [List.length_cons] at hk
    obtain ⟨j0, hj0, he0⟩ := x.free (by omega)
    have hm : j0 ∈ rseq mask (turns mask) (bits h % (mask + 1)) (bits h) := covR_mem (hc h (.head _)) hj0
    obtain ⟨j, hj, hn⟩ := free_some mask owner _ _ _ ⟨j0, hm, he0⟩
    obtain ⟨owner', e, y⟩ := clean_ok mask hs (owner.setIfInBounds j (some k)) (k + 1) (x.put hn) (by omega) fun z hz => hc z (.tail _ hz)
    refine ⟨owner', ?_, by rw [List.length_cons]; have : k + 1 + hs.length = k + (hs.length + 1) := by omega
                           rw [← this]; exact y⟩
    rw [List.foldl_cons]
    have e1 : (do
      let (owner, k) ← (some (owner, k) : Option (Array (Option Nat) × Nat))
      let j ← layClean.free mask owner (turns mask) (bits h % (mask + 1)) (bits h)
      pure (owner.setIfInBounds j (some k), k + 1)) = some (owner.setIfInBounds j (some k), k + 1) := by
      show (layClean.free mask owner (turns mask) (bits h % (mask + 1)) (bits h)).bind _ = _
      rw [hj]; rfl
    rw [e1, e, List.length_cons]
    congr 2
    omega
/-- the table laid anew holds all -/
theorem laid_ok (mask finger moves : Nat) (led plain : Bool) (hashes : Array Int) (hz : hashes.size ≤ mask + 1) (hc : ∀ h ∈ hashes.toList, covR mask h = true) :
    ∃ t order, laid mask finger moves led plain hashes = some (t, order) ∧ t.mask = mask ∧ t.dummies = #[] ∧ t.place.size = hashes.size ∧ order.size = hashes.size ∧ ∀ v ∈ order.toList, v < hashes.size := by
  obtain ⟨owner', e, y⟩ := clean_ok mask hashes.toList _ 0 (OwnOk.init mask) (by simpa using hz) hc
  have e2 : layClean mask hashes = some owner' := by
    unfold layClean
    rw [← Array.foldl_toList]
    exact congrArg (Option.map (·.1)) e
  have hlen : ((List.range (mask + 1)).filterMap fun j => (owner'.getD j none).map (j, ·)).length = hashes.size := by
    have := y.cnt
    unfold taken at this
    rw [List.length_filterMap_eq_countP]
    have h2 : (List.range (mask + 1)).countP (fun j => ((owner'.getD j none).map (j, ·)).isSome) = (List.range (mask + 1)).countP fun j => (owner'.getD j none).isSome := List.countP_congr fun z _ => by simp
    rw [h2, this]
    simp
  refine ⟨_, _, by unfold laid; rw [e2]; rfl, rfl, rfl, by simpa using hlen, by simpa using hlen, fun v hv => ?_⟩
  have hv : v ∈ ((List.range (mask + 1)).filterMap fun j => (owner'.getD j none).map (j, ·)).map (·.2) := by simpa using hv
  obtain ⟨⟨j, v'⟩, hm, rfl⟩ := List.mem_map.mp hv
  obtain ⟨j', _, hj'⟩ := List.mem_filterMap.mp hm
  cases ho : owner'.getD j' none with
  | none => rw [ho] at hj'; cases hj'
  | some w =>
    rw [ho] at hj'
    cases hj'
    have := y.lt _ _ ho
    simpa using this
end Mine
end
/-! S3 -/
section
open PySem PySem.W PySem.Calls PyProof.Rows PySem.SetTable
set_option maxRecDepth 100000
set_option linter.all false
namespace Mine
/-- the hash of a pair of small ints -/
def tupH (u v : Nat) : Int := reduceHash (Builtin.Tuple.tupleHashOf [hashInt (u : Int), hashInt (v : Int)])
def prs : List (Nat × Nat) := (List.range 6).flatMap fun u => (List.range 6).map fun v => (u, v)
theorem mem_prs {u v : Nat} (hu : u < 6) (hv : v < 6) : (u, v) ∈ prs := List.mem_flatMap.mpr ⟨u, List.mem_range.mpr hu, List.mem_map.mpr ⟨v, List.mem_range.mpr hv, rfl⟩⟩
theorem covR_7 : prs.all (fun p => covR 7 (tupH p.1 p.2)) = true := by decide +kernel
theorem covR_31 : prs.all (fun p => covR 31 (tupH p.1 p.2)) = true := by decide +kernel
def prw (u : Nat) : List (Nat × Nat) := (List.range 6).map fun v => (u, v)
theorem covR_127_0 : (prw 0).all (fun p => covR 127 (tupH p.1 p.2)) = true := by decide +kernel
theorem covR_127_1 : (prw 1).all (fun p => covR 127 (tupH p.1 p.2)) = true := by decide +kernel
theorem covR_127_2 : (prw 2).all (fun p => covR 127 (tupH p.1 p.2)) = true := by decide +kernel
theorem covR_127_3 : (prw 3).all (fun p => covR 127 (tupH p.1 p.2)) = true := by decide +kernel
theorem covR_127_4 : (prw 4).all (fun p => covR 127 (tupH p.1 p.2)) = true := by decide +kernel
theorem covR_127_5 : (prw 5).all (fun p => covR 127 (tupH p.1 p.2)) = true := by decide +kernel
theorem covR_127 : prs.all (fun p => covR 127 (tupH p.1 p.2)) = true := by
  have e : prs = prw 0 ++ (prw 1 ++ (prw 2 ++ (prw 3 ++ (prw 4 ++ prw 5)))) := by rfl
  rw [e, List.all_append, List.all_append, List.all_append, List.all_append, List.all_append, covR_127_0, covR_127_1, covR_127_2, covR_127_3, covR_127_4, covR_127_5]
  rfl
theorem tupH_inj' : prs.all (fun p => prs.all fun q => !(tupH p.1 p.2 == tupH q.1 q.2) || p == q) = true := by decide +kernel
theorem tupH_inj {u v u' v' : Nat} (hu : u < 6) (hv : v < 6) (hu' : u' < 6) (hv' : v' < 6) (h : tupH u v = tupH u' v') : u = u' ∧ v = v' := by
  have h1 := List.all_eq_true.mp (List.all_eq_true.mp tupH_inj' _ (mem_prs hu hv)) _ (mem_prs hu' hv')
  simp [h] at h1
  exact h1
theorem tupH_key {w : World} (u v : Nat) : tupleKeyHash (intKind P w) [(u : Int), (v : Int)] = tupH u v := rfl
end Mine
end
/-! S4 -/
section
open PySem PySem.W PySem.Calls PyProof.Rows PySem.SetTable
set_option maxRecDepth 100000
set_option linter.all false
namespace Mine
theorem insertAt_size {α : Type} (xs : Array α) (p : Nat) (x : α) : (SetTable.insertAt xs p x).size = xs.size + 1 := by
  unfold SetTable.insertAt
  simp
  omega
theorem mem_insertAt {α : Type} {xs : Array α} {p : Nat} {x y : α} (h : y ∈ (SetTable.insertAt xs p x).toList) : y ∈ xs.toList ∨ y = x := by
  unfold SetTable.insertAt at h
  simp at h
  rcases h with h | h | h
  · left; exact List.mem_of_mem_take h
  · right; exact h
  · left
    have := List.mem_of_mem_drop (List.mem_of_mem_take h)
    simpa using this
def masks (m : Nat) : Prop := m = 7 ∨ m = 31 ∨ m = 127
/-- a set whose elements' hashes are known -/
structure TabOk (hs : List Int) (es : Array (Int × Value)) (t : SetTable) : Prop where
  size : es.size = hs.length
  mem : ∀ e ∈ es.toList, e.1 ∈ hs
  dum : t.dummies = #[]
  place : t.place.size = es.size
  room : es.size * 5 < t.mask * 3
  mask : masks t.mask
def setH (hs : List Int) (o : Obj) : Prop := ∃ es ep t, o = { cls := .type "set", dict := none, data := .set es ep t, slots := #[] } ∧ TabOk hs es t
def pairH (h : Int) : Prop := ∃ u v, u < 6 ∧ v < 6 ∧ h = tupH u v
theorem covR_all {m : Nat} (h : prs.all (fun p => covR m (tupH p.1 p.2)) = true) {u v : Nat} (hu : u < 6) (hv : v < 6) : covR m (tupH u v) = true := List.all_eq_true.mp h (u, v) (mem_prs hu hv)
theorem covR_of {m : Nat} {h : Int} (hm : masks m) (hp : pairH h) : covR m h = true := by
  obtain ⟨u, v, hu, hv, e⟩ := hp
  rw [e]
  rcases hm with e | e | e
  · rw [e]; exact covR_all covR_7 hu hv
  · rw [e]; exact covR_all covR_31 hu hv
  · rw [e]; exact covR_all covR_127 hu hv
theorem TabOk.fits {hs : List Int} {es : Array (Int × Value)} {t : SetTable} (x : TabOk hs es t) : t.fits es.size = true := by
  unfold SetTable.fits SetTable.fill
  have h1 := x.room
  rw [x.dum, x.place]
  simp
  omega
theorem probe_use {t : SetTable} {hashAt : Nat → Int} {h : Int} {p : Probe} {r : Option Met} (heq : t.probe hashAt h p = r) (hp : p = t.probeStart h) (hd : t.dummies = #[]) (hs : t.place.size ≤ t.mask) (hne : ∀ j i, t.slot j = .live i → hashAt i ≠ h) (hc : covR t.mask h = true) : ∃ j, r = some (.empty j none) := by
  subst heq hp
  exact probe_empty t hd hs hashAt h hne hc
theorem slot_lt {t : SetTable} (hd : t.dummies = #[]) {j i : Nat} (h : t.slot j = .live i) : i < t.place.size := by
  rcases slot_cases t hd j with h1 | ⟨i', h1, h2⟩
  · rw [h1] at h; cases h
  · rw [h1] at h; cases h
    exact (Array.getElem?_eq_some_iff.mp h2).1
section
variable {w : World} {A : Around} {E : Value → Shared → Prop} {s : Shared}
theorem wp_hashByValue {T : Addr} {u v : Int} {Q : Bool → Shared → Prop} (hk : IsTupleKey (intKind P w) s.heap [u, v] T) (h : ∀ b, Q b s) : wpAny (model P w) A (hashByValue 8 (.ref T)) Q E s := by
  have hT := hk.typeIs
  obtain ⟨o, items, n, ho, _, hd, hi⟩ := hk
  show wpAny _ _ (hashByValue (7 + 1) (.ref T)) _ _ _
  unfold hashByValue
  refine wpAny_bind (wpAny_specialOf hT PySem.F.slot_tuple_hash.lookup ?_)
  show wpAny _ _ (do
    for x in (← seqItems? (.ref T)).getD #[.ellipsis] do
      if !(← hashByValue 7 x) then return false
    return true : Sem Bool) _ _ _
  refine wpAny_bind (wpAny_seqItems ho hd ?_)
  show wpAny _ _ (forIn items _ _ >>= _) _ _ s
  refine wpAny_bind ?_
  rw [← Array.forIn_toList]
  refine wpAny_forIn_list _ (fun rest r s' => r.1 = none ∧ s' = s ∧ ∀ v ∈ rest, ∃ i t, v = .int i t) _ ?_ ?_ _ _ ⟨rfl, rfl, fun v hv => ?_⟩
  · rintro v rest r s' ⟨hr, rfl, hall⟩
    obtain ⟨i, t, rfl⟩ := hall v (.head _)
    refine wpAny_bind (wpAny_pure ?_)
    simp only [Bool.not_true, Bool.false_eq_true, if_false]
    exact wpAny_pure ⟨rfl, rfl, fun u hu' => hall u (.tail _ hu')⟩
  · rintro ⟨r1, r2⟩ s' ⟨hr, rfl, _⟩
    simp only at hr
    subst hr
    exact wpAny_pure (h true)
  · clear ho hd h hT
    generalize items.toList = its at hi hv
    cases hi with
    | cons h1 h2 =>
      cases h2 with
      | cons h3 h4 =>
        cases h4
        rcases List.mem_cons.mp hv with rfl | hv
        · obtain ⟨t, rfl⟩ := Value.isInt_shape h1; exact ⟨_, _, rfl⟩
        · rcases List.mem_cons.mp hv with rfl | hv
          · obtain ⟨t, rfl⟩ := Value.isInt_shape h3; exact ⟨_, _, rfl⟩
          · cases hv
theorem wp_search {S : Addr} {xv : Value} {h : Int} {o : Obj} {hs : List Int} {es : Array (Int × Value)} {ep : Nat} {t : SetTable} {Q : SetFound → Shared → Prop} (ho : s.heap.get? S = some o) (hd : o.data = .set es ep t) (x : TabOk hs es t) (hp : pairH h) (hn : h ∉ hs)
    (hQ : ∀ j, Q (.free j false) s) : wpAny (model P w) A (setSearch S xv h true) Q E s := by
  show wpAny _ _ (setSearchFrom S xv h true (99999 + 1) none) _ _ _
  unfold setSearchFrom
  refine wpAny_bind (wpAny_setState_of ho hd x.fits ?_)
  dsimp only
  have hg : t.gaveWay = false := by
    unfold SetTable.gaveWay
    rcases x.mask with h | h | h <;> rw [h] <;> decide
  rw [hg]
  simp only [Bool.false_eq_true, if_false]
  have hps : t.place.size ≤ t.mask := by rw [x.place]; have := x.room; omega
  have hne : ∀ (f : Nat → Int), (∀ i, f i = (es[i]?.map (·.1)).getD 0) → ∀ j i, t.slot j = .live i → f i ≠ h := fun f hf j i hl e => by
    have hlt := slot_lt x.dum hl
    rw [x.place] at hlt
    rw [hf, Array.getElem?_eq_getElem hlt] at e
    refine hn ?_
    rw [← e]
    exact x.mem _ (by simp)
  split
  · rename_i met heq
    obtain ⟨j, e⟩ := probe_use heq rfl x.dum hps (hne _ fun _ => rfl) (covR_of x.mask hp)
    cases e
    exact wpAny_pure (hQ j)
  · rename_i heq
    exfalso
    obtain ⟨j, e⟩ := probe_use rfl rfl x.dum hps (hne _ fun _ => rfl) (covR_of x.mask hp)
    exact heq _ e
theorem grown_eq (n : Nat) (h : n ≤ 50000) : grown n = n * 4 := by unfold grown; rw [if_neg (by omega)]
theorem wp_store {S : Addr} {xv : Value} {h : Int} {hs : List Int} {es : Array (Int × Value)} {ep p : Nat} {t t' : SetTable} {Q : Bool → Shared → Prop} (ho : s.heap.get? S = some { cls := .type "set", dict := none, data := .set es ep t, slots := #[] }) (x : TabOk hs es t)
    (hall : ∀ h ∈ hs, pairH h) (hph : pairH h) (hlen : hs.length < 36) (h1 : t'.mask = t.mask) (h2 : t'.dummies = #[]) (h3 : t'.place.size = es.size + 1)
    (hQ : ∀ h', Heap.SameBut S s.heap h' → (∃ o', h'.get? S = some o' ∧ setH (h :: hs) o') → Q true { s with heap := h' }) :
    wpAny (model P w) A (do
      storeSet S (SetTable.insertAt es p (h, xv)) t'
      if !false && t'.tooFull then setRelay S (grown (es.size + 1))
      return true) Q E s := by
  have hsz := x.size
  have hroom := x.room
  have hall' : ∀ y ∈ h :: hs, pairH y := fun y hy => by
    rcases List.mem_cons.mp hy with rfl | hy
    · exact hph
    · exact hall y hy
  have hmem : ∀ e ∈ (SetTable.insertAt es p (h, xv)).toList, e.1 ∈ h :: hs := fun e he => by
    rcases mem_insertAt he with he | rfl
    · exact .tail _ (x.mem e he)
    · exact .head _
  have hes : (SetTable.insertAt es p (h, xv)).size = es.size + 1 := insertAt_size _ _ _
  refine wpAny_bind (wpAny_storeSet_of ho rfl ?_ (by rw [hes, sizeLine_eq]; omega))
  have ho1 := Heap.get?_update_self (Obj.putSet (SetTable.insertAt es p (h, xv)) t') ho rfl
  have hsb : Heap.SameBut S s.heap (s.heap.update S (Obj.putSet (SetTable.insertAt es p (h, xv)) t')) := Heap.SameBut.update ..
  generalize s.heap.update S (Obj.putSet (SetTable.insertAt es p (h, xv)) t') = h1' at ho1 hsb
  have hfill : t'.fill = es.size + 1 := by unfold SetTable.fill; rw [h2, h3]; rfl
  have hfits : t'.fits (SetTable.insertAt es p (h, xv)).size = true := by
    unfold SetTable.fits
    rw [hfill, hes, h3, h1]
    simp
    omega
  cases hfull : t'.tooFull with
  | false =>
    simp only [Bool.and_false, Bool.false_eq_true, if_false]
    refine wpAny_pure (hQ h1' hsb ⟨_, ho1, _, _, _, rfl, by rw [hes, hsz]; rfl, hmem, h2, by rw [h3, hes], ?_, by rw [h1]; exact x.mask⟩)
    unfold SetTable.tooFull at hfull
    rw [hfill] at hfull
    have := of_decide_eq_false hfull
    rw [hes]; omega
  | true =>
    unfold SetTable.tooFull at hfull
    rw [hfill, h1] at hfull
    have hfull := of_decide_eq_true hfull
    simp only [Bool.not_false, Bool.and_true, if_true]
    refine wpAny_bind ?_
    unfold setRelay
    refine wpAny_bind (wpAny_setState_of (s := { s with heap := h1' }) ho1 rfl hfits ?_)
    dsimp only
    have hg : grown (es.size + 1) = (es.size + 1) * 4 := grown_eq _ (by omega)
    have hbig : ∃ m', masks m' ∧ sizeAbove (grown (es.size + 1)) = m' + 1 ∧ (es.size + 1) * 5 < m' * 3 := by
      rw [hg]
      rcases x.mask with h | h | h
      · have : es.size = 4 := by omega
        rw [this]; exact ⟨31, .inr (.inl rfl), by decide +kernel, by decide⟩
      · have : es.size = 18 := by omega
        rw [this]; exact ⟨127, .inr (.inr rfl), by decide +kernel, by decide⟩
      · omega
    obtain ⟨m', hm', hs', hr'⟩ := hbig
    rw [hs']
    rw [if_neg (by rw [sizeLine_eq]; rcases hm' with h | h | h <;> rw [h] <;> decide)]
    obtain ⟨t2, order, el, e1, e2, e3, e4, e5⟩ := laid_ok m' t'.finger (t'.movedTo m') t'.led t'.plain ((SetTable.insertAt es p (h, xv)).map (·.1)) (by simp [hes]; omega) (fun y hy => by
      obtain ⟨z, hz⟩ : ∃ z, (y, z) ∈ SetTable.insertAt es p (h, xv) := by simpa using hy
      exact covR_of hm' (hall' _ (hmem (y, z) (by simpa using hz))))
    have hrel : t'.relaid ((SetTable.insertAt es p (h, xv)).map (·.1)) (grown (es.size + 1)) = some (t2, order) := by
      unfold SetTable.relaid
      rw [hs']
      exact el
    rw [hrel]
    show wpAny _ _ ((if ((order.filterMap ((SetTable.insertAt es p (h, xv))[·]?)).size != (SetTable.insertAt es p (h, xv)).size) = true then _ else pure (order.filterMap ((SetTable.insertAt es p (h, xv))[·]?), t2)) >>= _) _ _ _
    have hsz2 : (order.filterMap ((SetTable.insertAt es p (h, xv))[·]?)).size = es.size + 1 := by
      rw [← Array.length_toList, Array.toList_filterMap, List.length_filterMap_eq_countP]
      have h5 : order.toList.countP (fun v => ((SetTable.insertAt es p (h, xv))[v]?).isSome) = order.toList.length := List.countP_eq_length.mpr fun v hv => by
        have := e5 v hv
        rw [Array.size_map] at this
        rw [Array.getElem?_eq_getElem this]; rfl
      rw [h5, Array.length_toList, e4, Array.size_map, hes]
    rw [if_neg (by rw [hsz2, hes]; simp)]
    refine wpAny_bind (wpAny_pure ?_)
    dsimp only
    refine wpAny_storeSet_of (s := { s with heap := h1' }) ho1 rfl ?_ (by rw [hsz2, sizeLine_eq]; omega)
    have ho2 := Heap.get?_update_self (h := h1') (Obj.putSet (order.filterMap ((SetTable.insertAt es p (h, xv))[·]?)) t2) ho1 rfl
    refine wpAny_pure (hQ _ ⟨(Heap.SameBut.update ..).1.trans hsb.1, fun b hb => ((Heap.SameBut.update ..).2 b hb).trans (hsb.2 b hb)⟩ ⟨_, ho2, _, _, _, rfl, by rw [hsz2, hsz]; rfl, fun e he => ?_, e2, ?_, ?_, by rw [e1]; exact hm'⟩)
    · rw [Array.toList_filterMap] at he
      obtain ⟨v, _, hv⟩ := List.mem_filterMap.mp he
      exact hmem e (by simpa using Array.mem_of_getElem? hv)
    · rw [e3, hsz2]; simp [hes]
    · rw [hsz2, e1]; exact hr'
/-- a new pair comes into the set -/
theorem wp_setAdd {S T : Addr} {u v : Nat} {o : Obj} {hs : List Int} {Q : Bool → Shared → Prop} (hcu : A.units < cLine) (ho : s.heap.get? S = some o) (hx : setH hs o) (hk : IsTupleKey (intKind P w) s.heap [(u : Int), (v : Int)] T) (hu : u < 6) (hv : v < 6) (hall : ∀ h ∈ hs, pairH h) (hlen : hs.length < 36) (hn : tupH u v ∉ hs)
    (hQ : ∀ h' tk, Heap.SameBut S s.heap h' → (∃ o', h'.get? S = some o' ∧ setH (tupH u v :: hs) o') → Q true { s with heap := h', toks := tk }) : wpAny (model P w) A (setAdd S (.ref T)) Q E s := by
  obtain ⟨es, ep, t, rfl, x⟩ := hx
  have hph : pairH (tupH u v) := ⟨u, v, hu, hv, rfl⟩
  unfold setAdd
  refine wpAny_holding (wpAny_bind (wpAny_pyHash_tuple (knd := intKind P w) hcu hk ?_))
  rw [tupH_key]
  unfold setAddHashed
  refine wpAny_holding ?_
  show wpAny _ _ (setAddHashedIn S (.ref T) (tupH u v) (99999 + 1)) _ _ _
  unfold setAddHashedIn
  refine wpAny_bind (wpAny_setState_of (s := { s with toks := _ }) ho rfl x.fits ?_)
  dsimp only
  have hb : byScan (.ref T) es = false := by simp [byScan, Value.scannable]
  rw [hb]
  simp only [Bool.false_eq_true, if_false]
  refine wpAny_bind (wp_search (s := { s with toks := _ }) ho rfl x hph hn fun j => ?_)
  dsimp only
  refine wpAny_bind (wpAny_setState_of (s := { s with toks := _ }) ho rfl x.fits ?_)
  dsimp only
  have fin : ∀ (b : Bool) (tk : Nat), wpAny (model P w) A (do
      storeSet S (SetTable.insertAt es (t.put j).snd (tupH u v, .ref T)) (if b = true then (t.put j).fst else { (t.put j).fst with plain := false })
      if !false && (if b = true then (t.put j).fst else { (t.put j).fst with plain := false }).tooFull then setRelay S (grown (es.size + 1))
      return true) Q E { s with toks := tk } := fun b tk => by
    exact wp_store (s := { s with toks := tk }) ho x hall hph hlen (by cases b <;> rfl) (by cases b <;> (show (if has t.dummies j then _ else _) = _; rw [x.dum]; rfl)) (by cases b <;> (show (SetTable.insertAt t.place _ j).size = _; rw [insertAt_size, x.place])) fun h' hs' ho' => hQ h' _ hs' ho'
  split
  · exact wpAny_bind (wp_hashByValue hk fun b => fin b _)
  · exact wpAny_bind (wpAny_pure (fin true _))
end
end Mine
end
/-! S5 -/
section
open PySem PySem.W PySem.Calls PyProof.Rows
set_option maxRecDepth 100000
set_option linter.all false
namespace Mine
section
variable {prog : Program} {w : World} {A : Around} {E : Value → Shared → Prop} {s : Shared}
set_option maxHeartbeats 3200000 in
/-- a built-in type called: __new__, __init__ -/
theorem callTypeC {T newId initId : String} {args : List Value} {Q Q₁ : Value → Shared → Prop} (ft : TypeCalled T newId initId)
    (hct : checkTypeCall T ⟨args, []⟩ = pure ()) (hnew : codeAny (model prog w) A.in1 (.call (.builtin newId) ⟨.type T :: args, []⟩) (wants Q₁ E) s)
    (hnext : ∀ obj s₁, Q₁ obj s₁ → s₁.TypeIs obj T ∧ codeAny (model prog w) A.in1 (.call (.builtin initId) ⟨obj :: args, []⟩) (wants (fun r s₂ => r = .none ∧ Q obj s₂) E) s₁) :
    wpAny (model prog w) A (call (.type T) args) Q E s := by
  obtain ⟨c, tl, hmro⟩ := ft.mro
  have hmade := ft.made
  have hsub := ft.sub
  refine wpAny_call (codeAny_of_tree ?_)
  show wpAny _ _ (callAny (.type T) _) _ _ _
  refine wpAny_pure ⟨Code.quiet_builtin _ (by decide +kernel), codeAny_builtin PySem.F.entry_type_call ?_⟩
  rw [Around.under_plain (weight_type_call_type T args []) rfl]
  have h1 := ft.notType
  have h2 := ft.canCreate
  repeat (any_goals (first | assumption | wp_step))

  refine codeAny_mono hnew fun r s₁ hr => ?_
  cases r with
  | error e => exact hr
  | ok fl =>
    cases fl with
    | ret obj =>
      obtain ⟨hT, hc⟩ := hnext _ _ hr
      have hli := ft.init.lookup
      have hbi := ft.init.bind obj
      repeat (any_goals (first | assumption | wp_step))

      refine codeAny_mono hc fun r₂ s₂ hr₂ => ?_
      cases r₂ with
      | error e => exact hr₂
      | ok fl₂ =>
        cases fl₂ with
        | ret r =>
          obtain ⟨rfl, hq⟩ := hr₂
          repeat (any_goals (first | assumption | wp_step))
        | _ => exact hr₂.elim
    | _ => exact hr.elim
set_option maxHeartbeats 3200000 in
theorem set_open {l : Addr} {items : Array Value} {Good : Heap → Prop} {Q : Value → Shared → Prop} (hl : s.heap.IsList l items)
    (hloop : ∀ (led : Bool) (A' : Around) (R : Result → Shared → Prop), A'.handled = A.handled → A'.units ≤ A.units + 10 → (∀ h' tk, Good h' → R (.ok (.ret .none)) { s with heap := h', toks := tk }) →
      codeAny (model prog w) A' (.builtin "set.update.loop" ⟨[.ref s.heap.objs.size, .ref (s.heap.objs.size + 1)], []⟩) R { s with heap := (s.heap.push { cls := .type "set", dict := none, data := .set #[] 0 (.fresh 0 0 led) }).push { cls := .type "list_iterator", data := .fields #[.ref l, .int 0 0] } })
    (h : ∀ (h' : Heap) (tk : Nat), Good h' → Q (.ref s.heap.objs.size) { s with heap := h', toks := tk }) :
    wpAny (model prog w) A (call (.type "set") [.ref l]) Q E s := by
  refine callTypeC (Q₁ := fun obj s₁ => ∃ led : Bool, obj = .ref s.heap.objs.size ∧ s₁ = { s with heap := s.heap.push { cls := .type "set", dict := none, data := .set #[] 0 (.fresh 0 0 led) } }) PySem.F.called_set (PySem.F.typeCall_set_1 (.ref l)) (code_set_new_1 (.ref l) fun led => ⟨led, rfl, rfl⟩) fun obj s₁ hr => ?_
  obtain ⟨led, rfl, rfl⟩ := hr
  have hS : (s.heap.push { cls := .type "set", dict := none, data := .set #[] 0 (.fresh 0 0 led) }).get? s.heap.objs.size = some { cls := .type "set", dict := none, data := .set #[] 0 (.fresh 0 0 led) } := Heap.get?_push_size _ rfl
  have hT : Shared.TypeIs { s with heap := s.heap.push { cls := .type "set", dict := none, data := .set #[] 0 (.fresh 0 0 led) } } (.ref s.heap.objs.size) "set" := ⟨_, hS, rfl⟩
  refine ⟨hT, codeAny_mono (codeAny_call_builtin (R := wants (fun r s₂ => r = .none ∧ ∃ h' tk, s₂ = { s with heap := h', toks := tk } ∧
          Good h') E) PySem.F.called_set.init.plain PySem.F.entry_set_init (check_set_init_1 hT ?_)) fun r₂ s₂ hr₂ => ?_⟩
  · skip
    obtain ⟨ol, hol, hcl, nl, hdl⟩ := hl
    obtain ⟨ocls, odict, odata, oslots⟩ := ol
    simp only at hcl hdl
    subst hcl; subst hdl
    have hol' : (s.heap.push { cls := .type "set", dict := none, data := .set #[] 0 (.fresh 0 0 led) }).get? l = some { cls := .type "list", dict := odict, data := .seq items nl, slots := oslots } := Heap.get?_push_of_some _ hol
    have hsls := PySem.F.sub_list_set
    have hslf := PySem.F.sub_list_frozenset
    have hne : (Value.type "list" == Value.type "dict") = false := by decide
    have hl1 : (s.heap.push { cls := .type "set", dict := none, data := .set #[] 0 (.fresh 0 0 led) }).IsList l items := ⟨_, hol', rfl, nl, rfl⟩
    unfold Builtin.«set.__init__» noKeywords Builtin.Frozenset.updateFrom
    generalize hPI : pyIter = PI
    wp_walk
    subst hPI

    refine wpAny_pyIter_list hl1 ?_
    refine wpAny_bind (wpAny_runValue ?_)
    have hsz : (s.heap.push { cls := .type "set", dict := none, data := .set #[] 0 (.fresh 0 0 led) }).objs.size = s.heap.objs.size + 1 := Heap.size_push ..
    rw [hsz]
    refine hloop led _ _ rfl ?hu fun h' tk hg => ?hR
    case hu => show A.units + 1 + _ ≤ _; omega
    case hR =>
      refine wpAny_pure ?_
      show wpAny _ _ (ret Value.none) _ _ _
      exact wpAny_pure ⟨rfl, h', tk, rfl, hg⟩
  · cases r₂ with
    | error e => exact hr₂
    | ok fl₂ =>
      cases fl₂ with
      | ret r =>
        obtain ⟨e1, h', tk, rfl, hS'⟩ := hr₂
        exact ⟨e1, h _ _ hS'⟩
      | _ => exact hr₂.elim
end
end Mine
end
/-! S6 -/
section
open PySem PySem.W PySem.Calls PyProof.Rows
set_option maxRecDepth 100000
set_option linter.all false
namespace Mine
/-- a list of tuples, as the pairs that they are -/
inductive Prs (l : Led) : List Value → List (Nat × Nat) → Prop
  | nil : Prs l [] []
  | cons {T : Addr} {u v : Nat} {vs ps} : (T, tupP [(u : Int), (v : Int)]) ∈ l → Prs l vs ps → Prs l (.ref T :: vs) ((u, v) :: ps)
theorem Prs.len {l : Led} {vs ps} (h : Prs l vs ps) : vs.length = ps.length := by
  induction h with
  | nil => rfl
  | cons _ _ ih => simp [ih]
theorem tupP.key {w : World} {h : Heap} {T : Addr} {u v : Int} {o : Obj} (ho : h.get? T = some o) (hP : tupP [u, v] o) : IsTupleKey (intKind P w) h [u, v] T := by
  obtain ⟨hc, vs, n, hi, hd⟩ := hP
  refine ⟨o, vs.toArray, n, ho, hc, hd, ?_⟩
  simp only
  cases hi with
  | cons x t r =>
    cases r with
    | cons y t2 r2 =>
      cases r2
      exact .cons (intKind_is _ _ _ _) (.cons (intKind_is _ _ _ _) .nil)
abbrev hP (p : Nat × Nat) : Int := tupH p.1 p.2
section
variable {C : Cx} {A : Around}
theorem set_loop {S I D : Addr} {l₀ r : Led} {vs : List Value} {s : Shared} {N : Nat} {R : Result → Shared → Prop} (hh : A.handled = none) (hcu : A.units + 2 < cLine) (hD : (D, freshP vs) ∈ l₀)
    (hR : ∀ h' tk hs', hs'.length = N → Hp C.B h' ((S, setH hs') :: l₀ ++ r) → R (.ok (.ret .none)) { s with heap := h', toks := tk }) :
    ∀ (rps : List (Nat × Nat)) (rest : List Value) (i : Nat) (hs : List Int) (h : Heap) (tk : Nat), vs.drop i = rest → Prs l₀ rest rps → (∀ p ∈ rps, p.1 < 6 ∧ p.2 < 6) → (rps.map hP ++ hs).Nodup → (∀ x ∈ hs, pairH x) → hs.length + rps.length = N → N ≤ 36 →
      Hp C.B h ((S, setH hs) :: (I, listIterP D i) :: l₀ ++ r) → codeAny (model P C.w) A (.builtin "set.update.loop" ⟨[.ref S, .ref I], []⟩) R { s with heap := h, toks := tk } := by
  intro rps
  induction rps with
  | nil =>
    intro rest i hs h tk hi hp hlt hnd hph hN hN2 H
    cases hp
    obtain ⟨⟨o, ho, hc, hd⟩, _⟩ := H.own (I, listIterP D i) (.tail _ (.head _))
    obtain ⟨⟨oD, hoD, n, rfl⟩, _⟩ := H.own (D, freshP vs) (.tail _ (.tail _ (List.mem_append_left _ hD)))
    refine codeAny_builtin PyProof.Rows.F.entry_set_update_loop ?_
    rw [Around.under_plainId PyProof.Rows.F.plain_set_update_loop _]
    show wpAny _ A.in1 (pyNext (.ref I) >>= _) _ _ _
    have hx : vs.toArray[i]? = none := by
      have := List.drop_eq_nil_iff.mp hi
      simp; omega
    refine wpAny_bind (wpAny_pyNext_list_end (s := { s with heap := h, toks := tk }) (it := I) (l := D) (i := i) (items := vs.toArray) hh ⟨o, ho, hc, hd⟩ ⟨_, hoD, rfl, n, rfl⟩ hx fun h' hx' => ?_)
    show wpAny _ A.in1 (ret Value.none) _ _ _
    refine wpAny_pure (hR h' tk hs (by simpa using hN) ?_)
    exact Hp.extBut (l := [(S, setH hs)]) H hx'
  | cons p rps ih =>
    intro rest i hs h tk hi hp hlt hnd hph hN hN2 H
    obtain ⟨u, v⟩ := p
    cases hp with
    | @cons T _ _ vs' _ hT hp =>
      obtain ⟨⟨o, ho, hc, hd⟩, _⟩ := H.own (I, listIterP D i) (.tail _ (.head _))
      obtain ⟨⟨oD, hoD, n, rfl⟩, _⟩ := H.own (D, freshP vs) (.tail _ (.tail _ (List.mem_append_left _ hD)))
      refine codeAny_builtin PyProof.Rows.F.entry_set_update_loop ?_
      rw [Around.under_plainId PyProof.Rows.F.plain_set_update_loop _]
      show wpAny _ A.in1 (pyNext (.ref I) >>= _) _ _ _
      have hx : vs[i]? = some (.ref T) := by
        have := congrArg (·[0]?) hi
        simpa [List.getElem?_drop] using this
      refine wpAny_bind (wpAny_pyNext_list_item (s := { s with heap := h, toks := tk }) (it := I) (l := D) (i := i) (items := vs.toArray) ⟨o, ho, hc, hd⟩ ⟨_, hoD, rfl, n, rfl⟩ (x := .ref T) (by simpa using hx) fun h' hit hb => ?_)
      have H1 : Hp C.B h' ((S, setH hs) :: (I, listIterP D (i + 1)) :: l₀ ++ r) := H.rep (.tail .head) hb (let ⟨o', ho', hc', hd'⟩ := hit; ⟨o', ho', hc', hd'⟩)
      show wpAny _ A.in1 (holding [Value.ref T] (setAdd S (.ref T)) >>= _) _ _ _
      obtain ⟨⟨oS, hoS, hxS⟩, _⟩ := H1.own (S, setH hs) (.head _)
      obtain ⟨⟨oT, hoT, hxT⟩, _⟩ := H1.own (T, tupP [(u : Int), (v : Int)]) (.tail _ (.tail _ (List.mem_append_left _ hT)))
      have huv := hlt (u, v) (.head _)
      rw [List.map_cons, List.cons_append, List.nodup_cons] at hnd
      refine wpAny_bind (wpAny_holding (wp_setAdd (s := { s with heap := h', toks := tk }) (by show A.units + 1 < _; omega) hoS hxS (tupP.key hoT hxT) huv.1 huv.2 hph (by simp at hN; omega) (fun hm => hnd.1 (List.mem_append_right _ hm)) fun h'' tk' hb' hn' => ?_))
      have H2 : Hp C.B h'' ((S, setH (tupH u v :: hs)) :: (I, listIterP D (i + 1)) :: l₀ ++ r) := H1.rep .head hb' hn'
      refine wpAny_pure ⟨plainId_quiet PyProof.Rows.F.plain_set_update_loop _, ih vs' (i + 1) (tupH u v :: hs) h'' tk' ?_ hp (fun p hp => hlt p (.tail _ hp)) ?_ ?_ (by simp at hN ⊢; omega) hN2 H2⟩
      · have := congrArg List.tail hi
        simpa [List.tail_drop] using this
      · exact (List.perm_middle (l₁ := rps.map hP) (a := tupH u v) (l₂ := hs)).nodup_iff.mpr (List.nodup_cons.mpr hnd)
      · intro x hx
        rcases List.mem_cons.mp hx with rfl | hx
        · exact ⟨u, v, huv.1, huv.2, rfl⟩
        · exact hph x hx
/-- set(pairs) -/
theorem w_setPairs {f : Ent} {l : Led} {e : Value → Led → Prop} {D : Addr} {vs : List Value} {ps : List (Nat × Nat)} {k : Value → Led → Prop} (hh : A.handled = none) (hcu : A.units + 20 < cLine) (hD : (D, freshP vs) ∈ l) (hp : Prs l vs ps) (hlt : ∀ p ∈ ps, p.1 < 6 ∧ p.2 < 6) (hnd : ps.Nodup) (hlen : ps.length ≤ 36)
    (h : ∀ S hs', hs'.length = ps.length → k (.ref S) ((S, setH hs') :: l)) : W C A l (call (.type "set") [.ref D]) k e := fun r s hs => by
  obtain ⟨oD, hoD, n, rfl⟩ := hs.get hD
  refine set_open (Good := fun h' => ∃ hs', hs'.length = ps.length ∧ Hp C.B h' ((s.heap.objs.size, setH hs') :: l ++ r)) (l := D) (items := vs.toArray) ⟨_, hoD, rfl, n, rfl⟩ (fun led A' R hA hU hR => ?_) fun h' tk ⟨hs', hl, H⟩ => ⟨_, h _ hs' hl, ⟨H, hs.bare, hs.os⟩⟩
  have H1 : Hp C.B (s.heap.push { cls := .type "set", dict := none, data := .set #[] 0 (.fresh 0 0 led) }) ((s.heap.objs.size, setH []) :: (l ++ r)) := hs.hp.new (fun _ _ x => Heap.get?_push_of_some _ x) (get_size _) (Heap.get?_push_size _ rfl)
    ⟨#[], 0, .fresh 0 0 led, rfl, rfl, fun e he => by simp at he, rfl, rfl, by show 0 * 5 < 7 * 3; decide, .inl rfl⟩
  have hsz : (s.heap.push { cls := .type "set", dict := none, data := .set #[] 0 (.fresh 0 0 led) }).objs.size = s.heap.objs.size + 1 := Heap.size_push ..
  have H2 := H1.new (a := s.heap.objs.size + 1) (h' := (s.heap.push { cls := .type "set", dict := none, data := .set #[] 0 (.fresh 0 0 led) }).push { cls := .type "list_iterator", data := .fields #[.ref D, .int 0 0] }) (Pr := listIterP D 0) (fun _ _ x => Heap.get?_push_of_some _ x) (by have := get_size (s.heap.push { cls := .type "set", dict := none, data := .set #[] 0 (.fresh 0 0 led) }); rwa [hsz] at this) (by have := Heap.get?_push_size (s.heap.push { cls := .type "set", dict := none, data := .set #[] 0 (.fresh 0 0 led) }) (o := { cls := .type "list_iterator", data := .fields #[.ref D, .int 0 0] }) rfl; rwa [hsz] at this) ⟨rfl, rfl⟩
  refine set_loop (N := ps.length) (l₀ := l) (r := r) (hA.trans hh) (by omega) hD (fun h' tk hs' hl H => hR h' tk ⟨hs', hl, H⟩) ps vs 0 [] _ s.toks rfl hp hlt ?_ (fun x hx => by cases hx) (by simp) hlen H2.swap
  rw [List.append_nil]
  refine List.pairwise_map.mpr (List.Pairwise.imp_of_mem (fun {x y} hx hy hne e => hne ?_) hnd)
  obtain ⟨h1, h2⟩ := hlt x hx
  obtain ⟨h3, h4⟩ := hlt y hy
  obtain ⟨e1, e2⟩ := tupH_inj h1 h2 h3 h4 e
  exact Prod.ext e1 e2
/-- its length -/
theorem w_len_set {l : Led} {e : Value → Led → Prop} {S : Addr} {hs : List Int} {k : Value → Led → Prop} (hm : (S, setH hs) ∈ l) (hz : hs.length ≤ 36) (h : ∀ t, k (.int hs.length t) l) : W C A l (call (.builtin "len") [.ref S]) k e := fun r s hst => by
  obtain ⟨o, ho, es, ep, t, rfl, x⟩ := hst.get hm
  exact call_len_set ho ⟨rfl, rfl, rfl⟩ rfl x.fits (by rw [x.size]; omega) (by rw [x.size]; exact ⟨l, h _, hst.toks.toks⟩)
end
end Mine
end
/-! R0 -/
section
open PySem PySem.W PySem.Calls PyProof.Rows
set_option maxRecDepth 100000
set_option linter.all false
namespace Mine
section
variable {α β : Type} {C : Cx} {A : Around} {l : Led} {e : Value → Led → Prop} {env : Env}
/-- a comprehension's turns, the owned tuple let go -/
theorem codeAny_compL {prog : Program} {w : World} {R : Result → Shared → Prop} {s : Shared} {elt target iter : Expr} {ifs : List Expr} {scope : Scope} {pos : Pos} {it acc : Value} (I : Nat → Shared → Prop)
    (turn : ∀ n s, I n s → wpAny (model prog w) A (pyNext it) (fun r s₁ => match r with
      | none => R (.ok .next) s₁
      | some v => wpAny (model prog w) A (letOwnedTupleGo target it v) (fun _ s₁ => wpAny (model prog w) A (assign target env v) (fun _ s₂ => wpAny (model prog w) A (ctests ifs env) (fun ok s₃ =>
            if ok = true then wpAny (model prog w) A (eval elt env) (fun x s₄ => wpAny (model prog w) A (call (.builtin "list.append") [acc, x]) (fun _ s₅ => ∃ m, m < n ∧ I m s₅) (notedBy (model prog w) A env fun e s' => R (.error e) s') s₄) (notedBy (model prog w) A env fun e s' => R (.error e) s') s₃
            else ∃ m, m < n ∧ I m s₃) (notedBy (model prog w) A env fun e s' => R (.error e) s') s₂) (notedBy (model prog w) A env fun e s' => R (.error e) s') s₁) (notedBy (model prog w) A env fun e s' => R (.error e) s') s₁) (notedBy (model prog w) A env fun e s' => R (.error e) s') s)
    (n : Nat) (h : I n s) : codeAny (model prog w) A (.compLoop (.ListComp elt [⟨target, iter, ifs, 0⟩] scope pos) 0 it acc env) R s := by
  refine codeAny_loop rfl I (fun n s hI => ?_) n h
  show wpAny _ A ((compTurn (.ListComp elt [⟨target, iter, ifs, 0⟩] scope pos) 0 it acc env).onRaise (fun x => do noteFrame x env; theTreesLotGoes x)) _ _ s
  refine wpAny_noted ?_
  rw [compTurn_list]
  refine wpAny_bind (wpAny_standAt (wpAny_bind (wpAny_mono (turn n s hI) (fun r s₁ h₁ => ?_) fun _ _ h' => h')))
  cases r with
  | none => exact wpAny_pure h₁
  | some v =>
    refine wpAny_bind (wpAny_mono h₁ (fun _ s₁' h₁ => ?_) fun _ _ h' => h')
    refine wpAny_bind (wpAny_mono h₁ (fun _ s₂ h₂ => wpAny_bind (wpAny_mono h₂ (fun ok s₃ h₃ => ?_) fun _ _ h' => h')) fun _ _ h' => h')
    cases ok with
    | false => exact wpAny_pure ⟨rfl, h₃⟩
    | true => exact wpAny_bind (wpAny_bind (wpAny_mono h₃ (fun x s₄ h₄ => wpAny_bind (wpAny_mono h₄ (fun _ s₅ h₅ => wpAny_pure (wpAny_pure ⟨rfl, h₅⟩)) fun _ _ h' => h')) fun _ _ h' => h'))
theorem w_ListCompT {elt iter : Expr} {elts : List Expr} {x1} {tp : Pos} {ifs : List Expr} {scope : Scope} {cl : List (Str × Addr)} {pos : Pos} {k : Value → Led → Prop} (vs : List Value) (hh : A.handled = none) (hrf : ∀ x ∈ vs, ∃ T, x = .ref T) (I : Addr → Addr → Addr → Nat → Led → Prop)
    (hclos : closureFor scope env = pure cl)
    (h : W C A l (eval iter env) (fun v l₁ => ∃ a, v = .ref a ∧ (a, seqP "list" vs) ∈ l₁ ∧ (∀ D cL i l₂, I a D cL i l₂ → (a, seqP "list" vs) ∈ l₂) ∧ ∀ D cL, I a D cL 0 ((cL, nsP []) :: (D, freshP []) :: l₁)) e)
    (turn : ∀ a D cL i v l₂, i < vs.length → I a D cL i l₂ → vs[i]? = some v → W C A l₂ (assign (.Tuple elts x1 tp) (compEnvC scope cl cL env) v) (fun _ l₃ => W C A l₃ (ctests ifs (compEnvC scope cl cL env)) (fun ok l₄ => (ok = true → W C A l₄ (eval elt (compEnvC scope cl cL env)) (fun x l₅ => W C A l₅ (call (.builtin "list.append") [.ref D, x]) (fun _ l₆ => I a D cL (i + 1) l₆) noE) noE) ∧ (ok = false → I a D cL (i + 1) l₄)) noE) noE)
    (done : ∀ a D cL l₂, I a D cL vs.length l₂ → ∃ V l₃, Sub ((cL, nsP V) :: l₃) l₂ ∧ k (.ref D) l₃)
    (hcell : ∀ y ∈ scope.names, y.2 ≠ .cell := by decide) (hkind : scope.kind = .function := by rfl) (hnames : ∀ y ∈ scope.names, y.2 = .local → scope.names.lookup y.1 = some .local := by decide)
    (hs : ∀ x, foldedSetIterable iter env x = pure x := by intro _; rfl) : W C A l (eval (.ListComp elt [⟨.Tuple elts x1 tp, iter, ifs, 0⟩] scope pos) env) k e := fun r s hs' => by
  rw [eval_ListComp]
  refine wpAny_comprehension_free (use := none) rfl hs hclos hkind hnames (h.then hs' (fun xv l₁ s₁ h₁ hs₁ => ?_) fun _ l' _ he hs₂ => ⟨l', he, hs₂⟩)
  obtain ⟨a, rfl, hm, hG, h0⟩ := h₁
  refine wpAny_pyIter_list (hs₁.isList hm) ?_
  have hs₂ : Hp C.B (s₁.heap.push { cls := .type "list_iterator", data := .fields #[.ref a, .int 0 0] }) ((s₁.heap.objs.size, listIterP a 0) :: (l₁ ++ r)) := hs₁.hp.new (fun _ _ x => Heap.get?_push_of_some _ x) (get_size _) (Heap.get?_push_size _ rfl) ⟨rfl, rfl⟩
  generalize s₁.heap.push { cls := .type "list_iterator", data := .fields #[.ref a, .int 0 0] } = h' at hs₂ ⊢
  generalize s₁.heap.objs.size = it at hs₂ ⊢
  refine wpAny_newObj_type (wpAny_newFunctionEnv hcell (by intro y hy; simp at hy) (fun h₁ hns₁ hsb₁ => ?_) hkind)
  dsimp only at hns₁ hsb₁ ⊢
  generalize hH2 : h'.push { cls := .type "list", dict := none, data := .seq ([] : List Value).toArray } = H2 at hns₁ hsb₁ ⊢
  have hs₃ : Hp C.B H2 ((h'.objs.size, freshP []) :: (it, listIterP a 0) :: (l₁ ++ r)) := by
    rw [← hH2]
    exact hs₂.new (fun _ _ x => Heap.get?_push_of_some _ x) (get_size _) (Heap.get?_push_size _ rfl) ⟨0, rfl⟩
  have hs₄ : Hp C.B h₁ ((H2.objs.size, nsP []) :: (h'.objs.size, freshP []) :: (it, listIterP a 0) :: (l₁ ++ r)) := by
    obtain ⟨o', es, ep, ho', hd, hkk, hf⟩ := hns₁
    exact hs₃.new (fun b o e => hsb₁.extBut b o (Nat.ne_of_lt (Heap.lt_size e)) (Heap.get?_push_of_some _ e)) (get_size _) ho' ⟨es, ep, hd, hkk, hf⟩
  have hs₅ : St C (((H2.objs.size, nsP []) :: (h'.objs.size, freshP []) :: l₁) ++ (it, listIterP a 0) :: r) { s₁ with heap := h₁, toks := s₁.toks + 0 } := by
    refine ⟨hs₄.sub (Sub.perm ?_), hs₁.bare, hs₁.os⟩
    simp only [List.cons_append]
    exact List.Perm.cons _ (List.Perm.cons _ List.perm_middle)
  have loop : ∀ s₃ : Shared, St C (((H2.objs.size, nsP []) :: (h'.objs.size, freshP []) :: l₁) ++ (it, listIterP a 0) :: r) s₃ → codeAny (model P C.w) A (.compLoop (.ListComp elt [⟨.Tuple elts x1 tp, iter, ifs, 0⟩] scope pos) 0 (.ref it) (.ref h'.objs.size) (compEnvC scope cl H2.objs.size env))
      (compPost (model P C.w) A (fun x s' => ∃ l', e x l' ∧ St C (l' ++ r) s') none (fun a s' => ∃ l', k a l' ∧ St C (l' ++ r) s') (.ref h'.objs.size) H2.objs.size) s₃ := fun s₃ hs₃ => by
    refine codeAny_compL (fun m s' => ∃ i l₂, m = vs.length - i ∧ i ≤ vs.length ∧ I a h'.objs.size H2.objs.size i l₂ ∧ St C (l₂ ++ (it, listIterP a i) :: r) s') ?_ (vs.length - 0) ⟨0, _, rfl, Nat.zero_le _, h0 _ _, hs₃⟩
    rintro m s' ⟨i, l₂, rfl, hi, hI, hs'⟩
    obtain ⟨⟨o, ho, hc, hd⟩, _⟩ := hs'.hp.own (it, listIterP a i) (List.mem_append_right _ (.head _))
    by_cases hlt : i < vs.length
    · have hx : vs.toArray[i]? = some (vs[i]'hlt) := by simp [hlt]
      refine wpAny_pyNext_list_item ⟨o, ho, hc, hd⟩ (hs'.isList (hG _ _ _ _ hI)) hx fun h'' hit hb => ?_
      have hs₁ : St C (l₂ ++ (it, listIterP a (i + 1)) :: r) { s' with heap := h'' } := ⟨hs'.hp.rep Rep.mid hb (let ⟨o', ho', hc', hd'⟩ := hit; ⟨o', ho', hc', hd'⟩), hs'.bare, hs'.os⟩
      obtain ⟨T, eT⟩ := hrf _ (List.getElem_mem hlt)
      have ht := turn a _ _ i vs[i] l₂ hlt hI (by simp)
      rw [eT] at ht ⊢
      refine wpAny_letOwnedTupleGo_listiter hit ?_
      refine ht.then hs₁ (fun _ l₃ s₂ h₂ hs₂ => h₂.then hs₂ (fun ok l₄ s₃ h₃ hs₃ => ?_) fun _ _ _ x => x.elim) fun _ _ _ x => x.elim
      cases ok with
      | true =>
        rw [if_pos rfl]
        exact (h₃.1 rfl).then hs₃ (fun x l₅ s₄ h₄ hs₄ => h₄.then hs₄ (fun _ l₆ s₅ h₅ hs₅ => ⟨vs.length - (i + 1), by omega, i + 1, l₆, rfl, hlt, h₅, hs₅⟩) fun _ _ _ x => x.elim) fun _ _ _ x => x.elim
      | false =>
        rw [if_neg (by decide)]
        exact ⟨vs.length - (i + 1), by omega, i + 1, l₄, rfl, hlt, h₃.2 rfl, hs₃⟩
    · have : i = vs.length := by omega
      subst this
      refine wpAny_pyNext_list_end hh ⟨o, ho, hc, hd⟩ (hs'.isList (hG _ _ _ _ hI)) (by simp) fun h'' hx => ?_
      have hs'' : St C (l₂ ++ r) { s' with heap := h'' } := ⟨hs'.hp.extBut hx, hs'.bare, hs'.os⟩
      obtain ⟨V, l₃, hS, hk⟩ := done a _ _ l₂ hI
      have hs₆ := hs''.sub (hS.app r)
      obtain ⟨o, ho, hP⟩ := hs₆.get (l := (H2.objs.size, nsP V) :: l₃) (.head _)
      exact ⟨_, nsP.ns ho hP, fun h'' hb => ⟨l₃, hk, ⟨Hp.extBut (l := []) (r := l₃ ++ r) hs₆.hp hb.extBut, hs₆.bare, hs₆.os⟩⟩⟩
  refine codeAny_compStart_list (loop _ hs₅) ?_
  obtain ⟨⟨o, ho, hc, hd⟩, _⟩ := hs₅.hp.own (it, listIterP a 0) (List.mem_append_right _ (.head _))
  exact wpAny_pyIter_listiter ⟨o, ho, hc, hd⟩ (loop _ hs₅)
/-- [1 for .., .. in a list of tuples if ..] -/
theorem w_CompOnesT {test iter : Expr} {elts : List Expr} {x1} {tp : Pos} {scope : Scope} {cl : List (Str × Addr)} {pos cpos : Pos} {kd : Nat} {k : Value → Led → Prop} (f : Nat → Bool) (vs : List Value) (hh : A.handled = none) (hrf : ∀ x ∈ vs, ∃ T, x = .ref T) (hclos : closureFor scope env = pure cl) (hz : vs.length ≤ 1000)
    (h : W C A l (eval iter env) (fun v l₁ => ∃ a fr l₂, v = .ref a ∧ l₁ = fr :: l₂ ∧ (a, seqP "list" vs) ∈ l₁ ∧
      (∀ cL D V ys i x, vs[i]? = some x → W C A ((cL, nsP V) :: (D, freshP ys) :: l₁) (assign (.Tuple elts x1 tp) (compEnvC scope cl cL env) x) (fun _ l₃ => W C A l₃ (isTrue test (compEnvC scope cl cL env) (eval test (compEnvC scope cl cL env))) (fun ok l₄ => ok = f i ∧ ∃ V', l₄ = (cL, nsP V') :: (D, freshP ys) :: l₁) noE) noE) ∧
      (∀ D ys, ys.length = (List.range vs.length).countP f → k (.ref D) (fr :: (D, freshP ys) :: l₂))) e)
    (hcell : ∀ y ∈ scope.names, y.2 ≠ .cell := by decide) (hkind : scope.kind = .function := by rfl) (hnames : ∀ y ∈ scope.names, y.2 = .local → scope.names.lookup y.1 = some .local := by decide)
    (hs : ∀ x, foldedSetIterable iter env x = pure x := by intro _; rfl) :
    W C A l (eval (.ListComp (.Constant (.int 1) kd cpos) [⟨.Tuple elts x1 tp, iter, [test], 0⟩] scope pos) env) k e := by
  refine w_ListCompT vs hh hrf (fun a D cL i l' => ∃ fr l₂ V ys, l' = (cL, nsP V) :: (D, freshP ys) :: fr :: l₂ ∧ ys.length = (List.range i).countP f ∧ i ≤ vs.length ∧ (a, seqP "list" vs) ∈ fr :: l₂ ∧
      (∀ cL D V ys i x, vs[i]? = some x → W C A ((cL, nsP V) :: (D, freshP ys) :: fr :: l₂) (assign (.Tuple elts x1 tp) (compEnvC scope cl cL env) x) (fun _ l₃ => W C A l₃ (isTrue test (compEnvC scope cl cL env) (eval test (compEnvC scope cl cL env))) (fun ok l₄ => ok = f i ∧ ∃ V', l₄ = (cL, nsP V') :: (D, freshP ys) :: fr :: l₂) noE) noE) ∧
      (∀ D ys, ys.length = (List.range vs.length).countP f → k (.ref D) (fr :: (D, freshP ys) :: l₂))) hclos ?_ ?_ ?_ hcell hkind hnames hs
  · refine h.mono (fun v l₁ ⟨a, fr, l₂, e1, e2, hm, he, hk⟩ => ?_) fun _ _ z => z
    subst e1 e2
    refine ⟨a, rfl, hm, ?_, fun D cL => ⟨fr, l₂, [], [], rfl, rfl, Nat.zero_le _, hm, he, hk⟩⟩
    rintro D cL i l' ⟨fr', l₂', V, ys, rfl, _, _, hm', _⟩
    exact .tail _ (.tail _ hm')
  · rintro a D cL i v l' hi ⟨fr, l₂, V, ys, rfl, hys, _, hm, he, hk⟩ hv
    have hle : ys.length ≤ i := by rw [hys]; have := List.countP_le_length (p := f) (l := List.range i); simpa using this
    have hsucc : (List.range (i + 1)).countP f = (List.range i).countP f + if f i then 1 else 0 := by
      rw [List.range_succ, List.countP_append]
      cases hf : f i <;> simp [hf]
    refine (he cL D V ys i v hv).mono (fun _ l₃ h₃ => w_ctests1 (h₃.mono (fun ok l₄ ⟨e1, V', e2⟩ => ?_) fun _ _ z => z)) fun _ _ z => z
    subst e1 e2
    refine ⟨fun ho => w_Const_int fun t => ?_, fun ho => ?_⟩
    · refine w_append (vs := ys) (.tail .head) (by omega) ⟨fr, l₂, V', _, rfl, ?_, hi, hm, he, hk⟩
      rw [hsucc, ho, List.length_append, hys]; rfl
    · refine ⟨fr, l₂, V', ys, rfl, ?_, hi, hm, he, hk⟩
      rw [hsucc, ho, hys]; rfl
  · rintro a D cL l' ⟨fr, l₂, V, ys, rfl, hys, _, hm, he, hk⟩
    exact ⟨V, _, .pick1 .head (.pick1 (.tail .head) (.pick1 .head .refl)), hk D ys hys⟩
end
end Mine
end
/-! R1 -/
section
open PySem PySem.W PySem.Calls PyProof.Rows
set_option maxRecDepth 100000
set_option linter.all false
namespace Mine
local macro_rules | `(tactic| walk_at "lk") => `(tactic| first | with_reducible exact look_eq | (rw [lookup_put, if_neg (by decide)]; walk_at "lk") | assumption | exact rfl)
local macro_rules | `(tactic| walk_at "in") => `(tactic| first | exact List.Mem.head _ | (refine List.Mem.tail _ ?_; walk_at "in"))
local macro_rules | `(tactic| walk_at "pk") => `(tactic| first | exact Pick.head | (apply Pick.tail; walk_at "pk"))
local macro_rules | `(tactic| walk_at "rp") => `(tactic| first | exact Rep.head | (apply Rep.tail; walk_at "rp"))
local macro_rules | `(tactic| walk_at "sub") => `(tactic| first | exact Sub.refl | (refine Sub.pick1 (by walk_at "pk") ?_; walk_at "sub") | exact Sub.nil | (refine Sub.skip ?_; walk_at "sub"))
local macro_rules | `(tactic| walk_at "mem") => `(tactic| first | assumption | exact List.Mem.head _ | (refine List.Mem.tail _ ?_; walk_at "mem"))
theorem Prs.get {l : Led} : ∀ {vs : List Value} {ps : List (Nat × Nat)}, Prs l vs ps → ∀ {i : Nat} {x : Value}, vs[i]? = some x → ∃ T p, ps[i]? = some p ∧ x = .ref T ∧ (T, tupP [(p.1 : Int), (p.2 : Int)]) ∈ l
  | _, _, .nil, i, x, h => by simp at h
  | _, _, .cons hm r, 0, x, h => by simp at h; exact ⟨_, _, rfl, h.symm, hm⟩
  | _, _, .cons hm r, i + 1, x, h => by simpa using Prs.get r (i := i) (by simpa using h)
theorem count_at {q : Nat × Nat → Bool} : ∀ (ps : List (Nat × Nat)), (List.range ps.length).countP (fun i => (ps[i]?).any q) = ps.countP q
  | [] => rfl
  | p :: ps => by
    rw [List.length_cons, List.range_succ_eq_map, List.countP_cons, List.countP_map, List.countP_cons]
    have := count_at (q := q) ps
    congr 1
section
variable {α β : Type} {C : Cx} {A : Around} {l : Led} {e : Value → Led → Prop} {env : Env}
theorem w_ne_ints {a b : Addr} {ns ms : List Int} {k : Value → Led → Prop} (ha : Ints C l a ns) (hb : Ints C l b ms) (hu : A.units + 64 < cLine) (h : k (.bool (!decide (ns = ms))) l) : W C A l (compareOp .NotEq (.ref a) (.ref b)) k e := fun r s hs => by
  obtain ⟨us, i1, l1⟩ := ha s r hs
  obtain ⟨ws, i2, l2⟩ := hb s r hs
  exact ne_intsK l1 i1 l2 i2 hu ⟨l, h, hs⟩
set_option maxHeartbeats 16000000
theorem told_tail (S : Ok C) {o : Obj} {fd : FuncData} {body : List Stmt} (hlk : List.lookup 907 (KK C.w.params) = some o) (hd : o.data = .func fd) (hb : fd.body = .stmts body) {L D g dg nd ca ga : Addr} {vs gv : Vars} {v0 : Option Value} {p : Obj → Prop} {na : List Addr} {ep N : Nat} {X : Led} {ys : List Value} {ps : List (Nat × Nat)} {cs gs : List Int} {k : Flow → Led → Prop}
    (hA : A.depth + 5 < recursionLimit) (hh : A.handled = none) (hu : A.units + 100 < cLine) (Vg : vs.lookup ("graph" : Str) = some (.ref g)) (Vp : vs.lookup ("pairs" : Str) = some (.ref D)) (Vc : vs.lookup ("comes" : Str) = some (.ref ca)) (Vo : vs.lookup ("goes" : Str) = some (.ref ga))
    (hx : (g, (· = instObj 860 dg)) ∈ X) (hdg : (dg, p) ∈ X) (hp : ∀ o, p o → nsP gv o) (hnd : gv.lookup ("_node" : Str) = some (.ref nd)) (hm : (nd, dE C (keyed na) ep) ∈ X) (hc : (ca, intsP cs) ∈ X) (hg : (ga, intsP gs) ∈ X)
    (hys : Prs X ys ps) (hlt : ∀ p ∈ ps, p.1 < 6 ∧ p.2 < 6) (hpn : ps.Nodup) (hpl : ps.length ≤ 36) (hloop : ∀ p ∈ ps, p.1 ≠ p.2) (hN : N ≤ 6) (hnaN : na.length = N) (hcN : cs.length = N) (hgN : gs.length = N)
    (hins : ∀ v, v < N → (ps.countP (fun p => p.2 == v) : Int) = at0 cs v) (houts : ∀ v, v < N → (ps.countP (fun p => p.1 == v) : Int) = at0 gs v)
    (hk : ∀ l', Sub X l' → k (.ret (.bool true)) l') :
    W C A ((L, nsP vs) :: (L + 1, cellP v0) :: (D, freshP ys) :: X) (execs (body.drop 2) (callEnvC fd L 907)) k noE := by
  obtain rfl := Option.some.inj (hlk.symm.trans rfl)
  obtain rfl := Data.func.inj hd
  obtain rfl := FuncBody.stmts.inj hb
  have hyl := hys.len
  have mono : ∀ (Y : Led), Prs (Y ++ X) ys ps := fun Y => by
    clear hyl hlt hpn hpl hloop hins houts
    induction hys with
    | nil => exact .nil
    | cons hm r ih => exact .cons (List.mem_append_right _ hm) ih
  refine w_execs_cons <| w_If <| w_isTrue_BoolOp <| w_or_cons <| w_isTrue_Compare1 <| w_Call_Name <| S.bi rfl rfl <| w_callWith_b <| w_items_cons <| w_Call_Name <| S.bi rfl rfl <| w_callWith_t <| w_items_cons <| w_NameL rfl Vp <| w_items_nil <| w_setPairs (f := (L, nsP vs)) hh (by omega) (.tail _ (.tail _ (.head _))) (mono [_, _, _]) hlt hpn hpl fun Sa hs' hl' => w_items_nil <| w_len_set (.head _) (by omega) fun t1 => ?_
  refine W.sub (l' := (L, nsP vs) :: (L + 1, cellP v0) :: (D, seqP "list" ys) :: X) (.skip (.pick1 .head (.pick1 .head (.pick .head (fun o h => h.seq) .refl)))) ?_
  refine w_Call_Name <| S.bi rfl rfl <| w_callWith_b <| w_items_cons <| w_NameL rfl Vp <| w_items_nil <| w_len_seq (vs := ys) (by walk_at "in") (by omega) fun t2 => w_ne_int <| w_truthy_bool ⟨fun q => ?_, fun _ => w_or_cons ?_⟩
  · rw [hl', hyl] at q; simp at q
  refine w_isTrue_plain <| w_CompOnesT (fun i => (ps[i]?).any fun p => p.1 == p.2) ys hh (fun x hx => by obtain ⟨i, hi, e⟩ := List.getElem_of_mem hx; obtain ⟨T, q, _, h, _⟩ := hys.get (i := i) (x := x) (by simp [hi, e]); exact ⟨T, h⟩) rfl (by omega) (w_NameL rfl Vp ⟨D, _, _, rfl, rfl, by walk_at "in", fun cL D2 V zs i x hx' => ?_, fun D2 zs hz => ?_⟩)
  · obtain ⟨T, q, hq, rfl, hT⟩ := (mono [(cL, nsP V), (D2, freshP zs), (L, nsP vs), (L + 1, cellP v0), (D, seqP "list" ys)]).get hx'
    refine w_assign_tup hh hT (fun us hus => ?_) rfl
    obtain ⟨t3, t4, rfl⟩ := ints2 hus
    refine w_ord_cons <| w_assign_Name <| w_storeL rfl <| w_ord_cons <| w_assign_Name <| w_storeL rfl <| w_ord_nil ?_
    refine w_isTrue_Compare1 <| w_NameL rfl (by walk_at "lk") <| w_NameL rfl (by walk_at "lk") <| w_eq_int <| w_truthy_bool ⟨?_, _, rfl⟩
    rw [hq]
    simp [Bool.beq_eq_decide_eq, Int.ofNat_inj]
  rw [hyl, count_at] at hz
  have hz0 : zs = [] := by
    rw [← List.length_eq_zero_iff, hz, List.countP_eq_zero]
    intro p hp
    simpa using hloop p hp
  subst hz0
  refine W.sub (l' := (L, nsP vs) :: (D2, seqP "list" []) :: (L + 1, cellP v0) :: (D, seqP "list" ys) :: X) (.pick1 .head (.pick .head (fun o h => h.seq) .refl)) ?_
  refine w_truthy_seq (vs := []) (.tail _ (.head _)) (by simp) ⟨fun q => (nomatch q), fun _ => w_or_cons ?_⟩
  refine w_isTrue_Compare1 <| w_Call_Name <| S.bi rfl rfl <| w_callWith_b <| w_items_cons <| w_NameL rfl Vg <| w_items_nil <| w_sortedGraph S (by omega) hh (.tail _ (.tail _ (.tail _ (.tail _ hx)))) (.tail _ (.tail _ (.tail _ (.tail _ hdg)))) hp hnd (.tail _ (.tail _ (.tail _ (.tail _ hm)))) (by omega) fun D3 => ?_
  refine w_Call_Name <| S.bi rfl rfl <| w_callWith_t <| w_items_cons <| w_Call_Name <| S.bi rfl rfl <| w_callWith_t <| w_items_cons <| w_Call_Name <| S.bi rfl rfl <| w_callWith_b <| w_items_cons <| w_NameL rfl Vc <| w_items_nil <| w_len_ints (ns := cs) (Ints.mem (by walk_at "mem")) (by omega) fun t5 => w_items_nil <| w_range1 fun rg => w_items_nil <| w_list_rng hh (.tail _ (.head _)) (by decide) (by omega) (by omega) fun D4 => ?_
  refine w_ne_ints (Ints.mem (ns := (List.range na.length).map fun i : Nat => (i : Int)) (by walk_at "mem")) (Ints.mem (by walk_at "mem")) (by omega) <| w_truthy_bool ⟨fun q => ?_, fun _ => w_or_nil ⟨fun q => (nomatch q), fun _ => w_execs_nil ?_⟩⟩
  · rw [hnaN, hcN] at q
    simp at q
  refine W.sub (l' := (L, nsP vs) :: (L + 1, cellP v0) :: (D, seqP "list" ys) :: X) (.pick1 .head (.skip (.skip (.skip (.skip (.pick1 .head (.pick1 .head .refl))))))) ?_
  refine w_execs_cons <| w_For_range hh 0 N (fun i l' => ∃ v0, Sub ((L, nsP vs) :: (L + 1, cellP v0) :: (D, seqP "list" ys) :: X) l') (by decide) (by omega) (by omega) ?_ ?_ ?_
  · refine w_Call_Name <| S.bi rfl rfl <| w_callWith_t <| w_items_cons <| w_Call_Name <| S.bi rfl rfl <| w_callWith_b <| w_items_cons <| w_NameL rfl Vc <| w_items_nil <| w_len_ints (ns := cs) (Ints.mem (by walk_at "mem")) (by omega) fun t6 => w_items_nil <| w_range1 fun rg2 => ⟨rg2, rfl, by rw [hcN]; exact .tail _ (.head _), v0, .pick1 .head (.skip .refl)⟩
  · rintro i tk l₂ hi ⟨v1, hS⟩
    have hi' : i < N := by omega
    have e0 : (0 : Int) + (i : Int) = (i : Int) := by omega
    rw [e0]
    refine W.sub hS <| w_assign_Name <| w_storeC rfl (.tail .head) ?_
    refine w_execs_cons <| w_If <| w_isTrue_BoolOp <| w_or_cons <| w_isTrue_Compare1 <| w_Call_Name <| S.bi rfl rfl <| w_callWith_b <| w_items_cons <| w_CompOnes (fun j => (ps[j]?).any fun p => p.2 == i) ys hh rfl (by omega) (w_NameL rfl Vp ⟨D, _, _, rfl, rfl, by walk_at "in", fun cL D2 V zs j x hx' => ?_, fun D2 zs hz => ?_⟩)
    · obtain ⟨T, q, hq, rfl, hT⟩ := (mono [(cL, nsP (put "pair" x V)), (D2, freshP zs), (L, nsP vs), (L + 1, cellP (some (.int i tk))), (D, seqP "list" ys)]).get hx'
      refine w_assign_Name <| w_storeL rfl ?_
      refine w_isTrue_Compare1 <| w_Subscript <| w_NameL rfl (by walk_at "lk") <| w_Const_int fun t7 => w_subTail_tup hT (by decide) (by simp) (by simp) rfl fun t8 => w_NameC rfl (by walk_at "mem") <| w_eq_int <| w_truthy_bool ⟨?_, _, rfl⟩
      rw [hq]
      simp [Bool.beq_eq_decide_eq, Int.ofNat_inj]
    rw [hyl, count_at] at hz
    refine w_items_nil <| W.sub (l' := (L, nsP vs) :: (D2, seqP "list" zs) :: (L + 1, cellP (some (.int i tk))) :: (D, seqP "list" ys) :: X) (.pick1 .head (.pick .head (fun o h => h.seq) .refl)) ?_
    have hzl : zs.length ≤ 36 := by rw [hz]; exact Nat.le_trans List.countP_le_length hpl
    refine w_len_seq (vs := zs) (.tail _ (.head _)) (by omega) fun t9 => w_Subscript <| w_NameL rfl Vc <| w_NameC rfl (by walk_at "mem") <| w_subTail_ints (ns := cs) (n := at0 cs i) (by walk_at "mem") (by omega) (by omega) (by simp [at0, hcN, hi']) fun t10 => w_ne_int <| w_truthy_bool ⟨fun q => ?_, fun _ => w_or_cons ?_⟩
    · have h1 := hins i hi'
      rw [← hz] at h1
      rw [h1] at q
      simp at q
    refine W.sub (l' := (L, nsP vs) :: (L + 1, cellP (some (.int i tk))) :: (D, seqP "list" ys) :: X) (.pick1 .head (.skip .refl)) ?_
    refine w_isTrue_Compare1 <| w_Call_Name <| S.bi rfl rfl <| w_callWith_b <| w_items_cons <| w_CompOnes (fun j => (ps[j]?).any fun p => p.1 == i) ys hh rfl (by omega) (w_NameL rfl Vp ⟨D, _, _, rfl, rfl, by walk_at "in", fun cL D2 V zs j x hx' => ?_, fun D5 zs2 hz2 => ?_⟩)
    · obtain ⟨T, q, hq, rfl, hT⟩ := (mono [(cL, nsP (put "pair" x V)), (D2, freshP zs), (L, nsP vs), (L + 1, cellP (some (.int i tk))), (D, seqP "list" ys)]).get hx'
      refine w_assign_Name <| w_storeL rfl ?_
      refine w_isTrue_Compare1 <| w_Subscript <| w_NameL rfl (by walk_at "lk") <| w_Const_int fun t7 => w_subTail_tup hT (by decide) (by simp) (by simp) rfl fun t8 => w_NameC rfl (by walk_at "mem") <| w_eq_int <| w_truthy_bool ⟨?_, _, rfl⟩
      rw [hq]
      simp [Bool.beq_eq_decide_eq, Int.ofNat_inj]
    rw [hyl, count_at] at hz2
    refine w_items_nil <| W.sub (l' := (L, nsP vs) :: (D5, seqP "list" zs2) :: (L + 1, cellP (some (.int i tk))) :: (D, seqP "list" ys) :: X) (.pick1 .head (.pick .head (fun o h => h.seq) .refl)) ?_
    have hzl2 : zs2.length ≤ 36 := by rw [hz2]; exact Nat.le_trans List.countP_le_length hpl
    refine w_len_seq (vs := zs2) (.tail _ (.head _)) (by omega) fun t11 => w_Subscript <| w_NameL rfl Vo <| w_NameC rfl (by walk_at "mem") <| w_subTail_ints (ns := gs) (n := at0 gs i) (by walk_at "mem") (by omega) (by omega) (by simp [at0, hgN, hi']) fun t12 => w_ne_int <| w_truthy_bool ⟨fun q => ?_, fun _ => w_or_nil ⟨fun q => (nomatch q), fun _ => w_execs_nil <| w_execs_nil ⟨_, .pick1 .head (.skip .refl)⟩⟩⟩
    have h1 := houts i hi'
    rw [← hz2] at h1
    rw [h1] at q
    simp at q
  · rintro l₂ ⟨v1, hS⟩
    exact W.sub hS <| w_execs_cons <| w_Return <| w_Const_bool <| hk _ (.skip (.skip (.skip .refl)))
end
end Mine
end
/-! R2 -/
section
open PySem PySem.W PySem.Calls PyProof.Rows
set_option maxRecDepth 100000
set_option linter.all false
namespace Mine
theorem perm_idx {α : Type} (xs : List (List α)) (is js : List Nat) (h : is.Perm js) : ((is.map fun i => xs.getD i []).flatten).Perm ((js.map fun i => xs.getD i []).flatten) := (h.map _).flatten
/-- the edges row by row -/
def byRow (E : List (Nat × Nat)) (N : Nat) : List (Nat × Nat) := (List.range N).flatMap fun u => E.filter fun p => p.1 == u
theorem byRow_perm' (E : List (Nat × Nat)) : ∀ N, (byRow E N).Perm (E.filter fun p => decide (p.1 < N))
  | 0 => by
    have : E.filter (fun p => decide (p.1 < 0)) = [] := by simp
    rw [this]; exact .refl _
  | N + 1 => by
    unfold byRow
    rw [List.range_succ, List.flatMap_append]
    have ih := byRow_perm' E N
    have h := List.filter_append_perm (fun p : Nat × Nat => decide (p.1 < N)) (E.filter fun p => decide (p.1 < N + 1))
    rw [List.filter_filter, List.filter_filter] at h
    have e1 : E.filter (fun p => decide (p.1 < N) && decide (p.1 < N + 1)) = E.filter fun p => decide (p.1 < N) := List.filter_congr fun p _ => by
      by_cases q : p.1 < N
      · simp [q]; omega
      · simp [q]
    have e2 : E.filter (fun p => !decide (p.1 < N) && decide (p.1 < N + 1)) = E.filter fun p => p.1 == N := List.filter_congr fun p _ => by
      by_cases q : p.1 = N
      · simp [q]
      · have : (p.1 == N) = false := beq_eq_false_iff_ne.mpr q
        rw [this]
        by_cases q2 : p.1 < N
        · simp [q2]
        · simp [q2]; omega
    rw [e1, e2] at h
    refine List.Perm.trans ?_ h
    refine List.Perm.append ih ?_
    simp
theorem byRow_perm {E : List (Nat × Nat)} {N : Nat} (h : ∀ p ∈ E, p.1 < N) : (byRow E N).Perm E := by
  have := byRow_perm' E N
  rwa [List.filter_eq_self.mpr fun p hp => by simpa using h p hp] at this
theorem pairs_len {E : List (Nat × Nat)} (hn : E.Nodup) (h : ∀ p ∈ E, p.1 < 6 ∧ p.2 < 6) : E.length ≤ 36 := by
  have hn' : (E.map fun p => p.1 * 6 + p.2).Nodup := List.pairwise_map.mpr (List.Pairwise.imp_of_mem (fun {x y} hx hy hne e => hne (by
    have := h x hx
    have := h y hy
    exact Prod.ext (by omega) (by omega))) hn)
  have := nodup_len (n := 36) hn' fun x hx => by
    obtain ⟨p, hp, rfl⟩ := List.mem_map.mp hx
    have := h p hp
    omega
  simpa using this
theorem Yields.split : ∀ {xs ys : List YItem} {vs : List Value} {e : Led}, Yields (xs ++ ys) vs e → ∃ v1 v2 e1 e2, vs = v1 ++ v2 ∧ e = e1 ++ e2 ∧ Yields xs v1 e1 ∧ Yields ys v2 e2
  | [], ys, vs, e, h => ⟨[], vs, [], e, rfl, rfl, .nil, h⟩
  | x :: xs, ys, _, _, .cons hi h => by
    obtain ⟨v1, v2, e1, e2, rfl, rfl, h1, h2⟩ := Yields.split h
    exact ⟨_ :: v1, v2, _ ++ e1, e2, rfl, by rw [List.append_assoc], .cons hi h1, h2⟩
theorem Prs.app {l : Led} : ∀ {v1 v2 : List Value} {p1 p2}, Prs l v1 p1 → Prs l v2 p2 → Prs l (v1 ++ v2) (p1 ++ p2)
  | _, _, _, _, .nil, h => h
  | _, _, _, _, .cons hm r, h => .cons hm (Prs.app r h)
theorem Prs.left {l : Led} (X : Led) : ∀ {vs : List Value} {ps}, Prs l vs ps → Prs (l ++ X) vs ps
  | _, _, .nil => .nil
  | _, _, .cons hm r => .cons (List.mem_append_left _ hm) (Prs.left X r)
theorem Prs.right {l : Led} (X : Led) : ∀ {vs : List Value} {ps}, Prs l vs ps → Prs (X ++ l) vs ps
  | _, _, .nil => .nil
  | _, _, .cons hm r => .cons (List.mem_append_right _ hm) (Prs.right X r)
theorem yields_row {u : Nat} : ∀ {kv : KV} {ts : List Nat} {vs : List Value} {e : Led}, kv.map (·.1) = ts.map (fun t : Nat => (t : Int)) → Yields (kv.map fun p => pairI u p.1) vs e → Prs e vs (ts.map fun t => (u, t))
  | [], [], _, _, _, .nil => .nil
  | x :: kv, t :: ts, _, _, h, .cons hi hy => by
    obtain ⟨h1, h2⟩ := List.cons.inj h
    obtain ⟨T, rfl, rfl⟩ := hi
    have h1 : x.1 = (t : Int) := h1
    rw [h1]
    exact .cons (List.mem_append_left _ (.head _)) (Prs.right _ (yields_row h2 hy))
  | [], _ :: _, _, _, h, _ => by simp at h
  | _ :: _, [], _, _, h, _ => by simp at h
theorem yields_prs {tg : Nat → List Nat} : ∀ {adj : List (Addr × KV)} {u : Nat} {vs : List Value} {e : Led}, (∀ i r, adj[i]? = some r → r.2.map (·.1) = (tg (u + i)).map fun t : Nat => (t : Int)) → Yields (itsFrom u adj) vs e →
    Prs e vs ((List.range adj.length).flatMap fun i => (tg (u + i)).map fun t => (u + i, t))
  | [], u, _, _, _, .nil => .nil
  | r :: adj, u, vs, e, h, hy => by
    rw [itsFrom] at hy
    obtain ⟨v1, v2, e1, e2, rfl, rfl, h1, h2⟩ := Yields.split hy
    have hr := h 0 r rfl
    have k1 := yields_row hr h1
    have k2 := yields_prs (tg := tg) (u := u + 1) (fun i r' hr' => by
      have := h (i + 1) r' (by simpa using hr')
      have e : u + (i + 1) = u + 1 + i := by omega
      rw [e] at this; exact this) h2
    rw [List.length_cons, List.range_succ_eq_map, List.flatMap_cons, List.flatMap_map]
    refine (k1.left e2).app ?_
    have e3 : ((List.range adj.length).flatMap fun i => (tg (u + 1 + i)).map fun t => (u + 1 + i, t)) = (List.range adj.length).flatMap fun i => (tg (u + (i + 1))).map fun t => (u + (i + 1), t) := by
      congr 1
      funext i
      have e : u + 1 + i = u + (i + 1) := by omega
      rw [e]
    rw [e3] at k2
    exact k2.right e1
/-- what list(graph.edges) gives -/
theorem EdgesOk.pairs {N : Nat} {c g : Nat → Int} {G : GS} {E : List (Nat × Nat)} (x : EdgesOk N c g G E) {vs : List Value} {e : Led} (hy : Yields (itsFrom 0 G.adj) vs e) : ∃ ps, Prs e vs ps ∧ ps.Perm E := by
  refine ⟨_, yields_prs (tg := fun u => (E.filter fun p => p.1 == u).map (·.2)) (fun i r hr => ?_) hy, ?_⟩
  · have hi : i < N := by
      have := (List.getElem?_eq_some_iff.mp hr).1
      rw [x.adjN] at this; exact this
    obtain ⟨au, kv, h1, h2⟩ := x.adj i hi
    rw [hr] at h1
    cases h1
    rw [h2, Nat.zero_add, List.map_map]
    rfl
  · have : ((List.range G.adj.length).flatMap fun i => ((E.filter fun p => p.1 == 0 + i).map (·.2)).map fun t => (0 + i, t)) = byRow E N := by
      unfold byRow
      rw [x.adjN]
      congr 1
      funext i
      rw [Nat.zero_add, List.map_map]
      have : ∀ L : List (Nat × Nat), (∀ p ∈ L, p.1 = i) → L.map ((fun t => (i, t)) ∘ (·.2)) = L := fun L hL => by
        induction L with
        | nil => rfl
        | cons p L ih =>
          rw [List.map_cons, ih fun q hq => hL q (.tail _ hq)]
          congr 1
          have := hL p (.head _)
          exact Prod.ext this.symm rfl
      exact this _ fun p hp => by simpa using (List.mem_filter.mp hp).2
    rw [this]
    exact byRow_perm fun p hp => (x.ok p hp).1
theorem EdgesOk.lens {N : Nat} {c g : Nat → Int} {G : GS} {E : List (Nat × Nat)} (x : EdgesOk N c g G E) (hN : N ≤ 6) : ∀ r ∈ G.adj, r.2.length ≤ 36 := fun r hr => by
  obtain ⟨i, hi, e⟩ := List.getElem_of_mem hr
  obtain ⟨au, kv, h1, h2⟩ := x.adj i (by rw [← x.adjN]; exact hi)
  rw [List.getElem?_eq_getElem hi, e] at h1
  cases h1
  have := congrArg List.length h2
  simp only [List.length_map] at this
  have h3 : E.length ≤ 36 := pairs_len x.nd fun p hp => by have := x.ok p hp; omega
  have h4 := List.length_filter_le (fun p : Nat × Nat => p.1 == i) E
  simp only
  omega
theorem sum_le {m : Nat} : ∀ {adj : List (Addr × KV)}, (∀ r ∈ adj, r.2.length ≤ m) → (adj.map fun r => (r.2.length : Int)).sum ≤ m * adj.length
  | [], _ => by simp
  | r :: rs, h => by
    have ih := sum_le fun r hr => h r (.tail _ hr)
    have := h r (.head _)
    rw [List.map_cons, List.sum_cons, List.length_cons]
    have e : (m : Int) * ((rs.length + 1 : Nat) : Int) = m * rs.length + m := by rw [Int.natCast_add, Int.mul_add]; simp
    rw [e]; omega
theorem its_len {m : Nat} : ∀ {adj : List (Addr × KV)} {u : Nat}, (∀ r ∈ adj, r.2.length ≤ m) → (itsFrom u adj).length ≤ m * adj.length
  | [], _, _ => by simp [itsFrom]
  | r :: rs, u, h => by
    have ih := its_len (u := u + 1) fun r hr => h r (.tail _ hr)
    have := h r (.head _)
    rw [itsFrom, List.length_append, List.length_map, List.length_cons, Nat.mul_succ]
    omega
end Mine
end
/-! R3 -/
section
open PySem PySem.W PySem.Calls PyProof.Rows
set_option maxRecDepth 100000
set_option linter.all false
namespace Mine
local macro_rules | `(tactic| walk_at "lk") => `(tactic| first | with_reducible exact look_eq | (rw [lookup_put, if_neg (by decide)]; walk_at "lk") | assumption | exact rfl)
local macro_rules | `(tactic| walk_at "in") => `(tactic| first | exact List.Mem.head _ | (refine List.Mem.tail _ ?_; walk_at "in"))
local macro_rules | `(tactic| walk_at "pk") => `(tactic| first | exact Pick.head | (apply Pick.tail; walk_at "pk"))
local macro_rules | `(tactic| walk_at "rp") => `(tactic| first | exact Rep.head | (apply Rep.tail; walk_at "rp"))
local macro_rules | `(tactic| walk_at "sub") => `(tactic| first | exact Sub.refl | (refine Sub.pick1 (by walk_at "pk") ?_; walk_at "sub") | exact Sub.nil | (refine Sub.skip ?_; walk_at "sub"))
local macro_rules | `(tactic| walk_at "mem") => `(tactic| first | assumption | exact List.Mem.head _ | (refine List.Mem.tail _ ?_; walk_at "mem"))
section
variable {α β : Type} {C : Cx} {A : Around} {l : Led} {e : Value → Led → Prop} {env : Env}
def ToldSpecF (C : Cx) : Prop := ∀ {A : Around} {l : Led} {R : Result → Led → Prop} {envs : List Env} {outer : Frs} {u : Option Addr} {cs gs : List Int} {ca ga : Addr} {N : Nat}, A.depth + 12 < recursionLimit → A.handled = none → A.units < 6000 → A.frames = some envs → FrOk envs outer →
  (ca, intsP cs) ∈ l → (ga, intsP gs) ∈ l → cs.length = N → gs.length = N → 1 ≤ N → N ≤ 6 → (∀ x ∈ cs, -100 ≤ x ∧ x ≤ 100) → (∀ x ∈ gs, -100 ≤ x ∧ x ≤ 100) →
  (∀ v u', (GoodF N (at0 cs) (at0 gs) → v = .bool true) → (¬ GoodF N (at0 cs) (at0 gs) → v = .none) → R (.ok (.ret v)) (frL outer ++ (TabL 207 gposT gqT u' ++ l))) →
  CWF C A (frL outer ++ (TabL 207 gposT gqT u ++ l)) (.call (.ref 907) ⟨[.ref ca, .ref ga], []⟩) R
theorem at0_le {cs : List Int} {N v : Nat} (hN : cs.length = N) (h : ∀ x ∈ cs, -100 ≤ x ∧ x ≤ 100) (hv : v < N) : at0 cs v ≤ 100 := by
  have : at0 cs v ∈ cs := by simp [at0, hN, hv]
  exact (h _ this).2
theorem Sub.left (X Y : Led) : Sub X (X ++ Y) := fun nd => by
  rw [List.map_append, List.nodup_append] at nd
  exact ⟨nd.1, fun p hp => ⟨p, List.mem_append_left _ hp, rfl, fun _ x => x⟩⟩
theorem pm_a (dg x dx L g gr nd ad pd c : Ent) (RA rp na F T l : Led) : ((T ++ (x :: dx :: ad :: RA)) ++ (dg :: L :: g :: gr :: nd :: pd :: (rp ++ (na ++ (F ++ (c :: l)))))).Perm (dg :: x :: dx :: L :: g :: gr :: nd :: ad :: pd :: (RA ++ (rp ++ (na ++ (F ++ (c :: (T ++ l))))))) := by
  simpa using perm_idx [[dg], [x, dx], [L, g, gr, nd], [ad], [pd], RA, rp, na, F, [c], T, l] [10, 1, 3, 5, 0, 2, 4, 6, 7, 8, 9, 11] [0, 1, 2, 3, 4, 5, 6, 7, 8, 9, 10, 11] (by decide)
theorem pm_b (D dg x dx L g gr nd ad pd c : Ent) (e RA rp na F T l : Led) : ((L :: c :: D :: nd :: g :: dg :: (e ++ (F ++ (T ++ l)))) ++ (x :: dx :: ad :: gr :: pd :: (RA ++ (rp ++ na)))).Perm ((D :: (e ++ (T ++ (x :: dx :: ad :: RA)))) ++ (dg :: L :: g :: gr :: nd :: pd :: (rp ++ (na ++ (F ++ (c :: l)))))) := by
  simpa using perm_idx [[D], e, T, [x, dx, ad], RA, [dg], [L], [g], [gr], [nd], [pd], rp, na, F, [c], l] [6, 14, 0, 9, 7, 5, 1, 13, 2, 15, 3, 8, 10, 4, 11, 12] [0, 1, 2, 3, 4, 5, 6, 7, 8, 9, 10, 11, 12, 13, 14, 15] (by decide)
set_option maxHeartbeats 16000000
theorem spec_told (S : Ok C) (gi : GiOk C) : ToldSpecF C := by
  intro A l R envs outer u cs gs ca ga N hA hh hu hfr hfo hca hga hcN hgN hN1 hN hbc hbg h
  refine cwf_defC (binds := [("comes", .ref ca), ("goes", .ref ga)]) (vs := [("comes", .ref ca), ("goes", .ref ga)]) (cl := fun L => [(L + 1, cellP none)]) S.lim (by omega) (S.k 907 _ rfl (by decide) (by decide)) rfl ⟨906, _, _, _, rfl, S.k 906 _ rfl (by decide) (by decide), rfl, rfl⟩ rfl rfl rfl (fun k => ?_) (fun L => ?_) (fun L => rfl) (fun L => rfl) fun L => ?_
  · intro x hx
    rcases List.mem_cons.mp hx with rfl | hx
    · exact .inl rfl
    · rcases List.mem_cons.mp hx with rfl | hx
      · exact .inl rfl
      · cases hx
  · show List.Nodup (["v"] : List Str)
    decide
  have hfr1 : ∀ env, (A.deeper env).frames = some (env :: envs) := fun env => by show A.frames.map (env :: ·) = _; rw [hfr]; rfl
  refine WF.sub (l' := (L, nsP [("comes", .ref ca), ("goes", .ref ga)]) :: (frL outer ++ ((L + 1, cellP none) :: (TabL 207 gposT gqT u ++ l)))) (.pick1 .head Sub.mid) ?_
  refine wf_execs_cons <| WF.of <| w_Try_NX (envs := envs) (L := L) (outer := outer) S (hfr1 _) (fun vs => ⟨⟨(fun q => by cases q), rfl⟩, hfo⟩) rfl ?_
  refine w_execs_cons <| w_Assign_Name <| w_Call_Name <| S.glob (v := .ref 883) rfl <| w_callWith_fn (S.k 883 _ rfl (by decide) (by decide)) rfl <| w_items_cons <| w_NameL rfl (by walk_at "lk") <| w_items_cons <| w_NameL rfl (by walk_at "lk") <| w_items_nil ?_
  refine spec_havel (outer := (L, [("comes", .ref ca), ("goes", .ref ga)]) :: outer) (tail := (L + 1, cellP none) :: (TabL 207 gposT gqT u ++ l)) (cs := cs) (gs := gs) (N := N) S (by show A.depth + 1 + 3 < _; omega) hh (by show A.units + 3 < _; omega) (hfr1 _) ⟨⟨(fun q => by cases q), rfl⟩, hfo⟩ (Ints.mem (.tail _ (List.mem_append_right _ hca))) (Ints.mem (.tail _ (List.mem_append_right _ hga))) hcN hgN hN1 hN (fun v hv => ⟨at0_le hcN hbc hv, at0_le hgN hbg hv⟩) ?_ ?_
  · intro G E hE
    have hgood : GoodF N (at0 cs) (at0 gs) := edges_good hE.nd hE.ok hE.ins hE.outs
    have hlens := hE.lens hN
    have hl1 := sum_le hlens
    have hl2 := its_len (u := 0) hlens
    have hadj := hE.adjN
    refine W.sub (l' := (L, nsP [("comes", .ref ca), ("goes", .ref ga)]) :: GL C G (frL outer ++ ((L + 1, cellP none) :: (TabL 207 gposT gqT u ++ l)))) sub_GL' ?_
    refine w_storeL rfl <| w_execs_nil <| w_execs_nil ?_
    refine wf_execs_cons <| wf_Assign_Name <| wf_Call_Name <| WF.of <| S.bi rfl rfl <| wf_callWith_t <| wf_items_cons <| wf_AttributeN <| WF.of <| w_NameL rfl (by walk_at "lk") ?_
    refine WF.sub (.pick1 (.tail (.tail .head)) .refl) <| wf_edges S (by show A.depth + 1 + 8 < _; omega) (vs := G.vars) (ad := G.ad) rfl rfl rfl rfl (by omega) (.tail _ (.head _)) fun x dx => wf_items_nil <| WF.of ?_
    refine W.sub (Sub.perm (pm_a _ _ _ _ _ _ _ _ _ _ _ _ _ _ (TabL 207 gposT gqT u) _)) ?_
    refine W.mono (W.frame _ (w_listView (k := fun v l' => ∃ t' D vs e', v = .ref D ∧ Yields (itsFrom 0 G.adj) vs e' ∧ l' = (D, freshP vs) :: (e' ++ (TabL 207 gposT gqT t' ++ ViewL C x dx G.ad G.adj))) (e := noE) S gi (by show A.depth + 1 + 9 < _; omega) hh (fun r hr => by have := hlens r hr; omega) (by rw [hadj] at hl1; omega) (by rw [hadj] at hl2; omega) fun t' D vs e' hy => ⟨t', D, vs, e', rfl, hy, rfl⟩)) ?_ (fun _ _ ⟨_, _, z⟩ => z)
    rintro v l' ⟨l₁, rfl, t', D, ys, e', rfl, hy, rfl⟩
    obtain ⟨ps, hps, hpe⟩ := hE.pairs hy
    refine WF.sub (Sub.trans (Sub.left _ _) (Sub.perm (pm_b _ _ _ _ _ _ _ _ _ _ _ _ _ _ _ _ _ _))) <| WF.of <| w_storeL rfl ?_
    refine WF.of <| W.sub (.pick1 (.tail (.tail (.tail .head))) .refl) <| w_ex (fun o ho => ho.dE) fun ep => ?_
    refine W.sub (l' := (L, nsP _) :: (L + 1, cellP none) :: (D, freshP ys) :: (G.nd, dE C (keyed G.na) ep) :: _) (.pick1 (.tail .head) (.pick1 (.tail .head) (.pick1 (.tail .head) .refl))) ?_
    have hok : ∀ p ∈ ps, p.1 < N ∧ p.2 < N ∧ p.1 ≠ p.2 := fun p hp => hE.ok p (hpe.mem_iff.mp hp)
    have hpn : ps.Nodup := hpe.nodup_iff.mpr hE.nd
    have hlt : ∀ p ∈ ps, p.1 < 6 ∧ p.2 < 6 := fun p hp => by have := hok p hp; omega
    refine told_tail S (o := _) rfl rfl rfl (g := G.g) (dg := G.dg) (nd := G.nd) (ca := ca) (ga := ga) (gv := put "edges" (.ref x) (put "succ" (.ref G.ad) G.vars)) (p := idS C 7 (put "edges" (.ref x) (put "succ" (.ref G.ad) G.vars))) (na := G.na) (ep := ep) (N := N) (ps := ps) (cs := cs) (gs := gs)
      (by show A.depth + 1 + 5 < _; omega) hh (by show A.units + 3 + 100 < 9900; omega) (by walk_at "lk") (by walk_at "lk") (by walk_at "lk") (by walk_at "lk") (.tail _ (.head _)) (.tail _ (.tail _ (.head _))) (fun _ ho => ho.1.ns) (by walk_at "lk") (.head _)
      (.tail _ (.tail _ (.tail _ (List.mem_append_right _ (List.mem_append_right _ (List.mem_append_right _ hca)))))) (.tail _ (.tail _ (.tail _ (List.mem_append_right _ (List.mem_append_right _ (List.mem_append_right _ hga))))))
      (Prs.right [_, _, _] (Prs.left _ hps)) hlt hpn (pairs_len hpn hlt) (fun p hp => (hok p hp).2.2) hN hE.naN hcN hgN (fun v hv => by rw [hpe.countP_eq]; exact hE.ins v hv) (fun v hv => by rw [hpe.countP_eq]; exact hE.outs v hv) fun l' hS => ?_
    exact ⟨_, Sub.trans (.skip (.skip (.skip (Sub.skipL .refl e')))) hS, h (.bool true) t' (fun _ => rfl) fun q => (q hgood).elim⟩
  · intro hbad ea T
    refine ⟨ea, T, _, (L + 1, cellP none) :: (TabL 207 gposT gqT u ++ l), rfl, rfl, fun T' => ?_⟩
    refine w_execs_cons <| w_Return <| w_Const_none ⟨_, ?_, h .none u (fun q => (hbad q).elim) fun _ => rfl⟩
    refine .skip (Sub.trans (b := (ea, excP T') :: (T', tbP .none) :: (L + 1, cellP none) :: (frL outer ++ (TabL 207 gposT gqT u ++ l))) (.skip (.skip (.skip .refl))) (Sub.perm ?_))
    exact (List.perm_append_comm_assoc (frL outer) [(ea, excP T'), (T', tbP .none), (L + 1, cellP none)] (TabL 207 gposT gqT u ++ l)).symm
end
end Mine
end
/-! Z5 -/
section
open PySem PySem.W PySem.Calls PyProof.Rows
set_option maxRecDepth 100000
set_option linter.all false
namespace Mine
local macro_rules | `(tactic| walk_at "lk") => `(tactic| first | with_reducible exact look_eq | (rw [lookup_put, if_neg (by decide)]; walk_at "lk") | assumption | exact rfl)
local macro_rules | `(tactic| walk_at "in") => `(tactic| first | exact List.Mem.head _ | (refine List.Mem.tail _ ?_; walk_at "in"))
local macro_rules | `(tactic| walk_at "pk") => `(tactic| first | exact Pick.head | (apply Pick.tail; walk_at "pk"))
local macro_rules | `(tactic| walk_at "rp") => `(tactic| first | exact Rep.head | (apply Rep.tail; walk_at "rp"))
local macro_rules | `(tactic| walk_at "sub") => `(tactic| first | exact Sub.refl | (refine Sub.pick1 (by walk_at "pk") ?_; walk_at "sub") | exact Sub.nil | (refine Sub.skip ?_; walk_at "sub"))
section
variable {α β : Type} {C : Cx} {A : Around} {l : Led} {e : Value → Led → Prop} {env : Env}
theorem w_eq_bool {a b : Bool} {k : Value → Led → Prop} (h : k (.bool (a == b)) l) : W C A l (compareOp .Eq (.bool a) (.bool b)) k e := fun r _ hs => PyProof.Rows.eq_bool ⟨l, h, hs⟩
theorem w_is_plain {a b : Value} {k : Value → Led → Prop} (hp : plainIs a b = true) (h : k (.bool (a == b)) l) : W C A l (compareOp .Is a b) k e := fun r _ hs => wpAny_is_plain hp ⟨l, h, hs⟩
theorem w_BoolOp_and {e₁ e₂ rest pos} {k : Value → Led → Prop}
    (h : W C A l (eval e₁ env) (fun v l₁ => W C A l₁ (truthy v) (fun c l₂ => (c = true → W C A l₂ (eval (.BoolOp .And (e₂ :: rest) pos) env) k e) ∧ (c = false → k v l₂)) e) e) : W C A l (eval (.BoolOp .And (e₁ :: e₂ :: rest) pos) env) k e := fun r s hs =>
  BoolOp_and (h.step hs fun v l₁ s₁ h₁ hs₁ => h₁.step hs₁ fun c l₂ s₂ h₂ hs₂ => by
    cases c with
    | true => exact h₂.1 rfl r s₂ hs₂
    | false => exact ⟨l₂, h₂.2 rfl, hs₂⟩)
theorem w_BoolOp_one {op e₁ pos} {k : Value → Led → Prop} (h : W C A l (eval e₁ env) k e) : W C A l (eval (.BoolOp op [e₁] pos) env) k e := h
theorem Sub.rotA (X T U l : Led) : Sub (U ++ (X ++ (T ++ l))) (X ++ (T ++ (U ++ l))) := by
  have := Sub.rot (X ++ T) U l
  simpa [List.append_assoc] using this
theorem Sub.rotB (X T U l : Led) : Sub (X ++ (T ++ (U ++ l))) (U ++ (X ++ (T ++ l))) := by
  have := Sub.rot U (X ++ T) l
  simpa [List.append_assoc] using this
theorem w_trueIf {L : Addr} {vs : Vars} {x : Str} {b : Bool} {p1 p2 p3 p4 : Pos} {j1 j2 : Nat} {k : Value → Led → Prop} (hv : vs.lookup x = some (.bool b)) (h : k (if b then .bool true else .none) ((L, nsP vs) :: l)) (hL : env.locals = L := by rfl)
    (h1 : env.scope.kind = .function := by rfl) (h2 : env.kindOf x = some .local := by rfl) (hd : (x == ("__debug__" : Str)) = false := by decide) :
    W C A ((L, nsP vs) :: l) (eval (.IfExp (.Name x p1) (.Constant (.bool true) j1 p2) (.Constant .none j2 p3) p4) env) k e := by
  refine w_IfExp <| w_isTrue_plain (w_NameL hL hv (w_truthy_bool ⟨fun q => ?_, fun q => ?_⟩) h1 h2 hd)
  · subst q; exact w_Const_bool h
  · subst q; exact w_Const_none h
theorem BL.at {N : Nat} {ns : List Int} (h : BL N 100 ns) : ∀ x ∈ ns, -100 ≤ x ∧ x ≤ 100 := h.2
set_option maxHeartbeats 16000000
theorem spec_lawF (S : Ok C) (told : ToldSpecF C) {R : Result → Led → Prop} {tO uO : Option Addr} {a : Addr} {ns : List Int} (hA : A.depth + 20 < recursionLimit) (hh : A.handled = none) (hu : A.units < 5000) (hfr : A.frames = some []) (hI : Ints C [] a ns) (hn : ns.length ≤ 63)
    (h : ∀ t u, R (.ok (.ret (.bool true))) (TabL 899 lposG lqG t ++ (TabL 207 gposT gqT u ++ l))) :
    CWF C A (TabL 899 lposG lqG tO ++ (TabL 207 gposT gqT uO ++ l)) (.call (.ref 912) ⟨[.ref a], []⟩) R := by
  refine cwf_defC (binds := [("script", .ref a)]) (vs := [("script", .ref a)]) (cl := fun L => [(L + 1, cellP none)]) S.lim (by omega) (S.k 912 _ rfl (by decide) (by decide)) rfl ⟨911, _, _, _, rfl, S.k 911 _ rfl (by decide) (by decide), rfl, rfl⟩ rfl rfl rfl (fun k => ?_) (fun L => ?_) (fun L => rfl) (fun L => rfl) fun L => ?_
  · intro x hx
    rcases List.mem_cons.mp hx with rfl | hx
    · exact .inl rfl
    · cases hx
  · show List.Nodup (["s"] : List Str)
    decide
  have hd1 : ∀ env, (A.deeper env).depth < recursionLimit := fun env => by show A.depth + 1 < _; omega
  refine WF.sub (l' := (L, nsP [("script", .ref a)]) :: (L + 1, cellP none) :: (TabL 899 lposG lqG tO ++ (TabL 207 gposT gqT uO ++ l))) .refl ?_
  refine wf_execs_cons <| WF.of <| w_Assign_Name <| w_Call_Name <| S.glob (v := .ref 890) rfl <| w_callWith_fn (S.k 890 _ rfl (by decide) (by decide)) rfl <| w_items_cons <| w_NameL rfl rfl <| w_items_nil <| spec_seed S (hd1 _) hh hI hn fun sb x hx0 hx1 => w_storeC rfl (by walk_at "rp") ?_
  refine WF.sub (l' := (L, nsP [("script", .ref a)]) :: (L + 1, cellP (some (.ref sb))) :: (sb, sP) :: (TabL 899 lposG lqG tO ++ (TabL 207 gposT gqT uO ++ l))) (.pick1 .head (.pick1 (by walk_at "pk") (.pick (by walk_at "pk") (fun o ho => ⟨x, hx0, hx1, ho⟩) .refl))) ?_
  refine wf_execs_cons <| WF.of <| w_Assign_Name <| w_BinOp <| w_Const_int fun u1 => w_nextCall S (hd1 _) rfl (by walk_at "in") (w_Const_int fun t => ⟨6, t, _, rfl, rfl, by walk_at "pk", by decide, by decide, fun y t' hy0 hy1 => ?_⟩)
  obtain ⟨N, hN⟩ : ∃ N : Nat, 1 + y = N := ⟨(1 + y).toNat, by omega⟩
  refine w_add_int fun u2 => w_storeL rfl ?_
  rw [hN]
  have hN1 : 1 ≤ N := by omega
  have hN6 : N ≤ 6 := by omega
  refine wf_execs_cons <| WF.of <| w_Assign_Swap (names := ["comes", "goes"]) rfl <| w_Tuple_ <| w_items_cons <| w_BinOp <| w_List_ <| w_items_cons <| w_Const_int fun u7 => w_items_nil <| w_newListF (fun z1 => ?_) (by simp [sizeLine_eq])
  refine w_NameL rfl (by walk_at "lk") <| w_mul_list1 (by walk_at "in") (by omega) (by omega) fun c0 => w_items_cons <| w_BinOp <| w_List_ <| w_items_cons <| w_Const_int fun u8 => w_items_nil <| w_newListF (fun z2 => ?_) (by simp [sizeLine_eq])
  refine w_NameL rfl (by walk_at "lk") <| w_mul_list1 (by walk_at "in") (by omega) (by omega) fun g0 => w_items_nil <| w_newSeq (fun tt => ?_) (by simp [sizeLine_eq])
  refine w_unpackItems hh (.tail _ (.head _)) rfl <| w_ord_cons <| w_bindName <| w_storeL rfl <| w_ord_cons <| w_bindName <| w_storeL rfl <| w_ord_nil ?_
  refine WF.sub (l' := LawL L sb c0 g0 _ (List.replicate N 0) (List.replicate N 0) (TabL 899 lposG lqG tO ++ (TabL 207 gposT gqT uO ++ l))) (.pick1 .head (.pick1 (.tail (.tail (.tail (.tail (.tail .head))))) (.pick1 (.tail (.tail (.tail (.tail (.tail .head))))) (.pick (.tail (.tail (.tail .head))) (fun o ho => ⟨_, ints_replicate N u7, ho⟩) (.pick (.tail .head) (fun o ho => ⟨_, ints_replicate N u8, ho⟩) (.skip (.skip (.skip .refl)))))))) ?_
  refine wf_execs_cons <| WF.of <| W.mono (k' := Rows L sb N (TabL 899 lposG lqG tO ++ (TabL 207 gposT gqT uO ++ l))) (e' := noE) ?_ ?_ (fun _ _ z => z.elim)
  · refine w_If <| w_isTrue_Compare1 <| w_nextCall S (hd1 _) rfl (by walk_at "in") (w_Const_int fun t => ⟨4, t, _, rfl, rfl, by walk_at "pk", by decide, by decide, fun y t' h0 h1 => w_Const_int fun u1 => w_eq_int <| w_truthy_bool ⟨fun he => law_A S rfl rfl rfl rfl (hd1 _) hh hN1 hN6 (by walk_at "lk"), fun he => ?_⟩⟩)
    refine w_execs_cons <| W.mono (k' := Rows L sb N (TabL 899 lposG lqG tO ++ (TabL 207 gposT gqT uO ++ l))) (e' := noE) ?_ (fun f l' h => by obtain ⟨rfl, h⟩ := h; exact w_execs_nil ⟨rfl, h⟩) (fun _ _ z => z)
    refine w_If <| w_isTrue_BoolOp <| w_and_cons <| w_isTrue_Compare1 <| w_nextCall S (hd1 _) rfl (by walk_at "in") (w_Const_int fun t => ⟨3, t, _, rfl, rfl, by walk_at "pk", by decide, by decide, fun y t' h0 h1 => w_Const_int fun u1 => w_eq_int <| w_truthy_bool ⟨fun he => w_and_cons <| w_isTrue_Compare1 <| w_NameL rfl (by walk_at "lk") <| w_Const_int fun u5 => w_gt_int <| w_truthy_bool ⟨fun hg => w_and_nil ⟨fun _ => ?_, fun q => (nomatch q)⟩, fun hg => ⟨fun q => (nomatch q), fun _ => ?_⟩⟩, fun he => ⟨fun q => (nomatch q), fun _ => ?_⟩⟩⟩)
    · exact law_B S rfl rfl rfl rfl (hd1 _) hh (by have := of_decide_eq_true hg; omega) hN6 (by walk_at "lk")
    · exact law_C S rfl rfl rfl rfl (hd1 _) hh hN1 hN6 (by walk_at "lk") (by walk_at "lk") (by walk_at "lk")
    · exact law_C S rfl rfl rfl rfl (hd1 _) hh hN1 hN6 (by walk_at "lk") (by walk_at "lk") (by walk_at "lk")
  rintro f l' ⟨rfl, vs, ca, ga, cs, gs, hS, Vc, Vg, hcs, hgs⟩
  refine WF.sub hS ?_
  have hgl : gs.length = N := hgs.1
  have hcl : cs.length = N := hcs.1
  refine wf_execs_cons <| WF.of <| w_Assign_Name <| w_Call_Name <| S.glob (v := .ref 902) rfl <| w_callWith_fn (S.k 902 _ rfl (by decide) (by decide)) rfl <| w_items_cons <| w_NameL rfl Vg <| w_items_cons <| w_NameL rfl Vc <| w_items_nil <| CW.sub (Sub.rot [_, _, _, _, _] _ _) <| spec_good S (by show A.depth + 1 + 2 < _; omega) hh (by omega) (by omega) (by omega) (ag := ga) (ac := ca) (gs := gs) (cs := cs) (by walk_at "in") (by walk_at "in") (fun x hx => by have := hgs.2 x hx; omega) (fun x hx => by have := hcs.2 x hx; omega) fun good t1 hg1 => W.sub (Sub.rot (TabL 899 lposG lqG t1) [_, _, _, _, _] _) <| w_storeL rfl ?_
  rw [hgl] at hg1
  have hfr1 : ∀ env, (A.deeper env).frames = some (env :: []) := fun env => by show A.frames.map (env :: ·) = _; rw [hfr]; rfl
  refine wf_execs_cons <| wf_Assign_Swap (names := ["one", "other"]) rfl <| wf_Tuple_ <| wf_items_cons <| wf_Call_Name <| WF.of <| S.glob (v := .ref 907) rfl <| wf_callWith_fn (S.k 907 _ rfl (by decide) (by decide)) rfl <| WF.of <| w_items_cons <| w_NameL rfl (by walk_at "lk") <| w_items_cons <| w_NameL rfl (by walk_at "lk") <| w_items_nil <| CWF.sub (.pick1 .head (Sub.rotA [_, _, _, _] (TabL 899 lposG lqG t1) (TabL 207 gposT gqT uO) l)) <| told (outer := [(L, _)]) (u := uO) (ca := ca) (ga := ga) (cs := cs) (gs := gs) (N := N) (by show A.depth + 1 + 12 < _; omega) hh (by show A.units + 3 < _; omega) (hfr1 _) ⟨⟨(fun q => by cases q), rfl⟩, trivial⟩ (by walk_at "in") (by walk_at "in") hcl hgl hN1 hN6 hcs.2 hgs.2 fun v1 u1' hv1 hv1' => ?_
  refine vK_ret <| WF.sub (.pick1 .head (Sub.rotB [_, _, _, _] (TabL 899 lposG lqG t1) (TabL 207 gposT gqT u1') l)) ?_
  refine wf_items_cons <| wf_Call_Name <| WF.of <| S.glob (v := .ref 907) rfl <| wf_callWith_fn (S.k 907 _ rfl (by decide) (by decide)) rfl <| WF.of <| w_items_cons <| w_NameL rfl (by walk_at "lk") <| w_items_cons <| w_NameL rfl (by walk_at "lk") <| w_items_nil <| CWF.sub (.pick1 .head (Sub.rotA [_, _, _, _] (TabL 899 lposG lqG t1) (TabL 207 gposT gqT u1') l)) <| told (outer := [(L, _)]) (u := u1') (ca := ga) (ga := ca) (cs := gs) (gs := cs) (N := N) (by show A.depth + 1 + 12 < _; omega) hh (by show A.units + 3 < _; omega) (hfr1 _) ⟨⟨(fun q => by cases q), rfl⟩, trivial⟩ (by walk_at "in") (by walk_at "in") hgl hcl hN1 hN6 hgs.2 hcs.2 fun v2 u2' hv2 hv2' => ?_
  refine vK_ret <| WF.sub (.pick1 .head (Sub.rotB [_, _, _, _] (TabL 899 lposG lqG t1) (TabL 207 gposT gqT u2') l)) ?_
  refine wf_items_nil <| WF.of <| w_newSeq (fun tt => ?_) (by simp [sizeLine_eq])
  refine WF.of <| w_unpackItems hh (.tail _ (.head _)) rfl <| WF.of <| w_ord_cons <| w_bindName <| w_storeL rfl <| w_ord_cons <| w_bindName <| w_storeL rfl <| w_ord_nil ?_
  refine WF.sub (.pick1 .head (.skip .refl)) ?_
  have e1 : v1 = if good then .bool true else .none := by
    cases good with
    | true => exact hv1 (hg1.mp rfl)
    | false => exact hv1' fun q => by have := hg1.mpr q; cases this
  have e2 : v2 = if good then .bool true else .none := by
    cases good with
    | true => exact hv2 (good_swap.mp (hg1.mp rfl))
    | false => exact hv2' fun q => by have := hg1.mpr (good_swap.mp q); cases this
  subst e1 e2
  refine wf_execs_cons <| WF.of <| w_Return <| w_BoolOp_and <| w_Compare1 <| w_NameL rfl (by walk_at "lk") <| w_trueIf (by walk_at "lk") <| w_is_plain (by cases good <;> rfl) <| w_truthy_bool ⟨fun _ => ?_, fun q => ?_⟩
  · refine w_BoolOp_and <| w_Compare1 <| w_NameL rfl (by walk_at "lk") <| w_trueIf (by walk_at "lk") <| w_is_plain (by cases good <;> rfl) <| w_truthy_bool ⟨fun _ => ?_, fun q => ?_⟩
    · refine w_BoolOp_one <| w_Compare1 <| w_Call_Name <| S.glob (v := .ref 902) rfl <| w_callWith_fn (S.k 902 _ rfl (by decide) (by decide)) rfl <| w_items_cons <| w_NameL rfl (by walk_at "lk") <| w_items_cons <| w_NameL rfl (by walk_at "lk") <| w_items_nil <| CW.sub (Sub.rot [_, _, _, _, _] _ _) <| spec_good S (by show A.depth + 1 + 2 < _; omega) hh (by omega) (by omega) (by omega) (ag := ca) (ac := ga) (gs := cs) (cs := gs) (by walk_at "in") (by walk_at "in") (fun x hx => by have := hcs.2 x hx; omega) (fun x hx => by have := hgs.2 x hx; omega) fun good2 t2 hg2 => W.sub (Sub.rot (TabL 899 lposG lqG t2) [_, _, _, _, _] _) <| w_NameL rfl (by walk_at "lk") <| w_eq_bool ?_
      rw [hcl] at hg2
      have e3 : (good2 == good) = true := by
        rw [beq_iff_eq, Bool.eq_iff_iff, hg1, hg2]
        exact good_swap
      rw [e3]
      exact ⟨_, .skip (.skip (.skip (.skip (.skip .refl)))), h t2 u2'⟩
    · cases good <;> cases q
  · cases good <;> cases q
end
end Mine
end
/-! A2 -/
section
open PySem PySem.W PySem.Calls PyProof.Rows
set_option maxRecDepth 100000
set_option linter.all false
namespace Mine
theorem nsIn_some {K : Frag} {h : Heap} {N : Addr} {mg : Str → Option Value} {n : Str} {v : Value} (X : K.In h) (G : h.Ns N mg) (e : nsIn K N n = some (some v)) : mg n = some v := by
  obtain ⟨o, es, ep, ho, hd, _, hf⟩ := G
  unfold nsIn at e
  split at e
  · rename_i c d es' n' sl q
    have := X _ _ q
    rw [ho] at this
    cases this
    cases hd
    split at e
    · rename_i en he
      cases e
      rw [← hf]
      unfold nsFind findBy
      rw [← Array.find?_toList, he]
      rfl
    · split at e <;> cases e
  · cases e
def cx0 (w : World) (s : Shared) : Cx := ⟨w, hideAll s.heap [899, 207], s.os, AllBare⟩
theorem gi0 (w : World) (s : Shared) : GiOk (cx0 w s) := fun a b ha ⟨h1, h2, h3⟩ y hy => by
  obtain ⟨k, hk, e⟩ := Array.mem_iff_getElem.mp hy
  have hb : b[k]? = some y := by rw [Array.getElem?_eq_getElem hk, e]
  rcases Nat.lt_or_ge k a.size with h | h
  · rw [h2 k h] at hb
    exact ha y (Array.mem_of_getElem? hb)
  · exact h3 k y h hb
theorem ok0 {p : Program} {loose : List Str} {mean : ExcName → Option Value} {mg mb : Str → Option Value} {w : World} {s : Shared} (T : Top p loose mean mg mb s.heap) (X : (KK w.params).In s.heap) (t1 : s.heap.get? 899 = some (tabObj #[])) (t2 : s.heap.get? 207 = some (tabObj #[])) : Ok (cx0 w s) := by
  have at' : ∀ b o, b ≠ 899 → b ≠ 207 → s.heap.get? b = some o → (cx0 w s).B.get? b = some o := fun b o h1 h2 e => hideAll_get _ e (by simp [h1, h2])
  have T0 : Top0 (cx0 w s) mg mb := ⟨T.g.at fun o e => at' _ o (by decide) (by decide) e, T.b.at fun o e => at' _ o (by decide) (by decide) e, T.nolimit.at fun o e => at' _ o (by decide) (by decide) e⟩
  refine ⟨fun a o e h1 h2 => at' a o h1 h2 (X a o e), ⟨mg, mb, T0, fun x v e => nsIn_some X T.g e, fun x e => ns_none_of X T.g e, fun x v hx e => by rw [T.builtins x hx]; exact e⟩, ?_⟩
  obtain ⟨bm, ob, h1, h2, h3, h4, h5, h6⟩ := T.bmain
  refine ⟨mg, mb, bm, ob, T0, h1, h2, at' _ _ ?_ ?_ h3, h4, h5, h6⟩
  · rintro rfl; rw [t1] at h3; cases h3; cases h4
  · rintro rfl; rw [t2] at h3; cases h3; cases h4
theorem table_old {s s' : Shared} {P c : Addr} {oc : Obj} {vs : Array Value} {l r : Led} {pos : Pos} {q : Str} {t : Option Addr} {C : Cx} (t1 : s.heap.get? P = some (tabObj #[])) (h1 : s.heap.get? c = some oc) (h2 : oc.cls = .type "code") (h3 : oc.data = .fields vs) (h4 : vs[11]? = some (.ref P))
    (hs : St C (l ++ r) s') (hm : ∀ x ∈ TabL P pos q t, x ∈ l) : ∀ o, s.heap.get? P = some o → asItWas s.heap s'.heap P o ∧ ∃ o', s'.heap.get? P = some o' := fun o ho => by
  rw [t1] at ho
  cases ho
  cases t with
  | none =>
    obtain ⟨o', ho', e⟩ := hs.get (hm _ (.head _))
    subst e
    exact ⟨.inl ho', _, ho'⟩
  | some d =>
    obtain ⟨o', ho', e⟩ := hs.get (hm _ (.head _))
    subst e
    exact ⟨.inr (.inl ⟨⟨c, oc, vs, h1, h2, h3, h4⟩, rfl, #[], #[rawInt pos.line, rawInt pos.col, .ref d], rfl, by rw [ho', Array.empty_append]⟩), _, ho'⟩
abbrev YK (w : World) (h : Heap) : Prop := (KK w.params).In h ∧ h.get? 899 = some (tabObj #[]) ∧ h.get? 207 = some (tabObj #[])
set_option maxHeartbeats 4000000
theorem law_main {w : World} {s₀ s₁ : Shared} {mg mb : Str → Option Value} (G : Ground top.view_1_1 looseK lawR.toRowW.records (XL top.view_1_1 []) w s₀ mg mb s₁.heap) (Y : YK w s₁.heap) (hg : s₁.gens = #[]) {args : List WData} {vals : List Value} {as : List Addr}
    (hpre : lawR.toRowW.claim.pre args = true) (hlay : WData.layableAll args = true) (hrd : ReadsAllW lawR.toRowW.records (classAt s₀.heap) s₁.heap vals args as) (hwl : WellAll w.params s₁.heap vals args) (hlo : ∀ a ∈ as, (a == sysModules) = false) :
    wpF (model lawR.toRowW.prog w) callerA (PySem.call (.ref 912) vals) (fun v s' => GoodWG lawR.toRowW.claim (classAt s₀.heap) (ExcName.means s₀.heap) args s₁ (.ok (.ret v)) s') (fun e s' => GoodWG lawR.toRowW.claim (classAt s₀.heap) (ExcName.means s₀.heap) args s₁ (.error e) s') s₁ := by
  w_on
  wrow_args hpre hlay hrd hwl hlo
  rename_i ns _ _ _ _ _ _ _ a vs _ hL _ _ _ hI _ hcond _
  have hn : ns.length ≤ 63 := by omega
  have t1 : s₁.heap.get? 899 = some (tabObj #[]) := Y.2.1
  have t2 : s₁.heap.get? 207 = some (tabObj #[]) := Y.2.2
  have X : (KK w.params).In s₁.heap := Y.1
  have T := G.T
  have S : Ok (cx0 w s₁) := ok0 T X t1 t2
  have hsm : (s₁.heap.get? sysModules).isSome = true := by
    obtain ⟨_, ⟨_, ⟨o, _, _, ho, _⟩, _⟩, _⟩ := T.seer (by kernel_rfl)
    rw [ho]; rfl
  have hs0 : St (cx0 w s₁) ((TabL 899 lposG lqG none ++ (TabL 207 gposT gqT none ++ [])) ++ []) s₁ := by
    refine ⟨⟨fun b o e => of_hideAll _ e, fun p hp => ?_, by show List.Nodup [899, 207]; decide, ?_⟩, AllBare.of_eq hg, rfl⟩
    · rcases List.mem_cons.mp hp with rfl | hp
      · exact ⟨⟨_, t1, rfl⟩, hideAll_none _ (.head _)⟩
      · rcases List.mem_cons.mp hp with rfl | hp
        · exact ⟨⟨_, t2, rfl⟩, hideAll_none _ (.tail _ (.head _))⟩
        · cases hp
    · obtain ⟨o, ho⟩ := Option.isSome_iff_exists.mp hsm
      rw [show (cx0 w s₁).B.get? sysModules = some o from hideAll_get _ ho (by decide)]
      rfl
  have hLB : (cx0 w s₁).B.IsList a vs.toArray := by
    obtain ⟨o, ho, hc, hd⟩ := hL
    refine ⟨o, hideAll_get _ ho ?_, hc, hd⟩
    intro hm
    rcases List.mem_cons.mp hm with rfl | hm
    · rw [t1] at ho; cases ho; cases hc
    · rcases List.mem_cons.mp hm with rfl | hm
      · rw [t2] at ho; cases ho; cases hc
      · cases hm
  have key := wf_callV (A := callerA) (C := cx0 w s₁) (f := .ref 912) (pos := [.ref a]) (kw := []) (e := noE) (k := fun v l' => v = .bool true ∧ ∃ t u, l' = TabL 899 lposG lqG t ++ (TabL 207 gposT gqT u ++ []))
    (spec_lawF (R := vK (fun v l' => v = .bool true ∧ ∃ t u, l' = TabL 899 lposG lqG t ++ (TabL 207 gposT gqT u ++ [])) noE) (tO := none) (uO := none) (l := []) (ns := ns) S (spec_told S (gi0 w s₁)) (by decide) rfl (by decide) rfl (Ints.old hLB hI) hn fun t u => ⟨rfl, t, u, rfl⟩)
  refine wpF_mono (key [] s₁ hs0) (fun v s' ⟨l', ⟨e1, t, u, e2⟩, hs'⟩ => ?_) fun e s' ⟨_, z, _⟩ => z.elim
  subst e1 e2
  have h899 := table_old (P := 899) (c := 901) (s := s₁) t1 (X 901 _ rfl) rfl rfl rfl hs' fun x hx => List.mem_append_left _ hx
  have h207 := table_old (P := 207) (c := 211) (s := s₁) t2 (X 211 _ rfl) rfl rfl rfl hs' fun x hx => List.mem_append_right _ (List.mem_append_left _ hx)
  have old : ∀ b o, s₁.heap.get? b = some o → asItWas s₁.heap s'.heap b o ∧ ∃ o', s'.heap.get? b = some o' := fun b o ho => by
    by_cases q1 : b = 899
    · subst q1; exact h899 o ho
    · by_cases q2 : b = 207
      · subst q2; exact h207 o ho
      · have := hs'.hp.base b o (hideAll_get _ ho (by simp [q1, q2]))
        exact ⟨.inl this, o, this⟩
  refine ⟨.inl ⟨.bool true, .bool true, [], rfl, fun _ => rfl, .bool _, ?_, fun _ => ⟨List.nodup_nil, fun a h => nomatch h⟩⟩, ⟨fun b o e => (old b o e).1, fun b o e => (old b o e).2⟩, hs'.os, hs'.bare⟩
  exact postW_of (by wrow_shape) (by wtm_val) (by w_fin)
end Mine
end
/-! A3 -/
section
open PySem PySem.W PySem.Calls PyProof.Rows
set_option maxRecDepth 100000
set_option maxHeartbeats 8000000
set_option linter.all false
namespace Mine
theorem law_ok : (chainsOk top.view_1_1 && opensWell lawR.prog && (frees lawR.toRowW && lawR.toRowW.within.isEmpty)) = true := Bool.and_eq_true_iff.mpr ⟨(Bool.and_eq_true_iff.mp top._proof_1_2).1, by decide +kernel⟩
theorem law_promised : PySem.Challenge.rw_fq0028_01.row.toRowW.promised := by
  w_on
  w_witness2
theorem law_bare : lawR.prog.bare := ⟨rfl, rfl, rfl, rfl, rfl, top._proof_1_3⟩
theorem law_row (said : lawR.wellSaid = true) : lawR.Holds := by
  refine holds_F (r := lawR) (q := top.view_1_1) (loose := looseK) (Xt := XtK) (XP := XL top.view_1_1 []) (YP := YK) (N := 17118) left_top (fun w s e => ⟨InK.of asK_eq w s (congrArg (fun x => x.1) e), congrArg (fun x => x.2.1) e, congrArg (fun x => x.2.2) e⟩) (fun w h h' y k => ⟨InK.keeps w h h' y.1 k, k _ _ y.2.1, k _ _ y.2.2⟩)
    (fun s e => xl_of s (Bool.and_eq_true_iff.mp e).1) XL.keeps (by rfl) (by rfl) (by rfl) (fun s e => recFacts_of (Bool.and_eq_true_iff.mp e).2) (by rfl) said law_ok law_bare law_promised ?hc
  case hc =>
    intro w s₀ s₁ mg mb G Y a o pm cd doc dV kV ho hd1 hcd hD hmg hg args vals as hpre hlay hrd hwl hlo
    clear ho hd1 hcd hD
    have h1 : mg (Str.ofString "law") = some (.ref 912) := nsIn_some (Y.1) G.T.g (by rfl)
    have e : a = 912 := by
      have h2 := h1.symm.trans hmg
      exact (Value.ref.inj (Option.some.inj h2)).symm
    subst e
    exact law_main G Y hg hpre hlay hrd hwl hlo
end Mine
end
/-! A4 -/
section
open PySem PySem.W PySem.Calls PyProof.Rows
set_option maxRecDepth 100000 in
set_option maxHeartbeats 8000000 in
theorem PySem.Challenge.cw_fq0028_01_holds : PySem.Challenge.rw_fq0028_01.Holds := by
  w_on
  o_law
  refine Mine.law_row ?_
  assumption
end
