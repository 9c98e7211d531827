import PyProof.Rows.All
import Wide.All
import OpenK.AllK
import Wide.FinOn
import PySem.Challenge.RW_dm0050_01
-- part XR
open PySem PySem.W PySem.W.X PyProof.Rows PySem.Calls PySem.Spec PySem.SeqAt
set_option Elab.async false
set_option maxRecDepth 100000
set_option maxHeartbeats 400000
set_option linter.all false
namespace Mine
section
variable {prog : Program} {w : World} {A : Around} {E : Value → Shared → Prop} {s : Shared} {env : Env}
theorem entry_unchain : entryFor table "proto.unchain" = some Builtin.«proto.unchain» := entryFor_of_tree (by kernel_rfl)

/-- a raise while k is handled, and k has no context of its own -/
theorem w_raiseNew_in {α : Type} {e k : Addr} {ok oe : Obj} {kvs evs : Array Value} {Q : α → Shared → Prop} (hh : A.handled = some (.ref k)) (hne : k ≠ e) (hk : s.heap.get? k = some ok) (hkd : ok.data = .fields kvs) (hk2 : kvs[2]? = some .none)
    (he : s.heap.get? e = some oe) (hed : oe.data = .fields evs) (hsz : 2 < evs.size)
    (h : E (.ref e) { s with heap := s.heap.update e (Obj.mapFields (·.setIfInBounds 2 (.ref k))) }) : wpAny (model prog w) A (raiseNew (.ref e) : Sem α) Q E s := by
  unfold raiseNew
  refine wpAny_bind (wpAny_handled ?_)
  rw [hh]
  dsimp only
  rw [if_pos (by simpa using hne)]
  refine wpAny_bind (wpAny_holding (wpAny_runValue (codeAny_builtin entry_unchain ?_)))
  unfold Builtin.«proto.unchain»
  refine wpAny_bind (wpAny_field hk hkd hk2 ?_)
  rw [if_pos (by decide)]
  refine wpAny_pure ?_
  show wpAny _ A (updateField e 2 (.ref k) >>= fun _ => throw (.ref e)) _ _ _
  unfold updateField
  refine wpAny_bind (wpAny_bind (wpAny_load he ?_))
  rw [hed]
  dsimp only
  rw [if_pos hsz]
  exact wpAny_update he (wpAny_throw h)

/-- raise .. from None, while k is handled -/
theorem w_raiseFrom {cls : String} (F : ExcRaiseFacts cls) {x c : Sem Value} {k : Addr} {Q : Flow → Shared → Prop} (hh : A.handled = some (.ref k)) (hc : ∀ (s : Shared) (Q : Value → Shared → Prop), Q .none s → wpAny (model prog w) A c Q E s)
    (h : wpAny (model prog w) A x (fun v s₁ => ∃ e t ok kvs, v = .ref e ∧ k ≠ e ∧ s₁.heap.get? e = some { cls := .type cls, data := .fields #[.ref t, .none, .none, .none, .bool false, .none] } ∧ s₁.heap.get? k = some ok ∧ ok.data = .fields kvs ∧ kvs[2]? = some .none ∧
      ∀ h', Heap.SameBut e s₁.heap h' → h'.get? e = some { cls := .type cls, data := .fields #[.ref t, .none, .ref k, .none, .bool true, .none] } → E (.ref e) { s₁ with heap := h' }) E s) :
    wpAny (model prog w) A (raiseStmt env (some x) (some c)) Q E s := by
  unfold raiseStmt
  refine wpAny_bind (wpAny_mono h (fun v s₁ h₁ => ?_) fun _ _ x => x)
  obtain ⟨e, t, ok, kvs, rfl, hne, he, hk, hkd, hk2, hE⟩ := h₁
  refine wpAny_bind (wpAny_holding (hc _ _ ?_))
  refine wpAny_bind (wpAny_pure ?_)
  obtain ⟨hp, g, d, tk, os⟩ := s₁
  have hsub := F.isExc
  have hmeta := F.plainMeta
  repeat (first | refine wpAny_loadPart he ?_ | wp_step)
  have he1 := Heap.get?_update_self (Obj.mapFields (·.setIfInBounds 3 Value.none)) he rfl
  have he2 := Heap.get?_update_self (Obj.mapFields (·.setIfInBounds 4 (Value.bool true))) he1 rfl
  refine w_raiseNew_in hh hne ((Heap.get?_update_other _ _ (Ne.symm hne)).trans ((Heap.get?_update_other _ _ (Ne.symm hne)).trans hk)) hkd hk2 he2 rfl (by show (2 : Nat) < 6; decide) ?_
  exact hE _ (((Heap.SameBut.update ..).trans (Heap.SameBut.update ..)).trans (Heap.SameBut.update ..)) (Heap.get?_update_self _ he2 rfl)
end
end Mine

-- part Lg
open PySem PySem.W PyProof.Rows PySem.Calls
set_option Elab.async false
namespace Mine

/-! the ledger: what the call has made, address by address, each with a word about the object there -/
abbrev Cell := Obj → Prop
abbrev Ledger := List (Addr × Cell)
abbrev GLedger := List (Nat × (GenState → Prop))

structure St (b s : Shared) (L : Ledger) (G : GLedger) : Prop where
  keep : ∀ a o, b.heap.get? a = some o → s.heap.get? a = some o
  own : ∀ p ∈ L, b.heap.get? p.1 = none ∧ ∃ o, s.heap.get? p.1 = some o ∧ p.2 o
  nodup : (L.map (·.1)).Nodup
  os : s.os = b.os
  bare : AllBare s.gens
  gens : ∀ p ∈ G, ∃ gs, s.gens[p.1]? = some gs ∧ p.2 gs
  gnodup : (G.map (·.1)).Nodup

inductive Upd {α β : Type} : List (α × β) → α → β → List (α × β) → Prop
  | head {a P P' r} : Upd ((a, P) :: r) a P' ((a, P') :: r)
  | tail {e a P' r r'} : Upd r a P' r' → Upd (e :: r) a P' (e :: r')

theorem Upd.keys {α β : Type} {L L' : List (α × β)} {a : α} {P' : β} (u : Upd L a P' L') : L'.map (·.1) = L.map (·.1) := by
  induction u with
  | head => rfl
  | tail _ ih => simp [ih]
theorem Upd.has {α β : Type} {L L' : List (α × β)} {a : α} {P' : β} (u : Upd L a P' L') : ∃ P, (a, P) ∈ L := by
  induction u with
  | head => exact ⟨_, .head _⟩
  | tail _ ih => exact let ⟨P, h⟩ := ih; ⟨P, .tail _ h⟩
theorem Upd.mem {α β : Type} {L L' : List (α × β)} {a : α} {P' : β} (u : Upd L a P' L') (hn : (L.map (·.1)).Nodup) : ∀ p ∈ L', p = (a, P') ∨ (p ∈ L ∧ p.1 ≠ a) := by
  induction u with
  | @head a P P' r =>
    intro p hp
    rcases List.mem_cons.mp hp with rfl | hp
    · exact .inl rfl
    · refine .inr ⟨.tail _ hp, fun e => ?_⟩
      have := (List.nodup_cons.mp hn).1
      exact this (List.mem_map.mpr ⟨p, hp, e⟩)
  | @tail e a P' r r' u ih =>
    intro p hp
    rcases List.mem_cons.mp hp with rfl | hp
    · by_cases h : p.1 = a
      · exfalso
        obtain ⟨P, hm⟩ := u.has
        exact (List.nodup_cons.mp hn).1 (List.mem_map.mpr ⟨_, hm, h.symm⟩)
      · exact .inr ⟨.head _, h⟩
    · rcases ih (List.nodup_cons.mp hn).2 p hp with h | ⟨h, h'⟩
      · exact .inl h
      · exact .inr ⟨.tail _ h, h'⟩

section
variable {b s s' : Shared} {L L' : Ledger} {G G' : GLedger}

theorem St.get (S : St b s L G) {a : Addr} {P : Cell} (h : (a, P) ∈ L) : ∃ o, s.heap.get? a = some o ∧ P o := (S.own _ h).2
theorem St.lt (S : St b s L G) {a : Addr} {P : Cell} (h : (a, P) ∈ L) : a < s.heap.objs.size := let ⟨_, e, _⟩ := S.get h; Heap.lt_size e

theorem St.keeps (S : St b s L G) (hk : ∀ a o, s.heap.get? a = some o → s'.heap.get? a = some o) (hg : s'.gens = s.gens := by rfl) (ho : s'.os = s.os := by rfl) : St b s' L G :=
  ⟨fun a o e => hk a o (S.keep a o e), fun p hp => ⟨(S.own p hp).1, let ⟨o, e, h⟩ := (S.own p hp).2; ⟨o, hk _ _ e, h⟩⟩, S.nodup, ho.trans S.os, hg ▸ S.bare, fun p hp => hg ▸ S.gens p hp, S.gnodup⟩

theorem St.new (S : St b s L G) {a : Addr} {o : Obj} {P : Cell} (hn : s.heap.get? a = none) (hk : ∀ a o, s.heap.get? a = some o → s'.heap.get? a = some o) (ha : s'.heap.get? a = some o) (hP : P o)
    (hg : s'.gens = s.gens := by rfl) (ho : s'.os = s.os := by rfl) : St b s' ((a, P) :: L) G := by
  have S' := S.keeps hk hg ho
  have hb : b.heap.get? a = none := by
    cases e : b.heap.get? a with
    | none => rfl
    | some o' => rw [S.keep _ _ e] at hn; cases hn
  refine ⟨S'.keep, fun p hp => ?_, ?_, S'.os, S'.bare, S'.gens, S'.gnodup⟩
  · rcases List.mem_cons.mp hp with rfl | hp
    · exact ⟨hb, o, ha, hP⟩
    · exact S'.own p hp
  · refine List.nodup_cons.mpr ⟨fun hm => ?_, S.nodup⟩
    obtain ⟨p, hp, rfl⟩ := List.mem_map.mp hm
    obtain ⟨_, o', e, _⟩ := S.own p hp
    rw [hn] at e; cases e

theorem heap_get_size (h : Heap) : h.get? h.objs.size = none := by
  cases e : h.get? h.objs.size with
  | none => rfl
  | some o => exact absurd (Heap.lt_size e) (Nat.lt_irrefl _)

theorem St.alloc (S : St b s L G) {o : Obj} {P : Cell} (hP : P o) (tk : Nat := s.toks) (hf : o.isFreed = false := by rfl) : St b { s with heap := s.heap.push o, toks := tk } ((s.heap.objs.size, P) :: L) G :=
  S.new (heap_get_size _) (fun _ _ e => Heap.get?_push_of_some _ e) (Heap.get?_push_size _ hf) hP

theorem St.sub (S : St b s L G) (h : L'.Sublist L) : St b s L' G :=
  ⟨S.keep, fun p hp => S.own p (h.subset hp), (h.map _).nodup S.nodup, S.os, S.bare, S.gens, S.gnodup⟩
theorem St.perm (S : St b s L G) (h : L'.Perm L) : St b s L' G :=
  ⟨S.keep, fun p hp => S.own p (h.subset hp), (h.map _).nodup_iff.mpr S.nodup, S.os, S.bare, S.gens, S.gnodup⟩
theorem St.gsub (S : St b s L G) (h : G'.Sublist G) : St b s L G' :=
  ⟨S.keep, S.own, S.nodup, S.os, S.bare, fun p hp => S.gens p (h.subset hp), (h.map _).nodup S.gnodup⟩

theorem St.set (S : St b s L G) {a : Addr} {P' : Cell} (u : Upd L a P' L') (ha : ∃ P, (a, P) ∈ L) {h' : Heap} (hs : Heap.ExtBut a s.heap h') {o : Obj} (hget : h'.get? a = some o) (hP : P' o) (tk : Nat := s.toks) :
    St b { s with heap := h', toks := tk } L' G := by
  obtain ⟨P, hm⟩ := ha
  have hb := (S.own _ hm).1
  refine ⟨fun c oc e => hs c oc (fun h => ?_) (S.keep c oc e), fun p hp => ?_, by rw [u.keys]; exact S.nodup, S.os, S.bare, S.gens, S.gnodup⟩
  · subst h; rw [hb] at e; cases e
  · rcases u.mem S.nodup p hp with rfl | ⟨h, hne⟩
    · exact ⟨hb, o, hget, hP⟩
    · obtain ⟨h1, op, e, hq⟩ := S.own p h
      exact ⟨h1, op, hs _ _ hne e, hq⟩


theorem St.weaken (S : St b s L G) {a : Addr} {P' : Cell} (u : Upd L a P' L') (hP : ∀ P o, (a, P) ∈ L → P o → P' o) : St b s L' G := by
  obtain ⟨P, hm⟩ := u.has
  obtain ⟨o, e, h⟩ := S.get hm
  exact S.set u ⟨P, hm⟩ (Heap.ExtBut.refl _ _) e (hP P o hm h)
end

/-! values, by what is known of them -/
abbrev VP := Value → Prop
def vE (v : Value) : VP := fun y => y = v
def vI (i : Int) : VP := fun y => ∃ t, y = .int i t
def vS (x : Str) : VP := fun y => ∃ t, y = .str x t

/-! a frame, by the names that are known in it -/
def frC (fl : List (Str × VP)) : Cell := fun o => ∃ es ep, o.data = .dict es ep ∧ StrKeys es ∧ ∀ p ∈ fl, ∃ v, nsFind es p.1 = some v ∧ p.2 v

theorem frC_ns {fl : List (Str × VP)} {h : Heap} {a : Addr} {o : Obj} (ho : h.get? a = some o) (hc : frC fl o) : ∃ m, h.Ns a m ∧ ∀ p ∈ fl, ∃ v, m p.1 = some v ∧ p.2 v :=
  let ⟨es, ep, hd, hk, hf⟩ := hc
  ⟨fun x => nsFind es x, ⟨o, es, ep, ho, hd, hk, fun _ => rfl⟩, hf⟩
theorem frC_of {fl : List (Str × VP)} {h : Heap} {a : Addr} {m : Str → Option Value} (hn : h.Ns a m) (hf : ∀ p ∈ fl, ∃ v, m p.1 = some v ∧ p.2 v) : ∃ o, h.get? a = some o ∧ frC fl o :=
  let ⟨o, es, ep, ho, hd, hk, hm⟩ := hn
  ⟨o, ho, es, ep, hd, hk, fun p hp => let ⟨v, e, hv⟩ := hf p hp; ⟨v, (hm _).trans e, hv⟩⟩

/-- a name stored -/
inductive SetN : List (Str × VP) → Str → VP → List (Str × VP) → Prop
  | nil {x P} : SetN [] x P [(x, P)]
  | hit {x P P' r} (h : (r.all fun p => !(p.1 == x)) = true) : SetN ((x, P) :: r) x P' ((x, P') :: r)
  | skip {y P x P' r r'} (h : (y == x) = false) : SetN r x P' r' → SetN ((y, P) :: r) x P' ((y, P) :: r')
theorem SetN.mem {fl fl' : List (Str × VP)} {x : Str} {P' : VP} (u : SetN fl x P' fl') : ∀ p ∈ fl', p = (x, P') ∨ (p ∈ fl ∧ p.1 ≠ x) := by
  induction u with
  | nil => intro p hp; exact .inl (List.mem_singleton.mp hp)
  | @hit x P P' r h =>
    intro p hp
    rcases List.mem_cons.mp hp with rfl | hp
    · exact .inl rfl
    · refine .inr ⟨.tail _ hp, fun e => ?_⟩
      have := List.all_eq_true.mp h p hp
      simp [e] at this
  | @skip y P₀ x P' r r' h u ih =>
    intro p hp
    rcases List.mem_cons.mp hp with rfl | hp
    · exact .inr ⟨.head _, by simpa using h⟩
    · rcases ih p hp with h | ⟨h, h'⟩
      · exact .inl h
      · exact .inr ⟨.tail _ h, h'⟩

section
variable {prog : Program} {w : World} {A : Around} {E : Value → Shared → Prop} {b s : Shared} {L L' : Ledger} {G : GLedger} {env : Env}

theorem r_load {x : Str} {fl : List (Str × VP)} {P : VP} {Q : Value → Shared → Prop} (S : St b s L G) (hf : (env.locals, frC fl) ∈ L) (hx : (x, P) ∈ fl) (h : ∀ v, P v → Q v s)
    (hk : env.scope.kind = .function := by kernel_rfl) (hl : env.kindOf x = some .local := by kernel_rfl) : wpAny (model prog w) A (loadName env x) Q E s := by
  obtain ⟨o, ho, hc⟩ := S.get hf
  obtain ⟨m, hn, hm⟩ := frC_ns ho hc
  obtain ⟨v, e, hv⟩ := hm _ hx
  exact wpAny_loadName_local hk hl hn e (h v hv)

theorem r_store {x : Str} {fl fl' : List (Str × VP)} {v : Value} {P : VP} {Q : Unit → Shared → Prop} (S : St b s L G) (hf : (env.locals, frC fl) ∈ L) (hv : P v) (hs : SetN fl x P fl') (hu : Upd L env.locals (frC fl') L')
    (h : ∀ s', St b s' L' G → Q () s') (hl : env.kindOf x = some .local := by kernel_rfl)
    (hp : (env.scope.kind == .class || (env.scope.kind == .module && env.locals != env.globals)) = false := by kernel_rfl) : wpAny (model prog w) A (storeName env x v) Q E s := by
  obtain ⟨o, ho, hc⟩ := S.get hf
  obtain ⟨m, hn, hm⟩ := frC_ns ho hc
  refine wpAny_storeName_local hl hn (fun h' hn' hsb => ?_) hp
  obtain ⟨o', ho', hc'⟩ := frC_of (fl := fl') hn' (fun p hp => by
    rcases hs.mem p hp with rfl | ⟨hp', hne⟩
    · exact ⟨v, by simp, hv⟩
    · obtain ⟨u, e, hu⟩ := hm p hp'
      exact ⟨u, by simp [hne, e], hu⟩)
  exact h _ (S.set hu ⟨_, hf⟩ hsb.extBut ho' hc' _)
end
end Mine

-- part Lg2
open PySem PySem.W PyProof.Rows PySem.Calls
set_option Elab.async false
set_option maxRecDepth 100000
namespace Mine

/-- what is known of the heap ahead of the call -/
structure Bs (b : Shared) (mg mb : Str → Option Value) (names : List Str) : Prop where
  g : b.heap.Ns mainGlobals mg
  bn : b.heap.Ns builtinsNs mb
  nolimit : b.heap.NoLimit
  builtins : ∀ x : Str, x ≠ "__name__" → mb x = bootBuiltins x
  free : ∀ x : Str, x ∉ names → mg x = none

/-- a def of the text's, at its place -/
structure FnAt (b : Shared) (mg : Str → Option Value) (f : Addr) (name : Str) (params : Arguments) (body : List Stmt) (scope : Scope) (cd : Value) : Prop where
  at_ : mg name = some (.ref f)
  obj : ∃ o pm doc, b.heap.get? f = some o ∧ o.data = .func (docDef name params body scope pm cd doc)
  code : b.heap.CodeRec cd name

abbrev lstObj (vs : Array Value) (n : Nat) : Obj := { cls := .type "list", data := .seq vs n }
abbrev tupObj (vs : Array Value) (n : Nat) : Obj := { cls := .type "tuple", data := .seq vs n }
def lstV (vs : List Value) : Cell := fun o => ∃ n, o = lstObj vs.toArray n
def tupV (vs : List Value) : Cell := fun o => ∃ n, o = tupObj vs.toArray n
def tupS (ys : List Str) : Cell := fun o => ∃ vs n, o = tupObj vs n ∧ StrsAre vs.toList ys
def lstS (ys : List Str) : Cell := fun o => ∃ vs n, o = lstObj vs n ∧ StrsAre vs.toList ys
theorem lst_push {vs : Array Value} {n : Nat} (f : Array Value → Array Value) : ∃ n', (lstObj vs n).mapSeq f = lstObj (f vs) n' := ⟨_, rfl⟩

section
variable {prog : Program} {w : World} {A : Around} {E : Value → Shared → Prop} {b s : Shared} {L L' : Ledger} {G : GLedger} {env : Env} {mg mb : Str → Option Value} {names : List Str}

theorem St.push (S : St b s L G) (o : Obj) (tk : Nat) : St b { s with heap := s.heap.push o, toks := tk } L G := S.keeps fun _ _ e => Heap.get?_push_of_some _ e
theorem St.toks (S : St b s L G) (tk : Nat) : St b { s with toks := tk } L G := S.keeps fun _ _ e => e
theorem St.tup (S : St b s L G) {a : Addr} {ys : List Str} (h : (a, tupS ys) ∈ L) : ∃ vs, IsTup s.heap a vs ∧ StrsAre vs.toList ys :=
  let ⟨_, e, vs, n, ho, hs⟩ := S.get h; ⟨vs, ⟨_, ho ▸ e, rfl, n, rfl⟩, hs⟩
theorem St.lst (S : St b s L G) {a : Addr} {ys : List Str} (h : (a, lstS ys) ∈ L) : ∃ vs, s.heap.IsList a vs ∧ StrsAre vs.toList ys :=
  let ⟨_, e, vs, n, ho, hs⟩ := S.get h; ⟨vs, ⟨_, ho ▸ e, rfl, n, rfl⟩, hs⟩
theorem St.lstv (S : St b s L G) {a : Addr} {vs : List Value} (h : (a, lstV vs) ∈ L) : s.heap.IsList a vs.toArray :=
  let ⟨_, e, n, ho⟩ := S.get h; ⟨_, ho ▸ e, rfl, n, rfl⟩

theorem r_name {x : Str} {pos : Pos} {fl : List (Str × VP)} {P : VP} {Q : Value → Shared → Prop} (S : St b s L G) (hf : (env.locals, frC fl) ∈ L) (hx : (x, P) ∈ fl) (h : ∀ v, P v → Q v s)
    (hk : env.scope.kind = .function := by kernel_rfl) (hl : env.kindOf x = some .local := by kernel_rfl) (hd : (x == ("__debug__" : Str)) = false := by decide) :
    wpAny (model prog w) A (eval (.Name x pos) env) Q E s := wpAny_Name (r_load S hf hx h hk hl) hd
theorem r_bname {x : Str} {pos : Pos} {v : Value} {Q : Value → Shared → Prop} (B : Bs b mg mb names) (S : St b s L G) (hv : bootBuiltins x = some v) (h : Q v s)
    (hfree : x ∉ names := by decide) (hn : x ≠ "__name__" := by decide) (hg : env.globals = mainGlobals := by kernel_rfl) (hb : env.builtins = builtinsNs := by kernel_rfl)
    (hk : env.scope.kind = .function := by kernel_rfl) (hx : env.kindOf x = some .globalImplicit := by kernel_rfl) (hd : (x == ("__debug__" : Str)) = false := by decide) :
    wpAny (model prog w) A (eval (.Name x pos) env) Q E s :=
  Name_function_global hk hx (loadGlobal_builtin (hg ▸ B.g.keeps S.keep) (B.free x hfree) (hb ▸ B.bn.keeps S.keep) ((B.builtins x hn).trans hv) h) hd
theorem r_gname {x : Str} {pos : Pos} {v : Value} {Q : Value → Shared → Prop} (B : Bs b mg mb names) (S : St b s L G) (hv : mg x = some v) (h : Q v s)
    (hg : env.globals = mainGlobals := by kernel_rfl) (hk : env.scope.kind = .function := by kernel_rfl) (hx : env.kindOf x = some .globalImplicit := by kernel_rfl) (hd : (x == ("__debug__" : Str)) = false := by decide) :
    wpAny (model prog w) A (eval (.Name x pos) env) Q E s :=
  Name_function_global hk hx (loadGlobal_global (hg ▸ B.g.keeps S.keep) hv h) hd

theorem r_int {i : Int} {k : Nat} {pos : Pos} {Q : Value → Shared → Prop} (S : St b s L G) (h : ∀ t s', St b s' L G → Q (.int i t) s') : wpAny (model prog w) A (eval (.Constant (.int i) k pos) env) Q E s :=
  wpAny_Constant_int (h _ _ (S.toks _))
theorem r_str {x : Str} {k : Nat} {pos : Pos} {Q : Value → Shared → Prop} (S : St b s L G) (h : ∀ t s', St b s' L G → Q (.str x t) s') : wpAny (model prog w) A (eval (.Constant (.str x) k pos) env) Q E s :=
  Constant_str (h _ _ (S.toks _))

theorem r_newList {vs : List Value} {P : Cell} {Q : Value → Shared → Prop} (S : St b s L G) (hP : P (lstObj vs.toArray 0)) (h : ∀ a s', St b s' ((a, P) :: L) G → Q (.ref a) s') (hz : vs.length ≤ sizeLine := by first | decide | size_fits) :
    wpAny (model prog w) A (newList vs) Q E s :=
  wpAny_newObj_type (h _ _ (S.alloc hP)) (by show vs.toArray.size ≤ sizeLine; rw [List.size_toArray]; exact hz)
theorem r_newTuple {vs : List Value} {P : Cell} {Q : Value → Shared → Prop} (S : St b s L G) (hP : P (tupObj vs.toArray 0)) (h : ∀ a s', St b s' ((a, P) :: L) G → Q (.ref a) s') (hz : vs.length ≤ sizeLine := by first | decide | size_fits) :
    wpAny (model prog w) A (newTuple vs) Q E s :=
  wpAny_newObj_type (h _ _ (S.alloc hP)) (by show vs.toArray.size ≤ sizeLine; rw [List.size_toArray]; exact hz)
theorem lstV_mk {vs : List Value} : lstV vs (lstObj vs.toArray 0) := ⟨0, rfl⟩
theorem lstS_mk {vs : List Value} {ys : List Str} (hs : StrsAre vs ys) : lstS ys (lstObj vs.toArray 0) := ⟨_, 0, rfl, by simpa using hs⟩
theorem tupS_mk {vs : List Value} {ys : List Str} (hs : StrsAre vs ys) : tupS ys (tupObj vs.toArray 0) := ⟨_, 0, rfl, by simpa using hs⟩
theorem tupV_mk {vs : List Value} : tupV vs (tupObj vs.toArray 0) := ⟨0, rfl⟩

theorem r_slice_ns {value : Expr} {p pos : Pos} {upper : Expr} {Q : Value → Shared → Prop}
    (h : wpAny (model prog w) A (eval value env) (fun o s₁ => ∃ x t, o = .str x t ∧ x.length ≤ sizeLine ∧ wpAny (model prog w) A (eval upper env) (fun u s₂ => ∃ j tj, u = .int j tj ∧
      ∃ L G, St b s₂ L G ∧ ∀ s' t', St b s' L G → Q (.str (Txt.slice x none (some j)) t') s') E s₁) E s)
    (ht : ∀ o r, letTemporaryGo value o r = pure () := by intro _ _; rfl) :
    wpAny (model prog w) A (eval (.Subscript value (.Slice none (some upper) none p) pos) env) Q E s := by
  refine wpAny_Subscript_str_slice (wpAny_mono h (fun o s₁ h₁ => ?_) fun _ _ x => x) ht
  obtain ⟨x, t, rfl, hx, h₁⟩ := h₁
  refine wpAny_evalPart_none (wpAny_evalPart_some (wpAny_mono h₁ (fun u s₂ h₂ => ?_) fun _ _ x => x))
  obtain ⟨j, tj, rfl, L, G, S, hQ⟩ := h₂
  refine ⟨x, t, none, some (j, tj), rfl, rfl, rfl, ?_⟩
  exact post_val_or_str ⟨Nat.le_trans (Txt.slice_le x none (some j)) hx, fun t' k => hQ _ t' (S.push _ k)⟩
theorem r_slice_sn {value : Expr} {p pos : Pos} {lower : Expr} {Q : Value → Shared → Prop}
    (h : wpAny (model prog w) A (eval value env) (fun o s₁ => ∃ x t, o = .str x t ∧ x.length ≤ sizeLine ∧ wpAny (model prog w) A (eval lower env) (fun u s₂ => ∃ j tj, u = .int j tj ∧
      ∃ L G, St b s₂ L G ∧ ∀ s' t', St b s' L G → Q (.str (Txt.slice x (some j) none) t') s') E s₁) E s)
    (ht : ∀ o r, letTemporaryGo value o r = pure () := by intro _ _; rfl) :
    wpAny (model prog w) A (eval (.Subscript value (.Slice (some lower) none none p) pos) env) Q E s := by
  refine wpAny_Subscript_str_slice (wpAny_mono h (fun o s₁ h₁ => ?_) fun _ _ x => x) ht
  obtain ⟨x, t, rfl, hx, h₁⟩ := h₁
  refine wpAny_evalPart_some (wpAny_mono h₁ (fun u s₂ h₂ => ?_) fun _ _ x => x)
  obtain ⟨j, tj, rfl, L, G, S, hQ⟩ := h₂
  refine wpAny_evalPart_none ?_
  refine ⟨x, t, some (j, tj), none, rfl, rfl, rfl, ?_⟩
  exact post_val_or_str ⟨Nat.le_trans (Txt.slice_le x (some j) none) hx, fun t' k => hQ _ t' (S.push _ k)⟩
end
end Mine

-- part RG
open PySem PySem.W PySem.W.X PyProof.Rows PySem.Calls
set_option Elab.async false
set_option maxRecDepth 100000
namespace Mine

/-! the text's own parts, by their places -/
def rDef : Stmt := match PySem.Challenge.pw_dm0050_01.main.body with | _ :: d :: _ => d | _ => .Pass default
def rBody : List Stmt := match rDef with | .FunctionDef _ _ b .. => b | _ => []
def rScope : Scope := match rDef with | .FunctionDef _ _ _ _ _ _ sc .. => sc | _ => default
def rParams : Arguments := match rDef with | .FunctionDef _ a .. => a | _ => default
def rForS : Stmt := match rBody with | [_, _, f] => f | _ => .Pass default
def rTarget : Expr := match rForS with | .For t .. => t | _ => default
def rLoop : List Stmt := match rForS with | .For _ _ b .. => b | _ => []
def rTest : Expr := match rLoop with | [.If t ..] => t | _ => default
def rYield : Expr := match rLoop with | [.If _ [.Expr (.Yield (some e) _) _] ..] => e | _ => default

abbrev rEnv (C f : Addr) (cd : Value) : Env := envOf "restore" rScope C f cd
abbrev FL (it : Value) (env : Env) : Code := .forLoop rTarget it rLoop [] env

section
variable {prog : Program} {w : World} {A : Around} {s : Shared} {P : End → Shared → Prop} {c : Code} {fs : List Frame}

theorem sx_wrap {α : Type} {m : Sem α} {K : α → Sem Fin} {H : Value → Sem Fin} {gd lv}
    (h : wpAny (model prog w) (A.over c fs) m (fun a s' => SegX (model prog w) A c (K a) fs s' P) (fun x s' => SegX (model prog w) A c (H x) fs s' P) s) :
    SegX (model prog w) A c (m.wrap K H gd lv) fs s P := by
  rintro Γ p rfl hΓ
  obtain ⟨e, s', hr, hq⟩ := runs_wrap_of_wp (Φ := fun e s' => e.quiet = true ∧ P e s') K H gd lv m (h (Γ.over fs) p (hΓ.over fs)) (fun a p' s' h' => h' Γ p' rfl hΓ) (fun x p' s' h' => h' Γ p' rfl hΓ)
  exact ⟨e, s', hr, hq⟩
theorem sx_at {q : Pos} {k : Unit → Sem Fin} (h : SegX (model prog w) A c (k ()) fs s P) : SegX (model prog w) A c (.at q k) fs s P :=
  s_skim prog w A c fs P s (.at q k) 1 h
theorem sx_point {l : List Value} {k : Unit → Sem Fin} (h : SegX (model prog w) A c (k ()) fs s P) : SegX (model prog w) A c (.point l k) fs s P :=
  s_skim prog w A c fs P s (.point l k) 1 h
theorem bind_wrap {α β γ : Type} (m : Sem α) (f : α → Sem β) (K : β → Sem γ) (H : Value → Sem γ) (gd lv) : (m >>= f).wrap K H gd lv = m.wrap (fun a => (f a).wrap K H gd lv) H gd lv := by
  rw [Sem.bind_eq_wrap', Sem.wrap_wrap]; rfl
end

/-- the frame of the def under its loop -/
def fsR (env : Env) (p : Pos) : List Frame :=
  [.ret (fun r => ((match r with | .ok f => (.pure f : Sem Flow) | .error e => .raise e).onRaise fun (x : Value) => do
        if (← field x 1) == Value.none then unsupported "frame.own-activation:exception-without-traceback"
        setFlight x env.frame).wrap (fun (f : Flow) => match f with | .next => (execs [] env).wrap (fun (f : Flow) => .pure (.done (.ret (match f with | .ret v => v | _ => .none)))) (fun e => (leaving env e).wrap (fun _ => .raise e) .raise id id) id id | f => .pure (.done (.ret (match f with | .ret v => v | _ => .none))))
          (fun e => (leaving env e).wrap (fun _ => .raise e) .raise id id) id id) none false [] (.func rBody env) p []]

def AtLoop (it : Value) (env : Env) (gs : GenState) : Prop :=
  ∃ k l p p', gs = .suspended k l (FL it env) p (fsR env p') false ∧ k (.send .none) = .pure (.again (FL it env))

section
variable {prog : Program} {w : World} {A : Around} {s : Shared} {P : End → Shared → Prop} {env : Env}

theorem sx_done {c : Code} {p : Pos} (h : P (.ret (.ok (.ret .none))) s) : SegX (model prog w) A c (leafOf (.ok .next)) (fsR env p) s P := by
  refine s_pop _ _ _ _ _ _ s (.ok .next) _ rfl _ _ _ _ _ _ _ ?_
  exact s_end _ _ _ _ _ s (.ok (.ret .none)) _ rfl h

def rRaise (env : Env) (x : Value) : Sem Fin := (do noteFrame x env; theTreesLotGoes x : Sem Unit).bind fun _ => .raise x

theorem rLoop_eq : ∃ a b c, rLoop = [.If rTest [.Expr (.Yield (some rYield) a) b] [] c] := ⟨_, _, _, rfl⟩

/-- one turn of the loop -/
theorem sx_turn {it : Value} {p : Pos}
    (h : wpAny (model prog w) (A.over (FL it env) (fsR env p)) (pyNext it) (fun r s₁ => match r with
      | none => P (.ret (.ok (.ret .none))) s₁
      | some v => wpAny (model prog w) (A.over (FL it env) (fsR env p)) (assign rTarget env v) (fun _ s₂ =>
          wpAny (model prog w) (A.over (FL it env) (fsR env p)) (isTrue rTest env (eval rTest env)) (fun b s₃ =>
            if b = true then wpAny (model prog w) (A.over (FL it env) (fsR env p)) (eval rYield env) (fun y s₄ =>
                ∀ e : End, AtLoop it env e.genState → e.genState.bare = true → e.result = .yielded y → P e s₄)
                (fun x s₄ => SegX (model prog w) A (FL it env) (rRaise env x) (fsR env p) s₄ P) s₃
            else SegX (model prog w) A (FL it env) (.pure (.again (FL it env))) (fsR env p) s₃ P)
            (fun x s₃ => SegX (model prog w) A (FL it env) (rRaise env x) (fsR env p) s₃ P) s₂)
            (fun x s₂ => SegX (model prog w) A (FL it env) (rRaise env x) (fsR env p) s₂ P) s₁)
      (fun x s₁ => SegX (model prog w) A (FL it env) (rRaise env x) (fsR env p) s₁ P) s)
    (hco : env.scope.isCoroutine = false := by rfl) (hi : interactive env = false := by rfl) :
    SegX (model prog w) A (FL it env) (denote table (FL it env)) (fsR env p) s P := by
  show SegX _ A _ ((forTurn rTarget it rLoop [] env).onRaise (fun x => do noteFrame x env; theTreesLotGoes x)) _ s P
  unfold forTurn
  rw [Sem.onRaise_eq_wrap, bind_wrap]
  refine sx_wrap (wpAny_standAt ?_)
  rw [bind_wrap]
  refine sx_wrap (wpAny_onRaise (wpAny_mono h (fun r s₁ h₁ => ?_) fun x s₁ hx => wpAny_standAt hx))
  cases r with
  | none =>
    refine s_again _ _ _ _ _ _ s₁ _ rfl ?_
    exact sx_done h₁
  | some v =>
    show SegX _ A _ (Sem.wrap _ _ _ _ (letOwnedTupleGo rTarget it v >>= fun _ => (assign rTarget env v >>= fun _ => execs rLoop env >>= _))) _ _ _
    rw [bind_wrap]
    refine sx_wrap (wpAny_of_eq (a := ()) rfl ?_)
    rw [bind_wrap]
    refine sx_wrap (wpAny_mono h₁ (fun _ s₂ h₂ => ?_) fun _ _ x => x)
    rw [bind_wrap]
    obtain ⟨ya, yb, yc, hloop⟩ := rLoop_eq
    have hx : execs rLoop env = execs [.If rTest [.Expr (.Yield (some rYield) ya) yb] [] yc] env := by rw [hloop]
    rw [hx, execs_cons_wrap]
    show SegX _ A _ (Sem.wrap _ _ _ _ (standAt yc >>= fun _ => (isTrue rTest env (eval rTest env) >>= fun b => if b = true then execs [.Expr (.Yield (some rYield) ya) yb] env else execs [] env))) _ _ _
    rw [bind_wrap]
    refine sx_wrap (wpAny_standAt ?_)
    rw [bind_wrap]
    refine sx_wrap (wpAny_mono h₂ (fun bb s₃ h₃ => ?_) fun _ _ x => x)
    cases bb with
    | false => rw [if_neg Bool.false_ne_true] at h₃; exact h₃
    | true =>
      rw [if_pos rfl] at h₃
      rw [if_pos rfl, execs_cons_wrap, exec_Expr env _ yb hi rfl]
      show SegX _ A _ (.at yb fun _ => ((eval rYield env >>= fun v => (standAt ya >>= fun _ => yieldOut env v)) >>= fun x => dropValue (.Yield (some rYield) ya) yb x).wrap _ _ _ _) _ _ _
      have hy : ∀ v, yieldOut env v = yieldValue v := fun v => by simp only [yieldOut, hco, Bool.false_eq_true, if_false]
      simp only [hy]
      refine sx_at ?_
      rw [bind_wrap, bind_wrap]
      refine sx_wrap (wpAny_mono h₃ (fun y s₄ h₄ => ?_) fun _ _ x => x)
      refine sx_at (s_yield _ _ _ _ _ _ _ _ _ _ rfl rfl fun q => h₄ _ ?_ rfl rfl)
      refine ⟨_, _, _, p, rfl, ?_⟩
      rfl
end
end Mine

-- part RG2
open PySem PySem.W PySem.W.X PyProof.Rows PySem.Calls
set_option Elab.async false
set_option maxRecDepth 100000
namespace Mine

section
variable {prog : Program} {w : World} {A : Around} {E : Value → Shared → Prop} {b s : Shared} {L L' : Ledger} {G : GLedger} {env : Env}

theorem rg_test {C f tp : Addr} {cd : Value} {fl : List (Str × VP)} {x tag : Str} {Q : Bool → Shared → Prop} {whole : Sem Value} (S : St b s L G) (hf : (C, frC fl) ∈ L) (hl : (("line" : Str), vS x) ∈ fl) (hp : (("prefixes" : Str), vE (.ref tp)) ∈ fl)
    (ht : (tp, tupS ["  ", tag]) ∈ L) (hx : x.length ≤ sizeLine)
    (h : ∀ s', St b s' L G → Q (([("  " : Str), tag] : List Str).any (· == Txt.slice x none (some 2))) s') : wpAny (model prog w) A (isTrue rTest (rEnv C f cd) whole) Q E s := by
  refine wpAny_isTrue_Compare1 (r_slice_ns (b := b) (r_name S hf hl fun v hv => ?_))
  obtain ⟨t, rfl⟩ := hv
  refine ⟨x, t, rfl, hx, wpAny_Constant_int ⟨2, _, rfl, L, G, S.toks _, fun s₁ t' S₁ => ?_⟩⟩
  refine r_name S₁ hf hp fun v hv => ?_
  cases hv
  obtain ⟨vs, htup, hs⟩ := S₁.tup ht
  exact in_tuple_strs htup hs (wpAny_truthy_bool (h _ S₁))

theorem rg_yield {C f : Addr} {cd : Value} {fl : List (Str × VP)} {x : Str} {Q : Value → Shared → Prop} (S : St b s L G) (hf : (C, frC fl) ∈ L) (hl : (("line" : Str), vS x) ∈ fl) (hx : x.length ≤ sizeLine)
    (h : ∀ s' t', St b s' L G → Q (.str (Txt.slice x (some 2) none) t') s') : wpAny (model prog w) A (eval rYield (rEnv C f cd)) Q E s := by
  refine r_slice_sn (b := b) (r_name S hf hl fun v hv => ?_)
  obtain ⟨t, rfl⟩ := hv
  exact ⟨x, t, rfl, hx, wpAny_Constant_int ⟨2, _, rfl, L, G, S.toks _, fun s₁ t' S₁ => h s₁ t' S₁⟩⟩
end
end Mine

-- part RG3
open PySem PySem.W PySem.W.X PyProof.Rows PySem.Calls
set_option Elab.async false
set_option maxRecDepth 100000
namespace Mine

def WakeOf (gs : GenState) (c : Code) (t : Sem Fin) (fs : List Frame) : Prop :=
  (gs = .fresh c ∧ t = denote table c ∧ fs = []) ∨ (∃ k l p cl, gs = .suspended k l c p fs cl ∧ t = k (.send .none))

section
variable {prog : Program} {w : World} {A : Around} {E : Value → Shared → Prop} {s : Shared}

theorem WakeOf.not {gs : GenState} {c : Code} {t : Sem Fin} {fs : List Frame} (h : WakeOf gs c t fs) : gs.status = .fresh ∨ gs.status = .suspended := by
  rcases h with ⟨rfl, _⟩ | ⟨_, _, _, _, rfl, _⟩
  · exact .inl rfl
  · exact .inr rfl

/-- a generator woken -/
theorem g_wake {a : Addr} {g : Nat} {gs : GenState} {Q : Fin → Shared → Prop} {c₀ : Code} {t₀ : Sem Fin} {fs₀ : List Frame} (hl : s.heap.NoLimit) (hroom : A.depth < recursionLimit) (hg : s.heap.IsGen a g) (hgs : s.gens[g]? = some gs)
    (hw : WakeOf gs c₀ t₀ fs₀)
    (hgo : SegX (model prog w) A c₀ t₀ fs₀ (s.setGen g .running) (fun e s₁ => match e.result with
      | .yielded v => Q (.done (.ret v)) (s₁.setGen g e.genState)
      | .returned v => v = .none ∧ wpAny (model prog w) A (newExc (.type "StopIteration") [] >>= fun x => (raiseNew x : Sem Unit)) (fun _ _ => False) E (s₁.setGen g e.genState)
      | .raised x => wpAny (model prog w) A (Builtin.Generator.genLeft (.ref a) x) Q E (s₁.setGen g e.genState)
      | _ => False)) :
    wpAny (model prog w) A (Builtin.Generator.genWake (.ref a) (.send .none)) Q E s := by
  unfold Builtin.Generator.genWake
  refine wpAny_bind (wpAny_holding (wpAny_genNumber hg (wpAny_bind (wpAny_genState hgs ?_))))
  have key : wpAny (model prog w) A (resume g (.send .none) >>= fun x => match x with
      | .yielded v => ret v
      | .returned v => do
        if v == .none then raiseNew (← newExc (.type "StopIteration") [])
        rule "generator.return-value"; throw (← newExc (.type "StopIteration") [v])
      | .raised e => Builtin.Generator.genLeft (.ref a) e
      | .running => do rule "generator.already-executing"; raiseError "ValueError" "generator already executing"
      | .justStarted => do rule "generator.send-to-fresh"; raiseError "TypeError" "can't send non-None value to a just-started generator"
      | .finished => do raiseNew (← newExc (.type "StopIteration") [])) Q E s := by
    show wpAny (model prog w) A (.resume g (.send .none) [] _) Q E s
    have hgs' : (gs = .fresh c₀ ∧ (Resume.send .none) = .send .none ∧ t₀ = denote table c₀ ∧ fs₀ = []) ∨ (∃ k₀ l₀ p₀ cl, gs = .suspended k₀ l₀ c₀ p₀ fs₀ cl ∧ t₀ = k₀ (.send .none)) := by
      rcases hw with ⟨h1, h2, h3⟩ | h
      · exact .inl ⟨h1, rfl, h2, h3⟩
      · exact .inr h
    refine fun Γ p hΓ => wake_any Fin prog w hgs hgs' (fun Γ => Γ.In A) (fun _ h => h) (hgo.mono fun e s₁ h Γ p hC => ?_) Γ p hΓ
    revert h
    cases e.result with
    | yielded v => intro h; exact h
    | returned v =>
      rintro ⟨rfl, h⟩
      have h := h Γ p hC
      show Sem.wp (model prog w) Γ (newExc (.type "StopIteration") [] >>= fun x => raiseNew x >>= fun _ => _) _ _ p _
      rw [Sem.wp_bind'] at h ⊢
      refine Sem.wp_mono _ Γ _ (fun x p' s' h' => ?_) (fun _ _ _ h' => h') _ _ h
      rw [Sem.wp_bind']
      exact Sem.wp_mono _ Γ _ (fun _ _ _ h'' => h''.elim) (fun _ _ _ h' => h') _ _ h'
    | raised x => intro h; exact h Γ p hC
    | running => intro h; exact h.elim
    | justStarted => intro h; exact h.elim
    | finished => intro h; exact h.elim
  rcases hw.not with e | e
  · rw [e]
    exact wpAny_bind (wpAny_roomToWake hl hroom key)
  · rw [e]
    exact wpAny_bind (wpAny_roomToWake hl hroom key)
end
end Mine

-- part RG4
open PySem PySem.W PySem.W.X PyProof.Rows PySem.Calls
set_option Elab.async false
set_option maxRecDepth 100000
namespace Mine

/-- is the row of this side -/
def keepS (tag x : Str) : Bool := ([("  " : Str), tag] : List Str).any (· == Txt.slice x none (some 2))
/-- the row without its two first signs -/
def cutS (x : Str) : Str := Txt.slice x (some 2) none
def genC (g : Nat) : Cell := fun o => ∃ nm qn, o.cls = .type "generator" ∧ o.data = .fields #[.int g 0, nm, qn] ∧ o.slots = #[]

theorem SetN.here {fl fl' : List (Str × VP)} {x : Str} {P : VP} (u : SetN fl x P fl') : (x, P) ∈ fl' := by
  induction u with
  | nil => exact .head _
  | hit => exact .head _
  | skip _ _ ih => exact .tail _ ih
theorem Upd.here {α β : Type} {L L' : List (α × β)} {a : α} {P' : β} (u : Upd L a P' L') : (a, P') ∈ L' := by
  induction u with
  | head => exact .head _
  | tail _ ih => exact .tail _ ih

section
variable {b s : Shared} {L L' : Ledger} {G G' : GLedger}
theorem St.isGen (S : St b s L G) {a : Addr} {g : Nat} (h : (a, genC g) ∈ L) : s.heap.IsGen a g :=
  let ⟨o, e, nm, qn, h1, h2, h3⟩ := S.get h; ⟨o, nm, qn, e, h1, h2, h3⟩
theorem St.setGen (S : St b s L G) {g : Nat} {P' : GenState → Prop} {gs : GenState} (u : Upd G g P' G') (hP : P' gs) (hb : gs.bare = true) : St b (s.setGen g gs) L G' := by
  obtain ⟨P, hm⟩ := u.has
  obtain ⟨gs₀, hg, _⟩ := S.gens _ hm
  refine ⟨S.keep, S.own, S.nodup, S.os, ?_, fun p hp => ?_, by rw [u.keys]; exact S.gnodup⟩
  · intro x hx
    have hx' : x ∈ s.gens.setIfInBounds g gs := hx
    rcases Array.mem_or_eq_of_mem_setIfInBounds hx' with h | h
    · exact S.bare _ h
    · rw [h]; exact hb
  · rcases u.mem S.gnodup p hp with rfl | ⟨h, hne⟩
    · refine ⟨gs, ?_, hP⟩
      have hlt : g < s.gens.size := (Array.getElem?_eq_some_iff.mp hg).1
      simp [Shared.setGen, Array.getElem?_setIfInBounds, hlt]
    · obtain ⟨gs', e, hq⟩ := S.gens p h
      exact ⟨gs', by simp [Shared.setGen, Array.getElem?_setIfInBounds, Ne.symm hne, e], hq⟩
end

section
variable {prog : Program} {w : World} {A : Around} {b s : Shared}

/-- the reader's loop, over whatever source -/
theorem rg_loop {it : Value} {C f tp : Addr} {cd : Value} {p : Pos} {tag : Str} (J : Nat → Shared → Prop) {Pend : Shared → Prop} {Py : Value → Shared → Prop}
    (hnx : ∀ n s, J n s → wpAny (model prog w) (A.over (FL it (rEnv C f cd)) (fsR (rEnv C f cd) p)) (pyNext it) (fun r s₁ => match r with
      | none => Pend s₁
      | some v => ∃ x, vS x v ∧ x.length ≤ sizeLine ∧ ∃ L G fl fl' L', St b s₁ L G ∧ (C, frC fl) ∈ L ∧ SetN fl ("line" : Str) (vS x) fl' ∧ Upd L C (frC fl') L' ∧ (("prefixes" : Str), vE (.ref tp)) ∈ fl' ∧ (tp, tupS ["  ", tag]) ∈ L' ∧
          ∀ s₂, St b s₂ L' G → if keepS tag x = true then ∀ t' s₃, St b s₃ L' G → Py (.str (cutS x) t') s₃ else ∃ m, m < n ∧ J m s₂) (fun _ _ => False) s) :
    ∀ n s, J n s → SegX (model prog w) A (FL it (rEnv C f cd)) (denote table (FL it (rEnv C f cd))) (fsR (rEnv C f cd) p) s (fun e s₁ => match e.result with
      | .yielded v => AtLoop it (rEnv C f cd) e.genState ∧ e.genState.bare = true ∧ Py v s₁
      | .returned v => v = .none ∧ e.genState = .finished ∧ Pend s₁
      | _ => False) := by
  intro n
  induction n using Nat.strongRecOn with
  | ind n ih =>
    intro s hj
    refine sx_turn (wpAny_mono (hnx n s hj) (fun r s₁ h₁ => ?_) fun _ _ x => x.elim)
    cases r with
    | none => exact ⟨rfl, rfl, h₁⟩
    | some v =>
      obtain ⟨x, hv, hx, L, G, fl, fl', L', S, hC, hs, hu, hp, ht, h₂⟩ := h₁
      refine wpAny_assign_Name (r_store S hC hv hs hu fun s₂ S₂ => ?_)
      refine rg_test S₂ hu.here hs.here hp ht hx fun s₃ S₃ => ?_
      have h₃ := h₂ s₃ S₃
      cases hk : keepS tag x with
      | true =>
        rw [hk, if_pos rfl] at h₃
        rw [if_pos (show ([("  " : Str), tag] : List Str).any (· == Txt.slice x none (some 2)) = true from hk)]
        refine rg_yield S₃ hu.here hs.here hx fun s₄ t' S₄ e ha hb hr => ?_
        rw [hr]
        exact ⟨ha, hb, h₃ t' s₄ S₄⟩
      | false =>
        rw [hk, if_neg Bool.false_ne_true] at h₃
        rw [if_neg (by rw [show ([("  " : Str), tag] : List Str).any (· == Txt.slice x none (some 2)) = false from hk]; exact Bool.false_ne_true)]
        obtain ⟨m, hm, hj'⟩ := h₃
        exact s_again _ _ _ _ _ _ _ _ rfl (ih m hm s₃ hj')
end
end Mine

-- part RG5
open PySem PySem.W PySem.W.X PyProof.Rows PySem.Calls
set_option Elab.async false
set_option maxRecDepth 100000
namespace Mine

section
variable {prog : Program} {w : World} {A : Around} {E : Value → Shared → Prop} {s : Shared}

/-- a new StopIteration, raised where nothing is handled -/
theorem w_stop {α : Type} {Q : α → Shared → Prop} (hh : A.handled = none)
    (h : ∀ e h', ({ s with heap := h' } : Shared).TypeIs (.ref e) "StopIteration" → (∀ b o, s.heap.get? b = some o → h'.get? b = some o) → E (.ref e) { s with heap := h' }) :
    wpAny (model prog w) A (newExc (.type "StopIteration") [] >>= fun x => (raiseNew x : Sem α)) Q E s := by
  refine wpAny_bind ?_
  simp only [newExc, newTuple]
  refine wpAny_bind (wpAny_newObj_type ?_ (by size_fits))
  refine wpAny_bind (m := firstArgMember _ _) (wpAny_of_eq (a := Value.none) (by first | rfl | (simp only [firstArgMember]; rfl)) ?_)
  refine wpAny_newObj_type ?_ (by size_fits)
  simp only [raiseNew]
  refine wpAny_bind (wpAny_handled ?_)
  rw [hh]
  refine wpAny_bind (wpAny_pure (wpAny_throw ?_))
  exact h _ _ ⟨_, Heap.get?_push_size _ rfl, rfl⟩ fun b o hb => Heap.get?_push_of_some _ (Heap.get?_push_of_some _ hb)

/-- the next item of a generator -/
theorem r_pyNext_gen {a : Addr} {g : Nat} {gs : GenState} {Q : Option Value → Shared → Prop} {c₀ : Code} {t₀ : Sem Fin} {fs₀ : List Frame} (hh : A.handled = none) (hl : s.heap.NoLimit) (hroom : A.depth < recursionLimit)
    (hg : s.heap.IsGen a g) (hgs : s.gens[g]? = some gs) (hw : WakeOf gs c₀ t₀ fs₀)
    (hgo : SegX (model prog w) A.in1 c₀ t₀ fs₀ (s.setGen g .running) (fun e s₁ => match e.result with
      | .yielded v => Q (some v) (s₁.setGen g e.genState)
      | .returned v => v = .none ∧ ∀ h', (∀ b o, s₁.heap.get? b = some o → h'.get? b = some o) → Q none { s₁.setGen g e.genState with heap := h' }
      | .raised x => ∃ T : String, s₁.TypeIs x T ∧ isSubtype (.type T) (.type "StopIteration") = pure false ∧ s₁.heap.IsGen a g ∧ E x (s₁.setGen g e.genState)
      | _ => False)) :
    wpAny (model prog w) A (pyNext (.ref a)) Q E s := by
  unfold pyNext
  refine wpAny_bind (wpAny_attempt (wpAny_callSpecial?_slot (name := Str.ofString "__next__") hg.typeIs slot_gen_next
    (wpAny_call_entry slot_gen_next hg.typeIs entry_gen_next ?_ (args_gen_next _))))
  show wpAny _ A.in1 (Builtin.Generator.genWake (.ref a) (.send .none)) _ _ s
  refine g_wake hl hroom hg hgs hw (hgo.mono fun e s₁ h => ?_)
  revert h
  cases e.result with
  | yielded v => intro h; exact ⟨_, rfl, wpAny_pure h⟩
  | returned v =>
    rintro ⟨rfl, h⟩
    refine ⟨rfl, w_stop hh fun x h' hT hk => ?_⟩
    refine wpAny_bind (wpAny_isInstance (T := "StopIteration") (b := true) hT isSubtype_stop ?_)
    exact wpAny_pure (h h' hk)
  | raised x =>
    rintro ⟨T, hT, hs, hg', h⟩
    obtain ⟨o, nm, qn, ho, hc, hd, hsl⟩ := hg'
    show wpAny _ A.in1 (Builtin.Generator.genLeft (.ref a) x) _ _ _
    unfold Builtin.Generator.genLeft Builtin.Generator.madeByALambda
    refine wpAny_bind (wpAny_bind (wpAny_load (o := o) ho ?_))
    rw [hc, hd]
    have hT' : (s₁.setGen g e.genState).TypeIs x T := hT
    refine wpAny_pure (wpAny_bind (wpAny_isInstance (T := T) (b := false) hT' hs ?_))
    rw [if_neg (by rw [Bool.and_false]; exact Bool.false_ne_true)]
    show wpAny _ A.in1 (Builtin.Generator.genEscaped x) _ _ _
    unfold Builtin.Generator.genEscaped
    refine wpAny_bind (wpAny_isInstance (T := T) (b := false) hT' hs ?_)
    refine wpAny_throw ?_
    refine wpAny_bind (wpAny_isInstance (T := T) (b := false) hT' hs ?_)
    exact wpAny_throw h
  | running => intro h; exact h.elim
  | justStarted => intro h; exact h.elim
  | finished => intro h; exact h.elim

/-- a generator that has ended has no next item -/
theorem r_pyNext_fin {a : Addr} {g : Nat} {Q : Option Value → Shared → Prop} (hh : A.handled = none) (hg : s.heap.IsGen a g) (hgs : s.gens[g]? = some .finished)
    (h : ∀ h', (∀ b o, s.heap.get? b = some o → h'.get? b = some o) → Q none { s with heap := h' }) :
    wpAny (model prog w) A (pyNext (.ref a)) Q E s := by
  unfold pyNext
  refine wpAny_bind (wpAny_attempt (wpAny_callSpecial?_slot (name := Str.ofString "__next__") hg.typeIs slot_gen_next
    (wpAny_call_entry slot_gen_next hg.typeIs entry_gen_next ?_ (args_gen_next _))))
  show wpAny _ A.in1 (Builtin.Generator.genWake (.ref a) (.send .none)) _ _ s
  unfold Builtin.Generator.genWake
  refine wpAny_bind (wpAny_holding (wpAny_genNumber hg (wpAny_bind (wpAny_genState hgs ?_))))
  show wpAny _ A.in1 (resume g (.send .none) >>= _) _ _ s
  refine wpAny_bind ?_
  intro Γ p hΓ
  show Sem.wp _ Γ (.resume g (.send .none) [] .pure) _ _ p s
  rw [Sem.wp_resume]
  refine ⟨.finished, s, by unfold Wakes; rw [hgs]; exact ⟨rfl, rfl⟩, ?_⟩
  show wpAny (model prog w) A.in1 (newExc (.type "StopIteration") [] >>= fun x => (raiseNew x)) _ _ s
  refine w_stop hh fun x h' hT hk => ?_
  refine wpAny_bind (wpAny_isInstance (T := "StopIteration") (b := true) hT isSubtype_stop ?_)
  exact wpAny_pure (h h' hk)
end
end Mine

-- part RG6
open PySem PySem.W PySem.W.X PyProof.Rows PySem.Calls
set_option Elab.async false
set_option maxRecDepth 100000
namespace Mine

def IsFresh (env : Env) (gs : GenState) : Prop := gs = .fresh (.func rBody env)

section
variable {b s : Shared} {L L' : Ledger} {G G' : GLedger}
theorem St.newGen (S : St b s L G) {gs : GenState} {P : GenState → Prop} (hP : P gs) (hb : gs.bare = true) : St b { s with gens := s.gens.push gs } L ((s.gens.size, P) :: G) := by
  refine ⟨S.keep, S.own, S.nodup, S.os, ?_, fun p hp => ?_, ?_⟩
  · intro x hx
    rcases Array.mem_push.mp hx with h | rfl
    · exact S.bare _ h
    · exact hb
  · rcases List.mem_cons.mp hp with rfl | hp
    · exact ⟨gs, by simp, hP⟩
    · obtain ⟨g', e, h⟩ := S.gens p hp
      have : p.1 < s.gens.size := (Array.getElem?_eq_some_iff.mp e).1
      exact ⟨g', by show (s.gens.push gs)[p.1]? = _; rw [Array.getElem?_push]; simp [Nat.ne_of_lt this, e], h⟩
  · refine List.nodup_cons.mpr ⟨fun hm => ?_, S.gnodup⟩
    obtain ⟨p, hp, e⟩ := List.mem_map.mp hm
    obtain ⟨g', e', _⟩ := S.gens p hp
    have : p.1 < s.gens.size := (Array.getElem?_eq_some_iff.mp e').1
    rw [e] at this
    exact Nat.lt_irrefl _ this
end

section
variable {prog : Program} {w : World} {A : Around} {E : Value → Shared → Prop} {b s : Shared} {L L' : Ledger} {G : GLedger} {mg mb : Str → Option Value} {names : List Str}

theorem r_restore {f : Addr} {cd v1 v2 : Value} {Q : Value → Shared → Prop} (B : Bs b mg mb names) (F : FnAt b mg f "restore" rParams rBody rScope cd) (S : St b s L G) (hroom : A.depth < recursionLimit)
    (h : ∀ a C g s', St b s' ((a, genC g) :: (C, frC [(("delta" : Str), vE v1), (("which" : Str), vE v2)]) :: L) ((g, IsFresh (rEnv C f cd)) :: G) → Q (.ref a) s') :
    wpAny (model prog w) A (call (.ref f) [v1, v2]) Q E s := by
  obtain ⟨o, pm, doc, ho, hd⟩ := F.obj
  refine wpAny_call (codeAny_call_generator hroom (S.keep _ _ ho) hd rfl rfl rfl (F.code.keeps S.keep) ?_)
  refine wpAny_of_eq (a := [(("delta" : Str), v1), (("which" : Str), v2)]) rfl ?_
  refine wpAny_newFunctionEnv (scope := rScope) (binds := [(("delta" : Str), v1), (("which" : Str), v2)]) (by decide) (locs rfl) (fun h' hn hsb => ?_) rfl
  have hlim : h'.NoLimit := (B.nolimit.keeps S.keep).fresh _ hsb
  refine ⟨hlim, ?_⟩
  have hk : ∀ a o, s.heap.get? a = some o → h'.get? a = some o := fun a o e => hsb.extBut a o (Nat.ne_of_lt (Heap.lt_size e)) (Heap.get?_push_of_some _ e)
  obtain ⟨oC, hoC, hcC⟩ := frC_of (fl := [(("delta" : Str), vE v1), (("which" : Str), vE v2)]) hn (fun p hp => by
    rcases List.mem_cons.mp hp with rfl | hp
    · exact ⟨v1, rfl, rfl⟩
    · cases List.mem_singleton.mp hp
      exact ⟨v2, rfl, rfl⟩)
  have S1 : St b { s with heap := h', toks := s.toks + 2 } ((s.heap.objs.size, frC [(("delta" : Str), vE v1), (("which" : Str), vE v2)]) :: L) G := S.new (heap_get_size _) hk hoC hcC
  have S2 := S1.newGen (gs := .fresh (.func rBody (rEnv s.heap.objs.size f cd))) (P := IsFresh (rEnv s.heap.objs.size f cd)) rfl rfl
  have S3 := S2.alloc (o := { cls := .type "generator", data := .fields #[.int s.gens.size 0, .str "restore" (s.toks + 2), .str "restore" (s.toks + 2 + 1)] }) (P := genC s.gens.size) ⟨_, _, rfl, rfl, rfl⟩ (s.toks + 2 + 1 + 1)
  exact h _ _ _ _ S3
end
end Mine

-- part RG7
open PySem PySem.W PySem.W.X PyProof.Rows PySem.Calls
set_option Elab.async false
set_option maxRecDepth 100000
namespace Mine

def rTry : Stmt := match rBody with | t :: _ => t | _ => .Pass default
def rAsg : Stmt := match rBody with | _ :: t :: _ => t | _ => .Pass default
def rIter : Expr := match rForS with | .For _ i .. => i | _ => default
theorem rBody_eq : rBody = [rTry, rAsg, rForS] := rfl
theorem rForS_eq : ∃ p, rForS = .For rTarget rIter rLoop [] p := ⟨_, rfl⟩

def rLeave (env : Env) (x : Value) : Sem Fin := (leaving env x).wrap (fun _ => .raise x) .raise id id

section
variable {prog : Program} {w : World} {A : Around} {s : Shared} {P : End → Shared → Prop} {env : Env}

theorem sx_func {body : List Stmt}
    (h : SegX (model prog w) A (.func body env) ((execs body env).wrap (fun f => .pure (.done (.ret (match f with | .ret v => v | _ => .none)))) (fun e => rLeave env e) id id) [] s P) :
    SegX (model prog w) A (.func body env) (denote table (.func body env)) [] s P := by
  show SegX _ A _ (.point [] fun _ => ((execs body env).onRaise (leaving env)) >>= _) [] s P
  refine sx_point ?_
  rw [Sem.onRaise_eq_wrap, Sem.bind_eq_wrap', Sem.wrap_wrap]
  rw [Sem.wrap_congr (execs body env) _ _ (K' := fun f => .pure (.done (.ret (match f with | .ret v => v | _ => .none))))
    (H' := fun e => (leaving env e).wrap (fun _ => .raise e) .raise id id) (fun f => by cases f <;> rfl)
    (fun e => by rw [Sem.bind_eq_wrap, Sem.wrap_wrap]; rfl)]
  exact h

/-- the reader's first turn -/
theorem sx_start
    (h : wpAny (model prog w) (A.over (.func rBody env) []) (exec rTry env) (fun f s₁ => f = .next ∧
        wpAny (model prog w) (A.over (.func rBody env) []) (exec rAsg env) (fun f s₂ => f = .next ∧
          wpAny (model prog w) (A.over (.func rBody env) []) (eval rIter env) (fun x s₃ =>
            wpAny (model prog w) (A.over (.func rBody env) []) (pyIter x) (fun it' s₄ => ∀ p, SegX (model prog w) A (FL it' env) (denote table (FL it' env)) (fsR env p) s₄ P)
              (fun _ _ => False) s₃) (fun _ _ => False) s₂) (fun _ _ => False) s₁)
        (fun x s₁ => SegX (model prog w) A (.func rBody env) (rLeave env x) [] s₁ P) s)
    (hs : ∀ x, foldedSetIterable rIter env x = pure x := by intro _; rfl) :
    SegX (model prog w) A (.func rBody env) (denote table (.func rBody env)) [] s P := by
  refine sx_func ?_
  have hb : execs rBody env = execs [rTry, rAsg, rForS] env := congrArg (fun l => execs l env) rBody_eq
  rw [hb]
  have e1 : ∀ rest (K : Flow → Sem Fin) (H : Value → Sem Fin) gd lv, (execs (rTry :: rest) env).wrap K H gd lv = (exec rTry env).wrap (fun f => match f with | .next => (execs rest env).wrap K H gd lv | f => K f) H gd lv := fun rest K H gd lv => execs_cons_wrap rTry rest
  have e2 : ∀ rest (K : Flow → Sem Fin) (H : Value → Sem Fin) gd lv, (execs (rAsg :: rest) env).wrap K H gd lv = (exec rAsg env).wrap (fun f => match f with | .next => (execs rest env).wrap K H gd lv | f => K f) H gd lv := fun rest K H gd lv => execs_cons_wrap rAsg rest
  rw [e1]
  clear e1
  generalize exec rTry env = T1 at h ⊢
  generalize exec rAsg env = T2 at h e2
  refine sx_wrap (wpAny_mono h (fun f s₁ h₁ => ?_) fun _ _ x => x)
  obtain ⟨rfl, h₁⟩ := h₁
  show SegX _ A _ (Sem.wrap _ _ _ _ (execs [rAsg, rForS] env)) _ _ _
  rw [e2]
  refine sx_wrap (wpAny_mono h₁ (fun f s₂ h₂ => ?_) fun _ _ x => x.elim)
  obtain ⟨rfl, h₂⟩ := h₂
  show SegX _ A _ (Sem.wrap _ _ _ _ (execs [rForS] env)) _ _ _
  rw [execs_cons_wrap]
  obtain ⟨fp, hF⟩ := rForS_eq
  have hx : exec rForS env = (do
    standAt fp
    let x ← foldedSetIterable rIter env (← eval rIter env)
    standAt rIter.pos
    runOwn (.forLoop rTarget (← holding [x] (pyIter x)) rLoop [] env) env) := by rw [hF]; exact exec_For ..
  rw [hx, bind_wrap]
  refine sx_wrap (wpAny_standAt ?_)
  rw [bind_wrap]
  refine sx_wrap (wpAny_mono h₂ (fun x s₃ h₃ => ?_) fun _ _ x => x.elim)
  rw [bind_wrap]
  refine sx_wrap (wpAny_of_eq (hs x) ?_)
  rw [bind_wrap]
  refine sx_wrap (wpAny_standAt ?_)
  rw [bind_wrap]
  refine sx_wrap (wpAny_holding (wpAny_mono h₃ (fun it' s₄ h₄ => ?_) fun _ _ x => x.elim))
  exact s_call _ _ _ _ _ _ _ _ _ _ _ _ h₄
end
end Mine

-- part RG8
open PySem PySem.W PySem.W.X PyProof.Rows PySem.Calls
set_option Elab.async false
set_option maxRecDepth 100000
set_option maxHeartbeats 200000
namespace Mine

/-- int(v) is n, and nothing else happens -/
def IntTo (prog : Program) (w : World) (b : Shared) (v : Value) (n : Int) : Prop :=
  ∀ (A : Around) (E : Value → Shared → Prop) (s : Shared) (L : Ledger) (G : GLedger) (Q : Value → Shared → Prop), A.handled = none → St b s L G → (∀ t s', St b s' L G → Q (.int n t) s') → wpAny (model prog w) A (call (.type "int") [v]) Q E s

theorem intTo_int {prog : Program} {w : World} {b : Shared} {n : Int} {t : Tok} : IntTo prog w b (.int n t) n := fun _ _ _ _ _ _ _ S h => call_int_int (h _ _ S)

def tagOf (n : Int) : Str := if n = 1 then "- " else "+ "

theorem rTry_eq : ∃ p1 p2 p3 p4 p5 p6 p7 p8 p9 p10 p11 p12 h, rTry = .Try [.Assign [.Name "tag" p1] (.Subscript (.Dict [some (.Constant (.int 1) 0 p2), some (.Constant (.int 2) 0 p3)] [.Constant (.str "- ") 0 p4, .Constant (.str "+ ") 0 p5] p6) (.Call (.Name "int" p7) [.Name "which" p8] [] p9) p10) p11] [h] [] [] p12 :=
  ⟨_, _, _, _, _, _, _, _, _, _, _, _, _, rfl⟩
theorem boot_int : bootBuiltins "int" = some (.type "int") := by decide +kernel

section
variable {prog : Program} {w : World} {A : Around} {E : Value → Shared → Prop} {b s : Shared} {L L' : Ledger} {G : GLedger} {mg mb : Str → Option Value} {names : List Str}

theorem rg_dict {env : Env} {Q : Value → Shared → Prop} {k1 k2 k3 k4 : Nat} {p1 p2 p3 p4 p : Pos} (B : Bs b mg mb names) (S : St b s L G)
    (h : ∀ d s', St b s' ((d, fun o => ∃ t1 t2 : Tok, ∀ h : Heap, h.get? d = some o → h.DictOf (intKind prog w) d [(1, .str "- " t1), (2, .str "+ " t2)]) :: L) G → (d == sysModules) = false → Q (.ref d) s') :
    wpAny (model prog w) A (eval (.Dict [some (.Constant (.int 1) k1 p1), some (.Constant (.int 2) k2 p2)] [.Constant (.str "- ") k3 p3, .Constant (.str "+ ") k4 p4] p) env) Q E s := by
  refine wpAny_Dict_walk (knd := intKind prog w) rfl rfl (by simp) (Nat.le_of_ble_eq_true rfl) ?_
  with_reducible refine pairTrees_cons_walk ?_
  with_reducible refine wpAny_Constant_int ?_
  with_reducible refine Constant_str ?_
  with_reducible refine pairTrees_cons_walk ?_
  with_reducible refine wpAny_Constant_int ?_
  with_reducible refine Constant_str ?_
  with_reducible refine pairTrees_nil_walk ?_
  refine display_done_int rfl (by simp [intKeyPairs]) (Heap.DictOf.new _) fun h' hd hs => ?_
  obtain ⟨o, es, ep, ho, hr⟩ := id hd
  refine h _ _ (S.new (heap_get_size _) (fun a o e => ?_) ho ⟨_, _, fun h₂ e => ⟨o, es, ep, e, hr⟩⟩) ?_
  · exact hs.extBut a o (Nat.ne_of_lt (Heap.lt_size e)) (Heap.get?_push_of_some _ e)
  · have hlt : cStatics < s.heap.objs.size := let ⟨_, hn, _⟩ := B.nolimit.keeps S.keep; hn.lt
    have : s.heap.objs.size ≠ 1 := by
      have : (2 : Nat) < s.heap.objs.size := hlt
      omega
    exact beq_eq_false_iff_ne.mpr this

theorem rg_try {C f : Addr} {cd v2 : Value} {n : Int} {fl fl' : List (Str × VP)} {Q : Flow → Shared → Prop} (B : Bs b mg mb names) (hn : n = 1 ∨ n = 2) (hI : IntTo prog w b v2 n) (hh : A.handled = none)
    (S : St b s L G) (hC : (C, frC fl) ∈ L) (hw : (("which" : Str), vE v2) ∈ fl) (hs : SetN fl ("tag" : Str) (vS (tagOf n)) fl') (hu : Upd L C (frC fl') L') (h : ∀ s', St b s' L' G → Q .next s')
    (hfree : ("int" : Str) ∉ names) :
    wpAny (model prog w) A (exec rTry (rEnv C f cd)) Q E s := by
  obtain ⟨p1, p2, p3, p4, p5, p6, p7, p8, p9, p10, p11, p12, hdl, e⟩ := rTry_eq
  rw [e]
  refine wpAny_Try_except ?_
  refine wpAny_execs_cons ?_
  refine wpAny_Assign_Name ?_
  refine Subscript_ ?_
  with_reducible refine rg_dict B S ?_
  intro d s₁ S₁ hds
  refine Call_ (r_bname B S₁ boot_int ?_ hfree)
  refine callWith_type1 (args_cons (r_name S₁ (.tail _ hC) hw fun v hv => args_nil ?_))
  cases hv
  refine hI A _ _ _ G _ hh S₁ fun t s₂ S₂ => ?_
  obtain ⟨o, ho, t1, t2, hd⟩ := S₂.get (.head _)
  have hm := (hd _ ho).mapOf
  have hv : valueAt [((1 : Int), Value.str "- " t1), (2, Value.str "+ " t2)] n = some (.str (tagOf n) (if n = 1 then t1 else t2)) := by
    rcases hn with rfl | rfl <;> rfl
  refine tail_any hm.typeIs slot_dict_getitem.lookup (wpAny_getItem_of (by simp [intKind, Value.isInt]) hm hv ?_) rfl
  refine r_store (S₂.toks _) (.tail _ hC) ⟨_, rfl⟩ hs (.tail hu) fun s₃ S₃ => ?_
  exact wpAny_execs_nil (wpAny_execs_nil (h _ (S₃.sub (.cons _ (.refl _)))))
end
end Mine

-- part RG9
open PySem PySem.W PySem.W.X PyProof.Rows PySem.Calls
set_option Elab.async false
set_option maxRecDepth 100000
set_option maxHeartbeats 1000000
namespace Mine

theorem rAsg_eq : ∃ p1 p2 p3 p4 p5, rAsg = .Assign [.Name "prefixes" p1] (.Tuple [.Constant (.str "  ") 0 p2, .Name "tag" p3] 0 p4) p5 := ⟨_, _, _, _, _, rfl⟩
theorem rIter_eq : ∃ p, rIter = .Name "delta" p := ⟨_, rfl⟩

abbrev fl0 (v1 v2 : Value) : List (Str × VP) := [(("delta" : Str), vE v1), (("which" : Str), vE v2)]
abbrev fl1 (v1 v2 : Value) (n : Int) : List (Str × VP) := [(("delta" : Str), vE v1), (("which" : Str), vE v2), (("tag" : Str), vS (tagOf n))]
abbrev fl2 (v1 v2 : Value) (n : Int) (tp : Addr) : List (Str × VP) := [(("delta" : Str), vE v1), (("which" : Str), vE v2), (("tag" : Str), vS (tagOf n)), (("prefixes" : Str), vE (.ref tp))]

/-- a cell of the ledger set, whatever the others are -/
def setL {α β : Type} [DecidableEq α] (a : α) (P : β) : List (α × β) → List (α × β)
  | [] => []
  | e :: r => if e.1 = a then (a, P) :: r else e :: setL a P r
theorem setL_upd {α β : Type} [DecidableEq α] {a : α} {P : β} : ∀ {L : List (α × β)}, (∃ P₀, (a, P₀) ∈ L) → Upd L a P (setL a P L)
  | [], ⟨_, h⟩ => nomatch h
  | (c, P₁) :: r, ⟨P₀, h⟩ => by
    unfold setL
    by_cases e : c = a
    · subst e
      rw [if_pos rfl]
      exact .head
    · rw [if_neg e]
      refine .tail (setL_upd ⟨P₀, ?_⟩)
      rcases List.mem_cons.mp h with h | h
      · cases h; exact absurd rfl e
      · exact h
theorem setL_setL {α β : Type} [DecidableEq α] {a : α} {P P' : β} : ∀ {L : List (α × β)}, setL a P' (setL a P L) = setL a P' L
  | [] => rfl
  | (c, P₁) :: r => by
    by_cases e : c = a
    · simp [setL, e]
    · simp [setL, e, setL_setL]

section
variable {prog : Program} {w : World} {A : Around} {E : Value → Shared → Prop} {b s : Shared} {L L' : Ledger} {G : GLedger} {mg mb : Str → Option Value} {names : List Str}

theorem rg_asg {C f : Addr} {cd v1 v2 : Value} {n : Int} {Q : Flow → Shared → Prop} (S : St b s L G) (hC : (C, frC (fl1 v1 v2 n)) ∈ L)
    (h : ∀ tp s', St b s' ((tp, tupS ["  ", tagOf n]) :: setL C (frC (fl2 v1 v2 n tp)) L) G → Q .next s') : wpAny (model prog w) A (exec rAsg (rEnv C f cd)) Q E s := by
  obtain ⟨p1, p2, p3, p4, p5, e⟩ := rAsg_eq
  rw [e]
  refine wpAny_Assign_Name ?_
  with_reducible refine Tuple_ ?_
  refine args_cons ?_
  refine r_str S fun t1 s₁ S₁ => ?_
  refine args_cons ?_
  refine r_name S₁ hC (.tail _ (.tail _ (.head _))) fun v hv => ?_
  obtain ⟨t2, rfl⟩ := hv
  refine args_nil ?_
  refine r_newTuple S₁ (P := tupS ["  ", tagOf n]) (tupS_mk (.cons _ _ (.cons _ _ .nil))) (fun tp s₂ S₂ => ?_)
  refine r_store (P := vE (.ref tp)) (fl' := fl2 v1 v2 n tp) S₂ (.tail _ hC) rfl (.skip (by kernel_rfl) (.skip (by kernel_rfl) (.skip (by kernel_rfl) .nil))) (.tail (setL_upd ⟨_, hC⟩)) fun s₃ S₃ => h tp s₃ S₃

/-- the reader's first turn, up to its source -/
theorem rg_begin {C f : Addr} {cd v1 v2 : Value} {n : Int} {P : End → Shared → Prop} (B : Bs b mg mb names) (hfree : ("int" : Str) ∉ names) (hn : n = 1 ∨ n = 2) (hI : IntTo prog w b v2 n) (hh : A.handled = none)
    (S : St b s L G) (hC : (C, frC (fl0 v1 v2)) ∈ L)
    (h : ∀ tp s', St b s' ((tp, tupS ["  ", tagOf n]) :: setL C (frC (fl2 v1 v2 n tp)) L) G → wpAny (model prog w) (A.over (.func rBody (rEnv C f cd)) []) (pyIter v1)
      (fun it' s₄ => ∀ p, SegX (model prog w) A (FL it' (rEnv C f cd)) (denote table (FL it' (rEnv C f cd))) (fsR (rEnv C f cd) p) s₄ P) (fun _ _ => False) s') :
    SegX (model prog w) A (.func rBody (rEnv C f cd)) (denote table (.func rBody (rEnv C f cd))) [] s P := by
  refine sx_start ?_ (by intro x; kernel_rfl)
  have hh' : (A.over (.func rBody (rEnv C f cd)) []).handled = none := hh
  have hw : (("which" : Str), vE v2) ∈ fl0 v1 v2 := .tail _ (.head _)
  have hsn : SetN (fl0 v1 v2) ("tag" : Str) (vS (tagOf n)) (fl1 v1 v2 n) := .skip (by kernel_rfl) (.skip (by kernel_rfl) .nil)
  have hu : Upd L C (frC (fl1 v1 v2 n)) (setL C (frC (fl1 v1 v2 n)) L) := setL_upd ⟨_, hC⟩
  have hh1 := hu.here
  with_reducible refine rg_try B hn hI hh' S hC hw hsn hu ?_ hfree
  refine fun s₁ S₁ => ⟨rfl, ?_⟩
  with_reducible refine rg_asg S₁ hh1 ?_
  refine fun tp s₂ S₂ => ⟨rfl, ?_⟩
  rw [setL_setL] at S₂
  obtain ⟨p, e⟩ := rIter_eq
  rw [e]
  refine r_name S₂ (.tail _ (setL_upd ⟨_, hC⟩).here) (.head _) fun v hv => ?_
  cases hv
  exact h tp s₂ S₂
end
end Mine

-- part LR
open PySem PySem.W PySem.W.X PyProof.Rows PySem.Calls
set_option Elab.async false
set_option maxRecDepth 100000
set_option maxHeartbeats 1000000
namespace Mine
section
variable {prog : Program} {w : World} {A : Around} {E : Value → Shared → Prop} {b s : Shared} {L L' : Ledger} {G : GLedger}

/-- the loop of list(..) over whatever iterator -/
theorem code_extend {R : Result → Shared → Prop} {I Sa : Addr} {res : Value} (J : Nat → List Value → Shared → Prop)
    (hnx : ∀ k acc s, J k acc s → wpAny (model prog w) A.in1 (pyNext (.ref I)) (fun r s₁ => match r with
      | none => R (.ok (.ret res)) s₁
      | some v => ∃ L G L', St b s₁ L G ∧ (Sa, lstV acc) ∈ L ∧ Upd L Sa (lstV (acc ++ [v])) L' ∧ acc.length < sizeLine ∧ ∀ s₂, St b s₂ L' G → ∃ m, m < k ∧ J m (acc ++ [v]) s₂) (fun e s₁ => R (.error e) s₁) s) :
    ∀ k acc s, J k acc s → codeAny (model prog w) A (.builtin "list.extend.loop" ⟨[.ref Sa, .ref I, res], []⟩) R s := by
  intro k
  induction k using Nat.strongRecOn with
  | ind k ih =>
    intro acc s hj
    refine codeAny_builtin F.entry_extend_loop ?_
    rw [Around.under_plainId F.plain_extend_loop _]
    show wpAny _ A.in1 (pyNext (.ref I) >>= _) _ _ s
    refine wpAny_bind (wpAny_mono (hnx k acc s hj) (fun r s₁ h₁ => ?_) fun _ _ x => x)
    cases r with
    | none => exact wpAny_pure h₁
    | some v =>
      obtain ⟨L, G, L', S, hm, hu, hlt, h₂⟩ := h₁
      obtain ⟨_, ho, n, rfl⟩ := S.get hm
      show wpAny _ A.in1 (updateSeq Sa (·.push v) >>= _) _ _ _
      refine wpAny_bind ?_
      refine wpAny_updateSeq ho rfl (wpAny_pure ?_) ?_ ?_
      · have hg := Heap.get?_update_self (Obj.mapSeq (·.push v)) ho rfl
        have hcell : lstV (acc ++ [v]) ((lstObj acc.toArray n).mapSeq (·.push v)) := by
          obtain ⟨n', e⟩ := lst_push (vs := acc.toArray) (n := n) (·.push v)
          exact ⟨n', by rw [e]; simp⟩
        obtain ⟨m, hm', hj'⟩ := h₂ _ (S.set hu ⟨_, hm⟩ (Heap.SameBut.update ..).extBut hg hcell)
        exact ⟨plainId_quiet F.plain_extend_loop _, ih m hm' _ _ hj'⟩
      · simpa using Nat.le_of_lt hlt
      · simpa using Nat.succ_le_succ (Nat.le_of_lt hlt)

/-- list(..) of a generator -/
theorem r_list_gen {a : Addr} {Q : Value → Shared → Prop} {g : Nat} (S : St b s L G) (ha : (a, genC g) ∈ L)
    (J : Addr → Nat → List Value → Shared → Prop)
    (h0 : ∀ Sa s', St b s' ((Sa, lstV []) :: L) G → ∃ k, J Sa k [] s')
    (hnx : ∀ Sa k acc s, J Sa k acc s → wpAny (model prog w) A.in1.in1 (pyNext (.ref a)) (fun r s₁ => match r with
      | none => Q (.ref Sa) s₁
      | some v => ∃ L G L', St b s₁ L G ∧ (Sa, lstV acc) ∈ L ∧ Upd L Sa (lstV (acc ++ [v])) L' ∧ acc.length < sizeLine ∧ ∀ s₂, St b s₂ L' G → ∃ m, m < k ∧ J Sa m (acc ++ [v]) s₂) (fun e s₁ => E e s₁) s) :
    wpAny (model prog w) A (call (.type "list") [.ref a]) Q E s := by
  refine callType_codes (Q₁ := fun obj s₁ => obj = .ref s.heap.objs.size ∧ s₁ = { s with heap := s.heap.push { cls := .type "list", data := .seq #[] } }) F.called_list (F.typeCall_list_1 _) F.entry_list_init
    (code_list_new _ ⟨rfl, rfl⟩) fun obj s₁ h₁ => ?_
  obtain ⟨rfl, rfl⟩ := h₁
  have S0 : St b { s with heap := s.heap.push { cls := .type "list", data := .seq #[] } } ((s.heap.objs.size, lstV []) :: L) G := S.alloc ⟨0, rfl⟩
  generalize hsz : s.heap.objs.size = Sa at S0
  generalize hs0 : ({ s with heap := s.heap.push { cls := .type "list", data := .seq #[] } } : Shared) = s0 at S0
  obtain ⟨_, ho0, n0, rfl⟩ := S0.get (.head _)
  refine ⟨⟨_, ho0, rfl⟩, F.args_list_init_2 _ _, ?_⟩
  have hne : Sa ≠ a := by
    have := List.nodup_cons.mp S0.nodup
    exact fun e => this.1 (List.mem_map.mpr ⟨_, ha, e.symm⟩)
  show wpAny _ A.in1.in1 (do let old ← Builtin.List.listItems (.ref Sa); Builtin.List.listUpdate (.ref Sa) (fun _ => #[]); letGo old.toList.reverse; Builtin.List.listExtendWith (.ref Sa) (.ref a) .none) _ _ s0
  refine wpAny_bind ?_
  unfold Builtin.List.listItems
  refine wpAny_bind (wpAny_seqItems ho0 rfl (wpAny_pure ?_))
  show wpAny _ A.in1.in1 (updateSeq Sa (fun _ => #[]) >>= fun _ => letGo (([] : List Value).toArray).toList.reverse >>= fun _ => Builtin.List.listExtendWith (.ref Sa) (.ref a) .none) _ _ s0
  refine wpAny_bind (wpAny_updateSeq ho0 rfl ?_ (by simp) (by simp))
  have S1 := S0.set (P' := lstV []) .head ⟨_, .head _⟩ (Heap.SameBut.update s0.heap Sa (Obj.mapSeq fun _ => #[])).extBut (Heap.get?_update_self _ ho0 rfl) ⟨_, rfl⟩
  generalize hs1 : ({ s0 with heap := s0.heap.update Sa (Obj.mapSeq fun _ => #[]), toks := s0.toks } : Shared) = s1 at S1
  refine wpAny_bind (wpAny_letGo ?_)
  unfold Builtin.List.listExtendWith
  have hg := S1.isGen (.tail _ ha)
  refine wpAny_bind (wpAny_typeOf hg.typeIs ?_)
  have h1 : Builtin.List.listSameRef (.ref Sa) (.ref a) = false := by simp [Builtin.List.listSameRef, hne]
  have h2 : (Value.type "generator" == Value.type "list") = false := by decide
  have h3 : (Value.type "generator" == Value.type "tuple") = false := by decide
  simp only [h1, h2, h3, Bool.or_false, Bool.false_eq_true, if_false]
  refine wpAny_bind (wpAny_pyIter_gen hg ?_)
  refine wpAny_bind (wpAny_holding ?_)
  unfold Builtin.List.listLengthHint
  refine wpAny_bind (wpAny_specialOf hg.typeIs F.gen_no_len ?_)
  show wpAny _ A.in1.in1 (specialOf (Value.ref a) (Str.ofString "__length_hint__") >>= _) _ _ _
  refine wpAny_bind (wpAny_specialOf hg.typeIs F.gen_no_hint ?_)
  refine wpAny_pure ?_
  show wpAny _ A.in1.in1 (rule "list.extend.makes-room" >>= fun _ => Builtin.List.listTouch (.ref Sa) >>= fun _ =>
    again (.builtin "list.extend.loop" ⟨[.ref Sa, .ref a, .none], []⟩)) _ _ _
  refine wpAny_bind (wpAny_rule ?_)
  refine wpAny_bind ?_
  show wpAny _ A.in1.in1 (updateSeq Sa (·.push .none) >>= fun _ => updateSeq Sa (·.pop)) _ _ _
  obtain ⟨_, ho1, n1', rfl⟩ := S1.get (.head _)
  refine wpAny_bind (wpAny_updateSeq ho1 rfl ?_ (by simp) (by simp [sizeLine]))
  have hg2 := Heap.get?_update_self (Obj.mapSeq (·.push Value.none)) ho1 rfl
  have S2 := S1.set (P' := lstV [.none]) .head ⟨_, .head _⟩ (Heap.SameBut.update s1.heap Sa (Obj.mapSeq (·.push Value.none))).extBut hg2 ⟨_, rfl⟩
  refine wpAny_updateSeq hg2 rfl ?_ (by simp [sizeLine]) (by simp [sizeLine])
  have hg3 := Heap.get?_update_self (Obj.mapSeq (·.pop)) hg2 rfl
  have S3 := S2.set (P' := lstV []) .head ⟨_, .head _⟩ (Heap.SameBut.update _ Sa (Obj.mapSeq (·.pop))).extBut hg3 ⟨_, rfl⟩
  obtain ⟨k, hj⟩ := h0 Sa _ S3
  refine wpAny_pure ⟨plainId_quiet F.plain_extend_loop _, code_extend (b := b) (J Sa) ?_ k [] _ hj⟩
  intro k acc s hj
  refine wpAny_mono (hnx Sa k acc s hj) (fun r s₁ h₁ => ?_) fun _ _ x => x
  cases r with
  | none => exact ⟨rfl, h₁⟩
  | some v => exact h₁
end
end Mine

-- part GV
open PySem PySem.W PySem.W.X PyProof.Rows PySem.Calls
set_option Elab.async false
set_option maxRecDepth 100000
set_option maxHeartbeats 1000000
namespace Mine

/-- room to go d frames deeper, and nothing handled -/
structure Ar (A : Around) (d : Nat) : Prop where
  handled : A.handled = none
  depth : A.depth + d < recursionLimit
theorem Ar.mono {A : Around} {d d' : Nat} (h : Ar A d) (hd : d' ≤ d) : Ar A d' := ⟨h.1, Nat.lt_of_le_of_lt (Nat.add_le_add_left hd _) h.2⟩
theorem Ar.in1 {A : Around} {d : Nat} (h : Ar A d) : Ar A.in1 d := ⟨h.1, h.2⟩
theorem Ar.loop {A : Around} {d : Nat} {it : Value} {env : Env} {p : Pos} (h : Ar A (d + 1)) : Ar (A.over (FL it env) (fsR env p)) d := by
  refine ⟨h.1, ?_⟩
  show A.depth + 1 + 0 + d < recursionLimit
  have := h.2
  omega
theorem Ar.func {A : Around} {d : Nat} {env : Env} (h : Ar A (d + 1)) : Ar (A.over (.func rBody env) []) d := by
  refine ⟨h.1, ?_⟩
  show A.depth + 0 + 1 + d < recursionLimit
  have := h.2
  omega

section
variable (prog : Program) (w : World) (b : Shared) (Lr : Ledger) (d : Nat)

/-- v is an iterator that will give values of the makes ys; L₁, G₁ are its own; it reads of Lr -/
def Gives (v : Value) : List VP → Ledger → GLedger → Prop
  | [], L₁, G₁ => ∀ (A : Around) (E : Value → Shared → Prop) (s : Shared) (F : Ledger) (GF : GLedger) (Q : Option Value → Shared → Prop), Ar A d → (∀ p ∈ Lr, p ∈ F) → St b s (L₁ ++ F) (G₁ ++ GF) →
      (∀ s', St b s' F GF → Q none s') → wpAny (model prog w) A (pyNext v) Q E s
  | y :: r, L₁, G₁ => ∀ (A : Around) (E : Value → Shared → Prop) (s : Shared) (F : Ledger) (GF : GLedger) (Q : Option Value → Shared → Prop), Ar A d → (∀ p ∈ Lr, p ∈ F) → St b s (L₁ ++ F) (G₁ ++ GF) →
      (∀ u s' L₂ G₂, y u → Gives v r L₂ G₂ → St b s' (L₂ ++ F) (G₂ ++ GF) → Q (some u) s') → wpAny (model prog w) A (pyNext v) Q E s

/-- iter(it) is it -/
def SelfI (it : Value) (L₂ : Ledger) : Prop := ∀ (A : Around) (E : Value → Shared → Prop) (s : Shared) (F : Ledger) (GF : GLedger) (Q : Value → Shared → Prop), St b s (L₂ ++ F) GF → Q it s → wpAny (model prog w) A (pyIter it) Q E s

/-- v is an iterable of values of the makes ys -/
def GivesI (v : Value) (ys : List VP) (L₁ : Ledger) (G₁ : GLedger) : Prop :=
  ∀ (A : Around) (E : Value → Shared → Prop) (s : Shared) (F : Ledger) (GF : GLedger) (Q : Value → Shared → Prop), Ar A d → (∀ p ∈ Lr, p ∈ F) → St b s (L₁ ++ F) (G₁ ++ GF) →
      (∀ it s' L₂ G₂, Gives prog w b Lr d it ys L₂ G₂ → SelfI prog w b it L₂ → St b s' (L₂ ++ F) (G₂ ++ GF) → Q it s') → wpAny (model prog w) A (pyIter v) Q E s
end

theorem St.gperm {b s : Shared} {L : Ledger} {G G' : GLedger} (S : St b s L G) (h : G'.Perm G) : St b s L G' :=
  ⟨S.keep, S.own, S.nodup, S.os, S.bare, fun p hp => S.gens p (h.subset hp), (h.map _).nodup_iff.mpr S.gnodup⟩

/-- what a reader gives of its rows -/
def readS (n : Int) (xs : List Str) : List Str := (xs.filter (keepS (tagOf n))).map cutS
abbrev flP (tp : Addr) : List (Str × VP) := [(("prefixes" : Str), vE (.ref tp))]

theorem Upd.left {α β : Type} {F F' : List (α × β)} {a : α} {P : β} (u : Upd F a P F') : ∀ L₂ : List (α × β), Upd (L₂ ++ F) a P (L₂ ++ F')
  | [] => u
  | _ :: r => .tail (u.left r)
theorem frC_sub {fl fl' : List (Str × VP)} (h : ∀ p ∈ fl', p ∈ fl) {o : Obj} (hc : frC fl o) : frC fl' o :=
  let ⟨es, ep, h1, h2, h3⟩ := hc; ⟨es, ep, h1, h2, fun p hp => h3 p (h p hp)⟩
/-- a cell known to be more -/
theorem St.less {b s : Shared} {L L' : Ledger} {G : GLedger} (S : St b s L G) {a : Addr} {P P' : Cell} (hm : (a, P) ∈ L) (u : Upd L a P' L') (hP : ∀ o, P o → P' o) : St b s L' G :=
  let ⟨_, e, h⟩ := S.get hm
  S.set u ⟨P, hm⟩ (Heap.ExtBut.refl _ _) e (hP _ h)
def IsRun (gs : GenState) : Prop := gs = .running
def IsFin (gs : GenState) : Prop := gs = .finished

section
variable {prog : Program} {w : World} {b : Shared} {Lr : Ledger} {d : Nat} {mg mb : Str → Option Value} {names : List Str}

theorem gives_of {v : Value} {ys : List VP} {L₁ : Ledger} {G₁ : GLedger}
    (h : ∀ (A : Around) (E : Value → Shared → Prop) (s : Shared) (F : Ledger) (GF : GLedger) (Q : Option Value → Shared → Prop), Ar A d → (∀ p ∈ Lr, p ∈ F) → St b s (L₁ ++ F) (G₁ ++ GF) →
      (ys = [] → ∀ s', St b s' F GF → Q none s') → (∀ y r, ys = y :: r → ∀ u s' L₂ G₂, y u → Gives prog w b Lr d v r L₂ G₂ → St b s' (L₂ ++ F) (G₂ ++ GF) → Q (some u) s') → wpAny (model prog w) A (pyNext v) Q E s) :
    Gives prog w b Lr d v ys L₁ G₁ := by
  cases ys with
  | nil => intro A E s F GF Q hA hF S hQ; exact h A E s F GF Q hA hF S (fun _ => hQ) (fun _ _ e => nomatch e)
  | cons y r => intro A E s F GF Q hA hF S hQ; exact h A E s F GF Q hA hF S (fun e => nomatch e) (fun _ _ e => by cases e; exact hQ)
theorem Gives.next {v : Value} {ys : List VP} {L₁ : Ledger} {G₁ : GLedger} (H : Gives prog w b Lr d v ys L₁ G₁) {A : Around} {E : Value → Shared → Prop} {s : Shared} {F : Ledger} {GF : GLedger} (hA : Ar A d) (hF : ∀ p ∈ Lr, p ∈ F) (S : St b s (L₁ ++ F) (G₁ ++ GF))
    {Q : Option Value → Shared → Prop} (h1 : ys = [] → ∀ s', St b s' F GF → Q none s') (h2 : ∀ y r, ys = y :: r → ∀ u s' L₂ G₂, y u → Gives prog w b Lr d v r L₂ G₂ → St b s' (L₂ ++ F) (G₂ ++ GF) → Q (some u) s') : wpAny (model prog w) A (pyNext v) Q E s := by
  cases ys with
  | nil => exact H A E s F GF Q hA hF S (h1 rfl)
  | cons y r => exact H A E s F GF Q hA hF S (h2 y r rfl)

theorem perm3 {α : Type} (x y z : α) (L F : List α) : (L ++ x :: y :: z :: F).Perm (x :: y :: z :: (L ++ F)) := by
  refine (List.perm_middle).trans (.cons _ ?_)
  refine (List.perm_middle).trans (.cons _ ?_)
  exact List.perm_middle

/-- the reader's run from the head of its loop -/
theorem loop_seg {a C f tp : Addr} {cd it : Value} {g : Nat} {n : Int} {A : Around} {E : Value → Shared → Prop} {s₀ : Shared} {F : Ledger} {GF : GLedger} {Q : Option Value → Shared → Prop} {p' : Pos} (xs : List Str) {Li : Ledger} {Gi : GLedger}
    (hA : Ar A (d + 1)) (hF : ∀ p ∈ Lr, p ∈ F) (hlen : ∀ x ∈ xs, x.length ≤ sizeLine) (hgv : Gives prog w b Lr d it (xs.map vS) Li Gi)
    (ih : ∀ (r : List Str) (Li' : Ledger) (Gi' : GLedger), r.length < xs.length → (∀ x ∈ r, x.length ≤ sizeLine) → Gives prog w b Lr d it (r.map vS) Li' Gi' →
      Gives prog w b Lr (d + 1) (.ref a) ((readS n r).map vS) ((a, genC g) :: (C, frC (flP tp)) :: (tp, tupS ["  ", tagOf n]) :: Li') ((g, AtLoop it (rEnv C f cd)) :: Gi'))
    (S0 : St b s₀ (Li ++ ((a, genC g) :: (C, frC (flP tp)) :: (tp, tupS ["  ", tagOf n]) :: F)) (Gi ++ ((g, IsRun) :: GF)))
    (hend : readS n xs = [] → ∀ s', St b s' F GF → Q none s')
    (hyld : ∀ y r, readS n xs = y :: r → ∀ t s' L₂ G₂, Gives prog w b Lr (d + 1) (.ref a) (r.map vS) L₂ G₂ → St b s' (L₂ ++ F) (G₂ ++ GF) → Q (some (.str y t)) s') :
    SegX (model prog w) A (FL it (rEnv C f cd)) (denote table (FL it (rEnv C f cd))) (fsR (rEnv C f cd) p') s₀ (fun e s₁ => match e.result with
      | .yielded v => Q (some v) (s₁.setGen g e.genState)
      | .returned v => v = .none ∧ ∀ h', (∀ b o, s₁.heap.get? b = some o → h'.get? b = some o) → Q none { s₁.setGen g e.genState with heap := h' }
      | .raised x => ∃ T : String, s₁.TypeIs x T ∧ isSubtype (.type T) (.type "StopIteration") = pure false ∧ s₁.heap.IsGen a g ∧ E x (s₁.setGen g e.genState)
      | _ => False) := by
  let F' : Ledger := (a, genC g) :: (C, frC (flP tp)) :: (tp, tupS ["  ", tagOf n]) :: F
  let GF' : GLedger := (g, IsRun) :: GF
  let J : Nat → Shared → Prop := fun m s => ∃ xs' Li' Gi', xs'.length = m ∧ m ≤ xs.length ∧ readS n xs' = readS n xs ∧ (∀ x ∈ xs', x.length ≤ sizeLine) ∧ Gives prog w b Lr d it (xs'.map vS) Li' Gi' ∧ St b s (Li' ++ F') (Gi' ++ GF')
  let Pend : Shared → Prop := fun s => readS n xs = [] ∧ St b s F' GF'
  let Py : Value → Shared → Prop := fun v s => ∃ y t r Li' Gi' fl', v = .str (cutS y) t ∧ readS n xs = cutS y :: readS n r ∧ r.length < xs.length ∧ (∀ x ∈ r, x.length ≤ sizeLine) ∧ Gives prog w b Lr d it (r.map vS) Li' Gi' ∧ (∀ p ∈ flP tp, p ∈ fl') ∧
    St b s (Li' ++ ((a, genC g) :: (C, frC fl') :: (tp, tupS ["  ", tagOf n]) :: F)) (Gi' ++ GF')
  refine (rg_loop (b := b) (tp := tp) (tag := tagOf n) J (Pend := Pend) (Py := Py) ?_ xs.length _ ⟨xs, Li, Gi, rfl, Nat.le_refl _, rfl, hlen, hgv, S0⟩).mono ?_
  · rintro m s₁ ⟨xs', Li', Gi', hm, hle, hrd, hl', hg', S₁⟩
    refine hg'.next (F := F') (GF := GF') hA.loop (fun q hq => .tail _ (.tail _ (.tail _ (hF q hq)))) S₁ (fun e s₂ S₂ => ?_) (fun y r e u s₂ L₂ G₂ hu hg₂ S₂ => ?_)
    · have e : xs' = [] := List.map_eq_nil_iff.mp e
      subst e; exact ⟨hrd.symm.trans rfl, S₂⟩
    · obtain ⟨y, r, rfl, rfl, rfl⟩ := List.map_eq_cons_iff.mp e
      obtain ⟨t, rfl⟩ := hu
      refine ⟨y, ⟨t, rfl⟩, hl' y (.head _), L₂ ++ F', G₂ ++ GF', flP tp, [(("prefixes" : Str), vE (.ref tp)), (("line" : Str), vS y)], L₂ ++ ((a, genC g) :: (C, frC [(("prefixes" : Str), vE (.ref tp)), (("line" : Str), vS y)]) :: (tp, tupS ["  ", tagOf n]) :: F), S₂,
        List.mem_append_right _ (.tail _ (.head _)), .skip (by kernel_rfl) .nil, (Upd.tail .head).left _, .head _, List.mem_append_right _ (.tail _ (.tail _ (.head _))), fun s₃ S₃ => ?_⟩
      have hlt : r.length < xs.length := by simp only [List.length_cons] at hm; omega
      cases hkp : keepS (tagOf n) y with
      | true =>
        rw [if_pos rfl]
        intro t' s₄ S₄
        refine ⟨y, t', r, L₂, G₂, _, rfl, ?_, hlt, fun x hx => hl' x (.tail _ hx), hg₂, fun q hq => by cases List.mem_singleton.mp hq; exact .head _, S₄⟩
        rw [← hrd]
        simp [readS, hkp]
      | false =>
        rw [if_neg Bool.false_ne_true]
        refine ⟨r.length, by simp only [List.length_cons] at hm; omega, r, L₂, G₂, rfl, Nat.le_of_lt hlt, ?_, fun x hx => hl' x (.tail _ hx), hg₂, ?_⟩
        · rw [← hrd]; simp [readS, hkp]
        · exact S₃.less (List.mem_append_right _ (.tail _ (.head _))) ((Upd.tail .head).left _) fun o ho => frC_sub (fun q hq => by cases List.mem_singleton.mp hq; exact .head _) ho
  · intro e s₁ h
    revert h
    cases e.result with
    | yielded v =>
      rintro ⟨hat, hbare, y, t, r, Li', Gi', fl', rfl, hrd, hlt, hl', hg', hfl, S₁⟩
      have S₂ := S₁.setGen (P' := AtLoop it (rEnv C f cd)) (Upd.head.left Gi') hat hbare
      have S₃ := S₂.less (P' := frC (flP tp)) (List.mem_append_right _ (.tail _ (.head _))) ((Upd.tail .head).left _) fun o ho => frC_sub hfl ho
      refine hyld _ _ hrd t _ _ _ (ih r Li' Gi' hlt hl' hg') ?_
      exact (S₃.perm (perm3 _ _ _ _ _).symm).gperm List.perm_middle.symm
    | returned v =>
      rintro ⟨rfl, hfin, hrd, S₁⟩
      refine ⟨rfl, fun h' hk' => ?_⟩
      rw [hfin]
      have S₂ := S₁.setGen (P' := IsFin) (gs := .finished) .head rfl rfl
      refine hend hrd _ ?_
      exact ((S₂.keeps (s' := { s₁.setGen g .finished with heap := h' }) hk').sub ((((List.Sublist.refl F).cons _).cons _).cons _)).gsub ((List.Sublist.refl GF).cons _)
    | raised x => intro h; exact h.elim
    | running => intro h; exact h.elim
    | justStarted => intro h; exact h.elim
    | finished => intro h; exact h.elim

theorem gives_loop (B : Bs b mg mb names) {a C f tp : Addr} {cd it : Value} {g : Nat} {n : Int} :
    ∀ (k : Nat) (xs : List Str) (Li : Ledger) (Gi : GLedger), xs.length ≤ k → (∀ x ∈ xs, x.length ≤ sizeLine) → Gives prog w b Lr d it (xs.map vS) Li Gi →
      Gives prog w b Lr (d + 1) (.ref a) ((readS n xs).map vS) ((a, genC g) :: (C, frC (flP tp)) :: (tp, tupS ["  ", tagOf n]) :: Li) ((g, AtLoop it (rEnv C f cd)) :: Gi) := by
  intro k
  induction k using Nat.strongRecOn with
  | ind k ih =>
    intro xs Li Gi hk hlen hgv
    refine gives_of fun A E s F GF Q hA hF S hend hyld => ?_
    obtain ⟨gs, hgs, kk, l, p, p', rfl, hkk⟩ := S.gens _ (.head _)
    have hg := S.isGen (.head _)
    have hw : WakeOf (.suspended kk l (FL it (rEnv C f cd)) p (fsR (rEnv C f cd) p') false) (FL it (rEnv C f cd)) (.pure (.again (FL it (rEnv C f cd)))) (fsR (rEnv C f cd) p') := .inr ⟨kk, l, p, false, rfl, hkk.symm⟩
    refine r_pyNext_gen hA.handled (B.nolimit.keeps S.keep) (by have := hA.depth; omega) hg hgs hw ?_
    refine s_again _ _ _ _ _ _ _ _ rfl ?_
    have S0 : St b (s.setGen g .running) (Li ++ ((a, genC g) :: (C, frC (flP tp)) :: (tp, tupS ["  ", tagOf n]) :: F)) (Gi ++ ((g, IsRun) :: GF)) :=
      ((S.setGen (P' := IsRun) .head rfl rfl).perm (perm3 _ _ _ _ _)).gperm List.perm_middle
    exact loop_seg xs hA.in1 hF hlen hgv (fun r Li' Gi' hlt hl' hg' => ih r.length (by omega) r Li' Gi' (Nat.le_refl _) hl' hg') S0 (fun e => hend (by rw [e]; rfl)) (fun y r e t s' L₂ G₂ hg S => hyld (vS y) (r.map vS) (by rw [e]; rfl) _ s' L₂ G₂ ⟨t, rfl⟩ hg S)
end
end Mine

-- part GV2
open PySem PySem.W PySem.W.X PyProof.Rows PySem.Calls
set_option Elab.async false
set_option maxRecDepth 100000
set_option maxHeartbeats 1000000
namespace Mine

def itC (l : Addr) (i : Nat) : Cell := fun o => o.cls = .type "list_iterator" ∧ o.data = .fields #[.ref l, .int i 0]

section
variable {prog : Program} {w : World} {b : Shared} {Lr : Ledger} {d : Nat} {mg mb : Str → Option Value} {names : List Str} {ys₀ : List Str}

/-- a reader that has not begun -/
theorem gives_fresh (B : Bs b mg mb names) (hfree : ("int" : Str) ∉ names) {a C f : Addr} {cd v1 v2 : Value} {g : Nat} {n : Int} (hn : n = 1 ∨ n = 2) (hI : IntTo prog w b v2 n) {xs : List Str} {Ls : Ledger} {Gs : GLedger}
    (hlen : ∀ x ∈ xs, x.length ≤ sizeLine) (hsrc : GivesI prog w b Lr d v1 (xs.map vS) Ls Gs) :
    Gives prog w b Lr (d + 1) (.ref a) ((readS n xs).map vS) ((a, genC g) :: (C, frC (fl0 v1 v2)) :: Ls) ((g, IsFresh (rEnv C f cd)) :: Gs) := by
  refine gives_of fun A E s F GF Q hA hF S hend hyld => ?_
  obtain ⟨gs, hgs, hfr⟩ := S.gens _ (.head _)
  cases hfr
  have hg := S.isGen (.head _)
  refine r_pyNext_gen hA.handled (B.nolimit.keeps S.keep) (by have := hA.depth; omega) hg hgs (.inl ⟨rfl, rfl, rfl⟩) ?_
  have S0 := S.setGen (P' := IsRun) (gs := .running) .head rfl rfl
  refine rg_begin (v1 := v1) (v2 := v2) B hfree hn hI hA.handled S0 (.tail _ (.head _)) fun tp s₁ S₁ => ?_
  -- the ledger as the loop wants it
  have hset : setL C (frC (fl2 v1 v2 n tp)) ((a, genC g) :: (C, frC (fl0 v1 v2)) :: (Ls ++ F)) = (a, genC g) :: (C, frC (fl2 v1 v2 n tp)) :: (Ls ++ F) := by
    have hne : a ≠ C := by
      have := List.nodup_cons.mp S.nodup
      exact fun e => this.1 (e ▸ List.mem_map.mpr ⟨_, .head _, rfl⟩)
    unfold setL
    rw [if_neg hne]
    unfold setL
    rw [if_pos rfl]
  have S₂ : St b s₁ ((tp, tupS ["  ", tagOf n]) :: (a, genC g) :: (C, frC (fl2 v1 v2 n tp)) :: (Ls ++ F)) ((g, IsRun) :: (Gs ++ GF)) := by
    rw [← hset]; exact S₁
  have S₃ : St b s₁ (Ls ++ ((a, genC g) :: (C, frC (flP tp)) :: (tp, tupS ["  ", tagOf n]) :: F)) (Gs ++ ((g, IsRun) :: GF)) := by
    have S₄ := S₂.less (P' := frC (flP tp)) (.tail _ (.tail _ (.head _))) (.tail (.tail .head)) fun o ho => frC_sub (fun q hq => by cases List.mem_singleton.mp hq; exact .tail _ (.tail _ (.tail _ (.head _)))) ho
    refine (S₄.perm ?_).gperm List.perm_middle
    refine (perm3 _ _ _ _ _).trans ?_
    refine List.Perm.trans ?_ (List.Perm.swap _ _ _)
    exact .cons _ (List.Perm.swap _ _ _)
  have hA' : Ar (A.in1.over (.func rBody (rEnv C f cd)) []) d := hA.in1.func
  refine hsrc _ _ _ ((a, genC g) :: (C, frC (flP tp)) :: (tp, tupS ["  ", tagOf n]) :: F) ((g, IsRun) :: GF) _ hA' (fun q hq => .tail _ (.tail _ (.tail _ (hF q hq)))) S₃ fun it s₂ L₂ G₂ hgv _ S₄ p => ?_
  exact loop_seg xs hA.in1 hF hlen hgv (fun r Li' Gi' _ hl' hg' => gives_loop B r.length r Li' Gi' (Nat.le_refl _) hl' hg') S₄ (fun e => hend (by rw [e]; rfl)) (fun y r e t s' L₂ G₂ hg S => hyld (vS y) (r.map vS) (by rw [e]; rfl) _ s' L₂ G₂ ⟨t, rfl⟩ hg S)

theorem St.drop1 {s : Shared} {a : Addr} {P : Cell} {L : Ledger} {G : GLedger} (S : St b s ((a, P) :: L) G) {h' : Heap} (hs : Heap.ExtBut a s.heap h') (tk : Nat := s.toks) : St b { s with heap := h', toks := tk } L G := by
  have hb := (S.own _ (.head _)).1
  have hnd := List.nodup_cons.mp S.nodup
  refine ⟨fun c oc e => hs c oc (fun h => ?_) (S.keep c oc e), fun p hp => ?_, hnd.2, S.os, S.bare, S.gens, S.gnodup⟩
  · subst h; rw [hb] at e; cases e
  · obtain ⟨h1, op, e, hq⟩ := S.own p (.tail _ hp)
    exact ⟨h1, op, hs _ _ (fun h => hnd.1 (h ▸ List.mem_map.mpr ⟨p, hp, rfl⟩)) e, hq⟩

/-- a list, by the makes of its items -/
def lstP (Ps : List VP) : Cell := fun o => ∃ vs n, o = lstObj vs n ∧ vs.size = Ps.length ∧ ∀ (i : Nat) (P : VP), Ps[i]? = some P → ∃ v, vs[i]? = some v ∧ P v

theorem strsAre_len {vs : List Value} {ys : List Str} (h : StrsAre vs ys) : vs.length = ys.length := by
  induction h with
  | nil => rfl
  | cons _ _ _ ih => simp [ih]
theorem strsAre_get {vs : List Value} {ys : List Str} (h : StrsAre vs ys) {i : Nat} {y : Str} (e : ys[i]? = some y) : ∃ t, vs[i]? = some (.str y t) := by
  induction h generalizing i with
  | nil => simp at e
  | cons z t _ ih =>
    cases i with
    | zero => simp at e; subst e; exact ⟨t, rfl⟩
    | succ i => simp at e; obtain ⟨t', h'⟩ := ih e; exact ⟨t', by simpa using h'⟩
theorem intsAre_get {vs : List Value} {ys : List Int} (h : IntsAre vs ys) {i : Nat} {y : Int} (e : ys[i]? = some y) : ∃ t, vs[i]? = some (.int y t) := by
  induction h generalizing i with
  | nil => simp at e
  | cons z t _ ih =>
    cases i with
    | zero => simp at e; subst e; exact ⟨t, rfl⟩
    | succ i => simp at e; obtain ⟨t', h'⟩ := ih e; exact ⟨t', by simpa using h'⟩

/-- the list at l, in the ledger or ahead of the call, holds values of these makes -/
def HasL (b : Shared) (Lr : Ledger) (l : Addr) (Ps : List VP) : Prop :=
  ∀ (s : Shared) (F : Ledger) (G : GLedger), (∀ p ∈ Lr, p ∈ F) → St b s F G → ∃ vs : Array Value, s.heap.IsList l vs ∧ vs.size = Ps.length ∧ ∀ (i : Nat) (P : VP), Ps[i]? = some P → ∃ v, vs[i]? = some v ∧ P v
theorem hasL_S {l : Addr} {ys : List Str} (h : (l, lstS ys) ∈ Lr) : HasL b Lr l (ys.map vS) := fun s F G hF S => by
  obtain ⟨vs, hl, hs⟩ := S.lst (hF _ h)
  refine ⟨vs, hl, ?_, fun i P e => ?_⟩
  · have := strsAre_len hs; simpa using this
  · rw [List.getElem?_map] at e
    obtain ⟨y, hy, rfl⟩ := Option.map_eq_some_iff.mp e
    obtain ⟨t, ht⟩ := strsAre_get hs hy
    exact ⟨_, by rw [← Array.getElem?_toList]; exact ht, t, rfl⟩
theorem hasL_V {l : Addr} {vs : List Value} (h : (l, lstV vs) ∈ Lr) : HasL b Lr l (vs.map vE) := fun s F G hF S => by
  refine ⟨vs.toArray, S.lstv (hF _ h), by simp, fun i P e => ?_⟩
  rw [List.getElem?_map] at e
  obtain ⟨y, hy, rfl⟩ := Option.map_eq_some_iff.mp e
  exact ⟨y, by simpa using hy, rfl⟩
theorem hasL_P {l : Addr} {Ps : List VP} (h : (l, lstP Ps) ∈ Lr) : HasL b Lr l Ps := fun s F G hF S => by
  obtain ⟨_, e, vs, n, rfl, h1, h2⟩ := S.get (hF _ h)
  exact ⟨vs, ⟨_, e, rfl, n, rfl⟩, h1, h2⟩
theorem hasL_base {l : Addr} {vs : List Value} {ns : List Int} (h : b.heap.IsList l vs.toArray) (hi : IntsAre vs ns) : HasL b Lr l (ns.map vI) := fun s F G _ S => by
  refine ⟨vs.toArray, h.at fun o e => S.keep _ _ e, by simpa using hi.length, fun i P e => ?_⟩
  rw [List.getElem?_map] at e
  obtain ⟨y, hy, rfl⟩ := Option.map_eq_some_iff.mp e
  obtain ⟨t, ht⟩ := intsAre_get hi hy
  exact ⟨_, by simpa using ht, t, rfl⟩

/-- a list's iterator -/
theorem gives_iter {I l : Addr} {Ps₀ : List VP} (hLr : HasL b Lr l Ps₀) : ∀ (Ps : List VP) (i : Nat), Ps₀.drop i = Ps → Gives prog w b Lr d (.ref I) Ps [(I, itC l i)] [] := by
  intro Ps
  induction Ps with
  | nil =>
    intro i hi A E s F GF Q hA hF S hQ
    obtain ⟨o, ho, hc, hd⟩ := S.get (.head _)
    obtain ⟨vs, hl, hz, _⟩ := hLr s _ _ (fun q hq => .tail _ (hF q hq)) S
    have hx : vs[i]? = none := by
      have h1 : Ps₀.length ≤ i := List.drop_eq_nil_iff.mp hi
      exact Array.getElem?_eq_none (by rw [hz]; exact h1)
    exact wpAny_pyNext_list_end hA.handled ⟨o, ho, hc, hd⟩ hl hx fun h' he => hQ _ (S.drop1 he)
  | cons P r ih =>
    intro i hi A E s F GF Q hA hF S hQ
    obtain ⟨o, ho, hc, hd⟩ := S.get (.head _)
    obtain ⟨vs, hl, _, hv⟩ := hLr s _ _ (fun q hq => .tail _ (hF q hq)) S
    have hy : Ps₀[i]? = some P := by
      have := congrArg (·[0]?) hi
      simpa using this
    have hr : Ps₀.drop (i + 1) = r := by
      have := congrArg List.tail hi
      simpa [List.tail_drop] using this
    obtain ⟨u, hx, hu⟩ := hv i P hy
    refine wpAny_pyNext_list_item ⟨o, ho, hc, hd⟩ hl hx fun h' hit hsb => ?_
    obtain ⟨o', ho', hc', hd'⟩ := hit
    exact hQ u _ _ _ hu (ih (i + 1) hr) (S.set (P' := itC l (i + 1)) .head ⟨_, .head _⟩ hsb.extBut ho' ⟨hc', hd'⟩)

theorem selfI_iter {I l : Addr} {i : Nat} : SelfI prog w b (.ref I) [(I, itC l i)] := fun A E s F GF Q S h => by
  obtain ⟨o, ho, hc, hd⟩ := S.get (.head _)
  exact wpAny_pyIter_listiter ⟨o, ho, hc, hd⟩ h
theorem selfI_gen {a : Addr} {g : Nat} {L₁ : Ledger} : SelfI prog w b (.ref a) ((a, genC g) :: L₁) := fun A E s F GF Q S h => wpAny_pyIter_gen (S.isGen (.head _)) h

/-- a list -/
theorem givesI_list {l : Addr} {Ps : List VP} (hLr : HasL b Lr l Ps) : GivesI prog w b Lr d (.ref l) Ps [] [] := by
  intro A E s F GF Q hA hF S hQ
  obtain ⟨vs, hl, _⟩ := hLr s _ _ hF S
  refine wpAny_pyIter_list hl ?_
  exact hQ _ _ _ _ (gives_iter hLr Ps 0 rfl) selfI_iter (S.alloc (P := itC l 0) ⟨rfl, rfl⟩)

/-- an iterator is its own iterator -/
theorem givesI_gen {a : Addr} {g : Nat} {ys : List VP} {L₁ : Ledger} {G₁ : GLedger} (h : Gives prog w b Lr d (.ref a) ys ((a, genC g) :: L₁) G₁) : GivesI prog w b Lr d (.ref a) ys ((a, genC g) :: L₁) G₁ := by
  intro A E s F GF Q hA hF S hQ
  exact wpAny_pyIter_gen (S.isGen (.head _)) (hQ _ _ _ _ h selfI_gen S)

/-- list(..) of a reader -/
theorem r_list_gives {A : Around} {E : Value → Shared → Prop} {s : Shared} {a : Addr} {g : Nat} {ys : List Str} {L₁ F : Ledger} {G₁ GF : GLedger} {Q : Value → Shared → Prop} (hg : Gives prog w b Lr d (.ref a) (ys.map vS) ((a, genC g) :: L₁) G₁) (hA : Ar A d) (hF : ∀ p ∈ Lr, p ∈ F)
    (S : St b s ((a, genC g) :: L₁ ++ F) (G₁ ++ GF)) (hz : ys.length ≤ sizeLine) (h : ∀ l s', St b s' ((l, lstS ys) :: F) GF → Q (.ref l) s') : wpAny (model prog w) A (call (.type "list") [.ref a]) Q E s := by
  let J : Addr → Nat → List Value → Shared → Prop := fun Sa k acc s => ∃ pre post L₂ G₂, ys = pre ++ post ∧ post.length = k ∧ StrsAre acc pre ∧ Gives prog w b Lr d (.ref a) (post.map vS) L₂ G₂ ∧ St b s (L₂ ++ ((Sa, lstV acc) :: F)) (G₂ ++ GF)
  refine r_list_gen (g := g) S (.head _) J (fun Sa s' S' => ⟨ys.length, [], ys, _, _, rfl, rfl, .nil, hg, S'.perm List.perm_middle⟩) ?_
  rintro Sa k acc s₁ ⟨pre, post, L₂, G₂, e, hk, hs, hg₂, S₁⟩
  have hA2 : Ar A.in1.in1 d := hA.in1.in1
  refine hg₂.next (F := (Sa, lstV acc) :: F) hA2 (fun q hq => .tail _ (hF q hq)) S₁ (fun e' s₂ S₂ => ?_) (fun y r e' u s₂ L₃ G₃ hu hg₃ S₂ => ?_)
  · have e' : post = [] := List.map_eq_nil_iff.mp e'
    subst e'
    rw [List.append_nil] at e
    subst e
    exact h _ _ (S₂.less (.head _) .head fun o ho => let ⟨n, hn⟩ := ho; ⟨_, n, hn, by simpa using hs⟩)
  · obtain ⟨y, r, rfl, rfl, rfl⟩ := List.map_eq_cons_iff.mp e'
    obtain ⟨t, rfl⟩ := hu
    refine ⟨_, _, L₃ ++ ((Sa, lstV (acc ++ [.str y t])) :: F), S₂, List.mem_append_right _ (.head _), Upd.head.left _, ?_, fun s₃ S₃ => ?_⟩
    · rw [strsAre_len hs]
      have : ys.length = pre.length + (r.length + 1) := by rw [e]; simp
      omega
    · refine ⟨r.length, by simp only [List.length_cons] at hk; omega, pre ++ [y], r, L₃, G₃, by rw [e]; simp, rfl, hs.append' (.cons _ _ .nil), hg₃, S₃⟩
end
end Mine

-- part LC
open PySem PySem.W PySem.W.X PyProof.Rows PySem.Calls
set_option Elab.async false
set_option maxRecDepth 100000
set_option maxHeartbeats 1000000
namespace Mine

/-- no exception -/
abbrev NoE : Value → Shared → Prop := fun _ _ => False

section
variable {prog : Program} {w : World} {A : Around} {E : Value → Shared → Prop} {b s : Shared} {L L' X : Ledger} {G : GLedger} {env : Env} {Lr : Ledger} {d : Nat} {mg mb : Str → Option Value} {names : List Str}

theorem noE {α : Type} {t : Sem α} {Q : α → Shared → Prop} (h : wpAny (model prog w) A t Q NoE s) : wpAny (model prog w) A t Q E s := wpAny_mono h (fun _ _ x => x) fun _ _ x => x.elim

/-- what follows a statement -/
def Then (prog : Program) (w : World) (A : Around) (env : Env) (rest : List Stmt) (Q : Flow → Shared → Prop) (E : Value → Shared → Prop) (f : Flow) (s' : Shared) : Prop :=
  match f with | .next => wpAny (model prog w) A (execs rest env) Q E s' | f => Q f s'
theorem r_seq {st : Stmt} {rest : List Stmt} {Q : Flow → Shared → Prop} (h : wpAny (model prog w) A (exec st env) (Then prog w A env rest Q E) E s) : wpAny (model prog w) A (execs (st :: rest) env) Q E s :=
  wpAny_execs_cons (wpAny_mono h (fun f s' h' => by cases f <;> exact h') fun _ _ x => x)
theorem then_next {rest : List Stmt} {Q : Flow → Shared → Prop} (h : wpAny (model prog w) A (execs rest env) Q E s) : Then prog w A env rest Q E .next s := h
theorem then_ret {rest : List Stmt} {Q : Flow → Shared → Prop} {v : Value} (h : Q (.ret v) s) : Then prog w A env rest Q E (.ret v) s := h

/-- what follows a turn of a loop -/
def Turn (Q : Flow → Shared → Prop) (N : Shared → Prop) (f : Flow) (s : Shared) : Prop :=
  match f with | .next | .cont => N s | .brk => Q .next s | .ret v => Q (.ret v) s
theorem turn_next {Q : Flow → Shared → Prop} {N : Shared → Prop} (h : N s) : Turn Q N .next s := h
theorem turn_ret {Q : Flow → Shared → Prop} {N : Shared → Prop} {v : Value} (h : Q (.ret v) s) : Turn Q N (.ret v) s := h

theorem perm_swap3 {α : Type} (a b c : List α) : (a ++ (b ++ c)).Perm (b ++ (a ++ c)) := by
  rw [← List.append_assoc, ← List.append_assoc]
  exact List.perm_append_comm.append_right c

/-- a for over whatever is iterable -/
theorem r_for {v₀ : Value} {Ps : List VP} {L₁ F₀ : Ledger} {G₁ : GLedger} {target iter : Expr} {body : List Stmt} {pos : Pos} {Q : Flow → Shared → Prop} (J : List VP → Ledger → Prop)
    (hsrc : GivesI prog w b Lr d v₀ Ps L₁ G₁) (hA : Ar A d)
    (hiter : wpAny (model prog w) A (eval iter env) (fun v s₁ => v = v₀ ∧ St b s₁ (L₁ ++ (F₀ ++ X)) (G₁ ++ G)) NoE s)
    (h0 : J [] F₀) (hR : ∀ pre F, J pre F → ∀ p ∈ Lr, p ∈ F ++ X)
    (turn : ∀ pre P r u F L₂ G₂ s, Ps = pre ++ P :: r → P u → J pre F → St b s (F ++ (L₂ ++ X)) (G₂ ++ G) →
      wpAny (model prog w) A (assign target env u) (fun _ s₂ => wpAny (model prog w) A (execs body env) (Turn Q fun s₃ => ∃ F', J (pre ++ [P]) F' ∧ St b s₃ (F' ++ (L₂ ++ X)) (G₂ ++ G)) NoE s₂) NoE s)
    (done : ∀ F s, J Ps F → St b s (F ++ X) G → Q .next s)
    (hs : ∀ x, foldedSetIterable iter env x = pure x := by intro _; kernel_rfl) (ht : ∀ it v, letOwnedTupleGo target it v = pure () := by intro _ _; kernel_rfl) :
    wpAny (model prog w) A (exec (.For target iter body [] pos) env) Q E s := by
  refine wpAny_For (wpAny_mono hiter (fun v s₁ h₁ => ?_) fun _ _ x => x.elim) hs
  obtain ⟨rfl, S₁⟩ := h₁
  refine hsrc A _ _ _ _ _ hA (hR [] F₀ h0) S₁ fun it s₂ L₂ G₂ hg _ S₂ => ?_
  refine codeAny_forLoop (fun n s => ∃ pre post F L₂ G₂, Ps = pre ++ post ∧ post.length = n ∧ J pre F ∧ Gives prog w b Lr d it post L₂ G₂ ∧ St b s (L₂ ++ (F ++ X)) (G₂ ++ G)) ?_ Ps.length ⟨[], Ps, F₀, L₂, G₂, rfl, rfl, h0, hg, S₂⟩ (ht it)
  rintro n s₃ ⟨pre, post, F, L₃, G₃, e, hn, hj, hg₃, S₃⟩
  refine hg₃.next hA (hR pre F hj) S₃ (fun e' s₄ S₄ => ?_) (fun P r e' u s₄ L₄ G₄ hu hg₄ S₄ => ?_)
  · subst e'
    rw [List.append_nil] at e
    subst e
    exact wpAny_execs_nil (done F s₄ hj S₄)
  · subst e'
    refine wpAny_mono (turn pre P r u F L₄ G₄ s₄ e hu hj (S₄.perm (perm_swap3 F L₄ X))) (fun _ s₅ h₅ => ?_) fun _ _ x => x.elim
    refine wpAny_mono h₅ (fun f s₆ h₆ => ?_) fun _ _ x => x.elim
    have nx : (∃ F', J (pre ++ [P]) F' ∧ St b s₆ (F' ++ (L₄ ++ X)) (G₄ ++ G)) → ∃ m, m < n ∧ ∃ pre post F L₂ G₂, Ps = pre ++ post ∧ post.length = m ∧ J pre F ∧ Gives prog w b Lr d it post L₂ G₂ ∧ St b s₆ (L₂ ++ (F ++ X)) (G₂ ++ G) := by
      rintro ⟨F', hj', S'⟩
      exact ⟨r.length, by simp only [List.length_cons] at hn; omega, pre ++ [P], r, F', L₄, G₄, by rw [e]; simp, rfl, hj', hg₄, S'.perm (perm_swap3 L₄ F' X)⟩
    cases f with
    | next => exact nx h₆
    | cont => exact nx h₆
    | brk => exact h₆
    | ret v => exact h₆

/-- a while by a measure -/
theorem r_while {test : Expr} {body : List Stmt} {pos : Pos} {Q : Flow → Shared → Prop} (I : Nat → Shared → Prop) (n : Nat) (h : I n s)
    (turn : ∀ n s, I n s → wpAny (model prog w) A (isTrue test env (eval test env)) (fun c s₂ => if c = true then wpAny (model prog w) A (execs body env) (Turn Q fun s₃ => ∃ m, m < n ∧ I m s₃) NoE s₂ else Q .next s₂) NoE s) :
    wpAny (model prog w) A (exec (.While test body [] pos) env) Q E s := by
  refine wpAny_While (codeAny_whileLoop I (fun n s hi => ?_) n h)
  refine wpAny_mono (turn n s hi) (fun c s₂ h₂ => ?_) fun _ _ x => x.elim
  cases c with
  | true =>
    rw [if_pos rfl] at h₂
    show wpAny _ _ _ _ _ _
    refine wpAny_mono h₂ (fun f s₃ h₃ => ?_) fun _ _ x => x.elim
    cases f <;> exact h₃
  | false =>
    rw [if_neg Bool.false_ne_true] at h₂
    exact wpAny_execs_nil h₂
end
end Mine

-- part LCc
open PySem PySem.W PySem.W.X PyProof.Rows PySem.Calls
set_option Elab.async false
set_option maxRecDepth 100000
set_option maxHeartbeats 1000000
namespace Mine

section
variable {prog : Program} {w : World} {A : Around} {E : Value → Shared → Prop} {b s : Shared} {L L' X : Ledger} {G : GLedger} {env : Env} {Lr : Ledger} {d : Nat} {mg mb : Str → Option Value} {names : List Str}

abbrev testsOf (ifs : List Expr) (env : Env) : Sem Bool := forIn ifs true fun c r => if r = true then do let ok ← isTrue c env (eval c env); pure (ForInStep.yield ok) else pure (ForInStep.yield r)

/-- a comprehension over whatever is iterable -/
theorem comp_core {v₀ : Value} {Ps : List VP} {L₁ F₀ : Ledger} {G₁ : GLedger} {elt iter : Expr} {x : Str} {px pos pos' : Pos} {ifs : List Expr} {scope : Scope} {cl : List (Str × Addr)} {use : Option (Value → Sem Unit)} {Q : Value → Shared → Prop}
    (J : List VP → List Value → Ledger → Prop)
    (hsrc : GivesI prog w b Lr d v₀ Ps L₁ G₁) (hA : Ar A d)
    (hiter : wpAny (model prog w) A (eval iter env) (fun v s₁ => v = v₀ ∧ St b s₁ (L₁ ++ (F₀ ++ X)) (G₁ ++ G)) NoE s)
    (h0 : J [] [] F₀) (hR : ∀ pre acc F, J pre acc F → ∀ p ∈ Lr, p ∈ F ++ X) (hz : ∀ pre acc F, J pre acc F → acc.length ≤ pre.length) (hPs : Ps.length ≤ sizeLine)
    (turn : ∀ pre P r u acc F C D L₂ G₂ s, Ps = pre ++ P :: r → P u → J pre acc F → St b s ((C, frC [(x, vE u)]) :: (D, lstV acc) :: (F ++ (L₂ ++ X))) (G₂ ++ G) →
      wpAny (model prog w) A (testsOf ifs (compEnvC scope cl C env)) (fun ok s₂ =>
        if ok = true then wpAny (model prog w) A (eval elt (compEnvC scope cl C env)) (fun y s₃ => ∃ F', J (pre ++ [P]) (acc ++ [y]) F' ∧ St b s₃ ((C, frC [(x, vE u)]) :: (D, lstV acc) :: (F' ++ (L₂ ++ X))) (G₂ ++ G)) NoE s₂
        else ∃ F', J (pre ++ [P]) acc F' ∧ St b s₂ ((C, frC [(x, vE u)]) :: (D, lstV acc) :: (F' ++ (L₂ ++ X))) (G₂ ++ G)) NoE s)
    (hfin : ∀ acc F C D s', J Ps acc F → St b s' ((C, frC []) :: (D, lstV acc) :: (F ++ X)) G → compPost (model prog w) A E use Q (.ref D) C (.ok .next) s')
    (hclos : closureFor scope env = pure cl) (hkind : scope.kind = .function) (hnames : ∀ y ∈ scope.names, y.2 = .local → scope.names.lookup y.1 = some .local)
    (hcell : ∀ y ∈ scope.names, y.2 ≠ .cell) (hx : scope.names.lookup x = some .local) (hs : ∀ v, foldedSetIterable iter env v = pure v) :
    wpAny (model prog w) A (comprehension (.ListComp elt [⟨.Name x px, iter, ifs, 0⟩] scope pos') scope env pos (newList []) false (eval iter env) use) Q E s := by
  refine wpAny_comprehension_free (g := ⟨.Name x px, iter, ifs, 0⟩) (gs := []) rfl hs hclos hkind hnames ?_
  refine wpAny_mono hiter (fun v s₁ h₁ => ?_) fun _ _ x => x.elim
  obtain ⟨rfl, S₁⟩ := h₁
  refine hsrc A _ _ _ _ _ hA (hR [] [] F₀ h0) S₁ fun it s₂ L₂ G₂ hg hself S₂ => ?_
  refine r_newList S₂ lstV_mk fun D s₃ S₃ => ?_
  refine wpAny_newFunctionEnv (scope := scope) (binds := []) hcell (fun y hy => nomatch hy) (fun h' hn hsb => ?_) hkind
  obtain ⟨oC, hoC, hcC⟩ := frC_of (fl := []) hn (fun p hp => nomatch hp)
  have S₄ : St b { s₃ with heap := h', toks := s₃.toks + ([] : List (Str × Value)).length } ((s₃.heap.objs.size, frC []) :: (D, lstV []) :: (L₂ ++ (F₀ ++ X))) (G₂ ++ G) :=
    S₃.new (heap_get_size _) (fun a o e => hsb.extBut a o (Nat.ne_of_lt (Heap.lt_size e)) (Heap.get?_push_of_some _ e)) hoC hcC
  generalize hC : s₃.heap.objs.size = C at S₄
  show codeAny _ A (.compStart _ 0 it (.ref D) (compEnvC scope cl C env)) (compPost _ A E use Q (.ref D) C) _
  have S₅ : St b _ (L₂ ++ ((C, frC []) :: (D, lstV []) :: (F₀ ++ X))) (G₂ ++ G) := S₄.perm (by
    refine List.perm_middle.trans (.cons _ ?_)
    exact List.perm_middle)
  have loop : ∀ (it : Value) (s : Shared) (L₂ : Ledger) (G₂ : GLedger), Gives prog w b Lr d it Ps L₂ G₂ → St b s (L₂ ++ ((C, frC []) :: (D, lstV []) :: (F₀ ++ X))) (G₂ ++ G) →
      codeAny (model prog w) A (.compLoop (.ListComp elt [⟨.Name x px, iter, ifs, 0⟩] scope pos') 0 it (.ref D) (compEnvC scope cl C env)) (compPost (model prog w) A E use Q (.ref D) C) s := by
    intro it s L₂ G₂ hg S
    refine codeAny_compLoop_tests (fun n s => ∃ pre post acc F L₂ G₂, Ps = pre ++ post ∧ post.length = n ∧ J pre acc F ∧ Gives prog w b Lr d it post L₂ G₂ ∧ St b s (L₂ ++ ((C, frC []) :: (D, lstV acc) :: (F ++ X))) (G₂ ++ G)) ?_ Ps.length
      ⟨[], Ps, [], F₀, L₂, G₂, rfl, rfl, h0, hg, S⟩
    rintro n s₃ ⟨pre, post, acc, F, L₃, G₃, e, hn, hj, hg₃, S₃⟩
    refine hg₃.next hA (fun q hq => .tail _ (.tail _ (hR pre acc F hj q hq))) S₃ (fun e' s₄ S₄ => ?_) (fun P r e' u s₄ L₄ G₄ hu hg₄ S₄ => ?_)
    · subst e'
      rw [List.append_nil] at e
      subst e
      exact hfin acc F C D s₄ hj S₄
    · subst e'
      have S₅ : St b s₄ ((C, frC []) :: (D, lstV acc) :: (F ++ (L₄ ++ X))) (G₄ ++ G) := S₄.perm (by
        refine List.Perm.trans ?_ (List.perm_middle.symm)
        refine .cons _ ?_
        refine List.Perm.trans ?_ (List.perm_middle.symm)
        exact .cons _ (perm_swap3 F L₄ X))
      refine wpAny_assign_Name (r_store (P := vE u) S₅ (.head _) rfl .nil .head (fun s₅ S₆ => ?_) (lookup_relabel_local hx) (by show (scope.kind == .class || (scope.kind == .module && _)) = false; rw [hkind]; rfl))
      refine wpAny_mono (turn pre P r u acc F C D L₄ G₄ s₅ e hu hj S₆) (fun ok s₆ h₆ => ?_) fun _ _ x => x.elim
      have back : ∀ {acc' F' s}, St b s ((C, frC [(x, vE u)]) :: (D, lstV acc') :: (F' ++ (L₄ ++ X))) (G₄ ++ G) → St b s (L₄ ++ ((C, frC []) :: (D, lstV acc') :: (F' ++ X))) (G₄ ++ G) := fun S => by
        refine (S.less (.head _) .head fun o ho => frC_sub (fl' := []) (fun q hq => nomatch hq) ho).perm ?_
        refine List.perm_middle.trans (.cons _ ?_)
        refine List.perm_middle.trans (.cons _ ?_)
        exact perm_swap3 _ _ _
      cases ok with
      | true =>
        rw [if_pos rfl] at h₆ ⊢
        refine wpAny_mono h₆ (fun y s₇ h₇ => ?_) fun _ _ x => x.elim
        obtain ⟨F', hj', S₇⟩ := h₇
        have hlen : acc.length < sizeLine := by
          have h1 := hz pre acc F hj
          have h2 : Ps.length = pre.length + (r.length + 1) := by rw [e]; simp
          omega
        obtain ⟨_, hoD, nD, rfl⟩ := S₇.get (.tail _ (.head _))
        refine wpAny_list_append_plain (x := y) ⟨nD, hoD⟩ (fun h' hl hsb => ?_) (by simpa using Nat.le_of_lt hlen)
        obtain ⟨n', ho'⟩ := hl
        refine ⟨r.length, by simp only [List.length_cons] at hn; omega, pre ++ [P], r, acc ++ [y], F', L₄, G₄, by rw [e]; simp, rfl, hj', hg₄, back ?_⟩
        exact S₇.set (P' := lstV (acc ++ [y])) (.tail .head) ⟨_, .tail _ (.head _)⟩ hsb.extBut ho' ⟨n', by simp⟩
      | false =>
        rw [if_neg Bool.false_ne_true] at h₆ ⊢
        obtain ⟨F', hj', S₇⟩ := h₆
        exact ⟨r.length, by simp only [List.length_cons] at hn; omega, pre ++ [P], r, acc, F', L₄, G₄, by rw [e]; simp, rfl, hj', hg₄, back S₇⟩
  refine codeAny_compStart_list (loop it _ L₂ G₂ hg S₅) ?_
  exact hself A _ _ _ _ _ S₅ (loop it _ L₂ G₂ hg S₅)
end
end Mine

-- part LD
open PySem PySem.W PySem.W.X PyProof.Rows PySem.Calls PySem.Spec
set_option Elab.async false
set_option maxRecDepth 100000
set_option maxHeartbeats 1000000
namespace Mine

section
variable {prog : Program} {w : World} {A : Around} {E : Value → Shared → Prop} {b s : Shared} {L L' X : Ledger} {G : GLedger} {env : Env} {Lr : Ledger} {d : Nat} {mg mb : Str → Option Value} {names : List Str} {Q : Value → Shared → Prop}

theorem r_nameE {x : Str} {pos : Pos} {fl : List (Str × VP)} {v : Value} (S : St b s L G) (hf : (env.locals, frC fl) ∈ L) (hx : (x, vE v) ∈ fl) (h : Q v s)
    (hk : env.scope.kind = .function := by kernel_rfl) (hl : env.kindOf x = some .local := by kernel_rfl) (hd : (x == ("__debug__" : Str)) = false := by kernel_rfl) :
    wpAny (model prog w) A (eval (.Name x pos) env) Q E s := r_name S hf hx (fun _ e => e ▸ h) hk hl hd
theorem r_nameI {x : Str} {pos : Pos} {fl : List (Str × VP)} {i : Int} (S : St b s L G) (hf : (env.locals, frC fl) ∈ L) (hx : (x, vI i) ∈ fl) (h : ∀ t, Q (.int i t) s)
    (hk : env.scope.kind = .function := by kernel_rfl) (hl : env.kindOf x = some .local := by kernel_rfl) (hd : (x == ("__debug__" : Str)) = false := by kernel_rfl) :
    wpAny (model prog w) A (eval (.Name x pos) env) Q E s := r_name S hf hx (fun _ ⟨t, e⟩ => e ▸ h t) hk hl hd
theorem r_nameS {x : Str} {pos : Pos} {fl : List (Str × VP)} {y : Str} (S : St b s L G) (hf : (env.locals, frC fl) ∈ L) (hx : (x, vS y) ∈ fl) (h : ∀ t, Q (.str y t) s)
    (hk : env.scope.kind = .function := by kernel_rfl) (hl : env.kindOf x = some .local := by kernel_rfl) (hd : (x == ("__debug__" : Str)) = false := by kernel_rfl) :
    wpAny (model prog w) A (eval (.Name x pos) env) Q E s := r_name S hf hx (fun _ ⟨t, e⟩ => e ▸ h t) hk hl hd

/-! ints -/
theorem r_add {x y : Int} {t u : Tok} (S : St b s L G) (h : ∀ t s', St b s' L G → Q (.int (x + y) t) s') : wpAny (model prog w) A (binaryOp .Add (.int x t) (.int y u)) Q E s := PyProof.Rows.add_int (h _ _ (S.toks _))
theorem r_iadd {x y : Int} {t u : Tok} (S : St b s L G) (h : ∀ t s', St b s' L G → Q (.int (x + y) t) s') : wpAny (model prog w) A (inplaceOp .Add (.int x t) (.int y u)) Q E s := PyProof.Rows.iadd_int (h _ _ (S.toks _))
theorem r_sub {x y : Int} {t u : Tok} (S : St b s L G) (h : ∀ t s', St b s' L G → Q (.int (x - y) t) s') : wpAny (model prog w) A (binaryOp .Sub (.int x t) (.int y u)) Q E s := PyProof.Rows.sub_int (h _ _ (S.toks _))
theorem r_mod {x y : Int} {t u : Tok} (S : St b s L G) (hy : y ≠ 0) (h : ∀ t s', St b s' L G → Q (.int (x.fmod y) t) s') : wpAny (model prog w) A (binaryOp .Mod (.int x t) (.int y u)) Q E s := PyProof.Rows.mod_int hy (h _ _ (S.toks _))
theorem r_fdiv {x y : Int} {t u : Tok} (S : St b s L G) (hy : y ≠ 0) (hp : PylongRoom (model prog w) A s) (h : ∀ t s', St b s' L G → Q (.int (x.fdiv y) t) s') : wpAny (model prog w) A (binaryOp .FloorDiv (.int x t) (.int y u)) Q E s :=
  floordiv_int hy (h _ _ (S.toks _)) (.inr hp)
theorem r_pow {x n : Int} {t u : Tok} (S : St b s L G) (h0 : 0 ≤ n) (h1 : n ≤ 1000000) (hx : x.natAbs < 2 ^ 64) (h : ∀ t s', St b s' L G → Q (.int (x ^ n.toNat) t) s') : wpAny (model prog w) A (binaryOp .Pow (.int x t) (.int n u)) Q E s :=
  pow_int_small h0 h1 hx (h _ _ (S.toks _))
theorem r_lt {x y : Int} {t u : Tok} (h : Q (.bool (decide (x < y))) s) : wpAny (model prog w) A (compareOp .Lt (.int x t) (.int y u)) Q E s := PyProof.Rows.lt_int h
theorem r_gt {x y : Int} {t u : Tok} (h : Q (.bool (decide (y < x))) s) : wpAny (model prog w) A (compareOp .Gt (.int x t) (.int y u)) Q E s := PyProof.Rows.gt_int h
theorem r_eqI {x y : Int} {t u : Tok} (h : Q (.bool (x == y)) s) : wpAny (model prog w) A (compareOp .Eq (.int x t) (.int y u)) Q E s := PyProof.Rows.eq_int h

/-! texts -/
theorem r_addS {x y : Str} {t u : Tok} (S : St b s L G) (hz : x.length + y.length ≤ sizeLine) (h : ∀ t s', St b s' L G → Q (.str (x ++ y) t) s') : wpAny (model prog w) A (binaryOp .Add (.str x t) (.str y u)) Q E s :=
  PyProof.Rows.add_str (fun t' tk => h t' _ (S.toks tk)) hz
theorem r_eqS {x y : Str} {t u : Tok} (h : Q (.bool (x == y)) s) : wpAny (model prog w) A (compareOp .Eq (.str x t) (.str y u)) Q E s := PyProof.Rows.eq_str h
theorem r_neS {x y : Str} {t u : Tok} (h : Q (.bool (x != y)) s) : wpAny (model prog w) A (compareOp .NotEq (.str x t) (.str y u)) Q E s := PyProof.Rows.ne_str h
theorem r_strI {x : Int} {t : Tok} (S : St b s L G) (hx : x.natAbs.log2 < 1920) (h : ∀ t s', St b s' L G → Q (.str (toString x) t) s') : wpAny (model prog w) A (call (.type "str") [.int x t]) Q E s :=
  P.str_of_int hx (h _ _ (S.toks _))

/-! lists -/
theorem St.isLS (S : St b s L G) {l : Addr} {ys : List Str} (h : (l, lstS ys) ∈ L) : ∃ vs n, IsL s.heap l vs n ∧ StrsAre vs.toList ys :=
by
  obtain ⟨_, e, vs, n, rfl, hs⟩ := S.get h
  exact ⟨vs, n, e, hs⟩
theorem St.isLV (S : St b s L G) {l : Addr} {vs : List Value} (h : (l, lstV vs) ∈ L) : ∃ n, IsL s.heap l vs.toArray n :=
by
  obtain ⟨_, e, n, rfl⟩ := S.get h
  exact ⟨n, e⟩
theorem size_of {vs : Array Value} {ys : List Str} (h : StrsAre vs.toList ys) : vs.size = ys.length := by have := strsAre_len h; simpa using this

theorem r_lenS {l : Addr} {ys : List Str} (S : St b s L G) (hl : (l, lstS ys) ∈ L) (hz : ys.length ≤ sizeLine) (h : ∀ t s', St b s' L G → Q (.int ys.length t) s') : wpAny (model prog w) A (call (.builtin "len") [.ref l]) Q E s := by
  obtain ⟨vs, n, hv, hs⟩ := S.isLS hl
  refine call_len_list hv.isList ?_ ?_
  · rw [size_of hs]; have : sizeLine < 2 ^ 63 := by decide
    omega
  · rw [size_of hs]; exact h _ _ (S.toks _)
theorem r_lenV {l : Addr} {vs : List Value} (S : St b s L G) (hl : (l, lstV vs) ∈ L) (hz : vs.length ≤ sizeLine) (h : ∀ t s', St b s' L G → Q (.int vs.length t) s') : wpAny (model prog w) A (call (.builtin "len") [.ref l]) Q E s := by
  obtain ⟨n, hv⟩ := S.isLV hl
  refine call_len_list hv.isList ?_ ?_
  · rw [List.size_toArray]; have : sizeLine < 2 ^ 63 := by decide
    omega
  · rw [List.size_toArray]; exact h _ _ (S.toks _)

theorem r_itemS {value slice : Expr} {l : Addr} {ys : List Str} {k : Int} {u : Tok} {y : Str} (S : St b s L G) (hl : (l, lstS ys) ∈ L) (h0 : 0 ≤ k) (hz : k < 2 ^ 63) (hy : ys[k.toNat]? = some y) (h : ∀ t, Q (.str y t) s)
    (hs : subscripted slice false (.ref l) (.int k u) = operate [.ref l, .int k u] (getItem (.ref l) (.int k u)) := by kernel_rfl) :
    wpAny (model prog w) A (subscriptTail value slice (.ref l) (.int k u)) Q E s := by
  obtain ⟨vs, n, hv, hst⟩ := S.isLS hl
  obtain ⟨t, ht⟩ := strsAre_get hst hy
  exact tail_any hv.isList.typeIs slot_list_getitem.lookup (wpAny_getItem_list hv.isList h0 hz (by rw [← Array.getElem?_toList]; exact ht) (h t)) hs
theorem r_itemV {value slice : Expr} {l : Addr} {vs : List Value} {k : Int} {u : Tok} {v : Value} (S : St b s L G) (hl : (l, lstV vs) ∈ L) (h0 : 0 ≤ k) (hz : k < 2 ^ 63) (hy : vs[k.toNat]? = some v) (h : Q v s)
    (hs : subscripted slice false (.ref l) (.int k u) = operate [.ref l, .int k u] (getItem (.ref l) (.int k u)) := by kernel_rfl) :
    wpAny (model prog w) A (subscriptTail value slice (.ref l) (.int k u)) Q E s := by
  obtain ⟨n, hv⟩ := S.isLV hl
  exact tail_any hv.isList.typeIs slot_list_getitem.lookup (wpAny_getItem_list hv.isList h0 hz (by simpa using hy) h) hs

/-- a method of a list's, of one argument -/
theorem r_meth1 {o e : Expr} {name : Str} {apos pos : Pos} {id : String} (slot : Slot "list" name id) (hty : typeOf (.builtin id) = pure (.type "method_descriptor"))
    (h : wpAny (model prog w) A (eval o env) (fun ov s₁ => ∃ D ob, ov = .ref D ∧ s₁.heap.get? D = some ob ∧ ob.cls = .type "list" ∧ ob.dict = none ∧ wpAny (model prog w) A (callWith pos (.builtin id) [.ref D] [(false, eval e env)] []) Q E s₁) E s)
    (hbase : attributeBase o name env (eval o env) = eval o env := by kernel_rfl) (hline : (apos.endLine == pos.line) = true := by kernel_rfl) (htrees : backTo pos (starEach [e] env) = [(false, eval e env)] := by kernel_rfl) :
    wpAny (model prog w) A (eval (.Call (.Attribute o name apos) [e] [] pos) env) Q E s := by
  refine wpAny_Call_method (T := "list") (id := id) hbase (by rw [htrees]; rfl) hline F.plainAttrs_list slot hty (wpAny_mono h (fun ov s₁ h₁ => ?_) fun _ _ x => x)
  obtain ⟨D, ob, rfl, ho, hc, hd, h₂⟩ := h₁
  refine ⟨⟨ob, ho, hc⟩, fun a e => ?_, by rw [htrees]; exact h₂⟩
  cases e
  exact ⟨ob, ho, hd⟩
end
end Mine

-- part LD2
open PySem PySem.W PySem.W.X PyProof.Rows PySem.Calls PySem.Spec PySem.SeqAt
set_option Elab.async false
set_option maxRecDepth 100000
set_option maxHeartbeats 1000000
namespace Mine

/-- l[lo:hi] -/
def pick {α : Type} (l : List α) (lo hi : Option Int) : List α := (l.drop (kms_lo lo l.length)).take (kms_hi hi l.length - kms_lo lo l.length)
theorem strs_drop {vs : List Value} {ys : List Str} (h : StrsAre vs ys) : ∀ n, StrsAre (vs.drop n) (ys.drop n) := by
  induction h with
  | nil => intro n; simpa using StrsAre.nil
  | cons y t h ih => intro n; cases n with
    | zero => exact .cons y t h
    | succ n => simpa using ih n
theorem strs_take {vs : List Value} {ys : List Str} (h : StrsAre vs ys) : ∀ n, StrsAre (vs.take n) (ys.take n) := by
  induction h with
  | nil => intro n; simpa using StrsAre.nil
  | cons y t h ih => intro n; cases n with
    | zero => exact .nil
    | succ n => simpa using StrsAre.cons y t (ih n)

section
variable {prog : Program} {w : World} {A : Around} {E : Value → Shared → Prop} {b s : Shared} {L L' X : Ledger} {G : GLedger} {env : Env} {Lr : Ledger} {d : Nat} {mg mb : Str → Option Value} {names : List Str} {Q : Value → Shared → Prop}

/-- a cut of a list of texts -/
theorem r_slcS {value : Expr} {lower upper : Option Expr} {p pos : Pos}
    (h : wpAny (model prog w) A (eval value env) (fun o s₁ => ∃ l, o = .ref l ∧ wpAny (model prog w) A (evalPart lower env) (fun vl s₂ => wpAny (model prog w) A (evalPart upper env) (fun vu s₃ =>
      ∃ lo hi ys L G, IsPart vl lo ∧ IsPart vu hi ∧ St b s₃ L G ∧ (l, lstS ys) ∈ L ∧ ys.length ≤ sizeLine ∧ ∀ a s', St b s' ((a, lstS (pick ys lo hi)) :: L) G → Q (.ref a) s') E s₂) E s₁) E s)
    (ht : ∀ o r, letTemporaryGo value o r = pure () := by intro _ _; kernel_rfl) :
    wpAny (model prog w) A (eval (.Subscript value (.Slice lower upper none p) pos) env) Q E s := by
  refine wpAny_Subscript_list_slice (wpAny_mono h (fun o s₁ h₁ => ?_) fun _ _ x => x) ht
  obtain ⟨l, rfl, h₁⟩ := h₁
  refine wpAny_mono h₁ (fun vl s₂ h₂ => wpAny_mono h₂ (fun vu s₃ h₃ => ?_) fun _ _ x => x) fun _ _ x => x
  obtain ⟨lo, hi, ys, L, G, hlo, hhi, S, hl, hz, hQ⟩ := h₃
  obtain ⟨vs, n, hv, hs⟩ := S.isLS hl
  refine ⟨l, vs, lo, hi, rfl, hv.isList, by rw [size_of hs]; exact hz, hlo, hhi, ?_⟩
  have S₁ := S.push { cls := .type "slice", data := .fields #[vl, vu, .none] } s₃.toks
  have e : s₃.heap.objs.size + 1 = (s₃.heap.push { cls := .type "slice", data := .fields #[vl, vu, .none] }).objs.size := by rw [Heap.size_push]
  rw [e]
  refine hQ _ _ (S₁.alloc (o := { cls := .type "list", data := .seq (slicePick vs lo hi none) }) ⟨_, 0, rfl, ?_⟩)
  rw [kms_pick_eq]
  have hsz := strsAre_len hs
  show StrsAre (kms_pick vs.toList lo hi) (pick ys lo hi)
  unfold kms_pick pick
  rw [hsz]
  exact strs_take (strs_drop hs _) _

/-! append, extend -/
theorem r_appS {pos : Pos} {l : Addr} {ys : List Str} {x : Sem Value} (h : wpAny (model prog w) A x (fun v s₁ => ∃ y t L L' G, v = .str y t ∧ St b s₁ L G ∧ (l, lstS ys) ∈ L ∧ Upd L l (lstS (ys ++ [y])) L' ∧ ys.length ≤ sizeLine ∧ ∀ s', St b s' L' G → Q .none s') E s) :
    wpAny (model prog w) A (callWith pos (.builtin "list.append") [.ref l] [(false, x)] []) Q E s := by
  refine P.append_list (wpAny_mono h (fun v s₁ h₁ => ?_) fun _ _ x => x)
  obtain ⟨y, t, L, L', G, rfl, S, hl, hu, hz, hQ⟩ := h₁
  obtain ⟨vs, n, hv, hs⟩ := S.isLS hl
  refine ⟨vs, n, by rw [size_of hs]; exact hz, hv, ?_⟩
  refine hQ _ (S.set hu ⟨_, hl⟩ (Heap.SameBut.update ..).extBut (hv.update _) ⟨_, _, rfl, ?_⟩)
  simpa using hs.append' (.cons y t .nil)
theorem r_appV {pos : Pos} {l : Addr} {vs : List Value} {x : Sem Value} (h : wpAny (model prog w) A x (fun v s₁ => ∃ L L' G, St b s₁ L G ∧ (l, lstV vs) ∈ L ∧ Upd L l (lstV (vs ++ [v])) L' ∧ vs.length ≤ sizeLine ∧ ∀ s', St b s' L' G → Q .none s') E s) :
    wpAny (model prog w) A (callWith pos (.builtin "list.append") [.ref l] [(false, x)] []) Q E s := by
  refine P.append_list (wpAny_mono h (fun v s₁ h₁ => ?_) fun _ _ x => x)
  obtain ⟨L, L', G, S, hl, hu, hz, hQ⟩ := h₁
  obtain ⟨n, hv⟩ := S.isLV hl
  refine ⟨vs.toArray, n, by simpa using hz, hv, ?_⟩
  refine hQ _ (S.set hu ⟨_, hl⟩ (Heap.SameBut.update ..).extBut (hv.update _) ?_)
  exact ⟨_, by rw [show (vs ++ [v]).toArray = vs.toArray.push v by simp]⟩
theorem r_extS {pos : Pos} {l : Addr} {ys : List Str} {x : Sem Value} (h : wpAny (model prog w) A x (fun v s₁ => ∃ l' zs L L' G, v = .ref l' ∧ St b s₁ L G ∧ (l, lstS ys) ∈ L ∧ (l', lstS zs) ∈ L ∧ Upd L l (lstS (ys ++ zs)) L' ∧ ys.length + zs.length ≤ sizeLine ∧ ∀ s', St b s' L' G → Q .none s') E s) :
    wpAny (model prog w) A (callWith pos (.builtin "list.extend") [.ref l] [(false, x)] []) Q E s := by
  refine P.extend_list (wpAny_mono h (fun v s₁ h₁ => ?_) fun _ _ x => x)
  obtain ⟨l', zs, L, L', G, rfl, S, hl, hl', hu, hz, hQ⟩ := h₁
  obtain ⟨vs, n, hv, hs⟩ := S.isLS hl
  obtain ⟨us, m, hv', hs'⟩ := S.isLS hl'
  have h1 := size_of hs
  have h2 := size_of hs'
  refine ⟨l', vs, us, n, m, by omega, by omega, PyProof.Rows.extend_door (by omega), rfl, hv, hv', ?_⟩
  refine hQ _ (S.set hu ⟨_, hl⟩ (Heap.SameBut.update ..).extBut (hv.update _) ⟨_, _, rfl, ?_⟩)
  simpa using hs.append' hs'
/-- rows.append(e), rows.extend(e) as statements -/
theorem r_stmtE {e : Expr} {pos : Pos} {Q : Flow → Shared → Prop} (h : wpAny (model prog w) A (eval e env) (fun v s' => v = .none ∧ Q .next s') E s)
    (hi : interactive env = false := by kernel_rfl) (hs : swapsWith e none pos.line env = pure false := by kernel_rfl) : wpAny (model prog w) A (exec (.Expr e pos) env) Q E s :=
  wpAny_Expr (wpAny_mono h (fun v s' h' => by obtain ⟨rfl, h'⟩ := h'; exact h') fun _ _ x => x) hi hs

/-! two lists of texts compared -/
theorem reads_strs {h : Heap} : ∀ {vs : List Value} {ys : List Str}, StrsAre vs ys → ReadsAll h vs (ys.map PyData.str) []
  | _, _, .nil => .nil
  | _, _, .cons y t hr => .cons (.str y t) (reads_strs hr)
theorem reads_strsL {h : Heap} {a : Addr} {vs : Array Value} {n : Nat} {ys : List Str} (hl : IsL h a vs n) (hs : StrsAre vs.toList ys) : Reads h (.ref a) (.list (ys.map PyData.str)) [a] := by
  obtain ⟨l⟩ := vs
  exact .list hl rfl rfl (reads_strs hs)
/-- texts of real signs -/
def OkS (ys : List Str) : Prop := ∀ y ∈ ys, PyData.strOk y = true
theorem canLay_strs : ∀ ys : List Str, OkS ys → PyData.canLayAll0 (ys.map PyData.str) = true
  | [], _ => rfl
  | y :: r, h => by simp only [List.map_cons, PyData.canLayAll0, PyData.canLay0, canLay_strs r (fun z hz => h z (.tail _ hz)), h y (.head _), Bool.and_self]
theorem depth_strs : ∀ ys : List Str, PyData.depthAll (ys.map PyData.str) ≤ 1
  | [] => by simp [PyData.depthAll]
  | _ :: r => by
    simp only [List.map_cons, PyData.depthAll, PyData.depth]
    have := depth_strs r
    omega
theorem shaped_strs {ys : List Str} (h : OkS ys) : shaped (.list (ys.map PyData.str)) = true := by
  have h1 := depth_strs ys
  have h2 : PyData.depth (.list (ys.map PyData.str)) ≤ 64 := by simp only [PyData.depth]; omega
  simp only [shaped, Bool.and_eq_true, decide_eq_true_eq]
  exact ⟨by simp only [PyData.canLay0]; exact canLay_strs ys h, h2⟩
theorem noMix_strs : ∀ ns ms : List Str, noMixAll (ns.map PyData.str) (ms.map PyData.str) = true
  | [], [] => rfl
  | [], _ :: _ => rfl
  | _ :: _, [] => rfl
  | _ :: r, _ :: q => by simp only [List.map_cons, noMixAll, noMix, noMix_strs r q, Bool.and_self]
theorem same_strs : ∀ ns ms : List Str, PySem.Spec.sameAll (ns.map PyData.str) (ms.map PyData.str) = decide (ns = ms)
  | [], [] => by simp [PySem.Spec.sameAll]
  | [], _ :: _ => by simp [PySem.Spec.sameAll]
  | _ :: _, [] => by simp [PySem.Spec.sameAll]
  | n :: r, k :: q => by
    simp only [List.map_cons, PySem.Spec.sameAll, PySem.Spec.same, same_strs r q]
    by_cases h : n = k <;> simp [h]
theorem r_eqLS {l l' : Addr} {ys zs : List Str} (S : St b s L G) (hl : (l, lstS ys) ∈ L) (hl' : (l', lstS zs) ∈ L) (ho : OkS ys) (ho' : OkS zs) (hu : A.units + 64 < cLine) (h : Q (.bool (decide (ys = zs))) s) : wpAny (model prog w) A (compareOp .Eq (.ref l) (.ref l')) Q E s := by
  obtain ⟨vs, n, hv, hs⟩ := S.isLS hl
  obtain ⟨us, m, hv', hs'⟩ := S.isLS hl'
  exact eq_dataH_same (reads_strsL hv hs) (reads_strsL hv' hs') (shaped_strs ho) (shaped_strs ho') hu (by simp only [noMix]; exact noMix_strs ys zs) (by simp only [PySem.Spec.same]; rw [same_strs]; exact h)
theorem r_neLS {l l' : Addr} {ys zs : List Str} (S : St b s L G) (hl : (l, lstS ys) ∈ L) (hl' : (l', lstS zs) ∈ L) (ho : OkS ys) (ho' : OkS zs) (hu : A.units + 64 < cLine) (h : Q (.bool (!decide (ys = zs))) s) : wpAny (model prog w) A (compareOp .NotEq (.ref l) (.ref l')) Q E s := by
  obtain ⟨vs, n, hv, hs⟩ := S.isLS hl
  obtain ⟨us, m, hv', hs'⟩ := S.isLS hl'
  exact ne_dataH_same (reads_strsL hv hs) (reads_strsL hv' hs') (shaped_strs ho) (shaped_strs ho') hu (by simp only [noMix]; exact noMix_strs ys zs) (by simp only [PySem.Spec.same]; rw [same_strs]; exact h)
end
end Mine

-- part LE
open PySem PySem.W PySem.W.X PyProof.Rows PySem.Calls PySem.Spec PySem.SeqAt
set_option Elab.async false
set_option maxRecDepth 100000
set_option maxHeartbeats 1000000
namespace Mine

section
variable {prog : Program} {w : World} {A : Around} {E : Value → Shared → Prop} {b s : Shared} {L L' X : Ledger} {G : GLedger} {env : Env} {Lr : Ledger} {d : Nat} {mg mb : Str → Option Value} {names : List Str} {Q : Value → Shared → Prop}

def vals (binds : List (Str × Value)) : List (Str × VP) := binds.map fun p => (p.1, vE p.2)

/-- a def of the text's, called -/
theorem r_callDef {f : Addr} {name : Str} {params : Arguments} {body : List Stmt} {scope : Scope} {cd : Value} {vs : List Value} (binds : List (Str × Value)) (B : Bs b mg mb names) (F : FnAt b mg f name params body scope cd) (S : St b s L G) (hroom : A.depth < recursionLimit)
    (hbind : ∀ pm doc, bindArgs (docDef name params body scope pm cd doc) ⟨vs, []⟩ = pure binds)
    (hloc : ∀ p ∈ binds, scope.names.lookup p.1 = some .local) (hlk : ∀ p ∈ binds, binds.reverse.lookup p.1 = some p.2)
    (h : ∀ C s', St b s' ((C, frC (vals binds)) :: L) G → wpAny (model prog w) (A.deeper (envOf name scope C f cd)) (execs body (envOf name scope C f cd)) (fun fl s'' => Q (match fl with | .ret v => v | _ => .none) s'') NoE s')
    (hco : scope.isCoroutine = false) (hgen : scope.isGenerator = false) (hk : scope.kind = .function) (hcell : ∀ y ∈ scope.names, y.2 ≠ .cell) :
    wpAny (model prog w) A (call (.ref f) vs) Q E s := by
  obtain ⟨o, pm, doc, ho, hd⟩ := F.obj
  refine wpAny_call (codeAny_call_function hroom (S.keep _ _ ho) hd hco hgen rfl (F.code.keeps S.keep) ?_)
  rw [hbind]
  refine wpAny_pure (wpAny_newFunctionEnv (scope := scope) (binds := binds) hcell hloc (fun h' hn hsb => ?_) hk)
  have hlim : h'.NoLimit := (B.nolimit.keeps S.keep).fresh _ hsb
  refine ⟨hlim, ?_⟩
  have hkp : ∀ a o, s.heap.get? a = some o → h'.get? a = some o := fun a o e => hsb.extBut a o (Nat.ne_of_lt (Heap.lt_size e)) (Heap.get?_push_of_some _ e)
  obtain ⟨oC, hoC, hcC⟩ := frC_of (fl := vals binds) hn (fun p hp => by
    obtain ⟨q, hq, rfl⟩ := List.mem_map.mp hp
    exact ⟨q.2, hlk q hq, rfl⟩)
  have S1 : St b { s with heap := h', toks := s.toks + binds.length } ((s.heap.objs.size, frC (vals binds)) :: L) G := S.new (heap_get_size _) hkp hoC hcC
  show codeAny _ _ (.func body (envOf name scope s.heap.objs.size f cd)) _ _
  refine codeAny_func (wpAny_mono (h _ _ S1) (fun fl s'' hq => hq) fun _ _ x => x.elim)

/-! ranges -/
def rngC (x y z : Int) : Cell := fun o => ∃ t u v, o = { cls := .type "range", data := .fields #[.int x t, .int y u, .int z v] }
def ritC (x left step : Int) : Cell := fun o => o = { cls := .type "range_iterator", data := .fields #[rawInt x, rawInt left, rawInt step] }
theorem r_range1 {n : Int} {t : Tok} (S : St b s L G) (h : ∀ a s', St b s' ((a, rngC 0 n 1) :: L) G → Q (.ref a) s') : wpAny (model prog w) A (call (.type "range") [.int n t]) Q E s :=
  call_range_1 (h _ _ (S.alloc ⟨_, _, _, rfl⟩ _))

/-- the rngI of a range -/
def rngI (x step : Int) (n : Nat) : List Int := (List.range n).map fun (i : Nat) => x + (i : Int) * step
theorem rngI_succ (x step : Int) (n : Nat) : rngI x step (n + 1) = x :: rngI (x + step) step n := by
  unfold rngI
  rw [List.range_succ_eq_map, List.map_cons, List.map_map]
  congr 1
  · simp
  · apply List.map_congr_left
    intro i _
    simp only [Function.comp]
    have : ((i.succ : Nat) : Int) = (i : Int) + 1 := by omega
    rw [this, Int.add_mul]
    omega

theorem gives_rit {I : Addr} {step : Int} : ∀ (n : Nat) (x : Int), Gives prog w b Lr d (.ref I) ((rngI x step n).map vI) [(I, ritC x n step)] [] := by
  intro n
  induction n with
  | zero =>
    intro x
    show Gives prog w b Lr d (.ref I) [] _ _
    unfold Gives
    intro A E s F GF Q hA hF S hQ
    obtain ⟨_, ho, rfl⟩ := S.get (.head _)
    exact wpAny_pyNext_range_end hA.handled ho (by simp) fun h' he => hQ _ (S.drop1 he)
  | succ n ih =>
    intro x
    rw [rngI_succ]
    intro A E s F GF Q hA hF S hQ
    obtain ⟨_, ho, rfl⟩ := S.get (.head _)
    refine wpAny_pyNext_range_item ho (by omega) fun h' hit hsb => ?_
    refine hQ _ _ _ _ ⟨_, rfl⟩ (ih (x + step)) (S.set (P' := ritC (x + step) n step) .head ⟨_, .head _⟩ hsb.extBut hit ?_ _)
    show _ = _
    have e : ((n + 1 : Nat) : Int) - 1 = (n : Int) := by omega
    rw [e]
theorem selfI_rit {I : Addr} {x l st : Int} : SelfI prog w b (.ref I) [(I, ritC x l st)] := fun A E s F GF Q S h => by
  obtain ⟨_, ho, rfl⟩ := S.get (.head _)
  exact wpAny_pyIter_rangeiter ho h
theorem givesI_rng {r : Addr} {x y z : Int} {n : Nat} (hr : (r, rngC x y z) ∈ Lr) (hsmall : Builtin.Range.small x y z = true) (hn : Builtin.Range.rangeSize x y z = n) : GivesI prog w b Lr d (.ref r) ((rngI x z n).map vI) [] [] := by
  intro A E s F GF Q hA hF S hQ
  obtain ⟨_, ho, t, u, v, rfl⟩ := S.get (hF _ hr)
  refine wpAny_pyIter_range ho hsmall ?_
  rw [hn]
  exact hQ _ _ _ _ (gives_rit n x) selfI_rit (S.alloc (P := ritC x n z) rfl)
end
end Mine

-- part LF
open PySem PySem.W PySem.W.X PyProof.Rows PySem.Calls PySem.Spec PySem.SeqAt
set_option Elab.async false
set_option maxRecDepth 100000
set_option maxHeartbeats 200000
namespace Mine

section
variable {prog : Program} {w : World} {A : Around} {E : Value → Shared → Prop} {b s : Shared} {L L' X : Ledger} {G : GLedger} {env : Env} {Lr : Ledger} {d : Nat} {mg mb : Str → Option Value} {names : List Str} {Q : Value → Shared → Prop}

/-! calls by name -/
theorem r_callB1 {x : Str} {e : Expr} {p pos : Pos} {id : String} (B : Bs b mg mb names) (S : St b s L G) (hv : bootBuiltins x = some (.builtin id))
    (h : wpAny (model prog w) A (eval e env) (fun v s₁ => wpAny (model prog w) A (call (.builtin id) [v]) Q E s₁) E s)
    (hfree : x ∉ names := by decide) (hn : x ≠ "__name__" := by decide) (hg : env.globals = mainGlobals := by kernel_rfl) (hb : env.builtins = builtinsNs := by kernel_rfl)
    (hk : env.scope.kind = .function := by kernel_rfl) (hx : env.kindOf x = some .globalImplicit := by kernel_rfl) (hd : (x == ("__debug__" : Str)) = false := by decide)
    (ht : backTo pos (starEach [e] env) = [(false, eval e env)] := by kernel_rfl) :
    wpAny (model prog w) A (eval (.Call (.Name x p) [e] [] pos) env) Q E s := by
  refine wpAny_Call_NameR (r_bname B S hv ?_ hfree hn hg hb hk hx hd)
  rw [ht]
  exact Calls.callWith_builtin rfl (Calls.evalArgs_plain (Calls.spliced_cons (wpAny_mono h (fun _ _ h₁ => Calls.spliced_nil h₁) fun _ _ e => e)))
theorem r_callT1 {x : Str} {e : Expr} {p pos : Pos} {T : String} (B : Bs b mg mb names) (S : St b s L G) (hv : bootBuiltins x = some (.type T))
    (h : wpAny (model prog w) A (eval e env) (fun v s₁ => wpAny (model prog w) A (call (.type T) [v]) Q E s₁) E s)
    (hfree : x ∉ names := by decide) (hn : x ≠ "__name__" := by decide) (hg : env.globals = mainGlobals := by kernel_rfl) (hb : env.builtins = builtinsNs := by kernel_rfl)
    (hk : env.scope.kind = .function := by kernel_rfl) (hx : env.kindOf x = some .globalImplicit := by kernel_rfl) (hd : (x == ("__debug__" : Str)) = false := by decide)
    (ht : backTo pos (starEach [e] env) = [(false, eval e env)] := by kernel_rfl) :
    wpAny (model prog w) A (eval (.Call (.Name x p) [e] [] pos) env) Q E s := by
  refine wpAny_Call_NameR (r_bname B S hv ?_ hfree hn hg hb hk hx hd)
  rw [ht]
  exact PyProof.Rows.callWith_type rfl (Calls.evalArgs_plain (Calls.spliced_cons (wpAny_mono h (fun _ _ h₁ => Calls.spliced_nil h₁) fun _ _ e => e)))
theorem r_callT3 {x : Str} {e₁ e₂ e₃ : Expr} {p pos : Pos} {T : String} (B : Bs b mg mb names) (S : St b s L G) (hv : bootBuiltins x = some (.type T))
    (h : wpAny (model prog w) A (eval e₁ env) (fun v₁ s₁ => wpAny (model prog w) A (eval e₂ env) (fun v₂ s₂ => wpAny (model prog w) A (eval e₃ env) (fun v₃ s₃ => wpAny (model prog w) A (call (.type T) [v₁, v₂, v₃]) Q E s₃) E s₂) E s₁) E s)
    (hfree : x ∉ names := by decide) (hn : x ≠ "__name__" := by decide) (hg : env.globals = mainGlobals := by kernel_rfl) (hb : env.builtins = builtinsNs := by kernel_rfl)
    (hk : env.scope.kind = .function := by kernel_rfl) (hx : env.kindOf x = some .globalImplicit := by kernel_rfl) (hd : (x == ("__debug__" : Str)) = false := by decide)
    (ht : backTo pos (starEach [e₁, e₂, e₃] env) = [(false, eval e₁ env), (false, eval e₂ env), (false, eval e₃ env)] := by kernel_rfl) :
    wpAny (model prog w) A (eval (.Call (.Name x p) [e₁, e₂, e₃] [] pos) env) Q E s := by
  refine wpAny_Call_NameR (r_bname B S hv ?_ hfree hn hg hb hk hx hd)
  rw [ht]
  exact PyProof.Rows.callWith_type rfl (Calls.evalArgs_plain (Calls.spliced_cons (wpAny_mono h (fun _ _ h₁ => Calls.spliced_cons (wpAny_mono h₁ (fun _ _ h₂ => Calls.spliced_cons (wpAny_mono h₂ (fun _ _ h₃ => Calls.spliced_nil h₃) fun _ _ e => e)) fun _ _ e => e)) fun _ _ e => e)))
/-- a def of two arguments, called by its name -/
theorem r_callD2 {x : Str} {e₁ e₂ : Expr} {p pos : Pos} {f : Addr} {params : Arguments} {body : List Stmt} {scope : Scope} {cd : Value} (B : Bs b mg mb names) (F : FnAt b mg f x params body scope cd) (S : St b s L G)
    (h : wpAny (model prog w) A (eval e₁ env) (fun v₁ s₁ => wpAny (model prog w) A (eval e₂ env) (fun v₂ s₂ => (∃ L G, St b s₂ L G) ∧ wpAny (model prog w) A (call (.ref f) [v₁, v₂]) Q E s₂) E s₁) E s)
    (hg : env.globals = mainGlobals := by kernel_rfl) (hk : env.scope.kind = .function := by kernel_rfl) (hx : env.kindOf x = some .globalImplicit := by kernel_rfl) (hd : (x == ("__debug__" : Str)) = false := by decide)
    (ht : backTo pos (starEach [e₁, e₂] env) = [(false, eval e₁ env), (false, eval e₂ env)] := by kernel_rfl) :
    wpAny (model prog w) A (eval (.Call (.Name x p) [e₁, e₂] [] pos) env) Q E s := by
  refine wpAny_Call_NameR (r_gname B S F.at_ ?_ hg hk hx hd)
  rw [ht]
  obtain ⟨o, pm, doc, ho, hdat⟩ := F.obj
  refine Calls.callWith_function (o := o) (fd := docDef x params body scope pm cd doc) (Calls.evalArgs_plain (Calls.spliced_cons (wpAny_mono h (fun _ _ h₁ => Calls.spliced_cons (wpAny_mono h₁ (fun _ _ h₂ => Calls.spliced_nil ?_) fun _ _ e => e)) fun _ _ e => e)))
  obtain ⟨⟨_, _, S₂⟩, h₂⟩ := h₂
  exact ⟨⟨S₂.keep _ _ ho, hdat⟩, h₂⟩

/-! a list of texts, written out -/
inductive Lits : List Expr → List Str → Prop
  | nil : Lits [] []
  | cons {y : Str} {k : Nat} {p : Pos} {r : List Expr} {ys : List Str} : Lits r ys → Lits (.Constant (.str y) k p :: r) (y :: ys)
theorem r_splS {pos : Pos} {elts : List Expr} {ys : List Str} (he : Lits elts ys) : ∀ {s : Shared} {Q : List Value → Shared → Prop}, St b s L G → (∀ vs s', StrsAre vs ys → St b s' L G → Q vs s') →
    wpAny (model prog w) A (spliced (backTo pos (starEach elts env))) Q E s := by
  induction he with
  | nil => intro s Q S h; exact Calls.spliced_nil (h _ _ .nil S)
  | @cons y k p r ys _ ih =>
    intro s Q S h
    show wpAny _ _ (spliced ((false, eval (.Constant (.str y) k p) env) :: backTo pos (starEach r env))) _ _ _
    refine Calls.spliced_cons (r_str S fun t s₁ S₁ => ?_)
    exact ih S₁ fun vs s' hs S' => h _ _ (.cons y t hs) S'
theorem r_listS {elts : List Expr} {pos : Pos} (ys : List Str) (S : St b s L G) (h : ∀ a s', St b s' ((a, lstS ys) :: L) G → Q (.ref a) s') (he : Lits elts ys := by repeat (first | exact Lits.nil | refine Lits.cons ?_)) (hz : ys.length ≤ sizeLine := by decide) :
    wpAny (model prog w) A (eval (.List elts pos) env) Q E s :=
  wpAny_List (r_splS he S fun vs s' hs S' => ⟨by rw [strsAre_len hs]; exact hz, h _ _ (S'.alloc (P := lstS ys) (lstS_mk hs))⟩)
end
end Mine

-- part PL
open PySem PySem.Builtin.Str PySem.W PySem.W.X PyProof.Rows PySem.Calls PySem.Spec PySem.SeqAt
set_option Elab.async false
set_option maxRecDepth 100000
set_option maxHeartbeats 400000
set_option linter.all false
namespace Mine

/-! texts as lists of signs -/
theorem str_ext {x y : Str} (h : x.cps.toList = y.cps.toList) : x = y := by
  cases x; cases y
  congr 1
  exact Array.toList_inj.mp h
theorem str_app (x y : Str) : (x ++ y).cps.toList = x.cps.toList ++ y.cps.toList := by
  show (x.cps ++ y.cps).toList = _
  simp
theorem str_len (x : Str) : x.length = x.cps.toList.length := by unfold Str.length; simp
theorem str_len_app (x y : Str) : (x ++ y).length = x.length + y.length := by rw [str_len, str_app, List.length_append, ← str_len, ← str_len]

theorem fm_range {α : Type} (l : List α) (a : Nat) : ∀ n, a + n ≤ l.length → (List.range n).filterMap (fun k => l[a + k]?) = (l.drop a).take n := by
  intro n
  induction n with
  | zero => intro _; simp
  | succ n ih =>
    intro h
    rw [List.range_succ, List.filterMap_append, ih (by omega), List.take_add_one]
    congr 1
    rw [List.getElem?_drop]
    rw [List.getElem?_eq_getElem (by omega)]
    simp [List.getElem?_eq_getElem (show a + n < l.length by omega)]

theorem slice_pre (x : Str) : Txt.slice x none (some 2) = ⟨(x.cps.toList.take 2).toArray⟩ := by
  have hi : strSliceIndices none (some 2) 1 x.length = List.range (min 2 x.length) := by
    unfold strSliceIndices sliceRange
    simp only [show (1 : Int) > 0 by decide, if_true, show ¬ ((2 : Int) < 0) by decide, if_false]
    by_cases h0 : x.length = 0
    · rw [h0]; rfl
    · rw [if_pos (by omega)]
      have e : ((max 0 (min 2 (x.length : Int)) - 0 + 1 - 1) / 1).toNat = min 2 x.length := by rw [Int.ediv_one]; omega
      rw [e]
      conv => rhs; rw [← List.map_id (List.range _)]
      apply List.map_congr_left
      intro k _
      simp
  unfold Txt.slice
  rw [hi]
  have hlen := str_len x
  split
  · rename_i h
    simp only [List.length_range, Bool.and_eq_true, beq_iff_eq] at h
    refine str_ext ?_
    rw [List.take_of_length_le (by omega)]
  · congr 2
    have := fm_range x.cps.toList 0 (min 2 x.length) (by omega)
    simp only [Nat.zero_add, List.drop_zero] at this
    simp only [← Array.getElem?_toList]
    rw [this]
    rw [List.take_eq_take_iff]
    omega
theorem slice_suf (x : Str) : Txt.slice x (some 2) none = ⟨(x.cps.toList.drop 2).toArray⟩ := by
  have hi : strSliceIndices (some 2) none 1 x.length = (List.range (x.length - 2)).map (2 + ·) := by
    unfold strSliceIndices sliceRange
    simp only [show (1 : Int) > 0 by decide, if_true, show ¬ ((2 : Int) < 0) by decide, if_false]
    by_cases h0 : 2 < x.length
    · rw [if_pos (by omega)]
      have e : (((x.length : Int) - max 0 (min 2 (x.length : Int)) + 1 - 1) / 1).toNat = x.length - 2 := by rw [Int.ediv_one]; omega
      rw [e]
      apply List.map_congr_left
      intro k _
      omega
    · rw [if_neg (by omega), show x.length - 2 = 0 by omega]
      rfl
  unfold Txt.slice
  rw [hi]
  have hlen := str_len x
  split
  · rename_i h
    simp only [List.length_map, List.length_range, Bool.and_eq_true, beq_iff_eq] at h
    refine str_ext ?_
    have : x.cps.toList.length = 0 := by omega
    rw [List.length_eq_zero_iff] at this
    rw [this]
    rfl
  · rw [List.filterMap_map]
    congr 2
    by_cases h2 : 2 ≤ x.length
    · have := fm_range x.cps.toList 2 (x.length - 2) (by omega)
      simp only [← Array.getElem?_toList]
      show List.filterMap (fun k => x.cps.toList[2 + k]?) _ = _
      rw [this, List.take_of_length_le (by rw [List.length_drop]; omega)]
    · rw [show x.length - 2 = 0 by omega, List.drop_of_length_le (by omega)]
      rfl

/-- a row of a two-sign head -/
theorem head2 {h y : Str} (hh : h.cps.toList.length = 2) : Txt.slice (h ++ y) none (some 2) = h := by
  rw [slice_pre]
  refine str_ext ?_
  rw [str_app]
  show ((h.cps.toList ++ y.cps.toList).take 2) = _
  rw [List.take_append_of_le_length (by omega), List.take_of_length_le (by omega)]
theorem cut_head {h y : Str} (hh : h.cps.toList.length = 2) : cutS (h ++ y) = y := by
  unfold cutS
  rw [slice_suf]
  refine str_ext ?_
  rw [str_app]
  show ((h.cps.toList ++ y.cps.toList).drop 2) = _
  rw [List.drop_append_of_le_length (by omega), List.drop_of_length_le (by omega)]
  rfl
theorem cut_len (x : Str) : (cutS x).length ≤ x.length := Txt.slice_le x _ _

theorem len_sp : ("  " : Str).cps.toList.length = 2 := by decide +kernel
theorem len_mi : ("- " : Str).cps.toList.length = 2 := by decide +kernel
theorem len_pl : ("+ " : Str).cps.toList.length = 2 := by decide +kernel
theorem keep_sp (tag y : Str) : keepS tag ("  " ++ y) = true := by unfold keepS; rw [head2 len_sp]; simp
theorem keep_mi1 (y : Str) : keepS (tagOf 1) ("- " ++ y) = true := by unfold keepS tagOf; rw [head2 len_mi]; simp
theorem keep_mi2 (y : Str) : keepS (tagOf 2) ("- " ++ y) = false := by unfold keepS tagOf; rw [head2 len_mi]; decide +kernel
theorem keep_pl1 (y : Str) : keepS (tagOf 1) ("+ " ++ y) = false := by unfold keepS tagOf; rw [head2 len_pl]; decide +kernel
theorem keep_pl2 (y : Str) : keepS (tagOf 2) ("+ " ++ y) = true := by unfold keepS tagOf; rw [head2 len_pl]; simp

theorem readS_nil (n : Int) : readS n [] = [] := rfl
theorem readS_app (n : Int) (xs ys : List Str) : readS n (xs ++ ys) = readS n xs ++ readS n ys := by unfold readS; rw [List.filter_append, List.map_append]
theorem readS_keep {n : Int} {x y : Str} (hk : keepS (tagOf n) x = true) (hc : cutS x = y) : readS n [x] = [y] := by unfold readS; simp [hk, hc]
theorem readS_drop {n : Int} {x : Str} (hk : keepS (tagOf n) x = false) : readS n [x] = [] := by unfold readS; simp [hk]
theorem readS_sp (n : Int) (y : Str) : readS n ["  " ++ y] = [y] := readS_keep (keep_sp _ _) (cut_head len_sp)
theorem readS_mi1 (y : Str) : readS 1 ["- " ++ y] = [y] := readS_keep (keep_mi1 _) (cut_head len_mi)
theorem readS_mi2 (y : Str) : readS 2 ["- " ++ y] = [] := readS_drop (keep_mi2 _)
theorem readS_pls1 (ys : List Str) : readS 1 (ys.map fun y : Str => ("+ " : Str) ++ y) = [] := by
  induction ys with
  | nil => rfl
  | cons y r ih => rw [List.map_cons, ← List.singleton_append, readS_app, ih, readS_drop (keep_pl1 y)]; rfl
theorem readS_pls2 (ys : List Str) : readS 2 (ys.map fun y : Str => ("+ " : Str) ++ y) = ys := by
  induction ys with
  | nil => rfl
  | cons y r ih => rw [List.map_cons, ← List.singleton_append, readS_app, ih, readS_keep (keep_pl2 y) (cut_head len_pl)]; rfl

/-! the delta -/
def oddL : List Str := ["?  ^", "", "-", " ", "+x", " -", "x  "]
theorem odd_read : ∀ y ∈ oddL, readS 1 [y] = [] ∧ readS 2 [y] = [] := by decide +kernel
/-- where row next lies in new, from k on (the end: nowhere) -/
def dFar (new : List Str) (row : Str) (k : Nat) : Nat := k + ((new.drop k).takeWhile (· != row)).length
def dStep (new : List Str) (st : List Str × Nat) (row : Str) : List Str × Nat :=
  if dFar new row st.2 < new.length then (st.1 ++ ((new.drop st.2).take (dFar new row st.2 - st.2)).map (fun y : Str => ("+ " : Str) ++ y) ++ ["  " ++ row], dFar new row st.2 + 1)
  else (st.1 ++ ["- " ++ row] ++ [oddL.getD ((st.1.length + 1) % 7) ""], st.2)
def dRun (old new : List Str) : List Str × Nat := old.foldl (dStep new) ([], 0)
def deltaS (old new : List Str) : List Str := (dRun old new).1 ++ (new.drop (dRun old new).2).map (fun y : Str => ("+ " : Str) ++ y)

theorem takeWhile_take {α : Type} (p : α → Bool) : ∀ l : List α, l.take (l.takeWhile p).length = l.takeWhile p
  | [] => rfl
  | a :: r => by
    by_cases h : p a = true
    · rw [List.takeWhile_cons_of_pos h]; simp [takeWhile_take p r]
    · rw [List.takeWhile_cons_of_neg h]; rfl
theorem takeWhile_at {α : Type} (p : α → Bool) : ∀ l : List α, (l.takeWhile p).length < l.length → ∃ a, l[(l.takeWhile p).length]? = some a ∧ p a = false
  | [], h => by simp at h
  | a :: r, h => by
    by_cases hp : p a = true
    · rw [List.takeWhile_cons_of_pos hp] at h ⊢
      simp only [List.length_cons] at h ⊢
      simpa using takeWhile_at p r (by omega)
    · rw [List.takeWhile_cons_of_neg hp]
      exact ⟨a, rfl, by simpa using hp⟩
theorem takeWhile_in {α : Type} (p : α → Bool) : ∀ (l : List α) (j : Nat), j < (l.takeWhile p).length → ∃ a, l[j]? = some a ∧ p a = true
  | [], j, h => by simp at h
  | a :: r, j, h => by
    by_cases hp : p a = true
    · rw [List.takeWhile_cons_of_pos hp] at h
      cases j with
      | zero => exact ⟨a, rfl, hp⟩
      | succ j => simpa using takeWhile_in p r j (by simpa using h)
    · rw [List.takeWhile_cons_of_neg hp] at h
      simp at h
theorem dFar_ge (new : List Str) (row : Str) (k : Nat) : k ≤ dFar new row k := Nat.le_add_right _ _
theorem dFar_le {new : List Str} {row : Str} {k : Nat} (hk : k ≤ new.length) : dFar new row k ≤ new.length := by
  have := (List.takeWhile_prefix (· != row) (l := new.drop k)).length_le
  rw [List.length_drop] at this
  unfold dFar; omega
theorem dFar_in {new : List Str} {row : Str} {k j : Nat} (hk : k ≤ new.length) (h1 : k ≤ j) (h2 : j < dFar new row k) : j < new.length ∧ ∃ y, new[j]? = some y ∧ (y != row) = true := by
  have h3 := dFar_le (row := row) hk
  obtain ⟨y, hy, hp⟩ := takeWhile_in (· != row) (new.drop k) (j - k) (by unfold dFar at h2; omega)
  rw [List.getElem?_drop, show k + (j - k) = j by omega] at hy
  exact ⟨by omega, y, hy, hp⟩
theorem dFar_at {new : List Str} {row : Str} {k : Nat} (h : dFar new row k < new.length) : new[dFar new row k]? = some row := by
  obtain ⟨y, hy, hp⟩ := takeWhile_at (· != row) (new.drop k) (by rw [List.length_drop]; unfold dFar at h; omega)
  rw [List.getElem?_drop] at hy
  unfold dFar
  rw [hy]
  simp only [bne_eq_false_iff_eq] at hp
  rw [hp]

theorem odd_at (k : Nat) : oddL.getD (k % 7) "" ∈ oddL ∧ oddL[k % 7]? = some (oddL.getD (k % 7) "") := by
  have h : k % 7 < oddL.length := Nat.mod_lt _ (by decide)
  rw [List.getD_eq_getElem?_getD, List.getElem?_eq_getElem h]
  exact ⟨List.getElem_mem h, rfl⟩

/-- what the run has read so far -/
structure DInv (pre new : List Str) (st : List Str × Nat) : Prop where
  le : st.2 ≤ new.length
  one : readS 1 st.1 = pre
  two : readS 2 st.1 = new.take st.2
theorem DInv.step {pre new : List Str} {st : List Str × Nat} {row : Str} (h : DInv pre new st) : DInv (pre ++ [row]) new (dStep new st row) := by
  unfold dStep
  split
  · rename_i hlt
    have hge := dFar_ge new row st.2
    refine ⟨by show dFar new row st.2 + 1 ≤ _; omega, ?_, ?_⟩
    · show readS 1 _ = _
      rw [readS_app, readS_app, readS_pls1, readS_sp, h.one, List.append_nil]
    · show readS 2 _ = new.take (dFar new row st.2 + 1)
      rw [readS_app, readS_app, readS_pls2, readS_sp, h.two, List.take_add_one, dFar_at hlt]
      congr 1
      rw [← List.take_add]
      congr 1
      omega
  · obtain ⟨o1, o2⟩ := odd_read _ (odd_at (st.1.length + 1)).1
    refine ⟨h.le, ?_, ?_⟩
    · show readS 1 _ = _
      rw [readS_app, readS_app, readS_mi1, o1, h.one, List.append_nil]
    · show readS 2 _ = new.take st.2
      rw [readS_app, readS_app, readS_mi2, o2, h.two, List.append_nil, List.append_nil]
theorem DInv.run (new : List Str) : ∀ (old pre : List Str) (st : List Str × Nat), DInv pre new st → DInv (pre ++ old) new (old.foldl (dStep new) st)
  | [], pre, st, h => by simpa using h
  | y :: r, pre, st, h => by
    have := DInv.run new r (pre ++ [y]) (dStep new st y) h.step
    simpa using this
theorem dInv (old new : List Str) : DInv old new (dRun old new) := DInv.run new old [] ([], 0) ⟨Nat.zero_le _, rfl, rfl⟩
theorem delta_one (old new : List Str) : readS 1 (deltaS old new) = old := by
  unfold deltaS; rw [readS_app, readS_pls1, (dInv old new).one, List.append_nil]
theorem delta_two (old new : List Str) : readS 2 (deltaS old new) = new := by
  unfold deltaS; rw [readS_app, readS_pls2, (dInv old new).two, List.take_append_drop]

/-! sizes -/
structure Fit (m k : Nat) (xs : List Str) : Prop where
  many : xs.length ≤ m
  long : ∀ x ∈ xs, x.length ≤ k
  ok : OkS xs
theorem dStep_len (new : List Str) (st : List Str × Nat) (row : Str) (h : st.2 ≤ new.length) : (dStep new st row).1.length + st.2 ≤ st.1.length + (dStep new st row).2 + 2 := by
  unfold dStep
  split
  · rename_i hlt
    have := dFar_ge new row st.2
    simp only [List.length_append, List.length_map, List.length_take, List.length_drop, List.length_cons, List.length_nil]
    omega
  · simp only [List.length_append, List.length_cons, List.length_nil]; omega
theorem dRun_len (new : List Str) : ∀ (old pre : List Str) (st : List Str × Nat), DInv pre new st → (old.foldl (dStep new) st).1.length + st.2 ≤ st.1.length + (old.foldl (dStep new) st).2 + 2 * old.length
  | [], pre, st, h => by simp
  | y :: r, pre, st, h => by
    have h1 := dRun_len new r (pre ++ [y]) (dStep new st y) h.step
    have h2 := dStep_len new st y h.le
    simp only [List.foldl_cons, List.length_cons]
    omega
theorem dRun_small (old new : List Str) : (dRun old new).1.length ≤ (dRun old new).2 + 2 * old.length := by
  have := dRun_len new old [] ([], 0) ⟨Nat.zero_le _, rfl, rfl⟩
  simpa [dRun] using this
theorem delta_len (old new : List Str) : (deltaS old new).length ≤ 2 * old.length + new.length := by
  have h1 := dRun_small old new
  have h2 := (dInv old new).le
  unfold deltaS
  simp only [List.length_append, List.length_map, List.length_drop]
  omega

def Good (k : Nat) (x : Str) : Prop := x.length ≤ k ∧ PyData.strOk x = true
theorem good_app {k m : Nat} {h y : Str} (hh : Good k h) (hy : Good m y) : Good (k + m) (h ++ y) := by
  refine ⟨by rw [str_len_app]; have := hh.1; have := hy.1; omega, ?_⟩
  have e1 := hh.2
  have e2 := hy.2
  unfold PyData.strOk at e1 e2 ⊢
  rw [← Array.all_toList] at e1 e2 ⊢
  rw [str_app, List.all_append, e1, e2]; rfl
theorem good_sp : Good 2 "  " := by unfold Good; decide +kernel
theorem good_mi : Good 2 "- " := by unfold Good; decide +kernel
theorem good_pl : Good 2 "+ " := by unfold Good; decide +kernel
theorem good_odd : ∀ y ∈ oddL, Good 4 y := by unfold Good; decide +kernel
theorem Good.mono {k m : Nat} {x : Str} (h : Good k x) (hk : k ≤ m) : Good m x := ⟨Nat.le_trans h.1 hk, h.2⟩
theorem dStep_good {k : Nat} (hk : 2 ≤ k) {new : List Str} (hn : ∀ y ∈ new, Good k y) {st : List Str × Nat} {row : Str} (hr : Good k row) (hs : ∀ y ∈ st.1, Good (2 + k) y) : ∀ y ∈ (dStep new st row).1, Good (2 + k) y := by
  unfold dStep
  split
  · intro y hy
    simp only [List.mem_append, List.mem_map, List.mem_singleton] at hy
    rcases hy with (hy | ⟨z, hz, rfl⟩) | rfl
    · exact hs y hy
    · exact good_app good_pl (hn z (List.mem_of_mem_drop (List.mem_of_mem_take hz)))
    · exact good_app good_sp hr
  · intro y hy
    simp only [List.mem_append, List.mem_singleton] at hy
    rcases hy with (hy | rfl) | rfl
    · exact hs y hy
    · exact good_app good_mi hr
    · exact (good_odd _ (odd_at _).1).mono (by omega)
theorem dRun_good {k : Nat} (hk : 2 ≤ k) {new : List Str} (hn : ∀ y ∈ new, Good k y) : ∀ (old : List Str) (st : List Str × Nat), (∀ y ∈ old, Good k y) → (∀ y ∈ st.1, Good (2 + k) y) → ∀ y ∈ (old.foldl (dStep new) st).1, Good (2 + k) y
  | [], st, _, hs => hs
  | z :: r, st, ho, hs => dRun_good hk hn r (dStep new st z) (fun y hy => ho y (.tail _ hy)) (dStep_good hk hn (ho z (.head _)) hs)
theorem delta_good {k : Nat} (hk : 2 ≤ k) {old new : List Str} (ho : ∀ y ∈ old, Good k y) (hn : ∀ y ∈ new, Good k y) : ∀ y ∈ deltaS old new, Good (2 + k) y := by
  intro y hy
  unfold deltaS at hy
  simp only [List.mem_append, List.mem_map] at hy
  rcases hy with hy | ⟨z, hz, rfl⟩
  · exact dRun_good hk hn old ([], 0) ho (fun y hy => nomatch hy) y hy
  · exact good_app good_pl (hn z (List.mem_of_mem_drop hz))
end Mine

-- part LG
open PySem PySem.W PySem.W.X PyProof.Rows PySem.Calls PySem.Spec PySem.SeqAt
set_option Elab.async false
set_option maxRecDepth 100000
set_option maxHeartbeats 400000
namespace Mine
theorem vS_inj {p q : Str} (hpq : vS p = vS q) : p = q := by
  have : vS q (.str p 0) := by rw [← hpq]; exact ⟨0, rfl⟩
  obtain ⟨t, ht⟩ := this
  cases ht; rfl
theorem vI_inj {p q : Int} (hpq : vI p = vI q) : p = q := by
  have : vI q (.int p 0) := by rw [← hpq]; exact ⟨0, rfl⟩
  obtain ⟨t, ht⟩ := this
  cases ht; rfl
theorem map_vS_inj : ∀ {xs ys : List Str}, xs.map vS = ys.map vS → xs = ys
  | [], [], _ => rfl
  | [], _ :: _, h => by simp at h
  | _ :: _, [], h => by simp at h
  | x :: xs, y :: ys, h => by
    simp only [List.map_cons, List.cons.injEq] at h
    rw [vS_inj h.1, map_vS_inj h.2]
theorem map_vI_inj : ∀ {xs ys : List Int}, xs.map vI = ys.map vI → xs = ys
  | [], [], _ => rfl
  | [], _ :: _, h => by simp at h
  | _ :: _, [], h => by simp at h
  | x :: xs, y :: ys, h => by
    simp only [List.map_cons, List.cons.injEq] at h
    rw [vI_inj h.1, map_vI_inj h.2]
/-- the next of a list of texts (ints) -/
theorem next_vS {ys zs : List Str} {P : VP} {r : List VP} (e : ys.map vS = zs.map vS ++ P :: r) : ∃ y rs, ys = zs ++ y :: rs ∧ P = vS y := by
  obtain ⟨a, c, h1, h2, h3⟩ := List.map_eq_append_iff.mp e
  obtain ⟨y, rs, h4, h5, _⟩ := List.map_eq_cons_iff.mp h3
  exact ⟨y, rs, by rw [h1, h4, map_vS_inj h2], h5.symm⟩
theorem next_vI {ys zs : List Int} {P : VP} {r : List VP} (e : ys.map vI = zs.map vI ++ P :: r) : ∃ y rs, ys = zs ++ y :: rs ∧ P = vI y := by
  obtain ⟨a, c, h1, h2, h3⟩ := List.map_eq_append_iff.mp e
  obtain ⟨y, rs, h4, h5, _⟩ := List.map_eq_cons_iff.mp h3
  exact ⟨y, rs, by rw [h1, h4, map_vI_inj h2], h5.symm⟩
section
variable {prog : Program} {w : World} {A : Around} {E : Value → Shared → Prop} {b s : Shared} {env : Env} {mg mb : Str → Option Value} {names : List Str}

/-- what a for is to do with the value it walks -/
structure ForJob (prog : Program) (w : World) (A : Around) (b : Shared) (env : Env) (target : Expr) (body : List Stmt) (Q : Flow → Shared → Prop) (v₀ : Value) (s₁ : Shared)
    (Lr : Ledger) (d : Nat) (Ps : List VP) (L₁ F₀ X : Ledger) (G₁ G : GLedger) (J : List VP → Ledger → Prop) : Prop where
  src : GivesI prog w b Lr d v₀ Ps L₁ G₁
  room : Ar A d
  st : St b s₁ (L₁ ++ (F₀ ++ X)) (G₁ ++ G)
  h0 : J [] F₀
  hR : ∀ pre F, J pre F → ∀ p ∈ Lr, p ∈ F ++ X
  turn : ∀ pre P r u F L₂ G₂ s, Ps = pre ++ P :: r → P u → J pre F → St b s (F ++ (L₂ ++ X)) (G₂ ++ G) →
      wpAny (model prog w) A (assign target env u) (fun _ s₂ => wpAny (model prog w) A (execs body env) (Turn Q fun s₃ => ∃ F', J (pre ++ [P]) F' ∧ St b s₃ (F' ++ (L₂ ++ X)) (G₂ ++ G)) NoE s₂) NoE s
  done : ∀ F s, J Ps F → St b s (F ++ X) G → Q .next s
/-- a for over whatever its iterable turns out to be -/
theorem r_forj {target iter : Expr} {body : List Stmt} {pos : Pos} {Q : Flow → Shared → Prop}
    (hiter : wpAny (model prog w) A (eval iter env) (fun v s₁ => ∃ Lr d Ps L₁ F₀ X G₁ G J, ForJob prog w A b env target body Q v s₁ Lr d Ps L₁ F₀ X G₁ G J) NoE s)
    (hs : ∀ x, foldedSetIterable iter env x = pure x := by intro _; kernel_rfl) (ht : ∀ it v, letOwnedTupleGo target it v = pure () := by intro _ _; kernel_rfl) :
    wpAny (model prog w) A (exec (.For target iter body [] pos) env) Q E s := by
  refine wpAny_For (wpAny_mono hiter (fun v s₁ h₁ => ?_) fun _ _ x => x.elim) hs
  obtain ⟨Lr, d, Ps, L₁, F₀, X, G₁, G, J, hsrc, hA, S₁, h0, hR, turn, done⟩ := h₁
  refine hsrc A _ _ _ _ _ hA (hR [] F₀ h0) S₁ fun it s₂ L₂ G₂ hg _ S₂ => ?_
  refine codeAny_forLoop (fun n s => ∃ pre post F L₂ G₂, Ps = pre ++ post ∧ post.length = n ∧ J pre F ∧ Gives prog w b Lr d it post L₂ G₂ ∧ St b s (L₂ ++ (F ++ X)) (G₂ ++ G)) ?_ Ps.length ⟨[], Ps, F₀, L₂, G₂, rfl, rfl, h0, hg, S₂⟩ (ht it)
  rintro n s₃ ⟨pre, post, F, L₃, G₃, e, hn, hj, hg₃, S₃⟩
  refine hg₃.next hA (hR pre F hj) S₃ (fun e' s₄ S₄ => ?_) (fun P r e' u s₄ L₄ G₄ hu hg₄ S₄ => ?_)
  · subst e'
    rw [List.append_nil] at e
    subst e
    exact wpAny_execs_nil (done F s₄ hj S₄)
  · subst e'
    refine wpAny_mono (turn pre P r u F L₄ G₄ s₄ e hu hj (S₄.perm (perm_swap3 F L₄ X))) (fun _ s₅ h₅ => ?_) fun _ _ x => x.elim
    refine wpAny_mono h₅ (fun f s₆ h₆ => ?_) fun _ _ x => x.elim
    have nx : (∃ F', J (pre ++ [P]) F' ∧ St b s₆ (F' ++ (L₄ ++ X)) (G₄ ++ G)) → ∃ m, m < n ∧ ∃ pre post F L₂ G₂, Ps = pre ++ post ∧ post.length = m ∧ J pre F ∧ Gives prog w b Lr d it post L₂ G₂ ∧ St b s₆ (L₂ ++ (F ++ X)) (G₂ ++ G) := by
      rintro ⟨F', hj', S'⟩
      exact ⟨r.length, by simp only [List.length_cons] at hn; omega, pre ++ [P], r, F', L₄, G₄, by rw [e]; simp, rfl, hj', hg₄, S'.perm (perm_swap3 L₄ F' X)⟩
    cases f with
    | next => exact nx h₆
    | cont => exact nx h₆
    | brk => exact h₆
    | ret v => exact h₆

/-- what a comprehension is to do with the value it walks -/
structure CompJob (prog : Program) (w : World) (A : Around) (E : Value → Shared → Prop) (b : Shared) (env : Env) (elt : Expr) (x : Str) (ifs : List Expr) (scope : Scope) (cl : List (Str × Addr)) (use : Option (Value → Sem Unit)) (Q : Value → Shared → Prop) (v₀ : Value) (s₁ : Shared)
    (Lr : Ledger) (d : Nat) (Ps : List VP) (L₁ F₀ X : Ledger) (G₁ G : GLedger) (J : List VP → List Value → Ledger → Prop) : Prop where
  src : GivesI prog w b Lr d v₀ Ps L₁ G₁
  room : Ar A d
  st : St b s₁ (L₁ ++ (F₀ ++ X)) (G₁ ++ G)
  h0 : J [] [] F₀
  hR : ∀ pre acc F, J pre acc F → ∀ p ∈ Lr, p ∈ F ++ X
  hz : ∀ pre acc F, J pre acc F → acc.length ≤ pre.length
  hPs : Ps.length ≤ sizeLine
  turn : ∀ pre P r u acc F C D L₂ G₂ s, Ps = pre ++ P :: r → P u → J pre acc F → St b s ((C, frC [(x, vE u)]) :: (D, lstV acc) :: (F ++ (L₂ ++ X))) (G₂ ++ G) →
      wpAny (model prog w) A (testsOf ifs (compEnvC scope cl C env)) (fun ok s₂ =>
        if ok = true then wpAny (model prog w) A (eval elt (compEnvC scope cl C env)) (fun y s₃ => ∃ F', J (pre ++ [P]) (acc ++ [y]) F' ∧ St b s₃ ((C, frC [(x, vE u)]) :: (D, lstV acc) :: (F' ++ (L₂ ++ X))) (G₂ ++ G)) NoE s₂
        else ∃ F', J (pre ++ [P]) acc F' ∧ St b s₂ ((C, frC [(x, vE u)]) :: (D, lstV acc) :: (F' ++ (L₂ ++ X))) (G₂ ++ G)) NoE s
  hfin : ∀ acc F C D s', J Ps acc F → St b s' ((C, frC []) :: (D, lstV acc) :: (F ++ X)) G → compPost (model prog w) A E use Q (.ref D) C (.ok .next) s'
theorem comp_job {elt iter : Expr} {x : Str} {px pos pos' : Pos} {ifs : List Expr} {scope : Scope} {cl : List (Str × Addr)} {use : Option (Value → Sem Unit)} {Q : Value → Shared → Prop}
    (hiter : wpAny (model prog w) A (eval iter env) (fun v s₁ => ∃ Lr d Ps L₁ F₀ X G₁ G J, CompJob prog w A E b env elt x ifs scope cl use Q v s₁ Lr d Ps L₁ F₀ X G₁ G J) NoE s)
    (hclos : closureFor scope env = pure cl) (hkind : scope.kind = .function) (hnames : ∀ y ∈ scope.names, y.2 = .local → scope.names.lookup y.1 = some .local)
    (hcell : ∀ y ∈ scope.names, y.2 ≠ .cell) (hx : scope.names.lookup x = some .local) (hs : ∀ v, foldedSetIterable iter env v = pure v) :
    wpAny (model prog w) A (comprehension (.ListComp elt [⟨.Name x px, iter, ifs, 0⟩] scope pos') scope env pos (newList []) false (eval iter env) use) Q E s := by
  refine wpAny_comprehension_free (g := ⟨.Name x px, iter, ifs, 0⟩) (gs := []) rfl hs hclos hkind hnames ?_
  refine wpAny_mono hiter (fun v s₁ h₁ => ?_) fun _ _ x => x.elim
  obtain ⟨Lr, d, Ps, L₁, F₀, X, G₁, G, J, hsrc, hA, S₁, h0, hR, hz, hPs, turn, hfin⟩ := h₁
  refine hsrc A _ _ _ _ _ hA (hR [] [] F₀ h0) S₁ fun it s₂ L₂ G₂ hg hself S₂ => ?_
  refine r_newList S₂ lstV_mk fun D s₃ S₃ => ?_
  refine wpAny_newFunctionEnv (scope := scope) (binds := []) hcell (fun y hy => nomatch hy) (fun h' hn hsb => ?_) hkind
  obtain ⟨oC, hoC, hcC⟩ := frC_of (fl := []) hn (fun p hp => nomatch hp)
  have S₄ : St b { s₃ with heap := h', toks := s₃.toks + ([] : List (Str × Value)).length } ((s₃.heap.objs.size, frC []) :: (D, lstV []) :: (L₂ ++ (F₀ ++ X))) (G₂ ++ G) :=
    S₃.new (heap_get_size _) (fun a o e => hsb.extBut a o (Nat.ne_of_lt (Heap.lt_size e)) (Heap.get?_push_of_some _ e)) hoC hcC
  generalize hC : s₃.heap.objs.size = C at S₄
  show codeAny _ A (.compStart _ 0 it (.ref D) (compEnvC scope cl C env)) (compPost _ A E use Q (.ref D) C) _
  have S₅ : St b _ (L₂ ++ ((C, frC []) :: (D, lstV []) :: (F₀ ++ X))) (G₂ ++ G) := S₄.perm (by
    refine List.perm_middle.trans (.cons _ ?_)
    exact List.perm_middle)
  have loop : ∀ (it : Value) (s : Shared) (L₂ : Ledger) (G₂ : GLedger), Gives prog w b Lr d it Ps L₂ G₂ → St b s (L₂ ++ ((C, frC []) :: (D, lstV []) :: (F₀ ++ X))) (G₂ ++ G) →
      codeAny (model prog w) A (.compLoop (.ListComp elt [⟨.Name x px, iter, ifs, 0⟩] scope pos') 0 it (.ref D) (compEnvC scope cl C env)) (compPost (model prog w) A E use Q (.ref D) C) s := by
    intro it s L₂ G₂ hg S
    refine codeAny_compLoop_tests (fun n s => ∃ pre post acc F L₂ G₂, Ps = pre ++ post ∧ post.length = n ∧ J pre acc F ∧ Gives prog w b Lr d it post L₂ G₂ ∧ St b s (L₂ ++ ((C, frC []) :: (D, lstV acc) :: (F ++ X))) (G₂ ++ G)) ?_ Ps.length
      ⟨[], Ps, [], F₀, L₂, G₂, rfl, rfl, h0, hg, S⟩
    rintro n s₃ ⟨pre, post, acc, F, L₃, G₃, e, hn, hj, hg₃, S₃⟩
    refine hg₃.next hA (fun q hq => .tail _ (.tail _ (hR pre acc F hj q hq))) S₃ (fun e' s₄ S₄ => ?_) (fun P r e' u s₄ L₄ G₄ hu hg₄ S₄ => ?_)
    · subst e'
      rw [List.append_nil] at e
      subst e
      exact hfin acc F C D s₄ hj S₄
    · subst e'
      have S₅ : St b s₄ ((C, frC []) :: (D, lstV acc) :: (F ++ (L₄ ++ X))) (G₄ ++ G) := S₄.perm (by
        refine List.Perm.trans ?_ (List.perm_middle.symm)
        refine .cons _ ?_
        refine List.Perm.trans ?_ (List.perm_middle.symm)
        exact .cons _ (perm_swap3 F L₄ X))
      refine wpAny_assign_Name (r_store (P := vE u) S₅ (.head _) rfl .nil .head (fun s₅ S₆ => ?_) (lookup_relabel_local hx) (by show (scope.kind == .class || (scope.kind == .module && _)) = false; rw [hkind]; rfl))
      refine wpAny_mono (turn pre P r u acc F C D L₄ G₄ s₅ e hu hj S₆) (fun ok s₆ h₆ => ?_) fun _ _ x => x.elim
      have back : ∀ {acc' F' s}, St b s ((C, frC [(x, vE u)]) :: (D, lstV acc') :: (F' ++ (L₄ ++ X))) (G₄ ++ G) → St b s (L₄ ++ ((C, frC []) :: (D, lstV acc') :: (F' ++ X))) (G₄ ++ G) := fun S => by
        refine (S.less (.head _) .head fun o ho => frC_sub (fl' := []) (fun q hq => nomatch hq) ho).perm ?_
        refine List.perm_middle.trans (.cons _ ?_)
        refine List.perm_middle.trans (.cons _ ?_)
        exact perm_swap3 _ _ _
      cases ok with
      | true =>
        rw [if_pos rfl] at h₆ ⊢
        refine wpAny_mono h₆ (fun y s₇ h₇ => ?_) fun _ _ x => x.elim
        obtain ⟨F', hj', S₇⟩ := h₇
        have hlen : acc.length < sizeLine := by
          have h1 := hz pre acc F hj
          have h2 : Ps.length = pre.length + (r.length + 1) := by rw [e]; simp
          omega
        obtain ⟨_, hoD, nD, rfl⟩ := S₇.get (.tail _ (.head _))
        refine wpAny_list_append_plain (x := y) ⟨nD, hoD⟩ (fun h' hl hsb => ?_) (by simpa using Nat.le_of_lt hlen)
        obtain ⟨n', ho'⟩ := hl
        refine ⟨r.length, by simp only [List.length_cons] at hn; omega, pre ++ [P], r, acc ++ [y], F', L₄, G₄, by rw [e]; simp, rfl, hj', hg₄, back ?_⟩
        exact S₇.set (P' := lstV (acc ++ [y])) (.tail .head) ⟨_, .tail _ (.head _)⟩ hsb.extBut ho' ⟨n', by simp⟩
      | false =>
        rw [if_neg Bool.false_ne_true] at h₆ ⊢
        obtain ⟨F', hj', S₇⟩ := h₆
        exact ⟨r.length, by simp only [List.length_cons] at hn; omega, pre ++ [P], r, acc, F', L₄, G₄, by rw [e]; simp, rfl, hj', hg₄, back S₇⟩
  refine codeAny_compStart_list (loop it _ L₂ G₂ hg S₅) ?_
  exact hself A _ _ _ _ _ S₅ (loop it _ L₂ G₂ hg S₅)

/-- no own cell: the end of a comprehension whose value is its list -/
theorem comp_end {A : Around} {E : Value → Shared → Prop} {Q : Value → Shared → Prop} {C D : Addr} {s' : Shared} {L : Ledger} {G : GLedger} (S : St b s' ((C, frC []) :: L) G) (h : ∀ s'', St b s'' L G → Q (.ref D) s'') :
    compPost (model prog w) A E none Q (.ref D) C (.ok .next) s' := by
  obtain ⟨o, ho, hc⟩ := S.get (.head _)
  obtain ⟨m, hn, _⟩ := frC_ns ho hc
  exact ⟨m, hn, fun h'' hs'' => h _ (S.drop1 hs''.extBut)⟩

/-- [f(x) for x in texts] -/
theorem r_compS {elt iter : Expr} {x : Str} {px pos : Pos} {scope : Scope} {Q : Value → Shared → Prop} (fS : Str → Str) (hA : Ar A 0)
    (hiter : wpAny (model prog w) A (eval iter env) (fun v s₁ => ∃ l ys L' G', v = .ref l ∧ St b s₁ ((l, lstS ys) :: L') G' ∧ ys.length ≤ sizeLine ∧
      (∀ y ∈ ys, ∀ (C : Addr) (L : Ledger) (G : GLedger) (u : Value) (s : Shared) (R : Value → Shared → Prop), vS y u → St b s ((C, frC [(x, vE u)]) :: L) G → (∀ t s', St b s' ((C, frC [(x, vE u)]) :: L) G → R (.str (fS y) t) s') → wpAny (model prog w) A (eval elt (compEnvC scope [] C env)) R NoE s) ∧
      ∀ D s', St b s' ((D, lstS (ys.map fS)) :: L') G' → Q (.ref D) s') NoE s)
    (hclos : closureFor scope env = pure [] := by kernel_rfl) (hkind : scope.kind = .function := by kernel_rfl) (hnames : ∀ y ∈ scope.names, y.2 = .local → scope.names.lookup y.1 = some .local := by decide)
    (hcell : ∀ y ∈ scope.names, y.2 ≠ .cell := by decide) (hx : scope.names.lookup x = some .local := by kernel_rfl) (hs : ∀ v, foldedSetIterable iter env v = pure v := by intro _; kernel_rfl) :
    wpAny (model prog w) A (eval (.ListComp elt [⟨.Name x px, iter, [], 0⟩] scope pos) env) Q E s := by
  rw [eval_ListComp]
  refine comp_job (b := b) (cl := []) (wpAny_mono hiter (fun v s₁ h₁ => ?_) fun _ _ x => x) hclos hkind hnames hcell hx hs
  obtain ⟨l, ys, L', G', rfl, S₁, hz, helt, hQ⟩ := h₁
  refine ⟨[(l, lstS ys)], 0, ys.map vS, [], [(l, lstS ys)], L', [], G', fun pre acc F => ∃ zs, pre = zs.map vS ∧ StrsAre acc (zs.map fS) ∧ F = [(l, lstS ys)], givesI_list (hasL_S (.head _)), hA, S₁, ⟨[], rfl, .nil, rfl⟩, ?_, ?_, by rw [List.length_map]; exact hz, ?_, ?_⟩
  · rintro _ _ _ ⟨_, _, _, rfl⟩ p hp
    rw [List.mem_singleton] at hp
    subst hp
    exact .head _
  · rintro _ _ _ ⟨zs, rfl, h, _⟩
    rw [strsAre_len h, List.length_map, List.length_map]
    exact Nat.le_refl _
  · rintro pre P r u acc F C D L₂ G₂ s e hu ⟨zs, rfl, hacc, rfl⟩ S
    refine wpAny_pure ?_
    rw [if_pos rfl]
    obtain ⟨y, rs, hy, hPy⟩ := next_vS e
    subst hPy
    refine helt y (by rw [hy]; simp) C _ _ u s _ hu S fun t s' S' => ?_
    exact ⟨_, ⟨zs ++ [y], by simp, by rw [List.map_append]; exact hacc.append' (.cons _ t .nil), rfl⟩, S'⟩
  · rintro acc F C D s' ⟨zs, e, hacc, rfl⟩ S
    have : zs = ys := (map_vS_inj e).symm
    subst this
    refine comp_end S fun s'' S'' => hQ D s'' ?_
    refine (S''.weaken (P' := lstS (zs.map fS)) .head ?_).sub ?_
    · rintro P o hP ho
      have hnd := S''.nodup
      have : P = lstV acc := by
        rcases List.mem_cons.mp hP with h | h
        · exact (Prod.mk.inj h).2
        · exact absurd (List.mem_map_of_mem (f := (·.1)) h) (List.nodup_cons.mp hnd).1
      subst this
      obtain ⟨n, rfl⟩ := ho
      exact ⟨_, n, rfl, by simpa using hacc⟩
    · exact .cons_cons _ (List.sublist_cons_self _ _)
end
end Mine

-- part LX
open PySem PySem.W PySem.W.X PyProof.Rows PySem.Calls PySem.Spec PySem.SeqAt
set_option Elab.async false
set_option maxRecDepth 100000
set_option maxHeartbeats 400000
set_option linter.all false
namespace Mine

theorem lt_natB {a b : Nat} : decide ((a : Int) < (b : Int)) = decide (a < b) := by simp

theorem pick_nat {α : Type} (l : List α) (a c : Nat) : pick l (some (a : Int)) (some (c : Int)) = (l.drop a).take (c - a) := by
  unfold pick kms_lo kms_hi
  simp only [show ¬ ((a : Int) < 0) by omega, show ¬ ((c : Int) < 0) by omega, if_false, Int.toNat_natCast]
  by_cases ha : a ≤ l.length
  · rw [Nat.min_eq_left ha, List.take_eq_take_iff, List.length_drop]; omega
  · rw [Nat.min_eq_right (show l.length ≤ a by omega), List.drop_of_length_le (l := l) (Nat.le_refl _), List.drop_of_length_le (show l.length ≤ a by omega)]
    simp
theorem pick_from {α : Type} (l : List α) (a : Nat) : pick l (some (a : Int)) none = l.drop a := by
  unfold pick kms_lo kms_hi
  simp only [show ¬ ((a : Int) < 0) by omega, if_false, Int.toNat_natCast]
  rw [List.take_of_length_le (by rw [List.length_drop]; omega)]
  by_cases ha : a ≤ l.length
  · rw [Nat.min_eq_left ha]
  · rw [Nat.min_eq_right (show l.length ≤ a by omega), List.drop_of_length_le (l := l) (Nat.le_refl _), List.drop_of_length_le (show l.length ≤ a by omega)]

section
variable {prog : Program} {w : World} {A : Around} {E : Value → Shared → Prop} {b s : Shared} {X : Ledger} {G : GLedger} {mg mb : Str → Option Value} {names : List Str} {Q : Value → Shared → Prop}
/-- a method of a list of texts -/
theorem r_methS {o e : Expr} {name : Str} {apos pos : Pos} {id : String} {env : Env} (slot : Slot "list" name id) (hty : typeOf (.builtin id) = pure (.type "method_descriptor"))
    (h : wpAny (model prog w) A (eval o env) (fun ov s₁ => ∃ l ys L G, ov = .ref l ∧ St b s₁ L G ∧ (l, lstS ys) ∈ L ∧ wpAny (model prog w) A (callWith pos (.builtin id) [.ref l] [(false, eval e env)] []) Q E s₁) E s)
    (hbase : attributeBase o name env (eval o env) = eval o env := by kernel_rfl) (hline : (apos.endLine == pos.line) = true := by kernel_rfl) (htrees : backTo pos (starEach [e] env) = [(false, eval e env)] := by kernel_rfl) :
    wpAny (model prog w) A (eval (.Call (.Attribute o name apos) [e] [] pos) env) Q E s := by
  refine r_meth1 slot hty (wpAny_mono h (fun ov s₁ h₁ => ?_) fun _ _ x => x) hbase hline htrees
  obtain ⟨l, ys, L, G, rfl, S, hl, h₂⟩ := h₁
  obtain ⟨_, e, vs, m, rfl, hs⟩ := S.get hl
  exact ⟨_, _, rfl, e, rfl, rfl, h₂⟩

/-- h + x, in a comprehension -/
theorem w_headed {env : Env} {scope : Scope} {h x : Str} {k : Nat} {p1 p2 p3 : Pos} {y : Str} (hz : h.length + y.length ≤ sizeLine) (hkind : scope.kind = .function) (hx : scope.names.lookup x = some .local) (hd : (x == ("__debug__" : Str)) = false) {C : Addr} {L : Ledger} {u : Value} {R : Value → Shared → Prop}
    (hu : vS y u) (S : St b s ((C, frC [(x, vE u)]) :: L) G) (hR : ∀ t s', St b s' ((C, frC [(x, vE u)]) :: L) G → R (.str (h ++ y) t) s') :
    wpAny (model prog w) A (eval (.BinOp (.Constant (.str h) k p1) .Add (.Name x p2) p3) (compEnvC scope [] C env)) R NoE s := by
  refine wpAny_BinOp ?_
  refine r_str S fun t s₁ S₁ => ?_
  refine r_name S₁ (.head _) (.head _) (fun v hv => ?_) (by simp [compEnvC, relabel, hkind]) (lookup_relabel_local hx) hd
  obtain rfl : v = u := hv
  obtain ⟨t', rfl⟩ := hu
  exact r_addS S₁ hz fun t₂ s₂ S₂ => hR _ _ S₂

theorem Ar.deeper {A : Around} {d : Nat} {env : Env} (h : Ar A (d + 1)) : Ar (A.deeper env) d := ⟨h.1, by have := h.2; show A.depth + 1 + d < recursionLimit; omega⟩

end
end Mine

-- part LH
open PySem PySem.W PySem.W.X PyProof.Rows PySem.Calls PySem.Spec PySem.SeqAt
set_option Elab.async false
set_option maxRecDepth 100000
set_option maxHeartbeats 400000
set_option linter.all false
namespace Mine

/-! variables of a block inside: cells -/
def celN : Cell := fun o => ∃ v, o.data = .cell v
def celV (P : VP) : Cell := fun o => ∃ v, o.data = .cell (some v) ∧ P v
theorem celV_N {P : VP} {o : Obj} (h : celV P o) : celN o := let ⟨v, e, _⟩ := h; ⟨_, e⟩

section
variable {prog : Program} {w : World} {A : Around} {E : Value → Shared → Prop} {b s : Shared} {L L' X : Ledger} {G : GLedger} {env : Env} {mg mb : Str → Option Value} {names : List Str}

theorem r_nameC {Q : Value → Shared → Prop} {x : Str} {pos : Pos} {c : Addr} {P : VP} (S : St b s L G) (hc : (c, celV P) ∈ L) (h : ∀ v, P v → Q v s) (he : env.cells.lookup x = some c := by kernel_rfl)
    (hk : env.scope.kind = .function := by kernel_rfl) (hl : env.kindOf x = some .cell := by kernel_rfl) (hd : (x == ("__debug__" : Str)) = false := by decide) :
    wpAny (model prog w) A (eval (.Name x pos) env) Q E s := by
  obtain ⟨o, ho, v, e, hv⟩ := S.get hc
  exact wpAny_Name (wpAny_loadName_cell hk hl he ⟨o, ho, e⟩ (h v hv)) hd
theorem r_nameF {Q : Value → Shared → Prop} {x : Str} {pos : Pos} {c : Addr} {P : VP} (S : St b s L G) (hc : (c, celV P) ∈ L) (h : ∀ v, P v → Q v s) (he : env.cells.lookup x = some c := by kernel_rfl)
    (hk : env.scope.kind = .function := by kernel_rfl) (hl : env.kindOf x = some .free := by kernel_rfl) (hd : (x == ("__debug__" : Str)) = false := by decide) (hn : (x == ("__classdict__" : Str)) = false := by decide) :
    wpAny (model prog w) A (eval (.Name x pos) env) Q E s := by
  obtain ⟨o, ho, v, e, hv⟩ := S.get hc
  exact wpAny_Name (wpAny_loadName_free hk hl he ⟨o, ho, e⟩ (h v hv) hn) hd
theorem r_storeC {Q : Unit → Shared → Prop} {x : Str} {c : Addr} {P₀ : Cell} {v : Value} {P : VP} (S : St b s L G) (hc : (c, P₀) ∈ L) (h₀ : ∀ o, P₀ o → celN o) (hv : P v) (hu : Upd L c (celV P) L') (h : ∀ s', St b s' L' G → Q () s') (he : env.cells.lookup x = some c := by kernel_rfl)
    (hk : env.scope.kind = .function := by kernel_rfl) (hl : env.kindOf x = some .cell := by kernel_rfl) :
    wpAny (model prog w) A (storeName env x v) Q E s := by
  obtain ⟨o, ho, hP⟩ := S.get hc
  obtain ⟨v₀, e⟩ := h₀ o hP
  refine wpAny_storeName_cell hk hl he ⟨o, ho, e⟩ fun h' hc' hsb => ?_
  obtain ⟨o', ho', e'⟩ := hc'
  exact h _ (S.set hu ⟨_, hc⟩ hsb.extBut ho' ⟨v, e', hv⟩)

abbrev envOf1 (name : Str) (params : Arguments) (body : List Stmt) (scope : Scope) (C f : Addr) (cd : Value) : Env := callEnvC (docDef name params body scope .none cd .none) C f

/-- a call of a def with one variable of a block inside, and one argument -/
theorem r_callCell1 {Q : Value → Shared → Prop} {f : Addr} {name x : Str} {params : Arguments} {body : List Stmt} {scope : Scope} {cd v : Value} {y : Str} (B : Bs b mg mb names) (F : FnAt b mg f name params body scope cd) (S : St b s L G) (hroom : A.depth < recursionLimit)
    (hbind : ∀ pm doc, bindArgs (docDef name params body scope pm cd doc) ⟨[v], []⟩ = pure [(x, v)])
    (hloc : scope.names.lookup x = some .local) (hcs : ∀ n, cellsFrom n scope.names [] = [(y, n)])
    (h : ∀ C s', St b s' ((C, frC [(x, vE v)]) :: (C + 1, celN) :: L) G → wpAny (model prog w) (A.deeper (envOf1 name params body scope C f cd)) (execs body (envOf1 name params body scope C f cd)) (fun fl s'' => Q (match fl with | .ret v => v | _ => .none) s'') NoE s')
    (hco : scope.isCoroutine = false) (hgen : scope.isGenerator = false) (hk : scope.kind = .function) :
    wpAny (model prog w) A (call (.ref f) [v]) Q E s := by
  obtain ⟨o, pm, doc, ho, hd⟩ := F.obj
  have hkf : (callEnvC (docDef name params body scope pm cd doc) s.heap.objs.size f).kindOf x = some .local := hloc
  refine wpAny_call (codeAny_call_cells hroom (S.keep _ _ ho) hd (B.nolimit.keeps S.keep) (F.code.keeps S.keep) rfl (hbind pm doc) rfl (fun p hp => ?_) (fun s₁ I => ?_) hco hgen hk)
  · rw [List.mem_singleton] at hp
    subst hp
    exact .inl hloc
  · have hns := I.toInCall.ns
    obtain ⟨oC, hoC, hcC⟩ := frC_of (fl := [(x, vE v)]) hns (fun p hp => by
      rw [List.mem_singleton] at hp
      subst hp
      refine ⟨v, ?_, rfl⟩
      unfold bindL bindL
      rw [if_pos hkf]
      simp)
    have hce : (callEnvC (docDef name params body scope pm cd doc) s.heap.objs.size f).cells = [(y, s.heap.objs.size + 1)] := hcs _
    obtain ⟨oy, hoy, hyd⟩ := I.cell y (s.heap.objs.size + 1) (by rw [hce]; simp [List.lookup])
    obtain ⟨h₁, tk, rfl⟩ := I.toInCall.same
    have hkp := I.toInCall.keep
    have hbn : ∀ {a}, s.heap.get? a = none → b.heap.get? a = none := fun {a} e => by
      cases hb : b.heap.get? a with
      | none => rfl
      | some o' => rw [S.keep _ _ hb] at e; cases e
    have hnone : ∀ k, s.heap.get? (s.heap.objs.size + k) = none := fun k => by
      cases hb : s.heap.get? (s.heap.objs.size + k) with
      | none => rfl
      | some o' => exact absurd (Heap.lt_size hb) (Nat.not_lt.mpr (Nat.le_add_right _ _))
    have hlt : ∀ p ∈ L, p.1 < s.heap.objs.size := fun p hp => S.lt hp
    have S₁ : St b { s with heap := h₁, toks := tk } ((s.heap.objs.size, frC [(x, vE v)]) :: (s.heap.objs.size + 1, celN) :: L) G := by
      refine ⟨fun a o e => hkp a o (S.keep a o e), fun p hp => ?_, ?_, S.os, S.bare, S.gens, S.gnodup⟩
      · rcases List.mem_cons.mp hp with rfl | hp
        · exact ⟨hbn (hnone 0), oC, hoC, hcC⟩
        · rcases List.mem_cons.mp hp with rfl | hp
          · exact ⟨hbn (hnone 1), oy, hoy, _, hyd⟩
          · obtain ⟨h1, o', h2, h3⟩ := S.own p hp
            exact ⟨h1, o', hkp _ _ h2, h3⟩
      · simp only [List.map_cons, List.nodup_cons, List.mem_cons, List.mem_map, not_or, not_exists, not_and]
        refine ⟨⟨Nat.ne_of_lt (Nat.lt_succ_self _), fun p hp e => ?_⟩, fun p hp e => ?_, S.nodup⟩
        · exact Nat.ne_of_lt (hlt p hp) e
        · exact Nat.ne_of_lt (Nat.lt_succ_of_lt (hlt p hp)) e
    exact wpAny_mono (h _ _ S₁) (fun fl s'' hq => hq) fun _ _ x => x.elim

/-- y = [ .. ] -/
theorem r_asgComp {Q : Flow → Shared → Prop} {elt iter : Expr} {x y : Str} {px py : Pos} {ifs : List Expr} {scope : Scope} {cl : List (Str × Addr)} {pos spos : Pos}
    (hiter : wpAny (model prog w) A (eval iter env) (fun v s₁ => ∃ Lr d Ps L₁ F₀ X G₁ G J, CompJob prog w A E b env elt x ifs scope cl (some (assign (.Name y py) env)) (fun _ s' => Q .next s') v s₁ Lr d Ps L₁ F₀ X G₁ G J) NoE s)
    (hsw : swapsWith (.ListComp elt [⟨.Name x px, iter, ifs, 0⟩] scope pos) (some (.Name y py)) spos.line env = pure true := by kernel_rfl)
    (hclos : closureFor scope env = pure cl := by kernel_rfl) (hkind : scope.kind = .function := by kernel_rfl) (hnames : ∀ y ∈ scope.names, y.2 = .local → scope.names.lookup y.1 = some .local := by decide)
    (hcell : ∀ y ∈ scope.names, y.2 ≠ .cell := by decide) (hx : scope.names.lookup x = some .local := by kernel_rfl) (hs : ∀ v, foldedSetIterable iter env v = pure v := by intro _; kernel_rfl) :
    wpAny (model prog w) A (exec (.Assign [.Name y py] (.ListComp elt [⟨.Name x px, iter, ifs, 0⟩] scope pos) spos) env) Q E s := by
  rw [exec_Assign_Name_used _ _ _ _ hsw]
  refine wpAny_bind (wpAny_standAt (wpAny_bind ?_))
  show wpAny _ A (do let _ ← comprehension (.ListComp elt [⟨.Name x px, iter, ifs, 0⟩] scope pos) scope env _ (newList []) false (eval iter env) (some (assign (.Name y py) env))) _ _ s
  exact wpAny_bind (wpAny_mono (comp_job (b := b) (cl := cl) hiter hclos hkind hnames hcell hx hs) (fun _ s' hq => wpAny_pure (wpAny_pure hq)) fun _ _ e => e)

/-- the end of a comprehension whose list is stored -/
theorem comp_endU {Q : Value → Shared → Prop} {u : Value → Sem Unit} {C D : Addr} {s' : Shared} (h : wpAny (model prog w) A (u (.ref D)) (fun _ s'' => ∃ L G, St b s'' ((C, frC []) :: L) G ∧ ∀ s₃, St b s₃ L G → Q .none s₃) E s') :
    compPost (model prog w) A E (some u) Q (.ref D) C (.ok .next) s' := by
  refine wpAny_mono h (fun _ s'' h'' => ?_) fun _ _ x => x
  obtain ⟨L, G, S, hQ⟩ := h''
  obtain ⟨o, ho, hc⟩ := S.get (.head _)
  obtain ⟨m, hn, _⟩ := frC_ns ho hc
  exact ⟨m, hn, fun h'' hs'' => hQ _ (S.drop1 hs''.extBut)⟩

/-! lists of lists of texts -/
def cellsOf (as : List Addr) (tx : List (List Str)) : Ledger := (as.zip tx).map fun p => (p.1, lstS p.2)
theorem cellsOf_at : ∀ {as : List Addr} {tx : List (List Str)} {k : Nat} {a : Addr} {y : List Str}, as[k]? = some a → tx[k]? = some y → (a, lstS y) ∈ cellsOf as tx
  | [], _, _, _, _, h, _ => by simp at h
  | _ :: _, [], _, _, _, _, h => by simp at h
  | a :: r, y :: q, 0, _, _, h1, h2 => by
    simp only [List.getElem?_cons_zero, Option.some.injEq] at h1 h2
    subst h1 h2
    exact .head _
  | a :: r, y :: q, k + 1, _, _, h1, h2 => by
    simp only [List.getElem?_cons_succ] at h1 h2
    exact .tail _ (cellsOf_at h1 h2)
theorem cellsOf_upd : ∀ {as : List Addr} {tx : List (List Str)} {k : Nat} {a : Addr} {y z : List Str} (R : Ledger), as[k]? = some a → tx[k]? = some y → Upd (cellsOf as tx ++ R) a (lstS z) (cellsOf as (tx.set k z) ++ R)
  | [], _, _, _, _, _, _, h, _ => by simp at h
  | _ :: _, [], _, _, _, _, _, _, h => by simp at h
  | a :: r, y :: q, 0, _, _, z, R, h1, h2 => by
    simp only [List.getElem?_cons_zero, Option.some.injEq] at h1 h2
    subst h1 h2
    exact .head
  | a :: r, y :: q, k + 1, _, _, z, R, h1, h2 => by
    simp only [List.getElem?_cons_succ] at h1 h2
    exact .tail (cellsOf_upd R h1 h2)
theorem cellsOf_snoc : ∀ {as : List Addr} {tx : List (List Str)}, as.length = tx.length → ∀ (a : Addr) (y : List Str), cellsOf (as ++ [a]) (tx ++ [y]) = cellsOf as tx ++ [(a, lstS y)]
  | [], [], _, _, _ => rfl
  | [], _ :: _, h, _, _ => by simp at h
  | _ :: _, [], h, _, _ => by simp at h
  | a :: r, y :: q, h, c, z => by
    have := cellsOf_snoc (as := r) (tx := q) (by simpa using h) c z
    show (a, lstS y) :: cellsOf (r ++ [c]) (q ++ [z]) = _
    rw [this]; rfl
end
end Mine

-- part LY
open PySem PySem.W PySem.W.X PyProof.Rows PySem.Calls PySem.Spec PySem.SeqAt
set_option Elab.async false
set_option maxRecDepth 100000
set_option maxHeartbeats 400000
set_option linter.all false
namespace Mine

theorem rngI_mem {n : Nat} {k : Int} (h : k ∈ rngI 0 1 n) : 0 ≤ k ∧ k < n := by
  unfold rngI at h
  obtain ⟨i, hi, rfl⟩ := List.mem_map.mp h
  rw [List.mem_range] at hi
  omega
theorem fmod_range (x : Int) {m : Int} (hm : 0 < m) : 0 ≤ x.fmod m ∧ x.fmod m < m := by
  rw [Int.fmod_eq_emod_of_nonneg _ (by omega)]
  exact ⟨Int.emod_nonneg _ (by omega), Int.emod_lt_of_pos _ hm⟩

theorem readS_long {n : Int} {xs : List Str} {N : Nat} (h : ∀ x ∈ xs, x.length ≤ N) : ∀ x ∈ readS n xs, x.length ≤ N := by
  intro x hx
  unfold readS at hx
  obtain ⟨y, hy, rfl⟩ := List.mem_map.mp hx
  exact Nat.le_trans (cut_len y) (h y (List.mem_filter.mp hy).1)

section
variable {prog : Program} {w : World} {A : Around} {E : Value → Shared → Prop} {b s : Shared} {Y : Ledger} {G : GLedger} {mg mb : Str → Option Value} {names : List Str}
theorem r_range3 {L : Ledger} {Q : Value → Shared → Prop} {x y z : Int} {t u v : Tok} (S : St b s L G) (hz : z ≠ 0) (hp : PylongRoom (model prog w) A s) (h : ∀ a s', St b s' ((a, rngC x y z) :: L) G → Q (.ref a) s') : wpAny (model prog w) A (call (.type "range") [.int x t, .int y u, .int z v]) Q E s :=
  call_range_3 hz (h _ _ (S.alloc ⟨_, _, _, rfl⟩ _)) (.inr hp)
theorem r_comp {env : Env} {Q : Value → Shared → Prop} {elt iter : Expr} {x : Str} {px : Pos} {ifs : List Expr} {scope : Scope} {cl : List (Str × Addr)} {pos : Pos}
    (hiter : wpAny (model prog w) A (eval iter env) (fun v s₁ => ∃ Lr d Ps L₁ F₀ X G₁ G J, CompJob prog w A E b env elt x ifs scope cl none Q v s₁ Lr d Ps L₁ F₀ X G₁ G J) NoE s)
    (hclos : closureFor scope env = pure cl := by kernel_rfl) (hkind : scope.kind = .function := by kernel_rfl) (hnames : ∀ y ∈ scope.names, y.2 = .local → scope.names.lookup y.1 = some .local := by decide)
    (hcell : ∀ y ∈ scope.names, y.2 ≠ .cell := by decide) (hx : scope.names.lookup x = some .local := by kernel_rfl) (hs : ∀ v, foldedSetIterable iter env v = pure v := by intro _; kernel_rfl) :
    wpAny (model prog w) A (eval (.ListComp elt [⟨.Name x px, iter, ifs, 0⟩] scope pos) env) Q E s := by
  rw [eval_ListComp]
  exact comp_job (b := b) (cl := cl) hiter hclos hkind hnames hcell hx hs

end
theorem fnAt_of {p : Program} {loose : List Str} {mean : ExcName → Option Value} {mg mb : Str → Option Value} {s : Shared} (T : Top p loose mean mg mb s.heap) {name : Str} {params : Arguments} {body : List Stmt} {scope : Scope}
    (h : ∃ d ∈ recsOf p, d.name = name ∧ d.params = params ∧ d.body = body ∧ d.scope = scope) : ∃ a cd, FnAt s mg a name params body scope cd := by
  obtain ⟨d, hd, rfl, rfl, rfl, rfl⟩ := h
  obtain ⟨a, o, pm, code, doc, h1, h2, h3, h4⟩ := T.fn d hd
  exact ⟨a, code, h1, ⟨o, pm, doc, h2, h3⟩, h4⟩
theorem bs_of {p : Program} {loose : List Str} {mean : ExcName → Option Value} {mg mb : Str → Option Value} {s : Shared} (T : Top p loose mean mg mb s.heap) :
    Bs s mg mb (startupNames ++ loose ++ (recsOf p).map (·.name) ++ (PyProof.Rows.litsOf p).map (·.1) ++ (clssOf p loose).map (·.name)) :=
  ⟨T.g, T.b, T.nolimit, T.builtins, fun x hx => by
    simp only [List.mem_append, not_or] at hx
    exact T.free x hx.1.1.1.1 hx.1.1.1.2 hx.1.1.2 hx.1.2 hx.2⟩

end Mine

-- part XS
open PySem PySem.W PySem.W.X PyProof.Rows PySem.Calls PySem.Spec PySem.SeqAt
set_option Elab.async false
set_option maxRecDepth 100000
set_option maxHeartbeats 400000
set_option linter.all false
namespace Mine
/-- the frames that run, in the ledger -/
def FmsOk (envs : List Env) (L : Ledger) : Prop := ∀ env ∈ envs, env.scope.kind ≠ .module ∧ env.frame = some env.locals ∧ ∃ fl, (env.locals, frC fl) ∈ L
theorem FmsOk.sub {envs : List Env} {L L' : Ledger} (h : FmsOk envs L) (k : ∀ a fl, (a, frC fl) ∈ L → ∃ fl', (a, frC fl') ∈ L') : FmsOk envs L' := fun env he => by
  obtain ⟨h1, h2, fl, h3⟩ := h env he
  exact ⟨h1, h2, k _ _ h3⟩
section
variable {b s : Shared} {L L' : Ledger} {G : GLedger}
theorem FmsOk.fun {envs : List Env} (h : FmsOk envs L) (S : St b s L G) : s.heap.FunFrames b.heap envs := by
  induction envs with
  | nil => trivial
  | cons env r ih =>
    obtain ⟨h1, h2, fl, h3⟩ := h env (.head _)
    obtain ⟨hb, o, ho, es, ep, hd, _⟩ := S.own _ h3
    exact ⟨h1, ⟨env.locals, o, h2, hb, ho, fun vs q => by rw [hd] at q; cases q⟩, ih fun e he => h e (.tail _ he)⟩
theorem St.same {a : Addr} {P P' : Cell} (S : St b s L G) (h1 : (a, P) ∈ L) (h2 : (a, P') ∈ L) : P = P' := by
  have hn := S.nodup
  clear S
  induction L with
  | nil => cases h1
  | cons p r ih =>
    rw [List.map_cons, List.nodup_cons] at hn
    rcases List.mem_cons.mp h1 with e1 | h1 <;> rcases List.mem_cons.mp h2 with e2 | h2
    · rw [← e2] at e1; exact (Prod.mk.inj e1).2
    · exact absurd (List.mem_map_of_mem (f := (·.1)) h2) (by rw [← e1] at hn; exact hn.1)
    · exact absurd (List.mem_map_of_mem (f := (·.1)) h1) (by rw [← e2] at hn; exact hn.1)
    · exact ih h1 h2 hn.2
/-- the ledger is kept when only the frames' slots change -/
theorem St.slots {envs : List Env} (S : St b s L G) (hf : FmsOk envs L) {h' : Heap} (x : Heap.SlotsOnly (envs.filterMap (·.frame)) s.heap h') : St b { s with heap := h' } L G := by
  have fr : ∀ a ∈ envs.filterMap (·.frame), ∃ fl, (a, frC fl) ∈ L := fun a ha => by
    obtain ⟨env, he, hfr⟩ := List.mem_filterMap.mp ha
    obtain ⟨_, h2, fl, h3⟩ := hf env he
    rw [h2] at hfr
    cases hfr
    exact ⟨fl, h3⟩
  refine ⟨fun a o e => ?_, fun p hp => ?_, S.nodup, S.os, S.bare, S.gens, S.gnodup⟩
  · rw [x.2.1 a fun ha => ?_]
    · exact S.keep a o e
    · obtain ⟨fl, h3⟩ := fr a ha
      rw [(S.own _ h3).1] at e
      cases e
  · obtain ⟨hb, o, ho, hP⟩ := S.own p hp
    refine ⟨hb, ?_⟩
    by_cases ha : p.1 ∈ envs.filterMap (·.frame)
    · obtain ⟨fl, h3⟩ := fr _ ha
      obtain ⟨sl, e⟩ := x.2.2 _ _ ho
      refine ⟨_, e, ?_⟩
      have := S.same hp h3
      rw [this] at hP ⊢
      exact hP
    · exact ⟨o, by show h'.get? p.1 = _; rw [x.2.1 _ ha]; exact ho, hP⟩
end
end Mine

-- part X1
open PySem PySem.W PySem.W.X PyProof.Rows PySem.Calls PySem.Spec PySem.SeqAt
set_option Elab.async false
set_option maxRecDepth 100000
set_option maxHeartbeats 400000
set_option linter.all false
namespace Mine
/-- an exception of the class cls, its arguments in the tuple t, its traceback tb -/
def excC (cls : String) (t tb : Value) (K : VP) : Cell := fun o => ∃ vs, o.cls = .type cls ∧ o.data = .fields vs ∧ vs[0]? = some t ∧ vs[1]? = some tb ∧ ∃ cx, vs[2]? = some cx ∧ K cx
theorem excC_mk {cls : String} {t tb cx : Value} {K : VP} {o : Obj} {r : List Value} (hc : o.cls = .type cls) (hd : o.data = .fields (t :: tb :: cx :: r).toArray) (hK : K cx) : excC cls t tb K o := ⟨_, hc, hd, by simp, by simp, cx, by simp, hK⟩
abbrev anyV : VP := fun _ => True
/-- a traceback in flight through fl -/
def tbC (fl : Value) : Cell := fun o => ∃ ts, o.data = .fields ts ∧ ts[3]? = some fl
theorem upd_same {α β : Type} {a : α} {P : β} : ∀ {L : List (α × β)}, (a, P) ∈ L → Upd L a P L
  | _, .head _ => .head
  | _, .tail _ h => .tail (upd_same h)
section
variable {prog : Program} {w : World} {A : Around} {E : Value → Shared → Prop} {b s : Shared} {L L' : Ledger} {G : GLedger} {env : Env} {outer : List Env} {Q : Unit → Shared → Prop} {K : VP}
/-- a further entry of the traceback -/
theorem r_entry {e : Addr} {t : Value} {cls : String} {tb head : Value} {hadNext : Bool} (S : St b s L G) (hfr : A.frames = some (env :: outer)) (hf : FmsOk (env :: outer) L) (he : (e, excC cls t tb K) ∈ L)
    (h : ∀ T s' L', Upd L e (excC cls t (.ref T) K) L' → St b s' ((T, tbC (rawInt env.locals)) :: L') G → Q () s') (hu : ∀ T, ∃ L', Upd L e (excC cls t (.ref T) K) L') :
    wpAny (model prog w) A (do let a ← frameOf env; let pl ← entryPlaceOf env.locals hadNext; let b ← EntryCells.newEntry head a .none (rawInt env.locals) .none pl; setField (.ref e) 1 b) Q E s := by
  refine wpAny_bind (wpAny_frameOf_fun hfr (hf.fun S) (hf env (.head _)).2.1 fun h₁ hs₁ => ?_)
  have S₁ := S.slots hf hs₁
  refine wpAny_bind (wpAny_entryPlaceOf fun pl hpl => ?_)
  unfold EntryCells.newEntry newFields
  refine wpAny_bind (wpAny_newObj_type ?_ (hpl.sizeOk5 _ _ _ _ _))
  have S₂ := S₁.alloc (P := tbC (rawInt env.locals)) (o := { cls := .type "traceback", dict := none, data := .fields ([head, .ref env.locals, .none, rawInt env.locals, .none] ++ (if pl.isEmpty then List.replicate 6 Value.none else pl)).toArray }) ⟨_, rfl, by simp⟩
  obtain ⟨oe, hoe, vs, hc, hed, hv0, hv1, cx, hv2, hK⟩ := S₂.get (.tail _ he)
  have hvz : 1 < vs.size := (Array.getElem?_eq_some_iff.mp hv1).1
  refine wpAny_setField hoe hed hvz ?_
  have hed' := Obj.data_mapFields hed (·.setIfInBounds 1 (Value.ref h₁.objs.size))
  obtain ⟨L', u⟩ := hu h₁.objs.size
  refine h _ _ L' u (S₂.set (.tail u) ⟨_, .tail _ he⟩ (Heap.SameBut.update ..).extBut (Heap.get?_update_self _ hoe (Obj.isFreed_of_fields hed')) ⟨_, (Obj.cls_mapFields _ _).trans hc, hed', by rw [Array.getElem?_setIfInBounds_ne (by decide)]; exact hv0, by simp [hvz], cx, by rw [Array.getElem?_setIfInBounds_ne (by decide)]; exact hv2, hK⟩)

theorem excUpd {e : Addr} {t : Value} {cls : String} {tb : Value} (S : St b s L G) (he : (e, excC cls t tb K) ∈ L) : ∀ T, ∃ L', Upd L e (excC cls t (.ref T) K) L' := fun T => ⟨_, setL_upd ⟨_, he⟩⟩
/-- a new exception seen by the frame -/
theorem r_note1 {e : Addr} {t : Value} {cls : String} (S : St b s L G) (hfr : A.frames = some (env :: outer)) (hf : FmsOk (env :: outer) L) (he : (e, excC cls t .none K) ∈ L)
    (h : ∀ T s' L', Upd L e (excC cls t (.ref T) K) L' → St b s' ((T, tbC (rawInt env.locals)) :: L') G → Q () s') : wpAny (model prog w) A (noteFrame (.ref e) env) Q E s := by
  obtain ⟨oe, hoe, vs, hc, hed, hv0, hv1, cx, hv2, hK⟩ := S.get he
  unfold noteFrame
  simp only [(hf env (.head _)).2.1]
  refine wpAny_bind (wpAny_field hoe hed (x := .none) hv1 ?_)
  rw [if_neg (by decide)]
  exact r_entry S hfr hf he h (excUpd S he)
/-- seen already -/
theorem r_noteAgain {e T : Addr} {t : Value} {cls : String} (S : St b s L G) (hf : env.frame = some env.locals) (he : (e, excC cls t (.ref T) K) ∈ L) (hT : (T, tbC (rawInt env.locals)) ∈ L) (h : Q () s) : wpAny (model prog w) A (noteFrame (.ref e) env) Q E s := by
  obtain ⟨oe, hoe, vs, hc, hed, hv0, hv1, cx, hv2, hK⟩ := S.get he
  obtain ⟨oT, hoT, ts, hd, h3⟩ := S.get hT
  exact wpAny_noteFrame_inFlight hf hoe hed hv1 hoT hd h3 h
/-- seen by a further frame -/
theorem r_noteNext {e T : Addr} {t : Value} {cls : String} (S : St b s L G) (hfr : A.frames = some (env :: outer)) (hf : FmsOk (env :: outer) L) (he : (e, excC cls t (.ref T) K) ∈ L) (hT : (T, tbC .none) ∈ L)
    (h : ∀ T' s' L', Upd L e (excC cls t (.ref T') K) L' → St b s' ((T', tbC (rawInt env.locals)) :: L') G → Q () s') : wpAny (model prog w) A (noteFrame (.ref e) env) Q E s := by
  obtain ⟨oe, hoe, vs, hc, hed, hv0, hv1, cx, hv2, hK⟩ := S.get he
  obtain ⟨oT, hoT, ts, hd, h3⟩ := S.get hT
  have hsz : 3 < ts.size := (Array.getElem?_eq_some_iff.mp h3).1
  unfold noteFrame
  simp only [(hf env (.head _)).2.1]
  refine wpAny_bind (wpAny_field hoe hed (x := .ref T) hv1 ?_)
  rw [if_pos (show (Value.ref T != Value.none) = true from by simp)]
  refine wpAny_bind (wpAny_field hoT hd h3 ?_)
  rw [if_neg (show ¬ ((Value.none == rawInt env.locals) = true) from by simp [rawInt])]
  refine wpAny_bind (wpAny_setField hoT hd hsz ?_)
  have hd' := Obj.data_mapFields hd (·.setIfInBounds 3 Value.none)
  have S₂ : St b { s with heap := s.heap.update T (Obj.mapFields (·.setIfInBounds 3 Value.none)) } L G :=
    S.set (upd_same hT) ⟨_, hT⟩ (Heap.SameBut.update ..).extBut (Heap.get?_update_self _ hoT (Obj.isFreed_of_fields hd')) ⟨_, hd', by simp [hsz]⟩
  exact r_entry S₂ hfr hf he h (excUpd S₂ he)
/-- no longer in flight -/
theorem r_flight {e T : Addr} {t : Value} {cls : String} {fl : Value} {fr : Option Addr} (S : St b s L G) (he : (e, excC cls t (.ref T) K) ∈ L) (hT : (T, tbC fl) ∈ L) (u : Upd L T (tbC (fr.elim .none fun f => rawInt f)) L') (h : ∀ s', St b s' L' G → Q () s') : wpAny (model prog w) A (setFlight (.ref e) fr) Q E s := by
  obtain ⟨oe, hoe, vs, hc, hed, hv0, hv1, cx, hv2, hK⟩ := S.get he
  obtain ⟨oT, hoT, ts, hd, h3⟩ := S.get hT
  have hsz : 3 < ts.size := (Array.getElem?_eq_some_iff.mp h3).1
  unfold setFlight
  refine wpAny_bind (wpAny_field hoe hed (x := .ref T) hv1 ?_)
  rw [if_pos (show (Value.ref T != Value.none) = true from by simp)]
  refine wpAny_setField hoT hd hsz ?_
  have hd' := Obj.data_mapFields hd (·.setIfInBounds 3 (fr.elim .none fun f => rawInt f))
  exact h _ (S.set u ⟨_, hT⟩ (Heap.SameBut.update ..).extBut (Heap.get?_update_self _ hoT (Obj.isFreed_of_fields hd')) ⟨_, hd', by simp [hsz]⟩)

/-- an exception in the ledger: the object, its traceback, its arguments -/
abbrev excL (e t T : Addr) (cls : String) (args : List Value) (fl : Value) : Ledger := [(e, excC cls (.ref t) (.ref T) anyV), (T, tbC fl), (t, tupV args)]
abbrev excN (e t : Addr) (cls : String) (args : List Value) : Ledger := [(e, excC cls (.ref t) .none anyV), (t, tupV args)]
theorem FmsOk.app {envs : List Env} {L : Ledger} (h : FmsOk envs L) (X : Ledger) : FmsOk envs (X ++ L) := h.sub fun a fl h => ⟨fl, List.mem_append_right _ h⟩
theorem r_noteX0 {e t : Addr} {cls : String} {args : List Value} (S : St b s (excN e t cls args ++ L) G) (hfr : A.frames = some (env :: outer)) (hf : FmsOk (env :: outer) L)
    (h : ∀ T s', St b s' (excL e t T cls args (rawInt env.locals) ++ L) G → Q () s') : wpAny (model prog w) A (noteFrame (.ref e) env) Q E s := by
  refine r_note1 S hfr (hf.app _) (.head _) fun T s' L' u S' => ?_
  have e1 : L' = [(e, excC cls (.ref t) (.ref T) anyV), (t, tupV args)] ++ L := by
    cases u with
    | head => rfl
    | tail u =>
      obtain ⟨P, hP⟩ := u.has
      exact absurd (List.mem_map_of_mem (f := (·.1)) hP) (List.nodup_cons.mp S.nodup).1
  subst e1
  exact h T s' (S'.perm (.swap _ _ _))
theorem r_noteXA {e t T : Addr} {cls : String} {args : List Value} (S : St b s (excL e t T cls args (rawInt env.locals) ++ L) G) (hf : FmsOk (env :: outer) L)
    (h : Q () s) : wpAny (model prog w) A (noteFrame (.ref e) env) Q E s :=
  r_noteAgain S (hf env (.head _)).2.1 (.head _) (.tail _ (.head _)) h
theorem r_noteX {e t T : Addr} {cls : String} {args : List Value} (S : St b s (excL e t T cls args .none ++ L) G) (hfr : A.frames = some (env :: outer)) (hf : FmsOk (env :: outer) L)
    (h : ∀ T s', St b s' (excL e t T cls args (rawInt env.locals) ++ L) G → Q () s') : wpAny (model prog w) A (noteFrame (.ref e) env) Q E s := by
  refine r_noteNext S hfr (hf.app _) (.head _) (.tail _ (.head _)) fun T' s' L' u S' => ?_
  have e1 : L' = [(e, excC cls (.ref t) (.ref T') anyV), (T, tbC .none), (t, tupV args)] ++ L := by
    cases u with
    | head => rfl
    | tail u =>
      obtain ⟨P, hP⟩ := u.has
      exact absurd (List.mem_map_of_mem (f := (·.1)) hP) (List.nodup_cons.mp S.nodup).1
  subst e1
  exact h T' s' ((S'.sub (L' := (T', tbC (rawInt env.locals)) :: (e, excC cls (.ref t) (.ref T') anyV) :: (t, tupV args) :: L) (.cons_cons _ (.cons_cons _ (.cons _ (.refl _))))).perm (.swap _ _ _))
theorem r_flightX {e t T : Addr} {cls : String} {args : List Value} {fl : Value} {fr : Option Addr} (S : St b s (excL e t T cls args fl ++ L) G)
    (h : ∀ s', St b s' (excL e t T cls args (fr.elim .none fun f => rawInt f) ++ L) G → Q () s') : wpAny (model prog w) A (setFlight (.ref e) fr) Q E s :=
  r_flight S (.head _) (.tail _ (.head _)) (.tail .head) h
theorem St.excType {e t T : Addr} {cls : String} {args : List Value} {fl : Value} (S : St b s (excL e t T cls args fl ++ L) G) : s.TypeIs (.ref e) cls :=
  let ⟨o, ho, _, hc, _⟩ := S.get (.head _); ⟨o, ho, hc⟩
/-- back from a loop or a handler -/
theorem r_cameBack {e t T : Addr} {cls : String} {args : List Value} {fl : Value} {E : Value → Shared → Prop} (hf : env.frame = some env.locals) (S : St b s (excL e t T cls args fl ++ L) G)
    (h : ∀ s', St b s' (excL e t T cls args (rawInt env.locals) ++ L) G → E (.ref e) s') : cameBackBy (model prog w) A env E (.ref e) s := by
  obtain ⟨oe, hoe, vs, hc, hed, hv0, hv1, cx, hv2, hK⟩ := S.get (.head _)
  unfold cameBackBy
  refine wpAny_bind (wpAny_field hoe hed (x := .ref T) hv1 ?_)
  rw [if_neg (show ¬ ((Value.ref T == Value.none) = true) from by simp)]
  rw [hf]
  exact r_flightX S h
theorem St.made {h' : Heap} {e : Addr} {cls : String} {args : List Value} {tk : Nat} (S : St b s L G) (hm : Heap.MadeExc s.heap h' e cls args) :
    ∃ t, St b { s with heap := h', toks := tk } (excN e t cls args ++ L) G ∧ h'.get? e = some { cls := .type cls, data := .fields #[.ref t, .none, .none, .none, .bool false, .none] } := by
  obtain ⟨t, he, hn, ht⟩ := hm.there
  refine ⟨t, ?_, he⟩
  have hbn : ∀ {a}, s.heap.get? a = none → b.heap.get? a = none := fun {a} e => by
    cases hb : b.heap.get? a with
    | none => rfl
    | some o' => rw [S.keep _ _ hb] at e; cases e
  have hne : e ≠ t := fun e0 => by
    subst e0
    rw [he] at ht
    cases ht
  have hfr : ∀ {a}, s.heap.get? a = none → ∀ p ∈ L, p.1 ≠ a := fun {a} e p hp e1 => by
    obtain ⟨_, o, ho, _⟩ := S.own p hp
    rw [e1, e] at ho
    cases ho
  refine ⟨fun a o e => hm.keeps a o (S.keep a o e), fun p hp => ?_, ?_, S.os, S.bare, S.gens, S.gnodup⟩
  · rcases List.mem_cons.mp hp with rfl | hp
    · exact ⟨hbn hm.new, _, he, excC_mk (r := [.none, .bool false, .none]) rfl rfl trivial⟩
    · rcases List.mem_cons.mp hp with rfl | hp
      · exact ⟨hbn hn, _, ht, 0, rfl⟩
      · obtain ⟨h1, o', h2, h3⟩ := S.own p hp
        exact ⟨h1, o', hm.keeps _ _ h2, h3⟩
  · refine List.nodup_cons.mpr ⟨fun hp => ?_, List.nodup_cons.mpr ⟨fun hp => ?_, S.nodup⟩⟩
    · rcases List.mem_cons.mp hp with h | hp
      · exact hne h
      · obtain ⟨p, hp, h⟩ := List.mem_map.mp hp
        exact hfr hm.new p hp h
    · obtain ⟨p, hp, h⟩ := List.mem_map.mp hp
      exact hfr hn p hp h
end
end Mine

-- part X2
open PySem PySem.W PySem.W.X PyProof.Rows PySem.Calls PySem.Spec PySem.SeqAt
set_option Elab.async false
set_option maxRecDepth 100000
set_option maxHeartbeats 400000
set_option linter.all false
namespace Mine
local macro_rules | `(tactic| walk_at "mem") => `(tactic| first | assumption | exact List.Mem.head _ | (refine List.Mem.tail _ ?_; walk_at "mem") | (refine List.mem_append_right _ ?_; walk_at "mem"))
local macro_rules | `(tactic| walk_at "upd") => `(tactic| first | exact Upd.head | ((with_reducible apply Upd.tail); walk_at "upd"))
def fmtR : Str := "unknown delta choice (must be 1 or 2): %r"
/-- what fmtR % v is -/
def PctTo (prog : Program) (w : World) (b : Shared) (v : Value) (txt : Str) : Prop :=
  ∀ (A : Around) (E : Value → Shared → Prop) (s : Shared) (L : Ledger) (G : GLedger) (Q : Value → Shared → Prop) (t₀ : Tok), St b s L G → (∀ t s', St b s' L G → Q (.str txt t) s') → wpAny (model prog w) A (binaryOp .Mod (.str fmtR t₀) v) Q E s
theorem sub_key_base : isSubtype (.type "KeyError") (.type "BaseException") = pure true := by kernel_rfl
theorem sub_key_key : isSubtype (.type "KeyError") (.type "KeyError") = pure true := by kernel_rfl
theorem key_nt : isSubtype (.type ((Manifest.find? "KeyError").elim "type" fun x => x.metatype)) (.type "tuple") = pure false := by kernel_rfl
section
variable {prog : Program} {w : World} {A : Around} {E : Value → Shared → Prop} {b s : Shared} {L L' : Ledger} {G : GLedger} {mg mb : Str → Option Value} {names : List Str} {outer : List Env}

theorem rg_tryKey {C f : Addr} {cd v2 : Value} {n : Int} {txt : Str} {fl : List (Str × VP)} {Q : Flow → Shared → Prop} (B : Bs b mg mb names) (h1 : n ≠ 1) (h2 : n ≠ 2) (hI : IntTo prog w b v2 n) (hP : PctTo prog w b v2 txt) (hh : A.handled = none)
    (hfr : A.frames = some (rEnv C f cd :: outer)) (hf : FmsOk (rEnv C f cd :: outer) L) (S : St b s L G) (hC : (C, frC fl) ∈ L) (hw : (("which" : Str), vE v2) ∈ fl)
    (hint : ("int" : Str) ∉ names) (hke : ("KeyError" : Str) ∉ names) (hve : ("ValueError" : Str) ∉ names)
    (h : ∀ e t T u s', St b s' (excL e t T "ValueError" [.str txt u] (rawInt C) ++ L) G → E (.ref e) s') :
    wpAny (model prog w) A (exec rTry (rEnv C f cd)) Q E s := by
  conv in rTry => whnf
  refine wpAny_Try_except ?_
  refine wpAny_execs_cons ?_
  refine wpAny_Assign_Name ?_ (by kernel_rfl)
  refine Subscript_ ?_
  with_reducible refine rg_dict B S ?_
  intro d s₁ S₁ hds
  refine r_callT1 (T := "int") B S₁ boot_int ?_ (hfree := hint)
  refine r_name S₁ (.tail _ hC) hw fun v hv => ?_
  cases hv
  refine hI A _ _ _ G _ hh S₁ fun t s₂ S₂ => ?_
  obtain ⟨o, ho, t1, t2, hd⟩ := S₂.get (.head _)
  have hm := (hd _ ho).mapOf
  have hv : valueAt [((1 : Int), Value.str "- " t1), (2, Value.str "+ " t2)] n = none := by
    simp [valueAt, h1, h2, Ne.symm h1, Ne.symm h2]
  refine tail_any hm.typeIs slot_dict_getitem.lookup (wpAny_getItem_missing_of (by simp [intKind, Value.isInt]) hds hh hm hv fun h' k hx => ?_) rfl
  obtain ⟨ok, tv, hok, hkc, hkd⟩ := hx.there
  have S₃ : St b { s₂ with heap := h', toks := s₂.toks + 1 } ((k, excC "KeyError" tv .none (vE .none)) :: L) G := (S₂.new (P := excC "KeyError" tv .none (vE .none)) hx.new hx.keeps hok (excC_mk (r := [.none, .bool false, .none]) hkc hkd rfl)).sub (.cons_cons _ (List.sublist_cons_self _ _))
  have hf3 : FmsOk (rEnv C f cd :: outer) ((k, excC "KeyError" tv .none (vE .none)) :: L) := hf.sub fun a fl h => ⟨fl, .tail _ h⟩
  refine r_note1 S₃ hfr hf3 (.head _) fun T s₄ L' u S₄ => ?_
  have e1 : L' = (k, excC "KeyError" tv (.ref T) (vE .none)) :: L := by
    cases u with
    | head => rfl
    | tail u =>
      obtain ⟨P, hP⟩ := u.has
      exact absurd (List.mem_map_of_mem (f := (·.1)) hP) (List.nodup_cons.mp S₃.nodup).1
  subst e1
  refine r_flight (fr := none) S₄ (.tail _ (.head _)) (.head _) .head fun s₅ S₅ => ?_
  refine wpAny_handleBy_builtin (X := "KeyError") (T := "KeyError") (b := true) sub_key_base key_nt sub_key_key ?_
  refine r_bname B S₅ (v := .type "KeyError") (by decide +kernel) ?_ hke
  obtain ⟨okk, hokk, _, hc, _⟩ := S₅.get (.tail _ (.head _))
  refine ⟨rfl, ⟨okk, hokk, hc⟩, ?_⟩
  rw [if_pos rfl]
  refine r_flight (fr := none) S₅ (.tail _ (.head _)) (.head _) .head fun s₆ S₆ => ?_
  refine wpAny_execs_cons ?_
  rw [arm_exec_Raise]
  refine wpAny_bind (wpAny_standAt ?_)
  show wpAny (model prog w) (A.mark (some (.ref k))) (raiseStmt (rEnv C f cd) (some _) (some _)) _ _ _
  refine w_raiseFrom PySem.F.excRaise_ValueError (k := k) rfl (fun s Q hQ => ?_) ?_
  · refine wpAny_bind (wpAny_Constant_none (wpAny_bind (wpAny_standAt (wpAny_pure hQ))))
  refine wpAny_bind ?_
  refine wpAny_Call_ofName ?_
  refine r_bname B S₆ (v := .type "ValueError") (by decide +kernel) ?_ hve
  refine callWith_excType rfl ?_
  refine Calls.evalArgs_plain (Calls.spliced_cons ?_)
  refine wpAny_BinOp ?_
  refine r_str S₆ fun t0 s₇ S₇ => ?_
  refine r_name S₇ (.tail _ (.tail _ hC)) hw fun v hv => ?_
  cases hv
  refine hP _ _ _ _ _ _ _ S₇ fun t4 s₈ S₈ => ?_
  refine Calls.spliced_nil ?_
  refine wpAny_call_exc PySem.F.excCall_ValueError (hrest := by simp [sizeLine]) fun h₁ e hm => ?_
  refine wpAny_bind (wpAny_standAt (wpAny_pure ?_))
  obtain ⟨t9, S₉, he⟩ := S₈.made (tk := s₈.toks) hm
  obtain ⟨ok2, hok2, vs2, hc2, hd2, hv0, hv1, cx2, hv2, hK2⟩ := S₉.get (a := k) (.tail _ (.tail _ (.tail _ (.head _))))
  cases hK2
  refine ⟨e, t9, ok2, _, rfl, ?_, he, hok2, hd2, hv2, fun h₂ hsb he2 => ?_⟩
  · intro e0
    exact (List.nodup_cons.mp S₉.nodup).1 (by rw [← e0]; exact .tail _ (.tail _ (.head _)))
  have SA : St b { s₈ with heap := h₂ } (excN e t9 "ValueError" [.str txt t4] ++ L) G :=
    (S₉.set (P' := excC "ValueError" (.ref t9) .none anyV) .head ⟨_, .head _⟩ hsb.extBut he2 (excC_mk (r := [.none, .bool true, .none]) rfl rfl trivial)).sub (.cons_cons _ (.cons_cons _ (.cons _ (.cons _ (.refl _)))))
  refine r_noteX0 (A := A.mark (some (.ref k))) (outer := outer) SA hfr hf fun T' sB SB => ?_
  exact r_cameBack rfl SB fun sC SC => h _ _ _ _ _ SC

/-- the reader leaves by an exception -/
theorem sx_leave {e t T : Addr} {cls : String} {args : List Value} {P : End → Shared → Prop} {c : Code} {env : Env} (hf : FmsOk (env :: outer) L) (S : St b s (excL e t T cls args (rawInt env.locals) ++ L) G)
    (h : ∀ s', St b s' (excL e t T cls args .none ++ L) G → P (.ret (.error (.ref e))) s') : SegX (model prog w) A c (rLeave env (.ref e)) [] s P := by
  unfold rLeave leaving
  refine sx_wrap ?_
  refine wpAny_bind (r_noteXA S hf ?_)
  refine r_flightX (fr := none) S fun s' S' => ?_
  exact s_end _ _ _ _ _ _ (.error (.ref e)) _ rfl (h s' S')
end
end Mine

-- part X3
open PySem PySem.W PySem.W.X PyProof.Rows PySem.Calls PySem.Spec PySem.SeqAt
set_option Elab.async false
set_option maxRecDepth 100000
set_option maxHeartbeats 400000
set_option linter.all false
namespace Mine
section
variable {prog : Program} {w : World} {A : Around} {E : Value → Shared → Prop} {b s : Shared} {L L' : Ledger} {G : GLedger} {mg mb : Str → Option Value} {names : List Str} {outer : List Env}
/-- the reader's head refuses the wish -/
def TryBad (prog : Program) (w : World) (b : Shared) (v2 : Value) (cls : String) (txt : Str) : Prop :=
  ∀ (A : Around) (E : Value → Shared → Prop) (s : Shared) (L : Ledger) (G : GLedger) (Q : Flow → Shared → Prop) (C f : Addr) (cd : Value) (outer : List Env) (fl : List (Str × VP)), A.handled = none → A.frames = some (rEnv C f cd :: outer) → FmsOk (rEnv C f cd :: outer) L → St b s L G → (C, frC fl) ∈ L → (("which" : Str), vE v2) ∈ fl →
    (∀ e t T u s', St b s' (excL e t T cls [.str txt u] (rawInt C) ++ L) G → E (.ref e) s') → wpAny (model prog w) A (exec rTry (rEnv C f cd)) Q E s
theorem tryBad_key {v2 : Value} {n : Int} {txt : Str} (B : Bs b mg mb names) (h1 : n ≠ 1) (h2 : n ≠ 2) (hI : IntTo prog w b v2 n) (hP : PctTo prog w b v2 txt) (hint : ("int" : Str) ∉ names) (hke : ("KeyError" : Str) ∉ names) (hve : ("ValueError" : Str) ∉ names) :
    TryBad prog w b v2 "ValueError" txt := by
  unfold TryBad
  intro A E s L G Q C f cd outer fl hh hfr hf S hC hw h
  with_reducible exact rg_tryKey B h1 h2 hI hP hh hfr hf S hC hw hint hke hve h
theorem rKind : rScope.kind = .function := by kernel_rfl
theorem rKindE {C f : Addr} {cd : Value} : (rEnv C f cd).scope.kind ≠ .module := fun h => by
  have h' : rScope.kind = .module := h
  rw [rKind] at h'
  cases h'

/-- the reader's first turn, where the wish is refused -/
theorem sx_bad {C f a : Addr} {cd v1 v2 : Value} {cls : String} {txt : Str} {P : End → Shared → Prop} (hT : TryBad prog w b v2 cls txt) (hh : A.handled = none) (hfr : A.frames = some outer) (hf : FmsOk outer L) (hC : (C, frC (fl0 v1 v2)) ∈ L) (S : St b s L G)
    (h : ∀ e t T u s', St b s' (excL e t T cls [.str txt u] .none ++ L) G → P (.ret (.error (.ref e))) s') :
    SegX (model prog w) A (.func rBody (rEnv C f cd)) (denote table (.func rBody (rEnv C f cd))) [] s P := by
  have hf' : FmsOk (rEnv C f cd :: outer) L := fun env he => by
    rcases List.mem_cons.mp he with rfl | he
    · exact ⟨rKindE, rfl, _, hC⟩
    · exact hf env he
  refine sx_start ?_ (by intro x; kernel_rfl)
  unfold TryBad at hT
  have hfr' : (A.over (.func rBody (rEnv C f cd)) []).frames = some (rEnv C f cd :: outer) := by
    show pushEnvs [rEnv C f cd] (pushEnvs [] A.frames) = _
    rw [hfr]; rfl
  have hh' : (A.over (.func rBody (rEnv C f cd)) []).handled = none := hh
  have hw : (("which" : Str), vE v2) ∈ fl0 v1 v2 := .tail _ (.head _)
  with_reducible refine hT _ _ _ _ _ _ C f cd outer _ hh' hfr' hf' S hC hw ?_
  intro e t T u s' S'
  exact sx_leave hf' S' fun s₂ S₂ => h e t T u s₂ S₂

/-- __next__ of a generator -/
theorem r_dnext {a : Addr} {g : Nat} {gs : GenState} {Q : Option Value → Shared → Prop} {c₀ : Code} {t₀ : Sem Fin} {fs₀ : List Frame} (hh : A.handled = none) (hl : s.heap.NoLimit) (hroom : A.depth < recursionLimit)
    (hg : s.heap.IsGen a g) (hgs : s.gens[g]? = some gs) (hw : WakeOf gs c₀ t₀ fs₀)
    (hgo : SegX (model prog w) A.in1 c₀ t₀ fs₀ (s.setGen g .running) (fun e s₁ => match e.result with
      | .yielded v => Q (some v) (s₁.setGen g e.genState)
      | .returned v => v = .none ∧ wpAny (model prog w) A.in1 (newExc (.type "StopIteration") [] >>= fun x => (raiseNew x : Sem Unit)) (fun _ _ => False) E (s₁.setGen g e.genState)
      | .raised x => ∃ T : String, s₁.TypeIs x T ∧ isSubtype (.type T) (.type "StopIteration") = pure false ∧ s₁.heap.IsGen a g ∧ E x (s₁.setGen g e.genState)
      | _ => False)) :
    wpAny (model prog w) A (callSpecial? (.ref a) (Str.ofString "__next__")) Q E s := by
  refine wpAny_callSpecial?_slot (name := Str.ofString "__next__") hg.typeIs slot_gen_next
    (wpAny_call_entry slot_gen_next hg.typeIs entry_gen_next ?_ (args_gen_next _))
  show wpAny _ A.in1 (Builtin.Generator.genWake (.ref a) (.send .none)) _ _ s
  refine g_wake hl hroom hg hgs hw (hgo.mono fun e s₁ h => ?_)
  revert h
  cases e.result with
  | yielded v => intro h; exact ⟨_, rfl, h⟩
  | returned v => intro h; exact h
  | raised x =>
    rintro ⟨T, hT, hs, hg', h⟩
    obtain ⟨o, nm, qn, ho, hc, hd, hsl⟩ := hg'
    show wpAny _ A.in1 (Builtin.Generator.genLeft (.ref a) x) _ _ _
    unfold Builtin.Generator.genLeft Builtin.Generator.madeByALambda
    refine wpAny_bind (wpAny_bind (wpAny_load (o := o) ho ?_))
    rw [hc, hd]
    have hT' : (s₁.setGen g e.genState).TypeIs x T := hT
    refine wpAny_pure (wpAny_bind (wpAny_isInstance (T := T) (b := false) hT' hs ?_))
    rw [if_neg (by rw [Bool.and_false]; exact Bool.false_ne_true)]
    show wpAny _ A.in1 (Builtin.Generator.genEscaped x) _ _ _
    unfold Builtin.Generator.genEscaped
    refine wpAny_bind (wpAny_isInstance (T := T) (b := false) hT' hs ?_)
    exact wpAny_throw h
  | running => intro h; exact h.elim
  | justStarted => intro h; exact h.elim
  | finished => intro h; exact h.elim

/-- next(..) -/
theorem r_nextB {it : Value} {T id : String} {Q : Value → Shared → Prop} (hT : s.TypeIs it T) (hs : Slot T (Str.ofString "__next__") id) (h : wpAny (model prog w) A.in1 (callSpecial? it (Str.ofString "__next__")) (fun r s' => ∃ v, r = some v ∧ Q v s') E s) :
    wpAny (model prog w) A (call (.builtin "next") [it]) Q E s := by
  refine call_function_entry (by decide +kernel) (by decide +kernel) kdk_entry_next (kdk_args_next _) ?_
  unfold Builtin.«next»
  refine wpAny_bind (m := someArgs "next" 1 2 _) (wpAny_of_eq (a := [it]) (by first | rfl | kernel_rfl!) ?_)
  dsimp only
  refine wpAny_bind (wpAny_specialOf (name := Str.ofString "__next__") hT hs.lookup ?_)
  refine wpAny_ite_split (fun hab => absurd hab (by simp)) (fun _ => ?_)
  refine wpAny_bind (wpAny_mono h (fun r s' h' => ?_) fun _ _ x => x)
  obtain ⟨v, rfl, h'⟩ := h'
  exact wpAny_pure ⟨_, rfl, h'⟩

theorem sub_value_stop : isSubtype (.type "ValueError") (.type "StopIteration") = pure false := by kernel_rfl
theorem sub_type_stop : isSubtype (.type "TypeError") (.type "StopIteration") = pure false := by kernel_rfl

/-- the first row of a reader that refuses its wish -/
theorem r_dnext_bad {a C f : Addr} {g : Nat} {cd v1 v2 : Value} {cls : String} {txt : Str} {Q : Option Value → Shared → Prop} {F : Ledger} {GF : GLedger} (B : Bs b mg mb names) (hT : TryBad prog w b v2 cls txt) (hs : isSubtype (.type cls) (.type "StopIteration") = pure false)
    (hA : Ar A 1) (hfr : A.frames = some outer) (hf : FmsOk outer F)
    (S : St b s ((a, genC g) :: (C, frC (fl0 v1 v2)) :: F) ((g, IsFresh (rEnv C f cd)) :: GF))
    (h : ∀ e t T u s', St b s' (excL e t T cls [.str txt u] .none ++ ((a, genC g) :: F)) ((g, IsFin) :: GF) → E (.ref e) s') :
    wpAny (model prog w) A (callSpecial? (.ref a) (Str.ofString "__next__")) Q E s := by
  obtain ⟨gs, hgs, hfresh⟩ := S.gens _ (.head _)
  have hroom : A.depth < recursionLimit := by have := hA.depth; omega
  cases hfresh
  have hg := S.isGen (.head _)
  refine r_dnext hA.handled (B.nolimit.keeps S.keep) hroom hg hgs (.inl ⟨rfl, rfl, rfl⟩) ?_
  have S0 := S.setGen (P' := IsRun) (gs := .running) .head rfl rfl
  have hf0 : FmsOk outer ((a, genC g) :: (C, frC (fl0 v1 v2)) :: F) := hf.sub fun a fl h => ⟨fl, .tail _ (.tail _ h)⟩
  have hfr1 : A.in1.frames = some outer := hfr
  have hh1 : A.in1.handled = none := hA.handled
  have hC0 : (C, frC (fl0 v1 v2)) ∈ ((a, genC g) :: (C, frC (fl0 v1 v2)) :: F) := .tail _ (.head _)
  have key : SegX (model prog w) A.in1 (.func rBody (rEnv C f cd)) (denote table (.func rBody (rEnv C f cd))) [] (s.setGen g .running)
      (fun e s₁ => ∃ e0 t T u, e = .ret (.error (.ref e0)) ∧ St b s₁ (excL e0 t T cls [.str txt u] .none ++ ((a, genC g) :: (C, frC (fl0 v1 v2)) :: F)) ((g, IsRun) :: GF)) := by
    with_reducible refine sx_bad (a := a) (v1 := v1) (v2 := v2) hT hh1 hfr1 hf0 hC0 S0 ?_
    intro e t T u s' S'
    exact ⟨e, t, T, u, rfl, S'⟩
  refine key.mono ?_
  rintro _ s' ⟨e, t, T, u, rfl, S'⟩
  refine ⟨cls, S'.excType, hs, S'.isGen (.tail _ (.tail _ (.tail _ (.head _)))), ?_⟩
  have S2 := S'.setGen (P' := IsFin) (gs := .finished) .head rfl rfl
  refine h e t T u _ (S2.sub ?_)
  exact .cons_cons _ (.cons_cons _ (.cons_cons _ (.cons_cons _ (.cons _ (.refl _)))))
end
end Mine

-- part X4
open PySem PySem.W PySem.W.X PyProof.Rows PySem.Calls PySem.Spec PySem.SeqAt
set_option Elab.async false
set_option maxRecDepth 100000
set_option maxHeartbeats 1000000
set_option linter.all false
namespace Mine
section
variable {prog : Program} {w : World} {A : Around} {E : Value → Shared → Prop} {b s : Shared} {L L' : Ledger} {G : GLedger} {mg mb : Str → Option Value} {names : List Str} {outer : List Env}
/-- %r of a plain value -/
theorem reprUnder_gives {T id : String} {B : Builtin} {v : Value} {x : Str} {n : Nat} {Q : Value → Shared → Prop} (hT : s.TypeIs v T) (slot : Slot T "__repr__" id)
    (entry : entryFor table id = some B) (args : argsOk id ⟨[v], []⟩) (g : PySem.Gives (B ⟨[v], []⟩) (.str x)) (htw : reprUnder? (.builtin id) = none) (h : Q (.str x s.toks) { s with toks := s.toks + 1 })
    (hv : [v].any Value.onHeap = false := by rfl) (hx : x.length ≤ sizeLine := by size_fits) :
    wpAny (model prog w) A (pyReprObjUnder n v) Q E s := by
  unfold pyReprObjUnder pyReprObjBy
  simp only [cRoomFor, hv, Bool.false_eq_true, if_false, pure_bind]
  refine wpAny_bind (wpAny_specialOf (name := Str.ofString "__repr__") hT slot.lookup ?_)
  refine wpAny_bind (wpAny_callSpecialIfBoundBy?_slotG (name := Str.ofString "__repr__") hT slot.toG ?_)
  simp only [htw]
  refine call_gives slot hT entry args g ⟨hx, ?_⟩
  exact wpAny_bind (wpAny_isInstance (T := "str") (b := true) rfl isSubtype_str_str (wpAny_pure h))
end
def preR : Str := "unknown delta choice (must be 1 or 2): "
theorem fmtR_eq : fmtR = ⟨#[117, 110, 107, 110, 111, 119, 110, 32, 100, 101, 108, 116, 97, 32, 99, 104, 111, 105, 99, 101, 32, 40, 109, 117, 115, 116, 32, 98, 101, 32, 49, 32, 111, 114, 32, 50, 41, 58, 32, 37, 114]⟩ := by decide +kernel
theorem meets_pctS {z : Str} {t u : Tok} (hz : (reprText z).length ≤ 1000000) : Meets (Builtin.«str.__mod__» ⟨[.str fmtR t, .str z u], []⟩) (fun _ R s => ∀ t' k, R (.ok (.ret (.str (preR ++ reprText z) t'))) { s with toks := k }) := by
  rw [fmtR_eq]
  apply KPc.meets_of
  intro prog w A s Q E hQ
  rw [KPc.entry_is_s]
  unfold Builtin.Str.percentFormat
  refine wpAny_bind (wpAny_isInstance (typeIs_str _ _ _) F.sub_str_tuple ?_)
  refine wpAny_bind (wpAny_of_eq (a := some _) rfl ?_)
  refine wpAny_bind (KPc.wp_fills_str ?_)
  intro _
  kpc_if
  refine wpAny_bind (wpAny_pure ?_)
  refine wpAny_bind ?_
  rw [KPc.range_list]
  refine KPc.start ?_
  intro _ _
  refine KPc.turn ?_; kpc_check; (repeat kpc_if)
  refine wpAny_pure ?_; kpc_piece
  refine KPc.turn ?_; kpc_check; (repeat kpc_if)
  refine wpAny_bind ?_; refine wpAny_holding ?_; (repeat kpc_if)
  refine wpAny_bind ?_
  (repeat kpc_if)
  refine reprUnder_gives (typeIs_str _ _ _) F.slot_str_repr F.entry_str_repr (F.args_str_repr_1 _) (gives_str_repr _ _) (by decide) ?_ (hx := Nat.le_trans hz (by decide))
  refine wpAny_bind (wpAny_of_eq (a := some _) rfl ?_)
  refine wpAny_pure ?_; refine wpAny_pure ?_
  refine KPc.after_str (by kpc_g) hz (by kpc_obj) ?_; intro _ _
  kpc_turns
theorem pctTo_str {prog : Program} {w : World} {b : Shared} {z : Str} {u : Tok} (hz : (reprText z).length ≤ 1000000) : PctTo prog w b (.str z u) (preR ++ reprText z) := fun A E s L G Q t₀ S h =>
  binaryOp_meets (T := "str") (op := .Mod) (typeIs_str s fmtR t₀) (typeIs_str s z u) F.fills_str_mod F.slot_str_mod F.entry_str_mod (F.args_str_mod_2 _ _) (meets_pctS hz) (fun t' k => ⟨(fun e => nomatch e), h _ _ (S.toks k)⟩)
end Mine

-- part N1
open PySem PySem.W PySem.W.X PyProof.Rows PySem.Calls PySem.Spec PySem.SeqAt
set_option Elab.async false
set_option maxRecDepth 100000
set_option maxHeartbeats 400000
set_option linter.all false
namespace Mine
/-- a list's iterator that has met the end -/
def itE : Cell := fun o => ∃ x, o.cls = .type "list_iterator" ∧ o.data = .fields #[.none, x]
def itX (l : Addr) : Option Nat → Cell
  | some i => itC l i
  | none => itE
section
variable {prog : Program} {w : World} {A : Around} {E : Value → Shared → Prop} {b s : Shared} {L L' : Ledger} {G : GLedger} {mg mb : Str → Option Value} {names : List Str} {outer : List Env}
/-- a new StopIteration, raised where nothing is handled -/
theorem r_stopX {α : Type} {Q : α → Shared → Prop} (hh : A.handled = none) (S : St b s L G) (h : ∀ e t s', St b s' (excN e t "StopIteration" [] ++ L) G → E (.ref e) s') :
    wpAny (model prog w) A (newExc (.type "StopIteration") [] >>= fun x => (raiseNew x : Sem α)) Q E s := by
  refine wpAny_bind ?_
  unfold newExc
  refine wpAny_bind (r_newTuple S (P := tupV []) tupV_mk fun t s₁ S₁ => ?_)
  refine wpAny_bind (m := firstArgMember _ _) (wpAny_of_eq (a := Value.none) (by first | rfl | (simp only [firstArgMember]; rfl)) ?_)
  refine wpAny_newObj_type ?_ (by size_fits)
  have S₂ := S₁.alloc (o := { cls := .type "StopIteration", data := .fields (#[.ref t, .none, .none, .none, .bool false, .none] ++ ownMembersOf (.type "StopIteration") []) }) (P := excC "StopIteration" (.ref t) .none anyV) ⟨_, rfl, rfl, rfl, rfl, .none, rfl, trivial⟩
  simp only [raiseNew]
  refine wpAny_bind (wpAny_handled ?_)
  rw [hh]
  refine wpAny_bind (wpAny_pure (wpAny_throw ?_))
  exact h _ _ _ S₂
theorem St.excType0 {e t : Addr} {cls : String} {args : List Value} (S : St b s (excN e t cls args ++ L) G) : s.TypeIs (.ref e) cls :=
  let ⟨o, ho, _, hc, _⟩ := S.get (.head _); ⟨o, ho, hc⟩
/-- the next item of a list's iterator -/
theorem r_nextItem {I l : Addr} {i : Nat} {ys : List Str} {y : Str} {Q : Option Value → Shared → Prop} (S : St b s L G) (hI : (I, itC l i) ∈ L) (hl : (l, lstS ys) ∈ L) (hy : ys[i]? = some y) (u : Upd L I (itC l (i + 1)) L')
    (h : ∀ t s', St b s' L' G → Q (some (.str y t)) s') : wpAny (model prog w) A (pyNext (.ref I)) Q E s := by
  obtain ⟨vs, hv, hs⟩ := S.lst hl
  obtain ⟨t, ht⟩ := strsAre_get hs hy
  obtain ⟨o, ho, hc, hd⟩ := S.get hI
  refine wpAny_pyNext_list_item ⟨o, ho, hc, hd⟩ hv (x := .str y t) (by rw [← Array.getElem?_toList]; exact ht) fun h' hit hsb => ?_
  obtain ⟨o', ho', hc', hd'⟩ := hit
  exact h t _ (S.set u ⟨_, hI⟩ hsb.extBut ho' ⟨hc', hd'⟩)
/-- a list's iterator meets the end -/
theorem r_nextEnd {I l : Addr} {i : Nat} {vs : Array Value} {Q : Option Value → Shared → Prop} (hh : A.handled = none) (S : St b s L G) (hI : (I, itC l i) ∈ L) (hl : s.heap.IsList l vs) (hx : vs[i]? = none) (u : Upd L I itE L')
    (h : ∀ s', St b s' L' G → Q none s') : wpAny (model prog w) A (pyNext (.ref I)) Q E s := by
  obtain ⟨o, ho, hc, hd⟩ := S.get hI
  have hit : s.heap.IsListIter I l i := ⟨o, ho, hc, hd⟩
  obtain ⟨ol, hol, _, nl, hdl⟩ := hl
  unfold pyNext
  refine wpAny_bind (wpAny_attempt (wpAny_callSpecial?_slot (name := Str.ofString "__next__") hit.typeIs slot_listiter_next
    (wpAny_call_entry slot_listiter_next hit.typeIs entry_listiter_next ?_ (args_listiter_next _))))
  show wpAny _ _ (field (.ref I) 0 >>= _) _ _ s
  refine wpAny_bind (wpAny_field ho hd (x := .ref l) rfl ?_)
  show wpAny _ _ (if (Value.ref l == Value.none) = true then _ else _) _ _ s
  rw [if_neg (show ¬ ((Value.ref l == Value.none) = true) from Bool.false_ne_true)]
  show wpAny _ _ (field (.ref I) 1 >>= _) _ _ s
  refine wpAny_bind (wpAny_field ho hd (x := .int i 0) rfl ?_)
  show wpAny _ _ (seqItems? (.ref l) >>= _) _ _ s
  refine wpAny_bind (wpAny_seqItems hol hdl ?_)
  simp only [Int.toNat_natCast, hx]
  refine wpAny_bind (wpAny_rule (wpAny_bind (wpAny_setField ho hd (by simp) ?_)))
  have hd' := Obj.data_mapFields hd (·.setIfInBounds 0 Value.none)
  have S₁ : St b { s with heap := s.heap.update I (Obj.mapFields (·.setIfInBounds 0 Value.none)) } L' G :=
    S.set u ⟨_, hI⟩ (Heap.SameBut.update ..).extBut (Heap.get?_update_self _ ho (Obj.isFreed_of_fields hd')) ⟨.int i 0, (Obj.cls_mapFields ..).trans hc, hd'⟩
  show wpAny _ _ (newExc (.type "StopIteration") [] >>= _) _ _ _
  refine r_stopX hh S₁ fun e t s' S' => ?_
  refine wpAny_bind (wpAny_isInstance (T := "StopIteration") (b := true) S'.excType0 isSubtype_stop ?_)
  exact wpAny_pure (h _ (S'.sub (.cons _ (.cons _ (.refl _)))))
/-- a list's iterator that has met the end -/
theorem r_nextOver {I : Addr} {Q : Option Value → Shared → Prop} (hh : A.handled = none) (S : St b s L G) (hI : (I, itE) ∈ L)
    (h : ∀ s', St b s' L G → Q none s') : wpAny (model prog w) A (pyNext (.ref I)) Q E s := by
  obtain ⟨o, ho, x, hc, hd⟩ := S.get hI
  have hT : s.TypeIs (.ref I) "list_iterator" := ⟨o, ho, hc⟩
  unfold pyNext
  refine wpAny_bind (wpAny_attempt (wpAny_callSpecial?_slot (name := Str.ofString "__next__") hT slot_listiter_next
    (wpAny_call_entry slot_listiter_next hT entry_listiter_next ?_ (args_listiter_next _))))
  show wpAny _ _ (field (.ref I) 0 >>= _) _ _ s
  refine wpAny_bind (wpAny_field ho hd (x := .none) rfl ?_)
  show wpAny _ _ (if (Value.none == Value.none) = true then _ else _) _ _ s
  rw [if_pos (show ((Value.none == Value.none) = true) from rfl)]
  refine wpAny_bind (wpAny_rule ?_)
  refine wpAny_bind (wpAny_mono (Q := fun _ _ => False) (?_ : wpAny _ _ (newExc (.type "StopIteration") [] >>= fun x => (raiseNew x : Sem Unit)) _ _ _) (fun _ _ x => x.elim) fun _ _ x => x)
  refine r_stopX hh S fun e t s' S' => ?_
  refine wpAny_bind (wpAny_isInstance (T := "StopIteration") (b := true) S'.excType0 isSubtype_stop ?_)
  exact wpAny_pure (h _ (S'.sub (.cons _ (.cons _ (.refl _)))))
theorem r_iterIt {I : Addr} {Q : Value → Shared → Prop} (hT : s.TypeIs (.ref I) "list_iterator") (h : Q (.ref I) s) : wpAny (model prog w) A (pyIter (.ref I)) Q E s := by
  refine wpAny_pyIter_slot hT slot_listiter_iter (wpAny_call_entry slot_listiter_iter hT entry_listiter_iter ?_ (args_listiter_iter _))
  show wpAny _ _ (ret (.ref I)) _ _ s
  exact wpAny_pure ⟨_, rfl, "list_iterator", _, hT, slot_listiter_next.lookup, h⟩
theorem St.itType {I l : Addr} {o : Option Nat} (S : St b s L G) (h : (I, itX l o) ∈ L) : s.TypeIs (.ref I) "list_iterator" := by
  obtain ⟨ob, ho, hX⟩ := S.get h
  cases o with
  | some i => exact ⟨ob, ho, hX.1⟩
  | none => obtain ⟨x, hc, hd⟩ := hX; exact ⟨ob, ho, hc⟩
/-- iter(list) -/
theorem r_iterB {l : Addr} {ys : List Str} {Q : Value → Shared → Prop} (S : St b s L G) (hl : (l, lstS ys) ∈ L) (h : ∀ I s', St b s' ((I, itC l 0) :: L) G → Q (.ref I) s') : wpAny (model prog w) A (call (.builtin "iter") [.ref l]) Q E s := by
  obtain ⟨vs, hv, hs⟩ := S.lst hl
  refine call_function_entry (by decide +kernel) (by decide +kernel) kdk_entry_iter (kdk_args_iter _) ?_
  unfold Builtin.«iter»
  refine wpAny_bind (m := someArgs "iter" 1 2 _) (wpAny_of_eq (a := [Value.ref l]) (by first | rfl | kernel_rfl!) ?_)
  show wpAny _ _ (pyIter (.ref l) >>= _) _ _ _
  refine wpAny_bind (wpAny_pyIter_list hv ?_)
  exact wpAny_pure ⟨_, rfl, h _ _ (S.alloc (P := itC l 0) ⟨rfl, rfl⟩)⟩
end
end Mine

-- part N2
open PySem PySem.W PySem.W.X PyProof.Rows PySem.Calls PySem.Spec PySem.SeqAt
set_option Elab.async false
set_option maxRecDepth 100000
set_option maxHeartbeats 400000
set_option linter.all false
namespace Mine
/-- the first row of the side from the place i on -/
def scanL (tag : Str) : List Str → Nat → Option (Str × Nat)
  | [], _ => none
  | y :: r, i => if keepS tag y then some (cutS y, i + 1) else scanL tag r (i + 1)
/-- what a reader at the place o gives, and where it is then -/
def scanX (n : Int) (ys : List Str) : Option Nat → Option Str × Option Nat
  | none => (none, none)
  | some i => match scanL (tagOf n) (ys.drop i) i with
    | some (y, j) => (some y, some j)
    | none => (none, none)
theorem scanX_end {n : Int} {ys : List Str} {i : Nat} (h : ys[i]? = none) : scanX n ys (some i) = (none, none) := by
  have : ys.drop i = [] := List.drop_eq_nil_iff.mpr (by simpa using h)
  simp [scanX, this, scanL]
theorem drop_at {α : Type} {ys : List α} {i : Nat} {y : α} (h : ys[i]? = some y) : ys.drop i = y :: ys.drop (i + 1) := by
  obtain ⟨hi, rfl⟩ := List.getElem?_eq_some_iff.mp h
  exact List.drop_eq_getElem_cons hi
theorem scanX_hit {n : Int} {ys : List Str} {i : Nat} {y : Str} (h : ys[i]? = some y) (hk : keepS (tagOf n) y = true) : scanX n ys (some i) = (some (cutS y), some (i + 1)) := by
  simp [scanX, drop_at h, scanL, hk]
theorem scanX_pass {n : Int} {ys : List Str} {i : Nat} {y : Str} (h : ys[i]? = some y) (hk : keepS (tagOf n) y = false) : scanX n ys (some i) = scanX n ys (some (i + 1)) := by
  simp [scanX, drop_at h, scanL, hk]

theorem Upd.eq_setL {α β : Type} [DecidableEq α] {L L' : List (α × β)} {a : α} {P : β} (u : Upd L a P L') (hn : (L.map (·.1)).Nodup) : L' = setL a P L := by
  induction u with
  | head => simp [setL]
  | @tail e a P' r r' u ih =>
    have hn' := List.nodup_cons.mp (show (e.1 :: r.map (·.1)).Nodup from hn)
    unfold setL
    obtain ⟨P₀, hm⟩ := u.has
    rw [if_neg (fun e0 => hn'.1 (by rw [e0]; exact List.mem_map.mpr ⟨_, hm, rfl⟩)), ih hn'.2]
theorem setL_same {α β : Type} [DecidableEq α] {L : List (α × β)} {a : α} {P : β} (h : (a, P) ∈ L) (hn : (L.map (·.1)).Nodup) : setL a P L = L := ((upd_same h).eq_setL hn).symm
theorem setL_other {α β : Type} [DecidableEq α] {a c : α} {P Q : β} (hne : c ≠ a) : ∀ {L : List (α × β)}, (c, P) ∈ L → (c, P) ∈ setL a Q L
  | [], h => nomatch h
  | e :: r, h => by
    unfold setL
    by_cases he : e.1 = a
    · rw [if_pos he]
      rcases List.mem_cons.mp h with rfl | h
      · exact absurd he hne
      · exact .tail _ h
    · rw [if_neg he]
      rcases List.mem_cons.mp h with rfl | h
      · exact .head _
      · exact .tail _ (setL_other hne h)
theorem setL_mem {α β : Type} [DecidableEq α] {L : List (α × β)} {a : α} {P P' : β} (h : (a, P) ∈ L) : (a, P') ∈ setL a P' L := (setL_upd ⟨_, h⟩).here
theorem setL_again {α β : Type} [DecidableEq α] {L : List (α × β)} {a : α} {P Q P' : β} (h : (a, P) ∈ L) : Upd (setL a Q L) a P' (setL a P' L) := by
  have := setL_upd (P := P') (L := setL a Q L) ⟨Q, setL_mem h⟩
  rwa [setL_setL] at this
theorem it_ne {b s : Shared} {L : Ledger} {G : GLedger} {I l : Addr} {o : Option Nat} {ys : List Str} (S : St b s L G) (hI : (I, itX l o) ∈ L) (hl : (l, lstS ys) ∈ L) : l ≠ I := fun e => by
  subst e
  obtain ⟨ob, ho, hc⟩ := S.itType hI
  obtain ⟨_, ho', vs, n, rfl, _⟩ := S.get hl
  rw [ho] at ho'
  cases ho'
  exact absurd hc (by simp)

section
variable {prog : Program} {w : World} {A : Around} {E : Value → Shared → Prop} {b s : Shared} {L L' : Ledger} {G : GLedger} {mg mb : Str → Option Value} {names : List Str} {outer : List Env}

abbrev rdL (a C tp : Addr) (g : Nat) (n : Int) : Ledger := [(a, genC g), (C, frC (flP tp)), (tp, tupS ["  ", tagOf n])]
/-- the reader's run from the head of its loop, over a list's iterator -/
theorem seg_scan {a C f tp I l : Addr} {cd : Value} {g : Nat} {n : Int} {F : Ledger} {GF : GLedger} {p' : Pos} {ys : List Str} {o : Option Nat}
    (hA : Ar A 1) (hI : (I, itX l o) ∈ F) (hl : (l, lstS ys) ∈ F) (hlen : ∀ x ∈ ys, x.length ≤ sizeLine)
    (S0 : St b s (rdL a C tp g n ++ F) ((g, IsRun) :: GF)) :
    SegX (model prog w) A (FL (.ref I) (rEnv C f cd)) (denote table (FL (.ref I) (rEnv C f cd))) (fsR (rEnv C f cd) p') s (fun e s₁ => match e.result with
      | .yielded v => AtLoop (.ref I) (rEnv C f cd) e.genState ∧ e.genState.bare = true ∧ ∃ y t, (scanX n ys o).1 = some y ∧ v = .str y t ∧ St b s₁ (rdL a C tp g n ++ setL I (itX l (scanX n ys o).2) F) ((g, IsRun) :: GF)
      | .returned v => v = .none ∧ e.genState = .finished ∧ (scanX n ys o).1 = none ∧ St b s₁ (rdL a C tp g n ++ setL I (itX l (scanX n ys o).2) F) ((g, IsRun) :: GF)
      | _ => False) := by
  have hne : l ≠ I := it_ne S0 (List.mem_append_right _ hI) (List.mem_append_right _ hl)
  let J : Nat → Shared → Prop := fun m s => ∃ o', scanX n ys o' = scanX n ys o ∧ m = o'.elim 0 (fun i => ys.length - i) ∧ St b s (rdL a C tp g n ++ setL I (itX l o') F) ((g, IsRun) :: GF)
  let Pend : Shared → Prop := fun s => (scanX n ys o).1 = none ∧ St b s (rdL a C tp g n ++ setL I (itX l (scanX n ys o).2) F) ((g, IsRun) :: GF)
  let Py : Value → Shared → Prop := fun v s => ∃ y t, (scanX n ys o).1 = some y ∧ v = .str y t ∧ St b s (rdL a C tp g n ++ setL I (itX l (scanX n ys o).2) F) ((g, IsRun) :: GF)
  have hS0 : St b s (rdL a C tp g n ++ setL I (itX l o) F) ((g, IsRun) :: GF) := by
    rw [setL_same hI]
    · exact S0
    · have := S0.nodup
      rw [List.map_append] at this
      exact (List.nodup_append.mp this).2.1
  refine rg_loop (b := b) (tp := tp) (tag := tagOf n) J (Pend := Pend) (Py := Py) ?_ _ _ ⟨o, rfl, rfl, hS0⟩
  rintro m s₁ ⟨o', hsc, hm, S₁⟩
  have hA1 : (A.over (FL (.ref I) (rEnv C f cd)) (fsR (rEnv C f cd) p')).handled = none := hA.handled
  have hIm : (I, itX l o') ∈ rdL a C tp g n ++ setL I (itX l o') F := List.mem_append_right _ (setL_mem hI)
  have hlm : (l, lstS ys) ∈ rdL a C tp g n ++ setL I (itX l o') F := List.mem_append_right _ (setL_other hne hl)
  cases o' with
  | none =>
    refine r_nextOver hA1 S₁ hIm fun s₂ S₂ => ?_
    have e : scanX n ys o = (none, none) := hsc.symm
    refine ⟨by rw [e], ?_⟩
    rw [e]; exact S₂
  | some i =>
    cases hy : ys[i]? with
    | none =>
      obtain ⟨vs, hv, hs⟩ := S₁.lst hlm
      refine r_nextEnd hA1 S₁ hIm hv (i := i) ?_ (Upd.left (setL_again (P' := itE) hI) _) fun s₂ S₂ => ?_
      · have h1 := strsAre_len hs
        have h2 : ys.length ≤ i := by simpa using hy
        exact Array.getElem?_eq_none (by simp only [Array.length_toList] at h1; omega)
      · have e : scanX n ys o = (none, none) := hsc.symm.trans (scanX_end hy)
        refine ⟨by rw [e], ?_⟩
        rw [e]; exact S₂
    | some y =>
      have hil : i < ys.length := (List.getElem?_eq_some_iff.mp hy).1
      refine r_nextItem S₁ hIm hlm hy (Upd.left (setL_again (P' := itC l (i + 1)) hI) _) fun t s₂ S₂ => ?_
      refine ⟨y, ⟨t, rfl⟩, hlen y (List.mem_of_getElem? hy), _, _, flP tp, [(("prefixes" : Str), vE (.ref tp)), (("line" : Str), vS y)], (a, genC g) :: (C, frC [(("prefixes" : Str), vE (.ref tp)), (("line" : Str), vS y)]) :: (tp, tupS ["  ", tagOf n]) :: setL I (itC l (i + 1)) F, S₂,
        .tail _ (.head _), .skip (by kernel_rfl) .nil, .tail .head, .head _, .tail _ (.tail _ (.head _)), fun s₃ S₃ => ?_⟩
      have back : ∀ {s}, St b s ((a, genC g) :: (C, frC [(("prefixes" : Str), vE (.ref tp)), (("line" : Str), vS y)]) :: (tp, tupS ["  ", tagOf n]) :: setL I (itC l (i + 1)) F) ((g, IsRun) :: GF) → St b s (rdL a C tp g n ++ setL I (itX l (some (i + 1))) F) ((g, IsRun) :: GF) := fun S =>
        S.less (.tail _ (.head _)) (.tail .head) fun o ho => frC_sub (fun q hq => by cases List.mem_singleton.mp hq; exact .head _) ho
      cases hkp : keepS (tagOf n) y with
      | true =>
        rw [if_pos rfl]
        intro t' s₄ S₄
        have e : scanX n ys o = (some (cutS y), some (i + 1)) := hsc.symm.trans (scanX_hit hy hkp)
        refine ⟨cutS y, t', by rw [e], rfl, ?_⟩
        rw [e]; exact back S₄
      | false =>
        rw [if_neg Bool.false_ne_true]
        refine ⟨ys.length - (i + 1), by rw [hm]; simp only [Option.elim]; omega, some (i + 1), (scanX_pass hy hkp).symm.trans hsc, rfl, back S₃⟩
end
end Mine

-- part N3
open PySem PySem.W PySem.W.X PyProof.Rows PySem.Calls PySem.Spec PySem.SeqAt
set_option Elab.async false
set_option maxRecDepth 100000
set_option maxHeartbeats 400000
set_option linter.all false
namespace Mine
section
variable {prog : Program} {w : World} {A : Around} {E : Value → Shared → Prop} {b s : Shared} {L L' : Ledger} {G : GLedger} {mg mb : Str → Option Value} {names : List Str} {outer : List Env}

/-- what a reader's answer is to be good for -/
structure Says (b : Shared) (Q : Option Value → Shared → Prop) (E : Value → Shared → Prop) (a C f tp I l : Addr) (cd : Value) (g : Nat) (n : Int) (ys : List Str) (o : Option Nat) (F : Ledger) (GF : GLedger) : Prop where
  row : ∀ y t s', (scanX n ys o).1 = some y → St b s' (rdL a C tp g n ++ setL I (itX l (scanX n ys o).2) F) ((g, AtLoop (.ref I) (rEnv C f cd)) :: GF) → Q (some (.str y t)) s'
  fin : (scanX n ys o).1 = none → ∀ e t s', St b s' (excN e t "StopIteration" [] ++ ((a, genC g) :: setL I (itX l (scanX n ys o).2) F)) ((g, IsFin) :: GF) → E (.ref e) s'

/-- from the head of the loop on -/
theorem dn_seg {a C f tp I l : Addr} {cd : Value} {g : Nat} {n : Int} {F : Ledger} {GF : GLedger} {p' : Pos} {ys : List Str} {o : Option Nat} {Q : Option Value → Shared → Prop}
    (hA : Ar A 1) (hI : (I, itX l o) ∈ F) (hl : (l, lstS ys) ∈ F) (hlen : ∀ x ∈ ys, x.length ≤ sizeLine)
    (S0 : St b s (rdL a C tp g n ++ F) ((g, IsRun) :: GF)) (H : Says b Q E a C f tp I l cd g n ys o F GF) :
    SegX (model prog w) A.in1 (FL (.ref I) (rEnv C f cd)) (denote table (FL (.ref I) (rEnv C f cd))) (fsR (rEnv C f cd) p') s (fun e s₁ => match e.result with
      | .yielded v => Q (some v) (s₁.setGen g e.genState)
      | .returned v => v = .none ∧ wpAny (model prog w) A.in1 (newExc (.type "StopIteration") [] >>= fun x => (raiseNew x : Sem Unit)) (fun _ _ => False) E (s₁.setGen g e.genState)
      | .raised x => ∃ T : String, s₁.TypeIs x T ∧ isSubtype (.type T) (.type "StopIteration") = pure false ∧ s₁.heap.IsGen a g ∧ E x (s₁.setGen g e.genState)
      | _ => False) := by
  refine (seg_scan hA.in1 hI hl hlen S0).mono fun e s₁ h => ?_
  revert h
  cases e.result with
  | yielded v =>
    rintro ⟨hat, hbare, y, t, hy, rfl, S₁⟩
    exact H.row y t _ hy (S₁.setGen .head hat hbare)
  | returned v =>
    rintro ⟨rfl, hfin, hy, S₁⟩
    refine ⟨rfl, ?_⟩
    rw [hfin]
    have S₂ := S₁.setGen (P' := IsFin) (gs := .finished) .head rfl rfl
    refine r_stopX hA.handled (S₂.sub (L' := (a, genC g) :: setL I (itX l (scanX n ys o).2) F) (.cons_cons _ (.cons _ (.cons _ (.refl _))))) fun e t s' S' => ?_
    exact H.fin hy e t s' S'
  | raised x => intro h; exact h.elim
  | running => intro h; exact h.elim
  | justStarted => intro h; exact h.elim
  | finished => intro h; exact h.elim

/-- a reader within its loop -/
theorem dn_loop {a C f tp I l : Addr} {cd : Value} {g : Nat} {n : Int} {F : Ledger} {GF : GLedger} {ys : List Str} {o : Option Nat} {Q : Option Value → Shared → Prop} (B : Bs b mg mb names)
    (hA : Ar A 1) (hI : (I, itX l o) ∈ F) (hl : (l, lstS ys) ∈ F) (hlen : ∀ x ∈ ys, x.length ≤ sizeLine)
    (S : St b s (rdL a C tp g n ++ F) ((g, AtLoop (.ref I) (rEnv C f cd)) :: GF)) (H : Says b Q E a C f tp I l cd g n ys o F GF) :
    wpAny (model prog w) A (callSpecial? (.ref a) (Str.ofString "__next__")) Q E s := by
  obtain ⟨gs, hgs, kk, l', p, p', rfl, hkk⟩ := S.gens _ (.head _)
  have hg := S.isGen (.head _)
  have hw : WakeOf (.suspended kk l' (FL (.ref I) (rEnv C f cd)) p (fsR (rEnv C f cd) p') false) (FL (.ref I) (rEnv C f cd)) (.pure (.again (FL (.ref I) (rEnv C f cd)))) (fsR (rEnv C f cd) p') := .inr ⟨kk, l', p, false, rfl, hkk.symm⟩
  refine r_dnext hA.handled (B.nolimit.keeps S.keep) (by have := hA.depth; omega) hg hgs hw ?_
  refine s_again _ _ _ _ _ _ _ _ rfl ?_
  exact dn_seg hA hI hl hlen (S.setGen (P' := IsRun) .head rfl rfl) H

theorem setL_hd {a C : Addr} {g : Nat} {P Q : Cell} {s : Shared} {F : Ledger} {G : GLedger} (S : St b s ((a, genC g) :: (C, P) :: F) G) : setL C Q ((a, genC g) :: (C, P) :: F) = (a, genC g) :: (C, Q) :: F :=
  ((Upd.tail .head).eq_setL S.nodup).symm

/-- a fresh reader of a list -/
theorem dn_freshL {a C f l : Addr} {cd v2 : Value} {g : Nat} {n : Int} {F : Ledger} {GF : GLedger} {ys : List Str} {Q : Option Value → Shared → Prop} (B : Bs b mg mb names) (hfree : ("int" : Str) ∉ names) (hn : n = 1 ∨ n = 2) (hI2 : IntTo prog w b v2 n)
    (hA : Ar A 1) (hl : (l, lstS ys) ∈ F) (hlen : ∀ x ∈ ys, x.length ≤ sizeLine)
    (S : St b s ((a, genC g) :: (C, frC (fl0 (.ref l) v2)) :: F) ((g, IsFresh (rEnv C f cd)) :: GF))
    (H : ∀ tp I, Says b Q E a C f tp I l cd g n ys (some 0) ((I, itX l (some 0)) :: F) GF) :
    wpAny (model prog w) A (callSpecial? (.ref a) (Str.ofString "__next__")) Q E s := by
  obtain ⟨gs, hgs, hfr⟩ := S.gens _ (.head _)
  cases hfr
  have hg := S.isGen (.head _)
  refine r_dnext hA.handled (B.nolimit.keeps S.keep) (by have := hA.depth; omega) hg hgs (.inl ⟨rfl, rfl, rfl⟩) ?_
  have S0 := S.setGen (P' := IsRun) (gs := .running) .head rfl rfl
  refine rg_begin (v1 := .ref l) (v2 := v2) B hfree hn hI2 hA.handled S0 (.tail _ (.head _)) fun tp s₁ S₁ => ?_
  rw [setL_hd S0] at S₁
  obtain ⟨vs, hv, _⟩ := S₁.lst (.tail _ (.tail _ (.tail _ hl)))
  refine wpAny_pyIter_list hv fun p => ?_
  have S₂ := S₁.alloc (P := itC l 0) (o := { cls := .type "list_iterator", data := .fields #[.ref l, .int 0 0] }) ⟨rfl, rfl⟩
  have S₃ := (S₂.less (P' := frC (flP tp)) (.tail _ (.tail _ (.tail _ (.head _)))) (.tail (.tail (.tail .head))) fun o ho => frC_sub (fun q hq => by cases List.mem_singleton.mp hq; exact .tail _ (.tail _ (.tail _ (.head _)))) ho).perm (L' := rdL a C tp g n ++ ((s₁.heap.objs.size, itX l (some 0)) :: F)) (by
    refine List.Perm.trans (l₂ := (a, genC g) :: (C, frC (flP tp)) :: (s₁.heap.objs.size, itX l (some 0)) :: (tp, tupS ["  ", tagOf n]) :: F) ?_ ?_
    · exact .cons _ (.cons _ (.swap _ _ _))
    · exact (List.perm_append_comm (l₁ := [(a, genC g), (C, frC (flP tp))]) (l₂ := [(s₁.heap.objs.size, itX l (some 0)), (tp, tupS ["  ", tagOf n])])).append_right F)
  exact dn_seg hA (.head _) (.tail _ hl) hlen S₃ (H tp _)

/-- a fresh reader of a list's iterator -/
theorem dn_freshI {a C f l I : Addr} {cd v2 : Value} {g : Nat} {n : Int} {F : Ledger} {GF : GLedger} {ys : List Str} {o : Option Nat} {Q : Option Value → Shared → Prop} (B : Bs b mg mb names) (hfree : ("int" : Str) ∉ names) (hn : n = 1 ∨ n = 2) (hI2 : IntTo prog w b v2 n)
    (hA : Ar A 1) (hI : (I, itX l o) ∈ F) (hl : (l, lstS ys) ∈ F) (hlen : ∀ x ∈ ys, x.length ≤ sizeLine)
    (S : St b s ((a, genC g) :: (C, frC (fl0 (.ref I) v2)) :: F) ((g, IsFresh (rEnv C f cd)) :: GF))
    (H : ∀ tp, Says b Q E a C f tp I l cd g n ys o F GF) :
    wpAny (model prog w) A (callSpecial? (.ref a) (Str.ofString "__next__")) Q E s := by
  obtain ⟨gs, hgs, hfr⟩ := S.gens _ (.head _)
  cases hfr
  have hg := S.isGen (.head _)
  refine r_dnext hA.handled (B.nolimit.keeps S.keep) (by have := hA.depth; omega) hg hgs (.inl ⟨rfl, rfl, rfl⟩) ?_
  have S0 := S.setGen (P' := IsRun) (gs := .running) .head rfl rfl
  refine rg_begin (v1 := .ref I) (v2 := v2) B hfree hn hI2 hA.handled S0 (.tail _ (.head _)) fun tp s₁ S₁ => ?_
  rw [setL_hd S0] at S₁
  refine r_iterIt (S₁.itType (.tail _ (.tail _ (.tail _ hI)))) fun p => ?_
  have S₃ := (S₁.less (P' := frC (flP tp)) (.tail _ (.tail _ (.head _))) (.tail (.tail .head)) fun o ho => frC_sub (fun q hq => by cases List.mem_singleton.mp hq; exact .tail _ (.tail _ (.tail _ (.head _)))) ho).perm (L' := rdL a C tp g n ++ F) (by
    refine List.Perm.trans (l₂ := (a, genC g) :: (tp, tupS ["  ", tagOf n]) :: (C, frC (flP tp)) :: F) ?_ (.swap _ _ _)
    exact .cons _ (.swap _ _ _))
  exact dn_seg hA hI hl hlen S₃ (H tp)

/-- a reader that has ended -/
theorem dn_fin {a : Addr} {g : Nat} {Q : Option Value → Shared → Prop} (hh : A.handled = none) (S : St b s L G) (ha : (a, genC g) ∈ L) (hg : (g, IsFin) ∈ G)
    (h : ∀ e t s', St b s' (excN e t "StopIteration" [] ++ L) G → E (.ref e) s') :
    wpAny (model prog w) A (callSpecial? (.ref a) (Str.ofString "__next__")) Q E s := by
  obtain ⟨gs, hgs, rfl⟩ := S.gens _ hg
  have hgn := S.isGen ha
  refine wpAny_callSpecial?_slot (name := Str.ofString "__next__") hgn.typeIs slot_gen_next
    (wpAny_call_entry slot_gen_next hgn.typeIs entry_gen_next ?_ (args_gen_next _))
  show wpAny _ A.in1 (Builtin.Generator.genWake (.ref a) (.send .none)) _ _ s
  unfold Builtin.Generator.genWake
  refine wpAny_bind (wpAny_holding (wpAny_genNumber hgn (wpAny_bind (wpAny_genState hgs ?_))))
  show wpAny _ A.in1 (resume g (.send .none) >>= _) _ _ s
  refine wpAny_bind ?_
  intro Γ p hΓ
  show Sem.wp _ Γ (.resume g (.send .none) [] .pure) _ _ p s
  rw [Sem.wp_resume]
  refine ⟨.finished, s, by unfold Wakes; rw [hgs]; exact ⟨rfl, rfl⟩, ?_⟩
  show wpAny (model prog w) A.in1 (newExc (.type "StopIteration") [] >>= fun x => (raiseNew x)) _ _ s
  exact r_stopX hh S h
end
end Mine

-- part M4
open PySem PySem.W PySem.W.X PyProof.Rows PySem.Calls PySem.Spec PySem.SeqAt
set_option Elab.async false
set_option maxRecDepth 100000
set_option maxHeartbeats 400000
set_option linter.all false
namespace Mine

def lstI (ns : List Int) : Cell := fun o => ∃ vs n, o = lstObj vs n ∧ IntsAre vs.toList ns
theorem hasL_I {b : Shared} {Lr : Ledger} {l : Addr} {ns : List Int} (h : (l, lstI ns) ∈ Lr) : HasL b Lr l (ns.map vI) := fun s F G hF S => by
  obtain ⟨_, e, vs, n, rfl, hi⟩ := S.get (hF _ h)
  refine ⟨vs, ⟨_, e, rfl, n, rfl⟩, by simpa using hi.length, fun i P e => ?_⟩
  rw [List.getElem?_map] at e
  obtain ⟨y, hy, rfl⟩ := Option.map_eq_some_iff.mp e
  obtain ⟨t, ht⟩ := intsAre_get hi hy
  exact ⟨_, by rw [← Array.getElem?_toList]; exact ht, t, rfl⟩

theorem strs_reverse {vs : List Value} {ys : List Str} (h : StrsAre vs ys) : StrsAre vs.reverse ys.reverse := by
  induction h with
  | nil => exact .nil
  | cons y t _ ih => rw [List.reverse_cons, List.reverse_cons]; exact ih.append' (.cons y t .nil)

section
variable {prog : Program} {w : World} {A : Around} {E : Value → Shared → Prop} {b s : Shared} {L L' X : Ledger} {G : GLedger} {env : Env} {mg mb : Str → Option Value} {names : List Str} {Q : Value → Shared → Prop}

theorem r_min2 {x y : Int} {t u : Tok} (hh : A.handled = none) (S : St b s L G) (h : ∀ t s', St b s' L G → Q (.int (min x y) t) s') : wpAny (model prog w) A (call (.builtin "min") [.int x t, .int y u]) Q E s := by
  refine PySem.Flt.min_two_num hh (.int x t) (.int y u) fun h' tk hk => ?_
  have S' : St b { s with heap := h', toks := tk } L G := S.keeps hk
  show Q (if decide (y < x) = true then .int y u else .int x t) _
  by_cases hlt : y < x
  · rw [if_pos (by simpa using hlt)]
    have := h u _ S'
    rwa [Int.min_eq_right (by omega)] at this
  · rw [if_neg (by simpa using hlt)]
    have := h t _ S'
    rwa [Int.min_eq_left (by omega)] at this

theorem r_callB2 {x : Str} {e₁ e₂ : Expr} {p pos : Pos} {id : String} (B : Bs b mg mb names) (S : St b s L G) (hv : bootBuiltins x = some (.builtin id))
    (h : wpAny (model prog w) A (eval e₁ env) (fun v₁ s₁ => wpAny (model prog w) A (eval e₂ env) (fun v₂ s₂ => wpAny (model prog w) A (call (.builtin id) [v₁, v₂]) Q E s₂) E s₁) E s)
    (hfree : x ∉ names := by decide) (hn : x ≠ "__name__" := by decide) (hg : env.globals = mainGlobals := by kernel_rfl) (hb : env.builtins = builtinsNs := by kernel_rfl)
    (hk : env.scope.kind = .function := by kernel_rfl) (hx : env.kindOf x = some .globalImplicit := by kernel_rfl) (hd : (x == ("__debug__" : Str)) = false := by decide)
    (ht : backTo pos (starEach [e₁, e₂] env) = [(false, eval e₁ env), (false, eval e₂ env)] := by kernel_rfl) :
    wpAny (model prog w) A (eval (.Call (.Name x p) [e₁, e₂] [] pos) env) Q E s := by
  refine wpAny_Call_NameR (r_bname B S hv ?_ hfree hn hg hb hk hx hd)
  rw [ht]
  exact Calls.callWith_builtin rfl (Calls.evalArgs_plain (Calls.spliced_cons (wpAny_mono h (fun _ _ h₁ => Calls.spliced_cons (wpAny_mono h₁ (fun _ _ h₂ => Calls.spliced_nil h₂) fun _ _ e => e)) fun _ _ e => e)))

theorem r_addLS {l l' : Addr} {ys zs : List Str} (S : St b s L G) (hl : (l, lstS ys) ∈ L) (hl' : (l', lstS zs) ∈ L) (hz : ys.length + zs.length ≤ sizeLine) (h : ∀ a s', St b s' ((a, lstS (ys ++ zs)) :: L) G → Q (.ref a) s') : wpAny (model prog w) A (binaryOp .Add (.ref l) (.ref l')) Q E s := by
  obtain ⟨vs, n, hv, hs⟩ := S.isLS hl
  obtain ⟨us, m, hv', hs'⟩ := S.isLS hl'
  refine P.add_list hv hv' (h _ _ (S.alloc (P := lstS (ys ++ zs)) ⟨_, 0, rfl, ?_⟩)) (by rw [size_of hs, size_of hs']; exact hz)
  simpa using hs.append' hs'
theorem r_addLI {l l' : Addr} {ys zs : List Int} (S : St b s L G) (hl : (l, lstI ys) ∈ L) (hl' : (l', lstI zs) ∈ L) (hz : ys.length + zs.length ≤ sizeLine) (h : ∀ a s', St b s' ((a, lstI (ys ++ zs)) :: L) G → Q (.ref a) s') : wpAny (model prog w) A (binaryOp .Add (.ref l) (.ref l')) Q E s := by
  obtain ⟨_, hv, vs, n, rfl, hs⟩ := S.get hl
  obtain ⟨_, hv', us, m, rfl, hs'⟩ := S.get hl'
  have e1 : vs.size = ys.length := by simpa using hs.length
  have e2 : us.size = zs.length := by simpa using hs'.length
  refine P.add_list hv hv' (h _ _ (S.alloc (P := lstI (ys ++ zs)) ⟨_, 0, rfl, ?_⟩)) (by rw [e1, e2]; exact hz)
  simpa using hs.append hs'
/-- list(ints of the call) -/
theorem r_listI {l : Addr} {vs : List Value} {ns : List Int} (S : St b s L G) (hL : b.heap.IsList l vs.toArray) (hI : IntsAre vs ns) (hz : ns.length ≤ sizeLine) (h : ∀ a s', St b s' ((a, lstI ns) :: L) G → Q (.ref a) s') : wpAny (model prog w) A (call (.type "list") [.ref l]) Q E s := by
  obtain ⟨o, ho, hc, n, hd⟩ := hL
  refine call_list_seq l (.inl rfl) (S.keep _ _ ho) hc hd (fun h' c' hk hg => h _ _ (S.new (heap_get_size _) hk hg ⟨_, c', rfl, by simpa using hI⟩)) (by
    have := hI.length
    simpa [this] using hz)

theorem r_itemVneg {value slice : Expr} {l : Addr} {vs : List Value} {k : Int} {u : Tok} {v : Value} (S : St b s L G) (hl : (l, lstV vs) ∈ L) (h0 : k < 0) (h1 : -(vs.length : Int) ≤ k) (hz : -(2 ^ 63) ≤ k) (hy : vs[(k + vs.length).toNat]? = some v) (h : Q v s)
    (hs : subscripted slice false (.ref l) (.int k u) = operate [.ref l, .int k u] (getItem (.ref l) (.int k u)) := by kernel_rfl) :
    wpAny (model prog w) A (subscriptTail value slice (.ref l) (.int k u)) Q E s := by
  obtain ⟨n, hv⟩ := S.isLV hl
  exact tail_any hv.isList.typeIs slot_list_getitem.lookup (wpAny_getItem_list_neg hv.isList h0 (by simpa using h1) hz (by simpa using hy) h) hs

theorem fm_some {α β : Type} (f : α → Option β) : ∀ (l : List α) (r : List β), l.map f = r.map some → l.filterMap f = r
  | [], [], _ => rfl
  | [], _ :: _, h => by simp at h
  | _ :: _, [], h => by simp at h
  | a :: l, c :: r, h => by
    simp only [List.map_cons, List.cons.injEq] at h
    rw [List.filterMap_cons, h.1, fm_some f l r h.2]
theorem rev_pick (items : Array Value) : slicePick items none none (some (-1)) = items.toList.reverse.toArray := by
  unfold slicePick sliceBounds sliceRange
  simp only [Option.getD_some, show ¬ ((-1 : Int) > 0) by decide, if_false]
  congr 1
  have hn : (if ((items.size : Int) - 1) > -1 then ((items.size : Int) - 1 - -1 - -1 - 1) / (- -1) else 0).toNat = items.size := by
    split
    · rw [show (- -1 : Int) = 1 by decide, Int.ediv_one]; omega
    · omega
  rw [hn]
  apply fm_some
  rw [List.map_map]
  apply List.ext_getElem?
  intro i
  simp only [List.getElem?_map]
  by_cases hi : i < items.size
  · rw [List.getElem?_range hi, List.getElem?_reverse (by simpa using hi)]
    simp only [Option.map_some, Function.comp, Array.length_toList]
    rw [show ((items.size : Int) - 1 + -1 * (i : Int)).toNat = items.size - 1 - i by omega, Array.getElem?_toList, Array.getElem?_eq_getElem (show items.size - 1 - i < items.size by omega)]
    rfl
  · rw [List.getElem?_eq_none (by simpa using hi), List.getElem?_eq_none (by simpa using hi)]
    rfl

/-- texts[::-1] -/
theorem r_rev {value : Expr} {st : Expr} {p pos : Pos}
    (h : wpAny (model prog w) A (eval value env) (fun o s₁ => ∃ l, o = .ref l ∧ wpAny (model prog w) A (eval st env) (fun v s₂ => ∃ t ys L G, v = .int (-1) t ∧ St b s₂ L G ∧ (l, lstS ys) ∈ L ∧ ys.length ≤ sizeLine ∧ ∀ a s', St b s' ((a, lstS ys.reverse) :: L) G → Q (.ref a) s') E s₁) E s)
    (ht : ∀ o r, letTemporaryGo value o r = pure () := by intro _ _; kernel_rfl) :
    wpAny (model prog w) A (eval (.Subscript value (.Slice none none (some st) p) pos) env) Q E s := by
  refine wpAny_Subscript_Slice_step (T := "list") list_getitem_lookup (wpAny_mono h (fun o s₁ h₁ => ?_) fun _ _ x => x) ht
  obtain ⟨l, rfl, h₁⟩ := h₁
  refine wpAny_Slice (wpAny_evalPart_none (wpAny_evalPart_none (wpAny_evalPart_some (wpAny_mono h₁ (fun v s₂ h₂ => ?_) fun _ _ x => x))))
  obtain ⟨t, ys, L, G, rfl, S, hl, hz, hQ⟩ := h₂
  obtain ⟨vs, n, hv, hs⟩ := S.isLS hl
  have S₁ := S.push { cls := .type "slice", data := .fields #[.none, .none, .int (-1) t] } s₂.toks
  refine ⟨(hv.isList.push _).typeIs, wpAny_getItem_list_slice (hv.isList.push _) (Heap.IsSliceOf.new ..) .none .none (.int _ _) (by decide) (hQ _ _ (S₁.alloc (P := lstS ys.reverse) ⟨_, 0, rfl, ?_⟩)) (by rw [size_of hs]; exact hz)⟩
  rw [rev_pick]
  exact strs_reverse hs

/-- a method of a list's without arguments -/
theorem r_meth0 {o : Expr} {name : Str} {apos pos : Pos} {id : String} (slot : Slot "list" name id) (hty : typeOf (.builtin id) = pure (.type "method_descriptor"))
    (h : wpAny (model prog w) A (eval o env) (fun ov s₁ => ∃ D ob, ov = .ref D ∧ s₁.heap.get? D = some ob ∧ ob.cls = .type "list" ∧ ob.dict = none ∧ wpAny (model prog w) A (callWith pos (.builtin id) [.ref D] [] []) Q E s₁) E s)
    (hbase : attributeBase o name env (eval o env) = eval o env := by kernel_rfl) (hline : (apos.endLine == pos.line) = true := by kernel_rfl) :
    wpAny (model prog w) A (eval (.Call (.Attribute o name apos) [] [] pos) env) Q E s := by
  refine wpAny_Call_method (T := "list") (id := id) hbase rfl hline F.plainAttrs_list slot hty (wpAny_mono h (fun ov s₁ h₁ => ?_) fun _ _ x => x)
  obtain ⟨D, ob, rfl, ho, hc, hd, h₂⟩ := h₁
  refine ⟨⟨ob, ho, hc⟩, fun a e => ?_, h₂⟩
  cases e
  exact ⟨ob, ho, hd⟩
theorem r_popV {o : Expr} {apos pos : Pos} 
    (h : wpAny (model prog w) A (eval o env) (fun ov s₁ => ∃ l vs v L L' G, ov = .ref l ∧ St b s₁ L G ∧ (l, lstV (vs ++ [v])) ∈ L ∧ Upd L l (lstV vs) L' ∧ vs.length < sizeLine ∧ ∀ s', St b s' L' G → Q v s') E s)
    (hbase : attributeBase o "pop" env (eval o env) = eval o env := by kernel_rfl) (hline : (apos.endLine == pos.line) = true := by kernel_rfl) :
    wpAny (model prog w) A (eval (.Call (.Attribute o "pop" apos) [] [] pos) env) Q E s := by
  refine r_meth0 F.slot_list_pop F.type_list_pop (wpAny_mono h (fun ov s₁ h₁ => ?_) fun _ _ x => x) hbase hline
  obtain ⟨l, vs, v, L, L', G, rfl, S, hl, hu, hz, hQ⟩ := h₁
  obtain ⟨n, hv⟩ := S.isLV hl
  refine ⟨_, _, rfl, hv, rfl, rfl, P.pop_list hv (y := v) (by simp) (hQ _ (S.set hu ⟨_, hl⟩ (Heap.SameBut.update ..).extBut (hv.update _) ?_)) (by simp; omega)⟩
  obtain ⟨n', e⟩ := lst_push (vs := (vs ++ [v]).toArray) (n := n) (fun xs => xs.eraseIdxIfInBounds ((vs ++ [v]).toArray.size - 1))
  refine ⟨n', e.trans ?_⟩
  have : (vs ++ [v]).toArray.eraseIdxIfInBounds ((vs ++ [v]).toArray.size - 1) = vs.toArray := by
    simp
    rw [List.eraseIdx_append_of_length_le (Nat.le_refl _)]
    simp
  rw [this]
theorem r_methV {o e : Expr} {name : Str} {apos pos : Pos} {id : String} {env : Env} (slot : Slot "list" name id) (hty : typeOf (.builtin id) = pure (.type "method_descriptor"))
    (h : wpAny (model prog w) A (eval o env) (fun ov s₁ => ∃ l ys L G, ov = .ref l ∧ St b s₁ L G ∧ (l, lstV ys) ∈ L ∧ wpAny (model prog w) A (callWith pos (.builtin id) [.ref l] [(false, eval e env)] []) Q E s₁) E s)
    (hbase : attributeBase o name env (eval o env) = eval o env := by kernel_rfl) (hline : (apos.endLine == pos.line) = true := by kernel_rfl) (htrees : backTo pos (starEach [e] env) = [(false, eval e env)] := by kernel_rfl) :
    wpAny (model prog w) A (eval (.Call (.Attribute o name apos) [e] [] pos) env) Q E s := by
  refine r_meth1 slot hty (wpAny_mono h (fun ov s₁ h₁ => ?_) fun _ _ x => x) hbase hline htrees
  obtain ⟨l, ys, L, G, rfl, S, hl, h₂⟩ := h₁
  obtain ⟨_, e, m, rfl⟩ := S.get hl
  exact ⟨_, _, rfl, e, rfl, rfl, h₂⟩

theorem strs_any {vs : List Value} {ys : List Str} (h : StrsAre vs ys) (x : Str) (e : Value → Bool) (he : ∀ y t, e (.str y t) = (y == x)) : vs.any e = ys.any (· == x) := by
  induction h with
  | nil => rfl
  | cons y t _ ih => simp only [List.any_cons, he, ih]
theorem strs_mem {vs : List Value} {ys : List Str} (h : StrsAre vs ys) : ∀ v ∈ vs, ∃ y t, v = .str y t := by
  induction h with
  | nil => intro v hv; cases hv
  | cons y t _ ih =>
    intro v hv
    rcases List.mem_cons.mp hv with rfl | hv
    · exact ⟨y, t, rfl⟩
    · exact ih v hv
theorem r_notInS {l : Addr} {ys : List Str} {x : Str} {t : Tok} (S : St b s L G) (hl : (l, lstS ys) ∈ L) (h : Q (.bool (!ys.any (· == x))) s) : wpAny (model prog w) A (compareOp .NotIn (.str x t) (.ref l)) Q E s := by
  obtain ⟨vs, n, hv, hs⟩ := S.isLS hl
  refine PySem.SeqAt.notIn_listAt (fun v => match v with | .str y _ => y == x | _ => false) hv.isList (fun y hy => ?_) ?_
  · obtain ⟨z, u, rfl⟩ := strs_mem hs y (by simpa using hy)
    exact EqAt.str_str _ _ _ _
  · rw [← Array.any_toList, strs_any hs x _ (fun _ _ => rfl)]
    exact h
end
theorem intTo_two {prog : Program} {w : World} {b : Shared} {t : Tok} : IntTo prog w b (.str "2" t) 2 := fun _ _ _ _ _ _ _ S h => KIN.call_text (by decide +kernel) (by decide +kernel) (h _ _ (S.toks _))
end Mine

-- part M4b
open PySem PySem.W PySem.W.X PyProof.Rows PySem.Calls PySem.Spec PySem.SeqAt
set_option Elab.async false
set_option maxRecDepth 100000
set_option maxHeartbeats 400000
set_option linter.all false
namespace Mine
section
variable {prog : Program} {w : World} {A : Around} {E : Value → Shared → Prop} {b s : Shared} {L L' X : Ledger} {G : GLedger} {env : Env} {mg mb : Str → Option Value} {names : List Str} {Q : Value → Shared → Prop}

theorem r_usub {x : Int} {t : Tok} (S : St b s L G) (h : ∀ t s', St b s' L G → Q (.int (-x) t) s') : wpAny (model prog w) A (unaryOp .USub (.int x t)) Q E s := PyProof.Rows.neg_int (h _ _ (S.toks _))
theorem r_isub {x y : Int} {t u : Tok} (S : St b s L G) (h : ∀ t s', St b s' L G → Q (.int (x - y) t) s') : wpAny (model prog w) A (inplaceOp .Sub (.int x t) (.int y u)) Q E s := PyProof.Rows.isub_int (h _ _ (S.toks _))
/-- len of a list of the call's -/
theorem r_lenB {l : Addr} {vs : List Value} (S : St b s L G) (hL : b.heap.IsList l vs.toArray) (hz : vs.length ≤ sizeLine) (h : ∀ t s', St b s' L G → Q (.int vs.length t) s') : wpAny (model prog w) A (call (.builtin "len") [.ref l]) Q E s := by
  have hv : s.heap.IsList l vs.toArray := hL.at fun o e => S.keep _ _ e
  refine call_len_list hv ?_ ?_
  · rw [List.size_toArray]; have : sizeLine < 2 ^ 63 := by decide
    omega
  · rw [List.size_toArray]; exact h _ _ (S.toks _)
/-- [text] -/
theorem r_list1S {e : Expr} {pos : Pos} (h : wpAny (model prog w) A (eval e env) (fun v s₁ => ∃ y t L G, v = .str y t ∧ St b s₁ L G ∧ ∀ a s', St b s' ((a, lstS [y]) :: L) G → Q (.ref a) s') E s)
    (ht : backTo pos (starEach [e] env) = [(false, eval e env)] := by kernel_rfl) : wpAny (model prog w) A (eval (.List [e] pos) env) Q E s := by
  refine wpAny_List ?_
  rw [ht]
  refine Calls.spliced_cons (wpAny_mono h (fun v s₁ h₁ => Calls.spliced_nil ?_) fun _ _ x => x)
  obtain ⟨y, t, L, G, rfl, S, hQ⟩ := h₁
  exact ⟨by show 1 ≤ sizeLine; decide, hQ _ _ (S.alloc (P := lstS [y]) (lstS_mk (.cons y t .nil)))⟩
/-- [a, b, c] -/
theorem r_list3V {e₁ e₂ e₃ : Expr} {pos : Pos} (h : wpAny (model prog w) A (eval e₁ env) (fun v₁ s₁ => wpAny (model prog w) A (eval e₂ env) (fun v₂ s₂ => wpAny (model prog w) A (eval e₃ env) (fun v₃ s₃ => ∃ L G, St b s₃ L G ∧ ∀ a s', St b s' ((a, lstV [v₁, v₂, v₃]) :: L) G → Q (.ref a) s') E s₂) E s₁) E s)
    (ht : backTo pos (starEach [e₁, e₂, e₃] env) = [(false, eval e₁ env), (false, eval e₂ env), (false, eval e₃ env)] := by kernel_rfl) : wpAny (model prog w) A (eval (.List [e₁, e₂, e₃] pos) env) Q E s := by
  refine wpAny_List ?_
  rw [ht]
  refine Calls.spliced_cons (wpAny_mono h (fun v₁ s₁ h₁ => Calls.spliced_cons (wpAny_mono h₁ (fun v₂ s₂ h₂ => Calls.spliced_cons (wpAny_mono h₂ (fun v₃ s₃ h₃ => Calls.spliced_nil ?_) fun _ _ x => x)) fun _ _ x => x)) fun _ _ x => x)
  obtain ⟨L, G, S, hQ⟩ := h₃
  exact ⟨by show 3 ≤ sizeLine; decide, hQ _ _ (S.alloc (P := lstV [v₁, v₂, v₃]) lstV_mk)⟩
/-- [i, j, k] of ints -/
theorem r_list3I {e₁ e₂ e₃ : Expr} {pos : Pos} {i j k : Int} (h : wpAny (model prog w) A (eval e₁ env) (fun v₁ s₁ => vI i v₁ ∧ wpAny (model prog w) A (eval e₂ env) (fun v₂ s₂ => vI j v₂ ∧ wpAny (model prog w) A (eval e₃ env) (fun v₃ s₃ => vI k v₃ ∧ ∃ L G, St b s₃ L G ∧ ∀ a s', St b s' ((a, lstI [i, j, k]) :: L) G → Q (.ref a) s') E s₂) E s₁) E s)
    (ht : backTo pos (starEach [e₁, e₂, e₃] env) = [(false, eval e₁ env), (false, eval e₂ env), (false, eval e₃ env)] := by kernel_rfl) : wpAny (model prog w) A (eval (.List [e₁, e₂, e₃] pos) env) Q E s := by
  refine r_list3V (b := b) (wpAny_mono h (fun v₁ s₁ h₁ => wpAny_mono h₁.2 (fun v₂ s₂ h₂ => wpAny_mono h₂.2 (fun v₃ s₃ h₃ => ?_) fun _ _ x => x) fun _ _ x => x) fun _ _ x => x) ht
  obtain ⟨⟨t₃, rfl⟩, L, G, S, hQ⟩ := h₃
  obtain ⟨⟨t₂, rfl⟩, _⟩ := h₂
  obtain ⟨⟨t₁, rfl⟩, _⟩ := h₁
  refine ⟨L, G, S, fun a s' S' => hQ a s' (S'.less (.head _) .head ?_)⟩
  rintro o ⟨n, rfl⟩
  exact ⟨_, n, rfl, .cons i t₁ (.cons j t₂ (.cons k t₃ .nil))⟩
/-- [x] of any value -/
theorem r_list1V {e : Expr} {pos : Pos} (h : wpAny (model prog w) A (eval e env) (fun v s₁ => ∃ L G, St b s₁ L G ∧ ∀ a s', St b s' ((a, lstV [v]) :: L) G → Q (.ref a) s') E s)
    (ht : backTo pos (starEach [e] env) = [(false, eval e env)] := by kernel_rfl) : wpAny (model prog w) A (eval (.List [e] pos) env) Q E s := by
  refine wpAny_List ?_
  rw [ht]
  refine Calls.spliced_cons (wpAny_mono h (fun v s₁ h₁ => Calls.spliced_nil ?_) fun _ _ x => x)
  obtain ⟨L, G, S, hQ⟩ := h₁
  exact ⟨by show 1 ≤ sizeLine; decide, hQ _ _ (S.alloc (P := lstV [v]) lstV_mk)⟩
theorem r_list0V {pos : Pos} (S : St b s L G) (h : ∀ a s', St b s' ((a, lstV []) :: L) G → Q (.ref a) s') : wpAny (model prog w) A (eval (.List [] pos) env) Q E s :=
  wpAny_List (Calls.spliced_nil ⟨by show 0 ≤ sizeLine; decide, h _ _ (S.alloc (P := lstV []) lstV_mk)⟩)
end
end Mine

-- part N4
open PySem PySem.W PySem.W.X PyProof.Rows PySem.Calls PySem.Spec PySem.SeqAt
set_option Elab.async false
set_option maxRecDepth 100000
set_option maxHeartbeats 400000
set_option linter.all false
namespace Mine
/-- values of these makes -/
inductive Are : List Value → List VP → Prop
  | nil : Are [] []
  | cons {v : Value} {P : VP} {vs : List Value} {Ps : List VP} : P v → Are vs Ps → Are (v :: vs) (P :: Ps)
theorem Are.len {vs : List Value} {Ps : List VP} (h : Are vs Ps) : vs.length = Ps.length := by
  induction h with
  | nil => rfl
  | cons _ _ ih => simp [ih]
theorem Are.get {vs : List Value} {Ps : List VP} (h : Are vs Ps) {i : Nat} {P : VP} (e : Ps[i]? = some P) : ∃ v, vs[i]? = some v ∧ P v := by
  induction h generalizing i with
  | nil => simp at e
  | @cons v P' vs Ps hv _ ih =>
    cases i with
    | zero => simp at e; subst e; exact ⟨v, rfl, hv⟩
    | succ i => simp at e; simpa using ih e
theorem lstP_mk {vs : List Value} {Ps : List VP} {n : Nat} (h : Are vs Ps) : lstP Ps (lstObj vs.toArray n) := ⟨_, n, rfl, by simpa using h.len, fun i P e => by simpa using h.get e⟩

section
variable {prog : Program} {w : World} {A : Around} {E : Value → Shared → Prop} {b s : Shared} {L L' : Ledger} {G : GLedger} {mg mb : Str → Option Value} {names : List Str} {outer : List Env} {env : Env}

theorem St.isLP (S : St b s L G) {l : Addr} {Ps : List VP} (h : (l, lstP Ps) ∈ L) : ∃ vs n, IsL s.heap l vs n ∧ vs.size = Ps.length ∧ ∀ (i : Nat) (P : VP), Ps[i]? = some P → ∃ v, vs[i]? = some v ∧ P v := by
  obtain ⟨_, e, vs, n, rfl, h1, h2⟩ := S.get h
  exact ⟨vs, n, e, h1, h2⟩
theorem r_getP {Q : Value → Shared → Prop} {l : Addr} {Ps : List VP} {k : Int} {u : Tok} {P : VP} (S : St b s L G) (hl : (l, lstP Ps) ∈ L) (h0 : 0 ≤ k) (hz : k < 2 ^ 63) (hy : Ps[k.toNat]? = some P) (h : ∀ v, P v → Q v s) :
    wpAny (model prog w) A (getItem (.ref l) (.int k u)) Q E s := by
  obtain ⟨vs, n, hv, h1, h2⟩ := S.isLP hl
  obtain ⟨v, hx, hP⟩ := h2 _ _ hy
  exact wpAny_getItem_list hv.isList h0 hz hx (h v hP)
theorem r_itemP {Q : Value → Shared → Prop} {value slice : Expr} {l : Addr} {Ps : List VP} {k : Int} {u : Tok} {P : VP} (S : St b s L G) (hl : (l, lstP Ps) ∈ L) (h0 : 0 ≤ k) (hz : k < 2 ^ 63) (hy : Ps[k.toNat]? = some P) (h : ∀ v, P v → Q v s)
    (hs : subscripted slice false (.ref l) (.int k u) = operate [.ref l, .int k u] (getItem (.ref l) (.int k u)) := by kernel_rfl) :
    wpAny (model prog w) A (subscriptTail value slice (.ref l) (.int k u)) Q E s := by
  obtain ⟨vs, n, hv, h1, h2⟩ := S.isLP hl
  exact tail_any hv.isList.typeIs slot_list_getitem.lookup (r_getP S hl h0 hz hy h) hs
theorem w_setL {Q : Unit → Shared → Prop} {l : Addr} {vs : Array Value} {n : Nat} {k : Int} {u : Tok} {v : Value} (hl : IsL s.heap l vs n) (h0 : 0 ≤ k) (hz : k < 2 ^ 63) (hk : k < vs.size)
    (hQ : Q () { s with heap := s.heap.update l (Obj.mapSeq (·.setIfInBounds k.toNat v)) }) : wpAny (model prog w) A (setItem (.ref l) (.int k u) v) Q E s := by
  have hL := hl.isList
  unfold setItem
  try with_reducible refine wpAny_holding ?_
  first | refine wpAny_bind (wpAny_pure ?_) | skip
  refine wpAny_bind (wpAny_sequenceKey hL.typeIs (by decide) ?_)
  refine wpAny_bind (wpAny_callSpecial?_slot (name := Str.ofString "__setitem__") hL.typeIs slot_list_setitem
    (wpAny_call_entry slot_list_setitem hL.typeIs entry_list_setitem ?_ (args_list_setitem _ _ _)))
  show wpAny _ _ (Builtin.List.listSubscript? (.int k u) >>= _) _ _ s
  refine wpAny_bind (wpAny_listSubscript_int (fitsIndex_of h0 hz) ?_)
  clear hz
  obtain ⟨j, rfl⟩ := Int.eq_ofNat_of_zero_le h0
  have hj : j < vs.size := by omega
  have hx' : vs[j]? = some vs[j] := Array.getElem?_eq_getElem hj
  show wpAny _ _ ((seqItemAt l j >>= fun r => pure (r.map (j, ·))) >>= _) _ _ s
  refine wpAny_bind (wpAny_bind (wpAny_seqItemAt hl rfl (wpAny_pure ?_)))
  rw [hx']
  show wpAny _ _ (setSeqItemAt l j v >>= _) _ _ s
  refine wpAny_bind (wpAny_setSeqItemAt hl rfl ?_)
  first
    | exact wpAny_bind (wpAny_pure (wpAny_pure ⟨.none, rfl, wpAny_pure hQ⟩))
    | exact wpAny_pure ⟨.none, rfl, wpAny_pure hQ⟩
theorem r_setP {Q : Unit → Shared → Prop} {l : Addr} {Ps : List VP} {k : Int} {u : Tok} {P : VP} {v : Value} (S : St b s L G) (hl : (l, lstP Ps) ∈ L) (h0 : 0 ≤ k) (hz : k < 2 ^ 63) (hk : k.toNat < Ps.length) (hP : P v) (hu : Upd L l (lstP (Ps.set k.toNat P)) L') (h : ∀ s', St b s' L' G → Q () s') :
    wpAny (model prog w) A (setItem (.ref l) (.int k u) v) Q E s := by
  obtain ⟨vs, n, hv, h1, h2⟩ := S.isLP hl
  refine w_setL hv h0 hz (by rw [h1]; omega) (h _ (S.set hu ⟨_, hl⟩ (Heap.SameBut.update ..).extBut (hv.update _) ⟨_, _, rfl, by simp [h1], fun i P' e => ?_⟩))
  by_cases hi : i = k.toNat
  · subst hi
    rw [List.getElem?_set_self hk] at e
    cases e
    exact ⟨v, by simp [h1, hk], hP⟩
  · rw [List.getElem?_set_ne (Ne.symm hi)] at e
    obtain ⟨v', e', hP'⟩ := h2 i P' e
    exact ⟨v', by rw [Array.getElem?_setIfInBounds_ne (Ne.symm hi)]; exact e', hP'⟩
theorem r_setV {Q : Unit → Shared → Prop} {l : Addr} {vs : List Value} {k : Int} {u : Tok} {v : Value} (S : St b s L G) (hl : (l, lstV vs) ∈ L) (h0 : 0 ≤ k) (hz : k < 2 ^ 63) (hk : k.toNat < vs.length) (hu : Upd L l (lstV (vs.set k.toNat v)) L') (h : ∀ s', St b s' L' G → Q () s') :
    wpAny (model prog w) A (setItem (.ref l) (.int k u) v) Q E s := by
  obtain ⟨n, hv⟩ := S.isLV hl
  refine w_setL hv h0 hz (by rw [List.size_toArray]; omega) (h _ (S.set hu ⟨_, hl⟩ (Heap.SameBut.update ..).extBut (hv.update _) ?_))
  obtain ⟨n', e⟩ := lst_push (vs := vs.toArray) (n := n) (·.setIfInBounds k.toNat v)
  exact ⟨n', e.trans (by simp)⟩

/-! what an iterable gives, drawn and unpacked -/
theorem r_draw {Lr : Ledger} {d : Nat} {it : Value} {F : Ledger} {GF : GLedger} (hA : Ar A d) (hF : ∀ p ∈ Lr, p ∈ F) : ∀ (Ps : List VP) (L₁ : Ledger) (G₁ : GLedger) (s : Shared) (Q : List Value → Shared → Prop), Gives prog w b Lr d it Ps L₁ G₁ → St b s (L₁ ++ F) (G₁ ++ GF) →
    (∀ items L₂ G₂ s', Are items Ps → Gives prog w b Lr d it [] L₂ G₂ → St b s' (L₂ ++ F) (G₂ ++ GF) → Q items s') → wpAny (model prog w) A (draw it Ps.length) Q E s
  | [], L₁, G₁, s, Q, hg, S, hQ => by
    show wpAny _ _ (pure []) Q E s
    exact wpAny_pure (hQ [] L₁ G₁ s .nil hg S)
  | P :: r, L₁, G₁, s, Q, hg, S, hQ => by
    show wpAny _ _ (pyNext it >>= _) Q E s
    refine wpAny_bind (hg A _ s F GF _ hA hF S fun u s' L₂ G₂ hu hg₂ S₂ => ?_)
    refine wpAny_bind (wpAny_holding (r_draw hA hF r L₂ G₂ s' _ hg₂ S₂ fun items L₃ G₃ s₃ hi hg₃ S₃ => wpAny_pure ?_))
    exact hQ _ L₃ G₃ s₃ (.cons hu hi) hg₃ S₃
theorem r_unpack {Lr : Ledger} {d : Nat} {v : Value} {F L₁ : Ledger} {G₁ GF : GLedger} {Ps : List VP} {T : String} {r : Value} {Q : List Value → Shared → Prop} (hsrc : GivesI prog w b Lr d v Ps L₁ G₁) (hA : Ar A d) (hF : ∀ p ∈ Lr, p ∈ F) (S : St b s (L₁ ++ F) (G₁ ++ GF))
    (hT : s.TypeIs v T) (hl : typeLookup (.type T) "__iter__" = pure (some r)) (h : ∀ items s', Are items Ps → St b s' F GF → Q items s') : wpAny (model prog w) A (unpackItems v Ps.length none) Q E s := by
  unfold unpackItems
  refine wpAny_bind ?_
  unfold notIterableAtAll
  refine wpAny_bind (wpAny_specialOf hT hl ?_)
  refine wpAny_pure ?_
  simp only [Bool.false_eq_true, if_false]
  refine wpAny_bind (wpAny_holding (hsrc A _ s F GF _ hA hF S fun it s₁ L₂ G₂ hg _ S₁ => ?_))
  refine wpAny_bind (wpAny_holding (r_draw hA hF Ps L₂ G₂ s₁ _ hg S₁ fun items L₃ G₃ s₂ hi hg₃ S₂ => ?_))
  rw [if_neg (by rw [hi.len]; simp)]
  refine wpAny_bind (wpAny_holding (hg₃ A _ s₂ F GF _ hA hF S₂ fun s₃ S₃ => ?_))
  simp only [Option.isSome_none, Bool.false_eq_true, if_false]
  exact wpAny_pure (h items s₃ hi S₃)
theorem r_asgTup {Lr : Ledger} {d : Nat} {v : Value} {F L₁ : Ledger} {G₁ GF : GLedger} {Ps : List VP} {T : String} {r : Value} {elts : List Expr} {x1 : Nat} {pos : Pos} {Q : Unit → Shared → Prop} (hsrc : GivesI prog w b Lr d v Ps L₁ G₁) (hA : Ar A d) (hF : ∀ p ∈ Lr, p ∈ F) (S : St b s (L₁ ++ F) (G₁ ++ GF))
    (hT : s.TypeIs v T) (hl : typeLookup (.type T) "__iter__" = pure (some r)) (h : ∀ items s', Are items Ps → St b s' F GF → wpAny (model prog w) A (assignInOrder ((assignEach elts env).map (·.2)) items) Q E s')
    (hn : (assignEach elts env).length = Ps.length := by kernel_rfl) (hstar : (assignEach elts env).findIdx? (·.1) = none := by kernel_rfl) :
    wpAny (model prog w) A (assign (.Tuple elts x1 pos) env v) Q E s := by
  rw [assign_Tuple]
  refine wpAny_bind (wpAny_standAt ?_)
  unfold unpack
  rw [hn, hstar]
  exact wpAny_bind (wpAny_holding (r_unpack hsrc hA hF S hT hl h))

/-! texts: their signs -/
theorem r_lenStr {Q : Value → Shared → Prop} {x : Str} {t : Tok} (S : St b s L G) (hz : x.length ≤ sizeLine) (h : ∀ t s', St b s' L G → Q (.int x.length t) s') : wpAny (model prog w) A (call (.builtin "len") [.str x t]) Q E s :=
  P.len_str (by have : sizeLine < 2 ^ 63 := by decide
                omega) (h _ _ (S.toks _))
theorem r_itemStr {Q : Value → Shared → Prop} {value slice : Expr} {x : Str} {t u : Tok} {k : Int} {c : Nat} (S : St b s L G) (h0 : 0 ≤ k) (hz : k < 2 ^ 63) (hc : x.cps[k.toNat]? = some c) (h : ∀ t s', St b s' L G → Q (.str ⟨#[c]⟩ t) s')
    (hs : subscripted slice false (.str x t) (.int k u) = operate [.str x t, .int k u] (getItem (.str x t) (.int k u)) := by kernel_rfl) :
    wpAny (model prog w) A (subscriptTail value slice (.str x t) (.int k u)) Q E s := by
  refine tail_any (typeIs_str s x t) F.slot_str_getitem.lookup (P.getItem_str ?_ (c := c) ?_ (h _ _ (S.toks _))) hs
  · simp only [Bool.or_eq_false_iff, decide_eq_false_iff_not]
    omega
  · obtain ⟨j, rfl⟩ := Int.eq_ofNat_of_zero_le h0
    have hj : j < x.cps.size := (Array.getElem?_eq_some_iff.mp hc).1
    have e : seqIndex? (j : Int) x.length = some j := by
      unfold seqIndex?
      have : x.length = x.cps.size := rfl
      simp only [show ¬ ((j : Int) < 0) by omega, if_false]
      simp
      omega
    rw [e]
    exact hc
end
end Mine

-- part N5
open PySem PySem.W PySem.W.X PyProof.Rows PySem.Calls PySem.Spec PySem.SeqAt
set_option Elab.async false
set_option maxRecDepth 100000
set_option maxHeartbeats 400000
set_option linter.all false
namespace Mine
section
variable {prog : Program} {w : World} {A : Around} {E : Value → Shared → Prop} {b s : Shared} {L L' : Ledger} {G : GLedger} {mg mb : Str → Option Value} {names : List Str} {env : Env}
/-- what a for is to do, where the generators change too -/
structure ForG (prog : Program) (w : World) (A : Around) (b : Shared) (env : Env) (target : Expr) (body : List Stmt) (Q : Flow → Shared → Prop) (v₀ : Value) (s₁ : Shared)
    (Lr : Ledger) (d : Nat) (Ps : List VP) (L₁ F₀ X : Ledger) (G₁ H₀ : GLedger) (J : List VP → Ledger → GLedger → Prop) : Prop where
  src : GivesI prog w b Lr d v₀ Ps L₁ G₁
  room : Ar A d
  st : St b s₁ (L₁ ++ (F₀ ++ X)) (G₁ ++ H₀)
  h0 : J [] F₀ H₀
  hR : ∀ pre F H, J pre F H → ∀ p ∈ Lr, p ∈ F ++ X
  turn : ∀ pre P r u F H L₂ G₂ s, Ps = pre ++ P :: r → P u → J pre F H → St b s (F ++ (L₂ ++ X)) (G₂ ++ H) →
      wpAny (model prog w) A (assign target env u) (fun _ s₂ => wpAny (model prog w) A (execs body env) (Turn Q fun s₃ => ∃ F' H', J (pre ++ [P]) F' H' ∧ St b s₃ (F' ++ (L₂ ++ X)) (G₂ ++ H')) NoE s₂) NoE s
  done : ∀ F H s, J Ps F H → St b s (F ++ X) H → Q .next s
theorem r_forg {target iter : Expr} {body : List Stmt} {pos : Pos} {Q : Flow → Shared → Prop}
    (hiter : wpAny (model prog w) A (eval iter env) (fun v s₁ => ∃ Lr d Ps L₁ F₀ X G₁ H₀ J, ForG prog w A b env target body Q v s₁ Lr d Ps L₁ F₀ X G₁ H₀ J) NoE s)
    (hs : ∀ x, foldedSetIterable iter env x = pure x := by intro _; kernel_rfl) (ht : ∀ it v, letOwnedTupleGo target it v = pure () := by intro _ _; kernel_rfl) :
    wpAny (model prog w) A (exec (.For target iter body [] pos) env) Q E s := by
  refine wpAny_For (wpAny_mono hiter (fun v s₁ h₁ => ?_) fun _ _ x => x.elim) hs
  obtain ⟨Lr, d, Ps, L₁, F₀, X, G₁, H₀, J, hsrc, hA, S₁, h0, hR, turn, done⟩ := h₁
  refine hsrc A _ _ _ _ _ hA (hR [] F₀ H₀ h0) S₁ fun it s₂ L₂ G₂ hg _ S₂ => ?_
  refine codeAny_forLoop (fun n s => ∃ pre post F H L₂ G₂, Ps = pre ++ post ∧ post.length = n ∧ J pre F H ∧ Gives prog w b Lr d it post L₂ G₂ ∧ St b s (L₂ ++ (F ++ X)) (G₂ ++ H)) ?_ Ps.length ⟨[], Ps, F₀, H₀, L₂, G₂, rfl, rfl, h0, hg, S₂⟩ (ht it)
  rintro n s₃ ⟨pre, post, F, H, L₃, G₃, e, hn, hj, hg₃, S₃⟩
  refine hg₃.next hA (hR pre F H hj) S₃ (fun e' s₄ S₄ => ?_) (fun P r e' u s₄ L₄ G₄ hu hg₄ S₄ => ?_)
  · subst e'
    rw [List.append_nil] at e
    subst e
    exact wpAny_execs_nil (done F H s₄ hj S₄)
  · subst e'
    refine wpAny_mono (turn pre P r u F H L₄ G₄ s₄ e hu hj (S₄.perm (perm_swap3 F L₄ X))) (fun _ s₅ h₅ => ?_) fun _ _ x => x.elim
    refine wpAny_mono h₅ (fun f s₆ h₆ => ?_) fun _ _ x => x.elim
    have nx : (∃ F' H', J (pre ++ [P]) F' H' ∧ St b s₆ (F' ++ (L₄ ++ X)) (G₄ ++ H')) → ∃ m, m < n ∧ ∃ pre post F H L₂ G₂, Ps = pre ++ post ∧ post.length = m ∧ J pre F H ∧ Gives prog w b Lr d it post L₂ G₂ ∧ St b s₆ (L₂ ++ (F ++ X)) (G₂ ++ H) := by
      rintro ⟨F', H', hj', S'⟩
      exact ⟨r.length, by simp only [List.length_cons] at hn; omega, pre ++ [P], r, F', H', L₄, G₄, by rw [e]; simp, rfl, hj', hg₄, S'.perm (perm_swap3 L₄ F' X)⟩
    cases f with
    | next => exact nx h₆
    | cont => exact nx h₆
    | brk => exact h₆
    | ret v => exact h₆

/-! displays, item by item -/
theorem r_spl {pos : Pos} {e : Expr} {r : List Expr} {Q : List Value → Shared → Prop} (h : wpAny (model prog w) A (eval e env) (fun v s₁ => wpAny (model prog w) A (spliced (backTo pos (starEach r env))) (fun vs s₂ => Q (v :: vs) s₂) E s₁) E s)
    (he : backTo pos (starEach (e :: r) env) = (false, eval e env) :: backTo pos (starEach r env) := by kernel_rfl) : wpAny (model prog w) A (spliced (backTo pos (starEach (e :: r) env))) Q E s := by
  rw [he]
  exact Calls.spliced_cons h
theorem r_spl0 {pos : Pos} {Q : List Value → Shared → Prop} (h : Q [] s) : wpAny (model prog w) A (spliced (backTo pos (starEach [] env))) Q E s := Calls.spliced_nil h
/-- a list display -/
theorem r_disp {elts : List Expr} {pos : Pos} {Q : Value → Shared → Prop} (h : wpAny (model prog w) A (spliced (backTo pos (starEach elts env))) (fun vs s₁ => vs.length ≤ sizeLine ∧ ∃ P L G, St b s₁ L G ∧ P (lstObj vs.toArray 0) ∧ ∀ a s', St b s' ((a, P) :: L) G → Q (.ref a) s') E s) :
    wpAny (model prog w) A (eval (.List elts pos) env) Q E s := by
  refine wpAny_List (wpAny_mono h (fun vs s₁ h₁ => ?_) fun _ _ x => x)
  obtain ⟨hz, P, L, G, S, hP, hQ⟩ := h₁
  exact ⟨hz, hQ _ _ (S.alloc hP)⟩
/-- list(texts) -/
theorem r_listLS {l : Addr} {ys : List Str} {Q : Value → Shared → Prop} (S : St b s L G) (hl : (l, lstS ys) ∈ L) (hz : ys.length ≤ sizeLine) (h : ∀ a s', St b s' ((a, lstS ys) :: L) G → Q (.ref a) s') : wpAny (model prog w) A (call (.type "list") [.ref l]) Q E s := by
  obtain ⟨_, ho, vs, n, rfl, hs⟩ := S.get hl
  refine call_list_seq l (.inl rfl) ho rfl rfl (fun h' c' hk hg => h _ _ (S.new (heap_get_size _) hk hg ⟨_, c', rfl, hs⟩)) (by
    rw [size_of hs]; exact hz)
end
end Mine


-- part C1
open PySem PySem.W PySem.W.X PyProof.Rows PySem.Calls
set_option Elab.async false
set_option maxRecDepth 100000
set_option maxHeartbeats 400000
set_option linter.all false
namespace Mine
/-! contexts that have the claim's caller below -/
def HasC (Γ : PySem.Ctx) : Prop := ((Γ.code :: Γ.below.map (·.1)).any Code.isCaller) = true
def HasB (Γ : PySem.Ctx) : Prop := ((Γ.below.map (·.1)).any Code.isCaller) = true
theorem HasB.c {Γ : PySem.Ctx} (h : HasB Γ) : HasC Γ := by unfold HasC HasB at *; rw [List.any_cons, h, Bool.or_true]
theorem HasC.enter {Γ : PySem.Ctx} (h : HasC Γ) (c : Code) (hd : Option Value) (p : Pos) : HasB (Γ.enter c hd p) := h
def wpC {α : Type} (M : Model) (A : Around) (t : Sem α) (Q : α → Shared → Prop) (E : Value → Shared → Prop) (s : Shared) : Prop :=
  ∀ Γ p, Γ.In A → HasC Γ → Sem.wp M Γ t (fun a _ s' => Q a s') (fun e _ s' => E e s') p s
def codeC (M : Model) (A : Around) (c : Code) (R : Result → Shared → Prop) (s : Shared) : Prop :=
  ∀ Γ p, Γ.code = c → Γ.Below A → HasB Γ → wpCode M Γ R p s
section
variable {α β : Type} {M : Model} {A : Around} {E : Value → Shared → Prop} {s : Shared}
theorem wpC_of {t : Sem α} {Q : α → Shared → Prop} (h : wpAny M A t Q E s) : wpC M A t Q E s := fun Γ p hΓ _ => h Γ p hΓ
theorem codeC_of {c : Code} {R : Result → Shared → Prop} (h : codeAny M A c R s) : codeC M A c R s := fun Γ p hc hΓ _ => h Γ p hc hΓ
theorem wpC_mono {t : Sem α} {Q Q' : α → Shared → Prop} {E' : Value → Shared → Prop} (h : wpC M A t Q E s) (hQ : ∀ a s, Q a s → Q' a s) (hE : ∀ e s, E e s → E' e s) : wpC M A t Q' E' s :=
  fun Γ p hΓ hC => Sem.wp_mono M Γ t (fun a _ s => hQ a s) (fun e _ s => hE e s) p s (h Γ p hΓ hC)
/-- the first part leads on, or the first part is where it happens -/
theorem wpC_bind {m : Sem α} {f : α → Sem β} {Q : β → Shared → Prop} (h : wpC M A m (fun a s' => wpC M A (f a) Q E s') E s) : wpC M A (m >>= f) Q E s := fun Γ p hΓ hC => by
  rw [Sem.wp_bind']
  exact Sem.wp_mono M Γ m (fun a p' s' h' => h' Γ p' hΓ hC) (fun _ _ _ h' => h') p s (h Γ p hΓ hC)
theorem wpC_first {m : Sem α} {f : α → Sem β} {Q : β → Shared → Prop} (h : wpC M A m (fun a s' => wpAny M A (f a) Q E s') E s) : wpC M A (m >>= f) Q E s := wpC_bind (wpC_mono h (fun _ _ h' => wpC_of h') fun _ _ x => x)
theorem wpC_then {m : Sem α} {f : α → Sem β} {Q : β → Shared → Prop} (h : wpAny M A m (fun a s' => wpC M A (f a) Q E s') E s) : wpC M A (m >>= f) Q E s := wpC_bind (wpC_of h)
theorem wpC_holding {vs : List Value} {m : Sem α} {Q : α → Shared → Prop} (h : wpC M A m Q E s) : wpC M A (holding vs m) Q E s := fun Γ p hΓ hC => by rw [Sem.wp_holding]; exact h Γ p hΓ hC
theorem wpC_operate {vs : List Value} {m : Sem Value} {Q : Value → Shared → Prop} (h : wpC M A m Q E s) : wpC M A (operate vs m) Q E s := fun Γ p hΓ hC => by rw [Sem.wp_operate]; exact h Γ p hΓ hC
theorem wpC_onRaise {m : Sem α} {k : Value → Sem Unit} {Q : α → Shared → Prop} (h : wpC M A m Q (fun e s' => wpAny M A (k e) (fun _ s'' => E e s'') E s') s) : wpC M A (m.onRaise k) Q E s := fun Γ p hΓ hC => by
  rw [Sem.wp_onRaise]
  exact Sem.wp_mono M Γ m (fun _ _ _ h' => h') (fun e p' s' h' => h' Γ p' hΓ) p s (h Γ p hΓ hC)
theorem wpC_attempt {m : Sem α} {Q : Except Value α → Shared → Prop} (h : wpC M A m (fun a => Q (.ok a)) (fun e => Q (.error e)) s) : wpC M A m.attempt Q E s := fun Γ p hΓ hC => by rw [Sem.wp_attempt]; exact h Γ p hΓ hC
theorem codeC_mono {c : Code} {R R' : Result → Shared → Prop} (h : codeC M A c R s) (hR : ∀ r s, R r s → R' r s) : codeC M A c R' s := fun Γ p hc hΓ hB => wpCode_mono hR (h Γ p hc hΓ hB)
theorem wpC_run {c : Code} {h : Option Value} {Q : Flow → Shared → Prop} (hc : codeC M (A.mark h) c (fun r s' => match r with | .ok f => Q f s' | .error e => E e s') s) (hnb : h ≠ some byPass := by intro x; cases x) : wpC M A (run c h) Q E s :=
  fun Γ p hΓ hC => by rw [Sem.wp_run]; exact hc _ p rfl (hΓ.enter c h p hnb) (hC.enter c h p)
theorem codeC_of_tree {c : Code} {R : Result → Shared → Prop}
    (h : wpC M (A.under c) (M.den c) (fun fin s' => match fin with | .done f => R (.ok f) s' | .again c' => c'.quiet = true ∧ codeC M A c' R s') (fun e s' => R (.error e) s') s) : codeC M A c R s := fun Γ p hc hΓ hB => by
  rw [wpCode_iff_wp, hc]
  refine Sem.wp_mono M Γ _ (fun fin p' s' h' => ?_) (fun _ _ _ h' => h') p s (h Γ p (hc ▸ hΓ.in) hB.c)
  cases fin with
  | done f => exact h'
  | again c' => exact ⟨h'.1, h'.2 (Γ.goto c') p' rfl (hΓ.goto c') hB⟩
theorem wpC_runValue {c : Code} {Q : Value → Shared → Prop} (hc : codeC M A c (fun r s' => match r with | .ok (.ret v) => Q v s' | .ok _ => False | .error e => E e s') s) : wpC M A (runValue c) Q E s :=
  fun Γ p hΓ hC => by rw [Sem.wp_runValue]; exact hc _ p rfl (hΓ.enter c none p (by intro x; cases x)) (hC.enter c none p)
theorem wpC_call {f : Value} {pos : List Value} {kw : List (Str × Value)} {Q : Value → Shared → Prop} (hc : codeC M A (.call f ⟨pos, kw⟩) (fun r s' => match r with | .ok (.ret v) => Q v s' | .ok _ => False | .error e => E e s') s) : wpC M A (call f pos kw) Q E s := wpC_runValue hc
theorem wpC_runOwn {env : Env} {c : Code} {h : Option Value} {Q : Flow → Shared → Prop} (hc : codeC M (A.mark h) c (fun r s' => match r with | .ok f => Q f s' | .error e => cameBackBy M A env E e s') s) (hnb : h ≠ some byPass := by intro x; cases x) : wpC M A (runOwn c env h) Q E s := by
  unfold runOwn
  exact wpC_onRaise (wpC_run hc hnb)
theorem wpC_noted {env : Env} {m : Sem α} {Q : α → Shared → Prop} (h : wpC M A m Q (notedBy M A env E) s) : wpC M A (m.onRaise fun x => do noteFrame x env; theTreesLotGoes x) Q E s :=
  wpC_onRaise (wpC_mono h (fun _ _ q => q) fun _ _ hx => wpAny_bind (wpAny_mono hx (fun _ _ e => wpAny_theTreesLotGoes e) fun _ _ e => e))
theorem codeC_loop {c : Code} {R : Result → Shared → Prop} (hq : c.quiet = true) (I : Nat → Shared → Prop)
    (turn : ∀ n s, I n s → wpC M (A.under c) (M.den c) (fun fin s' => match fin with
        | .done f => R (.ok f) s'
        | .again c' => (c' = c ∧ ∃ m, m < n ∧ I m s') ∨ (c'.quiet = true ∧ codeC M A c' R s')) (fun e s' => R (.error e) s') s) :
    ∀ (n : Nat) (s : Shared), I n s → codeC M A c R s := by
  intro n
  induction n using Nat.strongRecOn with
  | ind n ih =>
    intro s h
    refine codeC_of_tree (wpC_mono (turn n s h) (fun fin s' hf => ?_) fun _ _ h' => h')
    cases fin with
    | done f => exact hf
    | again c' =>
      rcases hf with ⟨rfl, m, hm, hI⟩ | hf
      · exact ⟨hq, ih m hm _ hI⟩
      · exact hf
end
section
variable {prog : Program} {w : World} {A : Around} {E : Value → Shared → Prop} {s : Shared} {R : Result → Shared → Prop} {env : Env}
theorem codeC_builtin {id : String} {args : Args} {b : Builtin} (hb : entryFor table id = some b)
    (h : wpC (model prog w) (A.under (.builtin id args)) (b args) (fun fin s' => match fin with | .done f => R (.ok f) s' | .again c' => c'.quiet = true ∧ codeC (model prog w) A c' R s') (fun e s' => R (.error e) s') s) :
    codeC (model prog w) A (.builtin id args) R s := by
  refine codeC_of_tree ?_
  show wpC _ _ (match entryFor table id with | some b => b args | none => unsupported ((withoutEnding? id "#data").getD id)) _ _ s
  rw [hb]; exact h
theorem codeC_call_builtin {id : String} {args : Args} {b : Builtin} (hq : plainId id = true) (hb : entryFor table id = some b)
    (h : wpAny (model prog w) A.in1 (checkBuiltinCall id args) (fun _ s₁ => wpC (model prog w) A.in1 (b args) (fun fin s' => match fin with | .done f => R (.ok f) s' | .again c' => c'.quiet = true ∧ codeC (model prog w) A c' R s') (fun e s' => R (.error e) s') s₁)
      (fun e s' => R (.error e) s') s) : codeC (model prog w) A (.call (.builtin id) args) R s := by
  refine codeC_of_tree ?_
  show wpC _ A.in1 (do checkBuiltinCall id args; again (.builtin id args)) _ _ s
  refine wpC_then (wpAny_mono h (fun _ s₁ h₁ => wpC_of (wpAny_pure (And.intro (plainId_quiet hq args) ?_))) fun _ _ x => x)
  refine codeC_builtin hb ?_
  rw [Around.under_plainId hq args]
  exact h₁
theorem codeC_func {body : List Stmt}
    (h : wpC (model prog w) (A.deeper env) (execs body env) (fun f s' => R (.ok (.ret (match f with | .ret v => v | _ => .none))) s')
      (fun e s' => wpAny (model prog w) (A.deeper env) (leaving env e) (fun _ s'' => R (.error e) s'') (fun e' s'' => R (.error e') s'') s') s) :
    codeC (model prog w) A (.func body env) R s := by
  refine codeC_of_tree ?_
  show wpC _ (A.deeper env) (do point; match ← (execs body env).onRaise (leaving env) with | .ret v => ret v | _ => ret .none) _ _ s
  refine wpC_then (wpAny_point (wpC_first (wpC_onRaise (wpC_mono h (fun f s' h' => ?_) fun _ _ h' => h'))))
  cases f <;> exact wpAny_pure h'
theorem codeC_call_function {a : Addr} {args : Args} {o : Obj} {fd : FuncData} {body : List Stmt} (hroom : A.depth < recursionLimit) (ho : s.heap.get? a = some o)
    (hd' : o.data = .func fd) (hco : fd.scope.isCoroutine = false) (hgen : fd.scope.isGenerator = false) (hbody : fd.body = .stmts body) (hcd : s.heap.CodeRec fd.code fd.qualname)
    (h : wpAny (model prog w) A.in1 (bindArgs fd args) (fun binds s₁ =>
      wpAny (model prog w) A.in1 (newFunctionEnv fd.scope fd.globals fd.closure binds (fd.qualname ++ ".<locals>.") (some a) fd.code none fd.builtins)
        (fun env s₂ => s₂.heap.NoLimit ∧ codeC (model prog w) A (.func body env) R s₂) (fun e s' => R (.error e) s') s₁) (fun e s' => R (.error e) s') s) :
    codeC (model prog w) A (.call (.ref a) args) R s := by
  refine codeC_of_tree ?_
  show wpC _ A.in1 (callAny (.ref a) args) _ _ s
  simp only [callAny]
  refine wpC_then (wpAny_load ho ?_)
  obtain ⟨c, oc, vs, tq, hc, hoc, hdc, hq⟩ := hcd
  simp only [hd', callFunction, hco, hgen, hbody, hc]
  rw [hc] at h
  refine wpC_then (m := field (.ref c) 1) (wpAny_field hoc hdc hq (wpC_then (wpAny_pure ?_)))
  exact wpC_then (wpAny_mono h (fun binds s₁ h₁ => wpC_then (wpAny_mono h₁ (fun env s₂ h₂ => wpC_then (wpAny_enterFrame h₂.1 hroom
    (wpC_of (wpAny_pure (And.intro rfl h₂.2))))) fun _ _ h' => h')) fun _ _ h' => h')

/-! statements -/
/-- what follows a statement, on the path -/
def ThenC (prog : Program) (w : World) (A : Around) (env : Env) (rest : List Stmt) (Q : Flow → Shared → Prop) (E : Value → Shared → Prop) (f : Flow) (s' : Shared) : Prop :=
  match f with | .next => wpC (model prog w) A (execs rest env) Q E s' | f => Q f s'
theorem c_seq {st : Stmt} {rest : List Stmt} {Q : Flow → Shared → Prop} (h : wpC (model prog w) A (exec st env) (ThenC prog w A env rest Q E) E s) : wpC (model prog w) A (execs (st :: rest) env) Q E s := fun Γ p hΓ hC => by
  rw [execs_cons, Sem.wp_bind']
  refine Sem.wp_mono _ Γ _ (fun f p' s' h' => ?_) (fun _ _ _ h' => h') _ _ (h Γ p hΓ hC)
  cases f <;> first | exact h' Γ p' hΓ hC | exact h'
/-- a statement off the path -/
theorem c_seqA {st : Stmt} {rest : List Stmt} {Q : Flow → Shared → Prop} (h : wpAny (model prog w) A (exec st env) (ThenC prog w A env rest Q E) E s) : wpC (model prog w) A (execs (st :: rest) env) Q E s := c_seq (wpC_of h)
theorem c_next {rest : List Stmt} {Q : Flow → Shared → Prop} (h : wpC (model prog w) A (execs rest env) Q E s) : ThenC prog w A env rest Q E .next s := h
theorem c_nextA {rest : List Stmt} {Q : Flow → Shared → Prop} (h : wpAny (model prog w) A (execs rest env) Q E s) : ThenC prog w A env rest Q E .next s := wpC_of h
theorem c_If {test : Expr} {body orelse : List Stmt} {pos : Pos} {Q : Flow → Shared → Prop} (h : wpAny (model prog w) A (isTrue test env (eval test env)) (fun b s₂ => if b then wpC (model prog w) A (execs body env) Q E s₂ else wpC (model prog w) A (execs orelse env) Q E s₂) E s) :
    wpC (model prog w) A (exec (.If test body orelse pos) env) Q E s := fun Γ p hΓ hC => by
  simp only [exec_If, Sem.wp_bind', Sem.wp_cmd_standAt]
  refine Sem.wp_mono _ Γ _ (fun b p₂ s₂ h₂ => ?_) (fun _ _ _ h' => h') _ _ (h Γ _ hΓ)
  cases b <;> exact h₂ Γ p₂ hΓ hC
/-- an expression that is bound to raise -/
theorem c_ExprX {e : Expr} {pos : Pos} {Q : Flow → Shared → Prop} (h : wpC (model prog w) A (eval e env) (fun _ _ => False) E s) (hi : interactive env = false := by rfl) (hs : swapsWith e none pos.line env = pure false := by rfl) :
    wpC (model prog w) A (exec (.Expr e pos) env) Q E s := by
  rw [exec_Expr env e pos hi hs]
  exact wpC_then (wpAny_standAt (wpC_first (wpC_mono h (fun _ _ x => x.elim) fun _ _ x => x)))
theorem c_Assign {x : Str} {pos' pos : Pos} {value : Expr} {Q : Flow → Shared → Prop} (h : wpC (model prog w) A (eval value env) (fun v s₁ => wpAny (model prog w) A (storeName env x v) (fun _ => Q .next) E s₁) E s)
    (hs : swapsWith value (some (.Name x pos')) pos.line env = pure false) : wpC (model prog w) A (exec (.Assign [.Name x pos'] value pos) env) Q E s := fun Γ p hΓ hC => by
  simp only [exec_Assign_Name env x pos' value pos hs, Sem.wp_bind', Sem.wp_cmd_standAt, Sem.wp_bindName, Sem.wp_pure']
  exact Sem.wp_mono _ Γ _ (fun v _ s₁ h₁ => h₁ Γ _ hΓ) (fun _ _ _ h' => h') _ _ (h Γ _ hΓ hC)
theorem c_Try {body orelse : List Stmt} {h₀ : ExceptHandler} {hs : List ExceptHandler} {pos : Pos} {Q : Flow → Shared → Prop}
    (h : wpC (model prog w) A (execs body env) (fun f s₁ => match f with | .next => wpAny (model prog w) A (execs orelse env) Q E s₁ | f => Q f s₁)
      (fun e s₁ => wpAny (model prog w) A (noteFrame e env) (fun _ s₂ => wpAny (model prog w) A (setFlight e none) (fun _ s₃ => wpAny (model prog w) A (handleBy e env (h₀ :: hs)) Q E s₃) E s₂) E s₁) s) :
    wpC (model prog w) A (exec (.Try body (h₀ :: hs) orelse [] pos) env) Q E s := by
  rw [arm_exec_Try]
  refine wpC_then (wpAny_standAt ?_)
  unfold tryStmt
  simp only [List.isEmpty_nil, if_true, List.isEmpty_cons, Bool.false_and, Bool.false_eq_true, if_false]
  refine wpC_first (wpC_attempt (wpC_mono h (fun f s₁ h₁ => ?_) fun e s₁ h₁ => ?_))
  · cases f <;> first | exact h₁ | exact wpAny_pure h₁
  · exact wpAny_bind (wpAny_mono h₁ (fun _ _ h₂ => wpAny_bind h₂) fun _ _ x => x)
theorem c_For {target iter : Expr} {body orelse : List Stmt} {pos : Pos} {Q : Flow → Shared → Prop}
    (h : wpAny (model prog w) A (eval iter env) (fun x s₁ => wpAny (model prog w) A (pyIter x) (fun it s₂ =>
      codeC (model prog w) A (.forLoop target it body orelse env) (fun r s' => match r with | .ok f => Q f s' | .error e => cameBackBy (model prog w) A env E e s') s₂) E s₁) E s)
    (hs : ∀ x, foldedSetIterable iter env x = pure x) : wpC (model prog w) A (exec (.For target iter body orelse pos) env) Q E s := by
  rw [exec_For]
  exact wpC_then (wpAny_standAt (wpC_then (wpAny_mono h (fun x s₁ h₁ => wpC_then (wpAny_of_eq (hs x) (wpC_then (wpAny_standAt (wpC_then (wpAny_holding
    (wpAny_mono h₁ (fun it s₂ h₂ => wpC_runOwn h₂) fun _ _ h' => h'))))))) fun _ _ h' => h')))
theorem c_forLoop {target : Expr} {it : Value} {body : List Stmt} (I : Nat → Shared → Prop)
    (turn : ∀ n s, I n s → wpAny (model prog w) A (pyNext it) (fun r s₁ => match r with
      | none => R (.ok .next) s₁
      | some v => wpAny (model prog w) A (assign target env v) (fun _ s₂ => wpC (model prog w) A (execs body env) (fun f s₃ => match f with
          | .next | .cont => ∃ m, m < n ∧ I m s₃
          | .brk => R (.ok .next) s₃
          | .ret v => R (.ok (.ret v)) s₃) (notedBy (model prog w) A env fun e s' => R (.error e) s') s₂) (notedBy (model prog w) A env fun e s' => R (.error e) s') s₁) (notedBy (model prog w) A env fun e s' => R (.error e) s') s)
    (n : Nat) (h : I n s) (ht : ∀ v, letOwnedTupleGo target it v = pure ()) : codeC (model prog w) A (.forLoop target it body [] env) R s := by
  refine codeC_loop rfl I (fun n s hI => ?_) n s h
  show wpC _ A ((forTurn target it body [] env).onRaise (fun x => do noteFrame x env; theTreesLotGoes x)) _ _ s
  refine wpC_noted ?_
  simp only [forTurn]
  refine wpC_then (wpAny_standAt (wpC_then (wpAny_onRaise (wpAny_mono (turn n s hI) (fun r s₁ h₁ => ?_) fun _ _ h' => wpAny_standAt h'))))
  cases r with
  | none => exact wpC_of (wpAny_pure (.inr ⟨rfl, codeC_of (codeAny_block (wpAny_execs_nil h₁))⟩))
  | some v =>
    refine wpC_then (wpAny_of_eq (ht v) ?_)
    refine wpC_then (wpAny_mono h₁ (fun _ s₂ h₂ => wpC_first (wpC_mono h₂ (fun f s₃ h₃ => ?_) fun _ _ h' => h')) fun _ _ h' => h')
    cases f with
    | next => exact wpAny_pure (.inl ⟨rfl, h₃⟩)
    | cont => exact wpAny_pure (.inl ⟨rfl, h₃⟩)
    | brk => exact wpAny_pure h₃
    | ret v => exact wpAny_pure h₃

/-! calls -/
theorem c_CallB {x : Str} {args : List Expr} {p pos : Pos} {id : String} {Q : Value → Shared → Prop} (hplain : (backTo pos (starEach args env)).any (·.1) = false)
    (h : wpAny (model prog w) A (eval (.Name x p) env) (fun f s₁ => f = .builtin id ∧ wpAny (model prog w) A (evalArgs (.builtin id) true (backTo pos (starEach args env)) []) (fun a s₂ => wpC (model prog w) A (call (.builtin id) a.pos a.kw) Q E s₂) E s₁) E s) :
    wpC (model prog w) A (eval (.Call (.Name x p) args [] pos) env) Q E s := by
  show wpC _ A (do callWith pos (← eval (.Name x p) env) [] (backTo pos (starEach args env)) (backToKw pos (keywordEach [] env))) Q E s
  refine wpC_then (wpAny_mono h (fun f s₁ h₁ => ?_) fun _ _ x => x)
  obtain ⟨rfl, h₁⟩ := h₁
  show wpC _ A (callWith pos (.builtin id) [] (backTo pos (starEach args env)) []) Q E s₁
  unfold callWith
  refine wpC_then (wpAny_holding (wpAny_mono h₁ (fun a s₂ h₂ => wpC_then (wpAny_standAt ?_)) fun _ _ x => x))
  simp only [hplain, List.any_nil, Bool.or_false]
  refine wpC_then (wpAny_pure ?_)
  exact wpC_first (wpC_mono h₂ (fun r s₂ hr => wpAny_bind (wpAny_holding (wpAny_point (wpAny_pure hr)))) fun _ _ x => x)
theorem c_CallT {x : Str} {args : List Expr} {p pos : Pos} {T : String} {Q : Value → Shared → Prop} (hplain : (backTo pos (starEach args env)).any (·.1) = false)
    (h : wpAny (model prog w) A (eval (.Name x p) env) (fun f s₁ => f = .type T ∧ wpAny (model prog w) A (evalArgs (.type T) true (backTo pos (starEach args env)) []) (fun a s₂ => wpC (model prog w) A (call (.type T) a.pos a.kw) Q E s₂) E s₁) E s) :
    wpC (model prog w) A (eval (.Call (.Name x p) args [] pos) env) Q E s := by
  show wpC _ A (do callWith pos (← eval (.Name x p) env) [] (backTo pos (starEach args env)) (backToKw pos (keywordEach [] env))) Q E s
  refine wpC_then (wpAny_mono h (fun f s₁ h₁ => ?_) fun _ _ x => x)
  obtain ⟨rfl, h₁⟩ := h₁
  show wpC _ A (callWith pos (.type T) [] (backTo pos (starEach args env)) []) Q E s₁
  unfold callWith
  refine wpC_then (wpAny_holding (wpAny_mono h₁ (fun a s₂ h₂ => wpC_then (wpAny_standAt ?_)) fun _ _ x => x))
  simp only [hplain, List.any_nil, Bool.or_false]
  refine wpC_then (wpAny_pure ?_)
  exact wpC_first (wpC_mono h₂ (fun r s₂ hr => wpAny_bind (wpAny_holding (wpAny_point (wpAny_pure hr)))) fun _ _ x => x)
theorem c_Subscript {value slice : Expr} {pos : Pos} {Q : Value → Shared → Prop}
    (h : wpAny (model prog w) A (eval value env) (fun o s₁ => wpC (model prog w) A (eval slice env) (fun i s₂ => wpAny (model prog w) A (subscriptTail value slice o i) Q E s₂) E s₁) E s) :
    wpC (model prog w) A (eval (.Subscript value slice pos) env) Q E s := by
  rw [eval_Subscript]
  exact wpC_then (wpAny_mono h (fun o s₁ h₁ => wpC_first (wpC_holding (wpC_mono h₁ (fun i s₂ h₂ => wpAny_bind (wpAny_standAt h₂)) fun _ _ x => x))) fun _ _ x => x)
theorem c_callSpecial {self : Value} {T : String} {name : Str} {id : String} {args : List Value} {Q : Option Value → Shared → Prop} (hT : s.TypeIs self T) (h : Slot T name id)
    (hc : wpC (model prog w) A (call (.builtin id) (self :: args)) (fun v => Q (some v)) E s) : wpC (model prog w) A (callSpecial? self name args) Q E s := by
  simp only [callSpecial?]
  refine wpC_then (wpAny_specialOf hT h.lookup ?_)
  simp only [h.bind]
  exact wpC_holding (wpC_then (wpAny_pure (wpC_first (wpC_mono hc (fun v s' h' => wpAny_pure h') fun _ _ h' => h'))))
theorem c_entry {T : String} {name : Str} {id : String} {b : Builtin} {self : Value} {rest : List Value} {Q : Value → Shared → Prop} (h : Slot T name id) (hT : s.TypeIs self T) (hb : entryFor table id = some b)
    (hc : wpC (model prog w) A.in1 (b ⟨self :: rest, []⟩) (fun fin s' => ∃ v, fin = .done (.ret v) ∧ Q v s') E s) (ha : argsOk id ⟨self :: rest, []⟩) :
    wpC (model prog w) A (call (.builtin id) (self :: rest)) Q E s := by
  refine wpC_call (codeC_call_builtin h.plain hb (h.check _ _ _ _ _ _ _ _ hT ha (wpC_mono hc (fun fin s' h' => ?_) fun _ _ h' => h')))
  obtain ⟨v, rfl, hv⟩ := h'; exact hv
theorem c_function {id : String} {b : Builtin} {args : List Value} {Q : Value → Shared → Prop} (hk : builtinKind id = none) (hp : plainId id = true) (hb : entryFor table id = some b) (ha : argsOk id ⟨args, []⟩)
    (hc : wpC (model prog w) A.in1 (b ⟨args, []⟩) (fun fin s' => ∃ v, fin = .done (.ret v) ∧ Q v s') E s) : wpC (model prog w) A (call (.builtin id) args) Q E s := by
  refine wpC_call (codeC_call_builtin hp hb ?_)
  have hfin := wpC_mono hc (Q' := fun fin s' => match fin with
      | .done f => (match (Except.ok f : Result) with | .ok (.ret v) => Q v s' | .ok _ => False | .error e => E e s')
      | .again c' => c'.quiet = true ∧ codeC (model prog w) A c' (fun r s' => match r with | .ok (.ret v) => Q v s' | .ok _ => False | .error e => E e s') s')
    (fun fin s' h' => by obtain ⟨v, rfl, hv⟩ := h'; exact hv) fun _ _ h' => h'
  simp only [checkBuiltinCall, hk]
  cases hsig : Manifest.signature? id with
  | none => exact wpAny_pure hfin
  | some sig =>
    simp only [argsOk, hsig] at ha
    have h2 : Bind.checkArgs id sig ⟨args, []⟩ = pure () := ha
    simp only [h2]
    exact wpAny_pure hfin

/-- under the caller a refusal leaves no mark -/
theorem c_mark {own : List String} {e : Value} {Q : Unit → Shared → Prop} (h : Q () s) : wpC (model prog w) A (markTheRefusal own e) Q E s := fun Γ p hΓ hC => by
  unfold markTheRefusal
  rw [Sem.wp_bind']
  show Sem.wp _ Γ (if pythonCodeMadeTheCall own (((Γ.code, p) :: Γ.below).map (·.1)) = true then _ else _) _ _ p s
  have e1 : pythonCodeMadeTheCall own (((Γ.code, p) :: Γ.below).map (·.1)) = false := by
    have key : ∀ (a b c : Bool), a = true → (!a && b && c) = false := by decide
    unfold pythonCodeMadeTheCall
    exact key _ _ _ hC
  rw [e1, if_neg Bool.false_ne_true]
  exact h
end
end Mine

-- part C2
open PySem PySem.W PySem.W.X PyProof.Rows PySem.Calls
set_option Elab.async false
set_option maxRecDepth 100000
set_option maxHeartbeats 400000
set_option linter.all false
namespace Mine
section
variable {prog : Program} {w : World} {A : Around} {E : Value → Shared → Prop} {s : Shared}
theorem wpC_iteF {α : Type} {c : Prop} [Decidable c] {a b : Sem α} {Q : α → Shared → Prop} (hc : ¬ c) (h : wpC (model prog w) A b Q E s) : wpC (model prog w) A (if c then a else b) Q E s := by rw [if_neg hc]; exact h
theorem wpC_iteT {α : Type} {c : Prop} [Decidable c] {a b : Sem α} {Q : α → Shared → Prop} (hc : c) (h : wpC (model prog w) A a Q E s) : wpC (model prog w) A (if c then a else b) Q E s := by rw [if_pos hc]; exact h
/-- int(v), where int.__new__ is bound to raise -/
theorem c_intX {v : Value} {Q : Value → Shared → Prop} (h : wpC (model prog w) A.in1.in1 (Builtin.«int.__new__» ⟨[.type "int", v], []⟩) (fun _ _ => False) E s) : wpC (model prog w) A (call (.type "int") [v]) Q E s := by
  refine wpC_call (codeC_of_tree ?_)
  show wpC _ _ (callAny (.type "int") _) _ _ _
  refine wpC_of (wpAny_pure ⟨Code.quiet_builtin _ (by decide +kernel), codeC_builtin F.entry_type_call ?_⟩)
  rw [Around.under_plain (weight_type_call_type "int" [v] []) (units_type_call_type "int" [v] [])]
  have h1 := F.called_int.notType
  have h2 := F.called_int.canCreate
  have h3 := F.typeCall_int_1 v
  have h4 := F.mro_int
  have h5 := F.called_int.made
  unfold Builtin.«type.__call__»
  dsimp only
  simp only [h1, h2, h3, h4, h5, pure_bind, Bool.false_eq_true, if_false, List.isEmpty_cons]
  refine wpC_first (wpC_holding (wpC_call (codeC_call_builtin F.called_int.plain F.entry_int_new ?_)))
  rw [F.newCall_int_1 v]
  exact wpAny_pure (wpC_mono h (fun _ _ x => x.elim) fun _ _ x => x)
end
end Mine

-- part C3
open PySem PySem.W PySem.W.X PyProof.Rows PySem.Calls PySem.Spec PySem.SeqAt
set_option Elab.async false
set_option maxRecDepth 100000
set_option maxHeartbeats 400000
set_option linter.all false
namespace Mine
section
variable {prog : Program} {w : World} {A : Around} {E : Value → Shared → Prop} {b s : Shared} {L L' : Ledger} {G : GLedger}
theorem c_intNew {x : Str} {u : Tok} {Q : PySem.Fin → Shared → Prop} (h : wpC (model prog w) A ((int_private% "intFromText") (.str x u) (numTextOf x) 10) (fun _ _ => False) E s) :
    wpC (model prog w) A (Builtin.«int.__new__» ⟨[.type "int", .str x u], []⟩) Q E s := by
  have f0 : isType (.type "int") = pure true := rfl
  unfold Builtin.«int.__new__»
  dsimp only
  simp only [f0, F.conv_sub_int, F.madeHere_int, pure_bind]
  refine wpC_iteF (by decide) ?_
  refine wpC_iteF (by decide) ?_
  refine wpC_iteF (by simp) ?_
  refine wpC_iteF (by simp) ?_
  simp only [List.forIn_nil, pure_bind]
  show wpC _ _ ((int_private% "intFromObject") (.str x u) >>= _) _ _ _
  refine wpC_first (wpC_mono (Q := fun _ _ => False) (E := E) ?_ (fun _ _ z => z.elim) fun _ _ z => z)
  refine wpC_then (m := callSpecial? (.str x u) "__int__") ?_
  have f3 := KIN.str_int
  have f4 := KIN.str_idx
  have f5 := KIN.str_trunc
  have f6 : typeOf (.str x u) = pure (.type "str") := rfl
  repeat wp_step
  dsimp only
  refine wpC_then ?_
  repeat wp_step
  refine wpC_iteF (by simp) ?_
  refine wpC_then ?_
  repeat wp_step
  dsimp only
  refine wpC_then ?_
  repeat wp_step
  exact h
end
end Mine

-- part C4
open PySem PySem.W PySem.W.X PyProof.Rows PySem.Calls PySem.Spec PySem.SeqAt
set_option Elab.async false
set_option maxRecDepth 100000
set_option maxHeartbeats 400000
set_option linter.all false
namespace Mine
section
variable {prog : Program} {w : World} {A : Around} {E : Value → Shared → Prop} {b s : Shared} {L L' : Ledger} {G : GLedger}
def preI : Str := "invalid literal for int() with base 10: "
def msgI (x : Str) : Str := preI ++ (⟨(reprText x).cps.extract 0 200⟩ : Str)
theorem ownMembersOf_ValueError (l : List Value) : ownMembersOf (.type "ValueError") l = #[] := by first | rfl | (unfold ownMembersOf; rfl)
theorem c_fromText {x : Str} {u : Tok} {Q : Value → Shared → Prop} (hh : A.handled = none) (S : St b s L G) (hl : x.length ≤ 640) (hn : PySem.intText? x = none) (hz : (reprText x).length ≤ sizeLine) (hm : (msgI x).length ≤ sizeLine)
    (h : ∀ e t u s', St b s' (excN e t "ValueError" [.str (msgI x) u] ++ L) G → E (.ref e) s') :
    wpC (model prog w) A ((int_private% "intFromText") (.str x u) (numTextOf x) 10) Q E s := by
  have hs : (numSeenOf x).length ≤ 640 := Nat.le_trans (seen_length x) hl
  have hr : (int_private% "readNumeral") 0 10 (numSeenOf x) = (int_private% "Numeral.invalid") ∨ ∃ i, (int_private% "readNumeral") 0 10 (numSeenOf x) = (int_private% "Numeral.value") i ∧ ¬ ((numSeenOf x).length == (numTextOf x).length) = true := by
    rcases read0 x hs with ⟨m, h1, _⟩ | ⟨_, h2⟩
    · rw [hn] at h1; cases h1
    · exact h2
  refine wpC_iteT (c := (numSeenOf x).length ≤ 640) hs ?_
  refine wpC_then (wpAny_pure ?_)
  have tail : ∀ {Q : Value → Shared → Prop}, wpC (model prog w) A (do
      let shown ← pyRepr (.str x u)
      let refusal ← newExc (.type "ValueError") [← mkStr (preI ++ (⟨shown.cps.extract 0 200⟩ : Str))]
      markTheRefusal ["int.__new__"] refusal
      raiseNew refusal) Q E s := by
    intro Q
    refine wpC_then (wpAny_pyRepr_str ?_ hz)
    have S₀ := S.toks (s.toks + 1)
    refine wpC_then (wpAny_mkStr ?_ hm)
    have S₀ := S₀.toks (s.toks + 1 + 1)
    refine wpC_then ?_
    unfold newExc
    refine wpAny_bind (r_newTuple S₀ (P := tupV [.str (msgI x) (s.toks + 1)]) tupV_mk fun t s₁ S₁ => ?_)
    refine wpAny_bind (m := firstArgMember _ _) (wpAny_of_eq (a := Value.none) (by first | rfl | (simp only [firstArgMember]; rfl)) ?_)
    rw [ownMembersOf_ValueError]
    refine wpAny_newObj_type ?_ (by size_fits)
    have S₂ := S₁.alloc (o := { cls := .type "ValueError", data := .fields (#[.ref t, .none, .none, .none, .bool false, .none] ++ #[]) }) (P := excC "ValueError" (.ref t) .none anyV) ⟨_, rfl, rfl, rfl, rfl, .none, rfl, trivial⟩
    refine wpC_bind (c_mark ?_)
    refine wpC_of ?_
    simp only [raiseNew]
    refine wpAny_bind (wpAny_handled ?_)
    rw [hh]
    refine wpAny_bind (wpAny_pure (wpAny_throw ?_))
    exact h _ _ _ _ S₂
  have e1 : Str.ofString (toString "invalid literal for int() with base " ++ toString (10 : Nat) ++ toString ": ") = preI := by decide +kernel
  delta numSeenOf at hr
  dsimp only
  rcases hr with hr | ⟨i, hr, hne⟩
  · rw [hr]
    dsimp only
    refine wpC_then (wpAny_of_eq (a := none) rfl ?_)
    refine wpC_iteF (by simp) ?_
    refine wpC_then (wpAny_rule ?_)
    refine wpC_then (wpAny_of_eq (a := none) rfl ?_)
    rw [e1]
    exact tail
  · rw [hr]
    dsimp only
    refine wpC_iteF hne ?_
    refine wpC_then (wpAny_rule ?_)
    refine wpC_then (wpAny_of_eq (a := none) rfl ?_)
    rw [e1]
    exact tail
/-- int(x), x a text that is no number -/
theorem c_intBad {x : Str} {u : Tok} {Q : Value → Shared → Prop} (hh : A.handled = none) (S : St b s L G) (hl : x.length ≤ 640) (hn : PySem.intText? x = none) (hz : (reprText x).length ≤ sizeLine) (hm : (msgI x).length ≤ sizeLine)
    (h : ∀ e t u s', St b s' (excN e t "ValueError" [.str (msgI x) u] ++ L) G → E (.ref e) s') :
    wpC (model prog w) A (call (.type "int") [.str x u]) Q E s :=
  c_intX (c_intNew (c_fromText (A := A.in1.in1) hh S hl hn hz hm h))
end
end Mine

-- part C5
open PySem PySem.W PySem.W.X PyProof.Rows PySem.Calls PySem.Spec PySem.SeqAt
set_option Elab.async false
set_option maxRecDepth 100000
set_option maxHeartbeats 400000
set_option linter.all false
namespace Mine
section
variable {prog : Program} {w : World} {A : Around} {E : Value → Shared → Prop} {b s : Shared} {L L' : Ledger} {G : GLedger} {mg mb : Str → Option Value} {names : List Str} {outer : List Env} {env : Env}
/-- the reader's head refuses the wish, under the caller -/
def TryBadC (prog : Program) (w : World) (b : Shared) (v2 : Value) (cls : String) (txt : Str) : Prop :=
  ∀ (A : Around) (E : Value → Shared → Prop) (s : Shared) (L : Ledger) (G : GLedger) (Q : Flow → Shared → Prop) (C f : Addr) (cd : Value) (outer : List Env) (fl : List (Str × VP)), A.handled = none → A.frames = some (rEnv C f cd :: outer) → FmsOk (rEnv C f cd :: outer) L → St b s L G → (C, frC fl) ∈ L → (("which" : Str), vE v2) ∈ fl →
    (∀ e t T u s', St b s' (excL e t T cls [.str txt u] (rawInt C) ++ L) G → E (.ref e) s') → wpC (model prog w) A (exec rTry (rEnv C f cd)) Q E s
theorem TryBad.c {v2 : Value} {cls : String} {txt : Str} (h : TryBad prog w b v2 cls txt) : TryBadC prog w b v2 cls txt :=
  by
  unfold TryBad at h
  unfold TryBadC
  intro A E s L G Q C f cd outer fl h1 h2 h3 h4 h5 h6 h7
  refine wpC_of ?_
  with_reducible exact h A E s L G Q C f cd outer fl h1 h2 h3 h4 h5 h6 h7
theorem c_callT1 {x : Str} {e : Expr} {p pos : Pos} {T : String} {Q : Value → Shared → Prop} (B : Bs b mg mb names) (S : St b s L G) (hv : bootBuiltins x = some (.type T))
    (h : wpAny (model prog w) A (eval e env) (fun v s₁ => wpC (model prog w) A (call (.type T) [v]) Q E s₁) E s)
    (hfree : x ∉ names := by decide) (hn : x ≠ "__name__" := by decide) (hg : env.globals = mainGlobals := by kernel_rfl) (hb : env.builtins = builtinsNs := by kernel_rfl)
    (hk : env.scope.kind = .function := by kernel_rfl) (hx : env.kindOf x = some .globalImplicit := by kernel_rfl) (hd : (x == ("__debug__" : Str)) = false := by decide)
    (ht : backTo pos (starEach [e] env) = [(false, eval e env)] := by kernel_rfl) :
    wpC (model prog w) A (eval (.Call (.Name x p) [e] [] pos) env) Q E s := by
  refine c_CallT (T := T) (by rw [ht]; rfl) (r_bname B S hv ⟨rfl, ?_⟩ hfree hn hg hb hk hx hd)
  rw [ht]
  exact Calls.evalArgs_plain (Calls.spliced_cons (wpAny_mono h (fun _ _ h₁ => Calls.spliced_nil h₁) fun _ _ e => e))
theorem c_callB1 {x : Str} {e : Expr} {p pos : Pos} {id : String} {Q : Value → Shared → Prop} (B : Bs b mg mb names) (S : St b s L G) (hv : bootBuiltins x = some (.builtin id))
    (h : wpAny (model prog w) A (eval e env) (fun v s₁ => wpC (model prog w) A (call (.builtin id) [v]) Q E s₁) E s)
    (hfree : x ∉ names := by decide) (hn : x ≠ "__name__" := by decide) (hg : env.globals = mainGlobals := by kernel_rfl) (hb : env.builtins = builtinsNs := by kernel_rfl)
    (hk : env.scope.kind = .function := by kernel_rfl) (hx : env.kindOf x = some .globalImplicit := by kernel_rfl) (hd : (x == ("__debug__" : Str)) = false := by decide)
    (ht : backTo pos (starEach [e] env) = [(false, eval e env)] := by kernel_rfl) :
    wpC (model prog w) A (eval (.Call (.Name x p) [e] [] pos) env) Q E s := by
  refine c_CallB (id := id) (by rw [ht]; rfl) (r_bname B S hv ⟨rfl, ?_⟩ hfree hn hg hb hk hx hd)
  rw [ht]
  exact Calls.evalArgs_plain (Calls.spliced_cons (wpAny_mono h (fun _ _ h₁ => Calls.spliced_nil h₁) fun _ _ e => e))
theorem sub_val_key : isSubtype (.type "ValueError") (.type "KeyError") = pure false := by kernel_rfl
theorem key_base : isSubtype (.type "KeyError") (.type "BaseException") = pure true := by kernel_rfl

theorem tryBad_int {x : Str} {u : Tok} (B : Bs b mg mb names) (hint : ("int" : Str) ∉ names) (hke : ("KeyError" : Str) ∉ names) (hl : x.length ≤ 640) (hn : PySem.intText? x = none) (hz : (reprText x).length ≤ sizeLine) (hm : (msgI x).length ≤ sizeLine) :
    TryBadC prog w b (.str x u) "ValueError" (msgI x) := by
  intro A E s L G Q C f cd outer fl hh hfr hf S hC hw h
  conv in rTry => whnf
  refine c_Try ?_
  refine c_seq ?_
  refine c_Assign ?_ (by kernel_rfl)
  refine c_Subscript ?_
  with_reducible refine rg_dict B S ?_
  intro d s₁ S₁ hds
  refine c_callT1 (T := "int") B S₁ boot_int ?_ (hfree := hint)
  refine r_name S₁ (.tail _ hC) hw fun v hv => ?_
  cases hv
  refine c_intBad hh S₁ hl hn hz hm fun e t u s' S' => ?_
  have S2 : St b s' (excN e t "ValueError" [.str (msgI x) u] ++ L) G := S'.sub (.cons_cons _ (.cons_cons _ (.cons _ (.refl _))))
  refine r_noteX0 S2 hfr hf fun T s₂ S₂ => ?_
  refine r_flightX (fr := none) S₂ fun s₃ S₃ => ?_
  refine wpAny_handleBy_builtin (X := "ValueError") (T := "KeyError") (b := false) key_base key_nt sub_val_key ?_
  refine r_bname B S₃ (v := .type "KeyError") (by decide +kernel) ?_ hke
  refine ⟨rfl, S₃.excType, ?_⟩
  rw [if_neg Bool.false_ne_true]
  refine wpAny_handleBy_nil ?_
  unfold PySem.passOn
  obtain ⟨oe, hoe, vs, hc, hed, hv0, hv1, cx, hv2, hK⟩ := S₃.get (.head _)
  refine wpAny_bind (wpAny_field hoe hed (x := .ref T) hv1 ?_)
  rw [if_neg (show ¬ ((Value.ref T == Value.none) = true) from by simp)]
  refine wpAny_bind (r_flightX (fr := some C) S₃ fun s₄ S₄ => ?_)
  exact wpAny_throw (h e t T u s₄ S₄)
end
end Mine

-- part C6
open PySem PySem.W PySem.W.X PyProof.Rows PySem.Calls PySem.Spec PySem.SeqAt
set_option Elab.async false
set_option maxRecDepth 100000
set_option maxHeartbeats 400000
set_option linter.all false
namespace Mine
section
variable {prog : Program} {w : World} {A : Around} {E : Value → Shared → Prop} {b s : Shared} {L L' : Ledger} {G : GLedger} {mg mb : Str → Option Value} {names : List Str} {outer : List Env} {env : Env} {P : End → Shared → Prop}
/-- a generator's stretch, woken under the caller -/
def SegC (M : Model) (A : Around) (c : Code) (t : Sem Fin) (fs : List Frame) (s : Shared) (P : End → Shared → Prop) : Prop :=
  ∀ (Γ : PySem.Ctx) p, Γ.code = c → Γ.Woken A → HasB Γ → ∃ e s', Runs M Γ p t fs s e s' ∧ e.quiet = true ∧ P e s'
theorem SegC.mono {M : Model} {A : Around} {c : Code} {t : Sem Fin} {fs : List Frame} {s : Shared} {P P' : End → Shared → Prop} (x : SegC M A c t fs s P) (h : ∀ e s', P e s' → P' e s') : SegC M A c t fs s P' := fun Γ p hc hΓ hB => by
  obtain ⟨e, s', hr, hq, hp⟩ := x Γ p hc hΓ hB
  exact ⟨e, s', hr, hq, h e s' hp⟩
/-- a part that is bound to raise -/
theorem sc_wrap {α : Type} {c : Code} {m : Sem α} {K : α → Sem Fin} {H : Value → Sem Fin} {gd lv}
    (h : wpC (model prog w) (A.over c []) m (fun a s' => SegC (model prog w) A c (K a) [] s' P) (fun x s' => SegX (model prog w) A c (H x) [] s' P) s) :
    SegC (model prog w) A c (m.wrap K H gd lv) [] s P := by
  rintro Γ p rfl hΓ hB
  have hC : HasC (Γ.over []) := hB.c
  obtain ⟨e, s', hr, hq⟩ := runs_wrap_of_wp (Φ := fun e s' => e.quiet = true ∧ P e s') K H gd lv m (h (Γ.over []) p (hΓ.over []) hC) (fun a p' s' h' => h' Γ p' rfl hΓ hB) (fun x p' s' h' => h' Γ p' rfl hΓ)
  exact ⟨e, s', hr, hq⟩
theorem sc_func {body : List Stmt}
    (h : SegC (model prog w) A (.func body env) ((execs body env).wrap (fun f => .pure (.done (.ret (match f with | .ret v => v | _ => .none)))) (fun e => rLeave env e) id id) [] s P) :
    SegC (model prog w) A (.func body env) (denote table (.func body env)) [] s P := by
  show SegC _ A _ (Sem.wrap (fun _ => ((execs body env).onRaise (leaving env)) >>= _) .raise id (fun _ => []) point) [] s P
  refine sc_wrap (wpC_of (wpAny_point ?_))
  rw [Sem.onRaise_eq_wrap, Sem.bind_eq_wrap', Sem.wrap_wrap]
  rw [Sem.wrap_congr (execs body env) _ _ (K' := fun f => .pure (.done (.ret (match f with | .ret v => v | _ => .none))))
    (H' := fun e => (leaving env e).wrap (fun _ => .raise e) .raise id id) (fun f => by cases f <;> rfl)
    (fun e => by rw [Sem.bind_eq_wrap, Sem.wrap_wrap]; rfl)]
  exact h
theorem sc_startX
    (h : wpC (model prog w) (A.over (.func rBody env) []) (exec rTry env) (fun _ _ => False)
        (fun x s₁ => SegX (model prog w) A (.func rBody env) (rLeave env x) [] s₁ P) s) :
    SegC (model prog w) A (.func rBody env) (denote table (.func rBody env)) [] s P := by
  refine sc_func ?_
  have hb : execs rBody env = execs [rTry, rAsg, rForS] env := congrArg (fun l => execs l env) rBody_eq
  rw [hb]
  have e1 : ∀ rest (K : Flow → Sem Fin) (H : Value → Sem Fin) gd lv, (execs (rTry :: rest) env).wrap K H gd lv = (exec rTry env).wrap (fun f => match f with | .next => (execs rest env).wrap K H gd lv | f => K f) H gd lv := fun rest K H gd lv => execs_cons_wrap rTry rest
  rw [e1]
  clear e1
  generalize exec rTry env = T1 at h ⊢
  exact sc_wrap (wpC_mono h (fun _ _ x => x.elim) fun _ _ x => x)
theorem sc_bad {C f a : Addr} {cd v1 v2 : Value} {cls : String} {txt : Str} (hT : TryBadC prog w b v2 cls txt) (hh : A.handled = none) (hfr : A.frames = some outer) (hf : FmsOk outer L) (hC : (C, frC (fl0 v1 v2)) ∈ L) (S : St b s L G)
    (h : ∀ e t T u s', St b s' (excL e t T cls [.str txt u] .none ++ L) G → P (.ret (.error (.ref e))) s') :
    SegC (model prog w) A (.func rBody (rEnv C f cd)) (denote table (.func rBody (rEnv C f cd))) [] s P := by
  have hf' : FmsOk (rEnv C f cd :: outer) L := fun env he => by
    rcases List.mem_cons.mp he with rfl | he
    · exact ⟨rKindE, rfl, _, hC⟩
    · exact hf env he
  refine sc_startX ?_
  unfold TryBadC at hT
  have hfr' : (A.over (.func rBody (rEnv C f cd)) []).frames = some (rEnv C f cd :: outer) := by
    show pushEnvs [rEnv C f cd] (pushEnvs [] A.frames) = _
    rw [hfr]; rfl
  have hh' : (A.over (.func rBody (rEnv C f cd)) []).handled = none := hh
  have hw : (("which" : Str), vE v2) ∈ fl0 v1 v2 := .tail _ (.head _)
  with_reducible refine hT _ _ _ _ _ _ C f cd outer _ hh' hfr' hf' S hC hw ?_
  intro e t T u s' S'
  exact sx_leave hf' S' fun s₂ S₂ => h e t T u s₂ S₂
end
end Mine

-- part C7
open PySem PySem.W PySem.W.X PyProof.Rows PySem.Calls PySem.Spec PySem.SeqAt
set_option Elab.async false
set_option maxRecDepth 100000
set_option maxHeartbeats 400000
set_option linter.all false
namespace Mine
section
variable {prog : Program} {w : World} {A : Around} {E : Value → Shared → Prop} {b s : Shared} {L L' : Ledger} {G : GLedger} {mg mb : Str → Option Value} {names : List Str} {outer : List Env} {env : Env} {P : End → Shared → Prop}
/-- a fresh generator, woken under the caller, that raises -/
theorem c_wakeX {a : Addr} {g : Nat} {c₀ : Code} {Q : Fin → Shared → Prop} (hl : s.heap.NoLimit) (hroom : A.depth < recursionLimit) (hg : s.heap.IsGen a g) (hgs : s.gens[g]? = some (.fresh c₀))
    (hgo : SegC (model prog w) A c₀ (denote table c₀) [] (s.setGen g .running) (fun e s₁ => ∃ x, e.result = .raised x ∧ wpAny (model prog w) A (Builtin.Generator.genLeft (.ref a) x) Q E (s₁.setGen g e.genState))) :
    wpC (model prog w) A (Builtin.Generator.genWake (.ref a) (.send .none)) Q E s := by
  unfold Builtin.Generator.genWake
  refine wpC_then (wpAny_holding (wpAny_genNumber hg (wpC_then (wpAny_genState hgs ?_))))
  have e0 : (GenState.fresh c₀).status = .fresh := rfl
  rw [e0]
  refine wpC_then (wpAny_roomToWake hl hroom ?_)
  show wpC (model prog w) A (.resume g (.send .none) [] _) Q E s
  intro Γ p hΓ hC
  rw [Sem.wp_resume]
  obtain ⟨e₁, s₁, hr, hqt, x, hx, he⟩ := hgo (Γ.wake c₀ p) p rfl (hΓ.wake c₀ p) hC
  refine ⟨_, _, by unfold Wakes; rw [hgs]; exact ⟨e₁, s₁, hr, hqt, rfl, rfl⟩, ?_⟩
  rw [hx]
  exact he Γ p hΓ
theorem c_nextB {it : Value} {T id : String} {Q : Value → Shared → Prop} (hT : s.TypeIs it T) (hs : Slot T (Str.ofString "__next__") id) (h : wpC (model prog w) A.in1 (callSpecial? it (Str.ofString "__next__")) (fun _ _ => False) E s) :
    wpC (model prog w) A (call (.builtin "next") [it]) Q E s := by
  refine c_function (by decide +kernel) (by decide +kernel) kdk_entry_next (kdk_args_next _) ?_
  unfold Builtin.«next»
  refine wpC_then (m := someArgs "next" 1 2 _) (wpAny_of_eq (a := [it]) (by first | rfl | kernel_rfl!) ?_)
  dsimp only
  refine wpC_then (wpAny_specialOf (name := Str.ofString "__next__") hT hs.lookup ?_)
  refine wpC_iteF (by simp) ?_
  exact wpC_first (wpC_mono h (fun r s' h' => h'.elim) fun _ _ x => x)
/-- the first row of a reader that refuses its wish, under the caller -/
theorem c_dnext_bad {a C f : Addr} {g : Nat} {cd v1 v2 : Value} {cls : String} {txt : Str} {Q : Option Value → Shared → Prop} {F : Ledger} {GF : GLedger} (B : Bs b mg mb names) (hT : TryBadC prog w b v2 cls txt) (hs : isSubtype (.type cls) (.type "StopIteration") = pure false)
    (hA : Ar A 1) (hfr : A.frames = some outer) (hf : FmsOk outer F)
    (S : St b s ((a, genC g) :: (C, frC (fl0 v1 v2)) :: F) ((g, IsFresh (rEnv C f cd)) :: GF))
    (h : ∀ e t T u s', St b s' (excL e t T cls [.str txt u] .none ++ ((a, genC g) :: F)) ((g, IsFin) :: GF) → E (.ref e) s') :
    wpC (model prog w) A (callSpecial? (.ref a) (Str.ofString "__next__")) Q E s := by
  obtain ⟨gs, hgs, hfresh⟩ := S.gens _ (.head _)
  have hroom : A.depth < recursionLimit := by have := hA.depth; omega
  cases hfresh
  have hg := S.isGen (.head _)
  refine c_callSpecial (name := Str.ofString "__next__") hg.typeIs slot_gen_next (c_entry slot_gen_next hg.typeIs entry_gen_next ?_ (args_gen_next _))
  show wpC _ A.in1 (Builtin.Generator.genWake (.ref a) (.send .none)) _ _ s
  have S0 := S.setGen (P' := IsRun) (gs := .running) .head rfl rfl
  have hf0 : FmsOk outer ((a, genC g) :: (C, frC (fl0 v1 v2)) :: F) := hf.sub fun a fl h => ⟨fl, .tail _ (.tail _ h)⟩
  have hfr1 : A.in1.frames = some outer := hfr
  have hh1 : A.in1.handled = none := hA.handled
  have hC0 : (C, frC (fl0 v1 v2)) ∈ ((a, genC g) :: (C, frC (fl0 v1 v2)) :: F) := .tail _ (.head _)
  have key : SegC (model prog w) A.in1 (.func rBody (rEnv C f cd)) (denote table (.func rBody (rEnv C f cd))) [] (s.setGen g .running)
      (fun e s₁ => ∃ e0 t T u, e = .ret (.error (.ref e0)) ∧ St b s₁ (excL e0 t T cls [.str txt u] .none ++ ((a, genC g) :: (C, frC (fl0 v1 v2)) :: F)) ((g, IsRun) :: GF)) := by
    with_reducible refine sc_bad (a := a) (v1 := v1) (v2 := v2) hT hh1 hfr1 hf0 hC0 S0 ?_
    intro e t T u s' S'
    exact ⟨e, t, T, u, rfl, S'⟩
  refine c_wakeX (B.nolimit.keeps S.keep) hroom hg hgs (key.mono ?_)
  rintro _ s' ⟨e, t, T, u, rfl, S'⟩
  refine ⟨.ref e, rfl, ?_⟩
  obtain ⟨o, nm, qn, ho, hc, hd, hsl⟩ := S'.isGen (.tail _ (.tail _ (.tail _ (.head _))))
  have hTy : (s'.setGen g .finished).TypeIs (.ref e) cls := S'.excType
  unfold Builtin.Generator.genLeft Builtin.Generator.madeByALambda
  refine wpAny_bind (wpAny_bind (wpAny_load (o := o) ho ?_))
  rw [hc, hd]
  refine wpAny_pure (wpAny_bind (wpAny_isInstance (T := cls) (b := false) hTy hs ?_))
  rw [if_neg (by rw [Bool.and_false]; exact Bool.false_ne_true)]
  show wpAny _ A.in1 (Builtin.Generator.genEscaped (.ref e)) _ _ _
  unfold Builtin.Generator.genEscaped
  refine wpAny_bind (wpAny_isInstance (T := cls) (b := false) hTy hs ?_)
  refine wpAny_throw ?_
  have S2 := S'.setGen (P' := IsFin) (gs := .finished) .head rfl rfl
  refine h e t T u _ (S2.sub ?_)
  exact .cons_cons _ (.cons_cons _ (.cons_cons _ (.cons_cons _ (.cons _ (.refl _)))))
end
end Mine

-- part C8
open PySem PySem.W PySem.W.X PyProof.Rows PySem.Calls PySem.Spec PySem.SeqAt
set_option Elab.async false
set_option maxRecDepth 100000
set_option maxHeartbeats 400000
set_option linter.all false
namespace Mine
section
variable {prog : Program} {w : World} {A : Around} {E : Value → Shared → Prop} {b s : Shared} {L L' : Ledger} {G : GLedger} {mg mb : Str → Option Value} {names : List Str} {outer : List Env} {env : Env} {P : End → Shared → Prop}
/-- a def called, under the caller -/
theorem c_callDef {f : Addr} {name : Str} {params : Arguments} {body : List Stmt} {scope : Scope} {cd : Value} {vs : List Value} {Q : Value → Shared → Prop} (binds : List (Str × Value)) (B : Bs b mg mb names) (F : FnAt b mg f name params body scope cd) (S : St b s L G) (hroom : A.depth < recursionLimit)
    (hbind : ∀ pm doc, bindArgs (docDef name params body scope pm cd doc) ⟨vs, []⟩ = pure binds)
    (hloc : ∀ p ∈ binds, scope.names.lookup p.1 = some .local) (hlk : ∀ p ∈ binds, binds.reverse.lookup p.1 = some p.2)
    (h : ∀ C s', St b s' ((C, frC (vals binds)) :: L) G → wpC (model prog w) (A.deeper (envOf name scope C f cd)) (execs body (envOf name scope C f cd)) (fun fl s'' => Q (match fl with | .ret v => v | _ => .none) s'') NoE s')
    (hco : scope.isCoroutine = false) (hgen : scope.isGenerator = false) (hk : scope.kind = .function) (hcell : ∀ y ∈ scope.names, y.2 ≠ .cell) :
    wpC (model prog w) A (call (.ref f) vs) Q E s := by
  obtain ⟨o, pm, doc, ho, hd⟩ := F.obj
  refine wpC_call (codeC_call_function hroom (S.keep _ _ ho) hd hco hgen rfl (F.code.keeps S.keep) ?_)
  rw [hbind]
  refine wpAny_pure (wpAny_newFunctionEnv (scope := scope) (binds := binds) hcell hloc (fun h' hn hsb => ?_) hk)
  have hlim : h'.NoLimit := (B.nolimit.keeps S.keep).fresh _ hsb
  refine ⟨hlim, ?_⟩
  have hkp : ∀ a o, s.heap.get? a = some o → h'.get? a = some o := fun a o e => hsb.extBut a o (Nat.ne_of_lt (Heap.lt_size e)) (Heap.get?_push_of_some _ e)
  obtain ⟨oC, hoC, hcC⟩ := frC_of (fl := vals binds) hn (fun p hp => by
    obtain ⟨q, hq, rfl⟩ := List.mem_map.mp hp
    exact ⟨q.2, hlk q hq, rfl⟩)
  have S1 : St b { s with heap := h', toks := s.toks + binds.length } ((s.heap.objs.size, frC (vals binds)) :: L) G := S.new (heap_get_size _) hkp hoC hcC
  show codeC _ _ (.func body (envOf name scope s.heap.objs.size f cd)) _ _
  refine codeC_func (wpC_mono (h _ _ S1) (fun fl s'' hq => hq) fun _ _ x => x.elim)
/-- a for, under the caller -/
theorem c_forj {target iter : Expr} {body : List Stmt} {pos : Pos} {Q : Flow → Shared → Prop} {Lr : Ledger} {d : Nat} {Ps : List VP} {L₁ F₀ X : Ledger} {G₁ G : GLedger} (J : List VP → Ledger → Prop) {v₀ : Value}
    (hiter : wpAny (model prog w) A (eval iter env) (fun v s₁ => v = v₀ ∧ St b s₁ (L₁ ++ (F₀ ++ X)) (G₁ ++ G)) NoE s)
    (src : GivesI prog w b Lr d v₀ Ps L₁ G₁) (room : Ar A d) (h0 : J [] F₀) (hR : ∀ pre F, J pre F → ∀ p ∈ Lr, p ∈ F ++ X)
    (turn : ∀ pre P r u F L₂ G₂ s, Ps = pre ++ P :: r → P u → J pre F → St b s (F ++ (L₂ ++ X)) (G₂ ++ G) →
      wpAny (model prog w) A (assign target env u) (fun _ s₂ => wpC (model prog w) A (execs body env) (Turn Q fun s₃ => ∃ F', J (pre ++ [P]) F' ∧ St b s₃ (F' ++ (L₂ ++ X)) (G₂ ++ G)) NoE s₂) NoE s)
    (done : ∀ F s, J Ps F → St b s (F ++ X) G → Q .next s)
    (hs : ∀ x, foldedSetIterable iter env x = pure x := by intro _; kernel_rfl) (ht : ∀ it v, letOwnedTupleGo target it v = pure () := by intro _ _; kernel_rfl) :
    wpC (model prog w) A (exec (.For target iter body [] pos) env) Q E s := by
  refine c_For (wpAny_mono hiter (fun v s₁ h₁ => ?_) fun _ _ x => x.elim) hs
  obtain ⟨rfl, S₁⟩ := h₁
  refine src A _ _ _ _ _ room (hR [] F₀ h0) S₁ fun it s₂ L₂ G₂ hg _ S₂ => ?_
  refine c_forLoop (fun n s => ∃ pre post F L₂ G₂, Ps = pre ++ post ∧ post.length = n ∧ J pre F ∧ Gives prog w b Lr d it post L₂ G₂ ∧ St b s (L₂ ++ (F ++ X)) (G₂ ++ G)) ?_ Ps.length ⟨[], Ps, F₀, L₂, G₂, rfl, rfl, h0, hg, S₂⟩ (ht it)
  rintro n s₃ ⟨pre, post, F, L₃, G₃, e, hn, hj, hg₃, S₃⟩
  refine hg₃.next room (hR pre F hj) S₃ (fun e' s₄ S₄ => ?_) (fun P r e' u s₄ L₄ G₄ hu hg₄ S₄ => ?_)
  · subst e'
    rw [List.append_nil] at e
    subst e
    exact done F s₄ hj S₄
  · subst e'
    refine wpAny_mono (turn pre P r u F L₄ G₄ s₄ e hu hj (S₄.perm (perm_swap3 F L₄ X))) (fun _ s₅ h₅ => ?_) fun _ _ x => x.elim
    refine wpC_mono h₅ (fun f s₆ h₆ => ?_) fun _ _ x => x.elim
    have nx : (∃ F', J (pre ++ [P]) F' ∧ St b s₆ (F' ++ (L₄ ++ X)) (G₄ ++ G)) → ∃ m, m < n ∧ ∃ pre post F L₂ G₂, Ps = pre ++ post ∧ post.length = m ∧ J pre F ∧ Gives prog w b Lr d it post L₂ G₂ ∧ St b s₆ (L₂ ++ (F ++ X)) (G₂ ++ G) := by
      rintro ⟨F', hj', S'⟩
      exact ⟨r.length, by simp only [List.length_cons] at hn; omega, pre ++ [P], r, F', L₄, G₄, by rw [e]; simp, rfl, hj', hg₄, S'.perm (perm_swap3 L₄ F' X)⟩
    cases f with
    | next => exact nx h₆
    | cont => exact nx h₆
    | brk => exact h₆
    | ret v => exact h₆
end
end Mine

-- part LI
open PySem PySem.W PySem.W.X PyProof.Rows PySem.Calls PySem.Spec PySem.SeqAt
set_option Elab.async false
set_option maxRecDepth 100000
set_option maxHeartbeats 1000000
set_option linter.all false
namespace Mine
section
variable {prog : Program} {w : World} {A : Around} {E : Value → Shared → Prop} {b s : Shared} {L L' : Ledger} {G : GLedger}
/-- list(..) of a list's iterator -/
theorem r_list_li {a l : Addr} {i : Nat} {Q : Value → Shared → Prop} (S : St b s L G) (ha : (a, itC l i) ∈ L)
    (J : Addr → Nat → List Value → Shared → Prop)
    (h0 : ∀ Sa s', St b s' ((Sa, lstV []) :: L) G → ∃ k, J Sa k [] s')
    (hnx : ∀ Sa k acc s, J Sa k acc s → wpAny (model prog w) A.in1.in1 (pyNext (.ref a)) (fun r s₁ => match r with
      | none => Q (.ref Sa) s₁
      | some v => ∃ L G L', St b s₁ L G ∧ (Sa, lstV acc) ∈ L ∧ Upd L Sa (lstV (acc ++ [v])) L' ∧ acc.length < sizeLine ∧ ∀ s₂, St b s₂ L' G → ∃ m, m < k ∧ J Sa m (acc ++ [v]) s₂) (fun e s₁ => E e s₁) s) :
    wpAny (model prog w) A (call (.type "list") [.ref a]) Q E s := by
  refine callType_codes (Q₁ := fun obj s₁ => obj = .ref s.heap.objs.size ∧ s₁ = { s with heap := s.heap.push { cls := .type "list", data := .seq #[] } }) F.called_list (F.typeCall_list_1 _) F.entry_list_init
    (code_list_new _ ⟨rfl, rfl⟩) fun obj s₁ h₁ => ?_
  obtain ⟨rfl, rfl⟩ := h₁
  have S0 : St b { s with heap := s.heap.push { cls := .type "list", data := .seq #[] } } ((s.heap.objs.size, lstV []) :: L) G := S.alloc ⟨0, rfl⟩
  generalize hsz : s.heap.objs.size = Sa at S0
  generalize hs0 : ({ s with heap := s.heap.push { cls := .type "list", data := .seq #[] } } : Shared) = s0 at S0
  obtain ⟨_, ho0, n0, rfl⟩ := S0.get (.head _)
  refine ⟨⟨_, ho0, rfl⟩, F.args_list_init_2 _ _, ?_⟩
  have hne : Sa ≠ a := by
    have := List.nodup_cons.mp S0.nodup
    exact fun e => this.1 (List.mem_map.mpr ⟨_, ha, e.symm⟩)
  show wpAny _ A.in1.in1 (do let old ← Builtin.List.listItems (.ref Sa); Builtin.List.listUpdate (.ref Sa) (fun _ => #[]); letGo old.toList.reverse; Builtin.List.listExtendWith (.ref Sa) (.ref a) .none) _ _ s0
  refine wpAny_bind ?_
  unfold Builtin.List.listItems
  refine wpAny_bind (wpAny_seqItems ho0 rfl (wpAny_pure ?_))
  show wpAny _ A.in1.in1 (updateSeq Sa (fun _ => #[]) >>= fun _ => letGo (([] : List Value).toArray).toList.reverse >>= fun _ => Builtin.List.listExtendWith (.ref Sa) (.ref a) .none) _ _ s0
  refine wpAny_bind (wpAny_updateSeq ho0 rfl ?_ (by simp) (by simp))
  have S1 := S0.set (P' := lstV []) .head ⟨_, .head _⟩ (Heap.SameBut.update s0.heap Sa (Obj.mapSeq fun _ => #[])).extBut (Heap.get?_update_self _ ho0 rfl) ⟨_, rfl⟩
  generalize hs1 : ({ s0 with heap := s0.heap.update Sa (Obj.mapSeq fun _ => #[]), toks := s0.toks } : Shared) = s1 at S1
  refine wpAny_bind (wpAny_letGo ?_)
  unfold Builtin.List.listExtendWith
  obtain ⟨oi, hoi, hic, hid⟩ := S1.get (.tail _ ha)
  have hT : s1.TypeIs (.ref a) "list_iterator" := ⟨oi, hoi, hic⟩
  refine wpAny_bind (wpAny_typeOf hT ?_)
  have h1 : Builtin.List.listSameRef (.ref Sa) (.ref a) = false := by simp [Builtin.List.listSameRef, hne]
  rw [if_neg (by rw [h1]; decide)]
  refine wpAny_bind (r_iterIt hT ?_)
  refine wpAny_bind (wpAny_holding ?_)
  unfold Builtin.List.listLengthHint
  refine wpAny_bind (wpAny_specialOf hT F.nolen_li ?_)
  show wpAny _ A.in1.in1 (specialOf (Value.ref a) (Str.ofString "__length_hint__") >>= _) _ _ _
  refine wpAny_bind (wpAny_specialOf hT F.hint_li ?_)
  (generalize hid : ("list_iterator.__length_hint__" : String) = id0; (fail_if_success (clear hid id0)); wp_delta; rw [show splitId id0 = some ("list_iterator", "__length_hint__") from by subst hid; decide +kernel]; subst hid)
  refine wpAny_bind (wpAny_isInstance (b := true) hT (by rw [isSubtype_type]; kernel_rfl) ?_)
  refine wpAny_pure ?_
  rw [if_neg (by decide)]
  obtain ⟨k, hj⟩ := h0 Sa _ S1
  refine wpAny_pure ⟨plainId_quiet F.plain_extend_loop _, code_extend (b := b) (J Sa) ?_ k [] _ hj⟩
  intro k acc s hj
  refine wpAny_mono (hnx Sa k acc s hj) (fun r s₁ h₁ => ?_) fun _ _ x => x
  cases r with
  | none => exact ⟨rfl, h₁⟩
  | some v => exact h₁
/-- list(..) of a list's iterator: the texts that are left -/
theorem r_listIt {Lr F : Ledger} {d i : Nat} {GF : GLedger} {a l : Addr} {ys₀ : List Str} {Q : Value → Shared → Prop} (hLr : HasL b Lr l (ys₀.map vS)) (hA : Ar A d) (hF : ∀ p ∈ Lr, p ∈ F)
    (S : St b s ((a, itC l i) :: F) GF) (hz : ys₀.length ≤ sizeLine) (h : ∀ l s', St b s' ((l, lstS (ys₀.drop i)) :: F) GF → Q (.ref l) s') : wpAny (model prog w) A (call (.type "list") [.ref a]) Q E s := by
  have hg : Gives prog w b Lr d (.ref a) ((ys₀.drop i).map vS) [(a, itC l i)] [] := gives_iter hLr _ i (by rw [List.map_drop])
  have hz' : (ys₀.drop i).length ≤ sizeLine := by rw [List.length_drop]; omega
  generalize ys₀.drop i = ys at hg hz' h
  let J : Addr → Nat → List Value → Shared → Prop := fun Sa k acc s => ∃ pre post L₂ G₂, ys = pre ++ post ∧ post.length = k ∧ StrsAre acc pre ∧ Gives prog w b Lr d (.ref a) (post.map vS) L₂ G₂ ∧ St b s (L₂ ++ ((Sa, lstV acc) :: F)) (G₂ ++ GF)
  refine r_list_li S (.head _) J (fun Sa s' S' => ⟨ys.length, [], ys, _, _, rfl, rfl, .nil, hg, S'.perm (List.Perm.swap _ _ _)⟩) ?_
  rintro Sa k acc s₁ ⟨pre, post, L₂, G₂, e, hk, hs, hg₂, S₁⟩
  have hA2 : Ar A.in1.in1 d := hA.in1.in1
  refine hg₂.next (F := (Sa, lstV acc) :: F) hA2 (fun q hq => .tail _ (hF q hq)) S₁ (fun e' s₂ S₂ => ?_) (fun y r e' u s₂ L₃ G₃ hu hg₃ S₂ => ?_)
  · have e' : post = [] := List.map_eq_nil_iff.mp e'
    subst e'
    rw [List.append_nil] at e
    subst e
    exact h _ _ (S₂.less (.head _) .head fun o ho => let ⟨n, hn⟩ := ho; ⟨_, n, hn, by simpa using hs⟩)
  · obtain ⟨y, r, rfl, rfl, rfl⟩ := List.map_eq_cons_iff.mp e'
    obtain ⟨t, rfl⟩ := hu
    refine ⟨_, _, L₃ ++ ((Sa, lstV (acc ++ [.str y t])) :: F), S₂, List.mem_append_right _ (.head _), Upd.head.left _, ?_, fun s₃ S₃ => ?_⟩
    · rw [strsAre_len hs]
      have : ys.length = pre.length + (r.length + 1) := by rw [e]; simp
      omega
    · refine ⟨r.length, by simp only [List.length_cons] at hk; omega, pre ++ [y], r, L₃, G₃, by rw [e]; simp, rfl, hs.append' (.cons _ _ .nil), hg₃, S₃⟩
end
theorem sub_val_base : isSubtype (.type "ValueError") (.type "BaseException") = pure true := by kernel_rfl
theorem val_nt : isSubtype (.type ((Manifest.find? "ValueError").elim "type" fun x => x.metatype)) (.type "tuple") = pure false := by kernel_rfl
theorem sub_val_val : isSubtype (.type "ValueError") (.type "ValueError") = pure true := by kernel_rfl
theorem sub_ty_base : isSubtype (.type "TypeError") (.type "BaseException") = pure true := by kernel_rfl
theorem ty_nt : isSubtype (.type ((Manifest.find? "TypeError").elim "type" fun x => x.metatype)) (.type "tuple") = pure false := by kernel_rfl
theorem sub_ty_ty : isSubtype (.type "TypeError") (.type "TypeError") = pure true := by kernel_rfl
theorem sub_ty_val : isSubtype (.type "TypeError") (.type "ValueError") = pure false := by kernel_rfl
section
variable {prog : Program} {w : World} {A : Around} {E : Value → Shared → Prop} {b s : Shared} {L L' : Ledger} {G : GLedger}
theorem St.excAt {e t T : Addr} {cls : String} {args : List Value} {fl : Value} (S : St b s (excL e t T cls args fl ++ L) G) : s.heap.ExcAt e cls (.ref t) ∧ s.heap.TupAt t args := by
  obtain ⟨o, ho, vs, hc, hd, h0, _⟩ := S.get (.head _)
  obtain ⟨o', ho', n, rfl⟩ := S.get (a := t) (.tail _ (.tail _ (.head _)))
  exact ⟨⟨o, vs, ho, hc, hd, h0⟩, ⟨_, n, ho', rfl, rfl⟩⟩
/-- a name goes -/
theorem r_goes {env : Env} {x : Str} {pos : Pos} {fl fl' : List (Str × VP)} {L L' : Ledger} {Q : Unit → Shared → Prop} (S : St b s L G) (hf : (env.locals, frC fl) ∈ L) (hsub : ∀ p ∈ fl', p ∈ fl ∧ p.1 ≠ x) (hu : Upd L env.locals (frC fl') L') (h : ∀ s', St b s' L' G → Q () s')
    (hl : env.kindOf x = some .local := by kernel_rfl) (hp : (env.scope.kind == .class || (env.scope.kind == .module && env.locals != env.globals)) = false := by kernel_rfl) :
    wpAny (model prog w) A (do bindName env x .none; unbindBehindTheSuite env x pos) Q E s := by
  obtain ⟨o, ho, hc⟩ := S.get hf
  obtain ⟨m, hn, hm⟩ := frC_ns ho hc
  refine wpAny_nameGoes_keeps hl hn hp fun h' v hn' hsb => ?_
  obtain ⟨o', ho', hc'⟩ := frC_of (fl := fl') hn' (fun p hp => by
    obtain ⟨h1, h2⟩ := hsub p hp
    obtain ⟨u, e, hu⟩ := hm p h1
    exact ⟨u, by simp [h2, e], hu⟩)
  exact h _ (S.set hu ⟨_, hf⟩ hsb.extBut ho' hc' _)
/-- the number that a text stands for -/
theorem intTo_str {x : Str} {t : Tok} {n : Int} (hn : PySem.intText? x = some n) (hl : x.length ≤ 640) : IntTo prog w b (.str x t) n := fun _ _ _ _ _ _ _ S h => KIN.call_text hn hl (h _ _ (S.toks _))
/-- int's words, where nothing is cut -/
theorem msgI_eq {x : Str} (h : (reprText x).length ≤ 200) : msgI x = preI ++ reprText x := by
  unfold msgI
  congr 1
  refine str_ext ?_
  have : (reprText x).cps.extract 0 200 = (reprText x).cps := by
    rw [Array.extract_eq_self_of_le (show (reprText x).cps.size ≤ 200 from h)]
  rw [this]
end
end Mine

-- part P1a
open PySem PySem.W PySem.W.X PyProof.Rows PySem.Calls PySem.Spec PySem.SeqAt
set_option Elab.async false
set_option maxRecDepth 100000
set_option maxHeartbeats 1000000
set_option linter.all false
namespace Mine
local macro_rules | `(tactic| walk_at "mem") => `(tactic| first | assumption | exact List.Mem.head _ | (refine List.Mem.tail _ ?_; walk_at "mem") | (refine List.mem_append_right _ ?_; walk_at "mem"))
local macro_rules | `(tactic| walk_at "mn") => `(tactic| first | with_reducible exact List.mem_cons_self | ((with_reducible refine List.mem_cons_of_mem _ ?_); walk_at "mn"))
local macro_rules | `(tactic| walk_at "upd") => `(tactic| first | exact Upd.head | ((with_reducible apply Upd.tail); walk_at "upd"))
local macro_rules | `(tactic| walk_at "set") => `(tactic| first | with_reducible exact SetN.nil | ((with_reducible refine SetN.hit ?_); kernel_rfl) | ((with_reducible apply SetN.skip); kernel_rfl; walk_at "set"))
def pDef : Stmt := match PySem.Challenge.pw_dm0050_01.main.body with | _ :: _ :: _ :: d :: _ => d | _ => .Pass default
def pBody : List Stmt := match pDef with | .FunctionDef _ _ b .. => b | _ => []
def pScope : Scope := match pDef with | .FunctionDef _ _ _ _ _ _ sc .. => sc | _ => default
def pParams : Arguments := match pDef with | .FunctionDef _ a .. => a | _ => default
abbrev pEnv (C f : Addr) (cd : Value) : Env := envOf "_law_parts" pScope C f cd
def pAt (k : Nat) : Stmt := (pBody[k]?).getD (.Pass default)
theorem pBody_eq : pBody = [pAt 0, pAt 1, pAt 2, pAt 3, pAt 4, pAt 5, pAt 6] := rfl
def pLoop : List Stmt := match pAt 3 with | .For _ _ b .. => b | _ => []
def pLAt (k : Nat) : Stmt := (pLoop[k]?).getD (.Pass default)
theorem pLoop_eq : pLoop = [pLAt 0] := rfl
theorem rng1_size (m : Nat) : Builtin.Range.rangeSize 0 (m : Int) 1 = (m : Int) := by
  unfold Builtin.Range.rangeSize
  split <;> omega
theorem rng1_small {m : Nat} (h : m < 102) : Builtin.Range.small 0 (m : Int) 1 = true := by
  have : ∀ n : Fin 102, Builtin.Range.small 0 ((n : Nat) : Int) 1 = true := by decide +kernel
  exact this ⟨m, h⟩
theorem rng_at {m : Nat} {pre : List VP} {P : VP} {r : List VP} (e : (rngI 0 1 m).map vI = pre ++ P :: r) : P = vI (pre.length : Nat) ∧ pre.length < m := by
  have h1 := congrArg (·[pre.length]?) e
  have h2 := congrArg List.length e
  simp only [List.length_map, List.length_append, List.length_cons] at h2
  have h3 : (rngI 0 1 m).length = m := by unfold rngI; simp
  have hlt : pre.length < m := by omega
  refine ⟨?_, hlt⟩
  simp only [List.getElem?_map] at h1
  rw [List.getElem?_append_right (Nat.le_refl _), Nat.sub_self] at h1
  unfold rngI at h1
  rw [List.getElem?_map, List.getElem?_range hlt] at h1
  simp at h1
  rw [← h1]
/-- the three parts of a row -/
def PartOk (f s r : Str) : Prop := Good 1 f ∧ Good 1 s ∧ Good 3 r ∧ ((f.length = 1 ∧ s.length = 1) ∨ (s = "" ∧ r = ""))
theorem sgn_good {x : Str} {i c : Nat} (hx : PyData.strOk x = true) (h : x.cps[i]? = some c) : Good 1 ⟨#[c]⟩ := by
  refine ⟨Nat.le_refl _, ?_⟩
  unfold PyData.strOk at hx ⊢
  rw [← Array.all_toList] at hx ⊢
  rw [List.all_eq_true] at hx ⊢
  intro d hd
  obtain rfl : d = c := by simpa using hd
  refine hx d ?_
  rw [Array.mem_toList_iff]
  exact Array.mem_of_getElem? h
theorem sgn_at {x : Str} {k : Int} (h0 : 0 ≤ k) (h1 : k < x.length) : ∃ c, x.cps[k.toNat]? = some c := by
  have : k.toNat < x.cps.size := by
    have : x.length = x.cps.size := rfl
    omega
  exact ⟨_, Array.getElem?_eq_getElem this⟩
section
variable {prog : Program} {w : World} {A : Around} {E : Value → Shared → Prop} {b s : Shared} {L : Ledger} {G : GLedger} {mg mb : Str → Option Value} {names : List Str}
theorem r_iaddS {Q : Value → Shared → Prop} {x y : Str} {t u : Tok} (S : St b s L G) (hz : x.length + y.length ≤ sizeLine) (h : ∀ t s', St b s' L G → Q (.str (x ++ y) t) s') : wpAny (model prog w) A (inplaceOp .Add (.str x t) (.str y u)) Q E s :=
  PyProof.Rows.iadd_str (fun t' tk => h t' _ (S.toks tk)) hz
theorem p_turn {C f : Addr} {cd : Value} {x : Int} {k : Nat} {z r f1 f2 : Str} {Q : Flow → Shared → Prop} (hp : ∀ s : Shared, (∀ a o, b.heap.get? a = some o → s.heap.get? a = some o) → PylongRoom (model prog w) A s) (hk : k < 3) (hr : Good k r)
    (S : St b s ((C, frC [(("x" : Str), vI x), (("first" : Str), vS f1), (("second" : Str), vS f2), (("rest" : Str), vS r), (("k" : Str), vI (k : Nat))]) :: L) G)
    (h : ∀ r' s', Good (k + 1) r' → St b s' ((C, frC [(("x" : Str), vI x), (("first" : Str), vS f1), (("second" : Str), vS f2), (("rest" : Str), vS r')]) :: L) G → Q .next s') :
    wpAny (model prog w) A (execs pLoop (pEnv C f cd)) Q NoE s := by
  have h9 : sizeLine = 16777216 := by decide
  rw [pLoop_eq]
  refine r_seq ?_
  conv in pLAt 0 => whnf
  refine wpAny_AugAssign_Name ?_
  refine r_load S (by walk_at "mem") (by walk_at "mn") fun v hv => ?_
  obtain ⟨t₁, rfl⟩ := hv
  refine Subscript_ ?_
  refine r_str S fun t₂ s₁ S₁ => ?_
  refine wpAny_BinOp ?_
  refine wpAny_BinOp ?_
  refine wpAny_BinOp ?_
  refine r_nameI S₁ (by walk_at "mem") (by walk_at "mn") fun t₃ => ?_
  refine r_int S₁ fun t₄ s₂ S₂ => ?_
  refine r_fdiv S₂ (by decide) (hp _ S₂.keep) fun t₅ s₃ S₃ => ?_
  refine wpAny_BinOp ?_
  refine r_int S₃ fun t₆ s₄ S₄ => ?_
  refine r_nameI S₄ (by walk_at "mem") (by walk_at "mn") fun t₇ => ?_
  refine r_pow S₄ (by omega) (by omega) (by decide) fun t₈ s₅ S₅ => ?_
  refine r_fdiv S₅ (Int.ne_of_gt (Int.pow_pos (by decide))) (hp _ S₅.keep) fun t₉ s₆ S₆ => ?_
  refine r_int S₆ fun t₁₀ s₇ S₇ => ?_
  refine r_mod S₇ (by decide) fun t₁₁ s₈ S₈ => ?_
  obtain ⟨i0, i1⟩ := fmod_range ((x.fdiv 168).fdiv (5 ^ (k : Int).toNat)) (m := 5) (by decide)
  generalize ((x.fdiv 168).fdiv (5 ^ (k : Int).toNat)).fmod 5 = i at i0 i1
  obtain ⟨c, hc⟩ := sgn_at (x := " -\na+") i0 i1
  refine r_itemStr (c := c) S₈ i0 (by omega) hc fun t₁₂ s₉ S₉ => ?_
  have hg := sgn_good (x := " -\na+") (by decide +kernel) hc
  have hr1 := hr.1
  have hg1 := hg.1
  refine r_iaddS S₉ (by omega) fun t₁₃ s₁₀ S₁₀ => ?_
  refine r_store (P := vS (r ++ ⟨#[c]⟩)) S₁₀ (by walk_at "mem") ⟨_, rfl⟩ (by walk_at "set") (by walk_at "upd") fun s₁₁ S₁₁ => ?_
  refine then_next (wpAny_execs_nil ?_)
  refine h _ s₁₁ (good_app hr hg) (S₁₁.less (.head _) .head fun o ho => frC_sub (fun q hq => by
    simp only [List.mem_cons, List.not_mem_nil, or_false] at hq
    rcases hq with rfl | rfl | rfl | rfl <;> simp) ho)
abbrev flP1 (x : Int) (f1 f2 r : Str) : List (Str × VP) := [(("x" : Str), vI x), (("first" : Str), vS f1), (("second" : Str), vS f2), (("rest" : Str), vS r)]
/-- the rest, sign by sign -/
theorem p_loop {C f : Addr} {cd : Value} {x : Int} {f1 f2 : Str} {Q : Flow → Shared → Prop} (B : Bs b mg mb names) (hrg : ("range" : Str) ∉ names) (hA : Ar A 0) (hp : ∀ s : Shared, (∀ a o, b.heap.get? a = some o → s.heap.get? a = some o) → PylongRoom (model prog w) A s)
    (S : St b s ((C, frC (flP1 x f1 f2 "")) :: L) G)
    (h : ∀ r s', Good 3 r → St b s' ((C, frC (flP1 x f1 f2 r)) :: L) G → Q .next s') :
    wpAny (model prog w) A (exec (pAt 3) (pEnv C f cd)) Q NoE s := by
  conv in pAt 3 => whnf
  refine r_forj (b := b) ?_
  refine r_callT1 (T := "range") B S (by decide +kernel) ?_ (hfree := hrg)
  refine wpAny_BinOp ?_
  refine wpAny_BinOp ?_
  refine r_nameI S (by walk_at "mem") (by walk_at "mn") fun t₁ => ?_
  refine r_int S fun t₂ s₁ S₁ => ?_
  refine r_fdiv S₁ (by decide) (hp _ S₁.keep) fun t₃ s₂ S₂ => ?_
  refine r_int S₂ fun t₄ s₃ S₃ => ?_
  refine r_mod S₃ (by decide) fun t₅ s₄ S₄ => ?_
  obtain ⟨i0, i1⟩ := fmod_range (x.fdiv 42) (m := 4) (by decide)
  obtain ⟨m, hm, em⟩ : ∃ m : Nat, m < 4 ∧ (x.fdiv 42).fmod 4 = (m : Int) := ⟨((x.fdiv 42).fmod 4).toNat, by omega, by omega⟩
  rw [em]
  refine r_range1 S₄ fun rg s₅ S₅ => ?_
  refine ⟨[(rg, rngC 0 (m : Int) 1)], 0, (rngI 0 1 m).map vI, [], [(C, frC (flP1 x f1 f2 ""))], (rg, rngC 0 (m : Int) 1) :: L, [], G,
    fun pre F => ∃ r, F = [(C, frC (flP1 x f1 f2 r))] ∧ Good pre.length r,
    givesI_rng (.head _) (rng1_small (by omega)) (rng1_size _), hA, S₅.perm (List.Perm.swap _ _ _), ⟨"", rfl, by unfold Good; decide +kernel⟩, ?_, ?_, ?_⟩
  · rintro pre F ⟨r, rfl, _⟩ p hp
    rw [List.mem_singleton] at hp
    subst hp
    exact .tail _ (.head _)
  · rintro pre P r u F L₂ G₂ s e hu' ⟨z, rfl, hz⟩ S
    obtain ⟨rfl, hlt⟩ := rng_at e
    replace S : St b s ((C, frC (flP1 x f1 f2 z)) :: (L₂ ++ (rg, rngC 0 (m : Int) 1) :: L)) (G₂ ++ G) := S
    refine wpAny_assign_Name (r_store (P := vI (pre.length : Nat)) S (by walk_at "mem") hu' (by walk_at "set") (by walk_at "upd") fun s₁ S₁ => ?_)
    show wpAny _ _ (execs pLoop (pEnv C f cd)) _ _ _
    refine p_turn (z := z) hp (by omega) hz S₁ fun r' s' hr' S' => ?_
    refine turn_next ⟨_, ⟨r', rfl, by simpa using hr'⟩, S'⟩
  · rintro F s' ⟨r, rfl, hr⟩ S'
    have hl : ((rngI 0 1 m).map vI).length = m := by unfold rngI; simp
    rw [hl] at hr
    exact h r s' (hr.mono (by omega)) (S'.sub (.cons_cons _ (.cons _ (.refl _))))
/-- `_law_parts(x)` -/
theorem r_parts {f : Addr} {cd : Value} {x : Int} {t : Tok} {Q : Value → Shared → Prop} (B : Bs b mg mb names) (F : FnAt b mg f "_law_parts" pParams pBody pScope cd) (hrg : ("range" : Str) ∉ names) (hA : Ar A 1)
    (hp : ∀ C (s : Shared), (∀ a o, b.heap.get? a = some o → s.heap.get? a = some o) → PylongRoom (model prog w) (A.deeper (pEnv C f cd)) s)
    (S : St b s L G) (h : ∀ a f1 f2 r s', PartOk f1 f2 r → St b s' ((a, lstS [f1, f2, r]) :: L) G → Q (.ref a) s') : wpAny (model prog w) A (call (.ref f) [.int x t]) Q E s := by
  have h9 : sizeLine = 16777216 := by decide
  have hroom : A.depth < recursionLimit := by have := hA.depth; omega
  refine r_callDef [(("x" : Str), .int x t)] B F S hroom (fun pm doc => rfl) (locs rfl) (by intro p hp; rw [List.mem_singleton] at hp; subst hp; rfl) (fun C s₁ S₁ => ?_) rfl rfl rfl (by decide)
  have hA1 : Ar (A.deeper (pEnv C f cd)) 0 := ⟨hA.handled, by have := hA.depth; show A.depth + 1 + 0 < recursionLimit; omega⟩
  show wpAny _ (A.deeper (pEnv C f cd)) (execs pBody (pEnv C f cd)) _ _ _
  have hp1 := hp C
  generalize A.deeper (pEnv C f cd) = A' at hA1 hp1 ⊢
  replace S₁ : St b s₁ ((C, frC [(("x" : Str), vI x)]) :: L) G := S₁.less (.head _) .head fun o ho => by
    obtain ⟨es, ep, h1, h2, h3⟩ := ho
    refine ⟨es, ep, h1, h2, fun p hp => ?_⟩
    rw [List.mem_singleton] at hp
    subst hp
    obtain ⟨v, hv, e⟩ := h3 _ (.head _)
    exact ⟨v, hv, t, e⟩
  rw [pBody_eq]
  refine r_seq ?_
  conv in pAt 0 => whnf
  refine wpAny_Assign_Name ?_ (by kernel_rfl)
  refine Subscript_ ?_
  refine r_str S₁ fun t₂ s₂ S₂ => ?_
  refine wpAny_BinOp ?_
  refine r_nameI S₂ (by walk_at "mem") (by walk_at "mn") fun t₃ => ?_
  refine r_int S₂ fun t₄ s₃ S₃ => ?_
  refine r_mod S₃ (by decide) fun t₅ s₄ S₄ => ?_
  obtain ⟨i0, i1⟩ := fmod_range x (m := 6) (by decide)
  generalize x.fmod 6 = i at i0 i1
  obtain ⟨c, hc⟩ := sgn_at (x := " -+?x!") i0 i1
  refine r_itemStr (c := c) S₄ i0 (by omega) hc fun t₆ s₅ S₅ => ?_
  have g1 := sgn_good (x := " -+?x!") (by decide +kernel) hc
  have e1 : (⟨#[c]⟩ : Str).length = 1 := rfl
  generalize (⟨#[c]⟩ : Str) = f1 at g1 e1 S₅ ⊢
  clear hc i0 i1
  refine r_store (P := vS f1) S₅ (by walk_at "mem") ⟨_, rfl⟩ (by walk_at "set") (by walk_at "upd") fun s₆ S₆ => ?_
  refine then_next ?_
  refine r_seq ?_
  conv in pAt 1 => whnf
  refine wpAny_Assign_Name ?_ (by kernel_rfl)
  refine Subscript_ ?_
  refine r_str S₆ fun t₇ s₇ S₇ => ?_
  refine wpAny_BinOp ?_
  refine wpAny_BinOp ?_
  refine r_nameI S₇ (by walk_at "mem") (by walk_at "mn") fun t₈ => ?_
  refine r_int S₇ fun t₉ s₈ S₈ => ?_
  refine r_fdiv S₈ (by decide) (hp1 _ S₈.keep) fun t₁₀ s₉ S₉ => ?_
  refine r_int S₉ fun t₁₁ s₁₀ S₁₀ => ?_
  refine r_mod S₁₀ (by decide) fun t₁₂ s₁₁ S₁₁ => ?_
  obtain ⟨i0, i1⟩ := fmod_range (x.fdiv 6) (m := 7) (by decide)
  generalize (x.fdiv 6).fmod 7 = i at i0 i1
  obtain ⟨c, hc⟩ := sgn_at (x := "   -+?x") i0 i1
  refine r_itemStr (c := c) S₁₁ i0 (by omega) hc fun t₁₃ s₁₂ S₁₂ => ?_
  have g2 := sgn_good (x := "   -+?x") (by decide +kernel) hc
  have e2 : (⟨#[c]⟩ : Str).length = 1 := rfl
  generalize (⟨#[c]⟩ : Str) = f2 at g2 e2 S₁₂ ⊢
  clear hc i0 i1
  refine r_store (P := vS f2) S₁₂ (by walk_at "mem") ⟨_, rfl⟩ (by walk_at "set") (by walk_at "upd") fun s₁₃ S₁₃ => ?_
  refine then_next ?_
  refine r_seq ?_
  conv in pAt 2 => whnf
  refine wpAny_Assign_Name ?_ (by kernel_rfl)
  refine r_str S₁₃ fun t₁₄ s₁₄ S₁₄ => ?_
  refine r_store (P := vS "") S₁₄ (by walk_at "mem") ⟨_, rfl⟩ (by walk_at "set") (by walk_at "upd") fun s₁₅ S₁₅ => ?_
  refine then_next ?_
  refine r_seq ?_
  refine p_loop B hrg hA1 hp1 S₁₅ fun r s₁₆ hr S₁₆ => ?_
  refine then_next ?_
  have ge : Good 1 "" := by unfold Good; decide +kernel
  refine r_seq ?_
  conv in pAt 4 => whnf
  refine wpAny_If ?_
  refine wpAny_isTrue_Compare1 ?_ (by kernel_rfl)
  refine wpAny_BinOp ?_
  refine wpAny_BinOp ?_
  refine r_nameI S₁₆ (by walk_at "mem") (by walk_at "mn") fun t₁₇ => ?_
  refine r_int S₁₆ fun t₁₈ s₁₈ S₁₈ => ?_
  refine r_fdiv S₁₈ (by decide) (hp1 _ S₁₈.keep) fun t₁₉ s₁₉ S₁₉ => ?_
  refine r_int S₁₉ fun t₂₀ s₂₀ S₂₀ => ?_
  refine r_mod S₂₀ (by decide) fun t₂₁ s₂₁ S₂₁ => ?_
  refine r_int S₂₁ fun t₂₂ s₂₂ S₂₂ => ?_
  refine r_eqI ?_
  refine wpAny_truthy_bool ?_
  generalize (x.fdiv 168).fmod 16 = q
  by_cases h15 : q = 15
  · rw [if_pos (by simpa using h15)]
    refine r_seq ?_
    refine wpAny_Return_some ?_
    refine r_disp (b := b) ?_
    refine r_spl ?_
    refine r_nameS S₂₂ (by walk_at "mem") (by walk_at "mn") fun t₂₃ => ?_
    refine r_spl ?_
    refine r_str S₂₂ fun t₂₄ s₂₄ S₂₄ => ?_
    refine r_spl ?_
    refine r_str S₂₄ fun t₂₅ s₂₅ S₂₅ => ?_
    refine r_spl0 ?_
    refine ⟨by show 3 ≤ sizeLine; decide, lstS [f1, "", ""], _, _, S₂₅, lstS_mk (.cons _ _ (.cons _ _ (.cons _ _ .nil))), fun a s₂₆ S₂₆ => ?_⟩
    refine then_ret (then_ret ?_)
    exact h a _ _ _ _ ⟨g1, ge, ge.mono (by omega), .inr ⟨rfl, rfl⟩⟩ (S₂₆.sub (.cons_cons _ (.cons _ (.refl _))))
  rw [if_neg (by simpa using h15)]
  refine wpAny_execs_nil (then_next ?_)
  refine r_seq ?_
  conv in pAt 5 => whnf
  refine wpAny_If ?_
  refine wpAny_isTrue_Compare1 ?_ (by kernel_rfl)
  refine wpAny_BinOp ?_
  refine wpAny_BinOp ?_
  refine r_nameI S₂₂ (by walk_at "mem") (by walk_at "mn") fun t₁₇ => ?_
  refine r_int S₂₂ fun t₁₈ s₁₈ S₁₈ => ?_
  refine r_fdiv S₁₈ (by decide) (hp1 _ S₁₈.keep) fun t₁₉ s₁₉ S₁₉ => ?_
  refine r_int S₁₉ fun t₂₀ s₂₀ S₂₀ => ?_
  refine r_mod S₂₀ (by decide) fun t₂₁ s₂₁ S₂₁ => ?_
  refine r_int S₂₁ fun t₂₂ s₂₂ S₂₂ => ?_
  refine r_eqI ?_
  refine wpAny_truthy_bool ?_
  generalize (x.fdiv 168).fmod 16 = q
  by_cases h7 : q = 7
  · rw [if_pos (by simpa using h7)]
    refine r_seq ?_
    refine wpAny_Return_some ?_
    refine r_listS ["", "", ""] S₂₂ fun a s₂₆ S₂₆ => ?_
    refine then_ret (then_ret ?_)
    exact h a _ _ _ _ ⟨ge, ge, ge.mono (by omega), .inr ⟨rfl, rfl⟩⟩ (S₂₆.sub (.cons_cons _ (.cons _ (.refl _))))
  rw [if_neg (by simpa using h7)]
  refine wpAny_execs_nil (then_next ?_)
  refine r_seq ?_
  conv in pAt 6 => whnf
  refine wpAny_Return_some ?_
  refine r_disp (b := b) ?_
  refine r_spl ?_
  refine r_nameS S₂₂ (by walk_at "mem") (by walk_at "mn") fun t₂₃ => ?_
  refine r_spl ?_
  refine r_nameS S₂₂ (by walk_at "mem") (by walk_at "mn") fun t₂₄ => ?_
  refine r_spl ?_
  refine r_nameS S₂₂ (by walk_at "mem") (by walk_at "mn") fun t₂₅ => ?_
  refine r_spl0 ?_
  refine ⟨by show 3 ≤ sizeLine; decide, lstS [f1, f2, r], _, _, S₂₂, lstS_mk (.cons _ _ (.cons _ _ (.cons _ _ .nil))), fun a s₂₆ S₂₆ => ?_⟩
  refine then_ret ?_
  exact h a _ _ _ _ ⟨g1, g2, hr, .inl ⟨e1, e2⟩⟩ (S₂₆.sub (.cons_cons _ (.cons _ (.refl _))))
end
end Mine

-- part P1b
open PySem PySem.W PySem.W.X PyProof.Rows PySem.Calls PySem.Spec PySem.SeqAt
set_option Elab.async false
set_option maxRecDepth 100000
set_option maxHeartbeats 1000000
set_option linter.all false
namespace Mine
/-! the plain law of 01 -/
abbrev Prt := Str × Str × Str
def POk (p : Prt) : Prop := PartOk p.1 p.2.1 p.2.2
abbrev tri (p : Prt) : List Str := [p.1, p.2.1, p.2.2]
def rowOf (p : Prt) : Str := p.1 ++ p.2.1 ++ p.2.2
def sgnOf1 (n : Int) : Str := if n = 1 then "-" else "+"
def tell1 (n : Int) (p : Prt) : Bool := p.2.1 == " " && (p.1 == " " || p.1 == sgnOf1 n)
def tellS (n : Int) (ps : List Prt) : List Str := (ps.filter (tell1 n)).map (·.2.2)
theorem str_one {x : Str} (h : x.length = 1) : ∃ c, x = ⟨#[c]⟩ := by
  obtain ⟨cps⟩ := x
  have h' : cps.size = 1 := h
  refine ⟨cps[0], ?_⟩
  congr 1
  apply Array.ext
  · simpa using h'
  · intro i h1 h2
    have : i = 0 := by omega
    subst this
    rfl
theorem one_eq (c d : Nat) : ((⟨#[c]⟩ : Str) == ⟨#[d]⟩) = (c == d) := by
  by_cases h : c = d
  · subst h; simp
  · have : ¬ ((⟨#[c]⟩ : Str) = ⟨#[d]⟩) := fun e => h (by injection e with e; simpa using e)
    have h2 : (c == d) = false := by simpa using h
    rw [h2]
    simpa using this
theorem two_eq (c0 c1 d0 d1 : Nat) : ((⟨#[c0, c1]⟩ : Str) == ⟨#[d0, d1]⟩) = (c0 == d0 && c1 == d1) := by
  by_cases h : c0 = d0 ∧ c1 = d1
  · obtain ⟨rfl, rfl⟩ := h; simp
  · have : ¬ ((⟨#[c0, c1]⟩ : Str) = ⟨#[d0, d1]⟩) := fun e => h (by injection e with e; simpa using e)
    have h2 : (c0 == d0 && c1 == d1) = false := by
      rw [Bool.eq_false_iff]
      intro e
      simp only [Bool.and_eq_true, beq_iff_eq] at e
      exact h e
    rw [h2]
    simpa using this
theorem part_reads {n : Int} (hn : n = 1 ∨ n = 2) {p : Prt} (h : POk p) : keepS (tagOf n) (rowOf p) = tell1 n p ∧ (tell1 n p = true → cutS (rowOf p) = p.2.2) := by
  obtain ⟨f, s, r⟩ := p
  obtain ⟨g1, g2, g3, h⟩ := h
  dsimp only at g1 g2 g3 h
  have e0 : ("  " : Str) = ⟨#[32, 32]⟩ := by decide +kernel
  have e1 : (" " : Str) = ⟨#[32]⟩ := by decide +kernel
  obtain ⟨d, ed, es⟩ : ∃ d : Nat, tagOf n = ⟨#[d, 32]⟩ ∧ sgnOf1 n = ⟨#[d]⟩ := by
    rcases hn with rfl | rfl
    · exact ⟨45, by decide +kernel, by decide +kernel⟩
    · exact ⟨43, by decide +kernel, by decide +kernel⟩
  unfold tell1 rowOf keepS cutS
  dsimp only
  rw [ed, es, e0, e1, slice_pre, slice_suf]
  rcases h with ⟨h1, h2⟩ | ⟨h1, h2⟩
  · obtain ⟨a, rfl⟩ := str_one h1
    obtain ⟨c, rfl⟩ := str_one h2
    have e : ((⟨#[a]⟩ : Str) ++ ⟨#[c]⟩ ++ r).cps.toList = a :: c :: r.cps.toList := by
      show ((#[a] ++ #[c]) ++ r.cps).toList = _
      simp
    rw [e]
    constructor
    · show ([(⟨#[32, 32]⟩ : Str), ⟨#[d, 32]⟩].any fun x => x == ⟨#[a, c]⟩) = _
      simp only [List.any_cons, List.any_nil, Bool.or_false, two_eq, one_eq]
      rw [Bool.eq_iff_iff]
      simp only [Bool.or_eq_true, Bool.and_eq_true, beq_iff_eq]
      omega
    · intro _
      exact str_ext (by simp)
  · subst h1 h2
    have hs : ((⟨#[]⟩ : Str) == ⟨#[32]⟩) = false := by decide +kernel
    have e2 : ("" : Str) = ⟨#[]⟩ := by decide +kernel
    rw [e2, hs, Bool.false_and]
    refine ⟨?_, fun h => absurd h Bool.false_ne_true⟩
    have e : (f ++ (⟨#[]⟩ : Str) ++ ⟨#[]⟩).cps.toList = f.cps.toList := by
      show ((f.cps ++ #[]) ++ #[]).toList = _
      simp
    rw [e]
    have hl : f.cps.toList.length ≤ 1 := by
      have := g1.1
      rw [Array.length_toList]
      exact this
    match hf : f.cps.toList, hl with
    | [], _ => rfl
    | [a], _ =>
      show ([(⟨#[32, 32]⟩ : Str), ⟨#[d, 32]⟩].any fun x => x == ⟨#[a]⟩) = false
      simp
theorem tells {n : Int} (hn : n = 1 ∨ n = 2) : ∀ {ps : List Prt}, (∀ p ∈ ps, POk p) → readS n (ps.map rowOf) = tellS n ps
  | [], _ => rfl
  | p :: r, h => by
    have ih := tells hn (ps := r) fun q hq => h q (.tail _ hq)
    obtain ⟨h1, h2⟩ := part_reads hn (h p (.head _))
    unfold readS tellS at ih ⊢
    rw [List.map_cons, List.filter_cons, List.filter_cons, h1]
    cases ht : tell1 n p with
    | true =>
      rw [if_pos rfl, if_pos rfl, List.map_cons, List.map_cons, ih, h2 ht]
    | false =>
      rw [if_neg Bool.false_ne_true, if_neg Bool.false_ne_true, ih]
theorem row_good {p : Prt} (h : POk p) : Good 5 (rowOf p) := (good_app (good_app h.1 h.2.1) h.2.2.1).mono (by omega)
end Mine

-- part P1c
open PySem PySem.W PySem.W.X PyProof.Rows PySem.Calls PySem.Spec PySem.SeqAt
set_option Elab.async false
set_option maxRecDepth 100000
set_option maxHeartbeats 1000000
set_option linter.all false
namespace Mine
/-- a list's items are lists of the three parts -/
def Trs (Z : Ledger) (vs : List Value) (ps : List Prt) : Prop := vs.length = ps.length ∧ ∀ (i : Nat) (v : Value) (p : Prt), vs[i]? = some v → ps[i]? = some p → ∃ a, v = .ref a ∧ (a, lstS (tri p)) ∈ Z
theorem Trs.nil {Z : Ledger} : Trs Z [] [] := ⟨rfl, fun i v p h => by simp at h⟩
theorem Trs.more {Z Z' : Ledger} {vs : List Value} {ps : List Prt} (h : Trs Z vs ps) (hz : ∀ q ∈ Z, q ∈ Z') : Trs Z' vs ps := ⟨h.1, fun i v p h1 h2 => let ⟨a, e, m⟩ := h.2 i v p h1 h2; ⟨a, e, hz _ m⟩⟩
theorem Trs.app {Z : Ledger} {vs us : List Value} {ps qs : List Prt} (h : Trs Z vs ps) (h' : Trs Z us qs) : Trs Z (vs ++ us) (ps ++ qs) := by
  refine ⟨by simp [h.1, h'.1], fun i v p h1 h2 => ?_⟩
  by_cases hi : i < vs.length
  · rw [List.getElem?_append_left hi] at h1
    rw [List.getElem?_append_left (by rw [← h.1]; exact hi)] at h2
    exact h.2 i v p h1 h2
  · rw [List.getElem?_append_right (by omega)] at h1
    rw [List.getElem?_append_right (by rw [← h.1]; omega), ← h.1] at h2
    exact h'.2 _ v p h1 h2
theorem Trs.one {Z : Ledger} {a : Addr} {p : Prt} (h : (a, lstS (tri p)) ∈ Z) : Trs Z [.ref a] [p] := by
  refine ⟨rfl, fun i v q h1 h2 => ?_⟩
  match i, h1, h2 with
  | 0, h1, h2 =>
    simp only [List.getElem?_cons_zero, Option.some.injEq] at h1 h2
    subst h1 h2
    exact ⟨a, rfl, h⟩
  | i + 1, h1, h2 => simp at h1
theorem Trs.cons {Z : Ledger} {a : Addr} {p : Prt} {vs : List Value} {ps : List Prt} (h : (a, lstS (tri p)) ∈ Z) (h' : Trs Z vs ps) : Trs Z (.ref a :: vs) (p :: ps) := (Trs.one h).app h'
section
variable {prog : Program} {w : World} {A : Around} {E : Value → Shared → Prop} {b s : Shared} {L L' : Ledger} {G : GLedger} {env : Env} {mg mb : Str → Option Value} {names : List Str} {Q : Value → Shared → Prop}
/-- a cut of the script -/
theorem r_slcB {value : Expr} {lower upper : Option Expr} {p pos : Pos}
    (h : wpAny (model prog w) A (eval value env) (fun o s₁ => ∃ l, o = .ref l ∧ wpAny (model prog w) A (evalPart lower env) (fun vl s₂ => wpAny (model prog w) A (evalPart upper env) (fun vu s₃ =>
      ∃ lo hi vs ns L G, IsPart vl lo ∧ IsPart vu hi ∧ St b s₃ L G ∧ b.heap.IsList l vs.toArray ∧ IntsAre vs ns ∧ ns.length ≤ sizeLine ∧ ∀ a s', St b s' ((a, lstI (pick ns lo hi)) :: L) G → Q (.ref a) s') E s₂) E s₁) E s)
    (ht : ∀ o r, letTemporaryGo value o r = pure () := by intro _ _; kernel_rfl) :
    wpAny (model prog w) A (eval (.Subscript value (.Slice lower upper none p) pos) env) Q E s := by
  refine wpAny_Subscript_list_slice (wpAny_mono h (fun o s₁ h₁ => ?_) fun _ _ x => x) ht
  obtain ⟨l, rfl, h₁⟩ := h₁
  refine wpAny_mono h₁ (fun vl s₂ h₂ => wpAny_mono h₂ (fun vu s₃ h₃ => ?_) fun _ _ x => x) fun _ _ x => x
  obtain ⟨lo, hi, vs, ns, L, G, hlo, hhi, S, hl, hs, hz, hQ⟩ := h₃
  have hsz : vs.length = ns.length := hs.length
  refine ⟨l, vs.toArray, lo, hi, rfl, hl.at fun o e => S.keep _ _ e, by rw [List.size_toArray, hsz]; exact hz, hlo, hhi, ?_⟩
  have S₁ := S.push { cls := .type "slice", data := .fields #[vl, vu, .none] } s₃.toks
  have e : s₃.heap.objs.size + 1 = (s₃.heap.push { cls := .type "slice", data := .fields #[vl, vu, .none] }).objs.size := by rw [Heap.size_push]
  rw [e]
  refine hQ _ _ (S₁.alloc (o := { cls := .type "list", data := .seq (slicePick vs.toArray lo hi none) }) ⟨_, 0, rfl, ?_⟩)
  rw [kms_pick_eq]
  show IntsAre (kms_pick vs lo hi) (pick ns lo hi)
  unfold kms_pick pick
  rw [hsz]
  exact IntsAre.take (IntsAre.drop hs _) _
/-- an item of the script -/
theorem r_itemB {value slice : Expr} {l : Addr} {vs : List Value} {k : Int} {u : Tok} {v : Value} (S : St b s L G) (hl : b.heap.IsList l vs.toArray) (h0 : 0 ≤ k) (hz : k < 2 ^ 63) (hy : vs[k.toNat]? = some v) (h : Q v s)
    (hs : subscripted slice false (.ref l) (.int k u) = operate [.ref l, .int k u] (getItem (.ref l) (.int k u)) := by kernel_rfl) :
    wpAny (model prog w) A (subscriptTail value slice (.ref l) (.int k u)) Q E s := by
  have hv : s.heap.IsList l vs.toArray := hl.at fun o e => S.keep _ _ e
  exact tail_any hv.typeIs slot_list_getitem.lookup (wpAny_getItem_list hv h0 hz (by simpa using hy) h) hs
theorem depth_ints : ∀ ys : List Int, PyData.depthAll (ys.map PyData.int) ≤ 1
  | [] => by simp [PyData.depthAll]
  | _ :: r => by
    simp only [List.map_cons, PyData.depthAll, PyData.depth]
    have := depth_ints r
    omega
theorem canLay_ints : ∀ ys : List Int, PyData.canLayAll0 (ys.map PyData.int) = true
  | [] => rfl
  | y :: r => by simp only [List.map_cons, PyData.canLayAll0, PyData.canLay0, canLay_ints r, Bool.and_self]
theorem shaped_ints {ys : List Int} : shaped (.list (ys.map PyData.int)) = true := by
  have h1 := depth_ints ys
  have h2 : PyData.depth (.list (ys.map PyData.int)) ≤ 64 := by simp only [PyData.depth]; omega
  simp only [shaped, Bool.and_eq_true, decide_eq_true_eq]
  exact ⟨by simp only [PyData.canLay0]; exact canLay_ints ys, h2⟩
/-- script != [] -/
theorem r_neNil {l e : Addr} {ns : List Int} {as : List Addr} (S : St b s L G) (hr : Reads b.heap (.ref l) (.list (ns.map PyData.int)) as) (he : (e, lstV []) ∈ L) (hu : A.units + 64 < cLine) (h : Q (.bool (!ns.isEmpty)) s) :
    wpAny (model prog w) A (compareOp .NotEq (.ref l) (.ref e)) Q E s := by
  obtain ⟨n, hv⟩ := S.isLV he
  have r1 : Reads s.heap (.ref l) (.list (ns.map PyData.int)) as := Reads.keeps S.keep hr
  have r2 : Reads s.heap (.ref e) (.list []) [e] := .list hv rfl rfl .nil
  refine ne_dataH_same r1 r2 shaped_ints (by rfl) hu ?_ ?_
  · cases ns <;> rfl
  · have : PySem.Spec.same (.list (ns.map PyData.int)) (.list []) = ns.isEmpty := by cases ns <;> rfl
    rw [this]; exact h
/-- lists joined -/
theorem r_addLV {l l' : Addr} {vs us : List Value} (S : St b s L G) (hl : (l, lstV vs) ∈ L) (hl' : (l', lstV us) ∈ L) (hz : vs.length + us.length ≤ sizeLine) (h : ∀ a s', St b s' ((a, lstV (vs ++ us)) :: L) G → Q (.ref a) s') : wpAny (model prog w) A (binaryOp .Add (.ref l) (.ref l')) Q E s := by
  obtain ⟨n, hv⟩ := S.isLV hl
  obtain ⟨m, hv'⟩ := S.isLV hl'
  refine P.add_list hv hv' (h _ _ (S.alloc (P := lstV (vs ++ us)) ⟨0, ?_⟩)) (by simpa using hz)
  simp
theorem strs_split : ∀ {vs : List Value} {ys : List Str}, StrsAre vs ys → ∃ l : List (Str × Tok), vs = strValues l ∧ l.map (·.1) = ys
  | _, _, .nil => ⟨[], rfl, rfl⟩
  | _, _, .cons y t h => let ⟨l, h1, h2⟩ := strs_split h; ⟨(y, t) :: l, by rw [h1]; rfl, by rw [List.map_cons, h2]⟩
/-- ''.join(part) -/
theorem r_join {e : Expr} {k : Nat} {p apos pos : Pos} (hh : apos.endLine == pos.line) (S : St b s L G)
    (h : ∀ s₁, St b s₁ L G → wpAny (model prog w) A (eval e env) (fun v s₂ => ∃ D p L G, v = .ref D ∧ St b s₂ L G ∧ (D, lstS (tri p)) ∈ L ∧ POk p ∧ ∀ t s', St b s' L G → Q (.str (rowOf p) t) s') E s₁)
    (hb : attributeBase (.Constant (.str "") k p) "join" env (eval (.Constant (.str "") k p) env) = eval (.Constant (.str "") k p) env := by kernel_rfl)
    (hf : ((backTo pos (starEach [e] env)).all (fun x => !x.1) && (backToKw pos (keywordEach [] env)).all (fun x => x.1.isSome)
      && decide ([e].length + ([] : List Keyword).length + (if ([] : List Keyword).isEmpty then 0 else 1) < 30)) = true := by kernel_rfl)
    (ht : backTo pos (starEach [e] env) = [(false, eval e env)] := by kernel_rfl) :
    wpAny (model prog w) A (eval (.Call (.Attribute (.Constant (.str "") k p) "join" apos) [e] [] pos) env) Q E s := by
  refine wpAny_Call_method_lateS hb hf hh ?_
  refine r_str S fun t₁ s₁ S₁ => ?_
  rw [ht]
  refine PySem.SB.join (wpAny_mono (h s₁ S₁) (fun v s₂ h₂ => ?_) fun _ _ x => x)
  obtain ⟨D, p, L, G, rfl, S₂, hD, hp, hQ⟩ := h₂
  obtain ⟨vs, hv, hs⟩ := S₂.lst hD
  obtain ⟨l, e1, e2⟩ := strs_split hs
  refine ⟨D, l, rfl, ?_, tri p, e2, ?_, fun t' tk => ?_⟩
  · rw [← e1]; exact hv
  · have e0 : (PySem.Str.ofString "").length = 0 := by decide
    have g1 := hp.1.1
    have g2 := hp.2.1.1
    have g3 := hp.2.2.1.1
    unfold JoinOk
    rw [Bool.not_eq_true']
    have : (List.toArray (tri p)).foldl (fun x1 x2 => x1 + x2.length + (Str.ofString "").length) 0 ≤ 5 := by
      simp only [List.foldl_toArray, List.foldl_cons, List.foldl_nil, e0]
      omega
    generalize (List.toArray (tri p)).foldl (fun x1 x2 => x1 + x2.length + (Str.ofString "").length) 0 = m at this
    have h5 : ∀ m : Fin 6, Builtin.Str.tooLong (m : Nat) = false := by decide +kernel
    exact h5 ⟨m, by omega⟩
  · have e3 : Txt.join "" (tri p) = rowOf p := by
      unfold Txt.join rowOf
      rw [StrLaws.glued_eq_join]
      show p.1 ++ Str.ofString "" ++ (p.2.1 ++ Str.ofString "" ++ p.2.2) = _
      have e0 : (Str.ofString "") = ⟨#[]⟩ := by decide +kernel
      rw [e0]
      refine str_ext ?_
      show ((p.1.cps ++ #[]) ++ ((p.2.1.cps ++ #[]) ++ p.2.2.cps)).toList = ((p.1.cps ++ p.2.1.cps) ++ p.2.2.cps).toList
      simp
    rw [e3]
    exact hQ t' _ (S₂.toks tk)
end
end Mine

-- part P1d
open PySem PySem.W PySem.W.X PyProof.Rows PySem.Calls PySem.Spec PySem.SeqAt
set_option Elab.async false
set_option maxRecDepth 100000
set_option maxHeartbeats 1000000
set_option linter.all false
namespace Mine
local macro_rules | `(tactic| walk_at "mem") => `(tactic| first | assumption | exact List.Mem.head _ | (refine List.Mem.tail _ ?_; walk_at "mem") | (refine List.mem_append_right _ ?_; walk_at "mem"))
local macro_rules | `(tactic| walk_at "mn") => `(tactic| first | with_reducible exact List.mem_cons_self | ((with_reducible refine List.mem_cons_of_mem _ ?_); walk_at "mn"))
local macro_rules | `(tactic| walk_at "upd") => `(tactic| first | exact Upd.head | ((with_reducible apply Upd.tail); walk_at "upd"))
local macro_rules | `(tactic| walk_at "set") => `(tactic| first | with_reducible exact SetN.nil | ((with_reducible refine SetN.hit ?_); kernel_rfl) | ((with_reducible apply SetN.skip); kernel_rfl; walk_at "set"))
def lDef : Stmt := match PySem.Challenge.pw_dm0050_01.main.body with | _ :: _ :: _ :: _ :: d :: _ => d | _ => .Pass default
def lBody : List Stmt := match lDef with | .FunctionDef _ _ b .. => b | _ => []
def lScope : Scope := match lDef with | .FunctionDef _ _ _ _ _ _ sc .. => sc | _ => default
def lParams : Arguments := match lDef with | .FunctionDef _ a .. => a | _ => default
abbrev lEnv (C f : Addr) (cd : Value) : Env := envOf1 "law" lParams lBody lScope C f cd
def lAt (k : Nat) : Stmt := (lBody[k]?).getD (.Pass default)
theorem lBody_eq : lBody = [lAt 0, lAt 1, lAt 2, lAt 3, lAt 4, lAt 5, lAt 6, lAt 7, lAt 8, lAt 9, lAt 10, lAt 11, lAt 12] := rfl
theorem lKindE {C f : Addr} {cd : Value} : (lEnv C f cd).scope.kind ≠ .module := fun h => by
  have h' : lScope.kind = .module := h
  rw [show lScope.kind = .function by kernel_rfl] at h'
  cases h'
/-- what the law leans on -/
structure Kit1 (b : Shared) (mg mb : Str → Option Value) (names : List Str) (fr fp : Addr) (cr cp : Value) : Prop where
  B : Bs b mg mb names
  hN : ∀ x ∈ ([("range" : Str), "len", "str", "tuple", "iter", "repr", "list", "int", "ValueError", "TypeError", "KeyError"] : List Str), x ∉ names
  Fr : FnAt b mg fr "restore" rParams rBody rScope cr
  Fp : FnAt b mg fp "_law_parts" pParams pBody pScope cp
def fixed1 : List Prt := [(" ", " ", "a\n"), ("-", " ", " b"), ("+", " ", "c\n"), ("?", " ", "d"), ("!", " ", "e")]
theorem fixed_ok : ∀ p ∈ fixed1, POk p := by unfold POk PartOk Good; decide +kernel
section
variable {prog : Program} {w : World} {A : Around} {b s : Shared} {Y : Ledger} {G : GLedger} {mg mb : Str → Option Value} {names : List Str} {C f fr fp : Addr} {cd cr cp : Value} {Q : Flow → Shared → Prop} {l : Addr} {ivs : List Value} {ns : List Int}
/-- how -/
theorem w_how {as : List Addr} (hL : b.heap.IsList l ivs.toArray) (hI : IntsAre ivs ns) (hr : Reads b.heap (.ref l) (.list (ns.map PyData.int)) as) (hu : A.units + 66 < cLine) (S : St b s ((C, frC [(("script" : Str), vE (.ref l))]) :: Y) G)
    (h : ∀ hw s', St b s' ((C, frC [(("script" : Str), vE (.ref l)), (("how" : Str), vI hw)]) :: Y) G → Q .next s') :
    wpAny (model prog w) A (exec (lAt 0) (lEnv C f cd)) Q NoE s := by
  conv in lAt 0 => whnf
  refine wpAny_Assign_Name ?_ (by kernel_rfl)
  refine wpAny_IfExp ?_
  refine wpAny_isTrue_Compare1 ?_ (by kernel_rfl)
  refine r_nameE S (by walk_at "mem") (by walk_at "mn") ?_
  refine r_list0V S fun e s₁ S₁ => ?_
  refine r_neNil S₁ hr (.head _) (by omega) ?_
  refine wpAny_truthy_bool ?_
  have S₂ := S₁.sub (.cons _ (.refl _))
  cases hns : ns with
  | nil =>
    rw [if_neg (by simp)]
    refine r_int S₂ fun t₁ s₃ S₃ => ?_
    exact r_store (P := vI 0) S₃ (by walk_at "mem") ⟨_, rfl⟩ (by walk_at "set") (by walk_at "upd") fun s₄ S₄ => h 0 s₄ S₄
  | cons n r =>
    subst hns
    rw [if_pos (by simp)]
    refine Subscript_ ?_
    refine r_nameE S₂ (by walk_at "mem") (by walk_at "mn") ?_
    refine r_int S₂ fun t₁ s₃ S₃ => ?_
    obtain ⟨t, vs', rfl, _⟩ := IntsAre.cons_inv hI
    refine r_itemB S₃ hL (by decide) (by decide) (v := .int n t) rfl ?_
    exact r_store (P := vI n) S₃ (by walk_at "mem") ⟨_, rfl⟩ (by walk_at "set") (by walk_at "upd") fun s₄ S₄ => h n s₄ S₄
/-- the fixed parts -/
theorem w_fixed {fl : List (Str × VP)} {fl' : Addr → List (Str × VP)} (hfl : ∀ fx, SetN fl "fixed" (vE (.ref fx)) (fl' fx)) (S : St b s ((C, frC fl) :: Y) G)
    (h : ∀ fx vs Z s', Trs Z vs fixed1 → St b s' ((C, frC (fl' fx)) :: (fx, lstV vs) :: (Z ++ Y)) G → Q .next s') :
    wpAny (model prog w) A (exec (lAt 1) (lEnv C f cd)) Q NoE s := by
  conv in lAt 1 => whnf
  refine wpAny_Assign_Name ?_ ?_
  rotate_left
  · kernel_rfl
  refine r_disp (b := b) ?_
  refine r_spl ?_
  refine r_listS (tri (" ", " ", "a\n")) S fun a0 s₀ S₀ => ?_
  refine r_spl ?_
  refine r_listS (tri ("-", " ", " b")) S₀ fun a1 s₁ S₁ => ?_
  refine r_spl ?_
  refine r_listS (tri ("+", " ", "c\n")) S₁ fun a2 s₂ S₂ => ?_
  refine r_spl ?_
  refine r_listS (tri ("?", " ", "d")) S₂ fun a3 s₃ S₃ => ?_
  refine r_spl ?_
  refine r_listS (tri ("!", " ", "e")) S₃ fun a4 s₄ S₄ => ?_
  refine r_spl0 ?_
  refine ⟨by show 5 ≤ sizeLine; decide, lstV [.ref a0, .ref a1, .ref a2, .ref a3, .ref a4], _, _, S₄, lstV_mk, fun fx s₅ S₅ => ?_⟩
  refine r_store (P := vE (.ref fx)) S₅ (by walk_at "mem") rfl (hfl fx) (.tail (.tail (.tail (.tail (.tail (.tail .head)))))) fun s₆ S₆ => ?_
  refine h fx [.ref a0, .ref a1, .ref a2, .ref a3, .ref a4] [(a4, lstS (tri ("!", " ", "e"))), (a3, lstS (tri ("?", " ", "d"))), (a2, lstS (tri ("+", " ", "c\n"))), (a1, lstS (tri ("-", " ", " b"))), (a0, lstS (tri (" ", " ", "a\n")))] s₆ ?_ ?_
  · exact .cons (by simp) (.cons (by simp) (.cons (by simp) (.cons (by simp) (.cons (by simp) .nil))))
  · refine S₆.perm ?_
    have pm : ∀ (α : Type) (a c d e f g i : α) (R : List α), ([a, c, d, e, f, g, i] ++ R).Perm ([i, a, c, d, e, f, g] ++ R) := by
      intro α a c d e f g i R
      have h1 : ([0, 1, 2, 3, 4, 5, 6] : List Nat).Perm [6, 0, 1, 2, 3, 4, 5] := by decide
      exact (h1.map (fun k => [a, c, d, e, f, g, i].getD k a)).append_right R
    exact (pm _ _ _ _ _ _ _ _ _).symm
end
end Mine

-- part P1e
open PySem PySem.W PySem.W.X PyProof.Rows PySem.Calls PySem.Spec PySem.SeqAt
set_option Elab.async false
set_option maxRecDepth 100000
set_option maxHeartbeats 1000000
set_option linter.all false
namespace Mine
local macro_rules | `(tactic| walk_at "mem") => `(tactic| first | assumption | exact List.Mem.head _ | (refine List.Mem.tail _ ?_; walk_at "mem") | (refine List.mem_append_right _ ?_; walk_at "mem"))
local macro_rules | `(tactic| walk_at "mn") => `(tactic| first | with_reducible exact List.mem_cons_self | ((with_reducible refine List.mem_cons_of_mem _ ?_); walk_at "mn"))
local macro_rules | `(tactic| walk_at "upd") => `(tactic| first | exact Upd.head | ((with_reducible apply Upd.tail); walk_at "upd"))
local macro_rules | `(tactic| walk_at "set") => `(tactic| first | with_reducible exact SetN.nil | ((with_reducible refine SetN.hit ?_); kernel_rfl) | ((with_reducible apply SetN.skip); kernel_rfl; walk_at "set"))
theorem pick_len {α : Type} (l : List α) (lo hi : Option Int) : (pick l lo hi).length ≤ l.length := by
  unfold pick
  rw [List.length_take, List.length_drop]
  omega
section
variable {prog : Program} {w : World} {A : Around} {E : Value → Shared → Prop} {b s : Shared} {L Y Z : Ledger} {G : GLedger} {mg mb : Str → Option Value} {names : List Str} {env : Env} {C f fr fp : Addr} {cd cr cp : Value} {l : Addr} {ivs : List Value} {ns : List Int}
/-- a def of one argument, called by its name -/
theorem r_callD1 {x : Str} {e₁ : Expr} {p pos : Pos} {f : Addr} {params : Arguments} {body : List Stmt} {scope : Scope} {cd : Value} {Q : Value → Shared → Prop} (B : Bs b mg mb names) (F : FnAt b mg f x params body scope cd) (S : St b s L G)
    (h : wpAny (model prog w) A (eval e₁ env) (fun v₁ s₁ => (∃ L G, St b s₁ L G) ∧ wpAny (model prog w) A (call (.ref f) [v₁]) Q E s₁) E s)
    (hg : env.globals = mainGlobals := by kernel_rfl) (hk : env.scope.kind = .function := by kernel_rfl) (hx : env.kindOf x = some .globalImplicit := by kernel_rfl) (hd : (x == ("__debug__" : Str)) = false := by decide)
    (ht : backTo pos (starEach [e₁] env) = [(false, eval e₁ env)] := by kernel_rfl) :
    wpAny (model prog w) A (eval (.Call (.Name x p) [e₁] [] pos) env) Q E s := by
  refine wpAny_Call_NameR (r_gname B S F.at_ ?_ hg hk hx hd)
  rw [ht]
  obtain ⟨o, pm, doc, ho, hdat⟩ := F.obj
  refine Calls.callWith_function (o := o) (fd := docDef x params body scope pm cd doc) (Calls.evalArgs_plain (Calls.spliced_cons (wpAny_mono h (fun _ _ h₁ => Calls.spliced_nil ?_) fun _ _ e => e)))
  obtain ⟨⟨_, _, S₂⟩, h₂⟩ := h₁
  exact ⟨⟨S₂.keep _ _ ho, hdat⟩, h₂⟩
abbrev flF (l fx : Addr) (hw : Int) : List (Str × VP) := [(("script" : Str), vE (.ref l)), (("how" : Str), vI hw), (("fixed" : Str), vE (.ref fx))]
/-- parts -/
theorem w_parts {Q : Flow → Shared → Prop} {fx : Addr} {vs₀ : List Value} {hw : Int} (T : Kit1 b mg mb names fr fp cr cp) (hA : Ar A 1) (hp : ∀ C' (s : Shared), (∀ a o, b.heap.get? a = some o → s.heap.get? a = some o) → PylongRoom (model prog w) (A.deeper (pEnv C' fp cp)) s)
    (hL : b.heap.IsList l ivs.toArray) (hI : IntsAre ivs ns) (hlen : ns.length ≤ 63) (h₀ : Trs Z vs₀ fixed1) (S : St b s ((C, frC (flF l fx hw)) :: (fx, lstV vs₀) :: (Z ++ Y)) G)
    (h : ∀ pa vs ps Z' s', Trs Z' vs ps → (∀ p ∈ ps, POk p) → ps.length ≤ 70 → St b s' ((C, frC [(("how" : Str), vI hw), (("parts" : Str), vE (.ref pa))]) :: (pa, lstV vs) :: (Z' ++ Y)) G → Q .next s') :
    wpAny (model prog w) A (exec (lAt 2) (lEnv C f cd)) Q NoE s := by
  have h9 : sizeLine = 16777216 := by decide
  have hiv : ivs.length = ns.length := hI.length
  conv in lAt 2 => whnf
  refine wpAny_Assign_Name ?_ ?_
  rotate_left
  · kernel_rfl
  refine wpAny_BinOp ?_
  refine wpAny_mono (Q := fun v s' => ∃ lf us qs Z1, v = .ref lf ∧ Trs Z1 us qs ∧ (∀ p ∈ qs, POk p) ∧ qs.length ≤ 5 ∧ St b s' ((C, frC (flF l fx hw)) :: (lf, lstV us) :: (Z1 ++ Y)) G) ?_ (fun v s' hv => ?_) fun _ _ x => x
  · refine wpAny_IfExp ?_
    refine wpAny_isTrue_Compare1 ?_ (by kernel_rfl)
    refine wpAny_BinOp ?_
    refine r_callB1 (id := "len") T.B S (by decide +kernel) ?_ (hfree := T.hN _ (by walk_at "mn"))
    refine r_nameE S (by walk_at "mem") (by walk_at "mn") ?_
    refine r_lenB S hL (by omega) fun t₁ s₁ S₁ => ?_
    refine r_int S₁ fun t₂ s₂ S₂ => ?_
    refine r_mod S₂ (by decide) fun t₃ s₃ S₃ => ?_
    refine r_int S₃ fun t₄ s₄ S₄ => ?_
    refine r_eqI ?_
    refine wpAny_truthy_bool ?_
    by_cases hc : ((ivs.length : Int).fmod 2 == 0) = true
    · rw [if_pos hc]
      refine r_nameE S₄ (by walk_at "mem") (by walk_at "mn") ?_
      exact ⟨fx, vs₀, fixed1, Z, rfl, h₀, fixed_ok, by decide, S₄⟩
    · rw [if_neg hc]
      refine r_list0V S₄ fun e s₅ S₅ => ?_
      refine ⟨e, [], [], [], rfl, .nil, (fun p hp => nomatch hp), by decide, ?_⟩
      exact (S₅.perm (L' := (C, frC (flF l fx hw)) :: (e, lstV []) :: (fx, lstV vs₀) :: (Z ++ Y)) (List.Perm.swap _ _ _)).sub (.cons_cons _ (.cons_cons _ (.cons _ (List.sublist_append_right Z Y))))
  · obtain ⟨lf, us, qs, Z1, rfl, hT, hok, hl5, S₁⟩ := hv
    refine r_comp (b := b) (cl := []) ?_
    refine r_slcB (b := b) ?_
    refine r_nameE S₁ (by walk_at "mem") (by walk_at "mn") ?_
    refine ⟨l, rfl, ?_⟩
    refine wpAny_evalPart_some ?_
    refine r_int S₁ fun t₁ s₂ S₂ => ?_
    refine wpAny_evalPart_none ?_
    refine ⟨some 1, none, ivs, ns, _, _, .int _ _, .none, S₂, hL, hI, by omega, fun sl s₃ S₃ => ?_⟩
    have hml := pick_len ns (some 1) none
    generalize pick ns (some 1) none = ms at hml S₃
    refine ⟨[(sl, lstI ms)], 0, ms.map vI, [], [], (sl, lstI ms) :: (C, frC (flF l fx hw)) :: (lf, lstV us) :: (Z1 ++ Y), [], G,
      fun pre acc F => ∃ rs, Trs F acc rs ∧ (∀ p ∈ rs, POk p) ∧ acc.length = pre.length, givesI_list (hasL_I (.head _)), hA.mono (by omega), S₃, ⟨[], .nil, (fun p hp => nomatch hp), rfl⟩, ?_, ?_, ?_, ?_, ?_⟩
    · rintro pre acc F _ p hp
      rw [List.mem_singleton] at hp
      subst hp
      exact List.mem_append_right _ (.head _)
    · rintro pre acc F ⟨_, _, _, e⟩
      exact Nat.le_of_eq e
    · rw [List.length_map]; omega
    · rintro pre P r u acc F C' D L₂ G₂ s e hu ⟨rs, hTr, hrok, hal⟩ S
      obtain ⟨x, rfl⟩ : ∃ x, P = vI x := by
        have : P ∈ ms.map vI := by rw [e]; simp
        obtain ⟨x, _, rfl⟩ := List.mem_map.mp this
        exact ⟨x, rfl⟩
      obtain ⟨t, rfl⟩ := hu
      refine wpAny_pure ?_
      rw [if_pos rfl]
      refine r_callD1 T.B T.Fp S ?_
      refine r_nameE S (.head _) (by walk_at "mn") ?_
      refine ⟨⟨_, _, S⟩, ?_⟩
      refine r_parts T.B T.Fp (T.hN _ (by walk_at "mn")) hA hp S fun a f1 f2 r s' hpo S' => ?_
      refine ⟨(a, lstS (tri (f1, f2, r))) :: F, ⟨rs ++ [(f1, f2, r)], ?_, ?_, by simp [hal]⟩, ?_⟩
      · exact (hTr.more fun q hq => .tail _ hq).app (.one (.head _))
      · intro p hp
        rcases List.mem_append.mp hp with hp | hp
        · exact hrok p hp
        · rw [List.mem_singleton] at hp; subst hp; exact hpo
      · exact S'.perm (perm_swap3 [(C', frC [(("x" : Str), vE (.int x t))]), (D, lstV acc)] [(a, lstS (tri (f1, f2, r)))] (F ++ (L₂ ++ _)))
    · rintro acc F C' D s' ⟨rs, hTr, hrok, hal⟩ S'
      refine comp_end S' fun s'' S'' => ?_
      have e1 := hTr.1
      have e2 := hT.1
      rw [List.length_map] at hal
      refine r_addLV (vs := us) (us := acc) S'' (.tail _ (List.mem_append_right _ (.tail _ (.tail _ (.head _))))) (.head _) (by omega) fun pa s₄ S₄ => ?_
      refine r_store (P := vE (.ref pa)) S₄ (.tail _ (.tail _ (List.mem_append_right _ (.tail _ (.head _))))) rfl (by walk_at "set") (.tail (.tail ((Upd.tail .head).left _))) fun s₅ S₅ => ?_
      refine h pa (us ++ acc) (qs ++ rs) (F ++ Z1) s₅ ?_ ?_ ?_ ?_
      · exact (hT.more fun q hq => List.mem_append_right _ hq).app (hTr.more fun q hq => List.mem_append_left _ hq)
      · intro p hp
        rcases List.mem_append.mp hp with hp | hp
        · exact hok p hp
        · exact hrok p hp
      · rw [List.length_append]; omega
      · have S₆ := S₅.sub (L' := (pa, lstV (us ++ acc)) :: (F ++ ((C, frC [(("script" : Str), vE (.ref l)), (("how" : Str), vI hw), (("fixed" : Str), vE (.ref fx)), (("parts" : Str), vE (.ref pa))]) :: (Z1 ++ Y)))) (.cons_cons _ (.cons _ ((List.Sublist.cons _ (.cons_cons _ (.cons _ (.refl _)))).append_left F)))
        have S₇ := S₆.perm (L' := (C, frC [(("script" : Str), vE (.ref l)), (("how" : Str), vI hw), (("fixed" : Str), vE (.ref fx)), (("parts" : Str), vE (.ref pa))]) :: (pa, lstV (us ++ acc)) :: ((F ++ Z1) ++ Y)) (by
          rw [List.append_assoc]
          exact ((List.Perm.cons _ List.perm_middle).trans (.swap _ _ _)).symm)
        exact S₇.less (.head _) .head fun o ho => frC_sub (fun q hq => by
          simp only [List.mem_cons, List.not_mem_nil, or_false] at hq
          rcases hq with rfl | rfl <;> simp) ho
end
end Mine

-- part P1f
open PySem PySem.W PySem.W.X PyProof.Rows PySem.Calls PySem.Spec PySem.SeqAt
set_option Elab.async false
set_option maxRecDepth 100000
set_option maxHeartbeats 1000000
set_option linter.all false
namespace Mine
local macro_rules | `(tactic| walk_at "mem") => `(tactic| first | assumption | exact List.Mem.head _ | (refine List.Mem.tail _ ?_; walk_at "mem") | (refine List.mem_append_right _ ?_; walk_at "mem"))
local macro_rules | `(tactic| walk_at "mn") => `(tactic| first | with_reducible exact List.mem_cons_self | ((with_reducible refine List.mem_cons_of_mem _ ?_); walk_at "mn"))
local macro_rules | `(tactic| walk_at "upd") => `(tactic| first | exact Upd.head | ((with_reducible apply Upd.tail); walk_at "upd"))
local macro_rules | `(tactic| walk_at "set") => `(tactic| first | with_reducible exact SetN.nil | ((with_reducible refine SetN.hit ?_); kernel_rfl) | ((with_reducible apply SetN.skip); kernel_rfl; walk_at "set"))
theorem vE_at {vs : List Value} {pre : List VP} {P : VP} {r : List VP} (e : vs.map vE = pre ++ P :: r) : ∃ v, vs[pre.length]? = some v ∧ P = vE v := by
  have h1 := congrArg (·[pre.length]?) e
  simp only [List.getElem?_map] at h1
  rw [List.getElem?_append_right (Nat.le_refl _), Nat.sub_self, List.getElem?_cons_zero] at h1
  obtain ⟨v, hv, rfl⟩ := Option.map_eq_some_iff.mp h1
  exact ⟨v, hv, rfl⟩
theorem Trs.at {Z : Ledger} {vs : List Value} {ps : List Prt} (h : Trs Z vs ps) {i : Nat} {v : Value} (hv : vs[i]? = some v) : ∃ a p, v = .ref a ∧ ps[i]? = some p ∧ (a, lstS (tri p)) ∈ Z := by
  obtain ⟨hi, _⟩ := List.getElem?_eq_some_iff.mp hv
  obtain ⟨a, e, m⟩ := h.2 i v _ hv (List.getElem?_eq_getElem (by rw [← h.1]; exact hi))
  exact ⟨a, _, e, List.getElem?_eq_getElem (by rw [← h.1]; exact hi), m⟩
section
variable {prog : Program} {w : World} {A : Around} {E : Value → Shared → Prop} {b s : Shared} {L Y Z : Ledger} {G : GLedger} {mg mb : Str → Option Value} {names : List Str} {env : Env} {C f fr fp pa : Addr} {cd cr cp : Value} {vs : List Value} {ps : List Prt} {hw : Int}
/-- rows -/
theorem w_rows {Q : Flow → Shared → Prop} (hA : Ar A 1) (hT : Trs Z vs ps) (hok : ∀ p ∈ ps, POk p) (hl : ps.length ≤ 70) (S : St b s ((C, frC [(("how" : Str), vI hw), (("parts" : Str), vE (.ref pa))]) :: (pa, lstV vs) :: Z) G)
    (h : ∀ rw s', St b s' ((C, frC [(("how" : Str), vI hw), (("parts" : Str), vE (.ref pa)), (("rows" : Str), vE (.ref rw))]) :: (rw, lstS (ps.map rowOf)) :: (pa, lstV vs) :: Z) G → Q .next s') :
    wpAny (model prog w) A (exec (lAt 3) (lEnv C f cd)) Q NoE s := by
  have h9 : sizeLine = 16777216 := by decide
  conv in lAt 3 => whnf
  refine r_asgComp (b := b) (cl := []) ?_
  refine r_nameE S (by walk_at "mem") (by walk_at "mn") ?_
  have hvl := hT.1
  refine ⟨[(pa, lstV vs)], 0, vs.map vE, [], [], (C, frC [(("how" : Str), vI hw), (("parts" : Str), vE (.ref pa))]) :: (pa, lstV vs) :: Z, [], G,
      fun pre acc F => F = [] ∧ StrsAre acc ((ps.take pre.length).map rowOf), givesI_list (hasL_V (.head _)), hA.mono (by omega), S, ⟨rfl, .nil⟩, ?_, ?_, ?_, ?_, ?_⟩
  · rintro pre acc F _ p hp
    rw [List.mem_singleton] at hp
    subst hp
    exact List.mem_append_right _ (.tail _ (.head _))
  · rintro pre acc F ⟨_, hs⟩
    rw [strsAre_len hs, List.length_map, List.length_take]
    omega
  · rw [List.length_map]; omega
  · rintro pre P r u acc F C' D L₂ G₂ s e hu ⟨rfl, hs⟩ S
    obtain ⟨v, hv, rfl⟩ := vE_at e
    cases hu
    obtain ⟨a, p, rfl, hp, hm⟩ := hT.at hv
    refine wpAny_pure ?_
    rw [if_pos rfl]
    refine r_join (by kernel_rfl) S fun s₁ S₁ => ?_
    refine r_nameE S₁ (.head _) (by walk_at "mn") ?_
    refine ⟨a, p, _, _, rfl, S₁, ?_, hok p (List.mem_of_getElem? hp), fun t s₂ S₂ => ?_⟩
    · exact .tail _ (.tail _ (List.mem_append_right _ (List.mem_append_right _ (.tail _ (.tail _ hm)))))
    · refine ⟨[], ⟨rfl, ?_⟩, S₂⟩
      rw [List.length_append, List.length_singleton, List.take_add_one, hp, List.map_append]
      exact hs.append' (.cons _ t .nil)
  · rintro acc F C' D s' ⟨rfl, hs⟩ S'
    rw [List.length_map, hvl, List.take_length] at hs
    refine comp_endU (b := b) ?_
    refine wpAny_assign_Name (r_store (P := vE (.ref D)) S' (.tail _ (.tail _ (.head _))) rfl (by walk_at "set") (.tail (.tail .head)) fun s₁ S₁ => ?_)
    refine ⟨_, _, S₁, fun s₃ S₃ => h D s₃ ?_⟩
    have S₄ := S₃.less (P' := lstS (ps.map rowOf)) (.head _) .head fun o ho => let ⟨n, hn⟩ := ho; ⟨_, n, hn, by simpa using hs⟩
    exact S₄.perm (List.Perm.swap _ _ _)
end
end Mine

-- part P1w
open PySem PySem.W PySem.W.X PyProof.Rows PySem.Calls PySem.Spec PySem.SeqAt
set_option Elab.async false
set_option maxRecDepth 100000
set_option maxHeartbeats 1000000
set_option linter.all false
namespace Mine
/-! the numbers of the law, as texts and as octets -/
def Five (n : Int) : Prop := n = 1 ∨ n = 2 ∨ n = 0 ∨ n = 3 ∨ n = -1
def txtN (n : Int) : Str := if n = 1 then "1" else if n = 2 then "2" else if n = 0 then "0" else if n = 3 then "3" else "-1"
def bytesN (n : Int) : Array UInt8 := if n = 1 then #[49] else if n = 2 then #[50] else if n = 0 then #[48] else if n = 3 then #[51] else #[45, 49]
def reprB (n : Int) : Str := if n = 1 then "b'1'" else if n = 2 then "b'2'" else if n = 0 then "b'0'" else if n = 3 then "b'3'" else "b'-1'"
theorem txtN_eq {n : Int} (h : Five n) : (toString n : Str) = txtN n := by
  rcases h with rfl | rfl | rfl | rfl | rfl <;> decide +kernel
open Builtin Builtin._codecs in
theorem enc_n {n : Int} (h : Five n) (t : Tok) : encodeNarrow "str.encode" utf8Codec none (.str (txtN n) t) (txtN n) = pure (bytesN n) := by
  rcases h with rfl | rfl | rfl | rfl | rfl <;> first | rfl | kernel_rfl
theorem gives_enc {n : Int} (h : Five n) (t : Tok) : PySem.Gives (Builtin.«str.encode» ⟨[.str (txtN n) t], []⟩) (.bytes (bytesN n)) := by
  refine .of_eq ?_
  rw [encode_tree, encodeRoad_utf8, enc_n h]
  rfl
theorem slot_bytes_repr : Slot "bytes" "__repr__" "bytes.__repr__" :=
  .of (owner := "bytes") (n := "__repr__") (by rw [typeLookup_type, builtinLookup_eq_fast]; kernel_rfl) (by decide +kernel) (by decide +kernel) (by decide +kernel)
    (by first | exact .inl (by decide +kernel) | exact .inr (by decide +kernel)) (by rw [isSubtype_type]; kernel_rfl)
theorem entry_bytes_repr : entryFor table "bytes.__repr__" = some Builtin.«bytes.__repr__» := entryFor_of_tree (by kernel_rfl)
theorem args_bytes_repr_1 (a : Value) : argsOk "bytes.__repr__" ⟨[a], []⟩ := by
  unfold argsOk; rw [signature?_of (id := "bytes.__repr__") (n := ['_', '_', 'r', 'p', 'e', 'r', '_', '_']) (o := ['s', 'e', 't', 'y', 'b']) (by kernel_rfl) FB.owner_bytes]; kernel_rfl
theorem gives_reprB {n : Int} (h : Five n) (t : Tok) : PySem.Gives (Builtin.«bytes.__repr__» ⟨[.bytes (bytesN n) t], []⟩) (.str (reprB n)) := by
  rcases h with rfl | rfl | rfl | rfl | rfl <;> exact .of_eq (by first | rfl | kernel_rfl)
end Mine

-- part P1x
open PySem PySem.W PySem.W.X PyProof.Rows PySem.Calls PySem.Spec PySem.SeqAt
set_option Elab.async false
set_option maxRecDepth 100000
set_option maxHeartbeats 4000000
set_option linter.all false
namespace Mine
theorem by_int : typeLookup (.type "bytes") "__int__" = pure none := by rw [typeLookup_type, builtinLookup_eq_fast]; kernel_rfl
theorem by_idx : typeLookup (.type "bytes") "__index__" = pure none := by rw [typeLookup_type, builtinLookup_eq_fast]; kernel_rfl
theorem by_trunc : typeLookup (.type "bytes") "__trunc__" = pure none := by rw [typeLookup_type, builtinLookup_eq_fast]; kernel_rfl
theorem read_B {n : Int} (h : Five n) : (((bytesN n).toList.map (·.toNat)).takeWhile (· != 0)).length ≤ 640 ∧ (int_private% "readNumeral") 0 10 (((bytesN n).toList.map (·.toNat)).takeWhile (· != 0)) = (int_private% "Numeral.value") n ∧
    ((((bytesN n).toList.map (·.toNat)).takeWhile (· != 0)).length == ((bytesN n).toList.map (·.toNat)).length) = true := by
  rcases h with rfl | rfl | rfl | rfl | rfl <;> exact ⟨by decide, by first | rfl | kernel_rfl, by decide⟩
theorem gives_intB {n : Int} (h : Five n) (u : Tok) : PySem.Gives (Builtin.«int.__new__» ⟨[.type "int", .bytes (bytesN n) u], []⟩) (.int n) :=
  .of_wp fun M A E s Q hq => by
    obtain ⟨hp, g, d, tk, os⟩ := s
    have hk := KIN.Hid.mk (read_B h)
    have f1 := F.conv_sub_int
    have f2 := F.madeHere_int
    have f3 := by_int
    have f4 := by_idx
    have f5 := by_trunc
    clear h
    generalize bytesN n = bb at hk
    have f6 : typeOf (.bytes bb u) = pure (.type "bytes") := rfl
    repeat (any_goals (first
      | assumption
      | ((with_reducible show wpAny _ _ ((int_private% "intFromText") _ _ _) _ _ _); refine KIN.wp_text hk.out.1 hk.out.2.1 hk.out.2.2 ?_)
      | wp_step))
    all_goals first | exact ⟨_, rfl, hq⟩ | skip
theorem intTo_bytes {prog : Program} {w : World} {b : Shared} {n : Int} (h : Five n) {t : Tok} : IntTo prog w b (.bytes (bytesN n) t) n := fun _ _ _ _ _ _ _ S hq =>
  call_int_1 (gives_intB h t).meets (show (Made.int n).post _ _ from ⟨rfl, hq _ _ (S.toks _)⟩)
theorem intTo_bool {prog : Program} {w : World} {b : Shared} {c : Bool} : IntTo prog w b (.bool c) (if c then 1 else 0) := fun _ _ _ _ _ _ _ S hq => call_int_bool (hq _ _ (S.toks _))
end Mine

-- part P1y
open PySem PySem.W PySem.W.X PyProof.Rows PySem.Calls PySem.Spec PySem.SeqAt
set_option Elab.async false
set_option maxRecDepth 100000
set_option maxHeartbeats 1000000
set_option linter.all false
namespace Mine
theorem look_bool_getitem : typeLookup (.type "bool") "__getitem__" = pure none := by rw [typeLookup_type, builtinLookup_eq_fast]; kernel_rfl
open Builtin Builtin.Str in
theorem fills_int (n : Int) (u : Tok) : ∃ b, fillsMappingSlot (.int n u) = pure b := ⟨_, KPc.fills n u⟩
open Builtin Builtin.Str in
theorem fills_bool (c : Bool) : ∃ b, fillsMappingSlot (.bool c) = pure b := by
  have e : specialOf (.bool c) "__getitem__" = typeLookup (.type "bool") "__getitem__" := rfl
  unfold fillsMappingSlot
  rw [e, look_bool_getitem]
  exact ⟨_, rfl⟩
open Builtin Builtin.Str in
theorem fills_bytes (x : Array UInt8) (u : Tok) : ∃ b, fillsMappingSlot (.bytes x u) = pure b := by
  have e : specialOf (.bytes x u) "__getitem__" = typeLookup (.type "bytes") "__getitem__" := rfl
  have l : typeLookup (.type "bytes") "__getitem__" = pure (some (.builtin "bytes.__getitem__")) := FB.slot_bytes_getitem.lookup
  unfold fillsMappingSlot
  rw [e, l]
  exact ⟨_, rfl⟩
theorem sub_bytes_tup : isSubtype (.type "bytes") (.type "tuple") = pure false := by kernel_rfl
theorem meets_pctI {n : Int} {u : Tok} {t : Tok} (ha : n.natAbs.log2 < 1920) (hz : (Str.ofString (toString n)).length ≤ 1000) : Meets (Builtin.«str.__mod__» ⟨[.str fmtR t, .int n u], []⟩) (fun _ R s => ∀ t' k, R (.ok (.ret (.str (preR ++ Str.ofString (toString n)) t'))) { s with toks := k }) := by
  rw [fmtR_eq]
  apply KPc.meets_of
  intro prog w A s Q E hQ
  have ent : Builtin.«str.__mod__» ⟨[.str ⟨#[117, 110, 107, 110, 111, 119, 110, 32, 100, 101, 108, 116, 97, 32, 99, 104, 111, 105, 99, 101, 32, 40, 109, 117, 115, 116, 32, 98, 101, 32, 49, 32, 111, 114, 32, 50, 41, 58, 32, 37, 114]⟩ t, .int n u], []⟩ = Builtin.Str.percentFormat (.str ⟨#[117, 110, 107, 110, 111, 119, 110, 32, 100, 101, 108, 116, 97, 32, 99, 104, 111, 105, 99, 101, 32, 40, 109, 117, 115, 116, 32, 98, 101, 32, 49, 32, 111, 114, 32, 50, 41, 58, 32, 37, 114]⟩ t) ⟨#[117, 110, 107, 110, 111, 119, 110, 32, 100, 101, 108, 116, 97, 32, 99, 104, 111, 105, 99, 101, 32, 40, 109, 117, 115, 116, 32, 98, 101, 32, 49, 32, 111, 114, 32, 50, 41, 58, 32, 37, 114]⟩ (.int n u) := by kernel_rfl
  rw [ent]
  clear ent
  unfold Builtin.Str.percentFormat
  refine wpAny_bind (wpAny_isInstance (typeIs_int _ _ _) F.sub_int_tuple ?_)
  refine wpAny_bind (wpAny_of_eq (a := none) rfl ?_)
  obtain ⟨bb, hbb⟩ := fills_int n u
  refine wpAny_bind (wpAny_of_eq hbb ?_)
  clear hbb
  kpc_if
  refine wpAny_bind (wpAny_pure ?_)
  refine wpAny_bind ?_
  rw [KPc.range_list]
  refine KPc.start ?_
  intro _ _
  refine KPc.turn ?_; kpc_check; (repeat kpc_if)
  refine wpAny_pure ?_; kpc_piece
  refine KPc.turn ?_; kpc_check; (repeat kpc_if)
  refine wpAny_bind ?_; refine wpAny_holding ?_; (repeat kpc_if)
  refine wpAny_bind ?_
  (repeat kpc_if)
  refine reprUnder_gives (typeIs_int _ _ _) F.slot_int_repr F.entry_int_repr (F.args_int_repr_1 _) (gives_int_repr _ _ ha) (by decide) ?_ (hx := Nat.le_trans hz (by decide))
  refine wpAny_bind (wpAny_of_eq (a := some _) rfl ?_)
  refine wpAny_pure ?_; refine wpAny_pure ?_
  refine KPc.after_str (K := 1000) (by kpc_g) ?_ (by kpc_obj) ?_
  · exact hz
  intro _ _
  kpc_turns
theorem meets_pctB {c : Bool} {t : Tok} (hz : (if c then ("True" : Str) else "False").length ≤ 1000) : Meets (Builtin.«str.__mod__» ⟨[.str fmtR t, .bool c], []⟩) (fun _ R s => ∀ t' k, R (.ok (.ret (.str (preR ++ (if c then ("True" : Str) else "False")) t'))) { s with toks := k }) := by
  rw [fmtR_eq]
  apply KPc.meets_of
  intro prog w A s Q E hQ
  have ent : Builtin.«str.__mod__» ⟨[.str ⟨#[117, 110, 107, 110, 111, 119, 110, 32, 100, 101, 108, 116, 97, 32, 99, 104, 111, 105, 99, 101, 32, 40, 109, 117, 115, 116, 32, 98, 101, 32, 49, 32, 111, 114, 32, 50, 41, 58, 32, 37, 114]⟩ t, .bool c], []⟩ = Builtin.Str.percentFormat (.str ⟨#[117, 110, 107, 110, 111, 119, 110, 32, 100, 101, 108, 116, 97, 32, 99, 104, 111, 105, 99, 101, 32, 40, 109, 117, 115, 116, 32, 98, 101, 32, 49, 32, 111, 114, 32, 50, 41, 58, 32, 37, 114]⟩ t) ⟨#[117, 110, 107, 110, 111, 119, 110, 32, 100, 101, 108, 116, 97, 32, 99, 104, 111, 105, 99, 101, 32, 40, 109, 117, 115, 116, 32, 98, 101, 32, 49, 32, 111, 114, 32, 50, 41, 58, 32, 37, 114]⟩ (.bool c) := by kernel_rfl
  rw [ent]
  clear ent
  unfold Builtin.Str.percentFormat
  refine wpAny_bind (wpAny_isInstance (PySem.typeIs_bool _ _) F.sub_bool_tuple ?_)
  refine wpAny_bind (wpAny_of_eq (a := none) rfl ?_)
  obtain ⟨bb, hbb⟩ := fills_bool c
  refine wpAny_bind (wpAny_of_eq hbb ?_)
  clear hbb
  kpc_if
  refine wpAny_bind (wpAny_pure ?_)
  refine wpAny_bind ?_
  rw [KPc.range_list]
  refine KPc.start ?_
  intro _ _
  refine KPc.turn ?_; kpc_check; (repeat kpc_if)
  refine wpAny_pure ?_; kpc_piece
  refine KPc.turn ?_; kpc_check; (repeat kpc_if)
  refine wpAny_bind ?_; refine wpAny_holding ?_; (repeat kpc_if)
  refine wpAny_bind ?_
  (repeat kpc_if)
  refine reprUnder_gives (PySem.typeIs_bool _ _) F.slot_bool_repr F.entry_bool_repr (F.args_bool_repr_1 _) (gives_bool_repr _) (by decide) ?_ (hx := Nat.le_trans hz (by decide))
  refine wpAny_bind (wpAny_of_eq (a := some _) rfl ?_)
  refine wpAny_pure ?_; refine wpAny_pure ?_
  refine KPc.after_str (K := 1000) (by kpc_g) ?_ (by kpc_obj) ?_
  · exact hz
  intro _ _
  kpc_turns
theorem meets_pctY {n : Int} {u : Tok} {t : Tok} (hn : Five n) (hz : (reprB n).length ≤ 1000) : Meets (Builtin.«str.__mod__» ⟨[.str fmtR t, .bytes (bytesN n) u], []⟩) (fun _ R s => ∀ t' k, R (.ok (.ret (.str (preR ++ reprB n) t'))) { s with toks := k }) := by
  rw [fmtR_eq]
  apply KPc.meets_of
  intro prog w A s Q E hQ
  have ent : Builtin.«str.__mod__» ⟨[.str ⟨#[117, 110, 107, 110, 111, 119, 110, 32, 100, 101, 108, 116, 97, 32, 99, 104, 111, 105, 99, 101, 32, 40, 109, 117, 115, 116, 32, 98, 101, 32, 49, 32, 111, 114, 32, 50, 41, 58, 32, 37, 114]⟩ t, .bytes (bytesN n) u], []⟩ = Builtin.Str.percentFormat (.str ⟨#[117, 110, 107, 110, 111, 119, 110, 32, 100, 101, 108, 116, 97, 32, 99, 104, 111, 105, 99, 101, 32, 40, 109, 117, 115, 116, 32, 98, 101, 32, 49, 32, 111, 114, 32, 50, 41, 58, 32, 37, 114]⟩ t) ⟨#[117, 110, 107, 110, 111, 119, 110, 32, 100, 101, 108, 116, 97, 32, 99, 104, 111, 105, 99, 101, 32, 40, 109, 117, 115, 116, 32, 98, 101, 32, 49, 32, 111, 114, 32, 50, 41, 58, 32, 37, 114]⟩ (.bytes (bytesN n) u) := by kernel_rfl
  rw [ent]
  clear ent
  unfold Builtin.Str.percentFormat
  refine wpAny_bind (wpAny_isInstance (typeIs_bytes _ _ _) sub_bytes_tup ?_)
  refine wpAny_bind (wpAny_of_eq (a := none) rfl ?_)
  obtain ⟨bb, hbb⟩ := fills_bytes (bytesN n) u
  refine wpAny_bind (wpAny_of_eq hbb ?_)
  clear hbb
  kpc_if
  refine wpAny_bind (wpAny_pure ?_)
  refine wpAny_bind ?_
  rw [KPc.range_list]
  refine KPc.start ?_
  intro _ _
  refine KPc.turn ?_; kpc_check; (repeat kpc_if)
  refine wpAny_pure ?_; kpc_piece
  refine KPc.turn ?_; kpc_check; (repeat kpc_if)
  refine wpAny_bind ?_; refine wpAny_holding ?_; (repeat kpc_if)
  refine wpAny_bind ?_
  (repeat kpc_if)
  refine reprUnder_gives (typeIs_bytes _ _ _) slot_bytes_repr entry_bytes_repr (args_bytes_repr_1 _) (gives_reprB hn _) (by decide) ?_ (hx := Nat.le_trans hz (by decide))
  refine wpAny_bind (wpAny_of_eq (a := some _) rfl ?_)
  refine wpAny_pure ?_; refine wpAny_pure ?_
  refine KPc.after_str (K := 1000) (by kpc_g) ?_ (by kpc_obj) ?_
  · exact hz
  intro _ _
  kpc_turns
end Mine

-- part P1v
open PySem PySem.W PySem.W.X PyProof.Rows PySem.Calls PySem.Spec PySem.SeqAt
set_option Elab.async false
set_option maxRecDepth 100000
set_option maxHeartbeats 1000000
set_option linter.all false
namespace Mine
theorem fills_bytes_mod : fillsNumberSlot (.type "bytes") "mod" = pure true :=
  fillsNumberSlot_of (id := "bytes.__mod__") (r := some (.builtin "bytes.__rmod__")) (by rw [typeLookup_type, builtinLookup_eq_fast]; kernel_rfl) (by decide +kernel) (by rw [typeLookup_type, builtinLookup_eq_fast]; kernel_rfl)
theorem slot_bytes_rmod : Slot "bytes" (dunderR "mod") "bytes.__rmod__" :=
  .of (owner := "bytes") (n := "__rmod__") (by rw [typeLookup_type, builtinLookup_eq_fast]; kernel_rfl) (by decide +kernel) (by decide +kernel) (by decide +kernel)
    (by first | exact .inl (by decide +kernel) | exact .inr (by decide +kernel)) (by rw [isSubtype_type]; kernel_rfl)
theorem sub_bytes_str1 : isSubtype (.type "bytes") (.type "str") = pure false := by rw [isSubtype_type]; kernel_rfl
theorem sub_bool_str1 : isSubtype (.type "bool") (.type "str") = pure false := by rw [isSubtype_type]; kernel_rfl
section
variable {prog : Program} {w : World} {b : Shared}
theorem pctTo_int {n : Int} {u : Tok} (ha : n.natAbs.log2 < 1920) (hz : (Str.ofString (toString n)).length ≤ 1000) : PctTo prog w b (.int n u) (preR ++ Str.ofString (toString n)) := fun A E s L G Q t₀ S h =>
  AutoFloatOps.binaryOp_left_meets (T := "str") (U := "int") (op := .Mod) (by decide) (typeIs_str s fmtR t₀) (fun s' => typeIs_int s' n u) F.fills_str_mod F.fills_int_mod F.sub_int_str F.slot_str_mod F.slot_int_rmod F.entry_str_mod (F.args_str_mod_2 _ _)
    (meets_pctI ha hz) (fun t' k => ⟨(fun e => nomatch e), h _ _ (S.toks k)⟩)
theorem pctTo_bool {c : Bool} : PctTo prog w b (.bool c) (preR ++ (if c then ("True" : Str) else "False")) := fun A E s L G Q t₀ S h =>
  AutoFloatOps.binaryOp_left_meets (T := "str") (U := "bool") (op := .Mod) (by decide) (typeIs_str s fmtR t₀) (fun s' => PySem.typeIs_bool s' c) F.fills_str_mod F.fills_bool_mod sub_bool_str1 F.slot_str_mod F.slot_bool_rmod F.entry_str_mod (F.args_str_mod_2 _ _)
    (meets_pctB (by cases c <;> decide +kernel)) (fun t' k => ⟨(fun e => nomatch e), h _ _ (S.toks k)⟩)
theorem pctTo_bytes {n : Int} (hn : Five n) {u : Tok} : PctTo prog w b (.bytes (bytesN n) u) (preR ++ reprB n) := fun A E s L G Q t₀ S h =>
  AutoFloatOps.binaryOp_left_meets (T := "str") (U := "bytes") (op := .Mod) (by decide) (typeIs_str s fmtR t₀) (fun s' => typeIs_bytes s' (bytesN n) u) F.fills_str_mod fills_bytes_mod sub_bytes_str1 F.slot_str_mod slot_bytes_rmod F.entry_str_mod (F.args_str_mod_2 _ _)
    (meets_pctY hn (by rcases hn with rfl | rfl | rfl | rfl | rfl <;> decide +kernel)) (fun t' k => ⟨(fun e => nomatch e), h _ _ (S.toks k)⟩)
end
section
variable {prog : Program} {w : World} {A : Around} {E : Value → Shared → Prop} {b s : Shared} {L L' : Ledger} {G : GLedger} {mg mb : Str → Option Value} {names : List Str}
theorem sub_ty_key : isSubtype (.type "TypeError") (.type "KeyError") = pure false := by kernel_rfl
theorem no_int : typeLookup (.type "NoneType") "__int__" = pure none := by rw [typeLookup_type, builtinLookup_eq_fast]; kernel_rfl
theorem no_idx : typeLookup (.type "NoneType") "__index__" = pure none := by rw [typeLookup_type, builtinLookup_eq_fast]; kernel_rfl
theorem no_trunc : typeLookup (.type "NoneType") "__trunc__" = pure none := by rw [typeLookup_type, builtinLookup_eq_fast]; kernel_rfl
theorem no_buf : typeLookup (.type "NoneType") "__buffer__" = pure none := by rw [typeLookup_type, builtinLookup_eq_fast]; kernel_rfl
def msgN : Str := "int() argument must be a string, a bytes-like object or a real number, not 'NoneType'"
end
end Mine

-- part P1k
open PySem PySem.W PySem.W.X PyProof.Rows PySem.Calls PySem.Spec PySem.SeqAt
set_option Elab.async false
set_option maxRecDepth 100000
set_option maxHeartbeats 1000000
set_option linter.all false
namespace Mine
section
variable {prog : Program} {w : World} {A : Around} {E : Value → Shared → Prop} {b s : Shared} {L L' : Ledger} {G : GLedger} {mg mb : Str → Option Value} {names : List Str} {outer : List Env}
/-- list(..) of a generator that is bound to raise at once, under the caller -/
theorem c_listX {a : Addr} {Q : Value → Shared → Prop} {g : Nat} (S : St b s L G) (ha : (a, genC g) ∈ L)
    (h : ∀ Sa s', St b s' ((Sa, lstV []) :: L) G → wpC (model prog w) A.in1.in1 (pyNext (.ref a)) (fun _ _ => False) E s') :
    wpC (model prog w) A (call (.type "list") [.ref a]) Q E s := by
  refine wpC_call (codeC_of_tree ?_)
  show wpC _ _ (callAny (.type "list") _) _ _ _
  refine wpC_of (wpAny_pure ⟨Code.quiet_builtin _ (by decide +kernel), codeC_builtin F.entry_type_call ?_⟩)
  rw [Around.under_plain (weight_type_call_type "list" [.ref a] []) (units_type_call_type "list" [.ref a] [])]
  obtain ⟨c, tl, hmro⟩ := F.called_list.mro
  have h1 := F.called_list.notType
  have h2 := F.called_list.canCreate
  have h3 := F.typeCall_list_1 (.ref a)
  have h5 := F.called_list.made
  have hsub := F.called_list.sub
  unfold Builtin.«type.__call__»
  dsimp only
  simp only [h1, h2, h3, hmro, h5, pure_bind, Bool.false_eq_true, if_false, List.isEmpty_cons]
  refine wpC_then (wpAny_holding (wpAny_call ?_))
  refine codeAny_mono (code_list_new (E := E) (Q₁ := fun obj s₁ => obj = .ref s.heap.objs.size ∧ s₁ = { s with heap := s.heap.push { cls := .type "list", data := .seq #[] } }) (.ref a) ⟨rfl, rfl⟩) fun r s₁ hr => ?_
  cases r with
  | error e => exact hr
  | ok fl =>
    cases fl with
    | next => exact hr.elim
    | cont => exact hr.elim
    | brk => exact hr.elim
    | ret obj =>
      obtain ⟨rfl, rfl⟩ := hr
      have S0 : St b { s with heap := s.heap.push { cls := .type "list", data := .seq #[] } } ((s.heap.objs.size, lstV []) :: L) G := S.alloc ⟨0, rfl⟩
      generalize hsz : s.heap.objs.size = Sa at S0
      generalize hs0 : ({ s with heap := s.heap.push { cls := .type "list", data := .seq #[] } } : Shared) = s0 at S0
      obtain ⟨_, ho0, n0, rfl⟩ := S0.get (.head _)
      have hT : s0.TypeIs (.ref Sa) "list" := ⟨_, ho0, rfl⟩
      dsimp only
      refine wpC_then (wpAny_isInstance (T := "list") (b := true) hT hsub ?_)
      refine wpC_iteF (by simp) ?_
      refine wpC_first (wpC_holding ?_)
      refine c_callSpecial (name := Str.ofString "__init__") hT F.called_list.init ?_
      refine wpC_call (codeC_call_builtin F.called_list.init.plain F.entry_list_init (F.called_list.init.check _ _ _ _ _ _ _ _ hT (F.args_list_init_2 _ _) ?_))
      have hne : Sa ≠ a := by
        have := List.nodup_cons.mp S0.nodup
        exact fun e => this.1 (List.mem_map.mpr ⟨_, ha, e.symm⟩)
      show wpC _ A.in1.in1 (do let old ← Builtin.List.listItems (.ref Sa); Builtin.List.listUpdate (.ref Sa) (fun _ => #[]); letGo old.toList.reverse; Builtin.List.listExtendWith (.ref Sa) (.ref a) .none) _ _ s0
      refine wpC_then ?_
      unfold Builtin.List.listItems
      refine wpAny_bind (wpAny_seqItems ho0 rfl (wpAny_pure ?_))
      show wpC _ A.in1.in1 (updateSeq Sa (fun _ => #[]) >>= fun _ => letGo (([] : List Value).toArray).toList.reverse >>= fun _ => Builtin.List.listExtendWith (.ref Sa) (.ref a) .none) _ _ s0
      refine wpC_then (wpAny_updateSeq ho0 rfl ?_ (by simp) (by simp))
      have S1 := S0.set (P' := lstV []) .head ⟨_, .head _⟩ (Heap.SameBut.update s0.heap Sa (Obj.mapSeq fun _ => #[])).extBut (Heap.get?_update_self _ ho0 rfl) ⟨_, rfl⟩
      generalize hs1 : ({ s0 with heap := s0.heap.update Sa (Obj.mapSeq fun _ => #[]), toks := s0.toks } : Shared) = s1 at S1
      refine wpC_then (wpAny_letGo ?_)
      unfold Builtin.List.listExtendWith
      have hg := S1.isGen (.tail _ ha)
      refine wpC_then (wpAny_typeOf hg.typeIs ?_)
      have h1 : Builtin.List.listSameRef (.ref Sa) (.ref a) = false := by simp [Builtin.List.listSameRef, hne]
      have h2 : (Value.type "generator" == Value.type "list") = false := by decide
      have h3 : (Value.type "generator" == Value.type "tuple") = false := by decide
      simp only [h1, h2, h3, Bool.or_false, Bool.false_eq_true, if_false]
      refine wpC_then (wpAny_pyIter_gen hg ?_)
      refine wpC_then (wpAny_holding ?_)
      unfold Builtin.List.listLengthHint
      refine wpAny_bind (wpAny_specialOf hg.typeIs F.gen_no_len ?_)
      show wpAny _ A.in1.in1 (specialOf (Value.ref a) (Str.ofString "__length_hint__") >>= _) _ _ _
      refine wpAny_bind (wpAny_specialOf hg.typeIs F.gen_no_hint ?_)
      refine wpAny_pure ?_
      show wpC _ A.in1.in1 (rule "list.extend.makes-room" >>= fun _ => Builtin.List.listTouch (.ref Sa) >>= fun _ =>
        again (.builtin "list.extend.loop" ⟨[.ref Sa, .ref a, .none], []⟩)) _ _ _
      refine wpC_then (wpAny_rule ?_)
      refine wpC_then ?_
      show wpAny _ A.in1.in1 (updateSeq Sa (·.push .none) >>= fun _ => updateSeq Sa (·.pop)) _ _ _
      obtain ⟨_, ho1, n1', rfl⟩ := S1.get (.head _)
      refine wpAny_bind (wpAny_updateSeq ho1 rfl ?_ (by simp) (by simp [sizeLine]))
      have hg2 := Heap.get?_update_self (Obj.mapSeq (·.push Value.none)) ho1 rfl
      have S2 := S1.set (P' := lstV [.none]) .head ⟨_, .head _⟩ (Heap.SameBut.update s1.heap Sa (Obj.mapSeq (·.push Value.none))).extBut hg2 ⟨_, rfl⟩
      refine wpAny_updateSeq hg2 rfl ?_ (by simp [sizeLine]) (by simp [sizeLine])
      have hg3 := Heap.get?_update_self (Obj.mapSeq (·.pop)) hg2 rfl
      have S3 := S2.set (P' := lstV []) .head ⟨_, .head _⟩ (Heap.SameBut.update _ Sa (Obj.mapSeq (·.pop))).extBut hg3 ⟨_, rfl⟩
      refine wpC_of (wpAny_pure ⟨plainId_quiet F.plain_extend_loop _, ?_⟩)
      refine codeC_builtin F.entry_extend_loop ?_
      rw [Around.under_plainId F.plain_extend_loop _]
      show wpC _ A.in1.in1 (pyNext (.ref a) >>= _) _ _ _
      exact wpC_bind (wpC_mono (h Sa _ S3) (fun _ _ x => x.elim) fun _ _ x => x)
/-- the first row of a reader that refuses its wish -/
theorem c_pyNext_bad {a C f : Addr} {g : Nat} {cd v1 v2 : Value} {cls : String} {txt : Str} {Q : Option Value → Shared → Prop} {F : Ledger} {GF : GLedger} (B : Bs b mg mb names) (hT : TryBadC prog w b v2 cls txt) (hs : isSubtype (.type cls) (.type "StopIteration") = pure false)
    (hA : Ar A 1) (hfr : A.frames = some outer) (hf : FmsOk outer F)
    (S : St b s ((a, genC g) :: (C, frC (fl0 v1 v2)) :: F) ((g, IsFresh (rEnv C f cd)) :: GF))
    (h : ∀ e t T u s', St b s' (excL e t T cls [.str txt u] .none ++ ((a, genC g) :: F)) ((g, IsFin) :: GF) → E (.ref e) s') :
    wpC (model prog w) A (pyNext (.ref a)) Q E s := by
  unfold pyNext
  refine wpC_first (wpC_attempt ?_)
  (with_reducible refine c_dnext_bad (outer := outer) (cls := cls) (txt := txt) B hT hs hA hfr hf S ?_)
  intro e t T u s' S'
  refine wpAny_bind (wpAny_isInstance (T := cls) (b := false) S'.excType hs ?_)
  exact wpAny_throw (h e t T u s' S')
/-- list(..) of a reader that refuses its wish -/
theorem c_list_bad {a C f : Addr} {g : Nat} {cd v1 v2 : Value} {cls : String} {txt : Str} {Q : Value → Shared → Prop} {F : Ledger} {GF : GLedger} (B : Bs b mg mb names) (hT : TryBadC prog w b v2 cls txt) (hs : isSubtype (.type cls) (.type "StopIteration") = pure false)
    (hA : Ar A 1) (hfr : A.frames = some outer) (hf : FmsOk outer F)
    (S : St b s ((a, genC g) :: (C, frC (fl0 v1 v2)) :: F) ((g, IsFresh (rEnv C f cd)) :: GF))
    (h : ∀ e t T u s', St b s' (excL e t T cls [.str txt u] .none ++ F) GF → E (.ref e) s') :
    wpC (model prog w) A (call (.type "list") [.ref a]) Q E s := by
  refine c_listX S (.head _) fun Sa s₁ S₁ => ?_
  have S₂ : St b s₁ ((a, genC g) :: (C, frC (fl0 v1 v2)) :: ((Sa, lstV []) :: F)) ((g, IsFresh (rEnv C f cd)) :: GF) := S₁.perm (perm_swap3 [(a, genC g), (C, frC (fl0 v1 v2))] [(Sa, lstV [])] F)
  have hA2 : Ar A.in1.in1 1 := hA.in1.in1
  have hfr2 : A.in1.in1.frames = some outer := hfr
  have hf2 : FmsOk outer ((Sa, lstV []) :: F) := hf.sub fun a fl h => ⟨fl, .tail _ h⟩
  (with_reducible refine c_pyNext_bad (outer := outer) (cls := cls) (txt := txt) B hT hs hA2 hfr2 hf2 S₂ ?_)
  intro e t T u s' S'
  refine h e t T u s' ((S'.sub (.cons_cons _ (.cons_cons _ (.cons_cons _ (.cons _ (.cons _ (.refl _))))))).gsub (.cons _ (.refl _)))
end
end Mine

-- part P1q
open PySem PySem.W PySem.W.X PyProof.Rows PySem.Calls PySem.Spec PySem.SeqAt
set_option Elab.async false
set_option maxRecDepth 100000
set_option maxHeartbeats 1000000
set_option linter.all false
namespace Mine
abbrev excLK (e t T : Addr) (cls : String) (args : List Value) (fl : Value) (K : VP) : Ledger := [(e, excC cls (.ref t) (.ref T) K), (T, tbC fl), (t, tupV args)]
abbrev excNK (e t : Addr) (cls : String) (args : List Value) (K : VP) : Ledger := [(e, excC cls (.ref t) .none K), (t, tupV args)]
/-- the context of an exception: none, or one without a context -/
inductive CtxK : Value → Ledger → Prop
  | no : CtxK .none []
  | one (k : Addr) (cls : String) (t tb : Value) : CtxK (.ref k) [(k, excC cls t tb (vE .none))]
section
variable {prog : Program} {w : World} {A : Around} {E : Value → Shared → Prop} {b s : Shared} {L L' : Ledger} {G : GLedger} {env : Env} {outer : List Env} {Q : Unit → Shared → Prop} {K : VP}
theorem k_noteX0 {e t : Addr} {cls : String} {args : List Value} (S : St b s (excNK e t cls args K ++ L) G) (hfr : A.frames = some (env :: outer)) (hf : FmsOk (env :: outer) L)
    (h : ∀ T s', St b s' (excLK e t T cls args (rawInt env.locals) K ++ L) G → Q () s') : wpAny (model prog w) A (noteFrame (.ref e) env) Q E s := by
  refine r_note1 S hfr (hf.app _) (.head _) fun T s' L' u S' => ?_
  have e1 : L' = [(e, excC cls (.ref t) (.ref T) K), (t, tupV args)] ++ L := by
    cases u with
    | head => rfl
    | tail u =>
      obtain ⟨P, hP⟩ := u.has
      exact absurd (List.mem_map_of_mem (f := (·.1)) hP) (List.nodup_cons.mp S.nodup).1
  subst e1
  exact h T s' (S'.perm (.swap _ _ _))
theorem k_noteXA {e t T : Addr} {cls : String} {args : List Value} (S : St b s (excLK e t T cls args (rawInt env.locals) K ++ L) G) (hf : FmsOk (env :: outer) L)
    (h : Q () s) : wpAny (model prog w) A (noteFrame (.ref e) env) Q E s :=
  r_noteAgain S (hf env (.head _)).2.1 (.head _) (.tail _ (.head _)) h
theorem k_noteX {e t T : Addr} {cls : String} {args : List Value} (S : St b s (excLK e t T cls args .none K ++ L) G) (hfr : A.frames = some (env :: outer)) (hf : FmsOk (env :: outer) L)
    (h : ∀ T s', St b s' (excLK e t T cls args (rawInt env.locals) K ++ L) G → Q () s') : wpAny (model prog w) A (noteFrame (.ref e) env) Q E s := by
  refine r_noteNext S hfr (hf.app _) (.head _) (.tail _ (.head _)) fun T' s' L' u S' => ?_
  have e1 : L' = [(e, excC cls (.ref t) (.ref T') K), (T, tbC .none), (t, tupV args)] ++ L := by
    cases u with
    | head => rfl
    | tail u =>
      obtain ⟨P, hP⟩ := u.has
      exact absurd (List.mem_map_of_mem (f := (·.1)) hP) (List.nodup_cons.mp S.nodup).1
  subst e1
  exact h T' s' ((S'.sub (L' := (T', tbC (rawInt env.locals)) :: (e, excC cls (.ref t) (.ref T') K) :: (t, tupV args) :: L) (.cons_cons _ (.cons_cons _ (.cons _ (.refl _))))).perm (.swap _ _ _))
theorem k_flightX {e t T : Addr} {cls : String} {args : List Value} {fl : Value} {fr : Option Addr} (S : St b s (excLK e t T cls args fl K ++ L) G)
    (h : ∀ s', St b s' (excLK e t T cls args (fr.elim .none fun f => rawInt f) K ++ L) G → Q () s') : wpAny (model prog w) A (setFlight (.ref e) fr) Q E s :=
  r_flight S (.head _) (.tail _ (.head _)) (.tail .head) h
theorem St.kType {e t T : Addr} {cls : String} {args : List Value} {fl : Value} (S : St b s (excLK e t T cls args fl K ++ L) G) : s.TypeIs (.ref e) cls :=
  let ⟨o, ho, _, hc, _⟩ := S.get (.head _); ⟨o, ho, hc⟩
/-- back from a loop or a handler -/
theorem k_cameBack {e t T : Addr} {cls : String} {args : List Value} {fl : Value} {E : Value → Shared → Prop} (hf : env.frame = some env.locals) (S : St b s (excLK e t T cls args fl K ++ L) G)
    (h : ∀ s', St b s' (excLK e t T cls args (rawInt env.locals) K ++ L) G → E (.ref e) s') : cameBackBy (model prog w) A env E (.ref e) s := by
  obtain ⟨oe, hoe, vs, hc, hed, hv0, hv1, cx, hv2, hK⟩ := S.get (.head _)
  unfold cameBackBy
  refine wpAny_bind (wpAny_field hoe hed (x := .ref T) hv1 ?_)
  rw [if_neg (show ¬ ((Value.ref T == Value.none) = true) from by simp)]
  rw [hf]
  exact k_flightX S h
end
section
variable {prog : Program} {w : World} {A : Around} {E : Value → Shared → Prop} {b s : Shared} {L L' : Ledger} {G : GLedger} {mg mb : Str → Option Value} {names : List Str} {outer : List Env}
theorem k_tryKey {C f : Addr} {cd v2 : Value} {n : Int} {txt : Str} {fl : List (Str × VP)} {Q : Flow → Shared → Prop} (B : Bs b mg mb names) (h1 : n ≠ 1) (h2 : n ≠ 2) (hI : IntTo prog w b v2 n) (hP : PctTo prog w b v2 txt) (hh : A.handled = none)
    (hfr : A.frames = some (rEnv C f cd :: outer)) (hf : FmsOk (rEnv C f cd :: outer) L) (S : St b s L G) (hC : (C, frC fl) ∈ L) (hw : (("which" : Str), vE v2) ∈ fl)
    (hint : ("int" : Str) ∉ names) (hke : ("KeyError" : Str) ∉ names) (hve : ("ValueError" : Str) ∉ names)
    (h : ∀ e t T u cx Kx s', CtxK cx Kx → St b s' (excLK e t T "ValueError" [.str txt u] (rawInt C) (vE cx) ++ (Kx ++ L)) G → E (.ref e) s') :
    wpAny (model prog w) A (exec rTry (rEnv C f cd)) Q E s := by
  conv in rTry => whnf
  (with_reducible refine wpAny_Try_except ?_)
  (with_reducible refine wpAny_execs_cons ?_)
  (with_reducible refine wpAny_Assign_Name ?_ ?_)
  rotate_left
  · kernel_rfl
  (with_reducible refine Subscript_ ?_)
  with_reducible refine rg_dict B S ?_
  intro d s₁ S₁ hds
  refine r_callT1 (T := "int") B S₁ boot_int ?_ (hfree := hint)
  refine r_name S₁ (.tail _ hC) hw fun v hv => ?_
  cases hv
  refine hI A _ _ _ G _ hh S₁ fun t s₂ S₂ => ?_
  obtain ⟨o, ho, t1, t2, hd⟩ := S₂.get (.head _)
  have hm := (hd _ ho).mapOf
  have hv : valueAt [((1 : Int), Value.str "- " t1), (2, Value.str "+ " t2)] n = none := by
    simp [valueAt, h1, h2, Ne.symm h1, Ne.symm h2]
  refine tail_any hm.typeIs slot_dict_getitem.lookup (wpAny_getItem_missing_of (by simp [intKind, Value.isInt]) hds hh hm hv fun h' k hx => ?_) rfl
  obtain ⟨ok, tv, hok, hkc, hkd⟩ := hx.there
  have S₃ : St b { s₂ with heap := h', toks := s₂.toks + 1 } ((k, excC "KeyError" tv .none (vE .none)) :: L) G := (S₂.new (P := excC "KeyError" tv .none (vE .none)) hx.new hx.keeps hok (excC_mk (r := [.none, .bool false, .none]) hkc hkd rfl)).sub (.cons_cons _ (List.sublist_cons_self _ _))
  have hf3 : FmsOk (rEnv C f cd :: outer) ((k, excC "KeyError" tv .none (vE .none)) :: L) := hf.sub fun a fl h => ⟨fl, .tail _ h⟩
  refine r_note1 S₃ hfr hf3 (.head _) fun T s₄ L' u S₄ => ?_
  have e1 : L' = (k, excC "KeyError" tv (.ref T) (vE .none)) :: L := by
    cases u with
    | head => rfl
    | tail u =>
      obtain ⟨P, hP⟩ := u.has
      exact absurd (List.mem_map_of_mem (f := (·.1)) hP) (List.nodup_cons.mp S₃.nodup).1
  subst e1
  refine r_flight (fr := none) S₄ (.tail _ (.head _)) (.head _) .head fun s₅ S₅ => ?_
  refine wpAny_handleBy_builtin (X := "KeyError") (T := "KeyError") (b := true) sub_key_base key_nt sub_key_key ?_
  refine r_bname B S₅ (v := .type "KeyError") (by decide +kernel) ?_ hke
  obtain ⟨okk, hokk, _, hc, _⟩ := S₅.get (.tail _ (.head _))
  refine ⟨rfl, ⟨okk, hokk, hc⟩, ?_⟩
  rw [if_pos rfl]
  refine r_flight (fr := none) S₅ (.tail _ (.head _)) (.head _) .head fun s₆ S₆ => ?_
  refine wpAny_execs_cons ?_
  rw [arm_exec_Raise]
  refine wpAny_bind (wpAny_standAt ?_)
  show wpAny (model prog w) (A.mark (some (.ref k))) (raiseStmt (rEnv C f cd) (some _) (some _)) _ _ _
  refine w_raiseFrom PySem.F.excRaise_ValueError (k := k) rfl (fun s Q hQ => ?_) ?_
  · refine wpAny_bind (wpAny_Constant_none (wpAny_bind (wpAny_standAt (wpAny_pure hQ))))
  refine wpAny_bind ?_
  refine wpAny_Call_ofName ?_
  refine r_bname B S₆ (v := .type "ValueError") (by decide +kernel) ?_ hve
  refine callWith_excType rfl ?_
  refine Calls.evalArgs_plain (Calls.spliced_cons ?_)
  refine wpAny_BinOp ?_
  refine r_str S₆ fun t0 s₇ S₇ => ?_
  refine r_name S₇ (.tail _ (.tail _ hC)) hw fun v hv => ?_
  cases hv
  refine hP _ _ _ _ _ _ _ S₇ fun t4 s₈ S₈ => ?_
  refine Calls.spliced_nil ?_
  refine wpAny_call_exc PySem.F.excCall_ValueError (hrest := by simp [sizeLine]) fun h₁ e hm => ?_
  refine wpAny_bind (wpAny_standAt (wpAny_pure ?_))
  obtain ⟨t9, S₉, he⟩ := S₈.made (tk := s₈.toks) hm
  obtain ⟨ok2, hok2, vs2, hc2, hd2, hv0, hv1, cx2, hv2, hK2⟩ := S₉.get (a := k) (.tail _ (.tail _ (.tail _ (.head _))))
  cases hK2
  refine ⟨e, t9, ok2, _, rfl, ?_, he, hok2, hd2, hv2, fun h₂ hsb he2 => ?_⟩
  · intro e0
    exact (List.nodup_cons.mp S₉.nodup).1 (by rw [← e0]; exact .tail _ (.tail _ (.head _)))
  have SA : St b { s₈ with heap := h₂ } (excNK e t9 "ValueError" [.str txt t4] (vE (.ref k)) ++ ((k, excC "KeyError" tv (.ref T) (vE .none)) :: L)) G :=
    (S₉.set (P' := excC "ValueError" (.ref t9) .none (vE (.ref k))) .head ⟨_, .head _⟩ hsb.extBut he2 (excC_mk (r := [.none, .bool true, .none]) rfl rfl rfl)).sub (.cons_cons _ (.cons_cons _ (.cons _ (.refl _))))
  have hfA : FmsOk (rEnv C f cd :: outer) ((k, excC "KeyError" tv (.ref T) (vE .none)) :: L) := hf.app [_]
  refine k_noteX0 (A := A.mark (some (.ref k))) (outer := outer) SA hfr hfA fun T' sB SB => ?_
  exact k_cameBack rfl SB fun sC SC => h _ _ _ _ _ _ _ (.one k "KeyError" tv (.ref T)) SC

theorem k_leave {e t T : Addr} {K : VP} {cls : String} {args : List Value} {P : End → Shared → Prop} {c : Code} {env : Env} (hf : FmsOk (env :: outer) L) (S : St b s (excLK e t T cls args (rawInt env.locals) K ++ L) G)
    (h : ∀ s', St b s' (excLK e t T cls args .none K ++ L) G → P (.ret (.error (.ref e))) s') : SegX (model prog w) A c (rLeave env (.ref e)) [] s P := by
  unfold rLeave leaving
  refine sx_wrap ?_
  refine wpAny_bind (k_noteXA S hf ?_)
  refine k_flightX (fr := none) S fun s' S' => ?_
  exact s_end _ _ _ _ _ _ (.error (.ref e)) _ rfl (h s' S')
end
section
variable {prog : Program} {w : World} {A : Around} {E : Value → Shared → Prop} {b s : Shared} {L L' : Ledger} {G : GLedger} {mg mb : Str → Option Value} {names : List Str}
theorem k_fromText {x : Str} {u : Tok} {Q : Value → Shared → Prop} (hh : A.handled = none) (S : St b s L G) (hl : x.length ≤ 640) (hn : PySem.intText? x = none) (hz : (reprText x).length ≤ sizeLine) (hm : (msgI x).length ≤ sizeLine)
    (h : ∀ e t u s', St b s' (excNK e t "ValueError" [.str (msgI x) u] (vE .none) ++ L) G → E (.ref e) s') :
    wpC (model prog w) A ((int_private% "intFromText") (.str x u) (numTextOf x) 10) Q E s := by
  have hs : (numSeenOf x).length ≤ 640 := Nat.le_trans (seen_length x) hl
  have hr : (int_private% "readNumeral") 0 10 (numSeenOf x) = (int_private% "Numeral.invalid") ∨ ∃ i, (int_private% "readNumeral") 0 10 (numSeenOf x) = (int_private% "Numeral.value") i ∧ ¬ ((numSeenOf x).length == (numTextOf x).length) = true := by
    rcases read0 x hs with ⟨m, h1, _⟩ | ⟨_, h2⟩
    · rw [hn] at h1; cases h1
    · exact h2
  refine wpC_iteT (c := (numSeenOf x).length ≤ 640) hs ?_
  refine wpC_then (wpAny_pure ?_)
  have tail : ∀ {Q : Value → Shared → Prop}, wpC (model prog w) A (do
      let shown ← pyRepr (.str x u)
      let refusal ← newExc (.type "ValueError") [← mkStr (preI ++ (⟨shown.cps.extract 0 200⟩ : Str))]
      markTheRefusal ["int.__new__"] refusal
      raiseNew refusal) Q E s := by
    intro Q
    refine wpC_then (wpAny_pyRepr_str ?_ hz)
    have S₀ := S.toks (s.toks + 1)
    refine wpC_then (wpAny_mkStr ?_ hm)
    have S₀ := S₀.toks (s.toks + 1 + 1)
    refine wpC_then ?_
    unfold newExc
    refine wpAny_bind (r_newTuple S₀ (P := tupV [.str (msgI x) (s.toks + 1)]) tupV_mk fun t s₁ S₁ => ?_)
    refine wpAny_bind (m := firstArgMember _ _) (wpAny_of_eq (a := Value.none) (by first | rfl | (simp only [firstArgMember]; rfl)) ?_)
    rw [ownMembersOf_ValueError]
    refine wpAny_newObj_type ?_ (by size_fits)
    have S₂ := S₁.alloc (o := { cls := .type "ValueError", data := .fields (#[.ref t, .none, .none, .none, .bool false, .none] ++ #[]) }) (P := excC "ValueError" (.ref t) .none (vE .none)) ⟨_, rfl, rfl, rfl, rfl, .none, rfl, rfl⟩
    refine wpC_bind (c_mark ?_)
    refine wpC_of ?_
    simp only [raiseNew]
    refine wpAny_bind (wpAny_handled ?_)
    rw [hh]
    refine wpAny_bind (wpAny_pure (wpAny_throw ?_))
    exact h _ _ _ _ S₂
  have e1 : Str.ofString (toString "invalid literal for int() with base " ++ toString (10 : Nat) ++ toString ": ") = preI := by decide +kernel
  delta numSeenOf at hr
  dsimp only
  rcases hr with hr | ⟨i, hr, hne⟩
  · rw [hr]
    dsimp only
    refine wpC_then (wpAny_of_eq (a := none) rfl ?_)
    refine wpC_iteF (by simp) ?_
    refine wpC_then (wpAny_rule ?_)
    refine wpC_then (wpAny_of_eq (a := none) rfl ?_)
    rw [e1]
    exact tail
  · rw [hr]
    dsimp only
    refine wpC_iteF hne ?_
    refine wpC_then (wpAny_rule ?_)
    refine wpC_then (wpAny_of_eq (a := none) rfl ?_)
    rw [e1]
    exact tail
/-- int(x), x a text that is no number -/
theorem k_intBad {x : Str} {u : Tok} {Q : Value → Shared → Prop} (hh : A.handled = none) (S : St b s L G) (hl : x.length ≤ 640) (hn : PySem.intText? x = none) (hz : (reprText x).length ≤ sizeLine) (hm : (msgI x).length ≤ sizeLine)
    (h : ∀ e t u s', St b s' (excNK e t "ValueError" [.str (msgI x) u] (vE .none) ++ L) G → E (.ref e) s') :
    wpC (model prog w) A (call (.type "int") [.str x u]) Q E s :=
  c_intX (c_intNew (k_fromText (A := A.in1.in1) hh S hl hn hz hm h))
/-- raise TypeError(msg), where nothing is handled -/
theorem k_raiseT {α : Type} {msg : String} {Q : α → Shared → Prop} (hh : A.handled = none) (S : St b s L G) (hz : (msg : Str).length ≤ sizeLine) (h : ∀ e t u s', St b s' (excNK e t "TypeError" [.str msg u] (vE .none) ++ L) G → E (.ref e) s') :
    wpAny (model prog w) A (raiseErrorMade "TypeError" msg : Sem α) Q E s := by
  unfold raiseErrorMade
  refine wpAny_bind (wpAny_mkStr ?_ hz)
  have S₀ := S.toks (s.toks + 1)
  refine wpAny_bind ?_
  unfold newExc
  refine wpAny_bind (r_newTuple S₀ (P := tupV [.str msg s.toks]) tupV_mk fun t s₁ S₁ => ?_)
  refine wpAny_bind (m := firstArgMember _ _) (wpAny_of_eq (a := Value.none) (by first | rfl | (simp only [firstArgMember]; rfl)) ?_)
  rw [ownMembersOf_TypeError]
  refine wpAny_newObj_type ?_ (by size_fits)
  have S₂ := S₁.alloc (o := { cls := .type "TypeError", data := .fields (#[.ref t, .none, .none, .none, .bool false, .none] ++ #[]) }) (P := excC "TypeError" (.ref t) .none (vE .none)) ⟨_, rfl, rfl, rfl, rfl, .none, rfl, rfl⟩
  simp only [raiseNew]
  refine wpAny_bind (wpAny_handled ?_)
  rw [hh]
  refine wpAny_bind (wpAny_pure (wpAny_throw ?_))
  exact h _ _ _ _ S₂


/-- int(None) -/
theorem k_intNone {Q : Value → Shared → Prop} (hh : A.handled = none) (S : St b s L G)
    (h : ∀ e t u s', St b s' (excNK e t "TypeError" [.str msgN u] (vE .none) ++ L) G → E (.ref e) s') :
    wpC (model prog w) A (call (.type "int") [.none]) Q E s := by
  refine c_intX ?_
  have hh' : A.in1.in1.handled = none := hh
  generalize A.in1.in1 = A' at hh'
  have f0 : isType (.type "int") = pure true := rfl
  unfold Builtin.«int.__new__»
  dsimp only
  simp only [f0, F.conv_sub_int, F.madeHere_int, pure_bind]
  refine wpC_iteF (by decide) ?_
  refine wpC_iteF (by decide) ?_
  refine wpC_iteF (by simp) ?_
  refine wpC_iteF (by simp) ?_
  simp only [List.forIn_nil, pure_bind]
  show wpC _ _ ((int_private% "intFromObject") Value.none >>= _) _ _ _
  refine wpC_of (wpAny_bind (wpAny_mono (Q := fun _ _ => False) (E := E) ?_ (fun _ _ z => z.elim) fun _ _ z => z))
  have f3 := no_int
  have f4 := no_idx
  have f5 := no_trunc
  have f7 := no_buf
  have f6 : typeOf .none = pure (.type "NoneType") := rfl
  refine wpAny_bind (m := callSpecial? .none "__int__") ?_
  repeat wp_step
  have e1 : Str.ofString (toString "int() argument must be a string, a bytes-like object or a real number, not '" ++ toString ((Manifest.find? "NoneType").elim "NoneType" fun x => x.tpName) ++ toString "'") = msgN := by decide +kernel
  generalize (toString "int() argument must be a string, a bytes-like object or a real number, not '" ++ toString ((Manifest.find? "NoneType").elim "NoneType" fun x => x.tpName) ++ toString "'") = m at e1 ⊢
  refine k_raiseT hh' S (by rw [e1]; decide +kernel) fun e t u s' S' => h e t u s' ?_
  rw [← e1]
  exact S'
/-- the reader's head refuses the wish, under the caller -/
def TryBadK (prog : Program) (w : World) (b : Shared) (v2 : Value) (cls : String) (txt : Str) : Prop :=
  ∀ (A : Around) (E : Value → Shared → Prop) (s : Shared) (L : Ledger) (G : GLedger) (Q : Flow → Shared → Prop) (C f : Addr) (cd : Value) (outer : List Env) (fl : List (Str × VP)), A.handled = none → A.frames = some (rEnv C f cd :: outer) → FmsOk (rEnv C f cd :: outer) L → St b s L G → (C, frC fl) ∈ L → (("which" : Str), vE v2) ∈ fl →
    (∀ e t T u cx Kx s', CtxK cx Kx → St b s' (excLK e t T cls [.str txt u] (rawInt C) (vE cx) ++ (Kx ++ L)) G → E (.ref e) s') → wpC (model prog w) A (exec rTry (rEnv C f cd)) Q E s
theorem tryK_int {x : Str} {u : Tok} (B : Bs b mg mb names) (hint : ("int" : Str) ∉ names) (hke : ("KeyError" : Str) ∉ names) (hl : x.length ≤ 640) (hn : PySem.intText? x = none) (hz : (reprText x).length ≤ sizeLine) (hm : (msgI x).length ≤ sizeLine) :
    TryBadK prog w b (.str x u) "ValueError" (msgI x) := by
  intro A E s L G Q C f cd outer fl hh hfr hf S hC hw h
  conv in rTry => whnf
  (with_reducible refine c_Try ?_)
  (with_reducible refine c_seq ?_)
  (with_reducible refine c_Assign ?_ ?_)
  rotate_left
  · kernel_rfl
  (with_reducible refine c_Subscript ?_)
  with_reducible refine rg_dict B S ?_
  intro d s₁ S₁ hds
  refine c_callT1 (T := "int") B S₁ boot_int ?_ (hfree := hint)
  refine r_name S₁ (.tail _ hC) hw fun v hv => ?_
  cases hv
  refine k_intBad hh S₁ hl hn hz hm fun e t u s' S' => ?_
  have S2 : St b s' (excNK e t "ValueError" [.str (msgI x) u] (vE .none) ++ L) G := S'.sub (.cons_cons _ (.cons_cons _ (.cons _ (.refl _))))
  refine k_noteX0 S2 hfr hf fun T s₂ S₂ => ?_
  refine k_flightX (fr := none) S₂ fun s₃ S₃ => ?_
  refine wpAny_handleBy_builtin (X := "ValueError") (T := "KeyError") (b := false) key_base key_nt sub_val_key ?_
  refine r_bname B S₃ (v := .type "KeyError") (by decide +kernel) ?_ hke
  refine ⟨rfl, St.kType S₃, ?_⟩
  rw [if_neg Bool.false_ne_true]
  refine wpAny_handleBy_nil ?_
  unfold PySem.passOn
  obtain ⟨oe, hoe, vs, hc, hed, hv0, hv1, cx, hv2, hK⟩ := S₃.get (.head _)
  refine wpAny_bind (wpAny_field hoe hed (x := .ref T) hv1 ?_)
  rw [if_neg (show ¬ ((Value.ref T == Value.none) = true) from by simp)]
  refine wpAny_bind (k_flightX (fr := some C) S₃ fun s₄ S₄ => ?_)
  exact wpAny_throw (h e t T u .none [] s₄ .no S₄)
theorem tryK_none (B : Bs b mg mb names) (hint : ("int" : Str) ∉ names) (hke : ("KeyError" : Str) ∉ names) : TryBadK prog w b .none "TypeError" msgN := by
  intro A E s L G Q C f cd outer fl hh hfr hf S hC hw h
  conv in rTry => whnf
  (with_reducible refine c_Try ?_)
  (with_reducible refine c_seq ?_)
  (with_reducible refine c_Assign ?_ ?_)
  rotate_left
  · kernel_rfl
  (with_reducible refine c_Subscript ?_)
  with_reducible refine rg_dict B S ?_
  intro d s₁ S₁ hds
  refine c_callT1 (T := "int") B S₁ boot_int ?_ (hfree := hint)
  refine r_name S₁ (.tail _ hC) hw fun v hv => ?_
  cases hv
  refine k_intNone hh S₁ fun e t u s' S' => ?_
  have S2 : St b s' (excNK e t "TypeError" [.str msgN u] (vE .none) ++ L) G := S'.sub (.cons_cons _ (.cons_cons _ (.cons _ (.refl _))))
  refine k_noteX0 S2 hfr hf fun T s₂ S₂ => ?_
  refine k_flightX (fr := none) S₂ fun s₃ S₃ => ?_
  refine wpAny_handleBy_builtin (X := "TypeError") (T := "KeyError") (b := false) key_base key_nt sub_ty_key ?_
  refine r_bname B S₃ (v := .type "KeyError") (by decide +kernel) ?_ hke
  refine ⟨rfl, St.kType S₃, ?_⟩
  rw [if_neg Bool.false_ne_true]
  refine wpAny_handleBy_nil ?_
  unfold PySem.passOn
  obtain ⟨oe, hoe, vs, hc, hed, hv0, hv1, cx, hv2, hK⟩ := S₃.get (.head _)
  refine wpAny_bind (wpAny_field hoe hed (x := .ref T) hv1 ?_)
  rw [if_neg (show ¬ ((Value.ref T == Value.none) = true) from by simp)]
  refine wpAny_bind (k_flightX (fr := some C) S₃ fun s₄ S₄ => ?_)
  exact wpAny_throw (h e t T u .none [] s₄ .no S₄)
theorem tryK_key {v2 : Value} {n : Int} {txt : Str} (B : Bs b mg mb names) (h1 : n ≠ 1) (h2 : n ≠ 2) (hI : IntTo prog w b v2 n) (hP : PctTo prog w b v2 txt) (hint : ("int" : Str) ∉ names) (hke : ("KeyError" : Str) ∉ names) (hve : ("ValueError" : Str) ∉ names) :
    TryBadK prog w b v2 "ValueError" txt := by
  unfold TryBadK
  intro A E s L G Q C f cd outer fl hh hfr hf S hC hw h
  refine wpC_of ?_
  with_reducible exact k_tryKey B h1 h2 hI hP hh hfr hf S hC hw hint hke hve h
end
section
variable {prog : Program} {w : World} {A : Around} {E : Value → Shared → Prop} {b s : Shared} {L L' : Ledger} {G : GLedger} {mg mb : Str → Option Value} {names : List Str} {outer : List Env} {env : Env} {P : End → Shared → Prop}
theorem k_bad {C f a : Addr} {cd v1 v2 : Value} {cls : String} {txt : Str} (hT : TryBadK prog w b v2 cls txt) (hh : A.handled = none) (hfr : A.frames = some outer) (hf : FmsOk outer L) (hC : (C, frC (fl0 v1 v2)) ∈ L) (S : St b s L G)
    (h : ∀ e t T u cx Kx s', CtxK cx Kx → St b s' (excLK e t T cls [.str txt u] .none (vE cx) ++ (Kx ++ L)) G → P (.ret (.error (.ref e))) s') :
    SegC (model prog w) A (.func rBody (rEnv C f cd)) (denote table (.func rBody (rEnv C f cd))) [] s P := by
  have hf' : FmsOk (rEnv C f cd :: outer) L := fun env he => by
    rcases List.mem_cons.mp he with rfl | he
    · exact ⟨rKindE, rfl, _, hC⟩
    · exact hf env he
  refine sc_startX ?_
  unfold TryBadK at hT
  have hfr' : (A.over (.func rBody (rEnv C f cd)) []).frames = some (rEnv C f cd :: outer) := by
    show pushEnvs [rEnv C f cd] (pushEnvs [] A.frames) = _
    rw [hfr]; rfl
  have hh' : (A.over (.func rBody (rEnv C f cd)) []).handled = none := hh
  have hw : (("which" : Str), vE v2) ∈ fl0 v1 v2 := .tail _ (.head _)
  with_reducible refine hT _ _ _ _ _ _ C f cd outer _ hh' hfr' hf' S hC hw ?_
  intro e t T u cx Kx s' hcx S'
  exact k_leave (hf'.app Kx) S' fun s₂ S₂ => h e t T u cx Kx s₂ hcx S₂
/-- the first row of a reader that refuses its wish, under the caller -/
theorem k_dnext_bad {a C f : Addr} {g : Nat} {cd v1 v2 : Value} {cls : String} {txt : Str} {Q : Option Value → Shared → Prop} {F : Ledger} {GF : GLedger} (B : Bs b mg mb names) (hT : TryBadK prog w b v2 cls txt) (hs : isSubtype (.type cls) (.type "StopIteration") = pure false)
    (hA : Ar A 1) (hfr : A.frames = some outer) (hf : FmsOk outer F)
    (S : St b s ((a, genC g) :: (C, frC (fl0 v1 v2)) :: F) ((g, IsFresh (rEnv C f cd)) :: GF))
    (h : ∀ e t T u cx Kx s', CtxK cx Kx → St b s' (excLK e t T cls [.str txt u] .none (vE cx) ++ (Kx ++ F)) GF → E (.ref e) s') :
    wpC (model prog w) A (callSpecial? (.ref a) (Str.ofString "__next__")) Q E s := by
  obtain ⟨gs, hgs, hfresh⟩ := S.gens _ (.head _)
  have hroom : A.depth < recursionLimit := by have := hA.depth; omega
  cases hfresh
  have hg := S.isGen (.head _)
  refine c_callSpecial (name := Str.ofString "__next__") hg.typeIs slot_gen_next (c_entry slot_gen_next hg.typeIs entry_gen_next ?_ (args_gen_next _))
  show wpC _ A.in1 (Builtin.Generator.genWake (.ref a) (.send .none)) _ _ s
  have S0 := S.setGen (P' := IsRun) (gs := .running) .head rfl rfl
  have hf0 : FmsOk outer ((a, genC g) :: (C, frC (fl0 v1 v2)) :: F) := hf.sub fun a fl h => ⟨fl, .tail _ (.tail _ h)⟩
  have hfr1 : A.in1.frames = some outer := hfr
  have hh1 : A.in1.handled = none := hA.handled
  have hC0 : (C, frC (fl0 v1 v2)) ∈ ((a, genC g) :: (C, frC (fl0 v1 v2)) :: F) := .tail _ (.head _)
  have key : SegC (model prog w) A.in1 (.func rBody (rEnv C f cd)) (denote table (.func rBody (rEnv C f cd))) [] (s.setGen g .running)
      (fun e s₁ => ∃ e0 t T u cx Kx, e = .ret (.error (.ref e0)) ∧ CtxK cx Kx ∧ St b s₁ (excLK e0 t T cls [.str txt u] .none (vE cx) ++ (Kx ++ ((a, genC g) :: (C, frC (fl0 v1 v2)) :: F))) ((g, IsRun) :: GF)) := by
    with_reducible refine k_bad (a := a) (v1 := v1) (v2 := v2) hT hh1 hfr1 hf0 hC0 S0 ?_
    intro e t T u cx Kx s' hcx S'
    exact ⟨e, t, T, u, cx, Kx, rfl, hcx, S'⟩
  refine c_wakeX (B.nolimit.keeps S.keep) hroom hg hgs (key.mono ?_)
  rintro _ s' ⟨e, t, T, u, cx, Kx, rfl, hcx, S'⟩
  refine ⟨.ref e, rfl, ?_⟩
  obtain ⟨o, nm, qn, ho, hc, hd, hsl⟩ := S'.isGen (.tail _ (.tail _ (.tail _ (List.mem_append_right Kx (.head _)))))
  have hTy0 : s'.TypeIs (.ref e) cls := St.kType S'
  have hTy : (s'.setGen g .finished).TypeIs (.ref e) cls := hTy0
  unfold Builtin.Generator.genLeft Builtin.Generator.madeByALambda
  refine wpAny_bind (wpAny_bind (wpAny_load (o := o) ho ?_))
  rw [hc, hd]
  refine wpAny_pure (wpAny_bind (wpAny_isInstance (T := cls) (b := false) hTy hs ?_))
  rw [if_neg (by rw [Bool.and_false]; exact Bool.false_ne_true)]
  show wpAny _ A.in1 (Builtin.Generator.genEscaped (.ref e)) _ _ _
  unfold Builtin.Generator.genEscaped
  refine wpAny_bind (wpAny_isInstance (T := cls) (b := false) hTy hs ?_)
  refine wpAny_throw ?_
  have S2 := S'.setGen (P' := IsFin) (gs := .finished) .head rfl rfl
  refine h e t T u cx Kx _ hcx ((S2.sub ?_).gsub (.cons _ (.refl _)))
  exact .cons_cons _ (.cons_cons _ (.cons_cons _ ((List.Sublist.cons _ (.cons _ (.refl _))).append_left Kx)))
/-- the first row of a reader that refuses its wish -/
theorem k_pyNext_bad {a C f : Addr} {g : Nat} {cd v1 v2 : Value} {cls : String} {txt : Str} {Q : Option Value → Shared → Prop} {F : Ledger} {GF : GLedger} (B : Bs b mg mb names) (hT : TryBadK prog w b v2 cls txt) (hs : isSubtype (.type cls) (.type "StopIteration") = pure false)
    (hA : Ar A 1) (hfr : A.frames = some outer) (hf : FmsOk outer F)
    (S : St b s ((a, genC g) :: (C, frC (fl0 v1 v2)) :: F) ((g, IsFresh (rEnv C f cd)) :: GF))
    (h : ∀ e t T u cx Kx s', CtxK cx Kx → St b s' (excLK e t T cls [.str txt u] .none (vE cx) ++ (Kx ++ F)) GF → E (.ref e) s') :
    wpC (model prog w) A (pyNext (.ref a)) Q E s := by
  unfold pyNext
  refine wpC_first (wpC_attempt ?_)
  (with_reducible refine k_dnext_bad (outer := outer) (cls := cls) (txt := txt) B hT hs hA hfr hf S ?_)
  intro e t T u cx Kx s' hcx S'
  refine wpAny_bind (wpAny_isInstance (T := cls) (b := false) (St.kType S') hs ?_)
  exact wpAny_throw (h e t T u cx Kx s' hcx S')
/-- list(..) of a reader that refuses its wish -/
theorem k_list_bad {a C f : Addr} {g : Nat} {cd v1 v2 : Value} {cls : String} {txt : Str} {Q : Value → Shared → Prop} {F : Ledger} {GF : GLedger} (B : Bs b mg mb names) (hT : TryBadK prog w b v2 cls txt) (hs : isSubtype (.type cls) (.type "StopIteration") = pure false)
    (hA : Ar A 1) (hfr : A.frames = some outer) (hf : FmsOk outer F)
    (S : St b s ((a, genC g) :: (C, frC (fl0 v1 v2)) :: F) ((g, IsFresh (rEnv C f cd)) :: GF))
    (h : ∀ e t T u cx Kx s', CtxK cx Kx → St b s' (excLK e t T cls [.str txt u] .none (vE cx) ++ (Kx ++ F)) GF → E (.ref e) s') :
    wpC (model prog w) A (call (.type "list") [.ref a]) Q E s := by
  refine c_listX S (.head _) fun Sa s₁ S₁ => ?_
  have S₂ : St b s₁ ((a, genC g) :: (C, frC (fl0 v1 v2)) :: ((Sa, lstV []) :: F)) ((g, IsFresh (rEnv C f cd)) :: GF) := S₁.perm (perm_swap3 [(a, genC g), (C, frC (fl0 v1 v2))] [(Sa, lstV [])] F)
  have hA2 : Ar A.in1.in1 1 := hA.in1.in1
  have hfr2 : A.in1.in1.frames = some outer := hfr
  have hf2 : FmsOk outer ((Sa, lstV []) :: F) := hf.sub fun a fl h => ⟨fl, .tail _ h⟩
  (with_reducible refine k_pyNext_bad (outer := outer) (cls := cls) (txt := txt) B hT hs hA2 hfr2 hf2 S₂ ?_)
  intro e t T u cx Kx s' hcx S'
  refine h e t T u cx Kx s' hcx (S'.sub ?_)
  exact .cons_cons _ (.cons_cons _ (.cons_cons _ ((List.sublist_cons_self _ F).append_left Kx)))
end
end Mine

-- part P1u
open PySem PySem.W PySem.W.X PyProof.Rows PySem.Calls PySem.Spec PySem.SeqAt
set_option Elab.async false
set_option maxRecDepth 100000
set_option maxHeartbeats 1000000
set_option linter.all false
namespace Mine
/-- the wish, by its form -/
def wishV (n : Int) : Nat → VP
  | 0 => vI n
  | 1 => vS (txtN n)
  | 2 => vS (" " ++ txtN n ++ "\n")
  | 3 => vS (Txt.zfill (txtN n) 5)
  | 4 => fun v => ∃ t, v = .bytes (bytesN n) t
  | 5 => vE (.bool (n == 1))
  | 6 => vS ("x" ++ txtN n)
  | _ => vE .none
def wishT (n : Int) : Nat → Str
  | 1 => txtN n
  | 2 => " " ++ txtN n ++ "\n"
  | 3 => Txt.zfill (txtN n) 5
  | _ => "x" ++ txtN n
def rpS (n : Int) : Nat → Str
  | 0 => Str.ofString (toString n)
  | 1 => reprText (wishT n 1)
  | 2 => reprText (wishT n 2)
  | 3 => reprText (wishT n 3)
  | 4 => reprB n
  | 5 => if (n == 1) then ("True" : Str) else "False"
  | 6 => reprText (wishT n 6)
  | _ => "None"
def sideN (n : Int) : Nat → Int
  | 5 => if (n == 1) = true then 1 else 0
  | 6 => 0
  | 7 => 0
  | _ => n
def wordsN (n : Int) (k : Nat) : Str := (if k = 6 then preI else preR) ++ rpS n k
theorem wishT_facts {n : Int} (hn : Five n) : ∀ k, k = 1 ∨ k = 2 ∨ k = 3 → (wishT n k).length ≤ 640 ∧ PySem.intText? (wishT n k) = some n ∧ (reprText (wishT n k)).length ≤ 1000 := by
  rintro k (rfl | rfl | rfl) <;> rcases hn with rfl | rfl | rfl | rfl | rfl <;> decide +kernel
theorem wishX_facts {n : Int} (hn : Five n) : (wishT n 6).length ≤ 640 ∧ PySem.intText? (wishT n 6) = none ∧ (reprText (wishT n 6)).length ≤ 200 := by
  rcases hn with rfl | rfl | rfl | rfl | rfl <;> decide +kernel
theorem int_facts {n : Int} (hn : Five n) : n.natAbs.log2 < 1920 ∧ (Str.ofString (toString n)).length ≤ 1000 := by
  rcases hn with rfl | rfl | rfl | rfl | rfl <;> decide +kernel
theorem reprB_len {n : Int} (hn : Five n) : (reprB n).length ≤ 1000 := by
  rcases hn with rfl | rfl | rfl | rfl | rfl <;> decide +kernel
theorem rpS_len {n : Int} (hn : Five n) {k : Nat} (hk : k < 8) : (rpS n k).length ≤ 1000 := by
  match k, hk with
  | 0, _ => exact (int_facts hn).2
  | 1, _ => exact (wishT_facts hn 1 (.inl rfl)).2.2
  | 2, _ => exact (wishT_facts hn 2 (.inr (.inl rfl))).2.2
  | 3, _ => exact (wishT_facts hn 3 (.inr (.inr rfl))).2.2
  | 4, _ => exact reprB_len hn
  | 5, _ => show (if (n == 1) = true then ("True" : Str) else "False").length ≤ 1000; split <;> decide +kernel
  | 6, _ => exact Nat.le_trans (wishX_facts hn).2.2 (by decide)
  | 7, _ => show ("None" : Str).length ≤ 1000; decide +kernel
section
variable {prog : Program} {w : World} {A : Around} {E : Value → Shared → Prop} {b s : Shared} {L : Ledger} {G : GLedger} {mg mb : Str → Option Value} {names : List Str} {v : Value} {n : Int} {k : Nat}
/-- repr(wish) -/
theorem r_reprW {Q : Value → Shared → Prop} (hn : Five n) (hk : k < 8) (hv : wishV n k v) (S : St b s L G) (h : ∀ t s', St b s' L G → Q (.str (rpS n k) t) s') : wpAny (model prog w) A (call (.builtin "repr") [v]) Q E s := by
  have h9 : sizeLine = 16777216 := by decide
  have hl := rpS_len hn hk
  match k, hk, hv, hl, h with
  | 0, _, hv, hl, h => obtain ⟨t, rfl⟩ := hv; exact PySem.P.repr_of_int (int_facts hn).1 (h _ _ (S.toks _))
  | 1, _, hv, hl, h => obtain ⟨t, rfl⟩ := hv; exact PySem.P.repr_of_str (h _ _ (S.toks _)) (Nat.le_trans hl (by omega))
  | 2, _, hv, hl, h => obtain ⟨t, rfl⟩ := hv; exact PySem.P.repr_of_str (h _ _ (S.toks _)) (Nat.le_trans hl (by omega))
  | 3, _, hv, hl, h => obtain ⟨t, rfl⟩ := hv; exact PySem.P.repr_of_str (h _ _ (S.toks _)) (Nat.le_trans hl (by omega))
  | 4, _, hv, hl, h => obtain ⟨t, rfl⟩ := hv; exact call_repr_gives (typeIs_bytes s _ t) slot_bytes_repr entry_bytes_repr (args_bytes_repr_1 _) (gives_reprB hn t) (h _ _ (S.toks _)) (hx := Nat.le_trans hl (by omega))
  | 5, _, hv, hl, h => cases hv; exact PySem.P.repr_of_bool (h _ _ (S.toks _))
  | 6, _, hv, hl, h => obtain ⟨t, rfl⟩ := hv; exact PySem.P.repr_of_str (h _ _ (S.toks _)) (Nat.le_trans hl (by omega))
  | 7, _, hv, hl, h => cases hv; exact PySem.P.repr_of_none (h _ _ (S.toks _))
/-- the number that it stands for, and its show -/
theorem wish_int (hn : Five n) (hk : k ≤ 5) (hv : wishV n k v) : IntTo prog w b v (sideN n k) ∧ PctTo prog w b v (preR ++ rpS n k) := by
  match k, hk, hv with
  | 0, _, hv => obtain ⟨t, rfl⟩ := hv; exact ⟨intTo_int, pctTo_int (int_facts hn).1 (int_facts hn).2⟩
  | 1, _, hv => obtain ⟨t, rfl⟩ := hv; have f := wishT_facts hn 1 (.inl rfl); exact ⟨intTo_str f.2.1 f.1, pctTo_str (Nat.le_trans f.2.2 (by decide))⟩
  | 2, _, hv => obtain ⟨t, rfl⟩ := hv; have f := wishT_facts hn 2 (.inr (.inl rfl)); exact ⟨intTo_str f.2.1 f.1, pctTo_str (Nat.le_trans f.2.2 (by decide))⟩
  | 3, _, hv => obtain ⟨t, rfl⟩ := hv; have f := wishT_facts hn 3 (.inr (.inr rfl)); exact ⟨intTo_str f.2.1 f.1, pctTo_str (Nat.le_trans f.2.2 (by decide))⟩
  | 4, _, hv => obtain ⟨t, rfl⟩ := hv; exact ⟨intTo_bytes hn, pctTo_bytes hn⟩
  | 5, _, hv => cases hv; exact ⟨intTo_bool, pctTo_bool⟩
/-- how a wish ends -/
inductive Ends1 (prog : Program) (w : World) (b : Shared) (v : Value) (n : Int) (k : Nat) : Prop
  | good (h : sideN n k = 1 ∨ sideN n k = 2) (hI : IntTo prog w b v (sideN n k)) (h7 : k ≤ 5)
  | bad (h1 : sideN n k ≠ 1) (h2 : sideN n k ≠ 2) (h7 : k ≠ 7) (hT : TryBadK prog w b v "ValueError" (wordsN n k))
  | none (h7 : k = 7) (hT : TryBadK prog w b v "TypeError" msgN)
theorem ends1 (B : Bs b mg mb names) (hint : ("int" : Str) ∉ names) (hke : ("KeyError" : Str) ∉ names) (hve : ("ValueError" : Str) ∉ names) (hn : Five n) (hk : k < 8) (hv : wishV n k v) : Ends1 prog w b v n k := by
  by_cases h5 : k ≤ 5
  · obtain ⟨hI, hP⟩ := wish_int (prog := prog) (w := w) (b := b) hn h5 hv
    by_cases h1 : sideN n k = 1
    · exact .good (.inl h1) hI h5
    · by_cases h2 : sideN n k = 2
      · exact .good (.inr h2) hI h5
      · refine .bad h1 h2 (by omega) ?_
        have e : wordsN n k = preR ++ rpS n k := by unfold wordsN; rw [if_neg (by omega)]
        rw [e]
        with_reducible exact tryK_key B h1 h2 hI hP hint hke hve
  · by_cases h6 : k = 6
    · subst h6
      obtain ⟨t, rfl⟩ := hv
      obtain ⟨f1, f2, f3⟩ := wishX_facts hn
      refine .bad (by show (0 : Int) ≠ 1; decide) (by show (0 : Int) ≠ 2; decide) (by decide) ?_
      have h9 : sizeLine = 16777216 := by decide
      have e : wordsN n 6 = msgI (wishT n 6) := by
        rw [msgI_eq f3]; rfl
      rw [e]
      have i4 : (reprText (wishT n 6)).length ≤ sizeLine := by omega
      have i5 : (msgI (wishT n 6)).length ≤ sizeLine := by
        rw [msgI_eq f3, str_len_app]
        have : preI.length = 40 := by decide +kernel
        omega
      show TryBadK prog w b (.str (wishT n 6) t) "ValueError" (msgI (wishT n 6))
      with_reducible exact tryK_int B hint hke f1 f2 i4 i5
    · obtain rfl : k = 7 := by omega
      cases hv
      refine .none rfl ?_
      with_reducible exact tryK_none B hint hke
end
end Mine

-- part P1g
open PySem PySem.W PySem.W.X PyProof.Rows PySem.Calls PySem.Spec PySem.SeqAt
set_option Elab.async false
set_option maxRecDepth 100000
set_option maxHeartbeats 1000000
set_option linter.all false
namespace Mine
local macro_rules | `(tactic| walk_at "mem") => `(tactic| first | assumption | exact List.Mem.head _ | (refine List.Mem.tail _ ?_; walk_at "mem") | (refine List.mem_append_right _ ?_; walk_at "mem"))
local macro_rules | `(tactic| walk_at "mn") => `(tactic| first | with_reducible exact List.mem_cons_self | ((with_reducible refine List.mem_cons_of_mem _ ?_); walk_at "mn"))
local macro_rules | `(tactic| walk_at "upd") => `(tactic| first | exact Upd.head | ((with_reducible apply Upd.tail); walk_at "upd"))
local macro_rules | `(tactic| walk_at "set") => `(tactic| first | with_reducible exact SetN.nil | ((with_reducible refine SetN.hit ?_); kernel_rfl) | ((with_reducible apply SetN.skip); kernel_rfl; walk_at "set"))
section
variable {prog : Program} {w : World} {A : Around} {E : Value → Shared → Prop} {b s : Shared} {L Y Z : Ledger} {G : GLedger} {mg mb : Str → Option Value} {names : List Str} {env : Env} {C f fr fp pa rw : Addr} {cd cr cp : Value} {hw n : Int}
/-- value -/
theorem w_value {Q : Flow → Shared → Prop} (hp : ∀ s : Shared, (∀ a o, b.heap.get? a = some o → s.heap.get? a = some o) → PylongRoom (model prog w) A s)
    (S : St b s ((C, frC [(("how" : Str), vI hw), (("parts" : Str), vE (.ref pa)), (("rows" : Str), vE (.ref rw))]) :: Y) G)
    (h : ∀ n s', Five n → St b s' ((C, frC [(("how" : Str), vI hw), (("parts" : Str), vE (.ref pa)), (("rows" : Str), vE (.ref rw)), (("value" : Str), vI n)]) :: Y) G → Q .next s') :
    wpAny (model prog w) A (exec (lAt 4) (lEnv C f cd)) Q NoE s := by
  conv in lAt 4 => whnf
  refine wpAny_Assign_Name ?_ ?_
  rotate_left
  · kernel_rfl
  refine Subscript_ ?_
  refine r_disp (b := b) ?_
  refine r_spl ?_
  refine r_int S fun t₁ s₁ S₁ => ?_
  refine r_spl ?_
  refine r_int S₁ fun t₂ s₂ S₂ => ?_
  refine r_spl ?_
  refine r_int S₂ fun t₃ s₃ S₃ => ?_
  refine r_spl ?_
  refine r_int S₃ fun t₄ s₄ S₄ => ?_
  refine r_spl ?_
  refine r_int S₄ fun t₅ s₅ S₅ => ?_
  refine r_spl ?_
  refine r_int S₅ fun t₆ s₆ S₆ => ?_
  refine r_spl ?_
  refine wpAny_UnaryOp ?_
  refine r_int S₆ fun t₇ s₇ S₇ => ?_
  refine r_usub S₇ fun t₈ s₈ S₈ => ?_
  refine r_spl0 ?_
  refine ⟨by show 7 ≤ sizeLine; decide, lstV [.int 1 t₁, .int 2 t₂, .int 0 t₃, .int 1 t₄, .int 2 t₅, .int 3 t₆, .int (-1) t₈], _, _, S₈, lstV_mk, fun li s₉ S₉ => ?_⟩
  refine wpAny_BinOp ?_
  refine wpAny_BinOp ?_
  refine r_nameI S₉ (by walk_at "mem") (by walk_at "mn") fun t₉ => ?_
  refine r_int S₉ fun t₁₀ s₁₀ S₁₀ => ?_
  refine r_fdiv S₁₀ (by decide) (hp _ S₁₀.keep) fun t₁₁ s₁₁ S₁₁ => ?_
  refine r_int S₁₁ fun t₁₂ s₁₂ S₁₂ => ?_
  refine r_mod S₁₂ (by decide) fun t₁₃ s₁₃ S₁₃ => ?_
  obtain ⟨i0, i1⟩ := fmod_range (hw.fdiv 8) (m := 7) (by decide)
  generalize (hw.fdiv 8).fmod 7 = i at i0 i1
  obtain ⟨n, t, hv, h5⟩ : ∃ n t, ([.int 1 t₁, .int 2 t₂, .int 0 t₃, .int 1 t₄, .int 2 t₅, .int 3 t₆, .int (-1) t₈] : List Value)[i.toNat]? = some (.int n t) ∧ Five n := by
    have hi : i.toNat < 7 := by omega
    generalize i.toNat = j at hi
    match j, hi with
    | 0, _ => exact ⟨_, _, rfl, .inl rfl⟩
    | 1, _ => exact ⟨_, _, rfl, .inr (.inl rfl)⟩
    | 2, _ => exact ⟨_, _, rfl, .inr (.inr (.inl rfl))⟩
    | 3, _ => exact ⟨_, _, rfl, .inl rfl⟩
    | 4, _ => exact ⟨_, _, rfl, .inr (.inl rfl)⟩
    | 5, _ => exact ⟨_, _, rfl, .inr (.inr (.inr (.inl rfl)))⟩
    | 6, _ => exact ⟨_, _, rfl, .inr (.inr (.inr (.inr rfl)))⟩
  refine r_itemV S₁₃ (.head _) i0 (by omega) hv ?_
  have S₁₄ := S₁₃.sub (.cons _ (.refl _))
  exact r_store (P := vI n) S₁₄ (by walk_at "mem") ⟨_, rfl⟩ (by walk_at "set") (by walk_at "upd") fun s₁₅ S₁₅ => h n s₁₅ h5 S₁₅
/-- form -/
theorem w_form {Q : Flow → Shared → Prop} 
    (S : St b s ((C, frC [(("how" : Str), vI hw), (("parts" : Str), vE (.ref pa)), (("rows" : Str), vE (.ref rw)), (("value" : Str), vI n)]) :: Y) G)
    (h : ∀ (k : Nat) s', k < 8 → St b s' ((C, frC [(("how" : Str), vI hw), (("parts" : Str), vE (.ref pa)), (("rows" : Str), vE (.ref rw)), (("value" : Str), vI n), (("form" : Str), vI k)]) :: Y) G → Q .next s') :
    wpAny (model prog w) A (exec (lAt 5) (lEnv C f cd)) Q NoE s := by
  conv in lAt 5 => whnf
  refine wpAny_Assign_Name ?_ (by kernel_rfl)
  refine wpAny_BinOp ?_
  refine r_nameI S (by walk_at "mem") (by walk_at "mn") fun t₁ => ?_
  refine r_int S fun t₂ s₂ S₂ => ?_
  refine r_mod S₂ (by decide) fun t₃ s₃ S₃ => ?_
  obtain ⟨i0, i1⟩ := fmod_range hw (m := 8) (by decide)
  obtain ⟨m, hm, em⟩ : ∃ m : Nat, m < 8 ∧ hw.fmod 8 = (m : Int) := ⟨(hw.fmod 8).toNat, by omega, by omega⟩
  rw [em]
  exact r_store (P := vI m) S₃ (by walk_at "mem") ⟨_, rfl⟩ (by walk_at "set") (by walk_at "upd") fun s₁₅ S₁₅ => h m s₁₅ hm S₁₅
/-- str(value) -/
theorem r_strVal {Q : Value → Shared → Prop} {p1 p2 pos : Pos} {fl : List (Str × VP)} (T : Kit1 b mg mb names fr fp cr cp) (hn : Five n) (S : St b s L G) (hC : (C, frC fl) ∈ L) (hx : (("value" : Str), vI n) ∈ fl) (h : ∀ t s', St b s' L G → Q (.str (txtN n) t) s') :
    wpAny (model prog w) A (eval (.Call (.Name "str" p1) [.Name "value" p2] [] pos) (lEnv C f cd)) Q E s := by
  refine r_callT1 (T := "str") T.B S (by decide +kernel) ?_ (hfree := T.hN _ (by walk_at "mn"))
  refine r_nameI S hC hx fun t₁ => ?_
  refine r_strI S (int_facts hn).1 fun t₂ s₂ S₂ => ?_
  rw [txtN_eq hn]
  exact h t₂ s₂ S₂
end
end Mine

-- part P1h
open PySem PySem.W PySem.W.X PyProof.Rows PySem.Calls PySem.Spec PySem.SeqAt
set_option Elab.async false
set_option maxRecDepth 100000
set_option maxHeartbeats 1000000
set_option linter.all false
namespace Mine
local macro_rules | `(tactic| walk_at "mem") => `(tactic| first | assumption | exact List.Mem.head _ | (refine List.Mem.tail _ ?_; walk_at "mem") | (refine List.mem_append_right _ ?_; walk_at "mem"))
local macro_rules | `(tactic| walk_at "mn") => `(tactic| first | with_reducible exact List.mem_cons_self | ((with_reducible refine List.mem_cons_of_mem _ ?_); walk_at "mn"))
local macro_rules | `(tactic| walk_at "upd") => `(tactic| first | exact Upd.head | ((with_reducible apply Upd.tail); walk_at "upd"))
local macro_rules | `(tactic| walk_at "set") => `(tactic| first | with_reducible exact SetN.nil | ((with_reducible refine SetN.hit ?_); kernel_rfl) | ((with_reducible apply SetN.skip); kernel_rfl; walk_at "set"))
theorem txtN_len {n : Int} (hn : Five n) : (txtN n).length ≤ 2 := by rcases hn with rfl | rfl | rfl | rfl | rfl <;> decide +kernel
abbrev flV (pa rw : Addr) (hw n : Int) (k : Nat) : List (Str × VP) := [(("how" : Str), vI hw), (("parts" : Str), vE (.ref pa)), (("rows" : Str), vE (.ref rw)), (("value" : Str), vI n), (("form" : Str), vI k)]
abbrev flW (pa rw : Addr) (hw n : Int) (k : Nat) : List (Str × VP) := [(("how" : Str), vI hw), (("parts" : Str), vE (.ref pa)), (("rows" : Str), vE (.ref rw)), (("value" : Str), vI n), (("form" : Str), vI k), (("wish" : Str), wishV n k)]
section
variable {prog : Program} {w : World} {A : Around} {E : Value → Shared → Prop} {b s : Shared} {L Y Z : Ledger} {G : GLedger} {mg mb : Str → Option Value} {names : List Str} {env : Env} {C f fr fp pa rw : Addr} {cd cr cp : Value} {hw n : Int} {k : Nat}
/-- a method of a text's -/
theorem r_methT1 {o e : Expr} {name : Str} {apos pos : Pos} {Q : Value → Shared → Prop} (h : wpAny (model prog w) A (eval o env) (fun ov s₁ => MethodOnS prog w A E name ov pos [(false, eval e env)] Q s₁) E s)
    (hb : attributeBase o name env (eval o env) = eval o env := by kernel_rfl)
    (hf : ((backTo pos (starEach [e] env)).all (fun x => !x.1) && (backToKw pos (keywordEach [] env)).all (fun x => x.1.isSome) && decide ([e].length + ([] : List Keyword).length + (if ([] : List Keyword).isEmpty then 0 else 1) < 30)) = true := by kernel_rfl)
    (hl : (apos.endLine == pos.line) = true := by kernel_rfl) (ht : backTo pos (starEach [e] env) = [(false, eval e env)] := by kernel_rfl) :
    wpAny (model prog w) A (eval (.Call (.Attribute o name apos) [e] [] pos) env) Q E s := by
  refine wpAny_Call_method_lateS hb hf hl ?_
  rw [ht]
  exact h
theorem r_methT0 {o : Expr} {name : Str} {apos pos : Pos} {Q : Value → Shared → Prop} (h : wpAny (model prog w) A (eval o env) (fun ov s₁ => MethodOnS prog w A E name ov pos [] Q s₁) E s)
    (hb : attributeBase o name env (eval o env) = eval o env := by kernel_rfl)
    (hf : ((backTo pos (starEach [] env)).all (fun x => !x.1) && (backToKw pos (keywordEach [] env)).all (fun x => x.1.isSome) && decide (([] : List Expr).length + ([] : List Keyword).length + (if ([] : List Keyword).isEmpty then 0 else 1) < 30)) = true := by kernel_rfl)
    (hl : (apos.endLine == pos.line) = true := by kernel_rfl) (ht : backTo pos (starEach [] env) = [] := by kernel_rfl) :
    wpAny (model prog w) A (eval (.Call (.Attribute o name apos) [] [] pos) env) Q E s := by
  refine wpAny_Call_method_lateS hb hf hl ?_
  rw [ht]
  exact h
/-- wish -/
theorem w_wish {Q : Flow → Shared → Prop} (T : Kit1 b mg mb names fr fp cr cp) (hn : Five n) (hk : k < 8)
    (S : St b s ((C, frC (flV pa rw hw n k)) :: Y) G)
    (h : ∀ s', St b s' ((C, frC (flW pa rw hw n k)) :: Y) G → Q .next s') :
    wpAny (model prog w) A (exec (lAt 6) (lEnv C f cd)) Q NoE s := by
  have h9 : sizeLine = 16777216 := by decide
  have htl := txtN_len hn
  have hCf : ∀ {K : Ledger}, (C, frC (flV pa rw hw n k)) ∈ (C, frC (flV pa rw hw n k)) :: K := .head _
  have hvf : (("value" : Str), vI n) ∈ flV pa rw hw n k := by walk_at "mn"
  conv in lAt 6 => whnf
  refine wpAny_Assign_Name ?_ ?_
  rotate_left
  · kernel_rfl
  refine Subscript_ ?_
  refine r_disp (b := b) ?_
  refine r_spl ?_
  refine r_nameI S hCf hvf fun t₁ => ?_
  refine r_spl ?_
  refine r_strVal T hn S hCf hvf fun t₂ s₂ S₂ => ?_
  refine r_spl ?_
  refine wpAny_BinOp ?_
  refine wpAny_BinOp ?_
  refine r_str S₂ fun t₃ s₃ S₃ => ?_
  refine r_strVal T hn S₃ hCf hvf fun t₄ s₄ S₄ => ?_
  have e1 : (" " : Str).length = 1 := by decide +kernel
  have e2 : ("\n" : Str).length = 1 := by decide +kernel
  have e3 : ("x" : Str).length = 1 := by decide +kernel
  refine r_addS S₄ (by omega) fun t₅ s₅ S₅ => ?_
  refine r_str S₅ fun t₆ s₆ S₆ => ?_
  refine r_addS S₆ (by rw [str_len_app]; omega) fun t₇ s₇ S₇ => ?_
  refine r_spl ?_
  refine r_methT1 ?_
  refine r_strVal T hn S₇ hCf hvf fun t₈ s₈ S₈ => ?_
  refine PySem.SB.zfill ?_
  refine r_int S₈ fun t₉ s₉ S₉ => ?_
  refine ⟨5, t₉, rfl, by decide +kernel, fun t₁₀ k₁₀ => ?_⟩
  have S₁₀ := S₉.toks k₁₀
  refine r_spl ?_
  refine r_methT0 ?_
  refine r_strVal T hn S₁₀ hCf hvf fun t₁₁ s₁₁ S₁₁ => ?_
  refine MethodOnS.str0 F.slot_str_encode F.type_str_encode F.entry_str_encode (F.args_str_encode_1 _) (gives_enc hn t₁₁) ?_
  refine ⟨?_, ?_⟩
  · rcases hn with rfl | rfl | rfl | rfl | rfl <;> decide +kernel
  have S₁₂ := S₁₁.toks (s₁₁.toks + 1)
  refine r_spl ?_
  refine wpAny_Compare1 ?_ (by kernel_rfl)
  refine r_nameI S₁₂ hCf hvf fun t₁₃ => ?_
  refine r_int S₁₂ fun t₁₄ s₁₄ S₁₄ => ?_
  refine r_eqI ?_
  refine r_spl ?_
  refine wpAny_BinOp ?_
  refine r_str S₁₄ fun t₁₅ s₁₅ S₁₅ => ?_
  refine r_strVal T hn S₁₅ hCf hvf fun t₁₆ s₁₆ S₁₆ => ?_
  refine r_addS S₁₆ (by omega) fun t₁₇ s₁₇ S₁₇ => ?_
  refine r_spl ?_
  refine wpAny_Constant_none ?_
  refine r_spl0 ?_
  refine ⟨by show 8 ≤ sizeLine; decide, lstV [.int n t₁, .str (txtN n) t₂, .str (" " ++ txtN n ++ "\n") t₇, .str (Txt.zfill (txtN n) 5) t₁₀, .bytes (bytesN n) s₁₁.toks, .bool (n == 1), .str ("x" ++ txtN n) t₁₇, .none], _, _, S₁₇, lstV_mk, fun li s₁₈ S₁₈ => ?_⟩
  refine r_nameI S₁₈ (by walk_at "mem") (by walk_at "mn") fun t₁₉ => ?_
  obtain ⟨v, hv, hw8⟩ : ∃ v, ([.int n t₁, .str (txtN n) t₂, .str (" " ++ txtN n ++ "\n") t₇, .str (Txt.zfill (txtN n) 5) t₁₀, .bytes (bytesN n) s₁₁.toks, .bool (n == 1), .str ("x" ++ txtN n) t₁₇, .none] : List Value)[(k : Int).toNat]? = some v ∧ wishV n k v := by
    rw [Int.toNat_natCast]
    match k, hk with
    | 0, _ => exact ⟨_, rfl, _, rfl⟩
    | 1, _ => exact ⟨_, rfl, _, rfl⟩
    | 2, _ => exact ⟨_, rfl, _, rfl⟩
    | 3, _ => exact ⟨_, rfl, _, rfl⟩
    | 4, _ => exact ⟨_, rfl, _, rfl⟩
    | 5, _ => exact ⟨_, rfl, rfl⟩
    | 6, _ => exact ⟨_, rfl, _, rfl⟩
    | 7, _ => exact ⟨_, rfl, rfl⟩
  refine r_itemV S₁₈ (.head _) (by omega) (by omega) hv ?_
  have S₁₉ := S₁₈.sub (.cons _ (.refl _))
  exact r_store (P := wishV n k) S₁₉ (by walk_at "mem") hw8 (by walk_at "set") (by walk_at "upd") fun s₂₀ S₂₀ => h s₂₀ S₂₀
end
end Mine

-- part P1i
open PySem PySem.W PySem.W.X PyProof.Rows PySem.Calls PySem.Spec PySem.SeqAt
set_option Elab.async false
set_option maxRecDepth 100000
set_option maxHeartbeats 1000000
set_option linter.all false
namespace Mine
local macro_rules | `(tactic| walk_at "mem") => `(tactic| first | assumption | exact List.Mem.head _ | (refine List.Mem.tail _ ?_; walk_at "mem") | (refine List.mem_append_right _ ?_; walk_at "mem"))
local macro_rules | `(tactic| walk_at "mn") => `(tactic| first | with_reducible exact List.mem_cons_self | ((with_reducible refine List.mem_cons_of_mem _ ?_); walk_at "mn"))
local macro_rules | `(tactic| walk_at "upd") => `(tactic| first | exact Upd.head | ((with_reducible apply Upd.tail); walk_at "upd"))
local macro_rules | `(tactic| walk_at "set") => `(tactic| first | with_reducible exact SetN.nil | ((with_reducible refine SetN.hit ?_); kernel_rfl) | ((with_reducible apply SetN.skip); kernel_rfl; walk_at "set"))
/-! a tuple as a source -/
def titC (t : Addr) (i : Nat) : Cell := fun o => o.cls = .type "tuple_iterator" ∧ o.data = .fields #[.ref t, .int i 0]
section
variable {prog : Program} {w : World} {b : Shared} {Lr : Ledger} {d : Nat}
theorem St.tupAt {s : Shared} {L : Ledger} {G : GLedger} {a : Addr} {ys : List Str} (S : St b s L G) (h : (a, tupS ys) ∈ L) : ∃ vs, s.heap.IsTuple a vs ∧ StrsAre vs.toList ys :=
  let ⟨_, e, vs, n, ho, hs⟩ := S.get h; ⟨vs, ⟨_, ho ▸ e, rfl, n, rfl⟩, hs⟩
theorem gives_tit {I t : Addr} {ys₀ : List Str} (hLr : (t, tupS ys₀) ∈ Lr) : ∀ (ys : List Str) (i : Nat), ys₀.drop i = ys → Gives prog w b Lr d (.ref I) (ys.map vS) [(I, titC t i)] [] := by
  intro ys
  induction ys with
  | nil =>
    intro i hi A E s F GF Q hA hF S hQ
    obtain ⟨o, ho, hc, hd⟩ := S.get (.head _)
    obtain ⟨vs, hl, hs⟩ := S.tupAt (.tail _ (hF _ hLr))
    have hx : vs[i]? = none := by
      have h1 : ys₀.length ≤ i := List.drop_eq_nil_iff.mp hi
      have h2 := strsAre_len hs
      exact Array.getElem?_eq_none (by rw [Array.length_toList] at h2; omega)
    exact wpAny_pyNext_tuple_end hA.handled ⟨o, ho, hc, hd⟩ hl hx fun h' he => hQ _ (S.drop1 he)
  | cons y r ih =>
    intro i hi A E s F GF Q hA hF S hQ
    obtain ⟨o, ho, hc, hd⟩ := S.get (.head _)
    obtain ⟨vs, hl, hs⟩ := S.tupAt (.tail _ (hF _ hLr))
    have hy : ys₀[i]? = some y := by
      have := congrArg (·[0]?) hi
      simpa using this
    have hr : ys₀.drop (i + 1) = r := by
      have := congrArg List.tail hi
      simpa [List.tail_drop] using this
    obtain ⟨t', ht⟩ := strsAre_get hs hy
    refine wpAny_pyNext_tuple_item ⟨o, ho, hc, hd⟩ hl (x := .str y t') (by rw [← Array.getElem?_toList]; exact ht) fun h' hit hsb => ?_
    obtain ⟨o', ho', hc', hd'⟩ := hit
    exact hQ _ _ _ _ ⟨_, rfl⟩ (ih (i + 1) hr) (S.set (P' := titC t (i + 1)) .head ⟨_, .head _⟩ hsb.extBut ho' ⟨hc', hd'⟩)
theorem givesI_tup {t : Addr} {ys : List Str} (hLr : (t, tupS ys) ∈ Lr) : GivesI prog w b Lr d (.ref t) (ys.map vS) [] [] := by
  intro A E s F GF Q hA hF S hQ
  obtain ⟨vs, hl, hs⟩ := S.tupAt (hF _ hLr)
  refine wpAny_pyIter_tuple hl ?_
  refine hQ _ _ _ _ (gives_tit hLr ys 0 rfl) (fun A E s F GF Q S h => ?_) (S.alloc (P := titC t 0) ⟨rfl, rfl⟩)
  obtain ⟨o, ho, hc, hd⟩ := S.get (.head _)
  exact wpAny_pyIter_tupleiter ⟨o, ho, hc, hd⟩ h
/-- an iterator over a list, as a source -/
theorem givesI_it {I l : Addr} {Ps : List VP} (hLr : HasL b Lr l Ps) : GivesI prog w b Lr d (.ref I) Ps [(I, itC l 0)] [] := by
  intro A E s F GF Q hA hF S hQ
  obtain ⟨o, ho, hc, hd⟩ := S.get (.head _)
  exact wpAny_pyIter_listiter ⟨o, ho, hc, hd⟩ (hQ _ _ _ _ (gives_iter hLr Ps 0 rfl) selfI_iter S)
end
/-- how the rows are handed over -/
inductive Dlt (rw : Addr) (rs : List Str) : Value → Ledger → Prop
  | lst : Dlt rw rs (.ref rw) []
  | tup (t : Addr) : Dlt rw rs (.ref t) [(t, tupS rs)]
  | it (I : Addr) : Dlt rw rs (.ref I) [(I, itC rw 0)]
section
variable {prog : Program} {w : World} {A : Around} {E : Value → Shared → Prop} {b s : Shared} {L Y K : Ledger} {G : GLedger} {mg mb : Str → Option Value} {names : List Str} {env : Env} {C f fr fp pa rw : Addr} {cd cr cp : Value} {hw n : Int} {k : Nat} {rs : List Str} {dv : Value} {Dl : Ledger}
theorem Dlt.src {d : Nat} (h : Dlt rw rs dv Dl) : ∃ Lr L₁ R, GivesI prog w b Lr d dv (rs.map vS) L₁ [] ∧ Dl = L₁ ++ R ∧ ∀ p ∈ Lr, p ∈ R ++ [(rw, lstS rs)] := by
  cases h with
  | lst => exact ⟨[(rw, lstS rs)], [], [], givesI_list (hasL_S (.head _)), rfl, fun p hp => hp⟩
  | tup t => exact ⟨[(t, tupS rs)], [], [(t, tupS rs)], givesI_tup (.head _), rfl, fun p hp => List.mem_append_left _ hp⟩
  | it I => exact ⟨[(rw, lstS rs)], [(I, itC rw 0)], [], givesI_it (hasL_S (.head _)), rfl, fun p hp => hp⟩
/-- list(delta) -/
theorem r_listD {Q : Value → Shared → Prop} (h : Dlt rw rs dv Dl) (hA : Ar A 0) (hz : rs.length ≤ sizeLine) (hl : (rw, lstS rs) ∈ K) (S : St b s (Dl ++ K) G) (hQ : ∀ l s', St b s' ((l, lstS rs) :: K) G → Q (.ref l) s') :
    wpAny (model prog w) A (call (.type "list") [dv]) Q E s := by
  cases h with
  | lst => exact r_listLS S hl hz hQ
  | tup t =>
    obtain ⟨_, ho, vs, n, rfl, hs⟩ := S.get (a := t) (.head _)
    refine call_list_seq t (.inr rfl) ho rfl rfl (fun h' c' hk hg => ?_) (by rw [size_of hs]; exact hz)
    exact hQ _ _ ((S.new (P := lstS rs) (heap_get_size _) hk hg ⟨_, c', rfl, hs⟩).sub (.cons_cons _ (.cons _ (.refl _))))
  | it I =>
    refine r_listIt (Lr := [(rw, lstS rs)]) (d := 0) (hasL_S (.head _)) hA (by intro p hp; rw [List.mem_singleton] at hp; subst hp; exact hl) S hz fun l s' S' => ?_
    rw [List.drop_zero] at S'
    exact hQ l s' S'
/-- tuple(rows) -/
theorem r_tupleS {Q : Value → Shared → Prop} {l : Addr} (S : St b s L G) (hl : (l, lstS rs) ∈ L) (hz : rs.length ≤ sizeLine) (h : ∀ t s', St b s' ((t, tupS rs) :: L) G → Q (.ref t) s') : wpAny (model prog w) A (call (.type "tuple") [.ref l]) Q E s := by
  obtain ⟨vs, hv, hs⟩ := S.lst hl
  refine call_tuple_list hv (fun h' hk => ?_) (by rw [size_of hs]; exact hz)
  have S' : St b { s with heap := h' } L G := S.keeps hk
  exact h _ _ (S'.alloc (P := tupS rs) ⟨_, 0, rfl, hs⟩)
/-- side -/
theorem w_side {Q : Flow → Shared → Prop} (hk : k < 8)
    (S : St b s ((C, frC (flW pa rw hw n k)) :: (C + 1, celN) :: Y) G)
    (h : ∀ s', St b s' ((C, frC (flW pa rw hw n k)) :: (C + 1, celV (vI (sideN n k))) :: Y) G → Q .next s') :
    wpAny (model prog w) A (exec (lAt 7) (lEnv C f cd)) Q NoE s := by
  have hCf : ∀ {K : Ledger}, (C, frC (flW pa rw hw n k)) ∈ (C, frC (flW pa rw hw n k)) :: K := .head _
  have hvf : (("value" : Str), vI n) ∈ flW pa rw hw n k := by walk_at "mn"
  conv in lAt 7 => whnf
  refine wpAny_Assign_Name ?_ ?_
  rotate_left
  · kernel_rfl
  refine Subscript_ ?_
  refine r_disp (b := b) ?_
  refine r_spl ?_
  refine r_nameI S hCf hvf fun t₁ => ?_
  refine r_spl ?_
  refine r_nameI S hCf hvf fun t₂ => ?_
  refine r_spl ?_
  refine r_nameI S hCf hvf fun t₃ => ?_
  refine r_spl ?_
  refine r_nameI S hCf hvf fun t₄ => ?_
  refine r_spl ?_
  refine r_nameI S hCf hvf fun t₅ => ?_
  refine r_spl ?_
  refine wpAny_mono (Q := fun v s' => (∃ t, v = .int (if (n == 1) = true then 1 else 0) t) ∧ St b s' ((C, frC (flW pa rw hw n k)) :: (C + 1, celN) :: Y) G) ?_ (fun v s' hv => ?_) fun _ _ x => x
  · refine wpAny_IfExp ?_
    refine wpAny_isTrue_Compare1 ?_ (by kernel_rfl)
    refine r_nameI S hCf hvf fun t₆ => ?_
    refine r_int S fun t₇ s₇ S₇ => ?_
    refine r_eqI ?_
    refine wpAny_truthy_bool ?_
    by_cases h1 : (n == 1) = true
    · rw [if_pos h1, if_pos h1]
      exact r_int S₇ fun t₈ s₈ S₈ => ⟨⟨t₈, rfl⟩, S₈⟩
    · rw [if_neg h1, if_neg h1]
      exact r_int S₇ fun t₈ s₈ S₈ => ⟨⟨t₈, rfl⟩, S₈⟩
  obtain ⟨⟨t₆, rfl⟩, S₆⟩ := hv
  refine r_spl ?_
  refine r_int S₆ fun t₇ s₇ S₇ => ?_
  refine r_spl ?_
  refine r_int S₇ fun t₈ s₈ S₈ => ?_
  refine r_spl0 ?_
  refine ⟨by show 8 ≤ sizeLine; decide, lstV [.int n t₁, .int n t₂, .int n t₃, .int n t₄, .int n t₅, .int (if (n == 1) = true then 1 else 0) t₆, .int 0 t₇, .int 0 t₈], _, _, S₈, lstV_mk, fun li s₉ S₉ => ?_⟩
  refine r_nameI S₉ (.tail _ (.head _)) (by walk_at "mn") fun t₁₉ => ?_
  obtain ⟨t, hv⟩ : ∃ t, ([.int n t₁, .int n t₂, .int n t₃, .int n t₄, .int n t₅, .int (if (n == 1) = true then 1 else 0) t₆, .int 0 t₇, .int 0 t₈] : List Value)[(k : Int).toNat]? = some (.int (sideN n k) t) := by
    rw [Int.toNat_natCast]
    match k, hk with
    | 0, _ => exact ⟨_, rfl⟩
    | 1, _ => exact ⟨_, rfl⟩
    | 2, _ => exact ⟨_, rfl⟩
    | 3, _ => exact ⟨_, rfl⟩
    | 4, _ => exact ⟨_, rfl⟩
    | 5, _ => exact ⟨_, rfl⟩
    | 6, _ => exact ⟨_, rfl⟩
    | 7, _ => exact ⟨_, rfl⟩
  refine r_itemV S₉ (.head _) (by omega) (by omega) hv ?_
  have S₁₀ := S₉.sub (.cons _ (.refl _))
  exact r_storeC (c := C + 1) (P₀ := celN) (P := vI (sideN n k)) S₁₀ (.tail _ (.head _)) (fun _ h => h) ⟨_, rfl⟩ (.tail .head) fun s₂₀ S₂₀ => h s₂₀ S₂₀
end
end Mine

-- part P1j
open PySem PySem.W PySem.W.X PyProof.Rows PySem.Calls PySem.Spec PySem.SeqAt
set_option Elab.async false
set_option maxRecDepth 100000
set_option maxHeartbeats 1000000
set_option linter.all false
namespace Mine
local macro_rules | `(tactic| walk_at "mem") => `(tactic| first | assumption | exact List.Mem.head _ | (refine List.Mem.tail _ ?_; walk_at "mem") | (refine List.mem_append_right _ ?_; walk_at "mem"))
local macro_rules | `(tactic| walk_at "mn") => `(tactic| first | with_reducible exact List.mem_cons_self | ((with_reducible refine List.mem_cons_of_mem _ ?_); walk_at "mn"))
local macro_rules | `(tactic| walk_at "upd") => `(tactic| first | exact Upd.head | ((with_reducible apply Upd.tail); walk_at "upd"))
local macro_rules | `(tactic| walk_at "set") => `(tactic| first | with_reducible exact SetN.nil | ((with_reducible refine SetN.hit ?_); kernel_rfl) | ((with_reducible apply SetN.skip); kernel_rfl; walk_at "set"))
abbrev flD (pa rw : Addr) (n : Int) (k : Nat) (dv : Value) : List (Str × VP) := [(("parts" : Str), vE (.ref pa)), (("rows" : Str), vE (.ref rw)), (("form" : Str), vI k), (("wish" : Str), wishV n k), (("delta" : Str), vE dv)]
abbrev flZ (pa rw : Addr) (n : Int) (k : Nat) (dv : Value) : List (Str × VP) := [(("parts" : Str), vE (.ref pa)), (("rows" : Str), vE (.ref rw)), (("form" : Str), vI k), (("wish" : Str), wishV n k), (("delta" : Str), vE dv), (("words" : Str), vS (wordsN n k))]
section
variable {prog : Program} {w : World} {A : Around} {E : Value → Shared → Prop} {b s : Shared} {L Y K : Ledger} {G : GLedger} {mg mb : Str → Option Value} {names : List Str} {env : Env} {C f fr fp pa rw : Addr} {cd cr cp : Value} {hw n : Int} {k : Nat} {rs : List Str} {dv : Value} {Dl : Ledger} {c1 : Addr × Cell}
/-- delta -/
theorem w_delta {Q : Flow → Shared → Prop} (T : Kit1 b mg mb names fr fp cr cp) (hp : ∀ s : Shared, (∀ a o, b.heap.get? a = some o → s.heap.get? a = some o) → PylongRoom (model prog w) A s) (hz : rs.length ≤ 100) (hl : (rw, lstS rs) ∈ Y)
    (S : St b s ((C, frC (flW pa rw hw n k)) :: c1 :: Y) G)
    (h : ∀ dv Dl s', Dlt rw rs dv Dl → St b s' ((C, frC (flD pa rw n k dv)) :: c1 :: (Dl ++ Y)) G → Q .next s') :
    wpAny (model prog w) A (exec (lAt 8) (lEnv C f cd)) Q NoE s := by
  have h9 : sizeLine = 16777216 := by decide
  conv in lAt 8 => whnf
  refine wpAny_Assign_Name ?_ ?_
  rotate_left
  · kernel_rfl
  refine Subscript_ ?_
  refine r_disp (b := b) ?_
  refine r_spl ?_
  refine r_nameE S (.head _) (by walk_at "mn") ?_
  refine r_spl ?_
  refine r_callT1 (T := "tuple") T.B S (by decide +kernel) ?_ (hfree := T.hN _ (by walk_at "mn"))
  refine r_nameE S (.head _) (by walk_at "mn") ?_
  refine r_tupleS S (.tail _ (.tail _ hl)) (by omega) fun tu s₁ S₁ => ?_
  refine r_spl ?_
  refine r_callB1 (id := "iter") T.B S₁ (by decide +kernel) ?_ (hfree := T.hN _ (by walk_at "mn"))
  refine r_nameE S₁ (.tail _ (.head _)) (by walk_at "mn") ?_
  refine r_iterB S₁ (.tail _ (.tail _ (.tail _ hl))) fun so s₂ S₂ => ?_
  refine r_spl0 ?_
  refine ⟨by show 3 ≤ sizeLine; decide, lstV [.ref rw, .ref tu, .ref so], _, _, S₂, lstV_mk, fun li s₃ S₃ => ?_⟩
  refine wpAny_BinOp ?_
  refine wpAny_BinOp ?_
  refine r_nameI S₃ (.tail _ (.tail _ (.tail _ (.head _)))) (by walk_at "mn") fun t₄ => ?_
  refine r_int S₃ fun t₅ s₅ S₅ => ?_
  refine r_fdiv S₅ (by decide) (hp _ S₅.keep) fun t₆ s₆ S₆ => ?_
  refine r_int S₆ fun t₇ s₇ S₇ => ?_
  refine r_mod S₇ (by decide) fun t₈ s₈ S₈ => ?_
  obtain ⟨i0, i1⟩ := fmod_range (hw.fdiv 56) (m := 3) (by decide)
  generalize (hw.fdiv 56).fmod 3 = i at i0 i1
  have fin : ∀ dv Dl, Dlt rw rs dv Dl → (Dl ++ ((C, frC (flW pa rw hw n k)) :: c1 :: Y)).Sublist ((li, lstV [.ref rw, .ref tu, .ref so]) :: (so, itC rw 0) :: (tu, tupS rs) :: (C, frC (flW pa rw hw n k)) :: c1 :: Y) →
      wpAny (model prog w) A (storeName (lEnv C f cd) "delta" dv) (fun _ s' => Q .next s') NoE s₈ := by
    intro dv Dl hD hsub
    have S₉ := (S₈.sub hsub).perm (L' := (C, frC (flW pa rw hw n k)) :: c1 :: (Dl ++ Y)) (perm_swap3 [(C, frC (flW pa rw hw n k)), c1] Dl Y)
    refine r_store (P := vE dv) S₉ (by walk_at "mem") rfl (by walk_at "set") (by walk_at "upd") fun s₁₀ S₁₀ => ?_
    exact h dv Dl s₁₀ hD (S₁₀.less (.head _) .head fun o ho => frC_sub (fun q hq => by
      simp only [List.mem_cons, List.not_mem_nil, or_false] at hq
      rcases hq with rfl | rfl | rfl | rfl | rfl <;> simp) ho)
  have hi : i.toNat < 3 := by omega
  obtain ⟨j, hj, ej⟩ : ∃ j : Nat, j < 3 ∧ i = (j : Int) := ⟨i.toNat, hi, by omega⟩
  subst ej
  match j, hj with
  | 0, _ =>
    refine r_itemV S₈ (.head _) i0 (by omega) (v := .ref rw) rfl ?_
    exact fin _ [] .lst (.cons _ (.cons _ (.cons _ (.refl _))))
  | 1, _ =>
    refine r_itemV S₈ (.head _) i0 (by omega) (v := .ref tu) rfl ?_
    exact fin _ _ (.tup tu) (.cons _ (.cons _ (.refl _)))
  | 2, _ =>
    refine r_itemV S₈ (.head _) i0 (by omega) (v := .ref so) rfl ?_
    exact fin _ _ (.it so) (.cons _ (.cons_cons _ (.cons _ (.refl _))))
abbrev flZ0 (pa rw : Addr) (n : Int) (k : Nat) (dv : Value) : List (Str × VP) := [(("parts" : Str), vE (.ref pa)), (("rows" : Str), vE (.ref rw)), (("form" : Str), vI k), (("wish" : Str), wishV n k), (("delta" : Str), vE dv), (("words" : Str), vS (preR ++ rpS n k))]
/-- words -/
theorem w_words {Q : Flow → Shared → Prop} (T : Kit1 b mg mb names fr fp cr cp) (hn : Five n) (hk : k < 8)
    (S : St b s ((C, frC (flD pa rw n k dv)) :: Y) G)
    (h : ∀ s', St b s' ((C, frC (flZ0 pa rw n k dv)) :: Y) G → Q .next s') :
    wpAny (model prog w) A (exec (lAt 9) (lEnv C f cd)) Q NoE s := by
  have h9 : sizeLine = 16777216 := by decide
  have hrl := rpS_len hn hk
  have e1 : preR.length = 39 := by decide +kernel
  conv in lAt 9 => whnf
  refine wpAny_Assign_Name ?_ (by kernel_rfl)
  refine wpAny_BinOp ?_
  refine r_str S fun t₁ s₁ S₁ => ?_
  refine r_callB1 (id := "repr") T.B S₁ (by decide +kernel) ?_ (hfree := T.hN _ (by walk_at "mn"))
  refine r_name S₁ (P := wishV n k) (by walk_at "mem") (by walk_at "mn") fun v hv => ?_
  refine r_reprW hn hk hv S₁ fun t₂ s₂ S₂ => ?_
  refine r_addS (x := preR) S₂ (by omega) fun t₃ s₃ S₃ => ?_
  exact r_store (P := vS (preR ++ rpS n k)) S₃ (by walk_at "mem") ⟨_, rfl⟩ (by walk_at "set") (by walk_at "upd") fun s₄ S₄ => h s₄ S₄
theorem w_words6 {Q : Flow → Shared → Prop} (T : Kit1 b mg mb names fr fp cr cp) (hn : Five n) (hk : k < 8)
    (S₄ : St b s ((C, frC (flZ0 pa rw n k dv)) :: Y) G)
    (h : ∀ s', St b s' ((C, frC (flZ pa rw n k dv)) :: Y) G → Q .next s') :
    wpAny (model prog w) A (exec (lAt 10) (lEnv C f cd)) Q NoE s := by
  have h9 : sizeLine = 16777216 := by decide
  have hrl := rpS_len hn hk
  have e2 : preI.length = 40 := by decide +kernel
  conv in lAt 10 => whnf
  refine wpAny_If ?_
  refine wpAny_isTrue_Compare1 ?_ (by kernel_rfl)
  refine r_nameI S₄ (by walk_at "mem") (by walk_at "mn") fun t₅ => ?_
  refine r_int S₄ fun t₆ s₆ S₆ => ?_
  refine r_eqI ?_
  refine wpAny_truthy_bool ?_
  by_cases h6 : k = 6
  · rw [if_pos (by simp; omega)]
    refine r_seq ?_
    refine wpAny_Assign_Name ?_ (by kernel_rfl)
    refine wpAny_BinOp ?_
    refine r_str S₆ fun t₇ s₇ S₇ => ?_
    refine r_callB1 (id := "repr") T.B S₇ (by decide +kernel) ?_ (hfree := T.hN _ (by walk_at "mn"))
    refine r_name S₇ (P := wishV n k) (by walk_at "mem") (by walk_at "mn") fun v hv => ?_
    refine r_reprW hn hk hv S₇ fun t₈ s₈ S₈ => ?_
    refine r_addS (x := preI) S₈ (by omega) fun t₉ s₉ S₉ => ?_
    refine r_store (P := vS (wordsN n k)) S₉ (by walk_at "mem") ⟨t₉, ?_⟩ (by walk_at "set") (by walk_at "upd") fun s₁₀ S₁₀ => ?_
    · unfold wordsN; rw [if_pos h6]
    exact then_next (wpAny_execs_nil (h s₁₀ S₁₀))
  · rw [if_neg (by simp; omega)]
    refine wpAny_execs_nil (h s₆ ?_)
    have e : preR ++ rpS n k = wordsN n k := by unfold wordsN; rw [if_neg h6]
    have hfl : flZ0 pa rw n k dv = flZ pa rw n k dv := by show [_, _, _, _, _, (Str.ofString "words", vS (preR ++ rpS n k))] = _; rw [e]
    rw [← hfl]
    exact S₆
end
end Mine

-- part P1l
open PySem PySem.W PySem.W.X PyProof.Rows PySem.Calls PySem.Spec PySem.SeqAt
set_option Elab.async false
set_option maxRecDepth 100000
set_option maxHeartbeats 1000000
set_option linter.all false
namespace Mine
local macro_rules | `(tactic| walk_at "mem") => `(tactic| first | assumption | exact List.Mem.head _ | (refine List.Mem.tail _ ?_; walk_at "mem") | (refine List.mem_append_right _ ?_; walk_at "mem"))
local macro_rules | `(tactic| walk_at "mn") => `(tactic| first | with_reducible exact List.mem_cons_self | ((with_reducible refine List.mem_cons_of_mem _ ?_); walk_at "mn"))
local macro_rules | `(tactic| walk_at "upd") => `(tactic| first | exact Upd.head | ((with_reducible apply Upd.tail); walk_at "upd"))
local macro_rules | `(tactic| walk_at "set") => `(tactic| first | with_reducible exact SetN.nil | ((with_reducible refine SetN.hit ?_); kernel_rfl) | ((with_reducible apply SetN.skip); kernel_rfl; walk_at "set"))
theorem Are.three {items : List Value} {P1 P2 P3 : VP} (h : Are items [P1, P2, P3]) : ∃ v1 v2 v3, items = [v1, v2, v3] ∧ P1 v1 ∧ P2 v2 ∧ P3 v3 := by
  cases h with
  | cons h1 h => cases h with
    | cons h2 h => cases h with
      | cons h3 h => cases h with
        | nil => exact ⟨_, _, _, rfl, h1, h2, h3⟩
section
variable {prog : Program} {w : World} {A : Around} {E : Value → Shared → Prop} {b s : Shared} {L : Ledger} {G : GLedger} {env : Env}
abbrev fl3 (p : Prt) : List (Str × VP) := [(("first" : Str), vS p.1), (("second" : Str), vS p.2.1), (("rest" : Str), vS p.2.2)]
/-- [rest for first, second, rest in parts if ..] -/
theorem r_compTri {iter : Expr} {p1 p2 p3 p4 tp pos : Pos} {k1 : Nat} {ifs : List Expr} {scope : Scope} {cl : List (Str × Addr)} {pa : Addr} {vs : List Value} {ps : List Prt} {Q : Value → Shared → Prop} (keep : Prt → Bool) (hA : Ar A 0)
    (hiter : wpAny (model prog w) A (eval iter env) (fun v s₁ => v = .ref pa ∧ St b s₁ L G) NoE s)
    (hpa : (pa, lstV vs) ∈ L) (hT : Trs L vs ps) (hz : ps.length ≤ sizeLine)
    (test : ∀ p ∈ ps, ∀ C D I acc i s, St b s ((C, frC (fl3 p)) :: (D, lstV acc) :: (I, itC pa i) :: L) G →
      wpAny (model prog w) A (testsOf ifs (compEnvC scope cl C env)) (fun ok s₂ => ok = keep p ∧ St b s₂ ((C, frC (fl3 p)) :: (D, lstV acc) :: (I, itC pa i) :: L) G) NoE s)
    (h : ∀ D s', St b s' ((D, lstS ((ps.filter keep).map (·.2.2))) :: L) G → Q (.ref D) s')
    (hclos : closureFor scope env = pure cl) (hkind : scope.kind = .function) (hnames : ∀ y ∈ scope.names, y.2 = .local → scope.names.lookup y.1 = some .local)
    (hcell : ∀ y ∈ scope.names, y.2 ≠ .cell) (hx : scope.names.lookup ("first" : Str) = some .local) (hy : scope.names.lookup ("second" : Str) = some .local) (hw : scope.names.lookup ("rest" : Str) = some .local) (hs : ∀ v, foldedSetIterable iter env v = pure v)
    (hrest : ∀ C s (R : Value → Shared → Prop), ∀ p L', St b s ((C, frC (fl3 p)) :: L') G → (∀ t, R (.str p.2.2 t) s) → wpAny (model prog w) A (eval (.Name "rest" p4) (compEnvC scope cl C env)) R NoE s)
    (hae : ∀ C, assignEach [.Name "first" p1, .Name "second" p2, .Name "rest" p3] (compEnvC scope cl C env) = [(false, assign (.Name "first" p1) (compEnvC scope cl C env)), (false, assign (.Name "second" p2) (compEnvC scope cl C env)), (false, assign (.Name "rest" p3) (compEnvC scope cl C env))]) :
    wpAny (model prog w) A (eval (.ListComp (.Name "rest" p4) [⟨.Tuple [.Name "first" p1, .Name "second" p2, .Name "rest" p3] k1 tp, iter, ifs, 0⟩] scope pos) env) Q E s := by
  rw [eval_ListComp]
  refine wpAny_comprehension_free (g := ⟨.Tuple [.Name "first" p1, .Name "second" p2, .Name "rest" p3] k1 tp, iter, ifs, 0⟩) (gs := []) rfl hs hclos hkind hnames ?_
  refine wpAny_mono hiter (fun v s₁ h₁ => ?_) fun _ _ x => x.elim
  obtain ⟨rfl, S₁⟩ := h₁
  refine wpAny_pyIter_list (S₁.lstv hpa) ?_
  have S₂ := S₁.alloc (o := { cls := .type "list_iterator", data := .fields #[.ref pa, .int 0 0] }) (P := itC pa 0) ⟨rfl, rfl⟩
  generalize s₁.heap.objs.size = I at S₂
  refine r_newList S₂ lstV_mk fun D s₃ S₃ => ?_
  refine wpAny_newFunctionEnv (scope := scope) (binds := []) hcell (fun y hy => nomatch hy) (fun h' hn hsb => ?_) hkind
  obtain ⟨oC, hoC, hcC⟩ := frC_of (fl := []) hn (fun p hp => nomatch hp)
  have S₄ : St b { s₃ with heap := h', toks := s₃.toks + ([] : List (Str × Value)).length } ((s₃.heap.objs.size, frC []) :: (D, lstV []) :: (I, itC pa 0) :: L) G :=
    S₃.new (heap_get_size _) (fun a o e => hsb.extBut a o (Nat.ne_of_lt (Heap.lt_size e)) (Heap.get?_push_of_some _ e)) hoC hcC
  generalize hC : s₃.heap.objs.size = C at S₄
  show codeAny _ A (.compStart _ 0 (.ref I) (.ref D) (compEnvC scope cl C env)) (compPost _ A E none Q (.ref D) C) _
  have hvl := hT.1
  have loop : ∀ (s : Shared), St b s ((C, frC []) :: (D, lstV []) :: (I, itC pa 0) :: L) G →
      codeAny (model prog w) A (.compLoop (.ListComp (.Name "rest" p4) [⟨.Tuple [.Name "first" p1, .Name "second" p2, .Name "rest" p3] k1 tp, iter, ifs, 0⟩] scope pos) 0 (.ref I) (.ref D) (compEnvC scope cl C env)) (compPost (model prog w) A E none Q (.ref D) C) s := by
    intro s S
    refine codeAny_loop rfl (fun n s => ∃ i acc, i + n = ps.length ∧ StrsAre acc (((ps.take i).filter keep).map (·.2.2)) ∧ St b s ((C, frC []) :: (D, lstV acc) :: (I, itC pa i) :: L) G) (fun n s hI => ?_) ps.length ⟨0, [], by omega, .nil, S⟩
    obtain ⟨i, acc, hin, hacc, S⟩ := hI
    show wpAny _ A ((compTurn (.ListComp (.Name "rest" p4) [⟨.Tuple [.Name "first" p1, .Name "second" p2, .Name "rest" p3] k1 tp, iter, ifs, 0⟩] scope pos) 0 (.ref I) (.ref D) (compEnvC scope cl C env)).onRaise (fun x => do noteFrame x (compEnvC scope cl C env); theTreesLotGoes x)) _ _ s
    refine wpAny_noted ?_
    rw [compTurn_list]
    refine wpAny_bind (wpAny_standAt (wpAny_bind ?_))
    obtain ⟨o, ho, hc, hd⟩ := S.get (a := I) (.tail _ (.tail _ (.head _)))
    have hl := S.lstv (a := pa) (.tail _ (.tail _ (.tail _ hpa)))
    by_cases hi : i < ps.length
    · obtain ⟨v, hv⟩ : ∃ v, vs[i]? = some v := ⟨_, List.getElem?_eq_getElem (by omega)⟩
      obtain ⟨a, p, rfl, hp, hm⟩ := hT.at hv
      refine wpAny_pyNext_list_item ⟨o, ho, hc, hd⟩ hl (x := .ref a) (by simpa using hv) fun h' hit hsb => ?_
      obtain ⟨o', ho', hc', hd'⟩ := id hit
      have S₁ := S.set (P' := itC pa (i + 1)) (.tail (.tail .head)) ⟨_, .tail _ (.tail _ (.head _))⟩ hsb.extBut ho' ⟨hc', hd'⟩
      refine wpAny_bind (wpAny_letOwnedTupleGo_listiter hit ?_)
      obtain ⟨us, un, hun, hus⟩ := S₁.isLS (.tail _ (.tail _ (.tail _ hm)))
      refine wpAny_bind ?_
      refine r_asgTup (Lr := [(a, lstS (tri p))]) (d := 0) (Ps := (tri p).map vS) (L₁ := []) (G₁ := []) (givesI_list (hasL_S (.head _))) hA (fun x hx => by rw [List.mem_singleton] at hx; subst hx; exact .tail _ (.tail _ (.tail _ hm))) S₁ hun.isList.typeIs slot_list_iter.lookup (fun items s₂ hi S₂ => ?_) (by rw [hae]; rfl) (by rw [hae]; rfl)
      obtain ⟨v1, v2, v3, rfl, hv1, hv2, hv3⟩ := hi.three
      rw [hae]
      have hpl : ((compEnvC scope cl C env).scope.kind == .class || ((compEnvC scope cl C env).scope.kind == .module && (compEnvC scope cl C env).locals != (compEnvC scope cl C env).globals)) = false := by
        show (scope.kind == .class || (scope.kind == .module && _)) = false
        rw [hkind]; rfl
      refine assignInOrder_cons (wpAny_assign_Name (r_store (P := vS p.1) S₂ (by walk_at "mem") hv1 (by walk_at "set") (by walk_at "upd") (fun s₃ S₃ => ?_) (lookup_relabel_local hx) hpl))
      refine assignInOrder_cons (wpAny_assign_Name (r_store (P := vS p.2.1) S₃ (by walk_at "mem") hv2 (by walk_at "set") (by walk_at "upd") (fun s₄ S₄ => ?_) (lookup_relabel_local hy) hpl))
      refine assignInOrder_cons (wpAny_assign_Name (r_store (P := vS p.2.2) S₄ (by walk_at "mem") hv3 (by walk_at "set") (by walk_at "upd") (fun s₅ S₅ => ?_) (lookup_relabel_local hw) hpl))
      refine assignInOrder_nil ?_
      refine wpAny_bind (wpAny_mono (test p (List.mem_of_getElem? hp) C D I acc (i + 1) s₅ S₅) (fun ok s₆ h₆ => ?_) fun _ _ x => x.elim)
      obtain ⟨rfl, S₆⟩ := h₆
      have hnext : ((ps.take (i + 1)).filter keep).map (·.2.2) = ((ps.take i).filter keep).map (·.2.2) ++ (if keep p then [p.2.2] else []) := by
        rw [List.take_add_one, hp, List.filter_append, List.map_append]
        congr 1
        cases hk : keep p <;> simp [hk]
      have less : ∀ {acc' s}, St b s ((C, frC (fl3 p)) :: (D, lstV acc') :: (I, itC pa (i + 1)) :: L) G → St b s ((C, frC []) :: (D, lstV acc') :: (I, itC pa (i + 1)) :: L) G := fun S => S.less (.head _) .head fun o ho => frC_sub (fl' := []) (fun q hq => nomatch hq) ho
      cases hk : keep p with
      | false =>
        rw [hk] at hnext
        refine wpAny_pure ⟨rfl, n - 1, by omega, i + 1, acc, by omega, ?_, less S₆⟩
        rw [hnext]; simpa using hacc
      | true =>
        rw [hk] at hnext
        have hlen : acc.length < sizeLine := by
          have h1 := strsAre_len hacc
          have h2 : (((ps.take i).filter keep).map (·.2.2)).length ≤ i := by
            rw [List.length_map]
            refine Nat.le_trans (List.length_filter_le _ _) ?_
            rw [List.length_take]; omega
          omega
        refine wpAny_bind (wpAny_bind (wpAny_mono (hrest C s₆ (fun x s₇ => ∃ t, x = .str p.2.2 t ∧ s₇ = s₆) p _ S₆ fun t => ⟨t, rfl, rfl⟩) (fun x s₇ h₇ => ?_) fun _ _ x => x.elim))
        obtain ⟨t, rfl, rfl⟩ := h₇
        obtain ⟨_, hoD, nD, rfl⟩ := S₆.get (a := D) (.tail _ (.head _))
        refine wpAny_bind (wpAny_list_append_plain (x := .str p.2.2 t) ⟨nD, hoD⟩ (fun h' hl hsb => ?_) (by simpa using Nat.le_of_lt hlen))
        obtain ⟨n', ho'⟩ := hl
        refine wpAny_pure (wpAny_pure ⟨rfl, n - 1, by omega, i + 1, acc ++ [.str p.2.2 t], by omega, ?_, less ?_⟩)
        · rw [hnext]; exact hacc.append' (.cons _ t .nil)
        · exact S₆.set (P' := lstV (acc ++ [.str p.2.2 t])) (.tail .head) ⟨_, .tail _ (.head _)⟩ hsb.extBut ho' ⟨n', by simp⟩
    · have hie : i = ps.length := by omega
      have hx : (vs.toArray)[i]? = none := by
        rw [Array.getElem?_eq_none]
        simp; omega
      refine wpAny_pyNext_list_end hA.handled ⟨o, ho, hc, hd⟩ hl hx fun h' he => ?_
      have S₁ : St b { s with heap := h' } ((C, frC []) :: (D, lstV acc) :: L) G := (S.perm (L' := (I, itC pa i) :: (C, frC []) :: (D, lstV acc) :: L) (perm_swap3 [(I, itC pa i)] [(C, frC []), (D, lstV acc)] L)).drop1 he
      refine wpAny_pure ?_
      refine comp_end S₁ fun s'' S'' => h D s'' ?_
      rw [hie, List.take_length] at hacc
      exact S''.less (.head _) .head fun o ho => let ⟨n, hn⟩ := ho; ⟨_, n, hn, by simpa using hacc⟩
  refine codeAny_compStart_list (loop _ S₄) ?_
  obtain ⟨o, ho, hc, hd⟩ := S₄.get (a := I) (.tail _ (.tail _ (.head _)))
  exact wpAny_pyIter_listiter ⟨o, ho, hc, hd⟩ (loop _ S₄)
end
end Mine

-- part P1m
open PySem PySem.W PySem.W.X PyProof.Rows PySem.Calls PySem.Spec PySem.SeqAt
set_option Elab.async false
set_option maxRecDepth 100000
set_option maxHeartbeats 1000000
set_option linter.all false
namespace Mine
local macro_rules | `(tactic| walk_at "mem") => `(tactic| first | assumption | exact List.Mem.head _ | (refine List.Mem.tail _ ?_; walk_at "mem") | (refine List.mem_append_right _ ?_; walk_at "mem"))
local macro_rules | `(tactic| walk_at "mn") => `(tactic| first | with_reducible exact List.mem_cons_self | ((with_reducible refine List.mem_cons_of_mem _ ?_); walk_at "mn"))
local macro_rules | `(tactic| walk_at "upd") => `(tactic| first | exact Upd.head | ((with_reducible apply Upd.tail); walk_at "upd"))
local macro_rules | `(tactic| walk_at "set") => `(tactic| first | with_reducible exact SetN.nil | ((with_reducible refine SetN.hit ?_); kernel_rfl) | ((with_reducible apply SetN.skip); kernel_rfl; walk_at "set"))
abbrev flT (pa rw : Addr) (k : Nat) (td : Addr) : List (Str × VP) := [(("parts" : Str), vE (.ref pa)), (("told" : Str), vE (.ref td))]
section
variable {prog : Program} {w : World} {A : Around} {E : Value → Shared → Prop} {b s : Shared} {L K : Ledger} {G : GLedger} {env : Env} {C f pa rw td : Addr} {cd : Value} {n : Int} {k : Nat} {vs : List Value} {ps : List Prt}
theorem St.tupv (S : St b s L G) {a : Addr} {vs : List Value} (h : (a, tupV vs) ∈ L) : s.heap.IsTuple a vs.toArray :=
  let ⟨_, e, n, ho⟩ := S.get h; ⟨_, ho ▸ e, rfl, n, rfl⟩
/-- (1, 2) -/
theorem r_tup12 {p1 p2 pos : Pos} {k1 k2 kk : Nat} {Q : Value → Shared → Prop} (S : St b s L G) (h : ∀ tp t u s', St b s' ((tp, tupV [.int 1 t, .int 2 u]) :: L) G → Q (.ref tp) s') :
    wpAny (model prog w) A (eval (.Tuple [.Constant (.int 1) k1 p1, .Constant (.int 2) k2 p2] kk pos) env) Q E s := by
  with_reducible refine Tuple_ ?_
  refine args_cons ?_
  refine r_int S fun t1 s₁ S₁ => ?_
  refine args_cons ?_
  refine r_int S₁ fun t2 s₂ S₂ => ?_
  refine args_nil ?_
  exact r_newTuple S₂ (P := tupV [.int 1 t1, .int 2 t2]) tupV_mk fun tp s₃ S₃ => h tp t1 t2 s₃ S₃
theorem any12 {m : Int} {t u : Tok} : (([Value.int 1 t, Value.int 2 u].toArray).any fun y => match y with | .int j _ => j == m | _ => false) = decide (m = 1 ∨ m = 2) := by
  rw [Bool.eq_iff_iff]
  simp only [List.any_toArray, List.any_cons, List.any_nil, Bool.or_false, Bool.or_eq_true, beq_iff_eq, decide_eq_true_eq]
  omega
theorem r_in12 {m : Int} {t u v : Tok} {tp : Addr} {Q : Value → Shared → Prop} (S : St b s L G) (ht : (tp, tupV [.int 1 t, .int 2 u]) ∈ L) (h : Q (.bool (decide (m = 1 ∨ m = 2))) s) : wpAny (model prog w) A (compareOp .In (.int m v) (.ref tp)) Q E s := by
  refine in_tupleAt (fun y => match y with | .int j _ => j == m | _ => false) (S.tupv ht) (fun y hy => ?_) (by rw [any12]; exact h)
  simp only [List.mem_toArray, List.mem_cons, List.not_mem_nil, or_false] at hy
  rcases hy with rfl | rfl
  · exact EqAt.int_int _ _ _ _
  · exact EqAt.int_int _ _ _ _
theorem r_notIn12 {m : Int} {t u v : Tok} {tp : Addr} {Q : Value → Shared → Prop} (S : St b s L G) (ht : (tp, tupV [.int 1 t, .int 2 u]) ∈ L) (h : Q (.bool (!decide (m = 1 ∨ m = 2))) s) : wpAny (model prog w) A (compareOp .NotIn (.int m v) (.ref tp)) Q E s := by
  refine notIn_tupleAt (fun y => match y with | .int j _ => j == m | _ => false) (S.tupv ht) (fun y hy => ?_) (by rw [any12]; exact h)
  simp only [List.mem_toArray, List.mem_cons, List.not_mem_nil, or_false] at hy
  rcases hy with rfl | rfl
  · exact EqAt.int_int _ _ _ _
  · exact EqAt.int_int _ _ _ _
theorem tests_one {c : Expr} {Q : Bool → Shared → Prop} (h : wpAny (model prog w) A (isTrue c env (eval c env)) Q E s) : wpAny (model prog w) A (testsOf [c] env) Q E s := by
  unfold testsOf
  rw [List.forIn_cons]
  refine wpAny_bind ?_
  rw [if_pos rfl]
  refine wpAny_bind (wpAny_mono h (fun ok s' hq => wpAny_pure ?_) fun _ _ x => x)
  show wpAny (model prog w) A (forIn [] ok _) Q E s'
  rw [List.forIn_nil]
  exact wpAny_pure hq
/-- the last statement -/
theorem w_last {Q : Flow → Shared → Prop} (hA : Ar A 1) (hu : A.units + 66 < cLine) (hn : n = 1 ∨ n = 2) (hok : ∀ p ∈ ps, POk p) (hl : ps.length ≤ 70) (hpa : (pa, lstV vs) ∈ K) (hT : Trs K vs ps)
    (S : St b s ((C, frC (flT pa rw k td)) :: (C + 1, celV (vI n)) :: (td, lstS (readS n (ps.map rowOf))) :: K) G)
    (h : ∀ s', St b s' [] [] → Q (.ret (.bool true)) s') :
    wpAny (model prog w) A (exec (lAt 12) (lEnv C f cd)) Q NoE s := by
  have h9 : sizeLine = 16777216 := by decide
  conv in lAt 12 => whnf
  refine wpAny_Return_some ?_
  refine BoolOp_and ?_
  refine wpAny_Compare1 ?_ (by kernel_rfl)
  refine r_nameC (c := C + 1) S (.tail _ (.head _)) fun v hv => ?_
  obtain ⟨t₁, rfl⟩ := hv
  refine r_tup12 S fun tp t u s₁ S₁ => ?_
  refine r_in12 S₁ (.head _) ?_
  refine wpAny_truthy_bool ?_
  rw [if_pos (by simpa using hn)]
  have S₂ := S₁.sub (.cons _ (.refl _))
  refine BoolOp_one ?_
  refine wpAny_Compare1 ?_ (by kernel_rfl)
  refine r_nameE S₂ (.head _) (by walk_at "mn") ?_
  have htell := tells hn hok
  refine r_compTri (b := b) (L := (C, frC (flT pa rw k td)) :: (C + 1, celV (vI n)) :: (td, lstS (readS n (ps.map rowOf))) :: K) (G := G) (cl := [(("side" : Str), C + 1)]) (pa := pa) (vs := vs) (ps := ps) (tell1 n) (hA.mono (by omega)) ?_ ?_ (hT.more ?_) (by omega) ?_ ?_ ?_ ?_ ?_ ?_ ?_ ?_ ?_ ?_ ?_ ?_
  · refine r_nameE S₂ (.head _) (by walk_at "mn") ?_
    exact ⟨rfl, S₂⟩
  · exact .tail _ (.tail _ (.tail _ hpa))
  · exact fun q hq => .tail _ (.tail _ (.tail _ hq))
  · intro p hp C' D I acc i s S
    have hcell : (C + 1, celV (vI n)) ∈ (C', frC (fl3 p)) :: (D, lstV acc) :: (I, itC pa i) :: (C, frC (flT pa rw k td)) :: (C + 1, celV (vI n)) :: (td, lstS (readS n (ps.map rowOf))) :: K := .tail _ (.tail _ (.tail _ (.tail _ (.head _))))
    refine tests_one ?_
    refine wpAny_isTrue_BoolOp ?_
    refine wpAny_allTrue_And_cons ?_
    refine wpAny_isTrue_Compare1 ?_ (by kernel_rfl)
    refine r_nameS S (.head _) (by walk_at "mn") fun u₁ => ?_
    refine r_str S fun u₂ s₂ S₂ => ?_
    refine r_eqS ?_
    refine wpAny_truthy_bool ?_
    unfold tell1
    cases h1 : (p.2.1 == (" " : Str)) with
    | false =>
      rw [if_neg Bool.false_ne_true]
      exact ⟨rfl, S₂⟩
    | true =>
      rw [if_pos rfl, Bool.true_and]
      refine wpAny_allTrue_And_cons ?_
      refine wpAny_isTrue_Compare1 ?_ (by kernel_rfl)
      refine r_nameS S₂ (.head _) (by walk_at "mn") fun u₃ => ?_
      with_reducible refine Tuple_ ?_
      refine args_cons ?_
      refine r_str S₂ fun u₄ s₄ S₄ => ?_
      refine args_cons ?_
      refine Subscript_ ?_
      refine r_str S₄ fun u₅ s₅ S₅ => ?_
      refine wpAny_BinOp ?_
      refine r_nameC (c := C + 1) S₅ hcell fun v hv => ?_
      obtain ⟨u₆, rfl⟩ := hv
      refine r_int S₅ fun u₇ s₇ S₇ => ?_
      refine r_sub S₇ fun u₈ s₈ S₈ => ?_
      obtain ⟨c, hc, ec⟩ : ∃ c, ("-+" : Str).cps[(n - 1).toNat]? = some c ∧ sgnOf1 n = ⟨#[c]⟩ := by
        rcases hn with rfl | rfl
        · exact ⟨45, by decide +kernel, by decide +kernel⟩
        · exact ⟨43, by decide +kernel, by decide +kernel⟩
      refine r_itemStr (c := c) S₈ (by omega) (by omega) hc fun u₉ s₉ S₉ => ?_
      refine args_nil ?_
      refine r_newTuple S₉ (P := tupS [" ", ⟨#[c]⟩]) (tupS_mk (.cons _ _ (.cons _ _ .nil))) fun tq s₁₀ S₁₀ => ?_
      obtain ⟨us, htup, hs⟩ := S₁₀.tup (.head _)
      refine in_tuple_strs htup hs (wpAny_truthy_bool ?_)
      have S₁₁ := S₁₀.sub (.cons _ (.refl _))
      have e : ([(" " : Str), ⟨#[c]⟩].any fun x => x == p.1) = (p.1 == " " || p.1 == sgnOf1 n) := by
        rw [ec]
        simp only [List.any_cons, List.any_nil, Bool.or_false]
        congr 1
        · rw [Bool.eq_iff_iff]; simp only [beq_iff_eq]; exact eq_comm
        · rw [Bool.eq_iff_iff]; simp only [beq_iff_eq]; exact eq_comm
      rw [e]
      cases hb : (p.1 == (" " : Str) || p.1 == sgnOf1 n) with
      | false =>
        rw [if_neg Bool.false_ne_true]
        exact ⟨rfl, S₁₁⟩
      | true =>
        rw [if_pos rfl]
        exact wpAny_allTrue_And_nil ⟨rfl, S₁₁⟩
  · intro D s₃ S₃
    have e : ((ps.filter (tell1 n)).map (·.2.2)) = readS n (ps.map rowOf) := htell.symm
    rw [e] at S₃
    have ho : OkS (readS n (ps.map rowOf)) := by
      rw [htell]
      intro y hy
      unfold tellS at hy
      obtain ⟨q, hq, rfl⟩ := List.mem_map.mp hy
      exact (hok q (List.mem_filter.mp hq).1).2.2.1.2
    refine r_eqLS S₃ (.tail _ (.tail _ (.tail _ (.head _)))) (.head _) ho ho (by omega) ?_
    rw [decide_eq_true rfl]
    exact h s₃ ((S₃.sub (List.nil_sublist _)).gsub (List.nil_sublist _))
  · kernel_rfl
  · kernel_rfl
  · decide
  · decide
  · kernel_rfl
  · kernel_rfl
  · kernel_rfl
  · intro _; kernel_rfl
  · intro C' s R p L' S hR
    refine r_nameS S (.head _) (by walk_at "mn") fun t => hR t
  · intro C'; kernel_rfl
end
end Mine

-- part P1r
open PySem PySem.W PySem.W.X PyProof.Rows PySem.Calls PySem.Spec PySem.SeqAt
set_option Elab.async false
set_option maxRecDepth 100000
set_option maxHeartbeats 1000000
set_option linter.all false
namespace Mine
local macro_rules | `(tactic| walk_at "mem") => `(tactic| first | assumption | exact List.Mem.head _ | (refine List.Mem.tail _ ?_; walk_at "mem") | (refine List.mem_append_right _ ?_; walk_at "mem"))
local macro_rules | `(tactic| walk_at "mn") => `(tactic| first | with_reducible exact List.mem_cons_self | ((with_reducible refine List.mem_cons_of_mem _ ?_); walk_at "mn"))
/-- an exception in the ledger, whose context is known to the end -/
def Held (L : Ledger) (e : Addr) : Prop := ∃ cls tv tb cx, (e, excC cls tv tb (vE cx)) ∈ L ∧ (cx = .none ∨ ∃ k cl t' tb', cx = .ref k ∧ k ≠ e ∧ (k, excC cl t' tb' (vE .none)) ∈ L)
theorem Held.more {L L' : Ledger} {e : Addr} (h : Held L e) (hm : ∀ p ∈ L, p ∈ L') : Held L' e := by
  obtain ⟨cls, tv, tb, cx, h1, h2⟩ := h
  refine ⟨cls, tv, tb, cx, hm _ h1, ?_⟩
  rcases h2 with h2 | ⟨k, cl, t', tb', h3, h4, h5⟩
  · exact .inl h2
  · exact .inr ⟨k, cl, t', tb', h3, h4, hm _ h5⟩
section
variable {prog : Program} {w : World} {A : Around} {E : Value → Shared → Prop} {b s : Shared} {L L' K : Ledger} {G : GLedger} {e : Addr}
/-- raise, while e is handled -/
theorem r_raiseH {α : Type} {x : Addr} {ox : Obj} {xvs : Array Value} {Q : α → Shared → Prop} (hh : A.handled = some (.ref e)) (S : St b s L G) (hH : Held L e) (hnx : ∀ p ∈ L, p.1 ≠ x)
    (hx : s.heap.get? x = some ox) (hxd : ox.data = .fields xvs) (hsz : 2 < xvs.size)
    (h : E (.ref x) { s with heap := s.heap.update x (Obj.mapFields (·.setIfInBounds 2 (.ref e))) }) : wpAny (model prog w) A (raiseNew (.ref x) : Sem α) Q E s := by
  obtain ⟨cls, tv, tb, cx, h1, h2⟩ := hH
  obtain ⟨oe, hoe, evs, _, hed, _, _, cx', hcx, hv⟩ := S.get h1
  cases hv
  have hne : e ≠ x := hnx _ h1
  have fin : ∀ {R : Value → Shared → Prop}, wpAny (model prog w) A (updateField x 2 (.ref e) >>= fun _ => (throw (.ref x) : Sem α)) Q E s := by
    intro R
    unfold updateField
    refine wpAny_bind (wpAny_bind (wpAny_load hx ?_))
    rw [hxd]
    dsimp only
    rw [if_pos hsz]
    exact wpAny_update hx (wpAny_throw h)
  unfold raiseNew
  refine wpAny_bind (wpAny_handled ?_)
  rw [hh]
  dsimp only
  rw [if_pos (by simpa using hne)]
  refine wpAny_bind (wpAny_holding (wpAny_runValue (codeAny_builtin entry_unchain ?_)))
  unfold Builtin.«proto.unchain»
  refine wpAny_bind (wpAny_field hoe hed hcx ?_)
  rcases h2 with rfl | ⟨k, cl, t', tb', rfl, hke, hk⟩
  · rw [if_pos (by decide)]
    refine wpAny_pure ?_
    exact fin (R := E)
  · obtain ⟨ok, hok, kvs, _, hkd, _, _, cx', hk2, hv⟩ := S.get hk
    cases hv
    have hkx : k ≠ x := hnx _ hk
    rw [if_neg (show ¬ ((Value.ref k == Value.none) = true) from by simp)]
    rw [if_neg (show ¬ ((Value.ref k == Value.ref x) = true) from by simpa using hkx)]
    rw [if_neg (show ¬ ((Value.ref k == Value.ref e) = true) from by simpa using hke)]
    rw [if_neg Bool.false_ne_true]
    refine wpAny_bind (wpAny_pure ?_)
    refine wpAny_pure ⟨Code.quiet_builtin _ (by decide +kernel), codeAny_builtin entry_unchain ?_⟩
    unfold Builtin.«proto.unchain»
    refine wpAny_bind (wpAny_field hok hkd hk2 ?_)
    rw [if_pos (by decide)]
    refine wpAny_pure ?_
    exact fin (R := E)
/-- a new StopIteration, raised while e is handled -/
theorem r_stopH {α : Type} {Q : α → Shared → Prop} (hh : A.handled = some (.ref e)) (S : St b s L G) (hH : Held L e) (h : ∀ x t s', St b s' (excN x t "StopIteration" [] ++ L) G → E (.ref x) s') :
    wpAny (model prog w) A (newExc (.type "StopIteration") [] >>= fun x => (raiseNew x : Sem α)) Q E s := by
  refine wpAny_bind ?_
  unfold newExc
  refine wpAny_bind (r_newTuple S (P := tupV []) tupV_mk fun t s₁ S₁ => ?_)
  refine wpAny_bind (m := firstArgMember _ _) (wpAny_of_eq (a := Value.none) (by first | rfl | (simp only [firstArgMember]; rfl)) ?_)
  refine wpAny_newObj_type ?_ (by size_fits)
  have S₂ := S₁.alloc (o := { cls := .type "StopIteration", data := .fields (#[.ref t, .none, .none, .none, .bool false, .none] ++ ownMembersOf (.type "StopIteration") []) }) (P := excC "StopIteration" (.ref t) .none anyV) ⟨_, rfl, rfl, rfl, rfl, .none, rfl, trivial⟩
  generalize s₁.heap.objs.size = x at S₂
  have hnx : ∀ p ∈ (t, tupV []) :: L, p.1 ≠ x := fun p hp e0 => (List.nodup_cons.mp S₂.nodup).1 (e0 ▸ List.mem_map_of_mem (f := (·.1)) hp)
  obtain ⟨ox, hox, xvs, hxc, hxd, hx0, hx1, cx, hx2, _⟩ := S₂.get (.head _)
  have hsz : 2 < xvs.size := by
    cases hlt : decide (2 < xvs.size) with
    | true => exact of_decide_eq_true hlt
    | false =>
      have := of_decide_eq_false hlt
      rw [Array.getElem?_eq_none (by omega)] at hx2
      cases hx2
  have S₃ := S₂.sub (L' := (t, tupV []) :: L) (.cons _ (.refl _))
  refine r_raiseH hh S₃ (hH.more fun p hp => .tail _ hp) hnx hox hxd hsz ?_
  have hd' := Obj.data_mapFields hxd (·.setIfInBounds 2 (Value.ref e))
  refine h x t _ (S₂.set (P' := excC "StopIteration" (.ref t) .none anyV) .head ⟨_, .head _⟩ (Heap.SameBut.update ..).extBut (Heap.get?_update_self _ hox (Obj.isFreed_of_fields hd')) ⟨_, (Obj.cls_mapFields ..).trans hxc, hd', ?_, ?_, .ref e, ?_, trivial⟩)
  · simp [hx0]
  · simp [hx1]
  · simp [hsz]
/-- a list's iterator at its end, while e is handled -/
theorem r_nextEndH {I l : Addr} {i : Nat} {vs : Array Value} {Q : Option Value → Shared → Prop} (hh : A.handled = some (.ref e)) (S : St b s L G) (hH : Held L' e) (hI : (I, itC l i) ∈ L) (hl : s.heap.IsList l vs) (hx : vs[i]? = none) (u : Upd L I itE L')
    (h : ∀ s', St b s' L' G → Q none s') : wpAny (model prog w) A (pyNext (.ref I)) Q E s := by
  obtain ⟨o, ho, hc, hd⟩ := S.get hI
  have hit : s.heap.IsListIter I l i := ⟨o, ho, hc, hd⟩
  obtain ⟨ol, hol, _, nl, hdl⟩ := hl
  unfold pyNext
  refine wpAny_bind (wpAny_attempt (wpAny_callSpecial?_slot (name := Str.ofString "__next__") hit.typeIs slot_listiter_next
    (wpAny_call_entry slot_listiter_next hit.typeIs entry_listiter_next ?_ (args_listiter_next _))))
  show wpAny _ _ (field (.ref I) 0 >>= _) _ _ s
  refine wpAny_bind (wpAny_field ho hd (x := .ref l) rfl ?_)
  show wpAny _ _ (if (Value.ref l == Value.none) = true then _ else _) _ _ s
  rw [if_neg (show ¬ ((Value.ref l == Value.none) = true) from Bool.false_ne_true)]
  show wpAny _ _ (field (.ref I) 1 >>= _) _ _ s
  refine wpAny_bind (wpAny_field ho hd (x := .int i 0) rfl ?_)
  show wpAny _ _ (seqItems? (.ref l) >>= _) _ _ s
  refine wpAny_bind (wpAny_seqItems hol hdl ?_)
  simp only [Int.toNat_natCast, hx]
  refine wpAny_bind (wpAny_rule (wpAny_bind (wpAny_setField ho hd (by simp) ?_)))
  have hd' := Obj.data_mapFields hd (·.setIfInBounds 0 Value.none)
  have S₁ : St b { s with heap := s.heap.update I (Obj.mapFields (·.setIfInBounds 0 Value.none)) } L' G :=
    S.set u ⟨_, hI⟩ (Heap.SameBut.update ..).extBut (Heap.get?_update_self _ ho (Obj.isFreed_of_fields hd')) ⟨.int i 0, (Obj.cls_mapFields ..).trans hc, hd'⟩
  show wpAny _ _ (newExc (.type "StopIteration") [] >>= _) _ _ _
  refine r_stopH (e := e) hh S₁ hH fun x t s' S' => ?_
  refine wpAny_bind (wpAny_isInstance (T := "StopIteration") (b := true) S'.excType0 isSubtype_stop ?_)
  exact wpAny_pure (h _ (S'.sub (.cons _ (.cons _ (.refl _)))))
/-- list(..) of a fresh list's iterator, while e is handled -/
theorem r_listItH {F : Ledger} {GF : GLedger} {a l : Addr} {ys : List Str} {Q : Value → Shared → Prop} (hh : A.handled = some (.ref e)) (hH : Held F e) (hl : (l, lstS ys) ∈ F)
    (S : St b s ((a, itC l 0) :: F) GF) (hz : ys.length ≤ sizeLine) (h : ∀ l s', St b s' ((l, lstS ys) :: F) GF → Q (.ref l) s') : wpAny (model prog w) A (call (.type "list") [.ref a]) Q E s := by
  refine r_list_li S (.head _) (fun Sa k acc s => ∃ i, i + k = ys.length ∧ StrsAre acc (ys.take i) ∧ St b s ((a, itC l i) :: (Sa, lstV acc) :: F) GF) (fun Sa s' S' => ⟨ys.length, 0, by omega, .nil, S'.perm (List.Perm.swap _ _ _)⟩) ?_
  rintro Sa k acc s₁ ⟨i, hik, hacc, S₁⟩
  have hh2 : A.in1.in1.handled = some (.ref e) := hh
  obtain ⟨us, hu, hs⟩ := S₁.lst (a := l) (.tail _ (.tail _ hl))
  by_cases hi : i < ys.length
  · obtain ⟨y, hy⟩ : ∃ y, ys[i]? = some y := ⟨_, List.getElem?_eq_getElem hi⟩
    refine r_nextItem S₁ (.head _) (.tail _ (.tail _ hl)) hy .head fun t s₂ S₂ => ?_
    refine ⟨_, _, (a, itC l (i + 1)) :: (Sa, lstV (acc ++ [.str y t])) :: F, S₂, .tail _ (.head _), .tail .head, ?_, fun s₃ S₃ => ⟨k - 1, by omega, i + 1, by omega, ?_, S₃⟩⟩
    · rw [strsAre_len hacc, List.length_take]; omega
    · rw [List.take_add_one, hy]
      exact hacc.append' (.cons _ t .nil)
  · have hie : i = ys.length := by omega
    have hx : us[i]? = none := by
      have h2 := strsAre_len hs
      exact Array.getElem?_eq_none (by rw [Array.length_toList] at h2; omega)
    refine r_nextEndH (e := e) hh2 S₁ (hH.more fun p hp => .tail _ (.tail _ hp)) (.head _) hu hx .head fun s₂ S₂ => ?_
    rw [hie, List.take_length] at hacc
    exact h Sa s₂ ((S₂.sub (.cons _ (.refl _))).less (.head _) .head fun o ho => let ⟨n, hn⟩ := ho; ⟨_, n, hn, by simpa using hacc⟩)
/-- list(delta), while e is handled -/
theorem r_listDH {rw : Addr} {rs : List Str} {dv : Value} {Dl : Ledger} {Q : Value → Shared → Prop} (h : Dlt rw rs dv Dl) (hh : A.handled = some (.ref e)) (hH : Held K e) (hz : rs.length ≤ sizeLine) (hl : (rw, lstS rs) ∈ K) (S : St b s (Dl ++ K) G) (hQ : ∀ l s', St b s' ((l, lstS rs) :: K) G → Q (.ref l) s') :
    wpAny (model prog w) A (call (.type "list") [dv]) Q E s := by
  cases h with
  | lst => exact r_listLS S hl hz hQ
  | tup t =>
    obtain ⟨_, ho, vs, n, rfl, hs⟩ := S.get (a := t) (.head _)
    refine call_list_seq t (.inr rfl) ho rfl rfl (fun h' c' hk hg => ?_) (by rw [size_of hs]; exact hz)
    exact hQ _ _ ((S.new (P := lstS rs) (heap_get_size _) hk hg ⟨_, c', rfl, hs⟩).sub (.cons_cons _ (.cons _ (.refl _))))
  | it I => exact r_listItH hh hH hl S hz hQ
end
end Mine

-- part P1n
open PySem PySem.W PySem.W.X PyProof.Rows PySem.Calls PySem.Spec PySem.SeqAt
set_option Elab.async false
set_option maxRecDepth 100000
set_option maxHeartbeats 1000000
set_option linter.all false
namespace Mine
local macro_rules | `(tactic| walk_at "mem") => `(tactic| first | assumption | exact List.Mem.head _ | (refine List.Mem.tail _ ?_; walk_at "mem") | (refine List.mem_append_right _ ?_; walk_at "mem"))
local macro_rules | `(tactic| walk_at "mn") => `(tactic| first | with_reducible exact List.mem_cons_self | ((with_reducible refine List.mem_cons_of_mem _ ?_); walk_at "mn"))
local macro_rules | `(tactic| walk_at "upd") => `(tactic| first | exact Upd.head | ((with_reducible apply Upd.tail); walk_at "upd"))
local macro_rules | `(tactic| walk_at "set") => `(tactic| first | with_reducible exact SetN.nil | ((with_reducible refine SetN.hit ?_); kernel_rfl) | ((with_reducible apply SetN.skip); kernel_rfl; walk_at "set"))
def tHs : List ExceptHandler := match lAt 11 with | .Try _ hs _ _ _ => hs | _ => []
section
variable {prog : Program} {w : World} {A : Around} {E : Value → Shared → Prop} {b s : Shared} {L K : Ledger} {G : GLedger} {mg mb : Str → Option Value} {names : List Str} {C f fr fp pa rw e : Addr} {cd cr cp : Value} {n : Int} {k : Nat} {rs : List Str} {dv : Value} {Dl : Ledger}
/-- list(delta) == rows, while e is handled -/
theorem r_sameRows {fl : List (Str × VP)} {Q : Value → Shared → Prop} {p1 p2 p3 p4 p5 : Pos} {X : Ledger} (T : Kit1 b mg mb names fr fp cr cp) (hh : A.handled = some (.ref e)) (hH : Held X e) (hu : A.units + 66 < cLine) (hD : Dlt rw rs dv Dl) (hl : (rw, lstS rs) ∈ K) (hrz : ∀ y ∈ rs, Good 5 y) (hrl : rs.length ≤ 100)
    (hC : (C, frC fl) ∈ X) (h1 : (("delta" : Str), vE dv) ∈ fl) (h2 : (("rows" : Str), vE (.ref rw)) ∈ fl)
    (S : St b s (X ++ (Dl ++ K)) G) (h : ∀ s', St b s' (X ++ K) G → Q (.bool true) s') :
    wpAny (model prog w) A (eval (.Compare (.Call (.Name "list" p1) [.Name "delta" p2] [] p3) [.Eq] [.Name "rows" p4] p5) (lEnv C f cd)) Q E s := by
  have h9 : sizeLine = 16777216 := by decide
  refine wpAny_Compare1 ?_ (by kernel_rfl)
  refine r_callT1 (T := "list") T.B S (by decide +kernel) ?_ (hfree := T.hN _ (by walk_at "mn"))
  refine r_nameE S (List.mem_append_left _ hC) h1 ?_
  have S₁ := S.perm (L' := Dl ++ (X ++ K)) (perm_swap3 Dl X K)
  refine r_listDH (e := e) hD hh (hH.more fun p hp => List.mem_append_left _ hp) (by omega) (List.mem_append_right _ hl) S₁ fun l s₂ S₂ => ?_
  refine r_nameE S₂ (.tail _ (List.mem_append_left _ hC)) h2 ?_
  have ho : OkS rs := fun y hy => (hrz y hy).2
  refine r_eqLS S₂ (.head _) (.tail _ (List.mem_append_right _ hl)) ho ho (by omega) ?_
  rw [decide_eq_true rfl]
  exact h s₂ (S₂.sub (.cons _ (.refl _)))
theorem held_of {cls : String} {t T : Addr} {args : List Value} {fl cx : Value} {Kx Y : Ledger} (hcx : CtxK cx Kx) (S : St b s (excLK e t T cls args fl (vE cx) ++ (Kx ++ Y)) G) : Held (excLK e t T cls args fl (vE cx) ++ Kx) e := by
  cases hcx with
  | no => exact ⟨cls, .ref t, .ref T, .none, .head _, .inl rfl⟩
  | one k cl t' tb' =>
    refine ⟨cls, .ref t, .ref T, .ref k, .head _, .inr ⟨k, cl, t', tb', rfl, fun h => ?_, .tail _ (.tail _ (.tail _ (.head _)))⟩⟩
    exact (List.nodup_cons.mp S.nodup).1 (h ▸ .tail _ (.tail _ (.head _)))
/-- except ValueError as fault -/
theorem w_value1 {Q : Flow → Shared → Prop} {t T' : Addr} {u : Tok} {cx : Value} {Kx : Ledger} (T : Kit1 b mg mb names fr fp cr cp) (hu : A.units + 66 < cLine) (hfr : A.frames = some [lEnv C f cd]) (hD : Dlt rw rs dv Dl) (hl : (rw, lstS rs) ∈ K) (hrz : ∀ y ∈ rs, Good 5 y) (hrl : rs.length ≤ 100)
    (hs1 : sideN n k ≠ 1) (hs2 : sideN n k ≠ 2) (h7 : k ≠ 7) (hcx : CtxK cx Kx)
    (S : St b s (excLK e t T' "ValueError" [.str (wordsN n k) u] .none (vE cx) ++ (Kx ++ ((C, frC (flZ pa rw n k dv)) :: (C + 1, celV (vI (sideN n k))) :: (Dl ++ K)))) G)
    (h : ∀ s', St b s' [] [] → Q (.ret (.bool true)) s') :
    wpAny (model prog w) A (noteFrame (.ref e) (lEnv C f cd)) (fun _ s₂ => wpAny (model prog w) A (setFlight (.ref e) none) (fun _ s₃ => wpAny (model prog w) A (handleBy (.ref e) (lEnv C f cd) tHs) Q NoE s₃) NoE s₂) NoE s := by
  have hf : FmsOk [lEnv C f cd] (Kx ++ ((C, frC (flZ pa rw n k dv)) :: (C + 1, celV (vI (sideN n k))) :: (Dl ++ K))) := fun env he => by
    rw [List.mem_singleton] at he
    subst he
    exact ⟨lKindE, rfl, _, List.mem_append_right _ (.head _)⟩
  refine k_noteX S hfr hf fun T'' s₂ S₂ => ?_
  refine k_flightX (fr := none) S₂ fun s₃ S₃ => ?_
  conv in tHs => whnf
  refine wpAny_handleBy_builtin_as (X := "ValueError") (T := "ValueError") (b := true) sub_val_base val_nt sub_val_val ?_
  refine r_bname T.B S₃ (v := .type "ValueError") (by decide +kernel) ?_ (T.hN _ (by walk_at "mn"))
  refine ⟨rfl, St.kType S₃, ?_⟩
  rw [if_pos rfl]
  refine k_flightX (fr := none) S₃ fun s₄ S₄ => ?_
  have hH := held_of hcx S₄
  have hAh : (A.mark (some (.ref e))).handled = some (.ref e) := rfl
  have hAu : (A.mark (some (.ref e))).units + 66 < cLine := hu
  generalize A.mark (some (.ref e)) = A' at hAh hAu ⊢
  have S₄' : St b s₄ ((C, frC (flZ pa rw n k dv)) :: (C + 1, celV (vI (sideN n k))) :: (excLK e t T'' "ValueError" [.str (wordsN n k) u] .none (vE cx) ++ (Kx ++ (Dl ++ K)))) G := by
    refine S₄.perm ?_
    have := perm_swap3 [(C, frC (flZ pa rw n k dv)), (C + 1, celV (vI (sideN n k)))] (excLK e t T'' "ValueError" [.str (wordsN n k) u] .none (vE cx) ++ Kx) (Dl ++ K)
    rw [List.append_assoc, List.append_assoc] at this
    exact this
  refine r_store (P := vE (.ref e)) S₄' (by walk_at "mem") rfl (by walk_at "set") (by walk_at "upd") fun s₅ S₅ => ?_
  refine r_seq ?_
  refine wpAny_Return_some ?_
  refine BoolOp_and ?_
  refine wpAny_Compare1 ?_ (by kernel_rfl)
  refine r_nameC (c := C + 1) S₅ (.tail _ (.head _)) fun v hv => ?_
  obtain ⟨t₁, rfl⟩ := hv
  refine r_tup12 S₅ fun tp t₂ t₃ s₆ S₆ => ?_
  refine r_notIn12 S₆ (.head _) ?_
  refine wpAny_truthy_bool ?_
  rw [if_pos (by simp [hs1, hs2])]
  have S₇ := S₆.sub (.cons _ (.refl _))
  refine BoolOp_and ?_
  refine wpAny_Compare1 ?_ (by kernel_rfl)
  refine r_nameI S₇ (.head _) (by walk_at "mn") fun t₄ => ?_
  refine r_int S₇ fun t₅ s₈ S₈ => ?_
  refine PyProof.Rows.ne_int ?_
  refine wpAny_truthy_bool ?_
  rw [if_pos (by simp; omega)]
  refine BoolOp_and ?_
  refine wpAny_Compare1 ?_ (by kernel_rfl)
  refine r_callT1 (T := "str") T.B S₈ (by decide +kernel) ?_ (hfree := T.hN _ (by walk_at "mn"))
  refine r_nameE S₈ (.head _) (by walk_at "mn") ?_
  obtain ⟨oe, hoe, evs, hec, hed, he0, _⟩ := S₈.get (a := e) (.tail _ (.tail _ (.head _)))
  obtain ⟨ot, hot, nt, rfl⟩ := S₈.get (a := t) (.tail _ (.tail _ (.tail _ (.tail _ (.head _)))))
  refine PySem.P.str_of_exc_one F.excStr_ValueError (t0 := t) ?_ ⟨oe, evs, hoe, hec, hed, he0⟩ ⟨_, nt, hot, rfl, rfl⟩ ?_
  · show A'.units + 2 < cLine; omega
  refine r_nameS S₈ (.head _) (by walk_at "mn") fun t₆ => ?_
  refine r_eqS ?_
  refine wpAny_truthy_bool ?_
  rw [if_pos (by simp)]
  refine BoolOp_one ?_
  refine r_sameRows (e := e) (X := (C, frC [(("parts" : Str), vE (.ref pa)), (("rows" : Str), vE (.ref rw)), (("form" : Str), vI k), (("wish" : Str), wishV n k), (("delta" : Str), vE dv), (("words" : Str), vS (wordsN n k)), (("fault" : Str), vE (.ref e))]) :: (C + 1, celV (vI (sideN n k))) :: (excLK e t T'' "ValueError" [.str (wordsN n k) u] .none (vE cx) ++ Kx)) T hAh (hH.more fun p hp => .tail _ (.tail _ hp)) hAu hD hl hrz hrl (.head _) (by walk_at "mn") (by walk_at "mn") S₈ fun s₉ S₉ => ?_
  refine then_ret ?_
  obtain ⟨oC, hoC, hcC⟩ := S₉.get (a := C) (.head _)
  obtain ⟨m, hm, _⟩ := frC_ns hoC hcC
  refine wpAny_nameGoes (by kernel_rfl) hm (by kernel_rfl) fun h' m' hm' hsb => ?_
  exact h _ (((S₉.drop1 hsb.extBut _).sub (List.nil_sublist _)).gsub (List.nil_sublist _))
/-- except TypeError -/
theorem w_type1 {Q : Flow → Shared → Prop} {t T' : Addr} {u : Tok} {cx : Value} {Kx : Ledger} (T : Kit1 b mg mb names fr fp cr cp) (hu : A.units + 66 < cLine) (hfr : A.frames = some [lEnv C f cd]) (hD : Dlt rw rs dv Dl) (hl : (rw, lstS rs) ∈ K) (hrz : ∀ y ∈ rs, Good 5 y) (hrl : rs.length ≤ 100)
    (h7 : k = 7) (hcx : CtxK cx Kx)
    (S : St b s (excLK e t T' "TypeError" [.str msgN u] .none (vE cx) ++ (Kx ++ ((C, frC (flZ pa rw n k dv)) :: (C + 1, celV (vI (sideN n k))) :: (Dl ++ K)))) G)
    (h : ∀ s', St b s' [] [] → Q (.ret (.bool true)) s') :
    wpAny (model prog w) A (noteFrame (.ref e) (lEnv C f cd)) (fun _ s₂ => wpAny (model prog w) A (setFlight (.ref e) none) (fun _ s₃ => wpAny (model prog w) A (handleBy (.ref e) (lEnv C f cd) tHs) Q NoE s₃) NoE s₂) NoE s := by
  have hf : FmsOk [lEnv C f cd] (Kx ++ ((C, frC (flZ pa rw n k dv)) :: (C + 1, celV (vI (sideN n k))) :: (Dl ++ K))) := fun env he => by
    rw [List.mem_singleton] at he
    subst he
    exact ⟨lKindE, rfl, _, List.mem_append_right _ (.head _)⟩
  refine k_noteX S hfr hf fun T'' s₂ S₂ => ?_
  refine k_flightX (fr := none) S₂ fun s₃ S₃ => ?_
  conv in tHs => whnf
  refine wpAny_handleBy_builtin_as (X := "TypeError") (T := "ValueError") (b := false) sub_val_base val_nt sub_ty_val ?_
  refine r_bname T.B S₃ (v := .type "ValueError") (by decide +kernel) ?_ (T.hN _ (by walk_at "mn"))
  refine ⟨rfl, St.kType S₃, ?_⟩
  rw [if_neg Bool.false_ne_true]
  refine wpAny_handleBy_builtin (X := "TypeError") (T := "TypeError") (b := true) sub_ty_base ty_nt sub_ty_ty ?_
  refine r_bname T.B S₃ (v := .type "TypeError") (by decide +kernel) ?_ (T.hN _ (by walk_at "mn"))
  refine ⟨rfl, St.kType S₃, ?_⟩
  rw [if_pos rfl]
  refine k_flightX (fr := none) S₃ fun s₄ S₄ => ?_
  have hH := held_of hcx S₄
  have hAh : (A.mark (some (.ref e))).handled = some (.ref e) := rfl
  have hAu : (A.mark (some (.ref e))).units + 66 < cLine := hu
  generalize A.mark (some (.ref e)) = A' at hAh hAu ⊢
  have S₅ : St b s₄ ((C, frC (flZ pa rw n k dv)) :: (C + 1, celV (vI (sideN n k))) :: (excLK e t T'' "TypeError" [.str msgN u] .none (vE cx) ++ (Kx ++ (Dl ++ K)))) G := by
    refine S₄.perm ?_
    have := perm_swap3 [(C, frC (flZ pa rw n k dv)), (C + 1, celV (vI (sideN n k)))] (excLK e t T'' "TypeError" [.str msgN u] .none (vE cx) ++ Kx) (Dl ++ K)
    rw [List.append_assoc, List.append_assoc] at this
    exact this
  refine r_seq ?_
  refine wpAny_Return_some ?_
  refine BoolOp_and ?_
  refine wpAny_Compare1 ?_ (by kernel_rfl)
  refine r_nameI S₅ (.head _) (by walk_at "mn") fun t₄ => ?_
  refine r_int S₅ fun t₅ s₈ S₈ => ?_
  refine r_eqI ?_
  refine wpAny_truthy_bool ?_
  rw [if_pos (by simp; omega)]
  refine BoolOp_one ?_
  refine r_sameRows (e := e) (X := (C, frC (flZ pa rw n k dv)) :: (C + 1, celV (vI (sideN n k))) :: (excLK e t T'' "TypeError" [.str msgN u] .none (vE cx) ++ Kx)) T hAh (hH.more fun p hp => .tail _ (.tail _ hp)) hAu hD hl hrz hrl (.head _) (by walk_at "mn") (by walk_at "mn") S₈ fun s₉ S₉ => ?_
  refine then_ret ?_
  exact h _ ((S₉.sub (List.nil_sublist _)).gsub (List.nil_sublist _))
end
end Mine

-- part P1o
open PySem PySem.W PySem.W.X PyProof.Rows PySem.Calls PySem.Spec PySem.SeqAt
set_option Elab.async false
set_option maxRecDepth 100000
set_option maxHeartbeats 1000000
set_option linter.all false
namespace Mine
local macro_rules | `(tactic| walk_at "mem") => `(tactic| first | assumption | exact List.Mem.head _ | (refine List.Mem.tail _ ?_; walk_at "mem") | (refine List.mem_append_right _ ?_; walk_at "mem"))
local macro_rules | `(tactic| walk_at "mn") => `(tactic| first | with_reducible exact List.mem_cons_self | ((with_reducible refine List.mem_cons_of_mem _ ?_); walk_at "mn"))
local macro_rules | `(tactic| walk_at "upd") => `(tactic| first | exact Upd.head | ((with_reducible apply Upd.tail); walk_at "upd"))
local macro_rules | `(tactic| walk_at "set") => `(tactic| first | with_reducible exact SetN.nil | ((with_reducible refine SetN.hit ?_); kernel_rfl) | ((with_reducible apply SetN.skip); kernel_rfl; walk_at "set"))
theorem readS_len1 (n : Int) (xs : List Str) : (readS n xs).length ≤ xs.length := by unfold readS; rw [List.length_map]; exact List.length_filter_le _ _
section
variable {prog : Program} {w : World} {A : Around} {E : Value → Shared → Prop} {b s : Shared} {L K : Ledger} {G : GLedger} {mg mb : Str → Option Value} {names : List Str} {C f fr fp pa rw : Addr} {cd cr cp : Value} {n : Int} {k : Nat} {rs : List Str} {dv : Value} {Dl : Ledger}
/-- the try -/
theorem w_try1 {Q : Flow → Shared → Prop} (T : Kit1 b mg mb names fr fp cr cp) (hn : Five n) (hk : k < 8) (hA : Ar A 1) (hu : A.units + 66 < cLine) (hfr : A.frames = some [lEnv C f cd]) (hD : Dlt rw rs dv Dl) (hl : (rw, lstS rs) ∈ K) (hrz : ∀ y ∈ rs, Good 5 y) (hrl : rs.length ≤ 100)
    (S : St b s ((C, frC (flZ pa rw n k dv)) :: (C + 1, celV (vI (sideN n k))) :: (Dl ++ K)) G)
    (hgood : ∀ td s', (sideN n k = 1 ∨ sideN n k = 2) → St b s' ((C, frC (flT pa rw k td)) :: (C + 1, celV (vI (sideN n k))) :: (td, lstS (readS (sideN n k) rs)) :: K) G → Q .next s')
    (hbad : ∀ s', St b s' [] [] → Q (.ret (.bool true)) s') :
    wpC (model prog w) A (exec (lAt 11) (lEnv C f cd)) Q NoE s := by
  have h9 : sizeLine = 16777216 := by decide
  have hlen : ∀ y ∈ rs, y.length ≤ sizeLine := fun y hy => by have := (hrz y hy).1; omega
  conv in lAt 11 => whnf
  (with_reducible refine c_Try ?_)
  (with_reducible refine c_seq ?_)
  (with_reducible refine c_Assign ?_ ?_)
  rotate_left
  · kernel_rfl
  refine c_callT1 (T := "list") T.B S (by decide +kernel) ?_ (hfree := T.hN _ (by walk_at "mn"))
  refine r_callD2 T.B T.Fr S ?_
  refine r_nameE S (.head _) (by walk_at "mn") ?_
  refine r_name S (P := wishV n k) (.head _) (by walk_at "mn") fun v hv => ?_
  refine ⟨⟨_, _, S⟩, ?_⟩
  refine r_restore T.B T.Fr S (by have := hA.depth; omega) fun a Cn g s₁ S₁ => ?_
  replace S₁ : St b s₁ ((a, genC g) :: (Cn, frC (fl0 dv v)) :: (C, frC (flZ pa rw n k dv)) :: (C + 1, celV (vI (sideN n k))) :: (Dl ++ K)) ((g, IsFresh (rEnv Cn fr cr)) :: G) := S₁
  have hf : FmsOk [lEnv C f cd] ((C, frC (flZ pa rw n k dv)) :: (C + 1, celV (vI (sideN n k))) :: (Dl ++ K)) := fun env he => by
    rw [List.mem_singleton] at he
    subst he
    exact ⟨lKindE, rfl, _, .head _⟩
  have hends := ends1 (prog := prog) (w := w) T.B (T.hN _ (by walk_at "mn")) (T.hN _ (by walk_at "mn")) (T.hN _ (by walk_at "mn")) hn hk hv
  cases hends with
  | bad h1 h2 h7 hT =>
    (with_reducible refine k_list_bad (outer := [lEnv C f cd]) (cls := "ValueError") (txt := wordsN n k) T.B hT sub_value_stop hA hfr hf S₁ ?_)
    intro e t T' u cx Kx s₂ hcx S₂
    exact w_value1 T hu hfr hD hl hrz hrl h1 h2 h7 hcx S₂ hbad
  | none h7 hT =>
    (with_reducible refine k_list_bad (outer := [lEnv C f cd]) (cls := "TypeError") (txt := msgN) T.B hT sub_type_stop hA hfr hf S₁ ?_)
    intro e t T' u cx Kx s₂ hcx S₂
    exact w_type1 T hu hfr hD hl hrz hrl h7 hcx S₂ hbad
  | good hs hI h5 =>
    refine wpC_of ?_
    obtain ⟨Lr, L₁, R, hsrc, hDl, hLr⟩ := hD.src (prog := prog) (w := w) (b := b) (d := 0)
    subst hDl
    have hg := gives_fresh (Lr := Lr) (d := 0) (a := a) (C := Cn) (f := fr) (cd := cr) (g := g) (v1 := dv) (v2 := v) T.B (T.hN _ (by walk_at "mn")) hs hI hlen hsrc
    have hz := readS_len1 (sideN n k) rs
    have S₂ : St b s₁ ((a, genC g) :: ((Cn, frC (fl0 dv v)) :: L₁) ++ ((C, frC (flZ pa rw n k dv)) :: (C + 1, celV (vI (sideN n k))) :: (R ++ K))) (((g, IsFresh (rEnv Cn fr cr)) :: []) ++ G) := by
      refine S₁.perm (.cons _ (.cons _ ?_))
      have := perm_swap3 L₁ [(C, frC (flZ pa rw n k dv)), (C + 1, celV (vI (sideN n k)))] (R ++ K)
      rw [List.append_assoc]
      exact this
    refine r_list_gives hg hA (F := (C, frC (flZ pa rw n k dv)) :: (C + 1, celV (vI (sideN n k))) :: (R ++ K)) (GF := G) ?_ S₂ (by omega) fun td s₃ S₃ => ?_
    · intro p hp
      rcases List.mem_append.mp (hLr p hp) with h | h
      · exact .tail _ (.tail _ (List.mem_append_left _ h))
      · rw [List.mem_singleton] at h
        subst h
        exact .tail _ (.tail _ (List.mem_append_right _ hl))
    refine r_store (P := vE (.ref td)) S₃ (.tail _ (.head _)) rfl (by walk_at "set") (.tail .head) fun s₄ S₄ => ?_
    refine c_nextA (wpAny_execs_nil ?_)
    refine wpAny_execs_nil ?_
    refine hgood td s₄ hs ?_
    have S₅ := S₄.sub (L' := (td, lstS (readS (sideN n k) rs)) :: (C, frC [(("parts" : Str), vE (.ref pa)), (("rows" : Str), vE (.ref rw)), (("form" : Str), vI k), (("wish" : Str), wishV n k), (("delta" : Str), vE dv), (("words" : Str), vS (wordsN n k)), (("told" : Str), vE (.ref td))]) :: (C + 1, celV (vI (sideN n k))) :: K) (.cons_cons _ (.cons_cons _ (.cons_cons _ (List.sublist_append_right R K))))
    have S₆ := S₅.perm (L' := (C, frC [(("parts" : Str), vE (.ref pa)), (("rows" : Str), vE (.ref rw)), (("form" : Str), vI k), (("wish" : Str), wishV n k), (("delta" : Str), vE dv), (("words" : Str), vS (wordsN n k)), (("told" : Str), vE (.ref td))]) :: (C + 1, celV (vI (sideN n k))) :: (td, lstS (readS (sideN n k) rs)) :: K) (perm_swap3 [(C, frC [(("parts" : Str), vE (.ref pa)), (("rows" : Str), vE (.ref rw)), (("form" : Str), vI k), (("wish" : Str), wishV n k), (("delta" : Str), vE dv), (("words" : Str), vS (wordsN n k)), (("told" : Str), vE (.ref td))]), (C + 1, celV (vI (sideN n k)))] [(td, lstS (readS (sideN n k) rs))] K)
    exact S₆.less (.head _) .head fun o ho => frC_sub (fun q hq => by
      simp only [List.mem_cons, List.not_mem_nil, or_false] at hq
      rcases hq with rfl | rfl <;> simp) ho
end
end Mine

-- part P1p
open PySem PySem.W PySem.W.X PyProof.Rows PySem.Calls PySem.Spec PySem.SeqAt
set_option Elab.async false
set_option maxRecDepth 100000
set_option maxHeartbeats 1000000
set_option linter.all false
namespace Mine
local macro_rules | `(tactic| walk_at "mem") => `(tactic| first | assumption | exact List.Mem.head _ | (refine List.Mem.tail _ ?_; walk_at "mem") | (refine List.mem_append_right _ ?_; walk_at "mem"))
local macro_rules | `(tactic| walk_at "mn") => `(tactic| first | with_reducible exact List.mem_cons_self | ((with_reducible refine List.mem_cons_of_mem _ ?_); walk_at "mn"))
local macro_rules | `(tactic| walk_at "upd") => `(tactic| first | exact Upd.head | ((with_reducible apply Upd.tail); walk_at "upd"))
local macro_rules | `(tactic| walk_at "set") => `(tactic| first | with_reducible exact SetN.nil | ((with_reducible refine SetN.hit ?_); kernel_rfl) | ((with_reducible apply SetN.skip); kernel_rfl; walk_at "set"))
section
variable {prog : Program} {w : World} {A : Around} {E : Value → Shared → Prop} {b s : Shared} {L K : Ledger} {G : GLedger} {mg mb : Str → Option Value} {names : List Str}
theorem codeC_call_cells {R : Result → Shared → Prop} {a : Addr} {o : Obj} {fd : FuncData} {body : List Stmt} {vals : List Value} {binds : List (Str × Value)}
    (hroom : A.depth < recursionLimit) (ho : s.heap.get? a = some o) (hdata : o.data = .func fd) (hlim : s.heap.NoLimit) (hcd : s.heap.CodeRec fd.code fd.qualname)
    (hbody : fd.body = .stmts body) (hbind : bindArgs fd ⟨vals, []⟩ = pure binds) (hclo : fd.closure = [])
    (hkind : ∀ x ∈ binds, fd.scope.names.lookup x.1 = some .local ∨ (fd.scope.names.lookup x.1 = some .cell ∧ ((cellsFrom (s.heap.objs.size + 1) fd.scope.names []).lookup x.1).isSome = true))
    (h : ∀ s₁, InCallC s (callEnvC fd s.heap.objs.size a).locals (bindL (callEnvC fd s.heap.objs.size a).kindOf binds fun _ => none) (callEnvC fd s.heap.objs.size a).cells
        (bindC (callEnvC fd s.heap.objs.size a).kindOf binds fun _ => none) s₁ →
      wpC (model prog w) (A.deeper (callEnvC fd s.heap.objs.size a)) (execs body (callEnvC fd s.heap.objs.size a)) (fun f s' => R (.ok (.ret (match f with | .ret v => v | _ => .none))) s') NoE s₁)
    (hco : fd.scope.isCoroutine = false) (hgen : fd.scope.isGenerator = false) (hk : fd.scope.kind = .function) :
    codeC (model prog w) A (.call (.ref a) ⟨vals, []⟩) R s := by
  refine codeC_call_function hroom ho hdata hco hgen hbody hcd ?_
  rw [hbind, hclo]
  refine wpAny_pure (wpAny_newFunctionEnv_cells hk hkind fun env he s' x => ?_)
  subst he
  exact ⟨hlim.keeps x.toInCall.keep, codeC_func (wpC_mono (h s' x) (fun _ _ q => q) fun _ _ q => q.elim)⟩
/-- a call of a def with one variable of a block inside, and one argument -/
theorem c_callCell1 {Q : Value → Shared → Prop} {f : Addr} {name x : Str} {params : Arguments} {body : List Stmt} {scope : Scope} {cd v : Value} {y : Str} (B : Bs b mg mb names) (F : FnAt b mg f name params body scope cd) (S : St b s L G) (hroom : A.depth < recursionLimit)
    (hbind : ∀ pm doc, bindArgs (docDef name params body scope pm cd doc) ⟨[v], []⟩ = pure [(x, v)])
    (hloc : scope.names.lookup x = some .local) (hcs : ∀ n, cellsFrom n scope.names [] = [(y, n)])
    (h : ∀ C s', St b s' ((C, frC [(x, vE v)]) :: (C + 1, celN) :: L) G → wpC (model prog w) (A.deeper (envOf1 name params body scope C f cd)) (execs body (envOf1 name params body scope C f cd)) (fun fl s'' => Q (match fl with | .ret v => v | _ => .none) s'') NoE s')
    (hco : scope.isCoroutine = false) (hgen : scope.isGenerator = false) (hk : scope.kind = .function) :
    wpC (model prog w) A (call (.ref f) [v]) Q E s := by
  obtain ⟨o, pm, doc, ho, hd⟩ := F.obj
  have hkf : (callEnvC (docDef name params body scope pm cd doc) s.heap.objs.size f).kindOf x = some .local := hloc
  refine wpC_call (codeC_call_cells hroom (S.keep _ _ ho) hd (B.nolimit.keeps S.keep) (F.code.keeps S.keep) rfl (hbind pm doc) rfl (fun p hp => ?_) (fun s₁ I => ?_) hco hgen hk)
  · rw [List.mem_singleton] at hp
    subst hp
    exact .inl hloc
  · have hns := I.toInCall.ns
    obtain ⟨oC, hoC, hcC⟩ := frC_of (fl := [(x, vE v)]) hns (fun p hp => by
      rw [List.mem_singleton] at hp
      subst hp
      refine ⟨v, ?_, rfl⟩
      unfold bindL bindL
      rw [if_pos hkf]
      simp)
    have hce : (callEnvC (docDef name params body scope pm cd doc) s.heap.objs.size f).cells = [(y, s.heap.objs.size + 1)] := hcs _
    obtain ⟨oy, hoy, hyd⟩ := I.cell y (s.heap.objs.size + 1) (by rw [hce]; simp [List.lookup])
    obtain ⟨h₁, tk, rfl⟩ := I.toInCall.same
    have hkp := I.toInCall.keep
    have hbn : ∀ {a}, s.heap.get? a = none → b.heap.get? a = none := fun {a} e => by
      cases hb : b.heap.get? a with
      | none => rfl
      | some o' => rw [S.keep _ _ hb] at e; cases e
    have hnone : ∀ k, s.heap.get? (s.heap.objs.size + k) = none := fun k => by
      cases hb : s.heap.get? (s.heap.objs.size + k) with
      | none => rfl
      | some o' => exact absurd (Heap.lt_size hb) (Nat.not_lt.mpr (Nat.le_add_right _ _))
    have hlt : ∀ p ∈ L, p.1 < s.heap.objs.size := fun p hp => S.lt hp
    have S₁ : St b { s with heap := h₁, toks := tk } ((s.heap.objs.size, frC [(x, vE v)]) :: (s.heap.objs.size + 1, celN) :: L) G := by
      refine ⟨fun a o e => hkp a o (S.keep a o e), fun p hp => ?_, ?_, S.os, S.bare, S.gens, S.gnodup⟩
      · rcases List.mem_cons.mp hp with rfl | hp
        · exact ⟨hbn (hnone 0), oC, hoC, hcC⟩
        · rcases List.mem_cons.mp hp with rfl | hp
          · exact ⟨hbn (hnone 1), oy, hoy, _, hyd⟩
          · obtain ⟨h1, o', h2, h3⟩ := S.own p hp
            exact ⟨h1, o', hkp _ _ h2, h3⟩
      · simp only [List.map_cons, List.nodup_cons, List.mem_cons, List.mem_map, not_or, not_exists, not_and]
        refine ⟨⟨Nat.ne_of_lt (Nat.lt_succ_self _), fun p hp e => ?_⟩, fun p hp e => ?_, S.nodup⟩
        · exact Nat.ne_of_lt (hlt p hp) e
        · exact Nat.ne_of_lt (Nat.lt_succ_of_lt (hlt p hp)) e
    exact h _ _ S₁

end
end Mine

-- part P1s
open PySem PySem.W PySem.W.X PyProof.Rows PySem.Calls PySem.Spec PySem.SeqAt
set_option Elab.async false
set_option maxRecDepth 100000
set_option maxHeartbeats 1000000
set_option linter.all false
namespace Mine
local macro_rules | `(tactic| walk_at "mem") => `(tactic| first | assumption | exact List.Mem.head _ | (refine List.Mem.tail _ ?_; walk_at "mem") | (refine List.mem_append_right _ ?_; walk_at "mem"))
local macro_rules | `(tactic| walk_at "mn") => `(tactic| first | with_reducible exact List.mem_cons_self | ((with_reducible refine List.mem_cons_of_mem _ ?_); walk_at "mn"))
local macro_rules | `(tactic| walk_at "upd") => `(tactic| first | exact Upd.head | ((with_reducible apply Upd.tail); walk_at "upd"))
local macro_rules | `(tactic| walk_at "set") => `(tactic| first | with_reducible exact SetN.nil | ((with_reducible refine SetN.hit ?_); kernel_rfl) | ((with_reducible apply SetN.skip); kernel_rfl; walk_at "set"))
section
variable {prog : Program} {w : World} {b : Shared} {mg mb : Str → Option Value} {names : List Str} {fr fp : Addr} {cr cp : Value}
theorem law01 {fl : Addr} {cl : Value} {l : Addr} {ivs : List Value} {ns : List Int} {as : List Addr} {Q E : Value → Shared → Prop} (T : Kit1 b mg mb names fr fp cr cp)
    (Fl : FnAt b mg fl "law" lParams lBody lScope cl) (hNS : b.heap.NoSeer)
    (hL : b.heap.IsList l ivs.toArray) (hI : IntsAre ivs ns) (hr : Reads b.heap (.ref l) (.list (ns.map PyData.int)) as) (hlen : ns.length ≤ 63) (S : St b b [] []) (h : ∀ s', St b s' [] [] → Q (.bool true) s') :
    wpC (model PySem.Challenge.pw_dm0050_01 w) callerA (call (.ref fl) [.ref l]) Q E b := by
  refine c_callCell1 (x := "script") (y := "side") T.B Fl S (by decide +kernel) (fun pm doc => rfl) rfl (fun n => by kernel_rfl) (fun C s₁ S₁ => ?_) rfl rfl rfl
  have hA : Ar (callerA.deeper (lEnv C fl cl)) 1 := ⟨rfl, by show callerA.depth + 1 + 1 < recursionLimit; decide +kernel⟩
  have hp : ∀ s : Shared, (∀ a o, b.heap.get? a = some o → s.heap.get? a = some o) → PylongRoom (model PySem.Challenge.pw_dm0050_01 w) (callerA.deeper (lEnv C fl cl)) s := fun s hk =>
    PylongRoom.of (T.B.nolimit.keeps hk) (by show callerA.depth + 1 + Builtin.pylongFrames < recursionLimit; decide +kernel) (SeerAt.of (env := lEnv C fl cl) (l := []) (hNS.keeps hk) rfl rfl rfl rfl rfl rfl)
  have hp2 : ∀ C' (s : Shared), (∀ a o, b.heap.get? a = some o → s.heap.get? a = some o) → PylongRoom (model PySem.Challenge.pw_dm0050_01 w) ((callerA.deeper (lEnv C fl cl)).deeper (pEnv C' fp cp)) s := fun C' s hk =>
    PylongRoom.of (T.B.nolimit.keeps hk) (by show callerA.depth + 2 + Builtin.pylongFrames < recursionLimit; decide +kernel) (SeerAt.of (env := pEnv C' fp cp) (l := [lEnv C fl cl]) (hNS.keeps hk) rfl rfl rfl rfl rfl rfl)
  have hu : (callerA.deeper (lEnv C fl cl)).units + 66 < cLine := by show callerA.units + 3 + 66 < cLine; decide +kernel
  have hfr : (callerA.deeper (lEnv C fl cl)).frames = some [lEnv C fl cl] := rfl
  show wpC _ (callerA.deeper (lEnv C fl cl)) (execs lBody (lEnv C fl cl)) _ _ _
  generalize callerA.deeper (lEnv C fl cl) = A at hA hp hp2 hu hfr ⊢
  replace S₁ : St b s₁ ((C, frC [(("script" : Str), vE (.ref l))]) :: (C + 1, celN) :: []) [] := S₁
  rw [lBody_eq]
  refine c_seqA ?_
  (with_reducible refine w_how hL hI hr hu S₁ ?_)
  intro hw s₂ S₂
  refine c_next ?_
  have hset : ∀ fx : Addr, SetN [(("script" : Str), vE (.ref l)), (("how" : Str), vI hw)] "fixed" (vE (.ref fx)) (flF l fx hw) := fun fx => by walk_at "set"
  refine c_seqA ?_
  (with_reducible refine w_fixed (fl' := fun fx => flF l fx hw) hset S₂ ?_)
  intro fx vs₀ Z₀ s₃ h₀ S₃
  refine c_next ?_
  refine c_seqA ?_
  (with_reducible refine w_parts T hA hp2 hL hI hlen h₀ S₃ ?_)
  intro pa vs ps Z s₄ hT hok hpl S₄
  refine c_next ?_
  have hT' : Trs (Z ++ [(C + 1, celN)]) vs ps := hT.more fun q hq => List.mem_append_left _ hq
  refine c_seqA ?_
  (with_reducible refine w_rows hA hT' hok hpl S₄ ?_)
  intro rw s₅ S₅
  refine c_next ?_
  have S₆ : St b s₅ ((C, frC [(("how" : Str), vI hw), (("parts" : Str), vE (.ref pa)), (("rows" : Str), vE (.ref rw))]) :: (C + 1, celN) :: ((rw, lstS (ps.map rowOf)) :: (pa, lstV vs) :: Z)) [] := by
    refine S₅.perm (.cons _ ?_)
    exact (List.perm_append_comm (l₁ := [(C + 1, celN)]) (l₂ := (rw, lstS (ps.map rowOf)) :: (pa, lstV vs) :: Z))
  refine c_seqA ?_
  (with_reducible refine w_value hp S₆ ?_)
  intro n s₇ hn S₇
  refine c_next ?_
  refine c_seqA ?_
  (with_reducible refine w_form S₇ ?_)
  intro k s₈ hk S₈
  refine c_next ?_
  refine c_seqA ?_
  (with_reducible refine w_wish T hn hk S₈ ?_)
  intro s₉ S₉
  refine c_next ?_
  refine c_seqA ?_
  (with_reducible refine w_side hk S₉ ?_)
  intro s₁₀ S₁₀
  refine c_next ?_
  have hrl : (ps.map rowOf).length ≤ 100 := by rw [List.length_map]; omega
  have hrz : ∀ y ∈ ps.map rowOf, Good 5 y := fun y hy => by
    obtain ⟨p, hp, rfl⟩ := List.mem_map.mp hy
    exact row_good (hok p hp)
  have hm0 : (rw, lstS (ps.map rowOf)) ∈ (rw, lstS (ps.map rowOf)) :: (pa, lstV vs) :: Z := .head _
  refine c_seqA ?_
  (with_reducible refine w_delta T hp hrl hm0 S₁₀ ?_)
  intro dv Dl s₁₁ hD S₁₁
  refine c_next ?_
  refine c_seqA ?_
  (with_reducible refine w_words T hn hk S₁₁ ?_)
  intro s₁₁' S₁₁'
  refine c_next ?_
  refine c_seqA ?_
  (with_reducible refine w_words6 T hn hk S₁₁' ?_)
  intro s₁₂ S₁₂
  refine c_next ?_
  have hm1 : (pa, lstV vs) ∈ (rw, lstS (ps.map rowOf)) :: (pa, lstV vs) :: Z := .tail _ (.head _)
  have hT2 : Trs ((rw, lstS (ps.map rowOf)) :: (pa, lstV vs) :: Z) vs ps := hT.more fun q hq => .tail _ (.tail _ hq)
  refine c_seq ?_
  (with_reducible refine w_try1 (rs := ps.map rowOf) (K := (rw, lstS (ps.map rowOf)) :: (pa, lstV vs) :: Z) T hn hk hA hu hfr hD hm0 hrz hrl S₁₂ ?_ ?_)
  · intro td s₁₃ hs S₁₃
    refine c_nextA ?_
    refine r_seq ?_
    (with_reducible refine w_last (rw := rw) (k := k) hA hu hs hok hpl hm1 hT2 S₁₃ ?_)
    intro s' S'
    exact then_ret (h s' S')
  · intro s' S'
    exact h s' S'
end
end Mine

-- part CH
open PySem PySem.W PySem.Calls PyProof.Rows
set_option Elab.async false
set_option maxRecDepth 100000
set_option linter.all false
namespace Mine
/-! A head for a walk that leans on the caller below. The library's heads take a walk at every context that `callerA` admits; this one takes a walk at those of them that have the caller below, which is where the row's call in truth stands. -/
section
variable {r : OpenRow} {q : Program} {loose : List Str} {Xt : Shared → Bool} {XP : (Str → Option Value) → Heap → Prop} {α : Type} {Yf : Shared → α} {Ya : World → α} {YP : World → Heap → Prop} {d : DefRec} {kwd : List (Str × PySem.Expr)} {N : Nat}
abbrev lawTree (name : Str) (vs : List Value) : Sem Fin := do match ← nsGet mainNs name with
      | some f => do ret (← PySem.call f vs)
      | none => unsupported "claim.caller:no-such-global"
/-- what the walk owes: the call of the law, at contexts with the caller below -/
abbrev WalkC (q : Program) (loose : List Str) (XP : (Str → Option Value) → Heap → Prop) (YP : World → Heap → Prop) (r : RowW) (d : DefRec) (kwd : List (Str × PySem.Expr)) : Prop :=
  ∀ (w : World) (s₀ s₁ : Shared) (mg mb : Str → Option Value), Ground q loose r.records XP w s₀ mg mb s₁.heap → YP w s₁.heap → ∀ (a : Addr) (o : Obj) (pm cd doc dV kV : Value), s₁.heap.get? a = some o →
    o.data = .func { docDef d.name d.params d.body d.scope pm cd doc with defaults := dV, kwdefaults := kV } → s₁.heap.CodeRec cd d.name → Dflts mg s₁.heap d.params kwd dV kV → mg d.name = some (.ref a) → s₁.gens = #[] →
    ∀ (args : List WData) (vals : List Value) (as : List Addr), r.claim.pre args = true → WData.layableAll args = true → ReadsAllW r.records (classAt s₀.heap) s₁.heap vals args as → WellAll w.params s₁.heap vals args → (∀ a ∈ as, (a == sysModules) = false) →
      wpC (model r.prog w) callerA (PySem.call (.ref a) vals) (fun v s' => GoodWG r.claim (classAt s₀.heap) (ExcName.means s₀.heap) args s₁ (.ok (.ret v)) s')
        (fun e s' => GoodWG r.claim (classAt s₀.heap) (ExcName.means s₀.heap) args s₁ (.error e) s') s₁
/-- a thread that starts at the caller ends as its walk says -/
theorem ends_c {prog : Program} {w : World} {t : Sem Fin} {s : Shared} {R : Result → Shared → Prop} (hz : s.asleep)
    (h : wpC (model prog w) callerA t (fun fin s' => ∃ f, fin = .done f ∧ (R (.ok f) s' ∧ AllBare s'.gens)) (fun e s' => R (.error e) s' ∧ AllBare s'.gens) s) :
    ∃ n r s' s'', runN (denote table) prog w n s ⟨t, .builtin "claim.caller" {}, default, []⟩ = .halted (outcomeOf r) s' ∧
      schedN (denote table) prog w n (.single s ⟨t, .builtin "claim.caller" {}, default, []⟩) = .halted (outcomeOf r) s' ∧ s'.forget = s''.forget ∧ R r s'' := by
  have h0 := h _ default caller_in rfl
  obtain ⟨n, r, s₁, s₂, hs, hn, hfo, hR⟩ := wp_halts_full (M := model prog w) (R := R) hz (Sem.wp_mono _ _ t (fun fin _ s' h' => by
    obtain ⟨f, rfl, h1, h2⟩ := h'
    exact (⟨h1, leftWithCleanup_false_of_bare h2⟩ : _ ∧ _)) (fun _ _ _ h' => (⟨h'.1, leftWithCleanup_false_of_bare h'.2⟩ : _ ∧ _)) default s h0)
  exact ⟨n, r, s₂, s₁, hn, hs, hfo, hR⟩
abbrev keptBy (r : OpenRow) (s : Shared) (h' : Heap) : Prop := namesKept r.toRowW.claim.prog r.keeps s.heap h' ∧ ∀ x ∈ r.toRowW.claim.records, ∀ a, classAt s.heap x.1 = some a → recordClass h' a x.1 (x.2.map (·.1)) = true
/-- the head's line (`o_head`) names its head by the library's full name; inside this namespace that name means this theorem. -/
theorem PySem.W.holds_open (left : LeftO r.prog q loose Xt Yf Ya N) (hY : ∀ w s, Yf s = Ya w → YP w s.heap) (hYk : ∀ w h h', YP w h → (∀ b o, h.get? b = some o → h'.get? b = some o) → YP w h')
    (hX : ∀ s, Xt s = true → XP (s.heap.nsMap mainGlobals) s.heap) (hXk : ∀ mg h h', XP mg h → (∀ b o, h.get? b = some o → h'.get? b = some o) → XP mg h')
    (hdef : defOf q r.name = some (d, kwd)) (hp : r.prog.theDef r.name = some (d.params, d.body, d.scope)) (hk : kwWritten? d.params.kwonlyargs d.params.kw_defaults = some kwd) (hRf : ∀ s, Xt s = true → RecFacts r.records s.heap) (hwr : (!r.writes || r.records.isEmpty) = true)
    (k1 : r.wellSaid = true) (ok : (chainsOk q && opensWell r.prog && (frees r.toRowW && r.within.isEmpty)) = true) (hb : r.prog.bare) (hw : r.toRowW.promised)
    (call : WalkC q loose XP YP r.toRowW d kwd) : r.Holds := by
  have ok' : (chainsOk q = true ∧ opensWell r.prog = true) ∧ frees r.toRowW = true ∧ r.within.isEmpty = true := by simpa only [Bool.and_eq_true] using ok
  obtain ⟨⟨hch, how⟩, hfr, hwn⟩ := ok'
  obtain ⟨hsame, hu, ha, hap, hm⟩ := frees_parts hfr
  have hwi : r.toRowW.claim.within = [] := List.isEmpty_iff.mp hwn
  refine ⟨k1, hw, ⟨⟨hb, how, by show r.toRowW.makers.map _ = []; rw [hm]; rfl⟩, hw.witness, fun w => ⟨(left.behind hX hch w).1, fun sI hI => ?_⟩⟩⟩
  obtain ⟨s₀, hf, hg0, s, hT, hz, hge, hns, GX, hy⟩ := (left.behind (XP := fun mg h => XP mg h ∧ RecFacts r.toRowW.records h) (fun s e => ⟨hX s e, hRf s e⟩) hch w).2 sI hI
  have G0 : Ground q loose [] XP w s (s.heap.nsMap mainGlobals) (s.heap.nsMap builtinsNs) s.heap := { GX with X := GX.X.1 }
  have G := GX.X.2.ground G0
  have hge : s.gens = #[] := Array.eq_empty_of_size_eq_zero (beq_iff_eq.mp hge)
  refine ⟨s₀, hf, hg0, s, hT, fun n hn => ?_, GX.X.2.1, GX.X.2.2.1, fun args hpre hlay ord hord => ?_⟩
  · obtain rfl : n = r.name := by split at hn <;> simp_all
    exact pinned_of_view hns G0 hdef hp hk
  obtain ⟨⟨vs, s₁⟩, hl⟩ := Option.isSome_iff_exists.mp (layAllW_isSome (P := w.params) (ord := ord) G.has args r.toRowW.args s (pre_splitW hpre).1)
  have hr := layAllW_rest _ _ _ hl
  have hkeep := layAllW_keeps _ _ _ hl
  obtain ⟨as, hrd, hin, hold⟩ := reads_layAllW hord _ _ _ hl hlay s₁.heap (fun _ _ e => e)
  have L : Laid r.toRowW.records w s s₁ args vs as := ⟨⟨ord, hord, hl⟩, hrd, hin, hold, hkeep, hr.1.trans hge, hr.2.2.1⟩
  have G1 := G.keeps hXk hkeep
  obtain ⟨fa, fo, pm, cd, doc, dV, kV, f1, f2, f3, f4, f5⟩ := G1.fn hdef
  have body := call w s s₁ _ _ G1 (hYk _ _ _ (hY w s hy) hkeep) fa fo pm cd doc dV kV f2 f3 f4 f5 (defOf_name hdef ▸ f1) L.gens args vs as hpre hlay L.reads L.well (L.low G.low)
  have fin : ∀ {x : Result} {s' : Shared}, GoodWG r.toRowW.claim (classAt s.heap) (ExcName.means s.heap) args s₁ x s' → (r.toRowW.claim.Ends s args vs s₁ x s' ∧ s'.os = s.os ∧ (r.writes = true → keptBy r s s'.heap)) ∧ AllBare s'.gens := fun g =>
    have z := g.laid (c := r.toRowW.claim) hsame hwi (ident_freeW hu ha hap) L
    ⟨⟨z.1, z.2.1, fun q => ⟨namesKept_of hT hns r.keeps hkeep g.2.1.old, noTable hwr q⟩⟩, z.2.2⟩
  obtain ⟨n, x, s', s'', hrun, hsch, hfo, he, hos, hkp⟩ := ends_c (prog := r.prog) (w := w) (t := lawTree r.name vs) (R := fun x s' => r.toRowW.claim.Ends s args vs s₁ x s' ∧ s'.os = s.os ∧ (r.writes = true → keptBy r s s'.heap)) (Shared.asleep_of_life hr.2.2.2 hz)
    (wpC_then (wpAny_nsGet G1.T.g (by rw [f1]; exact wpC_first (wpC_mono body (fun v s' g => wpAny_pure ⟨_, rfl, fin g⟩) fun e s' g => fin g))))
  obtain ⟨eh, _, _, eo, _⟩ := Shared.forget_eq hfo
  have he := ClaimW.Ends.congr eh he
  refine ⟨vs, s₁, hl, n, _, s', hsch, ?_, fun _ i y hy => ?_, fun q => eh ▸ hkp q, by rw [(runN_life _ _ _ hrun).trans hr.2.2.2], Shared.rest_eq (eo.trans hos)⟩
  · rcases he with ⟨v, rfl, d1, d2, d3, d4, d5⟩ | ⟨e, ob, cls, rfl, d1, d2, d3, d4, d5⟩
    · exact .inl ⟨v, rfl, d1, d2, d3, fun b o y _ => d4 b o y, d5⟩
    · exact .inr ⟨e, ob, cls, rfl, d1, d2, d3, d4, fun b o y _ => d5 b o y⟩
  · rw [hge] at hy; simp at hy
end
end Mine

-- part HC01
open PySem PySem.W PyProof.Rows
set_option Elab.async false
namespace Mine
set_option maxRecDepth 100000
set_option maxHeartbeats 8000000
open_top hd for PySem.Challenge.rw_dm0050_01
end Mine

-- part P1z
open PySem PySem.W PySem.W.X PyProof.Rows PySem.Calls PySem.Spec PySem.SeqAt
set_option Elab.async false
set_option maxRecDepth 100000
set_option maxHeartbeats 4000000
set_option linter.all false
namespace Mine
theorem holds : PySem.Challenge.rw_dm0050_01.Holds := hd (by
  k_fill
  intro w s₀ s₁ mg mb G Y fa o pm cd doc dV kV ho hd hcd hD hmg hg args vals as hpre hlay hrd hwl hlo
  refine Ground.open G ?_
  intro T B D TE TW
  wrow_args hpre hlay hrd hwl hlo
  rename_i hL _ _ r0 hI _ hlen _
  obtain ⟨fr, cr, Fr⟩ := fnAt_of T (name := "restore") (params := rParams) (body := rBody) (scope := rScope) ⟨_, List.mem_of_getElem? (i := 0) rfl, rfl, rfl, rfl, rfl⟩
  obtain ⟨fp, cp, Fp⟩ := fnAt_of T (name := "_law_parts") (params := pParams) (body := pBody) (scope := pScope) ⟨_, List.mem_of_getElem? (i := 1) rfl, rfl, rfl, rfl, rfl⟩
  obtain ⟨fl, cl, Fl⟩ := fnAt_of T (name := "law") (params := lParams) (body := lBody) (scope := lScope) ⟨_, List.mem_of_getElem? (i := 2) rfl, rfl, rfl, rfl, rfl⟩
  obtain rfl : fl = fa := by
    have := Fl.at_.symm.trans hmg
    cases this; rfl
  refine law01 ⟨bs_of T, by decide +kernel, Fr, Fp⟩ Fl (T.seer (by decide +kernel)) hL hI r0 (by omega) ?_ ?_
  · exact ⟨fun _ _ e => e, fun _ h => (nomatch h), List.Pairwise.nil, rfl, .of_eq hg, fun _ h => (nomatch h), List.Pairwise.nil⟩
  · intro s' S'
    exact ⟨.inl ⟨_, .bool true, [], rfl, fun _ => rfl, .bool true, by kernel_rfl, fun _ => ⟨List.Pairwise.nil, fun _ h => (nomatch h)⟩⟩, .of_keep S'.keep, S'.os, S'.bare⟩)
end Mine

open PySem PySem.W PyProof.Rows
theorem PySem.Challenge.cw_dm0050_01_holds : PySem.Challenge.rw_dm0050_01.Holds :=
  Mine.holds
